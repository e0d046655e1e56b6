import Derived.Test.YtbghmbbhkoniiaaB6
section
/- MapBuild. -/
set_option maxRecDepth 100000
set_option maxHeartbeats 4000000
set_option linter.unusedSimpArgs false
set_option linter.unusedVariables false
set_option linter.unusedSectionVars false
namespace Go.Proofs.Ytbghmbbhkoniiaa.I
open Go.Vc Go.Proofs Go.Proofs.Ytbghmbbhkoniiaa Go.Vc.Nd
variable {w w' wz wy : World} {v hv : Value} {t t' : Tr} {F F' G : Nat → Prop} {K : Value → World → Prop} {Kp : KP} {hash : Ky → Nat} {k : Ky} {x : Vl} {l s rb md ml sh bb bm vb g : Nat} {r0 mu nl : Bool}

/-- The builder at work, with the places for what is told. -/
def Wk (w wz : World) (bb bm vb g : Nat) (hash : Ky → Nat) (nl : Bool) (t : Tr) (F : Nat → Prop) : Prop :=
  Frm (fun _ => False) w wz ∧ vb < wz.heap.size ∧ Bld wz g hash nl t F ∧ wz.heap[bb]? = some (.cells #[.int .i64 0, .slice none 0 0] 41 (0, 0)) ∧ wz.heap[bm]? = some (.cells #[.int .i64 0, .slice none 0 0] 41 (0, 0)) ∧ wz.heap[vb]? = some (.cells #[ptr g] 120 (0, 0)) ∧
    (∀ c, c = g ∨ F c → w.heap.size ≤ c ∧ c ≠ bb ∧ c ≠ bm ∧ c ≠ vb) ∧ bb < vb ∧ bm < vb
theorem Wk.put (h : Wk w wz bb bm vb g hash nl t F) (k : Frm (fun c => c = g ∨ F c) wz wy) (b : Bld wy g hash nl t' F') (hF : ∀ c, F' c → (F c ∨ wz.heap.size ≤ c) ∧ c < wy.heap.size) : Wk w wy bb bm vb g hash nl t' F' := by
  obtain ⟨h1, h2, h3, h4, h5, h6, h7, h8, h9⟩ := h
  have := k.size
  have := h1.size
  refine ⟨h1.old k fun c hc => .inr (h7 c hc).1, by omega, b, k.get h4 fun h => (h7 _ h).2.1 rfl, k.get h5 fun h => (h7 _ h).2.2.1 rfl, k.get h6 fun h => (h7 _ h).2.2.2 rfl, fun c hc => ?_, h8, h9⟩
  rcases hc with rfl | hc
  · exact h7 _ (.inl rfl)
  · rcases (hF c hc).1 with h | h
    · exact h7 _ (.inr h)
    · omega
theorem Wk.frame {M : Nat → Prop} (h : Wk w wz bb bm vb g hash nl t F) (k : Frm M wz wy) (hM : ∀ c, M c → wz.heap.size ≤ c) : Wk w wy bb bm vb g hash nl t F := by
  obtain ⟨h1, h2, h3, h4, h5, h6, h7, h8, h9⟩ := h
  have := k.size
  have hz := h1.size
  have hg := h3.lt
  have hFl : ∀ c, F c → c < wz.heap.size := by obtain ⟨_, _, _, _, h⟩ := h3; exact h
  have hg' : ¬ M g := fun h => by have := hM _ h; omega
  have hF' : ∀ c, F c → ¬ M c := fun c hc h => by have := hM _ h; have := hFl c hc; omega
  have hb1 : ¬ M bb := fun h => by have := hM _ h; omega
  have hb2 : ¬ M bm := fun h => by have := hM _ h; omega
  have hb3 : ¬ M vb := fun h => by have := hM _ h; omega
  exact ⟨h1.old k fun c hc => .inr (by have := hM c hc; omega), by omega, h3.frame k hF' hg', k.get h4 hb1, k.get h5 hb2, k.get h6 hb3, h7, h8, h9⟩
theorem Wk.off (h : Wk w wz bb bm vb g hash nl t F) : ∀ c, c = g ∨ F c → c < wz.heap.size := fun c hc => by
  obtain ⟨h1, h2, h3, h4, h5, h6, h7, h8, h9⟩ := h
  rcases hc with rfl | hc
  · exact h3.lt
  · obtain ⟨_, _, _, _, h⟩ := h3; exact h c hc
theorem counted_ok {n : Int} (h : n ≤ 100000) (hK : K (.int .i64 n) w) : Calls Try.prog 59 #[.int .i64 n] w (ret K Kp) := by
  refine vc59_calls ?_
  simp [-getElem?_pos, -Array.getElem?_eq_getElem, List.getElem?_cons_zero, List.getElem?_cons_succ, -Int.natCast_add, add_spot, and_assoc, Br_dec, -op_box, -op_lit_65_1, -op_lit_49_1, -op_alloc_41, -op_st_41, -op_alloc_120, -op_st_120, -op_alloc_35, -op_st_35, vc59]
  exact ⟨fun h => by omega, fun _ => hK⟩
theorem mapBuild_ok {a1 a3 : Option Addr} {c1 c3 : Nat} {steps : List MStep} {keys : List Int} (h1 : Row w a1 (steps.flatMap MStep.cells)) (hfit : MFit steps) (hc : mcost steps ≤ 900000) (h3 : Row w a3 (keys.flatMap i1)) (hn : keys.length < 2 ^ 31)
    (hK : ∀ p1 p2 l1 l2 w', Frm (fun _ => False) w w' → IsPairs w' p1 (toL (lineT (hashOf md ml sh) steps)) → IsPairs w' p2 (toL (lineT (hashOf md ml sh) steps)) → FRow i1 w' w.heap.size 2 1 l1 (keys.map (valOf (lineM steps))) → FRow b1 w' w.heap.size 4 1 l2 (keys.map (hasOf (lineM steps))) → (∀ b, p1.ownBlock = some b ∨ p2.ownBlock = some b → w.heap.size ≤ b ∧ b < w'.heap.size) →
      K (.tuple #[.agg #[.int .i64 (toL (lineT (hashOf md ml sh) steps)).length, p1], .agg #[.int .i64 (toL (lineT (hashOf md ml sh) steps)).length, p2], l1, l2, .bool true]) w') :
    Calls Try.prog 31 #[hval md ml sh, .slice a1 steps.length c1, .slice a3 keys.length c3] w (ret K Kp) := by
  have hcl : steps.length ≤ mcost steps := by
    clear h1 hfit hc hK
    induction steps with
    | nil => simp
    | cons s l ih => simp only [mcost, List.map_cons, List.sum_cons, List.length_cons, MStep.cost] at ih ⊢; omega
  have hlt := hashOf_lt md ml sh
  have hIs := line_is hlt steps
  have hsz := fun i => line_size hlt (steps.take i)
  refine vc31_calls ?_
  simp only [vc31]
  refine op_box_ok fun w1 k1 z1 b1' => ?_
  simp only [hval, cells_agg] at b1'
  have hx3 : (#[Value.int .u32 (md : Int), .int .u32 (ml : Int), .int .u8 (sh : Int)] : Array Value).extract 0 3 = #[.int .u32 md, .int .u32 ml, .int .u8 sh] := rfl
  refine op_alloc_ok (z := .agg #[.int .i64 0, .slice none 0 0]) (by kernel_rfl) fun w2 k2 z2 b2 => ?_
  simp only [cells_agg] at b2
  refine op_alloc_ok (z := .agg #[.int .i64 0, .slice none 0 0]) (by kernel_rfl) fun w3 k3 z3 b3 => ?_
  simp only [cells_agg] at b3
  have b13 := k3.get (k2.get b1' fun h => h) fun h => h
  have b23 := k3.get b2 fun h => h
  try simp [-getElem?_pos, -Array.getElem?_eq_getElem, List.getElem?_cons_zero, List.getElem?_cons_succ, -Int.natCast_add, add_spot, and_assoc, Br_dec, -op_box, -op_lit_65_1, -op_lit_49_1, -op_alloc_41, -op_st_41, -op_alloc_120, -op_st_120, -op_alloc_35, -op_st_35, b13, hx3]
  refine hasher_ok (md := md) (ml := ml) (sh := sh) fun h w4 k4 o4 hh4 => ?_
  try simp [-getElem?_pos, -Array.getElem?_eq_getElem, List.getElem?_cons_zero, List.getElem?_cons_succ, -Int.natCast_add, add_spot, and_assoc, Br_dec, -op_box, -op_lit_65_1, -op_lit_49_1, -op_alloc_41, -op_st_41, -op_alloc_120, -op_st_120, -op_alloc_35, -op_st_35, ]
  refine bnew_ok hh4 o4 fun w5 k5 v5 => ?_
  try simp [-getElem?_pos, -Array.getElem?_eq_getElem, List.getElem?_cons_zero, List.getElem?_cons_succ, -Int.natCast_add, add_spot, and_assoc, Br_dec, -op_box, -op_lit_65_1, -op_lit_49_1, -op_alloc_41, -op_st_41, -op_alloc_120, -op_st_120, -op_alloc_35, -op_st_35, ]
  refine op_alloc_ok (z := .pointer none) (by kernel_rfl) fun w6 k6 z6 b6 => ?_
  have b6 : w6.heap[w5.heap.size]? = some (.cells #[.pointer none] 120 (0, 0)) := b6
  try simp [-getElem?_pos, -Array.getElem?_eq_getElem, List.getElem?_cons_zero, List.getElem?_cons_succ, -Int.natCast_add, add_spot, and_assoc, Br_dec, -op_box, -op_lit_65_1, -op_lit_49_1, -op_alloc_41, -op_st_41, -op_alloc_120, -op_st_120, -op_alloc_35, -op_st_35, ]
  refine op_store_ok (by kernel_rfl) b6 (by simp [ptr]) rfl fun w7 k7 z7 b7 => ?_
  have b7 : w7.heap[w5.heap.size]? = some (.cells #[ptr (w4.heap.size + 1)] 120 (0, 0)) := by simpa using b7
  have n1 := k1.size
  have n4 := k4.size
  have n5 := k5.size
  have g5 := v5.lt
  have k07 : Frm (fun _ => False) w w7 := (((((k1.no k2).no k3).no k4).no k5).no k6).old k7 fun c hc => .inr (by omega)
  have k57 : Frm (fun _ => False) w5 w7 := k6.old k7 fun c hc => .inr (by omega)
  have k37 : Frm (fun _ => False) w3 w7 := (k4.no k5).no k57
  have hW : Wk w w7 w1.heap.size w2.heap.size w5.heap.size (w4.heap.size + 1) (hashOf md ml sh) (decide (md = 0)) .emp (· = w4.heap.size) :=
    ⟨k07, by omega, v5.frame k57 (fun _ _ h => h) (fun h => h), k37.get b23 fun h => h, k37.get b3 fun h => h, b7, fun c hc => by rcases hc with hc | hc <;> omega, by omega, by omega⟩
  generalize hbb : w1.heap.size = bb at *
  generalize hbm : w2.heap.size = bm at *
  generalize hvb : w5.heap.size = vb at *
  generalize hg : w4.heap.size + 1 = g at *
  generalize hF0 : (· = w4.heap.size) = F0 at *
  clear v5 b7 b6 b23 b13 b3 k6 k7 hh4 k57 k37 b1' b2
  obtain ⟨I, hI⟩ : ∃ I : Value → World → Prop, ∀ v wl, I v wl ↔ ∃ (i : Nat) (F : Nat → Prop), v = .int .i64 i ∧ i ≤ steps.length ∧ Wk w wl bb bm vb g (hashOf md ml sh) (decide (md = 0)) (lineT (hashOf md ml sh) (steps.take i)) F := ⟨_, fun _ _ => Iff.rfl⟩
  refine Lp.intro I (fun v _ => steps.length - natOf v) ⟨(hI _ _).2 ⟨0, F0, rfl, by omega, hW⟩, ?_⟩
  intro wl v hl
  obtain ⟨i, F, rfl, hi, hWl⟩ := (hI _ _).1 hl
  have kl := hWl.1
  have hoff := hWl.off
  have bvb := hWl.2.2.2.2.2.1
  have hvlt := hWl.2.1
  simp only [op_lss, Br_dec]
  refine ⟨fun hlt' => ?_, fun hnl' => ?_⟩
  · have hi' : i < steps.length := by omega
    have htk : steps.take (i + 1) = steps.take i ++ [steps[i]] := List.take_succ_eq_append_getElem hi'
    have hct := mcost_take steps (i + 1)
    rw [htk, mcost_snoc] at hct
    obtain ⟨f1, f2, f3, f4, f5⟩ := hfit i hi'
    obtain ⟨bp, o, cs, e, fz, rfl, hcs, hsz', hext⟩ := (h1.frame kl (fun _ _ h => h)).part mcells_len (by decide) hi'
    have hsi := hsz i
    have hcost : (steps[i]).cost = 1 + (steps[i]).count.toNat := rfl
    have hnext : lineT (hashOf md ml sh) (steps.take (i + 1)) = trieStep (hashOf md ml sh) (lineT (hashOf md ml sh) (steps.take i)) steps[i] := by rw [htk, lineT_snoc]
    generalize hst : steps[i] = s at *
    try simp [-getElem?_pos, -Array.getElem?_eq_getElem, List.getElem?_cons_zero, List.getElem?_cons_succ, -Int.natCast_add, add_spot, and_assoc, Br_dec, -op_box, -op_lit_65_1, -op_lit_49_1, -op_alloc_41, -op_st_41, -op_alloc_120, -op_st_120, -op_alloc_35, -op_st_35, hcs, hsz', hext]
    refine ⟨hi', ?_⟩
    refine op_alloc_ok (z := .agg #[.int .u8 0, .int .i64 0, .int .i64 0, .int .i64 0, .int .i64 0]) (by kernel_rfl) fun w8 k8 z8 b8 => ?_
    simp only [cells_agg] at b8
    refine op_storeN_ok (n := 5) (by kernel_rfl) b8 rfl (by decide) (by simp [MStep.cells]) fun w9 k9 z9 b9 => ?_
    have b9 : w9.heap[wl.heap.size]? = some (.cells #[.int .u8 s.kind, .int .i64 s.fro, .int .i64 s.key, .int .i64 s.value, .int .i64 s.count] 35 (0, 0)) := by
      rw [ow_all (by simp [MStep.cells])] at b9; simpa [MStep.cells] using b9
    have k89 : Frm (fun _ => False) wl w9 := k8.old k9 fun c hc => .inr (by omega)
    have n89 := k89.size
    have hW9 := hWl.frame k89 fun _ h => h.elim
    have bv9 := k89.get bvb fun h => h
    generalize hsb : wl.heap.size = sb at *
    have hdone : ∀ {wy : World} {t' : Tr} {F' : Nat → Prop}, t' = trieStep (hashOf md ml sh) (lineT (hashOf md ml sh) (steps.take i)) s → Wk w wy bb bm vb g (hashOf md ml sh) (decide (md = 0)) t' F' → I (.int .i64 ((i : Int) + 1)) wy := fun {wy t' F'} he hw => by
      subst he
      refine (hI _ _).2 ⟨i + 1, F', by simp, by omega, ?_⟩
      rw [hnext]; exact hw
    have hmu : steps.length - (i + 1) < steps.length - i := by omega
    have hdef := defHasher_ok
    have hew : IntKind.i64.wrap ((i : Int) + 1) = (i : Int) + 1 := wrap_i64_small (by omega) (by omega)
    have hnat : natOf (.int .i64 ((i : Int) + 1)) = i + 1 := by simp only [natOf]; omega
    have hnat0 : natOf (.int .i64 (i : Int)) = i := by simp only [natOf]; omega
    have hkind : s.kind = 0 ∨ s.kind = 1 ∨ s.kind = 2 ∨ s.kind = 3 := by omega
    rcases hkind with hk | hk | hk | hk
    · try simp [-getElem?_pos, -Array.getElem?_eq_getElem, List.getElem?_cons_zero, List.getElem?_cons_succ, -Int.natCast_add, add_spot, and_assoc, Br_dec, -op_box, -op_lit_65_1, -op_lit_49_1, -op_alloc_41, -op_st_41, -op_alloc_120, -op_st_120, -op_alloc_35, -op_st_35, b9, hk, bv9]
      refine bset_ok (k := s.key) (x := s.value) hdef hW9.2.2.1 (by omega) fun wy F' ky vy hy => ?_
      try simp [-getElem?_pos, -Array.getElem?_eq_getElem, List.getElem?_cons_zero, List.getElem?_cons_succ, -Int.natCast_add, add_spot, and_assoc, Br_dec, -op_box, -op_lit_65_1, -op_lit_49_1, -op_alloc_41, -op_st_41, -op_alloc_120, -op_st_120, -op_alloc_35, -op_st_35, hew]
      rw [hnat, hnat0]
      exact ⟨hdone (by simp only [trieStep, hk]) (hW9.put ky vy hy), hmu⟩
    · try simp [-getElem?_pos, -Array.getElem?_eq_getElem, List.getElem?_cons_zero, List.getElem?_cons_succ, -Int.natCast_add, add_spot, and_assoc, Br_dec, -op_box, -op_lit_65_1, -op_lit_49_1, -op_alloc_41, -op_st_41, -op_alloc_120, -op_st_120, -op_alloc_35, -op_st_35, b9, hk, bv9]
      refine bdel_ok (k := s.key) hW9.2.2.1 (by omega) fun wy F' ky vy hy => ?_
      try simp [-getElem?_pos, -Array.getElem?_eq_getElem, List.getElem?_cons_zero, List.getElem?_cons_succ, -Int.natCast_add, add_spot, and_assoc, Br_dec, -op_box, -op_lit_65_1, -op_lit_49_1, -op_alloc_41, -op_st_41, -op_alloc_120, -op_st_120, -op_alloc_35, -op_st_35, hew]
      rw [hnat, hnat0]
      exact ⟨hdone (by simp only [trieStep, hk]) (hW9.put ky vy hy), hmu⟩
    · try simp [-getElem?_pos, -Array.getElem?_eq_getElem, List.getElem?_cons_zero, List.getElem?_cons_succ, -Int.natCast_add, add_spot, and_assoc, Br_dec, -op_box, -op_lit_65_1, -op_lit_49_1, -op_alloc_41, -op_st_41, -op_alloc_120, -op_st_120, -op_alloc_35, -op_st_35, b9, hk]
      obtain ⟨I2, hI2⟩ : ∃ I2 : Value → World → Prop, ∀ v wz, I2 v wz ↔ ∃ (j : Nat) (F2 : Nat → Prop), v = .int .i64 j ∧ (j : Int) ≤ s.count ∧ wz.heap[sb]? = some (.cells #[.int .u8 s.kind, .int .i64 s.fro, .int .i64 s.key, .int .i64 s.value, .int .i64 s.count] 35 (0, 0)) ∧ (∀ c, c = g ∨ F2 c → c ≠ sb) ∧ w9.heap.size ≤ wz.heap.size ∧ Wk w wz bb bm vb g (hashOf md ml sh) (decide (md = 0)) (setN (hashOf md ml sh) s.key s.value (lineT (hashOf md ml sh) (steps.take i)) j) F2 := ⟨_, fun _ _ => Iff.rfl⟩
      refine Lp.intro I2 (fun v _ => s.count.toNat - natOf v) ⟨(hI2 _ _).2 ⟨0, F, rfl, by omega, b9, fun c hc => by have := hoff c hc; omega, Nat.le_refl _, hW9⟩, ?_⟩
      intro wz v hm
      obtain ⟨j, F2, rfl, hj, bz, hz, zz, hWz⟩ := (hI2 _ _).1 hm
      have hsz2 := (setN_len hlt hsi.1 (k := s.key) (v := s.value) j).2
      have bvz := hWz.2.2.2.2.2.1
      try simp [-getElem?_pos, -Array.getElem?_eq_getElem, List.getElem?_cons_zero, List.getElem?_cons_succ, -Int.natCast_add, add_spot, and_assoc, Br_dec, -op_box, -op_lit_65_1, -op_lit_49_1, -op_alloc_41, -op_st_41, -op_alloc_120, -op_st_120, -op_alloc_35, -op_st_35, bz]
      refine counted_ok f5 ?_
      try simp [-getElem?_pos, -Array.getElem?_eq_getElem, List.getElem?_cons_zero, List.getElem?_cons_succ, -Int.natCast_add, add_spot, and_assoc, Br_dec, -op_box, -op_lit_65_1, -op_lit_49_1, -op_alloc_41, -op_st_41, -op_alloc_120, -op_st_120, -op_alloc_35, -op_st_35, bz, bvz]
      refine ⟨fun hlt2 => ?_, fun hge => ?_⟩
      · refine bset_ok (k := kAt s.key s.value j) (x := (j : Int)) hdef hWz.2.2.1 (by omega) fun wy F' ky vy hy => ?_
        rw [← setN_succ] at vy
        try simp [-getElem?_pos, -Array.getElem?_eq_getElem, List.getElem?_cons_zero, List.getElem?_cons_succ, -Int.natCast_add, add_spot, and_assoc, Br_dec, -op_box, -op_lit_65_1, -op_lit_49_1, -op_alloc_41, -op_st_41, -op_alloc_120, -op_st_120, -op_alloc_35, -op_st_35, ]
        rw [wrap_i64_small (by omega) (by omega)]
        have := ky.size
        refine ⟨(hI2 _ _).2 ⟨j + 1, F', by simp, by omega, ky.get bz fun h => hz _ h rfl, fun c hc => ?_, by omega, hWz.put ky vy hy⟩, ?_⟩
        · rcases hc with hc | hc
          · exact hz c (.inl hc)
          · rcases (hy c hc).1 with h | h
            · exact hz c (.inr h)
            · omega
        · simp only [natOf]; omega
      · have : j = s.count.toNat := by omega
        subst this
        try simp [-getElem?_pos, -Array.getElem?_eq_getElem, List.getElem?_cons_zero, List.getElem?_cons_succ, -Int.natCast_add, add_spot, and_assoc, Br_dec, -op_box, -op_lit_65_1, -op_lit_49_1, -op_alloc_41, -op_st_41, -op_alloc_120, -op_st_120, -op_alloc_35, -op_st_35, hew]
        rw [hnat, hnat0]
        exact ⟨hdone (by simp only [trieStep, hk]) hWz, hmu⟩
    · try simp [-getElem?_pos, -Array.getElem?_eq_getElem, List.getElem?_cons_zero, List.getElem?_cons_succ, -Int.natCast_add, add_spot, and_assoc, Br_dec, -op_box, -op_lit_65_1, -op_lit_49_1, -op_alloc_41, -op_st_41, -op_alloc_120, -op_st_120, -op_alloc_35, -op_st_35, b9, hk]
      obtain ⟨I2, hI2⟩ : ∃ I2 : Value → World → Prop, ∀ v wz, I2 v wz ↔ ∃ (j : Nat) (F2 : Nat → Prop), v = .int .i64 j ∧ (j : Int) ≤ s.count ∧ wz.heap[sb]? = some (.cells #[.int .u8 s.kind, .int .i64 s.fro, .int .i64 s.key, .int .i64 s.value, .int .i64 s.count] 35 (0, 0)) ∧ (∀ c, c = g ∨ F2 c → c ≠ sb) ∧ w9.heap.size ≤ wz.heap.size ∧ Wk w wz bb bm vb g (hashOf md ml sh) (decide (md = 0)) (delN (hashOf md ml sh) s.key s.value (lineT (hashOf md ml sh) (steps.take i)) j) F2 := ⟨_, fun _ _ => Iff.rfl⟩
      refine Lp.intro I2 (fun v _ => s.count.toNat - natOf v) ⟨(hI2 _ _).2 ⟨0, F, rfl, by omega, b9, fun c hc => by have := hoff c hc; omega, Nat.le_refl _, hW9⟩, ?_⟩
      intro wz v hm
      obtain ⟨j, F2, rfl, hj, bz, hz, zz, hWz⟩ := (hI2 _ _).1 hm
      have hsz2 := (delN_len hsi.1 (k := s.key) (v := s.value) j).2
      have bvz := hWz.2.2.2.2.2.1
      try simp [-getElem?_pos, -Array.getElem?_eq_getElem, List.getElem?_cons_zero, List.getElem?_cons_succ, -Int.natCast_add, add_spot, and_assoc, Br_dec, -op_box, -op_lit_65_1, -op_lit_49_1, -op_alloc_41, -op_st_41, -op_alloc_120, -op_st_120, -op_alloc_35, -op_st_35, bz]
      refine counted_ok f5 ?_
      try simp [-getElem?_pos, -Array.getElem?_eq_getElem, List.getElem?_cons_zero, List.getElem?_cons_succ, -Int.natCast_add, add_spot, and_assoc, Br_dec, -op_box, -op_lit_65_1, -op_lit_49_1, -op_alloc_41, -op_st_41, -op_alloc_120, -op_st_120, -op_alloc_35, -op_st_35, bz, bvz]
      refine ⟨fun hlt2 => ?_, fun hge => ?_⟩
      · refine bdel_ok (k := kAt s.key s.value j) hWz.2.2.1 (by omega) fun wy F' ky vy hy => ?_
        rw [← delN_succ] at vy
        try simp [-getElem?_pos, -Array.getElem?_eq_getElem, List.getElem?_cons_zero, List.getElem?_cons_succ, -Int.natCast_add, add_spot, and_assoc, Br_dec, -op_box, -op_lit_65_1, -op_lit_49_1, -op_alloc_41, -op_st_41, -op_alloc_120, -op_st_120, -op_alloc_35, -op_st_35, ]
        rw [wrap_i64_small (by omega) (by omega)]
        have := ky.size
        refine ⟨(hI2 _ _).2 ⟨j + 1, F', by simp, by omega, ky.get bz fun h => hz _ h rfl, fun c hc => ?_, by omega, hWz.put ky vy hy⟩, ?_⟩
        · rcases hc with hc | hc
          · exact hz c (.inl hc)
          · rcases (hy c hc).1 with h | h
            · exact hz c (.inr h)
            · omega
        · simp only [natOf]; omega
      · have : j = s.count.toNat := by omega
        subst this
        try simp [-getElem?_pos, -Array.getElem?_eq_getElem, List.getElem?_cons_zero, List.getElem?_cons_succ, -Int.natCast_add, add_spot, and_assoc, Br_dec, -op_box, -op_lit_65_1, -op_lit_49_1, -op_alloc_41, -op_st_41, -op_alloc_120, -op_st_120, -op_alloc_35, -op_st_35, hew]
        rw [hnat, hnat0]
        exact ⟨hdone (by simp only [trieStep, hk]) hWz, hmu⟩
  have : i = steps.length := by omega
  subst this
  rw [List.take_length] at hWl
  have hszt := (line_size hlt steps).2
  generalize htt : lineT (hashOf md ml sh) steps = tt at *
  have hWd := hWl.frame (Frm.drew (M := fun _ => False) wl) fun _ h => h.elim
  have hoffd := hWd.off
  have bvd := hWd.2.2.2.2.2.1
  have hlow := hWd.2.2.2.2.2.2.1
  have hvld := hWd.2.1
  have hbbm : bb ≠ bm ∧ w.heap.size ≤ bb ∧ w.heap.size ≤ bm ∧ bb < vb ∧ bm < vb := by
    have := hWd.2.2.2.2.2.2.2
    exact ⟨by omega, by omega, by omega, this.1, this.2⟩
  clear hI hl I hWl hvlt hoff hcl hsz hnl' z1 z2 z3 z6 z7 n4 n5 hW k07 g5
  try simp [-getElem?_pos, -Array.getElem?_eq_getElem, List.getElem?_cons_zero, List.getElem?_cons_succ, -Int.natCast_add, add_spot, and_assoc, Br_dec, -op_box, -op_lit_65_1, -op_lit_49_1, -op_alloc_41, -op_st_41, -op_alloc_120, -op_st_120, -op_alloc_35, -op_st_35, bvb]
  refine blen_ok hWd.2.2.1 ?_
  try simp [-getElem?_pos, -Array.getElem?_eq_getElem, List.getElem?_cons_zero, List.getElem?_cons_succ, -Int.natCast_add, add_spot, and_assoc, Br_dec, -op_box, -op_lit_65_1, -op_lit_49_1, -op_alloc_41, -op_st_41, -op_alloc_120, -op_st_120, -op_alloc_35, -op_st_35, bvb]
  refine biter_ok hWd.2.2.1 fun ib b w10 k10 hib hbl hA => ?_
  have hibl := hA.lt
  have n10 := k10.size
  try simp [-getElem?_pos, -Array.getElem?_eq_getElem, List.getElem?_cons_zero, List.getElem?_cons_succ, -Int.natCast_add, add_spot, and_assoc, Br_dec, -op_box, -op_lit_65_1, -op_lit_49_1, -op_alloc_41, -op_st_41, -op_alloc_120, -op_st_120, -op_alloc_35, -op_st_35, ]
  refine mapSeen_ok hA (fun hc => by have := hoffd _ (.inr hc); omega) (fun c hc => by have := hoffd _ (.inr hc); omega) (by omega) fun p1 w11 k11 hR11 => ?_
  have k1011 : Frm (fun _ => False) wl.drew w11 := k10.old k11 fun c hc => .inr (by omega)
  have hW11 := hWd.frame k1011 fun _ h => h.elim
  have low11 := hR11.own_lt
  try simp [-getElem?_pos, -Array.getElem?_eq_getElem, List.getElem?_cons_zero, List.getElem?_cons_succ, -Int.natCast_add, add_spot, and_assoc, Br_dec, -op_box, -op_lit_65_1, -op_lit_49_1, -op_alloc_41, -op_st_41, -op_alloc_120, -op_st_120, -op_alloc_35, -op_st_35, ]
  refine op_storeN_ok (n := 2) (by kernel_rfl) hW11.2.2.2.1 rfl (by decide) (by simp [hR11.one]) fun w12 k12 z12 b12 => ?_
  have b12 : w12.heap[bb]? = some (.cells #[.int .i64 (toL tt).length, p1] 41 (0, 0)) := by
    rw [ow_all (by simp)] at b12; simpa using b12
  have hB12 := hW11.2.2.1.frame k12 (fun c hc e => (hlow c (.inr hc)).2.1 e) (fun e => (hlow g (.inl rfl)).2.1 e)
  have bm12 := k12.get hW11.2.2.2.2.1 fun e => hbbm.1 e.symm
  have vb12 := k12.get hW11.2.2.2.2.2.1 fun e => by omega
  have hP1 : IsPairs w12 p1 (toL tt) := hR11.flat.frame k12 fun b hb he => by have := low11 b hb; omega
  have k012 : Frm (fun _ => False) w w12 := hW11.1.old k12 fun c hc => .inr (by omega)
  have hr3 := h3.frame k012 fun _ _ h => h
  have n12 := k012.size
  have hp1n : ∀ b, p1.ownBlock = some b → b ≠ bm ∧ b ≠ g ∧ b ≠ bb ∧ w.heap.size ≤ b ∧ b < w12.heap.size := fun b hb => by have := low11 b hb; have := hoffd g (.inl rfl); omega
  have hgl := hB12.lt
  have hFl12 : ∀ c, F c → c < w12.heap.size := by obtain ⟨_, _, _, _, h⟩ := hB12; exact h
  have hvl12 := lt_of_get vb12
  clear hA hR11 k10 k11 k12 hW11 k1011 hWd low11 hoffd hib hibl hbl bvd
  obtain ⟨I, hI⟩ : ∃ I : Value → Value → Value → World → Prop, ∀ l1 l2 s wl, I l1 l2 s wl ↔ ∃ i : Nat, s = .int .i64 i ∧ i ≤ keys.length ∧ Frm (fun _ => False) w12 wl ∧ FRow i1 wl w12.heap.size 2 1 l1 ((keys.take i).map (valOf (lineM steps))) ∧ FRow b1 wl w12.heap.size 4 1 l2 ((keys.take i).map (hasOf (lineM steps))) ∧
      ∀ b, l1.ownBlock = some b → l2.ownBlock ≠ some b := ⟨_, fun _ _ _ _ => Iff.rfl⟩
  refine Lp.intro I (fun _ _ s _ => keys.length - natOf s) ⟨(hI _ _ _ _).2 ⟨0, rfl, by omega, Frm.refl, rows_nil, rows_nil, fun _ h => nomatch h⟩, ?_⟩
  intro wl' l1 l2 s hl
  obtain ⟨i, rfl, hi, kl', hR1, hRb, hne⟩ := (hI _ _ _ _).1 hl
  have lo1 := hR1.own_lt
  have lo2 := hRb.own_lt
  have hBl := hB12.frame kl' (fun _ _ h => h) fun h => h
  have vbl := kl'.get vb12 fun h => h
  have nl' := kl'.size
  simp only [op_lss, Br_dec]
  refine ⟨fun hlt' => ?_, fun hge => ?_⟩
  · have hi' : i < keys.length := by omega
    have htk : keys.take (i + 1) = keys.take i ++ [keys[i]] := List.take_succ_eq_append_getElem hi'
    obtain ⟨bp, o, cs, e, fz, rfl, hcs, hsz, hext⟩ := (hr3.frame kl' (fun _ _ h => h)).part i1_len (by decide) hi'
    have hki : cs[o + i]? = some (.int .i64 keys[i]) := by
      have := congrArg (fun a => a[0]?) hext
      simp only [Array.getElem?_extract] at this
      rw [if_pos (by omega)] at this
      simpa [i1] using this
    try simp [-getElem?_pos, -Array.getElem?_eq_getElem, List.getElem?_cons_zero, List.getElem?_cons_succ, -Int.natCast_add, add_spot, and_assoc, Br_dec, -op_box, -op_lit_65_1, -op_lit_49_1, -op_alloc_41, -op_st_41, -op_alloc_120, -op_st_120, -op_alloc_35, -op_st_35, hcs, hki, vbl]
    refine ⟨hi', ?_⟩
    refine bget_ok (k := keys[i]) hBl fun w13 k3 => ?_
    rw [hIs.get, gotV_eq]
    have n3 := k3.size
    have hl1 := hR1.one
    have hl2 := hRb.one
    try simp [-getElem?_pos, -Array.getElem?_eq_getElem, List.getElem?_cons_zero, List.getElem?_cons_succ, -Int.natCast_add, add_spot, and_assoc, Br_dec, -op_box, -op_lit_65_1, -op_lit_49_1, -op_alloc_41, -op_st_41, -op_alloc_120, -op_st_120, -op_alloc_35, -op_st_35, ]
    have htl : ((keys.take i).map (valOf (lineM steps))).length = i := by simp; omega
    have htl2 : ((keys.take i).map (hasOf (lineM steps))).length = i := by simp; omega
    refine op_pushF (f := i1) (y := valOf (lineM steps) keys[i]) apInt (lit_65_1 rfl) i1_len i1_one (frow_still hR1 k3) (by rw [htl]; omega) (by omega) fun l3 w4 k4 hR4 ho4 => ?_
    have n4 := k4.size
    have hRb4 := frow_frame (frow_still hRb k3) k4 fun b hb he => hne b he.symm hb
    refine op_pushF (f := b1) (y := hasOf (lineM steps) keys[i]) apBool (lit_49_1 rfl) b1_len b1_one hRb4 (by rw [htl2]; omega) (by omega) fun l4 w5 k5 hR5 ho5 => ?_
    have hsep : ∀ b, l3.ownBlock = some b → l2.ownBlock ≠ some b := fun b hb hb2 => by
      rcases ho4 with h | ⟨b', h, hge⟩
      · rw [h] at hb; exact hne b hb hb2
      · rw [h] at hb; cases hb; have := lo2 _ hb2; omega
    have hR45 := frow_frame hR4 k5 fun b hb he => hsep b hb he.symm
    have lo3 := hR4.own_lt
    try simp [-getElem?_pos, -Array.getElem?_eq_getElem, List.getElem?_cons_zero, List.getElem?_cons_succ, -Int.natCast_add, add_spot, and_assoc, Br_dec, -op_box, -op_lit_65_1, -op_lit_49_1, -op_alloc_41, -op_st_41, -op_alloc_120, -op_st_120, -op_alloc_35, -op_st_35, ]
    rw [wrap_i64_small (by omega) (by omega)]
    refine ⟨(hI _ _ _ _).2 ⟨i + 1, by simp, by omega, ((kl'.no k3).old k4 fun c hc => .inr (by have := lo1 c hc.symm; omega)).old k5 fun c hc => .inr (by have := lo2 c hc.symm; omega), by rw [htk, List.map_append]; exact hR45, by rw [htk, List.map_append]; exact hR5, fun b hb hb2 => ?_⟩, ?_⟩
    · rcases ho5 with h | ⟨b', h, hge⟩
      · rw [h] at hb2; exact hsep b hb hb2
      · rw [h] at hb2; cases hb2; have := lo3 _ hb; omega
    · simp only [natOf]; omega
  have : i = keys.length := by omega
  subst this
  rw [List.take_length] at *
  have hl1 := hR1.one
  have hl2 := hRb.one
  try simp [-getElem?_pos, -Array.getElem?_eq_getElem, List.getElem?_cons_zero, List.getElem?_cons_succ, -Int.natCast_add, add_spot, and_assoc, Br_dec, -op_box, -op_lit_65_1, -op_lit_49_1, -op_alloc_41, -op_st_41, -op_alloc_120, -op_st_120, -op_alloc_35, -op_st_35, vbl]
  refine bmap_ok hBl fun b w13 k13 z13 v13 hg13 => ?_
  have hF13 : ∀ c, F c → c < w13.heap.size := fun c hc => by have := hFl12 c hc; omega
  try simp [-getElem?_pos, -Array.getElem?_eq_getElem, List.getElem?_cons_zero, List.getElem?_cons_succ, -Int.natCast_add, add_spot, and_assoc, Br_dec, -op_box, -op_lit_65_1, -op_lit_49_1, -op_alloc_41, -op_st_41, -op_alloc_120, -op_st_120, -op_alloc_35, -op_st_35, ]
  refine ver_len_ok v13 ?_
  try simp [-getElem?_pos, -Array.getElem?_eq_getElem, List.getElem?_cons_zero, List.getElem?_cons_succ, -Int.natCast_add, add_spot, and_assoc, Br_dec, -op_box, -op_lit_65_1, -op_lit_49_1, -op_alloc_41, -op_st_41, -op_alloc_120, -op_st_120, -op_alloc_35, -op_st_35, ]
  refine ver_iter_ok v13 hF13 fun ib2 w14 k14 hib2 hA2 => ?_
  have hib2l := hA2.lt
  have n14 := k14.size
  try simp [-getElem?_pos, -Array.getElem?_eq_getElem, List.getElem?_cons_zero, List.getElem?_cons_succ, -Int.natCast_add, add_spot, and_assoc, Br_dec, -op_box, -op_lit_65_1, -op_lit_49_1, -op_alloc_41, -op_st_41, -op_alloc_120, -op_st_120, -op_alloc_35, -op_st_35, ]
  refine mapSeen_ok hA2 (fun hc => by have := hF13 _ hc; omega) (fun c hc => by have := hF13 _ hc; omega) (by omega) fun p2 w15 k15 hR15 => ?_
  have k1315 : Frm (fun _ => False) w13 w15 := k14.old k15 fun c hc => .inr (by omega)
  have low15 := hR15.own_lt
  have hgw := hlow g (.inl rfl)
  have bm15 := k1315.get (k13.get (kl'.get bm12 fun h => h) fun e => hgw.2.2.1 e.symm) fun h => h
  have bb15 := k1315.get (k13.get (kl'.get b12 fun h => h) fun e => hgw.2.1 e.symm) fun h => h
  have vb15 := k1315.get (k13.get vbl fun e => hgw.2.2.2 e.symm) fun h => h
  have g15 := k1315.get hg13 fun h => h
  try simp [-getElem?_pos, -Array.getElem?_eq_getElem, List.getElem?_cons_zero, List.getElem?_cons_succ, -Int.natCast_add, add_spot, and_assoc, Br_dec, -op_box, -op_lit_65_1, -op_lit_49_1, -op_alloc_41, -op_st_41, -op_alloc_120, -op_st_120, -op_alloc_35, -op_st_35, ]
  refine op_storeN_ok (n := 2) (by kernel_rfl) bm15 rfl (by decide) (by simp [hR15.one]) fun w16 k16 z16 bm16 => ?_
  have bm16 : w16.heap[bm]? = some (.cells #[.int .i64 (toL tt).length, p2] 41 (0, 0)) := by
    rw [ow_all (by simp)] at bm16; simpa using bm16
  have bb16 := k16.get bb15 fun e => hbbm.1 e
  have vb16 := k16.get vb15 fun e => by omega
  have g16 := k16.get g15 fun e => hgw.2.2.1 e
  have hbml := lt_of_get bm15
  have n15 := k1315.size
  have k016 : Frm (fun _ => False) w w16 := (((k012.no kl').old k13 fun c hc => .inr (by omega)).no k1315).old k16 fun c hc => .inr (by omega)
  have hne13 : ∀ c, w12.heap.size ≤ c → c ≠ g ∧ c ≠ bm := fun c hc => by have := lt_of_get bm12; omega
  have n1216 : w12.heap.size ≤ w16.heap.size := by have := k16.size; omega
  have hP1w : IsPairs w16 p1 (toL tt) := (((hP1.still kl').frame k13 fun b hb e => (hp1n b hb).2.1 e).still k1315).frame k16 fun b hb e => (hp1n b hb).1 e
  have hP2w : IsPairs w16 p2 (toL tt) := hR15.flat.frame k16 fun b hb e => by have := low15 b hb; omega
  have hRv : FRow i1 w16 w12.heap.size 2 1 l1 (keys.map (valOf (lineM steps))) := frow_frame (frow_still (frow_frame hR1 k13 fun b hb e => (hne13 b (lo1 b hb).1).1 e) k1315) k16 fun b hb e => (hne13 b (lo1 b hb).1).2 e
  have hRh : FRow b1 w16 w12.heap.size 4 1 l2 (keys.map (hasOf (lineM steps))) := frow_frame (frow_still (frow_frame hRb k13 fun b hb e => (hne13 b (lo2 b hb).1).1 e) k1315) k16 fun b hb e => (hne13 b (lo2 b hb).1).2 e
  try simp [-getElem?_pos, -Array.getElem?_eq_getElem, List.getElem?_cons_zero, List.getElem?_cons_succ, -Int.natCast_add, add_spot, and_assoc, Br_dec, -op_box, -op_lit_65_1, -op_lit_49_1, -op_alloc_41, -op_st_41, -op_alloc_120, -op_st_120, -op_alloc_35, -op_st_35, ]
  have key : ∀ KK : Value → World → Prop, (∀ w18, Frm (fun _ => False) w16 w18 → KK (.bool true) w18) → Calls Try.prog 64 #[.func (.func 65) #[] #[ptr vb]] w16 (ret KK Kp) := fun KK rest => by
    refine thrown_ok (by kernel_rfl) ?_
    show Calls Try.prog 65 #[ptr vb] _ _
    have k17 : Frm (fun _ => False) w16 (w16.alloc (.cells #[.bool false] 4)) := Frm.alloc _ _
    have b17 : (w16.alloc (.cells #[.bool false] 4)).heap[w16.heap.size]? = some (.cells #[.bool false] 4 (0, 0)) := hp_alloc_new
    generalize w16.alloc (.cells #[.bool false] 4) = w17 at *
    have vb17 := k17.get vb16 fun h => h
    refine vc65_calls ?_
    simp only [vc65, ptr]
    try simp [-getElem?_pos, -Array.getElem?_eq_getElem, List.getElem?_cons_zero, List.getElem?_cons_succ, -Int.natCast_add, add_spot, and_assoc, Br_dec, -op_box, -op_lit_65_1, -op_lit_49_1, -op_alloc_41, -op_st_41, -op_alloc_120, -op_st_120, -op_alloc_35, -op_st_35, vb17]
    refine bmap_no (k17.get g16 fun h => h) fun str => ⟨⟨9, str, rfl⟩, b17, rest _ ?_⟩
    exact k17.old (Frm.upd _ _ fun _ => rfl : Frm (· = w16.heap.size) w17 (w17.upd w16.heap.size (.cells #[.bool true] 4 (0, 0)))) fun c hc => .inr (by omega)
  refine key _ fun w18 k1618 => ?_
  clear key
  have bb18 := k1618.get bb16 fun h => h
  have bm18 := k1618.get bm16 fun h => h
  have bb18d : w18.drew.heap[bb]? = _ := bb18
  have bm18d : w18.drew.heap[bm]? = _ := bm18
  have hx2 : (#[Value.int .i64 ((toL tt).length : Int), p1] : Array Value).extract 0 2 = #[.int .i64 (toL tt).length, p1] := rfl
  have hx2' : (#[Value.int .i64 ((toL tt).length : Int), p2] : Array Value).extract 0 2 = #[.int .i64 (toL tt).length, p2] := rfl
  try simp [-getElem?_pos, -Array.getElem?_eq_getElem, List.getElem?_cons_zero, List.getElem?_cons_succ, -Int.natCast_add, add_spot, and_assoc, Br_dec, -op_box, -op_lit_65_1, -op_lit_49_1, -op_alloc_41, -op_st_41, -op_alloc_120, -op_st_120, -op_alloc_35, -op_st_35, bb18, bm18, hx2, hx2']
  refine op_storeN_ok (n := 2) (by kernel_rfl) bb18d rfl (by simp) (by simp [hR15.one, hP1.one]) fun w19 k19 z19 bb19 => ?_
  have bb19 : w19.heap[bb]? = some (.cells #[.int .i64 (toL tt).length, p1] 41 (0, 0)) := by
    rw [ow_all (by simp)] at bb19; simpa using bb19
  have bm19 := k19.get bm18d fun e => hbbm.1 e.symm
  try simp [-getElem?_pos, -Array.getElem?_eq_getElem, List.getElem?_cons_zero, List.getElem?_cons_succ, -Int.natCast_add, add_spot, and_assoc, Br_dec, -op_box, -op_lit_65_1, -op_lit_49_1, -op_alloc_41, -op_st_41, -op_alloc_120, -op_st_120, -op_alloc_35, -op_st_35, bm19, hx2']
  refine op_storeN_ok (n := 2) (by kernel_rfl) bm19 rfl (by simp) (by simp [hR15.one, hP1.one]) fun w20 k20 z20 bm20 => ?_
  have bm20 : w20.heap[bm]? = some (.cells #[.int .i64 (toL tt).length, p2] 41 (0, 0)) := by
    rw [ow_all (by simp)] at bm20; simpa using bm20
  have bb20 := k20.get bb19 fun e => hbbm.1 e
  try simp [-getElem?_pos, -Array.getElem?_eq_getElem, List.getElem?_cons_zero, List.getElem?_cons_succ, -Int.natCast_add, add_spot, and_assoc, Br_dec, -op_box, -op_lit_65_1, -op_lit_49_1, -op_alloc_41, -op_st_41, -op_alloc_120, -op_st_120, -op_alloc_35, -op_st_35, bb20, bm20, hx2, hx2']
  have kd : Frm (fun c => c = bb ∨ c = bm) w18 w20 := (Frm.dr (k19.to (M' := fun c => c = bb ∨ c = bm) fun c h => .inl h)).trans k20 fun c hc _ => .inr hc
  have kz : Frm (fun c => c = bb ∨ c = bm) w16 w20 := (k1618.to (M' := fun c => c = bb ∨ c = bm) fun _ h => h.elim).trans kd fun c hc _ => hc
  have hbb12 : bb < w12.heap.size ∧ bm < w12.heap.size := ⟨lt_of_get b12, lt_of_get bm12⟩
  refine hK p1 p2 l1 l2 w20 (k016.old kz fun c hc => .inr (by omega)) ?_ ?_ ((frow_frame hRv kz fun b hb e => by have := (lo1 b hb).1; omega).base_le n12) ((frow_frame hRh kz fun b hb e => by have := (lo2 b hb).1; omega).base_le n12) ?_
  · exact hP1w.frame kz fun b hb e => by have := hp1n b hb; omega
  · exact hP2w.frame kz fun b hb e => by have := low15 b hb; omega
  · intro b hb
    have nz := kz.size
    rcases hb with hb | hb
    · have := hp1n b hb; omega
    · have := low15 b hb; omega
end Go.Proofs.Ytbghmbbhkoniiaa.I
end
section
/- slices.Reverse of a row of one's own. -/
set_option linter.unusedSimpArgs false
set_option linter.unusedVariables false
namespace Go.Vc
/-- Turning a row round, step by step. -/
def swapped {α : Type} (l : List α) (i : Nat) : List α := l.mapIdx fun j x => if j < i ∨ l.length - 1 - j < i then (l[l.length - 1 - j]?).getD x else x
theorem swapped_len {α : Type} (l : List α) (i : Nat) : (swapped l i).length = l.length := by simp [swapped]
theorem swapped_get {α : Type} (l : List α) (i j : Nat) (hj : j < l.length) : (swapped l i)[j]? = some (if j < i ∨ l.length - 1 - j < i then l[l.length - 1 - j]'(by omega) else l[j]) := by
  simp only [swapped, List.getElem?_mapIdx, List.getElem?_eq_getElem hj, Option.map_some]
  congr 1
  split
  · rw [List.getElem?_eq_getElem (by omega)]; rfl
  · rfl
theorem swapped_zero {α : Type} (l : List α) : swapped l 0 = l := by
  apply List.ext_getElem?
  intro j
  by_cases hj : j < l.length
  · rw [swapped_get l 0 j hj, if_neg (by omega), List.getElem?_eq_getElem hj]
  · rw [List.getElem?_eq_none (by rw [swapped_len]; omega), List.getElem?_eq_none (by omega)]
theorem swapped_all {α : Type} (l : List α) {i : Nat} (h : l.length ≤ 2 * i + 1) : swapped l i = l.reverse := by
  apply List.ext_getElem?
  intro j
  by_cases hj : j < l.length
  · rw [swapped_get l i j hj, List.getElem?_reverse hj, List.getElem?_eq_getElem (by omega)]
    split
    · rfl
    · have : l.length - 1 - j = j := by omega
      simp only [this]
  · rw [List.getElem?_eq_none (by rw [swapped_len]; omega), List.getElem?_eq_none (by simp; omega)]
theorem swapped_succ {α : Type} (l : List α) {i : Nat} (h : 2 * i + 1 < l.length) : swapped l (i + 1) = ((swapped l i).set i (l[l.length - 1 - i]'(by omega))).set (l.length - 1 - i) (l[i]'(by omega)) := by
  apply List.ext_getElem?
  intro j
  by_cases hj : j < l.length
  · rw [swapped_get l (i + 1) j hj, List.getElem?_set, List.getElem?_set]
    simp only [List.length_set, swapped_len]
    by_cases h1 : l.length - 1 - i = j
    · rw [if_pos h1, if_pos (by omega), if_pos (by omega)]
      have : l.length - 1 - j = i := by omega
      simp only [this]
    · rw [if_neg h1]
      by_cases h2 : i = j
      · subst h2
        rw [if_pos rfl, if_pos (by omega), if_pos (by omega)]
      · rw [if_neg h2, swapped_get l i j hj]
        congr 1
        by_cases h3 : j < i ∨ l.length - 1 - j < i
        · rw [if_pos h3, if_pos (by omega)]
        · rw [if_neg h3, if_neg (by omega)]
  · rw [List.getElem?_eq_none (by rw [swapped_len]; omega), List.getElem?_eq_none (by simp [swapped_len]; omega)]

variable {P : Program} {w w' : World} {K : Value → World → Prop} {Kp : KP} {t e tin tel : TypeId} {s base g c : Nat} {α : Type} {f : α → List Value} {ys : List α} {l : Value}
theorem lw_flat (hf : ∀ x, (f x).length = s) : ∀ (ys : List α) (j : Nat) (y : α), j < ys.length → lw (ys.map f).flatten (j * s) (f y) = ((ys.set j y).map f).flatten
  | [], j, y, h => by simp at h
  | x :: ys, 0, y, _ => by
    simp only [List.map_cons, List.flatten_cons, List.set_cons_zero, Nat.zero_mul, lw, List.take_zero, List.nil_append, Nat.zero_add]
    rw [hf y, ← hf x, List.drop_left]
  | x :: ys, j + 1, y, h => by
    have ih := lw_flat hf ys j y (by simpa using h)
    simp only [lw] at ih ⊢
    have e1 : (j + 1) * s = (f x).length + j * s := by rw [hf, Nat.add_mul]; omega
    simp only [List.map_cons, List.flatten_cons, List.set_cons_succ]
    rw [e1, List.take_length_add_append, Nat.add_assoc, List.drop_length_add_append, ← ih]
    simp
/-- An element of a row of one's own is written. -/
theorem op_store_frow {j : Nat} {y : α} (hel : ldk P tel = some (.agg s)) (hf : ∀ x, (f x).length = s) (hone : ∀ x, ∀ u ∈ f x, u.oneCell' = true) (hR : FRow f w base e s (.slice (some ⟨g, 0, none⟩) ys.length c) ys) (hj : j < ys.length)
    (hK : ∀ w', Frm (· = g) w w' → w'.heap.size = w.heap.size → FRow f w' base e s (.slice (some ⟨g, 0, none⟩) ys.length c) (ys.set j y) → K undef w') : (nice P).op (.store tel (.pointer (some ⟨g, j * s, none⟩)) (.agg (f y).toArray)) w K Kp := by
  obtain ⟨⟨us, h1, h3, h4, h5⟩, h6, h7⟩ := hR
  have hus : us = ys.map f := by
    apply List.ext_getElem?
    intro i
    by_cases hi : i < us.length
    · rw [List.getElem?_eq_getElem hi, List.getElem?_map, List.getElem?_eq_getElem (by omega)]
      have := h5 i us[i] (ys[i]'(by omega)) (List.getElem?_eq_getElem _) (List.getElem?_eq_getElem _)
      rw [this]; rfl
    · rw [List.getElem?_eq_none (by omega), List.getElem?_eq_none (by simp; omega)]
  subst hus
  obtain ⟨g', cap', hv, hc, hrw, hb⟩ := Rw.of_own (n := ys.length) (own_base h4 (Nat.zero_le _)) (by omega)
  cases hv
  have hlow := Go.Vc.own_lt h4 g rfl
  have hle : (j + 1) * s ≤ ys.length * s := Nat.mul_le_mul_right _ hj
  rw [Nat.add_mul, Nat.one_mul] at hle
  have hfl := h4.1
  refine op_storeRN (n := s) hel (by simp [hf]) hrw (by omega) (fun u hu => hone y u (by simpa using hu)) fun w' k' z' hrw' => ?_
  have e1 := lw_flat hf ys j y hj
  rw [List.toList_toArray, e1] at hrw'
  refine hK w' k' z' ⟨⟨(ys.set j y).map f, by simp, fun u hu => by obtain ⟨x, _, rfl⟩ := List.mem_map.1 hu; exact hf x, ?_, fun i u y' hu hy => ?_⟩, fun _ h => h.elim, fun _ _ h => h⟩
  · rw [List.length_set]
    have hn : ((ys.set j y).map f).flatten.length = ys.length * s := by
      rw [flatten_len (k := s) fun u hu => by obtain ⟨x, _, rfl⟩ := List.mem_map.1 hu; exact hf x]; simp
    obtain ⟨q1, ⟨_, q2⟩ | ⟨g2, cap2, cur2, q2, q3, q4⟩⟩ := hrw'.own hn hc
    · omega
    · cases q2
      exact ⟨q1, .inr ⟨g, c, cur2, rfl, hlow.1, q4⟩⟩
  · rw [List.getElem?_map, hy] at hu
    exact (Option.some.inj hu).symm
/-- The chain of slices.Reverse. -/
def revChain (S : Sig) (tin tel : TypeId) (a0 : Value) (w : World) (K : Value → World → Prop) (Kp : KP) : Prop :=
  S.op (.blt Builtin.len [tin] 3 [a0]) w (fun v5 w =>
  S.op (.bin BinOp.sub 3 false true v5 (Value.int IntKind.i64 1)) w (fun v6 w =>
  Lp fun (I1 : Value → Value → World → Prop) (μ1 : Value → Value → World → Nat) => I1 (Value.int IntKind.i64 0) v6 w ∧
  ∀ (wl1 : World) (junk : Nat → Value) (s2_i : Value) (s3_j : Value), I1 s2_i s3_j wl1 →
    S.op (.bin BinOp.lss 3 false false s2_i s3_j) wl1 (fun v9 w =>
    Br v9 (
      S.pur (.indexAddr tin a0 s3_j) (fun v20 =>
      S.ld (.load tel v20) w.drew (fun v21 =>
      S.pur (.indexAddr tin a0 s2_i) (fun v24 =>
      S.ld (.load tel v24) w.drew (fun v25 =>
      S.pur (.indexAddr tin a0 s2_i) (fun v26 =>
      S.op (.store tel v26 v21) w.drew (fun _ w =>
      S.pur (.indexAddr tin a0 s3_j) (fun v27 =>
      S.op (.store tel v27 v25) w (fun _ w =>
      S.op (.bin BinOp.add 3 false true s2_i (Value.int IntKind.i64 1)) w (fun v11 w =>
      S.op (.bin BinOp.sub 3 false true s3_j (Value.int IntKind.i64 1)) w (fun v13 w =>
      I1 v11 v13 w ∧ μ1 v11 v13 w < μ1 s2_i s3_j wl1) Kp) Kp) Kp)) Kp)))))) (
      K (Value.tuple #[]) w)) Kp) Kp) Kp
theorem revChain_ok (hin : sliceOf P tin = some (e, s)) (hkd : kd P tin = .slice) (hel : ldk P tel = some (.agg s)) (hf : ∀ x, (f x).length = s) (hone : ∀ x, ∀ u ∈ f x, u.oneCell' = true) (hR : FRow f w base e s l ys) (hn : ys.length < 2 ^ 31)
    (hK : ∀ w', Frm (fun b => some b = l.ownBlock) w w' → FRow f w' base e s l ys.reverse → K (.tuple #[]) w') : revChain (nice P) tin tel l w K Kp := by
  obtain ⟨a, c, hl, hc, hm, ha⟩ := hR.slice
  unfold revChain
  rw [hl, op_len_slice hkd, op_sub]
  by_cases h0 : ys.length = 0
  · have hy : ys = [] := List.eq_nil_of_length_eq_zero h0
    subst hy
    refine Lp.intro (fun u v wl => wl = w ∧ u = .int .i64 0 ∧ v = .int .i64 (IntKind.i64.wrap (((0 : Nat) : Int) - 1))) (fun _ _ _ => 0) ⟨⟨rfl, rfl, rfl⟩, ?_⟩
    rintro wl _ u v ⟨rfl, rfl, rfl⟩
    rw [op_lss]
    have : ¬ ((0 : Int) < IntKind.i64.wrap (((0 : Nat) : Int) - 1)) := by rw [IntKind.wrap_i64]; omega
    simp only [Br_dec, this, false_implies, true_and, not_false_eq_true, true_implies]
    exact hK wl Frm.refl hR
  obtain ⟨p, rfl⟩ : ∃ p, a = some p := by
    cases a with
    | none => exact absurd (ha rfl) h0
    | some p => exact ⟨p, rfl⟩
  obtain ⟨u0, g, c', cs0, he0, _⟩ := hR.get (j := 0) (by omega)
  rw [hl] at he0
  cases he0
  subst hl
  have hlow := hR.own_lt g rfl
  obtain ⟨I, hI⟩ : ∃ I : Value → Value → World → Prop, ∀ u v wl, I u v wl ↔ ∃ i : Nat, u = .int .i64 i ∧ v = .int .i64 ((ys.length : Int) - 1 - i) ∧ 2 * i ≤ ys.length ∧ Frm (· = g) w wl ∧ FRow f wl base e s (.slice (some ⟨g, 0, none⟩) ys.length c) (swapped ys i) := ⟨_, fun _ _ _ => Iff.rfl⟩
  have w1 : IntKind.i64.wrap ((ys.length : Int) - 1) = (ys.length : Int) - 1 - (0 : Nat) := by rw [IntKind.wrap_i64]; omega
  rw [w1]
  refine Lp.intro I (fun u _ _ => ys.length - (match u with | .int _ j => j.toNat | _ => 0)) ⟨(hI _ _ _).2 ⟨0, rfl, rfl, by omega, Frm.refl, by rw [swapped_zero]; exact hR⟩, ?_⟩
  intro wl _ u v hu
  obtain ⟨i, rfl, rfl, hi, kl, hRl⟩ := (hI _ _ _).1 hu
  have hsl := swapped_len ys i
  rw [op_lss]
  simp only [Br_dec]
  refine ⟨fun hlt => ?_, fun hge => ?_⟩
  · have h2 : 2 * i + 1 < ys.length := by omega
    obtain ⟨j, hj⟩ : ∃ j : Nat, (ys.length : Int) - 1 - i = j := ⟨ys.length - 1 - i, by omega⟩
    have hjn : j = ys.length - 1 - i := by omega
    rw [hj]
    have hRl' : FRow f wl.drew base e s (.slice (some ⟨g, 0, none⟩) (swapped ys i).length c) (swapped ys i) := by rw [hsl]; exact frow_still hRl (Frm.drew _)
    have rd : ∀ (m : Nat) (hm : m < ys.length) (K1 : Value → Prop), K1 (.agg (f ((swapped ys i)[m]'(by omega))).toArray) → (nice P).ld (.load tel (.pointer (some ⟨g, m * s, none⟩))) wl.drew K1 := fun m hm K1 h => by
      obtain ⟨g', c', cs, he, hcs, _, hsz, hext⟩ := frow_get hRl' (j := m) (by omega)
      cases he
      rw [ld_ldn hel]
      refine ⟨cs, _, _, hcs, rfl, hsz, ?_⟩
      show K1 (.agg (cs.extract (m * s) (m * s + s)))
      rw [hext]; exact h
    have ix : ∀ (m : Nat) (hm : m < ys.length) (K1 : Value → Prop), K1 (.pointer (some ⟨g, m * s, none⟩)) → (nice P).pur (.indexAddr tin (.slice (some ⟨g, 0, none⟩) ys.length c) (.int .i64 (m : Int))) K1 := fun m hm K1 h => by
      rw [pur_ix_slice hin]
      refine ⟨⟨by omega, by omega⟩, ?_⟩
      rw [add_spot rfl]
      simpa using h
    have g1 := swapped_get ys i i (by omega)
    have g2 := swapped_get ys i j (by omega)
    rw [if_neg (by omega)] at g1 g2
    have g1' : (swapped ys i)[i]'(by omega) = ys[i] := by have := List.getElem?_eq_getElem (l := swapped ys i) (i := i) (by omega); rw [g1] at this; exact (Option.some.inj this).symm
    have g2' : (swapped ys i)[j]'(by omega) = ys[j]'(by omega) := by have := List.getElem?_eq_getElem (l := swapped ys i) (i := j) (by omega); rw [g2] at this; exact (Option.some.inj this).symm
    refine ix j (by omega) _ (rd j (by omega) _ (ix i (by omega) _ (rd i (by omega) _ (ix i (by omega) _ ?_))))
    rw [g1', g2']
    refine op_store_frow (y := ys[j]'(by omega)) hel hf hone hRl' (by omega) fun w2 k2 z2 hR2 => ?_
    refine ix j (by omega) _ ?_
    have hR2' : FRow f w2 base e s (.slice (some ⟨g, 0, none⟩) ((swapped ys i).set i (ys[j]'(by omega))).length c) ((swapped ys i).set i (ys[j]'(by omega))) := by rw [List.length_set]; exact hR2
    refine op_store_frow (y := ys[i]) hel hf hone hR2' (by rw [List.length_set]; omega) fun w3 k3 z3 hR3 => ?_
    rw [op_add, op_sub, wrap_small64 (by omega) (by omega), wrap_small64 (by omega) (by omega)]
    have hsw := swapped_succ ys (i := i) (by omega)
    subst hjn
    refine ⟨(hI _ _ _).2 ⟨i + 1, by simp, by congr 1; omega, by omega, (kl.trans (Frm.dr k2) fun _ h _ => h).trans k3 fun _ h _ => h, ?_⟩, ?_⟩
    · rw [hsw]
      rw [List.length_set, hsl] at hR3
      exact hR3
    · have : ((i : Int) + 1).toNat = i + 1 := by omega
      simp only [Int.toNat_natCast, this]; omega
  · have := hK wl (kl.to fun b hb => by rw [hb]; rfl)
    rw [swapped_all ys (by omega)] at hRl
    exact this hRl
end Go.Vc
namespace Go.Vc
variable {P : Program} {w w' : World} {K : Value → World → Prop} {K1 : Value → Prop} {Kp : KP} {t e : TypeId} {s base : Nat} {α : Type} {f : α → List Value} {xs : List α} {v : Value}
theorem row_none {vs : List Value} (h : Row w none vs) : vs = [] := by
  rcases h with h | ⟨b, o, cs, e, fz, h1, _⟩
  · exact h
  · cases h1
theorem row_off {w : World} {b o : Nat} {A B : List Value} (h : Row w (some ⟨b, o, none⟩) (A ++ B)) : Row w (some ⟨b, o + A.length, none⟩) B := by
  rcases h with h | ⟨b', o', cs, e, fz, h1, h2, h3⟩
  · exact .inl (List.append_eq_nil_iff.1 h).2
  · cases h1
    refine .inr ⟨b, o + A.length, cs, e, fz, rfl, h2, fun j u hj => ?_⟩
    have := h3 (A.length + j) u (by rw [List.getElem?_append_right (by omega)]; simpa using hj)
    rw [Nat.add_assoc]; exact this
theorem row_pre {w : World} {a : Option Addr} {A B : List Value} (h : Row w a (A ++ B)) : Row w a A := by
  rcases h with h | ⟨b', o', cs, e, fz, h1, h2, h3⟩
  · exact .inl (List.append_eq_nil_iff.1 h).1
  · refine .inr ⟨b', o', cs, e, fz, h1, h2, fun j u hj => h3 j u ?_⟩
    rw [List.getElem?_append_left (List.getElem?_eq_some_iff.1 hj).1]; exact hj
/-- What is behind a place of a slice. -/
theorem cut_lo {k : IntKind} {i : Nat} (h : sliceOf P t = some (e, s)) (hf : ∀ x, (f x).length = s) (hi : i ≤ xs.length) (hs : IsSl w v xs.length (xs.flatMap f)) (h0s : 0 < s)
    (hK : ∀ v', IsSl w v' (xs.drop i).length ((xs.drop i).flatMap f) → K1 v') : (nice P).pur (.slice t v (some (.int k (i : Int))) none none) K1 := by
  obtain ⟨a, c, rfl, hc, hm, hr, hn⟩ := hs
  have hx : xs.flatMap f = (xs.take i).flatMap f ++ (xs.drop i).flatMap f := by rw [← List.flatMap_append, List.take_append_drop]
  have hlen : ((xs.take i).flatMap f).length = i * s := by rw [flatMap_len hf, List.length_take, Nat.min_eq_left hi]
  by_cases hx0 : xs = []
  · subst hx0
    have hi0 : i = 0 := by simpa using hi
    subst hi0
    rw [pur_of (c := (0 : Int) ≤ 0 ∧ (0 : Int) ≤ 0 ∧ (0 : Int) ≤ (c : Int)) (v := .slice (if c = 0 then a else a.map (·.add (0 * s))) 0 c)]
    · exact ⟨by omega, hK _ ⟨_, c, rfl, by simp, hm, .inl rfl, fun _ => rfl⟩⟩
    · simp only [pv, h, cutV, lowV, upV]
      simp
  · have hx1 : xs.flatMap f ≠ [] := fun h0 => by
      have := congrArg List.length h0
      rw [flatMap_len hf] at this
      have h3 : 0 < xs.length := List.length_pos_iff.2 hx0
      have := Nat.mul_pos h3 h0s
      simp_all
    obtain ⟨b, o, rfl⟩ : ∃ b o, a = some ⟨b, o, none⟩ := by
      rcases hr with h | ⟨b, o, _, _, _, h, _⟩
      · exact absurd h hx1
      · exact ⟨b, o, h⟩
    rw [pur_cut_lo h]
    refine ⟨⟨by omega, by omega, by omega⟩, hK _ ?_⟩
    simp only [Int.toNat_natCast, List.length_drop]
    rw [hx] at hr
    refine ⟨_, _, rfl, Nat.sub_le_sub_right hc i, Nat.le_trans (Nat.sub_le c i) hm, ?_, fun hz => by split at hz <;> cases hz⟩
    by_cases he : c = i
    · rw [if_pos he]
      have : xs.drop i = [] := by rw [List.drop_eq_nil_iff]; omega
      rw [this]; exact .inl rfl
    · rw [if_neg he]
      have := row_off hr
      rwa [hlen] at this
/-- What is ahead of a place of a slice. -/
theorem cut_hi {k : IntKind} {i : Nat} (h : sliceOf P t = some (e, s)) (hf : ∀ x, (f x).length = s) (hi : i ≤ xs.length) (hs : IsSl w v xs.length (xs.flatMap f)) (h0s : 0 < s)
    (hK : ∀ v', IsSl w v' (xs.take i).length ((xs.take i).flatMap f) → K1 v') : (nice P).pur (.slice t v none (some (.int k (i : Int))) none) K1 := by
  obtain ⟨a, c, rfl, hc, hm, hr, hn⟩ := hs
  have hx : xs.flatMap f = (xs.take i).flatMap f ++ (xs.drop i).flatMap f := by rw [← List.flatMap_append, List.take_append_drop]
  have htl : (xs.take i).length = i := by rw [List.length_take, Nat.min_eq_left hi]
  by_cases hx0 : xs = []
  · subst hx0
    have hi0 : i = 0 := by simpa using hi
    subst hi0
    rw [pur_of (c := (0 : Int) ≤ 0 ∧ (0 : Int) ≤ 0 ∧ (0 : Int) ≤ (c : Int)) (v := .slice (if c = 0 then a else a.map (·.add (0 * s))) 0 c)]
    · exact ⟨by omega, hK _ ⟨_, c, rfl, by simp, hm, .inl rfl, fun _ => rfl⟩⟩
    · simp only [pv, h, cutV, lowV, upV]
      simp
  · have hx1 : xs.flatMap f ≠ [] := fun h0 => by
      have := congrArg List.length h0
      rw [flatMap_len hf] at this
      have h3 : 0 < xs.length := List.length_pos_iff.2 hx0
      have := Nat.mul_pos h3 h0s
      simp_all
    obtain ⟨b, o, rfl⟩ : ∃ b o, a = some ⟨b, o, none⟩ := by
      rcases hr with h | ⟨b, o, _, _, _, h, _⟩
      · exact absurd h hx1
      · exact ⟨b, o, h⟩
    rw [pur_cut_hi h]
    refine ⟨⟨by omega, by omega⟩, hK _ ?_⟩
    simp only [Int.toNat_natCast]
    rw [hx] at hr
    exact ⟨_, _, by rw [htl], by omega, hm, row_pre hr, fun hz => nomatch hz⟩
theorem IsSl.old {M : Nat → Prop} {n : Nat} {vs : List Value} (h : IsSl w v n vs) (hf : Frm M w w') (hM : ∀ b, M b → w.heap.size ≤ b) : IsSl w' v n vs := by
  obtain ⟨a, c, rfl, hc, hm, hr, hn⟩ := h
  exact ⟨a, c, rfl, hc, hm, hr.old hf hM, hn⟩
/-- A row of nothing. -/
theorem op_row0 {bytes : Nat} (ha : apOf P t = some (e, s, bytes)) (hl : sliceLit P t 0 [] = some (e, #[])) (hbase : base ≤ w.heap.size) (hK : ∀ l' w', Frm (fun _ => False) w w' → FRow f w' base e s l' [] → l'.ownBlock = some w.heap.size → K l' w') : (nice P).op (.buildSlice t 0 []) w K Kp := by
  refine op_lit_ok hl fun w1 k1 z1 b1 => ?_
  have hr : Rw w1 e s w.heap.size 0 [] := ⟨_, b1, by simp, by simp, by simp, by simp [maxLen]⟩
  refine hK _ w1 k1 ⟨⟨[], rfl, by simp, ?_, fun j u y hu => by simp at hu⟩, fun _ h => h.elim, fun _ _ h => h⟩ rfl
  obtain ⟨h1, ⟨h2, _⟩ | ⟨g, cap, cur, h2, h3, h4⟩⟩ := hr.own (n := 0) (by simp) (Nat.le_refl _)
  · cases h2
  · cases h2
    exact ⟨h1, .inr ⟨_, _, cur, rfl, hbase, h4⟩⟩
end Go.Vc
end
section
/- One cell of an element of a row of one's own is written. -/
set_option linter.unusedSimpArgs false
set_option linter.unusedVariables false
namespace Go.Vc
variable {P : Program} {w w' : World} {K : Value → World → Prop} {Kp : KP} {t e : TypeId} {s base g c r : Nat} {α : Type} {f : α → List Value} {ys : List α} {v : Value}
theorem set_flat (hf : ∀ x, (f x).length = s) (hr : r < s) : ∀ (ys : List α) (j : Nat) (hj : j < ys.length) (y : α), f y = (f ys[j]).set r v → (ys.map f).flatten.set (j * s + r) v = ((ys.set j y).map f).flatten
  | [], j, h, y, _ => by simp at h
  | x :: ys, 0, _, y, hy => by
    simp only [List.map_cons, List.flatten_cons, List.set_cons_zero, Nat.zero_mul, Nat.zero_add]
    rw [List.set_append_left _ _ (by rw [hf]; exact hr), hy]
    rfl
  | x :: ys, j + 1, h, y, hy => by
    have ih := set_flat hf hr ys j (by simpa using h) y (by simpa using hy)
    have e1 : (j + 1) * s + r = (f x).length + (j * s + r) := by rw [hf, Nat.add_mul]; omega
    simp only [List.map_cons, List.flatten_cons, List.set_cons_succ]
    rw [e1, List.set_append_right _ _ (by omega), Nat.add_sub_cancel_left, ih]
theorem op_store_cell {j : Nat} {y : α} (hel : ldk P t = some .one) (hf : ∀ x, (f x).length = s) (hv : v.oneCell' = true) (hR : FRow f w base e s (.slice (some ⟨g, 0, none⟩) ys.length c) ys) (hj : j < ys.length) (hr : r < s) (hy : f y = (f ys[j]).set r v)
    (hK : ∀ w', Frm (· = g) w w' → w'.heap.size = w.heap.size → FRow f w' base e s (.slice (some ⟨g, 0, none⟩) ys.length c) (ys.set j y) → K undef w') : (nice P).op (.store t (.pointer (some ⟨g, j * s + r, none⟩)) v) w K Kp := by
  obtain ⟨⟨us, h1, h3, h4, h5⟩, h6, h7⟩ := hR
  have hus : us = ys.map f := by
    apply List.ext_getElem?
    intro i
    by_cases hi : i < us.length
    · rw [List.getElem?_eq_getElem hi, List.getElem?_map, List.getElem?_eq_getElem (by omega)]
      have := h5 i us[i] (ys[i]'(by omega)) (List.getElem?_eq_getElem _) (List.getElem?_eq_getElem _)
      rw [this]; rfl
    · rw [List.getElem?_eq_none (by omega), List.getElem?_eq_none (by simp; omega)]
  subst hus
  obtain ⟨g', cap', hv', hc, hrw, hb⟩ := Rw.of_own (n := ys.length) (own_base h4 (Nat.zero_le _)) (by omega)
  cases hv'
  have hlow := Go.Vc.own_lt h4 g rfl
  have hle : (j + 1) * s ≤ ys.length * s := Nat.mul_le_mul_right _ hj
  rw [Nat.add_mul, Nat.one_mul] at hle
  have hfl := h4.1
  refine op_storeR1 hel hrw (by omega) hv fun w' k' z' hrw' => ?_
  have e1 := set_flat hf hr ys j hj y hy
  rw [e1] at hrw'
  refine hK w' k' z' ⟨⟨(ys.set j y).map f, by simp, fun u hu => by obtain ⟨x, _, rfl⟩ := List.mem_map.1 hu; exact hf x, ?_, fun i u y' hu hy => ?_⟩, fun _ h => h.elim, fun _ _ h => h⟩
  · rw [List.length_set]
    have hn : ((ys.set j y).map f).flatten.length = ys.length * s := by
      rw [flatten_len (k := s) fun u hu => by obtain ⟨x, _, rfl⟩ := List.mem_map.1 hu; exact hf x]; simp
    obtain ⟨q1, ⟨_, q2⟩ | ⟨g2, cap2, cur2, q2, q3, q4⟩⟩ := hrw'.own hn hc
    · omega
    · cases q2
      exact ⟨q1, .inr ⟨g, c, cur2, rfl, hlow.1, q4⟩⟩
  · rw [List.getElem?_map, hy] at hu
    exact (Option.some.inj hu).symm
end Go.Vc
end
section
/- slices.Clone of steps, laws.FnMapBuild. -/
set_option maxRecDepth 100000
set_option maxHeartbeats 4000000
set_option linter.unusedSimpArgs false
set_option linter.unusedVariables false
set_option linter.unusedSectionVars false
namespace Go.Proofs.Ytbghmbbhkoniiaa.I
open Go.Vc Go.Proofs Go.Proofs.Ytbghmbbhkoniiaa Go.Vc.Nd
variable {w w' wz wy : World} {v hv : Value} {t t' : Tr} {F F' G : Nat → Prop} {K : Value → World → Prop} {Kp : KP} {hash : Ky → Nat} {k : Ky} {x : Vl} {l s rb md ml sh bb bm vb g : Nat} {r0 mu nl : Bool}
theorem apSStep : apOf Try.prog 25 = some (82, 5, 40) := by kernel_rfl
theorem cloneSteps_ok {a1 : Option Addr} {c1 : Nat} {steps : List MStep} (h1 : IsSl w (.slice a1 steps.length c1) steps.length (steps.flatMap MStep.cells)) (hn : steps.length < 2 ^ 31)
    (hK : ∀ l w', Frm (fun _ => False) w w' → FRow MStep.cells w' w.heap.size 82 5 l steps → K l w') : Calls Try.prog 30 #[.slice a1 steps.length c1] w (ret K Kp) := by
  refine vc30_calls ?_
  simp only [vc30]
  cases a1 with
  | none =>
    obtain ⟨a, c, he, _, _, _, hz⟩ := id h1
    cases he
    have : steps = [] := List.eq_nil_of_length_eq_zero (hz rfl)
    subst this
    try simp [-getElem?_pos, -Array.getElem?_eq_getElem, List.getElem?_cons_zero, List.getElem?_cons_succ, -Int.natCast_add, add_spot, and_assoc, Br_dec, -op_box, -op_lit_25_0, -op_alloc_41, -op_st_41, -op_st_3, ]
    exact hK _ w Frm.refl rows_nil
  | some p =>
    try simp [-getElem?_pos, -Array.getElem?_eq_getElem, List.getElem?_cons_zero, List.getElem?_cons_succ, -Int.natCast_add, add_spot, and_assoc, Br_dec, -op_box, -op_lit_25_0, -op_alloc_41, -op_st_41, -op_st_3, ]
    refine op_row0 (f := MStep.cells) (base := w.heap.size) apSStep (by kernel_rfl) (Nat.le_refl _) fun l2 w2 k2 hR2 ho2 => ?_
    have lo2 := hR2.own_lt
    refine op_concat (f := MStep.cells) apSStep mcells_len one_cells hR2 (h1.still k2) (by simp; omega) k2.size fun l3 w3 k3 hR3 => ?_
    rw [List.nil_append] at hR3
    try simp [-getElem?_pos, -Array.getElem?_eq_getElem, List.getElem?_cons_zero, List.getElem?_cons_succ, -Int.natCast_add, add_spot, and_assoc, Br_dec, -op_box, -op_lit_25_0, -op_alloc_41, -op_st_41, -op_st_3, ]
    exact hK l3 w3 (k2.old k3 fun c hc => .inr (by have := lo2 c hc.symm; omega)) hR3
/-- The steps, the first i of them each from the one before. -/
def linedTo (steps : List MStep) (i : Nat) : List MStep := steps.mapIdx fun j s => if j < i then { s with fro := j } else s
theorem linedTo_len (steps : List MStep) (i : Nat) : (linedTo steps i).length = steps.length := by simp [linedTo]
theorem linedTo_zero (steps : List MStep) : linedTo steps 0 = steps := by
  apply List.ext_getElem? ; intro j
  simp [linedTo, List.getElem?_mapIdx]
theorem linedTo_all (steps : List MStep) : linedTo steps steps.length = lineOf steps := by
  apply List.ext_getElem? ; intro j
  simp only [linedTo, lineOf, List.getElem?_mapIdx]
  cases h : steps[j]? with
  | none => rfl
  | some s => simp [(List.getElem?_eq_some_iff.1 h).1]
theorem linedTo_get (steps : List MStep) {i : Nat} (hi : i < steps.length) : (linedTo steps i)[i]'(by rw [linedTo_len]; exact hi) = steps[i] := by simp [linedTo]
theorem linedTo_succ (steps : List MStep) {i : Nat} (hi : i < steps.length) : linedTo steps (i + 1) = (linedTo steps i).set i { steps[i] with fro := i } := by
  apply List.ext_getElem? ; intro j
  rw [List.getElem?_set]
  simp only [linedTo, List.length_mapIdx, List.getElem?_mapIdx]
  by_cases h : i = j
  · subst h
    simp [hi]
  · rw [if_neg h]
    cases hs : steps[j]? with
    | none => rfl
    | some s =>
      simp only [Option.map_some]
      by_cases h2 : j < i
      · rw [if_pos (by omega), if_pos h2]
      · rw [if_neg (by omega), if_neg h2]
/-- laws.FnMapBuild. -/
theorem law_build {a1 a2 : Option Addr} {c1 c2 : Nat} {steps : List MStep} {keys : List Int} (h1 : IsSl w (.slice a1 steps.length c1) steps.length (steps.flatMap MStep.cells)) (h2 : Row w a2 (keys.flatMap i1)) (hK : ∀ w', Frm (fun _ => False) w w' → K (.bool true) w') :
    Calls Try.prog 11 #[hval md ml sh, .slice a1 steps.length c1, .slice a2 keys.length c2] w (ret K Kp) := by
  refine vc11_calls ?_
  simp only [vc11]
  refine op_box_ok fun w1 k1 z1 b1' => ?_
  simp only [hval, cells_agg] at b1'
  have hx3 : (#[Value.int .u32 (md : Int), .int .u32 (ml : Int), .int .u8 (sh : Int)] : Array Value).extract 0 3 = #[.int .u32 md, .int .u32 ml, .int .u8 sh] := rfl
  have hawake : ∀ {wz}, Frm (fun _ => False) w wz → Calls Try.prog 13 #[] wz (ret K Kp) := fun {wz} kz => mapAwake_ok fun w3 k3 => hK w3 (kz.no k3)
  try simp [-getElem?_pos, -Array.getElem?_eq_getElem, List.getElem?_cons_zero, List.getElem?_cons_succ, -Int.natCast_add, add_spot, and_assoc, Br_dec, -op_box, -op_lit_25_0, -op_alloc_41, -op_st_41, -op_st_3, b1']
  refine ⟨fun _ => hK w1 k1, fun hle => ⟨fun _ => hK w1 k1, fun hle2 => ?_⟩⟩
  refine cloneSteps_ok (h1.still k1) (by omega) fun l2 w2 k2 hR2 => ?_
  have k02 := k1.no k2
  have n2 := k2.size
  have b2 := k2.get b1' fun h => h
  have hlen : ∃ a c, l2 = .slice a steps.length c := by obtain ⟨a, c, h, _⟩ := hR2.slice; exact ⟨a, c, h⟩
  obtain ⟨aL, cL, rfl⟩ := hlen
  try simp [-getElem?_pos, -Array.getElem?_eq_getElem, List.getElem?_cons_zero, List.getElem?_cons_succ, -Int.natCast_add, add_spot, and_assoc, Br_dec, -op_box, -op_lit_25_0, -op_alloc_41, -op_st_41, -op_st_3, ]
  obtain ⟨I, hI⟩ : ∃ I : Value → World → Prop, ∀ v wl, I v wl ↔ ∃ i : Nat, v = .int .i64 i ∧ i ≤ steps.length ∧ Frm (fun b => some b = (Value.slice aL steps.length cL).ownBlock) w2 wl ∧ FRow MStep.cells wl w1.heap.size 82 5 (.slice aL steps.length cL) (linedTo steps i) := ⟨_, fun _ _ => Iff.rfl⟩
  refine Lp.intro I (fun v _ => steps.length - natOf v) ⟨(hI _ _).2 ⟨0, rfl, by omega, Frm.refl, by rw [linedTo_zero]; exact hR2⟩, ?_⟩
  intro wl v hl
  obtain ⟨i, rfl, hi, kl, hR⟩ := (hI _ _).1 hl
  have lo := hR.own_lt
  simp only [op_lss, Br_dec]
  refine ⟨fun hlt' => ?_, fun hge => ?_⟩
  · have hi' : i < steps.length := by omega
    have hll := linedTo_len steps i
    obtain ⟨gg, cc, cs, he, hcs, _, hsz, _⟩ := frow_get hR (j := i) (by omega)
    obtain ⟨rfl, rfl⟩ : aL = some ⟨gg, 0, none⟩ ∧ cL = cc := by rw [hll] at he; injection he with e1 e2 e3; exact ⟨e1, e3⟩
    try simp [-getElem?_pos, -Array.getElem?_eq_getElem, List.getElem?_cons_zero, List.getElem?_cons_succ, -Int.natCast_add, add_spot, and_assoc, Br_dec, -op_box, -op_lit_25_0, -op_alloc_41, -op_st_41, -op_st_3, hcs]
    refine ⟨hi', ?_⟩
    have hR' : FRow MStep.cells wl w1.heap.size 82 5 (.slice (some ⟨gg, 0, none⟩) (linedTo steps i).length cL) (linedTo steps i) := by rw [hll]; exact hR
    refine op_store_cell (y := { steps[i] with fro := i }) (by kernel_rfl) mcells_len (by rfl) hR' (by omega) (by decide) (by rw [linedTo_get steps hi']; rfl) fun w3 k3 z3 hR3 => ?_
    rw [← linedTo_succ steps hi', hll] at hR3
    rw [wrap_i64_small (by omega) (by omega)]
    refine ⟨(hI _ _).2 ⟨i + 1, by simp, by omega, kl.trans k3 fun c hc _ => by subst hc; rfl, hR3⟩, ?_⟩
    simp only [natOf]; omega
  have : i = steps.length := by omega
  subst this
  rw [linedTo_all] at hR
  obtain ⟨L, hL⟩ : ∃ L, L = lineOf steps := ⟨_, rfl⟩
  have hLl : L.length = steps.length := by rw [hL, lineOf_len]
  have hLv : (versM L)[L.length]? = some (lineM steps) := by rw [hLl, hL]; exact line_vers steps
  rw [← hL] at hR
  have hloc : ∀ c, some c = (Value.slice aL steps.length cL).ownBlock → w.heap.size ≤ c ∧ c ≠ w.heap.size := fun c hc => by have := lo c hc.symm; omega
  have k0l : Frm (fun _ => False) w wl := k02.old kl fun c hc => .inr (hloc c hc).1
  have bl := kl.get b2 fun h => (hloc _ h).2 rfl
  have hrL : Row wl aL (L.flatMap MStep.cells) := by obtain ⟨a, c, he, _, _, h, _⟩ := hR.flat; injection he with q1 q2 q3; rw [q1]; exact h
  have h2l := h2.frame k0l fun _ _ h => h
  have nl0 := k0l.size
  have hbl := lt_of_get bl
  clear hI hl I hR hR2 lo hloc kl b2 b1' k1 k2 k02 n2 h1 h2 hge z1
  rw [← hLl]
  try simp [-getElem?_pos, -Array.getElem?_eq_getElem, List.getElem?_cons_zero, List.getElem?_cons_succ, -Int.natCast_add, add_spot, and_assoc, Br_dec, -op_box, -op_lit_25_0, -op_alloc_41, -op_st_41, -op_st_3, bl, hx3]
  refine fits_ok (md := md) (ml := ml) (sh := sh) hrL (by omega) (fun w3 k3 => ?_) fun hfit h12 hsh w3 k3 => ?_
  · try simp [-getElem?_pos, -Array.getElem?_eq_getElem, List.getElem?_cons_zero, List.getElem?_cons_succ, -Int.natCast_add, add_spot, and_assoc, Br_dec, -op_box, -op_lit_25_0, -op_alloc_41, -op_st_41, -op_st_3, ]
    exact hawake (k0l.no k3)
  try simp [-getElem?_pos, -Array.getElem?_eq_getElem, List.getElem?_cons_zero, List.getElem?_cons_succ, -Int.natCast_add, add_spot, and_assoc, Br_dec, -op_box, -op_lit_25_0, -op_alloc_41, -op_st_41, -op_st_3, ]
  have k03 := k0l.no k3
  refine ⟨fun _ => hawake k03, fun h300 => ?_⟩
  have hrL3 := hrL.frame k3 fun _ _ h => h
  refine mapVersions_ok hrL3 hfit.m (by omega) fun l4 w4 G4 k4 hR4 => ?_
  have b4 := k4.get (k3.get bl fun h => h) fun h => h
  have k04 := k03.no k4
  have hrL4 := hrL3.frame k4 fun _ _ h => h
  have h24 := (h2l.frame k3 fun _ _ h => h).frame k4 fun _ _ h => h
  have hM := versM_len L
  obtain ⟨u', g', c', cs', rfl, hcs', hu', hg', _, _, bM, D, hbM, hMap, htD, _⟩ := hR4.get (j := L.length) (by omega)
  subst hbM
  have q1 : cs'[L.length]? = some (.map (some bM)) := by have := hg' 0 (by decide); simpa using this
  have hLv' : (versM L)[L.length]'(by omega) = lineM steps := by have := List.getElem?_eq_getElem (l := versM L) (i := L.length) (by omega); rw [hLv] at this; exact (Option.some.inj this).symm
  rw [hLv'] at htD
  have ew : IntKind.i64.wrap (((L.length + 1 : Nat) : Int) - 1) = L.length := by rw [IntKind.wrap_i64]; omega
  rw [hM]
  try simp [-getElem?_pos, -Array.getElem?_eq_getElem, List.getElem?_cons_zero, List.getElem?_cons_succ, -Int.natCast_add, add_spot, and_assoc, Br_dec, -op_box, -op_lit_25_0, -op_alloc_41, -op_st_41, -op_st_3, ew, hcs', q1, b4, hx3]
  have hlt := hashOf_lt md ml sh
  have hIs := line_is hlt L
  have hLm : lineM L = lineM steps := by rw [hL]; exact lineM_lineOf steps
  have hszt := (line_size hlt L).2
  rw [hLm] at hIs
  have hcost := hfit.cost
  obtain ⟨J, hJ⟩ : ∃ J : Value → Value → Value → Value → Value → World → Prop, ∀ pb pm vs hs pn wz, J pb pm vs hs pn wz ↔ ∃ bb bm p1 p2, pb = ptr bb ∧ pm = ptr bm ∧ pn = .bool true ∧ Frm (fun _ => False) w4 wz ∧
      wz.heap[bb]? = some (.cells #[.int .i64 (toL (lineT (hashOf md ml sh) L)).length, p1] 41 (0, 0)) ∧ wz.heap[bm]? = some (.cells #[.int .i64 (toL (lineT (hashOf md ml sh) L)).length, p2] 41 (0, 0)) ∧
      IsPairs wz p1 (toL (lineT (hashOf md ml sh) L)) ∧ IsPairs wz p2 (toL (lineT (hashOf md ml sh) L)) ∧ FRow i1 wz 0 2 1 vs (keys.map (valOf (lineM L))) ∧ FRow b1 wz 0 4 1 hs (keys.map (hasOf (lineM L))) := ⟨_, fun _ _ _ _ _ _ => Iff.rfl⟩
  have hfin : ∀ {wz : World} {bb bm : Nat} {p1 p2 l5 l6 : Value}, Frm (fun _ => False) w4.drew wz → wz.heap[bb]? = some (.cells #[.int .i64 0, .slice none 0 0] 41 (0, 0)) → wz.heap[bm]? = some (.cells #[.int .i64 0, .slice none 0 0] 41 (0, 0)) → bb ≠ bm → w4.drew.heap.size ≤ bb → w4.drew.heap.size ≤ bm →
      IsPairs wz p1 (toL (lineT (hashOf md ml sh) L)) → IsPairs wz p2 (toL (lineT (hashOf md ml sh) L)) → FRow i1 wz 0 2 1 l5 (keys.map (valOf (lineM L))) → FRow b1 wz 0 4 1 l6 (keys.map (hasOf (lineM L))) →
      (∀ b, p1.ownBlock = some b ∨ p2.ownBlock = some b → b ≠ bb ∧ b ≠ bm) → (∀ b, l5.ownBlock = some b ∨ l6.ownBlock = some b → b ≠ bb ∧ b ≠ bm) →
      (nice Try.prog).op (.store 41 (.pointer (some ⟨bb, 0, none⟩)) (.agg #[.int .i64 (toL (lineT (hashOf md ml sh) L)).length, p1])) wz (fun _ wz => (nice Try.prog).op (.store 41 (.pointer (some ⟨bm, 0, none⟩)) (.agg #[.int .i64 (toL (lineT (hashOf md ml sh) L)).length, p2])) wz (fun _ wz => J (.pointer (some ⟨bb, 0, none⟩)) (.pointer (some ⟨bm, 0, none⟩)) l5 l6 (.bool true) wz) Kp) Kp := by
    intro wz bb bm p1 p2 l5 l6 kz hb hm hne hlb hlm hP1 hP2 hV hH ho1 ho2
    have e0 : w4.drew.heap.size = w4.heap.size := rfl
    refine op_storeN_ok (n := 2) (by kernel_rfl) hb rfl (by simp) (by simp [hP1.one]) fun w5 k5 z5 b5 => ?_
    have b5 : w5.heap[bb]? = some (.cells #[.int .i64 (toL (lineT (hashOf md ml sh) L)).length, p1] 41 (0, 0)) := by
      rw [ow_all (by simp)] at b5; simpa using b5
    refine op_storeN_ok (n := 2) (by kernel_rfl) (k5.get hm fun e => hne e.symm) rfl (by simp) (by simp [hP2.one]) fun w6 k6 z6 b6 => ?_
    have b6 : w6.heap[bm]? = some (.cells #[.int .i64 (toL (lineT (hashOf md ml sh) L)).length, p2] 41 (0, 0)) := by
      rw [ow_all (by simp)] at b6; simpa using b6
    have k56 : Frm (fun c => c = bb ∨ c = bm) wz w6 := (k5.to (M' := fun c => c = bb ∨ c = bm) fun _ h => .inl h).trans k6 fun c hc _ => .inr hc
    refine (hJ _ _ _ _ _ _).2 ⟨bb, bm, p1, p2, rfl, rfl, rfl, ((Frm.drew (M := fun _ => False) w4).no kz).old k56 fun c hc => .inr (by omega), k6.get b5 fun e => hne e, b6, ?_, ?_, ?_, ?_⟩
    · exact hP1.frame k56 fun b hb e => by have := ho1 b (.inl hb); omega
    · exact hP2.frame k56 fun b hb e => by have := ho1 b (.inr hb); omega
    · exact frow_frame hV k56 fun b hb e => by have := ho2 b (.inl hb); omega
    · exact frow_frame hH k56 fun b hb e => by have := ho2 b (.inr hb); omega
  have e4 : w4.drew.heap.size = w4.heap.size := rfl
  have kd4 : Frm (fun _ => False) w4.drew w4.drew := Frm.refl
  have bd4 : w4.drew.heap[w.heap.size]? = _ := b4
  have kdd : Frm (fun _ => False) w4 w4.drew := Frm.drew _
  have hrLd := hrL4.frame kdd fun _ _ h => h
  have h2d := h24.frame kdd fun _ _ h => h
  refine Jn.intro J ⟨?_, ?_, ?_, ?_⟩
  rotate_right
  · intro wz pb pm vs hs pn hj
    obtain ⟨bb, bm, p1, p2, rfl, rfl, rfl, kz, hbb, hbm, hP1, hP2, hV, hH⟩ := (hJ _ _ _ _ _ _).1 hj
    have k0z := k04.no kz
    rw [hLm] at hV hH
    have htoL := hIs.nodup
    have hMz := hMap.frame kz fun h => h
    try simp [-getElem?_pos, -Array.getElem?_eq_getElem, List.getElem?_cons_zero, List.getElem?_cons_succ, -Int.natCast_add, add_spot, and_assoc, Br_dec, -op_box, -op_lit_25_0, -op_alloc_41, -op_st_41, -op_st_3, hbb, ptr]
    refine mapSaid_ok hMz htD hIs.2 htoL hP1 (by omega) fun w5 k5 => ?_
    have bm5 := k5.get hbm fun h => h
    try simp [-getElem?_pos, -Array.getElem?_eq_getElem, List.getElem?_cons_zero, List.getElem?_cons_succ, -Int.natCast_add, add_spot, and_assoc, Br_dec, -op_box, -op_lit_25_0, -op_alloc_41, -op_st_41, -op_st_3, bm5]
    refine mapSaid_ok (hMz.frame k5 fun h => h) htD hIs.2 htoL (hP2.still k5) (by omega) fun w6 k6 => ?_
    have k56 := k5.no k6
    have hV6 := frow_still hV k56
    have hH6 := frow_still hH k56
    obtain ⟨g5, c5, hl5⟩ : ∃ a c, vs = .slice a keys.length c := by obtain ⟨a, c, h, _⟩ := hV.slice; exact ⟨a, c, by simpa using h⟩
    obtain ⟨g6, c6, hl6⟩ : ∃ a c, hs = .slice a keys.length c := by obtain ⟨a, c, h, _⟩ := hH.slice; exact ⟨a, c, by simpa using h⟩
    have h26 := h24.frame (kz.no k56) fun _ _ h => h
    have hM6 := hMz.frame k56 fun h => h
    have k06 := k0z.no k56
    subst hl5 hl6
    try simp [-getElem?_pos, -Array.getElem?_eq_getElem, List.getElem?_cons_zero, List.getElem?_cons_succ, -Int.natCast_add, add_spot, and_assoc, Br_dec, -op_box, -op_lit_25_0, -op_alloc_41, -op_st_41, -op_st_3, ]
    obtain ⟨I, hI⟩ : ∃ I : Value → World → Prop, ∀ v wl, I v wl ↔ ∃ i : Nat, v = .int .i64 i ∧ i ≤ keys.length ∧ Frm (fun _ => False) w6 wl := ⟨_, fun _ _ => Iff.rfl⟩
    refine Lp.intro I (fun v _ => keys.length - natOf v) ⟨(hI _ _).2 ⟨0, rfl, by omega, Frm.refl⟩, ?_⟩
    intro wl s hl
    obtain ⟨i, rfl, hi, kl⟩ := (hI _ _).1 hl
    simp only [op_lss, Br_dec]
    refine ⟨fun hlt' => ?_, fun hnl' => hawake (k06.no kl)⟩
    have hi' : i < keys.length := by omega
    obtain ⟨bp, o, cs, e, fz, rfl, hcs, hsz, hext⟩ := (h26.frame kl fun _ _ h => h).part i1_len (by decide) hi'
    have hki : cs[o + i]? = some (.int .i64 keys[i]) := by
      have := congrArg (fun a => a[0]?) hext
      simp only [Array.getElem?_extract] at this
      rw [if_pos (by omega)] at this
      simpa [i1] using this
    obtain ⟨x5, d5, e5, he5, y5, z5, _, _⟩ := frow_get (frow_still hV6 kl) (j := i) (by simpa using hi')
    obtain ⟨x6, d6, e6, he6, y6, z6, _, _⟩ := frow_get (frow_still hH6 kl) (j := i) (by simpa using hi')
    have q5 : e5[i]? = some (.int .i64 (valOf (lineM steps) keys[i])) := by have := z5 0 (by decide); simpa [i1] using this
    have q6 : e6[i]? = some (.bool (hasOf (lineM steps) keys[i])) := by have := z6 0 (by decide); simpa [b1] using this
    rw [he5, he6]
    simp only [List.length_map]
    try simp [-getElem?_pos, -Array.getElem?_eq_getElem, List.getElem?_cons_zero, List.getElem?_cons_succ, -Int.natCast_add, add_spot, and_assoc, Br_dec, -op_box, -op_lit_25_0, -op_alloc_41, -op_st_41, -op_st_3, hcs, hki]
    refine ⟨hi', ?_⟩
    refine op_lookup (E := kE) (ev := ev) (k := keys[i]) (z := .int .i64 0) Try.underlying30 (by kernel_rfl) (hM6.frame kl fun h => h) ?_
    rw [tells_look hMap.nodup htD]
    have hva : ((lineM steps keys[i]).map ev).getD (.int .i64 0) = .int .i64 (valOf (lineM steps) keys[i]) := by unfold valOf; cases lineM steps keys[i] <;> rfl
    have hha : (lineM steps keys[i]).isSome = hasOf (lineM steps) keys[i] := rfl
    rw [hva, hha]
    try simp [-getElem?_pos, -Array.getElem?_eq_getElem, List.getElem?_cons_zero, List.getElem?_cons_succ, -Int.natCast_add, add_spot, and_assoc, Br_dec, -op_box, -op_lit_25_0, -op_alloc_41, -op_st_41, -op_st_3, y5, y6, q5, q6]
    rw [wrap_i64_small (by omega) (by omega)]
    refine ⟨hi', (hI _ _).2 ⟨i + 1, by simp, by omega, kl⟩, ?_⟩
    simp only [natOf]; omega
  · refine mapTo_ok hrLd (by omega) fun l_1 w_1 k_1 R_1 => ?_
    obtain ⟨aT_1, cT_1, rfl, _, _, T_1, _⟩ := R_1.flat
    have n_1 := k_1.size
    have K_1 := kd4.no k_1
    have h_1 := k_1.get bd4 fun h => h
    have L_x1 := hrLd.frame k_1 fun _ _ h => h
    have key_x1 := h2d.frame k_1 fun _ _ h => h
    try simp [-getElem?_pos, -Array.getElem?_eq_getElem, List.getElem?_cons_zero, List.getElem?_cons_succ, -Int.natCast_add, add_spot, and_assoc, Br_dec, -op_box, -op_lit_25_0, -op_alloc_41, -op_st_41, -op_st_3, h_1, hx3]
    refine ⟨?_, ?_, ?_⟩
    · refine mapBuild_ok (md := md) (ml := ml) (sh := sh) T_1 hfit.m (by have := hfit.cost; omega) key_x1 (by omega) fun p1_2 p2_2 l5_2 l6_2 w_2 k_2 P1_2 P2_2 V_2 H_2 low_2 => ?_
      have lv_2 := V_2.own_lt
      have lh_2 := H_2.own_lt
      have lowr_2 : ∀ b, l5_2.ownBlock = some b ∨ l6_2.ownBlock = some b → w_1.heap.size ≤ b ∧ b < w_2.heap.size := fun b hb => hb.elim (fun h => lv_2 b h) fun h => lh_2 b h
      have V0_2 := V_2.base_le (Nat.zero_le _)
      have H0_2 := H_2.base_le (Nat.zero_le _)
      have n_2 := k_2.size
      have K_2 := K_1.no k_2
      have h_2 := k_2.get h_1 fun h => h
      have L_x2 := L_x1.frame k_2 fun _ _ h => h
      have key_x2 := key_x1.frame k_2 fun _ _ h => h
      have T_x2 := T_1.frame k_2 fun _ _ h => h
      try simp [-getElem?_pos, -Array.getElem?_eq_getElem, List.getElem?_cons_zero, List.getElem?_cons_succ, -Int.natCast_add, add_spot, and_assoc, Br_dec, -op_box, -op_lit_25_0, -op_alloc_41, -op_st_41, -op_st_3, h_2, hx3]
      refine ⟨?_, ?_⟩
      · refine op_alloc_ok (z := .agg #[.int .i64 0, .slice none 0 0]) (by kernel_rfl) fun w_3 k_3 z_3 b_3 => ?_
        simp only [cells_agg] at b_3
        have n_3 := k_3.size
        have K_3 := K_2.no k_3
        have h_3 := k_3.get h_2 fun h => h
        have L_x3 := L_x2.frame k_3 fun _ _ h => h
        have key_x3 := key_x2.frame k_3 fun _ _ h => h
        have T_x3 := T_x2.frame k_3 fun _ _ h => h
        have P1_x3 := P1_2.still k_3
        have P2_x3 := P2_2.still k_3
        have V_x3 := frow_still V0_2 k_3
        have H_x3 := frow_still H0_2 k_3
        try simp [-getElem?_pos, -Array.getElem?_eq_getElem, List.getElem?_cons_zero, List.getElem?_cons_succ, -Int.natCast_add, add_spot, and_assoc, Br_dec, -op_box, -op_lit_25_0, -op_alloc_41, -op_st_41, -op_st_3, h_3, hx3]
        refine op_alloc_ok (z := .agg #[.int .i64 0, .slice none 0 0]) (by kernel_rfl) fun w_4 k_4 z_4 b_4 => ?_
        simp only [cells_agg] at b_4
        have n_4 := k_4.size
        have K_4 := K_3.no k_4
        have h_4 := k_4.get h_3 fun h => h
        have L_x4 := L_x3.frame k_4 fun _ _ h => h
        have key_x4 := key_x3.frame k_4 fun _ _ h => h
        have T_x4 := T_x3.frame k_4 fun _ _ h => h
        have b_x4 := k_4.get b_3 fun h => h
        have P1_x4 := P1_x3.still k_4
        have P2_x4 := P2_x3.still k_4
        have V_x4 := frow_still V_x3 k_4
        have H_x4 := frow_still H_x3 k_4
        try simp [-getElem?_pos, -Array.getElem?_eq_getElem, List.getElem?_cons_zero, List.getElem?_cons_succ, -Int.natCast_add, add_spot, and_assoc, Br_dec, -op_box, -op_lit_25_0, -op_alloc_41, -op_st_41, -op_st_3, h_4, hx3]
        exact hfin K_4 b_x4 b_4 (by omega) (by omega) (by omega) P1_x4 P2_x4 V_x4 H_x4 (fun b hb => by have := low_2 b hb; omega) (fun b hb => by have := lowr_2 b hb; omega)
      · refine op_alloc_ok (z := .agg #[.int .i64 0, .slice none 0 0]) (by kernel_rfl) fun w_5 k_5 z_5 b_5 => ?_
        simp only [cells_agg] at b_5
        have n_5 := k_5.size
        have K_5 := K_2.no k_5
        have h_5 := k_5.get h_2 fun h => h
        have L_x5 := L_x2.frame k_5 fun _ _ h => h
        have key_x5 := key_x2.frame k_5 fun _ _ h => h
        have T_x5 := T_x2.frame k_5 fun _ _ h => h
        have P1_x5 := P1_2.still k_5
        have P2_x5 := P2_2.still k_5
        have V_x5 := frow_still V0_2 k_5
        have H_x5 := frow_still H0_2 k_5
        try simp [-getElem?_pos, -Array.getElem?_eq_getElem, List.getElem?_cons_zero, List.getElem?_cons_succ, -Int.natCast_add, add_spot, and_assoc, Br_dec, -op_box, -op_lit_25_0, -op_alloc_41, -op_st_41, -op_st_3, h_5, hx3]
        refine op_alloc_ok (z := .agg #[.int .i64 0, .slice none 0 0]) (by kernel_rfl) fun w_6 k_6 z_6 b_6 => ?_
        simp only [cells_agg] at b_6
        have n_6 := k_6.size
        have K_6 := K_5.no k_6
        have h_6 := k_6.get h_5 fun h => h
        have L_x6 := L_x5.frame k_6 fun _ _ h => h
        have key_x6 := key_x5.frame k_6 fun _ _ h => h
        have T_x6 := T_x5.frame k_6 fun _ _ h => h
        have m_x6 := k_6.get b_5 fun h => h
        have P1_x6 := P1_x5.still k_6
        have P2_x6 := P2_x5.still k_6
        have V_x6 := frow_still V_x5 k_6
        have H_x6 := frow_still H_x5 k_6
        try simp [-getElem?_pos, -Array.getElem?_eq_getElem, List.getElem?_cons_zero, List.getElem?_cons_succ, -Int.natCast_add, add_spot, and_assoc, Br_dec, -op_box, -op_lit_25_0, -op_alloc_41, -op_st_41, -op_st_3, h_6, hx3]
        exact hfin K_6 b_6 m_x6 (by omega) (by omega) (by omega) P1_x6 P2_x6 V_x6 H_x6 (fun b hb => by have := low_2 b hb; omega) (fun b hb => by have := lowr_2 b hb; omega)
    · refine op_alloc_ok (z := .agg #[.int .i64 0, .slice none 0 0]) (by kernel_rfl) fun w_7 k_7 z_7 b_7 => ?_
      simp only [cells_agg] at b_7
      have n_7 := k_7.size
      have K_7 := K_1.no k_7
      have h_7 := k_7.get h_1 fun h => h
      have L_x7 := L_x1.frame k_7 fun _ _ h => h
      have key_x7 := key_x1.frame k_7 fun _ _ h => h
      have T_x7 := T_1.frame k_7 fun _ _ h => h
      try simp [-getElem?_pos, -Array.getElem?_eq_getElem, List.getElem?_cons_zero, List.getElem?_cons_succ, -Int.natCast_add, add_spot, and_assoc, Br_dec, -op_box, -op_lit_25_0, -op_alloc_41, -op_st_41, -op_st_3, h_7, hx3]
      refine ⟨?_, ?_⟩
      · refine mapBuild_ok (md := md) (ml := ml) (sh := sh) T_x7 hfit.m (by have := hfit.cost; omega) key_x7 (by omega) fun p1_8 p2_8 l5_8 l6_8 w_8 k_8 P1_8 P2_8 V_8 H_8 low_8 => ?_
        have lv_8 := V_8.own_lt
        have lh_8 := H_8.own_lt
        have lowr_8 : ∀ b, l5_8.ownBlock = some b ∨ l6_8.ownBlock = some b → w_7.heap.size ≤ b ∧ b < w_8.heap.size := fun b hb => hb.elim (fun h => lv_8 b h) fun h => lh_8 b h
        have V0_8 := V_8.base_le (Nat.zero_le _)
        have H0_8 := H_8.base_le (Nat.zero_le _)
        have n_8 := k_8.size
        have K_8 := K_7.no k_8
        have h_8 := k_8.get h_7 fun h => h
        have L_x8 := L_x7.frame k_8 fun _ _ h => h
        have key_x8 := key_x7.frame k_8 fun _ _ h => h
        have T_x8 := T_x7.frame k_8 fun _ _ h => h
        have b_x8 := k_8.get b_7 fun h => h
        try simp [-getElem?_pos, -Array.getElem?_eq_getElem, List.getElem?_cons_zero, List.getElem?_cons_succ, -Int.natCast_add, add_spot, and_assoc, Br_dec, -op_box, -op_lit_25_0, -op_alloc_41, -op_st_41, -op_st_3, h_8, hx3]
        refine op_alloc_ok (z := .agg #[.int .i64 0, .slice none 0 0]) (by kernel_rfl) fun w_9 k_9 z_9 b_9 => ?_
        simp only [cells_agg] at b_9
        have n_9 := k_9.size
        have K_9 := K_8.no k_9
        have h_9 := k_9.get h_8 fun h => h
        have L_x9 := L_x8.frame k_9 fun _ _ h => h
        have key_x9 := key_x8.frame k_9 fun _ _ h => h
        have T_x9 := T_x8.frame k_9 fun _ _ h => h
        have b_x9 := k_9.get b_x8 fun h => h
        have P1_x9 := P1_8.still k_9
        have P2_x9 := P2_8.still k_9
        have V_x9 := frow_still V0_8 k_9
        have H_x9 := frow_still H0_8 k_9
        try simp [-getElem?_pos, -Array.getElem?_eq_getElem, List.getElem?_cons_zero, List.getElem?_cons_succ, -Int.natCast_add, add_spot, and_assoc, Br_dec, -op_box, -op_lit_25_0, -op_alloc_41, -op_st_41, -op_st_3, h_9, hx3]
        exact hfin K_9 b_x9 b_9 (by omega) (by omega) (by omega) P1_x9 P2_x9 V_x9 H_x9 (fun b hb => by have := low_8 b hb; omega) (fun b hb => by have := lowr_8 b hb; omega)
      · refine op_alloc_ok (z := .agg #[.int .i64 0, .slice none 0 0]) (by kernel_rfl) fun w_10 k_10 z_10 b_10 => ?_
        simp only [cells_agg] at b_10
        have n_10 := k_10.size
        have K_10 := K_7.no k_10
        have h_10 := k_10.get h_7 fun h => h
        have L_x10 := L_x7.frame k_10 fun _ _ h => h
        have key_x10 := key_x7.frame k_10 fun _ _ h => h
        have T_x10 := T_x7.frame k_10 fun _ _ h => h
        have b_x10 := k_10.get b_7 fun h => h
        try simp [-getElem?_pos, -Array.getElem?_eq_getElem, List.getElem?_cons_zero, List.getElem?_cons_succ, -Int.natCast_add, add_spot, and_assoc, Br_dec, -op_box, -op_lit_25_0, -op_alloc_41, -op_st_41, -op_st_3, h_10, hx3]
        refine mapBuild_ok (md := md) (ml := ml) (sh := sh) T_x10 hfit.m (by have := hfit.cost; omega) key_x10 (by omega) fun p1_11 p2_11 l5_11 l6_11 w_11 k_11 P1_11 P2_11 V_11 H_11 low_11 => ?_
        have lv_11 := V_11.own_lt
        have lh_11 := H_11.own_lt
        have lowr_11 : ∀ b, l5_11.ownBlock = some b ∨ l6_11.ownBlock = some b → w_10.heap.size ≤ b ∧ b < w_11.heap.size := fun b hb => hb.elim (fun h => lv_11 b h) fun h => lh_11 b h
        have V0_11 := V_11.base_le (Nat.zero_le _)
        have H0_11 := H_11.base_le (Nat.zero_le _)
        have n_11 := k_11.size
        have K_11 := K_10.no k_11
        have h_11 := k_11.get h_10 fun h => h
        have L_x11 := L_x10.frame k_11 fun _ _ h => h
        have key_x11 := key_x10.frame k_11 fun _ _ h => h
        have T_x11 := T_x10.frame k_11 fun _ _ h => h
        have b_x11 := k_11.get b_x10 fun h => h
        have m_x11 := k_11.get b_10 fun h => h
        try simp [-getElem?_pos, -Array.getElem?_eq_getElem, List.getElem?_cons_zero, List.getElem?_cons_succ, -Int.natCast_add, add_spot, and_assoc, Br_dec, -op_box, -op_lit_25_0, -op_alloc_41, -op_st_41, -op_st_3, h_11, hx3]
        exact hfin K_11 b_x11 m_x11 (by omega) (by omega) (by omega) P1_11 P2_11 V0_11 H0_11 (fun b hb => by have := low_11 b hb; omega) (fun b hb => by have := lowr_11 b hb; omega)
    · refine op_alloc_ok (z := .agg #[.int .i64 0, .slice none 0 0]) (by kernel_rfl) fun w_12 k_12 z_12 b_12 => ?_
      simp only [cells_agg] at b_12
      have n_12 := k_12.size
      have K_12 := K_1.no k_12
      have h_12 := k_12.get h_1 fun h => h
      have L_x12 := L_x1.frame k_12 fun _ _ h => h
      have key_x12 := key_x1.frame k_12 fun _ _ h => h
      have T_x12 := T_1.frame k_12 fun _ _ h => h
      try simp [-getElem?_pos, -Array.getElem?_eq_getElem, List.getElem?_cons_zero, List.getElem?_cons_succ, -Int.natCast_add, add_spot, and_assoc, Br_dec, -op_box, -op_lit_25_0, -op_alloc_41, -op_st_41, -op_st_3, h_12, hx3]
      refine ⟨?_, ?_⟩
      · refine mapBuild_ok (md := md) (ml := ml) (sh := sh) T_x12 hfit.m (by have := hfit.cost; omega) key_x12 (by omega) fun p1_13 p2_13 l5_13 l6_13 w_13 k_13 P1_13 P2_13 V_13 H_13 low_13 => ?_
        have lv_13 := V_13.own_lt
        have lh_13 := H_13.own_lt
        have lowr_13 : ∀ b, l5_13.ownBlock = some b ∨ l6_13.ownBlock = some b → w_12.heap.size ≤ b ∧ b < w_13.heap.size := fun b hb => hb.elim (fun h => lv_13 b h) fun h => lh_13 b h
        have V0_13 := V_13.base_le (Nat.zero_le _)
        have H0_13 := H_13.base_le (Nat.zero_le _)
        have n_13 := k_13.size
        have K_13 := K_12.no k_13
        have h_13 := k_13.get h_12 fun h => h
        have L_x13 := L_x12.frame k_13 fun _ _ h => h
        have key_x13 := key_x12.frame k_13 fun _ _ h => h
        have T_x13 := T_x12.frame k_13 fun _ _ h => h
        have m_x13 := k_13.get b_12 fun h => h
        try simp [-getElem?_pos, -Array.getElem?_eq_getElem, List.getElem?_cons_zero, List.getElem?_cons_succ, -Int.natCast_add, add_spot, and_assoc, Br_dec, -op_box, -op_lit_25_0, -op_alloc_41, -op_st_41, -op_st_3, h_13, hx3]
        refine op_alloc_ok (z := .agg #[.int .i64 0, .slice none 0 0]) (by kernel_rfl) fun w_14 k_14 z_14 b_14 => ?_
        simp only [cells_agg] at b_14
        have n_14 := k_14.size
        have K_14 := K_13.no k_14
        have h_14 := k_14.get h_13 fun h => h
        have L_x14 := L_x13.frame k_14 fun _ _ h => h
        have key_x14 := key_x13.frame k_14 fun _ _ h => h
        have T_x14 := T_x13.frame k_14 fun _ _ h => h
        have m_x14 := k_14.get m_x13 fun h => h
        have P1_x14 := P1_13.still k_14
        have P2_x14 := P2_13.still k_14
        have V_x14 := frow_still V0_13 k_14
        have H_x14 := frow_still H0_13 k_14
        try simp [-getElem?_pos, -Array.getElem?_eq_getElem, List.getElem?_cons_zero, List.getElem?_cons_succ, -Int.natCast_add, add_spot, and_assoc, Br_dec, -op_box, -op_lit_25_0, -op_alloc_41, -op_st_41, -op_st_3, h_14, hx3]
        exact hfin K_14 b_14 m_x14 (by omega) (by omega) (by omega) P1_x14 P2_x14 V_x14 H_x14 (fun b hb => by have := low_13 b hb; omega) (fun b hb => by have := lowr_13 b hb; omega)
      · refine op_alloc_ok (z := .agg #[.int .i64 0, .slice none 0 0]) (by kernel_rfl) fun w_15 k_15 z_15 b_15 => ?_
        simp only [cells_agg] at b_15
        have n_15 := k_15.size
        have K_15 := K_12.no k_15
        have h_15 := k_15.get h_12 fun h => h
        have L_x15 := L_x12.frame k_15 fun _ _ h => h
        have key_x15 := key_x12.frame k_15 fun _ _ h => h
        have T_x15 := T_x12.frame k_15 fun _ _ h => h
        have m_x15 := k_15.get b_12 fun h => h
        try simp [-getElem?_pos, -Array.getElem?_eq_getElem, List.getElem?_cons_zero, List.getElem?_cons_succ, -Int.natCast_add, add_spot, and_assoc, Br_dec, -op_box, -op_lit_25_0, -op_alloc_41, -op_st_41, -op_st_3, h_15, hx3]
        refine mapBuild_ok (md := md) (ml := ml) (sh := sh) T_x15 hfit.m (by have := hfit.cost; omega) key_x15 (by omega) fun p1_16 p2_16 l5_16 l6_16 w_16 k_16 P1_16 P2_16 V_16 H_16 low_16 => ?_
        have lv_16 := V_16.own_lt
        have lh_16 := H_16.own_lt
        have lowr_16 : ∀ b, l5_16.ownBlock = some b ∨ l6_16.ownBlock = some b → w_15.heap.size ≤ b ∧ b < w_16.heap.size := fun b hb => hb.elim (fun h => lv_16 b h) fun h => lh_16 b h
        have V0_16 := V_16.base_le (Nat.zero_le _)
        have H0_16 := H_16.base_le (Nat.zero_le _)
        have n_16 := k_16.size
        have K_16 := K_15.no k_16
        have h_16 := k_16.get h_15 fun h => h
        have L_x16 := L_x15.frame k_16 fun _ _ h => h
        have key_x16 := key_x15.frame k_16 fun _ _ h => h
        have T_x16 := T_x15.frame k_16 fun _ _ h => h
        have b_x16 := k_16.get b_15 fun h => h
        have m_x16 := k_16.get m_x15 fun h => h
        try simp [-getElem?_pos, -Array.getElem?_eq_getElem, List.getElem?_cons_zero, List.getElem?_cons_succ, -Int.natCast_add, add_spot, and_assoc, Br_dec, -op_box, -op_lit_25_0, -op_alloc_41, -op_st_41, -op_st_3, h_16, hx3]
        exact hfin K_16 b_x16 m_x16 (by omega) (by omega) (by omega) P1_16 P2_16 V0_16 H0_16 (fun b hb => by have := low_16 b hb; omega) (fun b hb => by have := lowr_16 b hb; omega)
  · refine op_alloc_ok (z := .agg #[.int .i64 0, .slice none 0 0]) (by kernel_rfl) fun w_17 k_17 z_17 b_17 => ?_
    simp only [cells_agg] at b_17
    have n_17 := k_17.size
    have K_17 := kd4.no k_17
    have h_17 := k_17.get bd4 fun h => h
    have L_x17 := hrLd.frame k_17 fun _ _ h => h
    have key_x17 := h2d.frame k_17 fun _ _ h => h
    try simp [-getElem?_pos, -Array.getElem?_eq_getElem, List.getElem?_cons_zero, List.getElem?_cons_succ, -Int.natCast_add, add_spot, and_assoc, Br_dec, -op_box, -op_lit_25_0, -op_alloc_41, -op_st_41, -op_st_3, h_17, hx3]
    refine ⟨?_, ?_⟩
    · refine mapTo_ok L_x17 (by omega) fun l_18 w_18 k_18 R_18 => ?_
      obtain ⟨aT_18, cT_18, rfl, _, _, T_18, _⟩ := R_18.flat
      have n_18 := k_18.size
      have K_18 := K_17.no k_18
      have h_18 := k_18.get h_17 fun h => h
      have L_x18 := L_x17.frame k_18 fun _ _ h => h
      have key_x18 := key_x17.frame k_18 fun _ _ h => h
      have b_x18 := k_18.get b_17 fun h => h
      try simp [-getElem?_pos, -Array.getElem?_eq_getElem, List.getElem?_cons_zero, List.getElem?_cons_succ, -Int.natCast_add, add_spot, and_assoc, Br_dec, -op_box, -op_lit_25_0, -op_alloc_41, -op_st_41, -op_st_3, h_18, hx3]
      refine ⟨?_, ?_⟩
      · refine mapBuild_ok (md := md) (ml := ml) (sh := sh) T_18 hfit.m (by have := hfit.cost; omega) key_x18 (by omega) fun p1_19 p2_19 l5_19 l6_19 w_19 k_19 P1_19 P2_19 V_19 H_19 low_19 => ?_
        have lv_19 := V_19.own_lt
        have lh_19 := H_19.own_lt
        have lowr_19 : ∀ b, l5_19.ownBlock = some b ∨ l6_19.ownBlock = some b → w_18.heap.size ≤ b ∧ b < w_19.heap.size := fun b hb => hb.elim (fun h => lv_19 b h) fun h => lh_19 b h
        have V0_19 := V_19.base_le (Nat.zero_le _)
        have H0_19 := H_19.base_le (Nat.zero_le _)
        have n_19 := k_19.size
        have K_19 := K_18.no k_19
        have h_19 := k_19.get h_18 fun h => h
        have L_x19 := L_x18.frame k_19 fun _ _ h => h
        have key_x19 := key_x18.frame k_19 fun _ _ h => h
        have T_x19 := T_18.frame k_19 fun _ _ h => h
        have b_x19 := k_19.get b_x18 fun h => h
        try simp [-getElem?_pos, -Array.getElem?_eq_getElem, List.getElem?_cons_zero, List.getElem?_cons_succ, -Int.natCast_add, add_spot, and_assoc, Br_dec, -op_box, -op_lit_25_0, -op_alloc_41, -op_st_41, -op_st_3, h_19, hx3]
        refine op_alloc_ok (z := .agg #[.int .i64 0, .slice none 0 0]) (by kernel_rfl) fun w_20 k_20 z_20 b_20 => ?_
        simp only [cells_agg] at b_20
        have n_20 := k_20.size
        have K_20 := K_19.no k_20
        have h_20 := k_20.get h_19 fun h => h
        have L_x20 := L_x19.frame k_20 fun _ _ h => h
        have key_x20 := key_x19.frame k_20 fun _ _ h => h
        have T_x20 := T_x19.frame k_20 fun _ _ h => h
        have b_x20 := k_20.get b_x19 fun h => h
        have P1_x20 := P1_19.still k_20
        have P2_x20 := P2_19.still k_20
        have V_x20 := frow_still V0_19 k_20
        have H_x20 := frow_still H0_19 k_20
        try simp [-getElem?_pos, -Array.getElem?_eq_getElem, List.getElem?_cons_zero, List.getElem?_cons_succ, -Int.natCast_add, add_spot, and_assoc, Br_dec, -op_box, -op_lit_25_0, -op_alloc_41, -op_st_41, -op_st_3, h_20, hx3]
        exact hfin K_20 b_x20 b_20 (by omega) (by omega) (by omega) P1_x20 P2_x20 V_x20 H_x20 (fun b hb => by have := low_19 b hb; omega) (fun b hb => by have := lowr_19 b hb; omega)
      · refine op_alloc_ok (z := .agg #[.int .i64 0, .slice none 0 0]) (by kernel_rfl) fun w_21 k_21 z_21 b_21 => ?_
        simp only [cells_agg] at b_21
        have n_21 := k_21.size
        have K_21 := K_18.no k_21
        have h_21 := k_21.get h_18 fun h => h
        have L_x21 := L_x18.frame k_21 fun _ _ h => h
        have key_x21 := key_x18.frame k_21 fun _ _ h => h
        have T_x21 := T_18.frame k_21 fun _ _ h => h
        have b_x21 := k_21.get b_x18 fun h => h
        try simp [-getElem?_pos, -Array.getElem?_eq_getElem, List.getElem?_cons_zero, List.getElem?_cons_succ, -Int.natCast_add, add_spot, and_assoc, Br_dec, -op_box, -op_lit_25_0, -op_alloc_41, -op_st_41, -op_st_3, h_21, hx3]
        refine mapBuild_ok (md := md) (ml := ml) (sh := sh) T_x21 hfit.m (by have := hfit.cost; omega) key_x21 (by omega) fun p1_22 p2_22 l5_22 l6_22 w_22 k_22 P1_22 P2_22 V_22 H_22 low_22 => ?_
        have lv_22 := V_22.own_lt
        have lh_22 := H_22.own_lt
        have lowr_22 : ∀ b, l5_22.ownBlock = some b ∨ l6_22.ownBlock = some b → w_21.heap.size ≤ b ∧ b < w_22.heap.size := fun b hb => hb.elim (fun h => lv_22 b h) fun h => lh_22 b h
        have V0_22 := V_22.base_le (Nat.zero_le _)
        have H0_22 := H_22.base_le (Nat.zero_le _)
        have n_22 := k_22.size
        have K_22 := K_21.no k_22
        have h_22 := k_22.get h_21 fun h => h
        have L_x22 := L_x21.frame k_22 fun _ _ h => h
        have key_x22 := key_x21.frame k_22 fun _ _ h => h
        have T_x22 := T_x21.frame k_22 fun _ _ h => h
        have b_x22 := k_22.get b_x21 fun h => h
        have m_x22 := k_22.get b_21 fun h => h
        try simp [-getElem?_pos, -Array.getElem?_eq_getElem, List.getElem?_cons_zero, List.getElem?_cons_succ, -Int.natCast_add, add_spot, and_assoc, Br_dec, -op_box, -op_lit_25_0, -op_alloc_41, -op_st_41, -op_st_3, h_22, hx3]
        exact hfin K_22 b_x22 m_x22 (by omega) (by omega) (by omega) P1_22 P2_22 V0_22 H0_22 (fun b hb => by have := low_22 b hb; omega) (fun b hb => by have := lowr_22 b hb; omega)
    · refine op_alloc_ok (z := .agg #[.int .i64 0, .slice none 0 0]) (by kernel_rfl) fun w_23 k_23 z_23 b_23 => ?_
      simp only [cells_agg] at b_23
      have n_23 := k_23.size
      have K_23 := K_17.no k_23
      have h_23 := k_23.get h_17 fun h => h
      have L_x23 := L_x17.frame k_23 fun _ _ h => h
      have key_x23 := key_x17.frame k_23 fun _ _ h => h
      have b_x23 := k_23.get b_17 fun h => h
      try simp [-getElem?_pos, -Array.getElem?_eq_getElem, List.getElem?_cons_zero, List.getElem?_cons_succ, -Int.natCast_add, add_spot, and_assoc, Br_dec, -op_box, -op_lit_25_0, -op_alloc_41, -op_st_41, -op_st_3, h_23, hx3]
      refine mapTo_ok L_x23 (by omega) fun l_24 w_24 k_24 R_24 => ?_
      obtain ⟨aT_24, cT_24, rfl, _, _, T_24, _⟩ := R_24.flat
      have n_24 := k_24.size
      have K_24 := K_23.no k_24
      have h_24 := k_24.get h_23 fun h => h
      have L_x24 := L_x23.frame k_24 fun _ _ h => h
      have key_x24 := key_x23.frame k_24 fun _ _ h => h
      have b_x24 := k_24.get b_x23 fun h => h
      have m_x24 := k_24.get b_23 fun h => h
      try simp [-getElem?_pos, -Array.getElem?_eq_getElem, List.getElem?_cons_zero, List.getElem?_cons_succ, -Int.natCast_add, add_spot, and_assoc, Br_dec, -op_box, -op_lit_25_0, -op_alloc_41, -op_st_41, -op_st_3, h_24, hx3]
      refine mapBuild_ok (md := md) (ml := ml) (sh := sh) T_24 hfit.m (by have := hfit.cost; omega) key_x24 (by omega) fun p1_25 p2_25 l5_25 l6_25 w_25 k_25 P1_25 P2_25 V_25 H_25 low_25 => ?_
      have lv_25 := V_25.own_lt
      have lh_25 := H_25.own_lt
      have lowr_25 : ∀ b, l5_25.ownBlock = some b ∨ l6_25.ownBlock = some b → w_24.heap.size ≤ b ∧ b < w_25.heap.size := fun b hb => hb.elim (fun h => lv_25 b h) fun h => lh_25 b h
      have V0_25 := V_25.base_le (Nat.zero_le _)
      have H0_25 := H_25.base_le (Nat.zero_le _)
      have n_25 := k_25.size
      have K_25 := K_24.no k_25
      have h_25 := k_25.get h_24 fun h => h
      have L_x25 := L_x24.frame k_25 fun _ _ h => h
      have key_x25 := key_x24.frame k_25 fun _ _ h => h
      have T_x25 := T_24.frame k_25 fun _ _ h => h
      have b_x25 := k_25.get b_x24 fun h => h
      have m_x25 := k_25.get m_x24 fun h => h
      try simp [-getElem?_pos, -Array.getElem?_eq_getElem, List.getElem?_cons_zero, List.getElem?_cons_succ, -Int.natCast_add, add_spot, and_assoc, Br_dec, -op_box, -op_lit_25_0, -op_alloc_41, -op_st_41, -op_st_3, h_25, hx3]
      exact hfin K_25 b_x25 m_x25 (by omega) (by omega) (by omega) P1_25 P2_25 V0_25 H0_25 (fun b hb => by have := low_25 b hb; omega) (fun b hb => by have := lowr_25 b hb; omega)
  · refine op_alloc_ok (z := .agg #[.int .i64 0, .slice none 0 0]) (by kernel_rfl) fun w_26 k_26 z_26 b_26 => ?_
    simp only [cells_agg] at b_26
    have n_26 := k_26.size
    have K_26 := kd4.no k_26
    have h_26 := k_26.get bd4 fun h => h
    have L_x26 := hrLd.frame k_26 fun _ _ h => h
    have key_x26 := h2d.frame k_26 fun _ _ h => h
    try simp [-getElem?_pos, -Array.getElem?_eq_getElem, List.getElem?_cons_zero, List.getElem?_cons_succ, -Int.natCast_add, add_spot, and_assoc, Br_dec, -op_box, -op_lit_25_0, -op_alloc_41, -op_st_41, -op_st_3, h_26, hx3]
    refine ⟨?_, ?_⟩
    · refine mapTo_ok L_x26 (by omega) fun l_27 w_27 k_27 R_27 => ?_
      obtain ⟨aT_27, cT_27, rfl, _, _, T_27, _⟩ := R_27.flat
      have n_27 := k_27.size
      have K_27 := K_26.no k_27
      have h_27 := k_27.get h_26 fun h => h
      have L_x27 := L_x26.frame k_27 fun _ _ h => h
      have key_x27 := key_x26.frame k_27 fun _ _ h => h
      have m_x27 := k_27.get b_26 fun h => h
      try simp [-getElem?_pos, -Array.getElem?_eq_getElem, List.getElem?_cons_zero, List.getElem?_cons_succ, -Int.natCast_add, add_spot, and_assoc, Br_dec, -op_box, -op_lit_25_0, -op_alloc_41, -op_st_41, -op_st_3, h_27, hx3]
      refine ⟨?_, ?_⟩
      · refine mapBuild_ok (md := md) (ml := ml) (sh := sh) T_27 hfit.m (by have := hfit.cost; omega) key_x27 (by omega) fun p1_28 p2_28 l5_28 l6_28 w_28 k_28 P1_28 P2_28 V_28 H_28 low_28 => ?_
        have lv_28 := V_28.own_lt
        have lh_28 := H_28.own_lt
        have lowr_28 : ∀ b, l5_28.ownBlock = some b ∨ l6_28.ownBlock = some b → w_27.heap.size ≤ b ∧ b < w_28.heap.size := fun b hb => hb.elim (fun h => lv_28 b h) fun h => lh_28 b h
        have V0_28 := V_28.base_le (Nat.zero_le _)
        have H0_28 := H_28.base_le (Nat.zero_le _)
        have n_28 := k_28.size
        have K_28 := K_27.no k_28
        have h_28 := k_28.get h_27 fun h => h
        have L_x28 := L_x27.frame k_28 fun _ _ h => h
        have key_x28 := key_x27.frame k_28 fun _ _ h => h
        have T_x28 := T_27.frame k_28 fun _ _ h => h
        have m_x28 := k_28.get m_x27 fun h => h
        try simp [-getElem?_pos, -Array.getElem?_eq_getElem, List.getElem?_cons_zero, List.getElem?_cons_succ, -Int.natCast_add, add_spot, and_assoc, Br_dec, -op_box, -op_lit_25_0, -op_alloc_41, -op_st_41, -op_st_3, h_28, hx3]
        refine op_alloc_ok (z := .agg #[.int .i64 0, .slice none 0 0]) (by kernel_rfl) fun w_29 k_29 z_29 b_29 => ?_
        simp only [cells_agg] at b_29
        have n_29 := k_29.size
        have K_29 := K_28.no k_29
        have h_29 := k_29.get h_28 fun h => h
        have L_x29 := L_x28.frame k_29 fun _ _ h => h
        have key_x29 := key_x28.frame k_29 fun _ _ h => h
        have T_x29 := T_x28.frame k_29 fun _ _ h => h
        have m_x29 := k_29.get m_x28 fun h => h
        have P1_x29 := P1_28.still k_29
        have P2_x29 := P2_28.still k_29
        have V_x29 := frow_still V0_28 k_29
        have H_x29 := frow_still H0_28 k_29
        try simp [-getElem?_pos, -Array.getElem?_eq_getElem, List.getElem?_cons_zero, List.getElem?_cons_succ, -Int.natCast_add, add_spot, and_assoc, Br_dec, -op_box, -op_lit_25_0, -op_alloc_41, -op_st_41, -op_st_3, h_29, hx3]
        exact hfin K_29 b_29 m_x29 (by omega) (by omega) (by omega) P1_x29 P2_x29 V_x29 H_x29 (fun b hb => by have := low_28 b hb; omega) (fun b hb => by have := lowr_28 b hb; omega)
      · refine op_alloc_ok (z := .agg #[.int .i64 0, .slice none 0 0]) (by kernel_rfl) fun w_30 k_30 z_30 b_30 => ?_
        simp only [cells_agg] at b_30
        have n_30 := k_30.size
        have K_30 := K_27.no k_30
        have h_30 := k_30.get h_27 fun h => h
        have L_x30 := L_x27.frame k_30 fun _ _ h => h
        have key_x30 := key_x27.frame k_30 fun _ _ h => h
        have T_x30 := T_27.frame k_30 fun _ _ h => h
        have m_x30 := k_30.get m_x27 fun h => h
        try simp [-getElem?_pos, -Array.getElem?_eq_getElem, List.getElem?_cons_zero, List.getElem?_cons_succ, -Int.natCast_add, add_spot, and_assoc, Br_dec, -op_box, -op_lit_25_0, -op_alloc_41, -op_st_41, -op_st_3, h_30, hx3]
        refine mapBuild_ok (md := md) (ml := ml) (sh := sh) T_x30 hfit.m (by have := hfit.cost; omega) key_x30 (by omega) fun p1_31 p2_31 l5_31 l6_31 w_31 k_31 P1_31 P2_31 V_31 H_31 low_31 => ?_
        have lv_31 := V_31.own_lt
        have lh_31 := H_31.own_lt
        have lowr_31 : ∀ b, l5_31.ownBlock = some b ∨ l6_31.ownBlock = some b → w_30.heap.size ≤ b ∧ b < w_31.heap.size := fun b hb => hb.elim (fun h => lv_31 b h) fun h => lh_31 b h
        have V0_31 := V_31.base_le (Nat.zero_le _)
        have H0_31 := H_31.base_le (Nat.zero_le _)
        have n_31 := k_31.size
        have K_31 := K_30.no k_31
        have h_31 := k_31.get h_30 fun h => h
        have L_x31 := L_x30.frame k_31 fun _ _ h => h
        have key_x31 := key_x30.frame k_31 fun _ _ h => h
        have T_x31 := T_x30.frame k_31 fun _ _ h => h
        have b_x31 := k_31.get b_30 fun h => h
        have m_x31 := k_31.get m_x30 fun h => h
        try simp [-getElem?_pos, -Array.getElem?_eq_getElem, List.getElem?_cons_zero, List.getElem?_cons_succ, -Int.natCast_add, add_spot, and_assoc, Br_dec, -op_box, -op_lit_25_0, -op_alloc_41, -op_st_41, -op_st_3, h_31, hx3]
        exact hfin K_31 b_x31 m_x31 (by omega) (by omega) (by omega) P1_31 P2_31 V0_31 H0_31 (fun b hb => by have := low_31 b hb; omega) (fun b hb => by have := lowr_31 b hb; omega)
    · refine op_alloc_ok (z := .agg #[.int .i64 0, .slice none 0 0]) (by kernel_rfl) fun w_32 k_32 z_32 b_32 => ?_
      simp only [cells_agg] at b_32
      have n_32 := k_32.size
      have K_32 := K_26.no k_32
      have h_32 := k_32.get h_26 fun h => h
      have L_x32 := L_x26.frame k_32 fun _ _ h => h
      have key_x32 := key_x26.frame k_32 fun _ _ h => h
      have m_x32 := k_32.get b_26 fun h => h
      try simp [-getElem?_pos, -Array.getElem?_eq_getElem, List.getElem?_cons_zero, List.getElem?_cons_succ, -Int.natCast_add, add_spot, and_assoc, Br_dec, -op_box, -op_lit_25_0, -op_alloc_41, -op_st_41, -op_st_3, h_32, hx3]
      refine mapTo_ok L_x32 (by omega) fun l_33 w_33 k_33 R_33 => ?_
      obtain ⟨aT_33, cT_33, rfl, _, _, T_33, _⟩ := R_33.flat
      have n_33 := k_33.size
      have K_33 := K_32.no k_33
      have h_33 := k_33.get h_32 fun h => h
      have L_x33 := L_x32.frame k_33 fun _ _ h => h
      have key_x33 := key_x32.frame k_33 fun _ _ h => h
      have b_x33 := k_33.get b_32 fun h => h
      have m_x33 := k_33.get m_x32 fun h => h
      try simp [-getElem?_pos, -Array.getElem?_eq_getElem, List.getElem?_cons_zero, List.getElem?_cons_succ, -Int.natCast_add, add_spot, and_assoc, Br_dec, -op_box, -op_lit_25_0, -op_alloc_41, -op_st_41, -op_st_3, h_33, hx3]
      refine mapBuild_ok (md := md) (ml := ml) (sh := sh) T_33 hfit.m (by have := hfit.cost; omega) key_x33 (by omega) fun p1_34 p2_34 l5_34 l6_34 w_34 k_34 P1_34 P2_34 V_34 H_34 low_34 => ?_
      have lv_34 := V_34.own_lt
      have lh_34 := H_34.own_lt
      have lowr_34 : ∀ b, l5_34.ownBlock = some b ∨ l6_34.ownBlock = some b → w_33.heap.size ≤ b ∧ b < w_34.heap.size := fun b hb => hb.elim (fun h => lv_34 b h) fun h => lh_34 b h
      have V0_34 := V_34.base_le (Nat.zero_le _)
      have H0_34 := H_34.base_le (Nat.zero_le _)
      have n_34 := k_34.size
      have K_34 := K_33.no k_34
      have h_34 := k_34.get h_33 fun h => h
      have L_x34 := L_x33.frame k_34 fun _ _ h => h
      have key_x34 := key_x33.frame k_34 fun _ _ h => h
      have T_x34 := T_33.frame k_34 fun _ _ h => h
      have b_x34 := k_34.get b_x33 fun h => h
      have m_x34 := k_34.get m_x33 fun h => h
      try simp [-getElem?_pos, -Array.getElem?_eq_getElem, List.getElem?_cons_zero, List.getElem?_cons_succ, -Int.natCast_add, add_spot, and_assoc, Br_dec, -op_box, -op_lit_25_0, -op_alloc_41, -op_st_41, -op_st_3, h_34, hx3]
      exact hfin K_34 b_x34 m_x34 (by omega) (by omega) (by omega) P1_34 P2_34 V0_34 H0_34 (fun b hb => by have := low_34 b hb; omega) (fun b hb => by have := lowr_34 b hb; omega)
end Go.Proofs.Ytbghmbbhkoniiaa.I
end
