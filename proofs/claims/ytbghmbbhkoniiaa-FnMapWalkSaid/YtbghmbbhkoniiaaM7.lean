import Derived.Test.YtbghmbbhkoniiaaM6
section
/- MapWalk, laws.FnMapWalk. -/
set_option maxRecDepth 100000
set_option maxHeartbeats 2000000
set_option linter.unusedSimpArgs false
set_option linter.unusedVariables false
set_option linter.unusedSectionVars false
namespace Go.Proofs.Ytbghmbbhkoniiaa.I
open Go.Vc Go.Proofs Go.Proofs.Ytbghmbbhkoniiaa Go.Vc.Nd
variable {w w' : World} {v hv : Value} {t : Tr} {F F' G : Nat → Prop} {K : Value → World → Prop} {Kp : KP} {hash : Ky → Nat} {k : Ky} {x : Vl} {l s rb md ml sh : Nat} {r0 mu nl : Bool}

/-- How far an iterator is behind moves: true is First, false Next. -/
def atAfter (n : Nat) (ms : List Bool) : Nat := ms.foldl (fun a m => if m then 0 else min (a + 1) n) 0
theorem atAfter_snoc (n : Nat) (ms : List Bool) (m : Bool) : atAfter n (ms ++ [m]) = if m then 0 else min (atAfter n ms + 1) n := by simp [atAfter]
theorem atAfter_le (n : Nat) (ms : List Bool) : atAfter n ms ≤ n := by
  refine snoc_ind (P := fun ms => atAfter n ms ≤ n) (Nat.zero_le _) (fun l m ih => ?_) ms
  rw [atAfter_snoc]
  split <;> omega
/-- What each move tells. -/
def walkP (L : List (Ky × Vl)) (ms : List Bool) (i : Nat) : Ky × Vl := if ms[i]?.getD true then (0, 0) else (L[atAfter L.length (ms.take i)]?).getD (0, 0)
def walkO (L : List (Ky × Vl)) (ms : List Bool) (i : Nat) : Bool := !(ms[i]?.getD true) && decide (atAfter L.length (ms.take i) < L.length)
def walkD (L : List (Ky × Vl)) (ms : List Bool) (i : Nat) : Bool := decide (atAfter L.length (ms.take (i + 1)) = L.length)
theorem drop_nil_iff {L : List (Ky × Vl)} {a : Nat} (h : a ≤ L.length) : L.drop a = [] ↔ a = L.length := by rw [List.drop_eq_nil_iff]; omega
theorem nextV_drop {L : List (Ky × Vl)} {a : Nat} : nextV (L.drop a) = .tuple #[.int .i64 ((L[a]?).getD (0, 0)).1, .int .i64 ((L[a]?).getD (0, 0)).2, .bool (decide (a < L.length))] := by
  by_cases h : a < L.length
  · rw [List.drop_eq_getElem_cons h]
    simp [nextV, h, ek, ev]
  · rw [List.drop_of_length_le (by omega)]
    simp [nextV, h, ek, zk, zv]
theorem tail_drop {L : List (Ky × Vl)} {a : Nat} (h : a ≤ L.length) : (L.drop a).tail = L.drop (min (a + 1) L.length) := by
  rw [List.tail_drop]
  by_cases h1 : a < L.length
  · rw [Nat.min_eq_left (by omega)]
  · rw [Nat.min_eq_right (by omega), List.drop_of_length_le (by omega), List.drop_of_length_le (by omega)]
/-- What a move tells is laid behind what the earlier ones told. -/
theorem walk_push {ib bv : Nat} {L' : List (Ky × Vl)} {w0 : World} {l1 l2 l3 : Value} {P1 : List (Ky × Vl)} {P2 P3 : List Bool} {p : Ky × Vl} {ob : Bool} {K3 : Value → Value → Value → World → Prop} (hA : At w ib bv G hash L') (hG : ∀ c, G c → c < w0.heap.size) (hib : ib < w0.heap.size) (hw : w0.heap.size ≤ w.heap.size)
    (hR1 : FRow ent w w0.heap.size 46 2 l1 P1) (hR2 : FRow b1 w w0.heap.size 4 1 l2 P2) (hR3 : FRow b1 w w0.heap.size 4 1 l3 P3) (hne1 : ∀ b, l1.ownBlock = some b → l2.ownBlock ≠ some b ∧ l3.ownBlock ≠ some b) (hne2 : ∀ b, l2.ownBlock = some b → l3.ownBlock ≠ some b)
    (s1 : P1.length < 2 ^ 32) (s2 : P2.length < 2 ^ 32) (s3 : P3.length < 2 ^ 32)
    (hK : ∀ l1' l2' l3' w', Frm (fun c => w0.heap.size ≤ c) w w' → FRow ent w' w0.heap.size 46 2 l1' (P1 ++ [p]) → FRow b1 w' w0.heap.size 4 1 l2' (P2 ++ [ob]) → FRow b1 w' w0.heap.size 4 1 l3' (P3 ++ [decide (L' = [])]) →
      (∀ b, l1'.ownBlock = some b → l2'.ownBlock ≠ some b ∧ l3'.ownBlock ≠ some b) → (∀ b, l2'.ownBlock = some b → l3'.ownBlock ≠ some b) → At w' ib bv G hash L' → K3 l1' l2' l3' w') :
    (nice Try.prog).op (.buildSlice 39 1 [(0, .agg #[.int .i64 p.1, .int .i64 p.2])]) w (fun v55 w => (nice Try.prog).op (.blt .append [39, 39] 39 [l1, v55]) w (fun v56 w =>
      (nice Try.prog).op (.buildSlice 49 1 [(0, .bool ob)]) w (fun v59 w => (nice Try.prog).op (.blt .append [49, 49] 49 [l2, v59]) w (fun v60 w =>
      Calls Try.prog 42 #[ptr ib] w (ret (fun v63 w => (nice Try.prog).op (.buildSlice 49 1 [(0, v63)]) w (fun v64 w => (nice Try.prog).op (.blt .append [49, 49] 49 [l3, v64]) w (fun v65 w =>
      K3 v56 v60 v65 w) Kp) Kp) Kp)) Kp) Kp) Kp) Kp := by
  have lo1 := hR1.own_lt
  have lo2 := hR2.own_lt
  have lo3 := hR3.own_lt
  refine op_pushF (f := ent) (y := p) apPair lit_39_1 ent_len (fun x u hu => ents_one (es := [x]) u (by simpa [ents] using hu)) hR1 (by omega) hw fun l1' w4 k4 hR1' ho1 => ?_
  have n4 := k4.size
  have hR24 := frow_frame hR2 k4 fun b hb he => (hne1 b he.symm).1 hb
  have hR34 := frow_frame hR3 k4 fun b hb he => (hne1 b he.symm).2 hb
  refine op_pushF (f := b1) (y := ob) apBool (lit_49_1 rfl) b1_len b1_one hR24 (by omega) (by omega) fun l2' w5 k5 hR2' ho2 => ?_
  have n5 := k5.size
  have hs12 : ∀ b, l1'.ownBlock = some b → l2.ownBlock ≠ some b ∧ l3.ownBlock ≠ some b := fun b hb => by
    rcases ho1 with h | ⟨b', h, hge⟩
    · rw [h] at hb; exact hne1 b hb
    · rw [h] at hb; cases hb
      exact ⟨fun hb2 => by have := lo2 _ hb2; omega, fun hb2 => by have := lo3 _ hb2; omega⟩
  have lo1' := hR1'.own_lt
  have hR15 := frow_frame hR1' k5 fun b hb he => (hs12 b hb).1 he.symm
  have hR35 := frow_frame hR34 k5 fun b hb he => hne2 b he.symm hb
  have hs2 : ∀ b, l2'.ownBlock = some b → l1'.ownBlock ≠ some b ∧ l3.ownBlock ≠ some b := fun b hb => by
    rcases ho2 with h | ⟨b', h, hge⟩
    · rw [h] at hb; exact ⟨fun hb1 => (hs12 b hb1).1 hb, hne2 b hb⟩
    · rw [h] at hb; cases hb
      exact ⟨fun hb2 => by have := lo1' _ hb2; omega, fun hb2 => by have := lo3 _ hb2; omega⟩
  have lo2' := hR2'.own_lt
  have hA5 := (hA.frame k4 (fun c hc he => by have := lo1 _ he.symm; have := hG c hc; omega) (fun he => by have := lo1 _ he.symm; omega)).frame k5 (fun c hc he => by have := lo2 _ he.symm; have := hG c hc; omega) (fun he => by have := lo2 _ he.symm; omega)
  refine done_ok hA5 ?_
  refine op_pushF (f := b1) (y := decide (L' = [])) apBool (lit_49_1 rfl) b1_len b1_one hR35 (by omega) (by omega) fun l3' w6 k6 hR3' ho3 => ?_
  have hA6 := hA5.frame k6 (fun c hc he => by have := lo3 _ he.symm; have := hG c hc; omega) (fun he => by have := lo3 _ he.symm; omega)
  have hs13 : ∀ b, l1'.ownBlock = some b → l3'.ownBlock ≠ some b := fun b hb hb3 => by
    rcases ho3 with h | ⟨b', h, hge⟩
    · rw [h] at hb3; exact (hs12 b hb).2 hb3
    · rw [h] at hb3; cases hb3; have := lo1' _ hb; omega
  have hs23 : ∀ b, l2'.ownBlock = some b → l3'.ownBlock ≠ some b := fun b hb hb3 => by
    rcases ho3 with h | ⟨b', h, hge⟩
    · rw [h] at hb3; exact (hs2 b hb).2 hb3
    · rw [h] at hb3; cases hb3; have := lo2' _ hb; omega
  refine hK l1' l2' l3' w6 (((k4.to fun c hc => (lo1 c hc.symm).1).trans k5 fun c hc _ => (lo2 c hc.symm).1).trans k6 fun c hc _ => (lo3 c hc.symm).1) (frow_frame hR15 k6 fun b hb he => (hs12 b hb).2 he.symm) (frow_frame hR2' k6 fun b hb he => (hs2 b hb).2 he.symm) hR3' (fun b hb => ⟨fun hb2 => (hs2 b hb2).1 hb, hs13 b hb⟩) hs23 hA6
theorem mapWalk_ok {a1 a3 : Option Addr} {c1 c3 v : Nat} {steps : List MStep} {moves : List Bool} (h1 : Row w a1 (steps.flatMap MStep.cells)) (hfit : MFit steps) (hc : mcost steps ≤ 900000) (h3 : Row w a3 (moves.flatMap b1)) (hn : moves.length < 2 ^ 31) (hv : v < steps.length + 1)
    (hK : ∀ L l1 l2 l3 w', (∃ t, (versT (hashOf md ml sh) steps)[v]? = some t ∧ L = toL t) → Frm (fun _ => False) w w' → FRow ent w' w.heap.size 46 2 l1 ((List.range moves.length).map (walkP L moves)) → FRow b1 w' w.heap.size 4 1 l2 ((List.range moves.length).map (walkO L moves)) →
      FRow b1 w' w.heap.size 4 1 l3 ((List.range moves.length).map (walkD L moves)) → K (.tuple #[.bool (decide (L = [])), l1, l2, l3]) w') :
    Calls Try.prog 19 #[hval md ml sh, .slice a1 steps.length c1, .int .i64 v, .slice a3 moves.length c3] w (ret K Kp) := by
  refine vc19_calls ?_
  simp only [vc19]
  refine op_box_ok fun w1 k1 z1 b1' => ?_
  simp only [hval, cells_agg] at b1'
  have hx3 : (#[Value.int .u32 (md : Int), .int .u32 (ml : Int), .int .u8 (sh : Int)] : Array Value).extract 0 3 = #[.int .u32 md, .int .u32 ml, .int .u8 sh] := rfl
  try simp [-getElem?_pos, -Array.getElem?_eq_getElem, List.getElem?_cons_zero, List.getElem?_cons_succ, -Int.natCast_add, add_spot, and_assoc, Br_dec, -op_box, -op_lit_39_1, -op_lit_49_1, -op_alloc_46, -op_st_2, b1', hx3]
  refine mapsOf_ok (md := md) (ml := ml) (sh := sh) (h1.frame k1 fun _ _ h => h) hfit hc fun l2 w2 G2 k2 hR2 => ?_
  have hlt := hashOf_lt md ml sh
  have hT := versT_len (hashOf md ml sh) steps
  obtain ⟨u, g, c, cur, hlg, hg1, hg2, hg3, hg4, hg5, bv, hub, hV⟩ := hR2.get (j := v) (by omega)
  subst hlg hub
  have hg0 : cur[v]? = some (ptr bv) := by have := hg3 0 (by decide); simpa using this
  have hget : (versT (hashOf md ml sh) steps)[v]? = some ((versT (hashOf md ml sh) steps)[v]'(by omega)) := List.getElem?_eq_getElem (by omega)
  generalize (versT (hashOf md ml sh) steps)[v]'(by omega) = t at *
  have k02 := k1.no k2
  have n2 := k02.size
  have n1 := k1.size
  rw [hT]
  have e1 : ¬ ((v : Int) < 0) := by omega
  have e2 : ¬ (((steps.length + 1 : Nat) : Int) ≤ (v : Int)) := by omega
  try simp [-getElem?_pos, -Array.getElem?_eq_getElem, List.getElem?_cons_zero, List.getElem?_cons_succ, -Int.natCast_add, add_spot, and_assoc, Br_dec, -op_box, -op_lit_39_1, -op_lit_49_1, -op_alloc_46, -op_st_2, e1, e2, hg1, hg0]
  refine ⟨by omega, ?_⟩
  refine ver_iter_ok hV (fun c hc => (hR2.low c hc).2) fun ib w3 k3 hib hA3 => ?_
  have n3 := k3.size
  have k03 := k02.no k3
  have hibl := hA3.lt
  try simp [-getElem?_pos, -Array.getElem?_eq_getElem, List.getElem?_cons_zero, List.getElem?_cons_succ, -Int.natCast_add, add_spot, and_assoc, Br_dec, -op_box, -op_lit_39_1, -op_lit_49_1, -op_alloc_46, -op_st_2, ]
  refine done_ok hA3 ?_
  try simp [-getElem?_pos, -Array.getElem?_eq_getElem, List.getElem?_cons_zero, List.getElem?_cons_succ, -Int.natCast_add, add_spot, and_assoc, Br_dec, -op_box, -op_lit_39_1, -op_lit_49_1, -op_alloc_46, -op_st_2, ]
  have hV3 := hV.still k3
  have hF : ∀ c, G2 c → c < w2.heap.size := fun c hc => (hR2.low c hc).2
  have hF' : ¬ G2 ib := fun hc => by have := hF _ hc; omega
  have hr3 := h3.frame k03 fun _ _ h => h
  generalize hL : toL t = L at *
  have hLn : L = toL t := hL.symm
  obtain ⟨I, hI⟩ : ∃ I : Value → Value → Value → Value → World → Prop, ∀ l1 l2 l3 s wl, I l1 l2 l3 s wl ↔ ∃ i : Nat, s = .int .i64 i ∧ i ≤ moves.length ∧ Frm (· = ib) w3 wl ∧ FRow ent wl w3.heap.size 46 2 l1 ((List.range i).map (walkP L moves)) ∧
      FRow b1 wl w3.heap.size 4 1 l2 ((List.range i).map (walkO L moves)) ∧ FRow b1 wl w3.heap.size 4 1 l3 ((List.range i).map (walkD L moves)) ∧ At wl ib bv G2 (hashOf md ml sh) (L.drop (atAfter L.length (moves.take i))) ∧
      (∀ b, l1.ownBlock = some b → l2.ownBlock ≠ some b ∧ l3.ownBlock ≠ some b) ∧ (∀ b, l2.ownBlock = some b → l3.ownBlock ≠ some b) := ⟨_, fun _ _ _ _ _ => Iff.rfl⟩
  refine Lp.intro I (fun _ _ _ s _ => moves.length - natOf s) ⟨(hI _ _ _ _ _).2 ⟨0, rfl, by omega, Frm.refl, rows_nil, rows_nil, rows_nil, by simpa [atAfter] using hA3, (fun _ h => nomatch h), (fun _ h => nomatch h)⟩, ?_⟩
  intro wl l1 l2 l3 s hl
  obtain ⟨i, rfl, hi, kl, hR1, hRb, hRd, hA, hne1, hne2⟩ := (hI _ _ _ _ _).1 hl
  simp only [op_lss, Br_dec]
  refine ⟨fun hlt' => ?_, fun hge => ?_⟩
  rotate_left
  · have : i = moves.length := by omega
    subst this
    exact hK L l1 l2 l3 wl ⟨t, hget, hLn⟩ (k03.old kl fun c hc => .inr (by omega)) (hR1.base_le (by omega)) (hRb.base_le (by omega)) (hRd.base_le (by omega))
  have hi' : i < moves.length := by omega
  have htk : moves.take (i + 1) = moves.take i ++ [moves[i]] := List.take_succ_eq_append_getElem hi'
  have hmi : moves[i]? = some moves[i] := List.getElem?_eq_getElem hi'
  have kwl : Frm (fun _ => False) w wl := k03.old kl fun c hc => .inr (by omega)
  obtain ⟨bp, o, cs, e, fz, rfl, hcs, hsz, hext⟩ := (h3.frame kwl (fun _ _ h => h)).part b1_len (by decide) hi'
  have hki : cs[o + i]? = some (.bool moves[i]) := by
    have := congrArg (fun a => a[0]?) hext
    simp only [Array.getElem?_extract] at this
    rw [if_pos (by omega)] at this
    simpa [b1] using this
  have ha := atAfter_le L.length (moves.take i)
  have nl' := kl.size
  have lo1 := hR1.own_lt
  have lo2 := hRb.own_lt
  have lo3 := hRd.own_lt
  try simp [-getElem?_pos, -Array.getElem?_eq_getElem, List.getElem?_cons_zero, List.getElem?_cons_succ, -Int.natCast_add, add_spot, and_assoc, Br_dec, -op_box, -op_lit_39_1, -op_lit_49_1, -op_alloc_46, -op_st_2, hcs, hki]
  refine ⟨hi', ?_⟩
  refine op_alloc_ok (z := .agg #[.int .i64 0, .int .i64 0]) (by kernel_rfl) fun w5 k5 z5 b5 => ?_
  simp only [cells_agg] at b5
  have n5 := k5.size
  have hA5 := hA.frame k5 (fun _ _ h => h) fun h => h
  have hx2 : ∀ a c : Int, (#[Value.int .i64 a, .int .i64 c] : Array Value).extract 0 2 = #[.int .i64 a, .int .i64 c] := fun _ _ => rfl
  have hrng : (List.range (i + 1)) = List.range i ++ [i] := List.range_succ
  have fin : ∀ {w6 : World} {p : Ky × Vl} {ob : Bool}, Frm (fun c => c = ib ∨ wl.heap.size ≤ c) wl w6 → p = walkP L moves i → ob = walkO L moves i → At w6 ib bv G2 (hashOf md ml sh) (L.drop (atAfter L.length (moves.take (i + 1)))) →
      ∀ {l1' l2' l3' : Value} {w7 : World}, Frm (fun c => w3.heap.size ≤ c) w6 w7 → FRow ent w7 w3.heap.size 46 2 l1' ((List.range i).map (walkP L moves) ++ [p]) → FRow b1 w7 w3.heap.size 4 1 l2' ((List.range i).map (walkO L moves) ++ [ob]) →
      FRow b1 w7 w3.heap.size 4 1 l3' ((List.range i).map (walkD L moves) ++ [decide (L.drop (atAfter L.length (moves.take (i + 1))) = [])]) → (∀ b, l1'.ownBlock = some b → l2'.ownBlock ≠ some b ∧ l3'.ownBlock ≠ some b) → (∀ b, l2'.ownBlock = some b → l3'.ownBlock ≠ some b) →
      At w7 ib bv G2 (hashOf md ml sh) (L.drop (atAfter L.length (moves.take (i + 1)))) → I l1' l2' l3' (.int .i64 (IntKind.i64.wrap ((i : Int) + 1))) w7 ∧ moves.length - natOf (.int .i64 (IntKind.i64.wrap ((i : Int) + 1))) < moves.length - natOf (.int .i64 (i : Int)) := by
    intro w6 p ob k6 hp ho hA6 l1' l2' l3' w7 k7 r1 r2 r3 d1 d2 hA7
    rw [wrap_i64_small (by omega) (by omega)]
    have hd : decide (L.drop (atAfter L.length (moves.take (i + 1))) = []) = walkD L moves i := decide_eq_decide.2 (drop_nil_iff (atAfter_le _ _))
    subst hp ho
    rw [hd] at r3
    refine ⟨(hI _ _ _ _ _).2 ⟨i + 1, by simp, by omega, ?_, by rw [hrng, List.map_append]; exact r1, by rw [hrng, List.map_append]; exact r2, by rw [hrng, List.map_append]; exact r3, hA7, d1, d2⟩, ?_⟩
    · refine ((kl.old k6 fun c hc => ?_).old k7 fun c hc => .inr hc)
      rcases hc with h | h
      · exact .inl h
      · exact .inr (by omega)
    · simp only [natOf]; omega
  have hrR1 : ∀ {w6 : World}, Frm (fun c => c = ib ∨ wl.heap.size ≤ c) wl w6 → FRow ent w6 w3.heap.size 46 2 l1 ((List.range i).map (walkP L moves)) ∧ FRow b1 w6 w3.heap.size 4 1 l2 ((List.range i).map (walkO L moves)) ∧ FRow b1 w6 w3.heap.size 4 1 l3 ((List.range i).map (walkD L moves)) := fun {w6} k6 =>
    ⟨frow_frame hR1 k6 fun b hb he => by have := lo1 b hb; omega, frow_frame hRb k6 fun b hb he => by have := lo2 b hb; omega, frow_frame hRd k6 fun b hb he => by have := lo3 b hb; omega⟩
  have hG3 : ∀ c, G2 c → c < w3.heap.size := fun c hc => by have := hF c hc; omega
  cases hmv : moves[i] with
  | true =>
    try simp [-getElem?_pos, -Array.getElem?_eq_getElem, List.getElem?_cons_zero, List.getElem?_cons_succ, -Int.natCast_add, add_spot, and_assoc, Br_dec, -op_box, -op_lit_39_1, -op_lit_49_1, -op_alloc_46, -op_st_2, ]
    refine ver_First_ok ((hV3.frame kl fun c hc he => by have := hF c hc; omega).still k5) hA5.itr hF' fun w6 k6 z6 hA6 => ?_
    have b6 := k6.get b5 (by omega)
    try simp [-getElem?_pos, -Array.getElem?_eq_getElem, List.getElem?_cons_zero, List.getElem?_cons_succ, -Int.natCast_add, add_spot, and_assoc, Br_dec, -op_box, -op_lit_39_1, -op_lit_49_1, -op_alloc_46, -op_st_2, b6, hx2]
    have k56 : Frm (fun c => c = ib ∨ wl.heap.size ≤ c) wl w6 := (k5.to fun _ h => h.elim).trans k6 fun c hc _ => .inl hc
    obtain ⟨r1, r2, r3⟩ := hrR1 k56
    have e0 : atAfter L.length (moves.take (i + 1)) = 0 := by rw [htk, atAfter_snoc, hmv]; rfl
    have hA6' : At w6 ib bv G2 (hashOf md ml sh) (L.drop (atAfter L.length (moves.take (i + 1)))) := by rw [e0, List.drop_zero, hLn]; exact hA6
    refine walk_push (w0 := w3) (p := (0, 0)) (ob := false) hA6' hG3 hibl (by have := k6.size; omega) r1 r2 r3 hne1 hne2 (by simp; omega) (by simp; omega) (by simp; omega) fun l1' l2' l3' w7 k7 q1 q2 q3 d1 d2 hA7 => ?_
    try simp [-getElem?_pos, -Array.getElem?_eq_getElem, List.getElem?_cons_zero, List.getElem?_cons_succ, -Int.natCast_add, add_spot, and_assoc, Br_dec, -op_box, -op_lit_39_1, -op_lit_49_1, -op_alloc_46, -op_st_2, ]
    exact fin k56 (by simp [walkP, hmi, hmv]) (by simp [walkO, hmi, hmv]) hA6' k7 q1 q2 q3 d1 d2 hA7
  | false =>
    try simp [-getElem?_pos, -Array.getElem?_eq_getElem, List.getElem?_cons_zero, List.getElem?_cons_succ, -Int.natCast_add, add_spot, and_assoc, Br_dec, -op_box, -op_lit_39_1, -op_lit_49_1, -op_alloc_46, -op_st_2, ]
    refine Next_ok hA5 hF' fun w6 k6 z6 hA6 => ?_
    rw [nextV_drop]
    have b6 := k6.get b5 (by omega)
    try simp [-getElem?_pos, -Array.getElem?_eq_getElem, List.getElem?_cons_zero, List.getElem?_cons_succ, -Int.natCast_add, add_spot, and_assoc, Br_dec, -op_box, -op_lit_39_1, -op_lit_49_1, -op_alloc_46, -op_st_2, ]
    refine op_store_ok (by kernel_rfl) b6 (by decide) rfl fun w7 k7 z7 b7 => ?_
    refine op_store_ok (by kernel_rfl) b7 (by simp) rfl fun w8 k8 z8 b8 => ?_
    have b8 : w8.heap[wl.heap.size]? = some (.cells #[.int .i64 ((L[atAfter L.length (moves.take i)]?).getD (0, 0)).1, .int .i64 ((L[atAfter L.length (moves.take i)]?).getD (0, 0)).2] 46 (0, 0)) := by simpa using b8
    try simp [-getElem?_pos, -Array.getElem?_eq_getElem, List.getElem?_cons_zero, List.getElem?_cons_succ, -Int.natCast_add, add_spot, and_assoc, Br_dec, -op_box, -op_lit_39_1, -op_lit_49_1, -op_alloc_46, -op_st_2, b8, hx2]
    have k58 : Frm (fun c => c = ib ∨ wl.heap.size ≤ c) wl w8 := (((k5.to fun _ h => h.elim).trans k6 fun c hc _ => .inl hc).trans k7 fun c hc _ => .inr (by omega)).trans k8 fun c hc _ => .inr (by omega)
    obtain ⟨r1, r2, r3⟩ := hrR1 k58
    have e0 : atAfter L.length (moves.take (i + 1)) = min (atAfter L.length (moves.take i) + 1) L.length := by rw [htk, atAfter_snoc, hmv]; rfl
    have hA8' : At w8 ib bv G2 (hashOf md ml sh) (L.drop (atAfter L.length (moves.take (i + 1)))) := by
      rw [e0, ← tail_drop ha]
      exact (hA6.frame k7 (fun c hc he => by have := hF c hc; omega) (by omega)).frame k8 (fun c hc he => by have := hF c hc; omega) (by omega)
    refine walk_push (w0 := w3) (p := (L[atAfter L.length (moves.take i)]?).getD (0, 0)) (ob := decide (atAfter L.length (moves.take i) < L.length)) hA8' hG3 hibl (by have := k6.size; have := k7.size; have := k8.size; omega) r1 r2 r3 hne1 hne2 (by simp; omega) (by simp; omega) (by simp; omega) fun l1' l2' l3' w9 k9 q1 q2 q3 d1 d2 hA9 => ?_
    try simp [-getElem?_pos, -Array.getElem?_eq_getElem, List.getElem?_cons_zero, List.getElem?_cons_succ, -Int.natCast_add, add_spot, and_assoc, Br_dec, -op_box, -op_lit_39_1, -op_lit_49_1, -op_alloc_46, -op_st_2, ]
    exact fin k58 (by simp [walkP, hmi, hmv]) (by simp [walkO, hmi, hmv]) hA8' k9 q1 q2 q3 d1 d2 hA9
theorem cell_b1 {cs : Array Value} {i : Nat} {b : Bool} {e : TypeId} (h : ∀ r, r < 1 → cs[i * 1 + r]? = (b1 b)[r]?) : cs[i]? = some (.bool b) := by
  have := h 0 (by decide)
  simpa [b1] using this
/-- laws.FnMapWalk. -/
theorem law_walk {a1 a3 : Option Addr} {c1 c3 ver : Nat} {steps : List MStep} {moves : List Bool} (h1 : Row w a1 (steps.flatMap MStep.cells)) (h3 : Row w a3 (moves.flatMap b1)) (hver : ver < 256) (hK : ∀ w', Frm (fun _ => False) w w' → K (.bool true) w') :
    Calls Try.prog 6 #[hval md ml sh, .slice a1 steps.length c1, .int .u8 ver, .slice a3 moves.length c3] w (ret K Kp) := by
  refine vc6_calls ?_
  simp only [vc6]
  refine op_box_ok fun w1 k1 z1 b1' => ?_
  simp only [hval, cells_agg] at b1'
  have hx3 : (#[Value.int .u32 (md : Int), .int .u32 (ml : Int), .int .u8 (sh : Int)] : Array Value).extract 0 3 = #[.int .u32 md, .int .u32 ml, .int .u8 sh] := rfl
  try simp [-getElem?_pos, -Array.getElem?_eq_getElem, List.getElem?_cons_zero, List.getElem?_cons_succ, -Int.natCast_add, add_spot, and_assoc, Br_dec, -op_box, -op_lit_39_1, -op_lit_49_1, -op_alloc_46, -op_st_2, b1', hx3]
  refine ⟨fun _ => hK w1 k1, fun hle => ⟨fun _ => hK w1 k1, fun hle2 => ?_⟩⟩
  have hr1 := h1.frame k1 fun _ _ h => h
  have hawake : ∀ {wz}, Frm (fun _ => False) w wz → Calls Try.prog 13 #[] wz (ret K Kp) := fun {wz} kz => mapAwake_ok fun w3 k3 => hK w3 (kz.no k3)
  refine fits_ok (md := md) (ml := ml) (sh := sh) hr1 (by omega) (fun w2 k2 => ?_) fun hfit h12 hsh w2 k2 => ?_
  · try simp [-getElem?_pos, -Array.getElem?_eq_getElem, List.getElem?_cons_zero, List.getElem?_cons_succ, -Int.natCast_add, add_spot, and_assoc, Br_dec, -op_box, -op_lit_39_1, -op_lit_49_1, -op_alloc_46, -op_st_2, ]
    exact hawake (k1.no k2)
  have b2 := k2.get b1' fun h => h
  have k02 := k1.no k2
  try simp [-getElem?_pos, -Array.getElem?_eq_getElem, List.getElem?_cons_zero, List.getElem?_cons_succ, -Int.natCast_add, add_spot, and_assoc, Br_dec, -op_box, -op_lit_39_1, -op_lit_49_1, -op_alloc_46, -op_st_2, b2, hx3]
  refine ⟨fun _ => hawake k02, fun h500 => ?_⟩
  have hcost := hfit.cost
  have k2d : Frm (fun _ => False) w w2.drew := k02.no (Frm.drew _)
  refine mapTo_ok (h1.frame k2d fun _ _ h => h) (by omega) fun l4 w4 k4 hR4 => ?_
  have b4 := (Frm.dr k4).get b2 fun h => h
  obtain ⟨a4, c4, rfl, hc4, _, hr4, _⟩ := hR4.flat
  try simp [-getElem?_pos, -Array.getElem?_eq_getElem, List.getElem?_cons_zero, List.getElem?_cons_succ, -Int.natCast_add, add_spot, and_assoc, Br_dec, -op_box, -op_lit_39_1, -op_lit_49_1, -op_alloc_46, -op_st_2, b4, hx3]
  refine mapRun_ok (md := md) (ml := ml) (sh := sh) hr4 hfit.m (by omega) fun l5 w5 G5 k5 hR5 => ?_
  have hlt := hashOf_lt md ml sh
  have hT := versT_len (hashOf md ml sh) steps
  have b5 := k5.get b4 fun h => h
  have k05 := k2d.no (k4.no k5)
  have hv : (ver : Int).tmod ((steps.length + 1 : Nat) : Int) = ((ver % (steps.length + 1) : Nat) : Int) := rfl
  have hvl : ver % (steps.length + 1) < steps.length + 1 := Nat.mod_lt _ (by omega)
  generalize ver % (steps.length + 1) = v at *
  have e0 : IntKind.i64.wrap (ver : Int) = ver := wrap_i64_small (by omega) (by omega)
  have e1 : ¬ (((steps.length + 1 : Nat) : Int) = 0) := by omega
  have e2 : IntKind.i64.wrap ((steps.length : Int) + 1) = ((steps.length + 1 : Nat) : Int) := by rw [IntKind.wrap_i64]; omega
  obtain ⟨u, g, c, cs, hle', hcs, hu, hg, hsz, hext, pv, hpv, hP, _⟩ := hR5.get (j := v) (by omega)
  have hget : (versT (hashOf md ml sh) steps)[v]? = some ((versT (hashOf md ml sh) steps)[v]'(by omega)) := List.getElem?_eq_getElem (by omega)
  have hsize := (vers_size hlt steps v _ hget).2
  generalize (versT (hashOf md ml sh) steps)[v]'(by omega) = t at *
  subst hle' hpv
  have q1 : cs[v * 2 + 1]? = some pv := by have := hg 1 (by decide); simpa using this
  rw [hT]
  obtain ⟨ap, cp, rfl, hcp, hmp, hrp, hnp⟩ := id hP
  try simp [-getElem?_pos, -Array.getElem?_eq_getElem, List.getElem?_cons_zero, List.getElem?_cons_succ, -Int.natCast_add, add_spot, and_assoc, Br_dec, -op_box, -op_lit_39_1, -op_lit_49_1, -op_alloc_46, -op_st_2, e0, e1, e2, hv, hcs, q1, b5, hx3]
  refine ⟨by omega, ?_⟩
  have k5d : Frm (fun _ => False) w w5.drew := k05.no (Frm.drew _)
  refine mapTo_ok (h1.frame k5d fun _ _ h => h) (by omega) fun l6 w6 k6 hR6 => ?_
  have b6 := (Frm.dr k6).get b5 fun h => h
  obtain ⟨a6, c6, rfl, hc6, _, hr6, _⟩ := hR6.flat
  try simp [-getElem?_pos, -Array.getElem?_eq_getElem, List.getElem?_cons_zero, List.getElem?_cons_succ, -Int.natCast_add, add_spot, and_assoc, Br_dec, -op_box, -op_lit_39_1, -op_lit_49_1, -op_alloc_46, -op_st_2, b6, hx3]
  have k06 := k5d.no k6
  refine mapWalk_ok (md := md) (ml := ml) (sh := sh) hr6 hfit.m (by omega) (h3.frame k06 fun _ _ h => h) (by omega) hvl fun L l1 l2 l3 w7 hL k7 hR1 hR2 hR3 => ?_
  obtain ⟨t', ht', rfl⟩ := hL
  obtain rfl : t = t' := by rw [hget] at ht'; exact Option.some.inj ht'
  have k57 : Frm (fun _ => False) w5 w7 := (Frm.dr k6).no k7
  have hP7 := hP.still k57
  generalize hLL : toL t = L at *
  have k07 := k06.no k7
  obtain ⟨x1, y1, hl1⟩ : ∃ a c, l1 = .slice a moves.length c := by obtain ⟨a, c, h, _⟩ := hR1.slice; exact ⟨a, c, by simpa using h⟩
  obtain ⟨x2, y2, hl2⟩ : ∃ a c, l2 = .slice a moves.length c := by obtain ⟨a, c, h, _⟩ := hR2.slice; exact ⟨a, c, by simpa using h⟩
  obtain ⟨x3, y3, hl3⟩ : ∃ a c, l3 = .slice a moves.length c := by obtain ⟨a, c, h, _⟩ := hR3.slice; exact ⟨a, c, by simpa using h⟩
  have e3 : decide (L = []) = decide ((L.length : Int) = 0) := decide_eq_decide.2 ⟨fun h => by rw [h]; rfl, fun h => List.eq_nil_of_length_eq_zero (by omega)⟩
  rw [hl1, hl2, hl3, e3]
  try simp [-getElem?_pos, -Array.getElem?_eq_getElem, List.getElem?_cons_zero, List.getElem?_cons_succ, -Int.natCast_add, add_spot, and_assoc, Br_dec, -op_box, -op_lit_39_1, -op_lit_49_1, -op_alloc_46, -op_st_2, ]
  rw [← hl1, ← hl2, ← hl3]
  obtain ⟨I, hI⟩ : ∃ I : Value → Value → World → Prop, ∀ a v wl, I a v wl ↔ ∃ i : Nat, a = .int .i64 (atAfter L.length (moves.take i) : Nat) ∧ v = .int .i64 i ∧ i ≤ moves.length ∧ Frm (fun _ => False) w7 wl := ⟨_, fun _ _ _ => Iff.rfl⟩
  refine Lp.intro I (fun _ v _ => moves.length - natOf v) ⟨(hI _ _ _).2 ⟨0, rfl, rfl, by omega, Frm.refl⟩, ?_⟩
  intro wl a s hl
  obtain ⟨i, rfl, rfl, hi, kl⟩ := (hI _ _ _).1 hl
  simp only [op_lss, Br_dec]
  refine ⟨fun hlt' => ?_, fun hnl' => hawake (k07.no kl)⟩
  have hi' : i < moves.length := by omega
  have htk : moves.take (i + 1) = moves.take i ++ [moves[i]] := List.take_succ_eq_append_getElem hi'
  have hmi : moves[i]? = some moves[i] := List.getElem?_eq_getElem hi'
  obtain ⟨bp, o, cs3, e, fz, rfl, hcs3, hsz3, hext3⟩ := (h3.frame (k07.no kl) fun _ _ h => h).part b1_len (by decide) hi'
  have hki : cs3[o + i]? = some (.bool moves[i]) := by
    have := congrArg (fun a => a[0]?) hext3
    simp only [Array.getElem?_extract] at this
    rw [if_pos (by omega)] at this
    simpa [b1] using this
  have hal := atAfter_le L.length (moves.take i)
  obtain ⟨g1, d1, f1, he1, p1, z1, s1, ex1⟩ := frow_get (frow_still hR1 kl) (j := i) (by simpa using hi')
  obtain ⟨g2, d2, f2, he2, p2, z2, _, _⟩ := frow_get (frow_still hR2 kl) (j := i) (by simpa using hi')
  obtain ⟨g3, d3, f3, he3, p3, z3, _, _⟩ := frow_get (frow_still hR3 kl) (j := i) (by simpa using hi')
  simp only [List.getElem_map, List.getElem_range] at z1 z2 z3 ex1
  have q2 := cell_b1 (e := 0) z2
  have q3 := cell_b1 (e := 0) z3
  rw [he1, he2, he3]
  simp only [List.length_map, List.length_range]
  try simp [-getElem?_pos, -Array.getElem?_eq_getElem, List.getElem?_cons_zero, List.getElem?_cons_succ, -Int.natCast_add, add_spot, and_assoc, Br_dec, -op_box, -op_lit_39_1, -op_lit_49_1, -op_alloc_46, -op_st_2, hcs3, hki]
  refine ⟨hi', ?_⟩
  obtain ⟨J, hJ⟩ : ∃ J : Value → World → Prop, ∀ a wz, J a wz ↔ a = .int .i64 (atAfter L.length (moves.take (i + 1)) : Nat) ∧ Frm (fun _ => False) wl wz := ⟨_, fun _ _ => Iff.rfl⟩
  have hz : ∀ {wz : World}, Frm (fun _ => False) wl wz → wz.heap[g3]? = some (.cells f3 4 (0, 0)) := fun kz => kz.get p3 fun h => h
  have hsnoc := atAfter_snoc L.length (moves.take i) moves[i]
  rw [← htk] at hsnoc
  refine Jn.intro J ⟨fun hmv => ?_, fun hmv => ?_, ?_⟩
  rotate_left 2
  · intro wz a ha
    obtain ⟨rfl, kz⟩ := (hJ _ _).1 ha
    have e4 : decide (((atAfter L.length (moves.take (i + 1)) : Nat) : Int) = (L.length : Int)) = walkD L moves i := decide_eq_decide.2 ⟨fun h => by omega, fun h => by omega⟩
    try simp [-getElem?_pos, -Array.getElem?_eq_getElem, List.getElem?_cons_zero, List.getElem?_cons_succ, -Int.natCast_add, add_spot, and_assoc, Br_dec, -op_box, -op_lit_39_1, -op_lit_49_1, -op_alloc_46, -op_st_2, hz kz, q3, e4]
    rw [wrap_i64_small (by omega) (by omega)]
    refine ⟨hi', (hI _ _ _).2 ⟨i + 1, rfl, by simp, by omega, kl.no kz⟩, ?_⟩
    simp only [natOf]; omega
  · rw [hmv] at hsnoc
    exact (hJ _ _).2 ⟨by rw [hsnoc]; rfl, Frm.refl⟩
  · rw [hmv] at hsnoc
    have hO : walkO L moves i = decide (atAfter L.length (moves.take i) < L.length) := by simp [walkO, hmi, hmv]
    have hPi : walkP L moves i = (L[atAfter L.length (moves.take i)]?).getD (0, 0) := by simp [walkP, hmi, hmv]
    refine ⟨fun hlt2 => ?_, fun hge2 => ?_⟩
    · have hlt3 : atAfter L.length (moves.take i) < L.length := by omega
      obtain ⟨a8, c8, he8, _, _, hr8, _⟩ := hP7.still kl
      cases he8
      obtain ⟨b8, o8, cs8, e8, fz8, rfl, hcs8, hsz8, hext8⟩ := hr8.part ent_len (by decide) hlt3
      rw [hO, decide_eq_true hlt3] at q2
      rw [hPi, List.getElem?_eq_getElem hlt3, Option.getD_some] at ex1
      try simp [-getElem?_pos, -Array.getElem?_eq_getElem, List.getElem?_cons_zero, List.getElem?_cons_succ, -Int.natCast_add, add_spot, and_assoc, Br_dec, -op_box, -op_lit_39_1, -op_lit_49_1, -op_alloc_46, -op_st_2, p2, q2, p1, s1, ex1, hcs8, hsz8, hext8]
      refine ⟨hi', hlt3, ?_⟩
      refine pair_ne _ _ _ ?_
      try simp [-getElem?_pos, -Array.getElem?_eq_getElem, List.getElem?_cons_zero, List.getElem?_cons_succ, -Int.natCast_add, add_spot, and_assoc, Br_dec, -op_box, -op_lit_39_1, -op_lit_49_1, -op_alloc_46, -op_st_2, ]
      refine (hJ _ _).2 ⟨?_, Frm.drew _⟩
      rw [hsnoc, wrap_i64_small (by omega) (by omega)]
      simp only [Bool.false_eq_true, if_false]
      rw [Nat.min_eq_left (by omega)]; simp
    · have hge3 : ¬ atAfter L.length (moves.take i) < L.length := by omega
      rw [hO, decide_eq_false hge3] at q2
      try simp [-getElem?_pos, -Array.getElem?_eq_getElem, List.getElem?_cons_zero, List.getElem?_cons_succ, -Int.natCast_add, add_spot, and_assoc, Br_dec, -op_box, -op_lit_39_1, -op_lit_49_1, -op_alloc_46, -op_st_2, p2, q2]
      refine ⟨hi', (hJ _ _).2 ⟨?_, Frm.refl⟩⟩
      rw [hsnoc]
      simp only [Bool.false_eq_true, if_false]
      rw [Nat.min_eq_right (by omega), show atAfter L.length (moves.take i) = L.length by omega]
end Go.Proofs.Ytbghmbbhkoniiaa.I
end
