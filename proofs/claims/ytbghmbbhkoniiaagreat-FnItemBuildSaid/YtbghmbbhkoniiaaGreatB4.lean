import Derived.Test.YtbghmbbhkoniiaaGreatB3
import Derived.Test.YtbghmbbhkoniiaaGreatB1
import Derived.Test.YtbghmbbhkoniiaaGreatB0
import Derived.ProofKit
import Derived.WideKeyArgs
import Derived.Deep.Slices
import Derived.Carry
import Derived.Test.YtbghmbbhkoniiaaGreatRows
set_option linter.unusedSimpArgs false
set_option linter.unusedVariables false
set_option linter.unusedSectionVars false
set_option maxRecDepth 100000
set_option maxHeartbeats 4000000
section
/- Versions of maps made by steps, and what they tell: mapsOf, MapRun. -/
namespace Go.Proofs.YtbghmbbhkoniiaaGreat.I
open Go.Vc Go.Proofs Go.Proofs.YtbghmbbhkoniiaaGreat Go.Vc.Nd
variable {w w' : World} {v : Value} {t : Tr} {F' G : Nat → Prop} {K : KV} {Kp : KP} {hash : Ky → Nat} {k : Ky} {x : Vl} {l s md ml sh : Nat} {nl : Bool}
def hval (md ml sh : Nat) : Value := .agg #[.int .u32 md, .int .u32 ml, .int .u8 sh]
def hashOf (md ml sh : Nat) : Ky → Nat := if md = 0 then defHash else dataHash md ml sh
theorem hashOf_lt (md ml sh : Nat) (k : Ky) : hashOf md ml sh k < 2 ^ 32 := by
  unfold hashOf
  split
  · exact (defHasher_ok 0).lt k
  · exact (dataHasher_ok (by omega)).lt k
theorem hasher_ok (hK : ∀ h w', Frm (fun _ => False) w w' → h.oneCell' = true → (IsH h (hashOf md ml sh) ∨ decide (md = 0) = true ∧ hashOf md ml sh = defHash ∧ h = .nilIface) → K h w') : Calls Tryz.prog 25 #[hval md ml sh] w (ret K Kp) := by
  refine vc25_calls ?_
  simp only [vc25, hval]
  refine op_box_ok fun w1 k1 z1 b1 => ?_
  simp only [cells_agg] at b1
  have hx : (#[Value.int .u32 (md : Int), .int .u32 (ml : Int), .int .u8 (sh : Int)] : Array Value).extract 0 3 = #[.int .u32 md, .int .u32 ml, .int .u8 sh] := rfl
  simp [-getElem?_pos, -Array.getElem?_eq_getElem, -Int.natCast_add, add_spot, and_assoc, Br_dec, -op_box, -op_alloc_52, -op_st_52, -op_lit_79_1, -op_lit_50_1, b1]
  refine ⟨fun h0 => ?_, fun h0 => ?_⟩
  · have h0 : md = 0 := by omega
    refine hK .nilIface w1 k1 rfl (.inr ⟨by simp [h0], ?_, rfl⟩)
    rw [hashOf, if_pos h0]
  · have h0 : ¬ md = 0 := by omega
    refine hK (dataV md ml sh) w1 k1 rfl (.inl ?_)
    rw [hashOf, if_neg h0]
    exact dataHasher_ok (by omega)
theorem mapStep_ok {s : MStep} {n : Nat} (h0 : 0 ≤ s.fro) (h1 : s.fro < n) (h2 : s.kind ≤ 3) (h3 : 0 ≤ s.count) (h4 : s.count ≤ 100000) (hK : ∀ w', Frm (fun _ => False) w w' → K (.bool true) w') :
    Calls Tryz.prog 36 #[.agg s.cells.toArray, .int .i64 n] w (ret K Kp) := by
  refine vc36_calls ?_
  simp only [vc36]
  refine op_box_ok fun w1 k1 z1 b1 => ?_
  simp only [cells_agg, MStep.cells] at b1
  have e1 : (s.kind : Int) ≤ 3 := by omega
  have := hK w1 k1
  simp [-getElem?_pos, -Array.getElem?_eq_getElem, -Int.natCast_add, add_spot, and_assoc, Br_dec, -op_box, -op_alloc_52, -op_st_52, -op_lit_79_1, -op_lit_50_1, b1, h0, h1, e1]
  refine ⟨fun _ => this, fun _ => ?_⟩
  try simp [-getElem?_pos, -Array.getElem?_eq_getElem, -Int.natCast_add, add_spot, and_assoc, Br_dec, -op_box, -op_alloc_52, -op_st_52, -op_lit_79_1, -op_lit_50_1, h3, h4]
  first | exact this | exact ⟨this, fun h => absurd h (by omega)⟩
def ElV (hash : Ky → Nat) (nl : Bool) : World → List Value → Tr → (Nat → Prop) → Prop := fun w u t G => ∃ b, u = [ptr b] ∧ Ver w b hash nl t G
theorem elV_ok (hash : Ky → Nat) (nl : Bool) : ElOk (ElV hash nl) :=
  ⟨fun ⟨b, hu, h⟩ hf hM => ⟨b, hu, h.frame hf hM⟩, fun ⟨b, hu, h⟩ hG => ⟨b, hu, h.mono hG⟩⟩
theorem apM : apOf Tryz.prog 79 = some (81, 1, 8) := by kernel_rfl
theorem apSeen : apOf Tryz.prog 50 = some (55, 2, 32) := by kernel_rfl
theorem cells5 (s : MStep) : (#[.int .u8 s.kind, .int .i64 s.fro, .int .i64 s.key, .int .i64 s.value, .int .i64 s.count] : Array Value).extract 0 5 = s.cells.toArray := rfl
theorem mapsOf_ok {a1 : Option Addr} {c1 : Nat} {steps : List MStep} (h1 : Row w a1 (steps.flatMap MStep.cells)) (hfit : MFit steps) (hc : mcost steps ≤ 900000)
    (hK : ∀ l w' G, Frm (fun _ => False) w w' → RowsOf (ElV (hashOf md ml sh) (decide (md = 0))) w' w.heap.size 81 1 l (versT (hashOf md ml sh) steps) G → K l w') :
    Calls Tryz.prog 31 #[hval md ml sh, .slice a1 steps.length c1] w (ret K Kp) := by
  have hn : steps.length ≤ mcost steps := by
    clear h1 hfit hc hK
    induction steps with
    | nil => simp
    | cons s l ih => simp only [mcost, List.map_cons, List.sum_cons, List.length_cons, MStep.cost] at ih ⊢; omega
  generalize hhash : hashOf md ml sh = hash at *
  generalize hnl : decide (md = 0) = nl at *
  have hE := elV_ok hash nl
  have hlt : ∀ k, hash k < 2 ^ 32 := fun k => by rw [← hhash]; exact hashOf_lt md ml sh k
  refine vc31_calls ?_
  simp only [vc31]
  refine op_box_ok fun w1 k1 z1 b1 => ?_
  simp only [hval, cells_agg] at b1
  have hx3 : (#[Value.int .u32 (md : Int), .int .u32 (ml : Int), .int .u8 (sh : Int)] : Array Value).extract 0 3 = #[.int .u32 md, .int .u32 ml, .int .u8 sh] := rfl
  simp [-getElem?_pos, -Array.getElem?_eq_getElem, -Int.natCast_add, add_spot, and_assoc, Br_dec, -op_box, -op_alloc_52, -op_st_52, -op_lit_79_1, -op_lit_50_1, b1, hx3]
  refine hasher_ok (md := md) (ml := ml) (sh := sh) fun h w2 k2 o2 hh2 => ?_
  rw [hhash, hnl] at hh2
  try simp [-getElem?_pos, -Array.getElem?_eq_getElem, -Int.natCast_add, add_spot, and_assoc, Br_dec, -op_box, -op_alloc_52, -op_st_52, -op_lit_79_1, -op_lit_50_1]
  refine ver_new_ok hh2 o2 fun w3 k3 z3 v3 => ?_
  have n1 := k1.size
  have n2 := k2.size
  have n3 := k3.size
  have k03 := (k1.no k2).no k3
  refine op_row1 (base := w.heap.size) (u := [ptr w2.heap.size]) hE apM (lit_79_1 rfl) rfl ⟨_, rfl, v3⟩ (fun c hc => by omega) (by omega) fun l4 w4 k4 hR4 ho4 => ?_
  have b4 := k4.get (k3.get (k2.get b1 fun h => h) fun h => h) fun h => h
  obtain ⟨a4, c4, rfl, _⟩ := hR4.slice
  try simp [-getElem?_pos, -Array.getElem?_eq_getElem, -Int.natCast_add, add_spot, and_assoc, Br_dec, -op_box, -op_alloc_52, -op_st_52, -op_lit_79_1, -op_lit_50_1]
  obtain ⟨I, hI⟩ : ∃ I : Value → KV, ∀ l v wl, I l v wl ↔ ∃ (i : Nat) (G : Nat → Prop), v = .int .i64 i ∧ i ≤ steps.length ∧ Frm (fun _ => False) w wl ∧ w1.heap.size ≤ wl.heap.size ∧
      wl.heap[w.heap.size]? = some (.cells #[.int .u32 md, .int .u32 ml, .int .u8 sh] 24 (0, 0)) ∧ RowsOf (ElV hash nl) wl (w.heap.size + 1) 81 1 l (versT hash (steps.take i)) G := ⟨_, fun _ _ _ => Iff.rfl⟩
  have hR4' : RowsOf (ElV hash nl) w4 (w.heap.size + 1) 81 1 (.slice a4 [Nd.emp (κ := Ky) (ν := Vl)].length c4) (versT hash (steps.take 0)) (· = w2.heap.size) := by
    obtain ⟨⟨us, g1, g2, g3, g4⟩, g5, g6⟩ := hR4
    refine ⟨⟨us, by simpa [versT, vers] using g1, g2, ?_, by simpa [versT, vers] using g4⟩, fun c hc => ⟨by omega, (g5 c hc).2⟩, g6⟩
    obtain ⟨q1, ⟨q2, q3⟩ | ⟨g, cap, cur, q2, q3, q4⟩⟩ := g3
    · simp at q3
    · refine ⟨by simpa [versT, vers] using q1, .inr ⟨g, cap, cur, by simpa [versT, vers] using q2, ?_, by simpa [versT, vers] using q4⟩⟩
      rw [q2] at ho4
      have e : g = w3.heap.size := Option.some.inj ho4
      omega
  refine Lp.intro I (fun _ v _ => steps.length - natOf v) ⟨(hI _ _ _).2 ⟨0, _, rfl, by omega, k03.no k4, by have := k4.size; omega, b4, hR4'⟩, ?_⟩
  intro wl l v hl
  obtain ⟨i, G, rfl, hi, kl, zl, bl, hR⟩ := (hI _ _ _).1 hl
  simp only [op_lss, Br_dec]
  refine ⟨fun hlt' => ?_, fun hnl' => ?_⟩
  rotate_left
  · have : i = steps.length := by omega
    subst this
    rw [List.take_length] at hR
    exact hK l wl G kl (hR.base_le (by omega))
  have hi' : i < steps.length := by omega
  have htk : steps.take (i + 1) = steps.take i ++ [steps[i]] := List.take_succ_eq_append_getElem hi'
  have hct := mcost_take steps (i + 1)
  rw [htk, mcost_snoc] at hct
  obtain ⟨f1, f2, f3, f4, f5⟩ := hfit i hi'
  obtain ⟨bp, o, cs, e, fz, rfl, hcs, hsz, hext⟩ := (h1.frame kl (fun _ _ h => h)).part mcells_len (by decide) hi'
  generalize hst : steps[i] = s at *
  have hlow := hR.own_lt
  simp [-getElem?_pos, -Array.getElem?_eq_getElem, -Int.natCast_add, add_spot, and_assoc, Br_dec, -op_box, -op_alloc_52, -op_st_52, -op_lit_79_1, -op_lit_50_1, hcs, hsz, hext]
  refine ⟨hi', ?_⟩
  refine op_alloc_ok (z := .agg #[.int .u8 0, .int .i64 0, .int .i64 0, .int .i64 0, .int .i64 0]) (by kernel_rfl) fun w5 k5 z5 b5 => ?_
  simp only [cells_agg] at b5
  refine op_storeN_ok (n := 5) (by kernel_rfl) b5 rfl (by decide) (by simp [MStep.cells]) fun w6 k6 z6 b6 => ?_
  have b6 : w6.heap[wl.heap.size]? = some (.cells s.cells.toArray 52 (0, 0)) := by
    rw [ow_all (by simp [MStep.cells])] at b6; simpa [MStep.cells] using b6
  have n5 := k5.size
  have n6 := k6.size
  have k56 : Frm (fun _ => False) wl w6 := k5.old k6 fun c hc => .inr (by omega)
  have bl6 := k56.get bl fun h => h
  simp [-getElem?_pos, -Array.getElem?_eq_getElem, -Int.natCast_add, add_spot, and_assoc, Br_dec, -op_box, -op_alloc_52, -op_st_52, -op_lit_79_1, -op_lit_50_1, bl6, hx3]
  refine hasher_ok (md := md) (ml := ml) (sh := sh) fun h7 w7 k7 o7 hh7 => ?_
  rw [hhash, hnl] at hh7
  try simp [-getElem?_pos, -Array.getElem?_eq_getElem, -Int.natCast_add, add_spot, and_assoc, Br_dec, -op_box, -op_alloc_52, -op_st_52, -op_lit_79_1, -op_lit_50_1]
  refine ver_new_ok hh7 o7 fun w8 k8 z8 v8 => ?_
  have n7 := k7.size
  have n8 := k8.size
  have k78 := k7.no k8
  have k58 := k56.no k78
  have b8 : w8.heap[wl.heap.size]? = some (.cells #[.int .u8 s.kind, .int .i64 s.fro, .int .i64 s.key, .int .i64 s.value, .int .i64 s.count] 52 (0, 0)) := k78.get b6 fun h => h
  have hR8 := hR.still hE k58
  have hlv : (versT hash (steps.take i)).length = i + 1 := by rw [versT, vers_len, List.length_take]; omega
  obtain ⟨q, hq⟩ : ∃ q : Nat, s.fro = q := ⟨s.fro.toNat, by omega⟩
  have hq1 : q < (versT hash (steps.take i)).length := by omega
  obtain ⟨u, g, c, cur, hlg, hg1, hg2, hg3, hg4, hg5, bv, hub, hV⟩ := hR8.get hq1
  subst hlg hub
  have hg0 : cur[q]? = some (ptr bv) := by have := hg3 0 (by decide); simpa using this
  generalize ht : (versT hash (steps.take i))[q] = t0 at hV
  have hsize : (toL t0).length ≤ mcost (steps.take i) := (vers_size hlt (steps.take i) q t0 (by rw [List.getElem?_eq_getElem hq1, ht])).2
  have hnext : versT hash (steps.take (i + 1)) = versT hash (steps.take i) ++ [trieStep hash t0 s] := by
    have e1 : (vers (trieStep hash) MStep.ref .emp (steps.take i))[s.ref]? = some t0 := by
      have : s.ref = q := by simp [MStep.ref, hq]
      rw [this, ← ht]; exact List.getElem?_eq_getElem hq1
    rw [htk, versT, vers_snoc, e1]; rfl
  have hcost : s.cost = 1 + s.count.toNat := rfl
  obtain ⟨J, hJ⟩ : ∃ J : KV, ∀ p w', J p w' ↔ ∃ (b' : Nat) (G2 : Nat → Prop), p = ptr b' ∧ Frm (fun _ => False) wl w' ∧ w8.heap.size ≤ w'.heap.size ∧ Ver w' b' hash nl (trieStep hash t0 s) G2 ∧ ∀ c, G2 c → (G c ∨ wl.heap.size ≤ c) ∧ c < w'.heap.size := ⟨_, fun _ _ => Iff.rfl⟩
  refine Jn.intro J ⟨?_, ?_⟩
  rotate_left
  · intro w9 m hm
    obtain ⟨b', G2, rfl, k9, n9, v9, hG2⟩ := (hJ _ _).1 hm
    refine op_push (u := [ptr b']) hE apM (lit_79_1 rfl) rfl (by simp [ptr]) (hR.still hE k9) ⟨b', rfl, v9⟩ (fun c hc => ?_) (fun b hb hc => ?_) (by omega) (by omega) fun l10 w10 k10 hR10 ho10 => ?_
    · refine ⟨?_, (hG2 c hc).2⟩
      rcases (hG2 c hc).1 with h | h
      · exact (hR.low c h).1
      · omega
    · rcases (hG2 b hc).1 with h | h
      · exact hR.off b hb h
      · have := hlow b hb; omega
    · try simp [-getElem?_pos, -Array.getElem?_eq_getElem, -Int.natCast_add, add_spot, and_assoc, Br_dec, -op_box, -op_alloc_52, -op_st_52, -op_lit_79_1, -op_lit_50_1]
      rw [wrap_i64_small (by omega) (by omega)]
      have hM10 : ∀ b, some b = (Value.slice (some { block := g, off := 0 }) (versT hash (steps.take i)).length c).ownBlock → w.heap.size + 1 ≤ b := fun b hb => (hlow b hb.symm).1
      refine ⟨(hI _ _ _).2 ⟨i + 1, _, by simp, by omega, (kl.no k9).old k10 fun c hc => .inr (by have := hM10 c hc; omega), by have := k10.size; omega, k10.get (k9.get bl fun h => h) fun he => by have := hM10 _ he; omega, by rw [hnext]; exact hR10⟩, ?_⟩
      simp only [natOf]; omega
  have hx5 := cells5 s
  simp [-getElem?_pos, -Array.getElem?_eq_getElem, -Int.natCast_add, add_spot, and_assoc, Br_dec, -op_box, -op_alloc_52, -op_st_52, -op_lit_79_1, -op_lit_50_1, b8, hx5]
  rw [hlv]
  refine mapStep_ok (s := s) (n := i + 1) f2 (by omega) f1 f4 f5 fun w9 k9 => ?_
  have b9 := k9.get b8 fun h => h
  have hg9 := k9.get hg1 fun h => h
  have hV9 := hV.still k9
  have n9 := k9.size
  simp [-getElem?_pos, -Array.getElem?_eq_getElem, -Int.natCast_add, add_spot, and_assoc, Br_dec, -op_box, -op_alloc_52, -op_st_52, -op_lit_79_1, -op_lit_50_1, b9, hq, hg9, hg0]
  refine ⟨by omega, ?_⟩
  have hdone : ∀ {b' : Nat} {wz : World} {t' : Tr} {G2 : Nat → Prop}, t' = trieStep hash t0 s → Frm (fun _ => False) w9 wz → Ver wz b' hash nl t' G2 → (∀ c, G2 c → (G c ∨ w9.heap.size ≤ c) ∧ c < wz.heap.size) → J (ptr b') wz := fun {b' wz t' G2} he kz vz hz => by
    subst he
    refine (hJ _ _).2 ⟨b', G2, rfl, (k58.no k9).no kz, by have := kz.size; omega, vz, fun c hc => ⟨?_, (hz c hc).2⟩⟩
    rcases (hz c hc).1 with h | h
    · exact .inl h
    · exact .inr (by omega)
  have hkind : s.kind = 0 ∨ s.kind = 1 ∨ s.kind = 2 ∨ s.kind = 3 := by omega
  have hdef := defHasher_ok
  rcases hkind with hk | hk | hk | hk
  · simp [-getElem?_pos, -Array.getElem?_eq_getElem, -Int.natCast_add, add_spot, and_assoc, Br_dec, -op_box, -op_alloc_52, -op_st_52, -op_lit_79_1, -op_lit_50_1, hk, b9]
    refine Set_ok (k := s.key) (x := s.value) hdef hV9 (by omega) fun b' wz F' kz vz hz => hdone (by simp only [trieStep, hk]) kz vz hz
  · simp [-getElem?_pos, -Array.getElem?_eq_getElem, -Int.natCast_add, add_spot, and_assoc, Br_dec, -op_box, -op_alloc_52, -op_st_52, -op_lit_79_1, -op_lit_50_1, hk, b9]
    refine Delete_ok (k := s.key) hV9 (by omega) fun b' wz F' kz vz hz => hdone (by simp only [trieStep, hk]) kz vz hz
  · simp [-getElem?_pos, -Array.getElem?_eq_getElem, -Int.natCast_add, add_spot, and_assoc, Br_dec, -op_box, -op_alloc_52, -op_st_52, -op_lit_79_1, -op_lit_50_1, hk]
    obtain ⟨I2, hI2⟩ : ∃ I2 : Value → KV, ∀ m v wz, I2 m v wz ↔ ∃ (j b' : Nat) (G2 : Nat → Prop), m = ptr b' ∧ v = .int .i64 j ∧ (j : Int) ≤ s.count ∧ Frm (fun _ => False) w9 wz ∧ Ver wz b' hash nl (setN hash s.key s.value t0 j) G2 ∧ (∀ c, G2 c → (G c ∨ w9.heap.size ≤ c) ∧ c < wz.heap.size) := ⟨_, fun _ _ _ => Iff.rfl⟩
    refine Lp.intro I2 (fun _ v _ => s.count.toNat - natOf v) ⟨(hI2 _ _ _).2 ⟨0, bv, G, rfl, rfl, by omega, Frm.refl, hV9, fun c hc => ⟨.inl hc, by have := (hR.low c hc).2; omega⟩⟩, ?_⟩
    intro wz m v hm
    obtain ⟨j, b', G2, rfl, rfl, hj, kz, vz, hz⟩ := (hI2 _ _ _).1 hm
    have bz := kz.get b9 fun h => h
    have hsz2 := (setN_len hlt hV9.1 (k := s.key) (v := s.value) j).2
    simp [-getElem?_pos, -Array.getElem?_eq_getElem, -Int.natCast_add, add_spot, and_assoc, Br_dec, -op_box, -op_alloc_52, -op_st_52, -op_lit_79_1, -op_lit_50_1, bz]
    refine ⟨fun hlt2 => ?_, fun hge => ?_⟩
    · refine Set_ok (k := kAt s.key s.value j) (x := (j : Int)) hdef vz (by omega) fun b'' wy F' ky vy hy => ?_
      rw [← setN_succ] at vy
      rw [wrap_i64_small (by omega) (by omega)]
      have := kz.size
      refine ⟨(hI2 _ _ _).2 ⟨j + 1, b'', F', rfl, by simp, by omega, kz.no ky, vy, fun c hc => ⟨?_, (hy c hc).2⟩⟩, ?_⟩
      · rcases (hy c hc).1 with h | h
        · exact (hz c h).1
        · exact .inr (by omega)
      · simp only [natOf]; omega
    · have : j = s.count.toNat := by omega
      subst this
      exact hdone (by simp only [trieStep, hk]) kz vz hz
  · simp [-getElem?_pos, -Array.getElem?_eq_getElem, -Int.natCast_add, add_spot, and_assoc, Br_dec, -op_box, -op_alloc_52, -op_st_52, -op_lit_79_1, -op_lit_50_1, hk]
    obtain ⟨I2, hI2⟩ : ∃ I2 : Value → KV, ∀ m v wz, I2 m v wz ↔ ∃ (j b' : Nat) (G2 : Nat → Prop), m = ptr b' ∧ v = .int .i64 j ∧ (j : Int) ≤ s.count ∧ Frm (fun _ => False) w9 wz ∧ Ver wz b' hash nl (delN hash s.key s.value t0 j) G2 ∧ (∀ c, G2 c → (G c ∨ w9.heap.size ≤ c) ∧ c < wz.heap.size) := ⟨_, fun _ _ _ => Iff.rfl⟩
    refine Lp.intro I2 (fun _ v _ => s.count.toNat - natOf v) ⟨(hI2 _ _ _).2 ⟨0, bv, G, rfl, rfl, by omega, Frm.refl, hV9, fun c hc => ⟨.inl hc, by have := (hR.low c hc).2; omega⟩⟩, ?_⟩
    intro wz m v hm
    obtain ⟨j, b', G2, rfl, rfl, hj, kz, vz, hz⟩ := (hI2 _ _ _).1 hm
    have bz := kz.get b9 fun h => h
    have hsz2 := (delN_len hV9.1 (k := s.key) (v := s.value) j).2
    simp [-getElem?_pos, -Array.getElem?_eq_getElem, -Int.natCast_add, add_spot, and_assoc, Br_dec, -op_box, -op_alloc_52, -op_st_52, -op_lit_79_1, -op_lit_50_1, bz]
    refine ⟨fun hlt2 => ?_, fun hge => ?_⟩
    · refine Delete_ok (k := kAt s.key s.value j) vz (by omega) fun b'' wy F' ky vy hy => ?_
      rw [← delN_succ] at vy
      rw [wrap_i64_small (by omega) (by omega)]
      have := kz.size
      refine ⟨(hI2 _ _ _).2 ⟨j + 1, b'', F', rfl, by simp, by omega, kz.no ky, vy, fun c hc => ⟨?_, (hy c hc).2⟩⟩, ?_⟩
      · rcases (hy c hc).1 with h | h
        · exact (hz c h).1
        · exact .inr (by omega)
      · simp only [natOf]; omega
    · have : j = s.count.toNat := by omega
      subst this
      exact hdone (by simp only [trieStep, hk]) kz vz hz
end Go.Proofs.YtbghmbbhkoniiaaGreat.I
end
section
/- MapRun: what all versions tell. -/
namespace Go.Proofs.YtbghmbbhkoniiaaGreat.I
open Go.Vc Go.Proofs Go.Proofs.YtbghmbbhkoniiaaGreat Go.Vc.Nd
variable {w w' : World} {v : Value} {t : Tr} {F G : Nat → Prop} {K : KV} {Kp : KP} {hash : Ky → Nat} {l s md ml sh : Nat} {nl : Bool}
def ElS : World → List Value → Tr → (Nat → Prop) → Prop := fun w u t G => ∃ pv, u = [.int .i64 (toL t).length, pv] ∧ IsPairs w pv (toL t) ∧ ∀ b, pv.ownBlock = some b → G b
theorem elS_ok : ElOk ElS :=
  ⟨fun ⟨pv, hu, h, hG⟩ hf hM => ⟨pv, hu, h.frame hf fun b hb => hM b (hG b hb), hG⟩, fun ⟨pv, hu, h, hG⟩ hG' => ⟨pv, hu, h, fun b hb => hG' b (hG b hb)⟩⟩
theorem told_ok {b : Nat} (h : Ver w b hash nl t F) (hF : ∀ c, F c → c < w.heap.size) (hL : (toL t).length < 2 ^ 31)
    (hK : ∀ pv w', Frm (fun _ => False) w w' → RowsOf (Flat ent) w' w.heap.size 58 2 pv (toL t) (fun _ => False) → K (.agg #[.int .i64 (toL t).length, pv]) w') :
    (nice Tryz.prog).call (.fn 33) [ptr b] w (fun v18 w => (nice Tryz.prog).call (.fn 34) [ptr b] w (fun v20 w => (nice Tryz.prog).call (.fn 32) [v18, v20] w K Kp) Kp) Kp := by
  simp only [call_33, call_34, call_32]
  refine ver_len_ok h ?_
  refine ver_iter_ok h hF fun ib w1 k1 hib hA => ?_
  have hib2 := hA.lt
  have n1 := k1.size
  refine mapSeen_ok hA (fun hc => by have := hF _ hc; omega) (fun c hc => by have := hF c hc; omega) hL fun pv w2 k2 hR2 => hK pv w2 (k1.old k2 fun c hc => .inr (by omega)) (hR2.base_le k1.size)
theorem mapRun_ok {a1 : Option Addr} {c1 : Nat} {steps : List MStep} (h1 : Row w a1 (steps.flatMap MStep.cells)) (hfit : MFit steps) (hc : mcost steps ≤ 900000)
    (hK : ∀ l w' G, Frm (fun _ => False) w w' → RowsOf ElS w' w.heap.size 55 2 l (versT (hashOf md ml sh) steps) G → K l w') :
    Calls Tryz.prog 15 #[hval md ml sh, .slice a1 steps.length c1] w (ret K Kp) := by
  refine vc15_calls ?_
  simp only [vc15]
  refine op_box_ok fun w1 k1 z1 b1 => ?_
  simp only [hval, cells_agg] at b1
  have hx3 : (#[Value.int .u32 (md : Int), .int .u32 (ml : Int), .int .u8 (sh : Int)] : Array Value).extract 0 3 = #[.int .u32 md, .int .u32 ml, .int .u8 sh] := rfl
  simp [-getElem?_pos, -Array.getElem?_eq_getElem, -Int.natCast_add, add_spot, and_assoc, Br_dec, -op_box, -op_lit_50_1, b1, hx3]
  refine mapsOf_ok (md := md) (ml := ml) (sh := sh) (h1.frame k1 fun _ _ h => h) hfit hc fun l w2 G k2 hR2 => ?_
  have hlt := hashOf_lt md ml sh
  generalize hashOf md ml sh = hash at *
  generalize decide (md = 0) = nl at *
  have hn : (versT hash steps).length = steps.length + 1 := vers_len steps
  have hcl : steps.length ≤ mcost steps := by
    clear h1 hfit hc hK hR2 hn
    induction steps with
    | nil => simp
    | cons s l ih => simp only [mcost, List.map_cons, List.sum_cons, List.length_cons, MStep.cost] at ih ⊢; omega
  have hsz := vers_size hlt steps
  generalize hvs : versT hash steps = vs at *
  obtain ⟨a2, c2, hl2, _⟩ := id hR2.slice
  subst hl2
  have n1 := k1.size
  have n2 := k2.size
  obtain ⟨I, hI⟩ : ∃ I : Value → KV, ∀ l v wl, I l v wl ↔ ∃ (i : Nat) (G' : Nat → Prop), v = .int .i64 i ∧ i ≤ vs.length ∧ Frm (fun _ => False) w2 wl ∧ RowsOf ElS wl w2.heap.size 55 2 l (vs.take i) G' := ⟨_, fun _ _ _ => Iff.rfl⟩
  try simp [-getElem?_pos, -Array.getElem?_eq_getElem, -Int.natCast_add, add_spot, and_assoc, Br_dec, -op_box, -op_lit_50_1]
  refine Lp.intro I (fun _ v _ => vs.length - natOf v) ⟨(hI _ _ _).2 ⟨0, _, rfl, by omega, Frm.refl, rows_nil⟩, ?_⟩
  intro wl l v hl
  obtain ⟨i, G', rfl, hi, kl, hR⟩ := (hI _ _ _).1 hl
  simp only [op_lss, Br_dec]
  refine ⟨fun hlt' => ?_, fun hnl' => ?_⟩
  rotate_left
  · have : i = vs.length := by omega
    subst this
    rw [List.take_length] at hR
    exact hK l wl G' ((k1.no k2).no kl) (hR.base_le (by omega))
  have hi' : i < vs.length := by omega
  have htk : vs.take (i + 1) = vs.take i ++ [vs[i]] := List.take_succ_eq_append_getElem hi'
  have hlow := hR.own_lt
  have nl' := kl.size
  obtain ⟨u, g, c, cur, hlg, hg1, hg2, hg3, hg4, hg5, bv, hub, hV⟩ := (hR2.still (elV_ok hash nl) kl).get hi'
  cases hlg
  subst hub
  have hg0 : cur[i]? = some (ptr bv) := by have := hg3 0 (by decide); simpa using this
  have hti := (hsz i vs[i] (by simp [hi'])).2
  generalize ht : vs[i] = t0 at *
  simp [-getElem?_pos, -Array.getElem?_eq_getElem, -Int.natCast_add, add_spot, and_assoc, Br_dec, -op_box, -op_lit_50_1, hg1, hg0]
  refine ⟨hi', ?_⟩
  have := @told_ok
  simp only [call_33, call_34, call_32] at this
  refine this hV (fun c hc => by have := (hR2.low c hc).2; omega) (by omega) fun pv w3 k3 hR3 => ?_
  have hlow3 := hR3.own_lt
  have n3 := k3.size
  have hR' := hR.still elS_ok k3
  refine op_push (u := [.int .i64 (toL t0).length, pv]) (G2 := fun c => pv.ownBlock = some c) elS_ok apSeen lit_50_1 rfl (by simp [hR3.one]) hR' ⟨pv, rfl, hR3.flat, fun b hb => hb⟩ (fun c hc => by have := hlow3 c hc; omega) (fun b hb hc => by have := hlow b hb; have := hlow3 b hc; omega) (by simp; omega) (by omega) fun l' w4 k4 hR4 ho4 => ?_
  try simp [-getElem?_pos, -Array.getElem?_eq_getElem, -Int.natCast_add, add_spot, and_assoc, Br_dec, -op_box, -op_lit_50_1]
  rw [wrap_i64_small (by omega) (by omega)]
  refine ⟨(hI _ _ _).2 ⟨i + 1, _, by simp, by omega, (kl.no k3).old k4 fun c hc => .inr (hlow c hc.symm).1, by rw [htk]; exact hR4⟩, ?_⟩
  simp only [natOf]; omega
end Go.Proofs.YtbghmbbhkoniiaaGreat.I
end
section
/- Whole numbers and texts as keys of Go's maps; plain facts of rows of pairs. -/
namespace Go.Vc
variable {P : Program}
def keyInt {t : TypeId} {k : IntKind} (h : P.underlying t = some (.int k)) : KeyEnc P t Int where
  enc := .int k
  desc := .int k
  und := h
  same a b := by
    simp only [Instr.sameNow, if_true]
    by_cases e : a = b <;> simp [e]
  bits a := by simp [Instr.sameBits]
  chk w e a := by rw [Instr.checkKey]; simp [run_und h]
section
variable {κ ν : Type} [DecidableEq κ]
theorem mem_erase_nd {L : List (κ × ν)} (hn : (L.map (·.1)).Nodup) {i : Nat} (hi : i < L.length) {e : κ × ν} : e ∈ L.eraseIdx i ↔ e ∈ L ∧ e.1 ≠ L[i].1 := by
  rw [List.mem_eraseIdx_iff_getElem]
  constructor
  · rintro ⟨j, hj, hne, rfl⟩
    refine ⟨List.getElem_mem hj, fun hk => hne ?_⟩
    have := List.pairwise_iff_getElem.1 hn
    rcases Nat.lt_trichotomy i j with h | h | h
    · exact (this i j (by simpa using hi) (by simpa using hj) h (by simp [hk])).elim
    · exact h.symm
    · exact (this j i (by simpa using hj) (by simpa using hi) h (by simp [hk])).elim
  · rintro ⟨h, h3⟩
    obtain ⟨j, hj, hje⟩ := List.mem_iff_getElem.1 h
    exact ⟨j, hj, fun e => h3 (by subst e; rw [← hje]), hje⟩
theorem one_of_key {D : List (κ × ν)} (hn : (D.map (·.1)).Nodup) {e e' : κ × ν} (h : e ∈ D) (h' : e' ∈ D) (hk : e.1 = e'.1) : e = e' := by
  obtain ⟨i, hi, rfl⟩ := List.mem_iff_getElem.1 h
  obtain ⟨j, hj, rfl⟩ := List.mem_iff_getElem.1 h'
  have := List.pairwise_iff_getElem.1 hn
  rcases Nat.lt_trichotomy i j with h | h | h
  · exact (this i j (by simpa using hi) (by simpa using hj) h (by simp [hk])).elim
  · subst h; rfl
  · exact (this j i (by simpa using hj) (by simpa using hi) h (by simp [hk])).elim
theorem HasMap.nodup {w : World} {ek : κ → Value} {ev : ν → Value} {b : Nat} {D : List (κ × ν)} (h : HasMap w ek ev b D) : (D.map (·.1)).Nodup := by
  obtain ⟨es, c, h⟩ := h; exact h.nodup
structure Copied (D L D2 : List (κ × ν)) : Prop where
  nd : (L.map (·.1)).Nodup
  sub : ∀ e ∈ L, e ∈ D
  done : ∀ e, e ∈ D2 ↔ e ∈ D ∧ e ∉ L
theorem Copied.start {D : List (κ × ν)} (hn : (D.map (·.1)).Nodup) : Copied D D [] := ⟨hn, fun _ h => h, fun e => by simp⟩
theorem Copied.next {D L D2 : List (κ × ν)} (hn : (D.map (·.1)).Nodup) (hn2 : (D2.map (·.1)).Nodup) (h : Copied D L D2) {i : Nat} (hi : i < L.length) : Copied D (L.eraseIdx i) (Nd.upd D2 L[i].1 L[i].2) := by
  refine ⟨h.nd.sublist ((List.eraseIdx_sublist L i).map _), fun e he => h.sub e ((mem_erase_nd h.nd hi).1 he).1, fun e => ?_⟩
  rw [Nd.mem_upd hn2, mem_erase_nd h.nd hi, h.done e]
  have hmem := h.sub _ (List.getElem_mem hi)
  constructor
  · rintro (rfl | ⟨h1, h2, h3⟩)
    · exact ⟨hmem, fun h => h.2 rfl⟩
    · exact ⟨h2, fun h => h3 h.1⟩
  · rintro ⟨h1, h2⟩
    by_cases hk : e.1 = L[i].1
    · exact .inl (one_of_key hn h1 hmem hk)
    · exact .inr ⟨hk, h1, fun hL => h2 ⟨hL, hk⟩⟩
theorem Copied.tells {D D2 : List (κ × ν)} {m : κ → Option ν} (h : Copied D [] D2) (hm : Tells D m) : Tells D2 m := fun k v => by
  rw [h.done]; simp [hm k v]
end
end Go.Vc
end
section
/- A loop that hands a slice's elements on into a row of another type. -/
namespace Go.Vc
variable {P : Program} {w w' : World} {K : Value → World → Prop} {Kp : KP} {e : TypeId} {k : Nat}
theorem wrap_small64 {n : Int} (h0 : 0 ≤ n) (h1 : n < 9223372036854775808) : IntKind.i64.wrap n = n := by rw [IntKind.wrap_i64]; omega
theorem conv_ok {α : Type} {f : α → List Value} {tin tel tout e s : TypeId} {bytes : Nat} {z : Value} (hk : ∀ x, (f x).length = k) (hk0 : 0 < k) (hone : ∀ x, ∀ u ∈ f x, u.oneCell' = true) (hin : sliceOf P tin = some (e, k)) (hkd : kd P tin = .slice) (hel : ldk P tel = some (.agg k))
    (hz : zeroOf P tel = some z) (hzk : z.cells.size = k) (ha : apOf P tout = some (s, k, bytes)) (hl : ∀ x, sliceLit P tout 1 [(0, .agg (f x).toArray)] = some (s, (f x).toArray)) {a : Option Addr} {c : Nat} {xs : List α} (h : Row w a (xs.flatMap f)) (hn : (xs.length + 1) * (bytes + 1) ≤ 140737488355328)
    (hK : ∀ l w', Frm (fun _ => False) w w' → RowsOf (Flat f) w' w.heap.size s k l xs (fun _ => False) → K l w') :
    (nice P).op (.blt .len [tin] 3 [.slice a xs.length c]) w (fun v7 w =>
    Lp fun (I3 : Value → Value → World → Prop) (μ3 : Value → Value → World → Nat) => I3 (Value.slice none 0 0) (Value.int IntKind.i64 0) w ∧
    ∀ (wl3 : World) (junk : Nat → Value) (s3_out : Value) (s8_ : Value), I3 s3_out s8_ wl3 →
      (nice P).op (.bin BinOp.lss 3 false false s8_ v7) wl3 (fun v9 w =>
      Br v9 (
        (nice P).op (.indexAddr tin (.slice a xs.length c) s8_) w (fun v10 w =>
        (nice P).op (.load tel v10) w (fun v11 w =>
        (nice P).op (.alloc tel) w (fun v5_p w =>
        (nice P).op (.store tel v5_p v11) w (fun _ w =>
        (nice P).op (.load tel v5_p) w (fun v13 w =>
        (nice P).op (.buildSlice tout 1 [(0, v13)]) w (fun v14 w =>
        (nice P).op (.blt Builtin.append [tout, tout] tout [s3_out, v14]) w (fun v15 w =>
        (nice P).op (.bin BinOp.add 3 false true s8_ (Value.int IntKind.i64 1)) w (fun v16 w =>
        I3 v15 v16 w ∧ μ3 v15 v16 w < μ3 s3_out s8_ wl3) Kp) Kp) Kp) Kp) Kp) Kp) Kp) Kp) (
        K s3_out w)) Kp) Kp := by
  have hb0 : 0 < bytes + 1 := by omega
  have hmax : xs.length + 1 ≤ 140737488355328 := Nat.le_trans (Nat.le_mul_of_pos_right _ hb0) hn
  rw [op_len_slice hkd]
  obtain ⟨I, hI⟩ : ∃ I : Value → Value → World → Prop, ∀ l v wl, I l v wl ↔ ∃ i : Nat, v = .int .i64 i ∧ i ≤ xs.length ∧ Frm (fun _ => False) w wl ∧ RowsOf (Flat f) wl w.heap.size s k l (xs.take i) (fun _ => False) := ⟨_, fun _ _ _ => Iff.rfl⟩
  refine Lp.intro I (fun _ v _ => xs.length - (match v with | .int _ j => j.toNat | _ => 0)) ⟨(hI _ _ _).2 ⟨0, rfl, by omega, Frm.refl, rows_nil⟩, ?_⟩
  intro wl _ l v hl'
  obtain ⟨i, rfl, hi, kl, hR⟩ := (hI _ _ _).1 hl'
  simp only [op_lss, Br_dec]
  refine ⟨fun hlt => ?_, fun hge => ?_⟩
  · have hi' : i < xs.length := by omega
    obtain ⟨b, o, cs, e', fz, rfl, hcs, hsz, hext⟩ := (h.frame kl fun _ _ h => h).part hk hk0 hi'
    rw [op_ix_slice hin]
    refine ⟨⟨by omega, by omega⟩, ?_⟩
    rw [add_spot rfl, op_ldn hel]
    simp only [Int.toNat_natCast]
    refine ⟨cs, e', fz, hcs, by first | rfl | trivial, hsz, ?_⟩
    show (nice P).op (.alloc tel) wl _ Kp
    rw [hext]
    refine op_alloc_ok hz fun w1 k1 z1 b1 => ?_
    refine op_storeN_ok (n := k) hel b1 (by simp [hk]) (by rw [hzk]; omega) (fun u hu => hone _ u (by simpa using hu)) fun w2 k2 z2 b2 => ?_
    have hb2 : w2.heap[wl.heap.size]? = some (.cells (f xs[i]).toArray tel (0, 0)) := by
      rw [ow_all (by simp [hk, hzk])] at b2; exact b2
    rw [op_ldn hel]
    refine ⟨_, _, _, hb2, rfl, by simp [hk], ?_⟩
    have hx : (f xs[i]).toArray.extract 0 (0 + k) = (f xs[i]).toArray := extract_self (by simp [hk])
    rw [hx]
    have k12 : Frm (fun _ => False) wl w2 := k1.old k2 fun c hc => .inr (by omega)
    have hR2 := hR.still (flat_ok f) k12
    have hlow := hR.own_lt
    have htl : (xs.take i).length = i := by simp; omega
    have hmul : (i + 1) * (bytes + 1) ≤ (xs.length + 1) * (bytes + 1) := Nat.mul_le_mul_right _ (by omega)
    refine op_push (flat_ok f) ha (hl _) (hk _) (hone _) hR2 rfl (G2 := fun _ => False) (fun _ h => h.elim) (fun _ _ h => h) (by rw [htl]; omega) (by have := kl.size; have := k12.size; omega) fun l' w3 k3 hR3 ho3 => ?_
    rw [op_add, wrap_small64 (by omega) (by omega)]
    have hlow2 := hR2.own_lt
    refine ⟨(hI _ _ _).2 ⟨i + 1, by simp, by omega, (kl.no k12).old k3 fun c hc => .inr (by have := hlow2 c hc.symm; omega), ?_⟩, ?_⟩
    · rw [List.take_succ_eq_append_getElem hi']
      exact hR3.mono (flat_ok f) (fun c h => h.elim (fun h => h) fun h => h) (fun _ h => h.elim) fun _ _ h => h
    · have : ((i : Int) + 1).toNat = i + 1 := by omega
      simp only [Int.toNat_natCast, this]; omega
  · have : i = xs.length := by omega
    subst this
    rw [List.take_length] at hR
    exact hK l wl kl hR
end Go.Vc
namespace Go.Vc
section
variable {P : Program} {w : World} {K : Value → World → Prop} {K1 : Value → Prop} {Kp : KP} {a b c d e : Value}
@[simp] theorem pur_ext4_0 : (nice P).pur (.extract (.tuple #[a, b, c, d]) 0) K1 = K1 a := pur_ext rfl
@[simp] theorem pur_ext4_1 : (nice P).pur (.extract (.tuple #[a, b, c, d]) 1) K1 = K1 b := pur_ext rfl
@[simp] theorem pur_ext4_2 : (nice P).pur (.extract (.tuple #[a, b, c, d]) 2) K1 = K1 c := pur_ext rfl
@[simp] theorem pur_ext4_3 : (nice P).pur (.extract (.tuple #[a, b, c, d]) 3) K1 = K1 d := pur_ext rfl
@[simp] theorem pur_ext5_0 : (nice P).pur (.extract (.tuple #[a, b, c, d, e]) 0) K1 = K1 a := pur_ext rfl
@[simp] theorem pur_ext5_1 : (nice P).pur (.extract (.tuple #[a, b, c, d, e]) 1) K1 = K1 b := pur_ext rfl
@[simp] theorem pur_ext5_2 : (nice P).pur (.extract (.tuple #[a, b, c, d, e]) 2) K1 = K1 c := pur_ext rfl
@[simp] theorem pur_ext5_3 : (nice P).pur (.extract (.tuple #[a, b, c, d, e]) 3) K1 = K1 d := pur_ext rfl
@[simp] theorem pur_ext5_4 : (nice P).pur (.extract (.tuple #[a, b, c, d, e]) 4) K1 = K1 e := pur_ext rfl
@[simp] theorem op_ext4_0 : (nice P).op (.extract (.tuple #[a, b, c, d]) 0) w K Kp = K a w := op_ext rfl
@[simp] theorem op_ext4_1 : (nice P).op (.extract (.tuple #[a, b, c, d]) 1) w K Kp = K b w := op_ext rfl
@[simp] theorem op_ext4_2 : (nice P).op (.extract (.tuple #[a, b, c, d]) 2) w K Kp = K c w := op_ext rfl
@[simp] theorem op_ext4_3 : (nice P).op (.extract (.tuple #[a, b, c, d]) 3) w K Kp = K d w := op_ext rfl
@[simp] theorem op_ext5_0 : (nice P).op (.extract (.tuple #[a, b, c, d, e]) 0) w K Kp = K a w := op_ext rfl
@[simp] theorem op_ext5_1 : (nice P).op (.extract (.tuple #[a, b, c, d, e]) 1) w K Kp = K b w := op_ext rfl
@[simp] theorem op_ext5_2 : (nice P).op (.extract (.tuple #[a, b, c, d, e]) 2) w K Kp = K c w := op_ext rfl
@[simp] theorem op_ext5_3 : (nice P).op (.extract (.tuple #[a, b, c, d, e]) 3) w K Kp = K d w := op_ext rfl
@[simp] theorem op_ext5_4 : (nice P).op (.extract (.tuple #[a, b, c, d, e]) 4) w K Kp = K e w := op_ext rfl
end
end Go.Vc
end
section
/- The reference's maps: versions as Go's maps; the conversions between the packages' types. -/
namespace Go.Proofs.YtbghmbbhkoniiaaGreat.I
open Go.Vc Go.Proofs Go.Proofs.YtbghmbbhkoniiaaGreat Go.Vc.Nd
variable {w w' : World} {v hv : Value} {G : Nat → Prop} {K : KV} {Kp : KP} {k : Ky} {x : Vl} {l s : Nat} {nl : Bool}
def kE : KeyEnc Tryz.prog 2 Int := keyInt Tryz.underlying2
def ElM : World → List Value → (Int → Option Int) → (Nat → Prop) → Prop := fun w u m G => ∃ b D, u = [.map (some b)] ∧ HasMap w kE.enc ev b D ∧ Tells D m ∧ G b
theorem elM_ok : ElOk ElM :=
  ⟨fun ⟨b, D, hu, h, ht, hG⟩ hf hM => ⟨b, D, hu, h.frame hf (hM b hG), ht, hG⟩, fun ⟨b, D, hu, h, ht, hG⟩ hG' => ⟨b, D, hu, h, ht, hG' b hG⟩⟩
theorem apMap : apOf Tryz.prog 29 = some (37, 1, 8) := by kernel_rfl
theorem mapAfter_ok {b : Nat} {D : List (Int × Int)} {m : Int → Option Int} {s : MStep} (h : HasMap w kE.enc ev b D) (ht : Tells D m) (hk : s.kind ≤ 3) (hc0 : 0 ≤ s.count) (hc : s.count ≤ 100000)
    (hK : ∀ b' D' w', Frm (fun _ => False) w w' → w.heap.size ≤ b' → HasMap w' kE.enc ev b' D' → Tells D' (funStep m s) → K (.map (some b')) w') : Calls Tryz.prog 17 #[.map (some b), .agg s.cells.toArray] w (ret K Kp) := by
  have hcells : s.cells.toArray = #[.int .u8 s.kind, .int .i64 s.fro, .int .i64 s.key, .int .i64 s.value, .int .i64 s.count] := rfl
  refine vc17_calls ?_
  simp only [vc17]
  refine op_box_ok fun w1 k1 z1 b1 => ?_
  simp only [cells_agg, hcells] at b1
  refine op_mkMap ?_
  have k2 : Frm (fun _ => False) w1 (w1.alloc (.map #[] 0)) := Frm.alloc _ _
  have hm2 : HasMap (w1.alloc (.map #[] 0)) kE.enc ev w1.heap.size ([] : List (Int × Int)) := hasMap_new w1 _ _
  generalize hw2 : w1.alloc (.map #[] 0) = w2 at *
  have n1 := k1.size
  have n2 := k2.size
  have b2 := k2.get b1 fun h => h
  have hD2 := (h.frame k1 fun h => h).frame k2 fun h => h
  have hmlt := hm2.lt
  refine op_range Tryz.underlying37 hD2 fun w3 k3 z3 hr3 => ?_
  have k3 := k3 (M := fun _ => False)
  have hlb := h.lt
  have hnd := h.nodup
  obtain ⟨I, hI⟩ : ∃ I : World → Prop, ∀ wl, I wl ↔ ∃ (L D2 : List (Int × Int)), Frm (fun _ => False) w wl ∧ w3.heap.size ≤ wl.heap.size ∧ Ranging wl kE.enc ev b D w2.heap.size L ∧ HasMap wl kE.enc ev w1.heap.size D2 ∧ Copied D L D2 ∧
      wl.heap[w.heap.size]? = some (.cells #[.int .u8 s.kind, .int .i64 s.fro, .int .i64 s.key, .int .i64 s.value, .int .i64 s.count] 42 (0, 0)) := ⟨_, fun _ => Iff.rfl⟩
  obtain ⟨μ, hμ⟩ : ∃ μ : World → Nat, ∀ wl L, Ranging wl kE.enc ev b D w2.heap.size L → μ wl = L.length := by
    refine ⟨fun wl => match wl.heap[w2.heap.size]? with
      | some (.mapIter (some m) since seen c0) => match wl.heap[m]? with
        | some (.map es clock) => (leftOf es seen).size
        | _ => 0
      | _ => 0, fun wl L hr => ?_⟩
    obtain ⟨es, clock, since, seen, c0, h1, h2, h3, h4, h5, h6⟩ := hr
    have := congrArg List.length h6
    simp only [h2, h1.heap]
    simpa using this
  refine Lp.intro I μ ⟨(hI _).2 ⟨D, [], (k1.no k2).no k3, Nat.le_refl _, hr3, hm2.frame k3 fun h => h, Copied.start hnd, k3.get b2 fun h => h⟩, ?_⟩
  intro wl _ hl
  obtain ⟨L, D2, kl, zl, hr, hm, hcp, bl⟩ := (hI _).1 hl
  have hrne := hr.ne
  have hrlt := hr.lt
  refine op_next hr (fun hL => ?_) fun i hi w4 k4 z4 hr4 ht4 => ?_
  · subst hL
    have htl := hcp.tells ht
    have hfin : ∀ {D' w'}, Frm (· = w1.heap.size) wl w' → HasMap w' kE.enc ev w1.heap.size D' → Tells D' (funStep m s) → K (.map (some w1.heap.size)) w' := fun {D' w'} kf hf ht' => hK _ D' w' (kl.old kf fun c hc => .inr (by omega)) (by omega) hf ht'
    simp [-getElem?_pos, -Array.getElem?_eq_getElem, -Int.natCast_add, add_spot, and_assoc, Br_dec, -op_box, -op_alloc_42, -op_st_42, -op_lit_29_1, bl]
    have hkind : s.kind = 0 ∨ s.kind = 1 ∨ s.kind = 2 ∨ s.kind = 3 := by omega
    rcases hkind with hk | hk | hk | hk
    · simp [-getElem?_pos, -Array.getElem?_eq_getElem, -Int.natCast_add, add_spot, and_assoc, Br_dec, -op_box, -op_alloc_42, -op_st_42, -op_lit_29_1, hk, bl]
      refine op_update (E := kE) (ev := ev) (k := s.key) (v := s.value) Tryz.underlying37 hm fun w5 k5 z5 hm5 => hfin k5 hm5 ?_
      simp only [funStep, hk]
      exact tells_upd hm.nodup htl
    · simp [-getElem?_pos, -Array.getElem?_eq_getElem, -Int.natCast_add, add_spot, and_assoc, Br_dec, -op_box, -op_alloc_42, -op_st_42, -op_lit_29_1, hk, bl]
      refine op_delete (E := kE) (ev := ev) (k := s.key) Tryz.underlying37 hm fun w5 k5 z5 hm5 => hfin k5 hm5 ?_
      simp only [funStep, hk]
      exact tells_wipe hm.nodup htl
    · simp [-getElem?_pos, -Array.getElem?_eq_getElem, -Int.natCast_add, add_spot, and_assoc, Br_dec, -op_box, -op_alloc_42, -op_st_42, -op_lit_29_1, hk, bl]
      obtain ⟨I2, hI2⟩ : ∃ I2 : KV, ∀ v wz, I2 v wz ↔ ∃ (j : Nat) (D' : List (Int × Int)), v = .int .i64 j ∧ (j : Int) ≤ s.count ∧ Frm (· = w1.heap.size) wl wz ∧ HasMap wz kE.enc ev w1.heap.size D' ∧ Tells D' (msetN s.key s.value m j) := ⟨_, fun _ _ => Iff.rfl⟩
      refine Lp.intro I2 (fun v _ => s.count.toNat - natOf v) ⟨(hI2 _ _).2 ⟨0, D2, rfl, by omega, Frm.refl, hm, htl⟩, ?_⟩
      intro wz v hv
      obtain ⟨j, D', rfl, hj, kz, hmz, htz⟩ := (hI2 _ _).1 hv
      have bz := kz.get bl (by omega)
      simp [-getElem?_pos, -Array.getElem?_eq_getElem, -Int.natCast_add, add_spot, and_assoc, Br_dec, -op_box, -op_alloc_42, -op_st_42, -op_lit_29_1, bz]
      refine ⟨fun hlt => ?_, fun hge => ?_⟩
      · refine op_update (E := kE) (ev := ev) (k := kAt s.key s.value j) (v := (j : Int)) Tryz.underlying37 hmz fun w5 k5 z5 hm5 => ?_
        rw [wrap_i64_small (by omega) (by omega)]
        refine ⟨(hI2 _ _).2 ⟨j + 1, _, by simp, by omega, kz.trans k5 fun _ h _ => h, hm5, ?_⟩, ?_⟩
        · rw [msetN_succ]; exact tells_upd hmz.nodup htz
        · simp only [natOf]; omega
      · have : j = s.count.toNat := by omega
        subst this
        exact hfin kz hmz (by simp only [funStep, hk]; exact htz)
    · simp [-getElem?_pos, -Array.getElem?_eq_getElem, -Int.natCast_add, add_spot, and_assoc, Br_dec, -op_box, -op_alloc_42, -op_st_42, -op_lit_29_1, hk, bl]
      obtain ⟨I2, hI2⟩ : ∃ I2 : KV, ∀ v wz, I2 v wz ↔ ∃ (j : Nat) (D' : List (Int × Int)), v = .int .i64 j ∧ (j : Int) ≤ s.count ∧ Frm (· = w1.heap.size) wl wz ∧ HasMap wz kE.enc ev w1.heap.size D' ∧ Tells D' (mdelN s.key s.value m j) := ⟨_, fun _ _ => Iff.rfl⟩
      refine Lp.intro I2 (fun v _ => s.count.toNat - natOf v) ⟨(hI2 _ _).2 ⟨0, D2, rfl, by omega, Frm.refl, hm, htl⟩, ?_⟩
      intro wz v hv
      obtain ⟨j, D', rfl, hj, kz, hmz, htz⟩ := (hI2 _ _).1 hv
      have bz := kz.get bl (by omega)
      simp [-getElem?_pos, -Array.getElem?_eq_getElem, -Int.natCast_add, add_spot, and_assoc, Br_dec, -op_box, -op_alloc_42, -op_st_42, -op_lit_29_1, bz]
      refine ⟨fun hlt => ?_, fun hge => ?_⟩
      · refine op_delete (E := kE) (ev := ev) (k := kAt s.key s.value j) Tryz.underlying37 hmz fun w5 k5 z5 hm5 => ?_
        rw [wrap_i64_small (by omega) (by omega)]
        refine ⟨(hI2 _ _).2 ⟨j + 1, _, by simp, by omega, kz.trans k5 fun _ h _ => h, hm5, ?_⟩, ?_⟩
        · rw [mdelN_succ]; exact tells_wipe hmz.nodup htz
        · simp only [natOf]; omega
      · have : j = s.count.toNat := by omega
        subst this
        exact hfin kz hmz (by simp only [funStep, hk]; exact htz)
  · have e0 : (nice Tryz.prog).op (.extract (.tuple #[.bool true, kE.enc L[i].1, ev L[i].2]) 0) w4 = fun K Kp => K (.bool true) w4 := by
      funext K Kp; exact op_ext3_0
    try simp [-getElem?_pos, -Array.getElem?_eq_getElem, -Int.natCast_add, add_spot, and_assoc, Br_dec, -op_box, -op_alloc_42, -op_st_42, -op_lit_29_1]
    refine op_entry ht4 ?_
    try simp [-getElem?_pos, -Array.getElem?_eq_getElem, -Int.natCast_add, add_spot, and_assoc, Br_dec, -op_box, -op_alloc_42, -op_st_42, -op_lit_29_1]
    have hm4 := hm.frame k4 (by omega)
    refine op_update (E := kE) (ev := ev) (k := L[i].1) (v := L[i].2) Tryz.underlying37 hm4 fun w5 k5 z5 hm5 => ?_
    have hr5 := hr4.frame k5 (by omega) (by omega)
    refine ⟨(hI _).2 ⟨_, _, (kl.old k4 fun c hc => .inr (by omega)).old k5 fun c hc => .inr (by omega), by omega, hr5, hm5, hcp.next hnd hm.nodup hi, k5.get (k4.get bl (by omega)) (by omega)⟩, ?_⟩
    rw [hμ _ _ hr5, hμ _ _ hr, List.length_eraseIdx_of_lt hi]; omega
theorem mapVersions_ok {a0 : Option Addr} {c0 : Nat} {steps : List MStep} (h0 : Row w a0 (steps.flatMap MStep.cells)) (hfit : MFit steps) (hn : steps.length < 2 ^ 30)
    (hK : ∀ l w' G, Frm (fun _ => False) w w' → RowsOf ElM w' w.heap.size 37 1 l (versM steps) G → K l w') : Calls Tryz.prog 12 #[.slice a0 steps.length c0] w (ret K Kp) := by
  have hE := elM_ok
  refine vc12_calls ?_
  simp only [vc12]
  refine op_mkMap ?_
  have k1 : Frm (fun _ => False) w (w.alloc (.map #[] 0)) := Frm.alloc _ _
  have hm1 : HasMap (w.alloc (.map #[] 0)) kE.enc ev w.heap.size ([] : List (Int × Int)) := hasMap_new w _ _
  generalize hw1 : w.alloc (.map #[] 0) = w1 at *
  have n1 := k1.size
  have hmlt := hm1.lt
  refine op_row1 (base := w.heap.size) (u := [.map (some w.heap.size)]) (y := fun _ => none) (G2 := (· = w.heap.size)) hE apMap (lit_29_1 rfl) rfl ⟨_, _, rfl, hm1, tells_nil, rfl⟩ (fun c hc => by omega) n1 fun l2 w2 k2 hR2 ho2 => ?_
  obtain ⟨a2, c2, hl2, _⟩ := hR2.slice
  try simp [-getElem?_pos, -Array.getElem?_eq_getElem, -Int.natCast_add, add_spot, and_assoc, Br_dec, -op_box, -op_alloc_42, -op_st_42, -op_lit_29_1]
  obtain ⟨I, hI⟩ : ∃ I : Value → KV, ∀ l v wl, I l v wl ↔ ∃ (i : Nat) (G : Nat → Prop), v = .int .i64 i ∧ i ≤ steps.length ∧ Frm (fun _ => False) w wl ∧ RowsOf ElM wl w.heap.size 37 1 l (versM (steps.take i)) G := ⟨_, fun _ _ _ => Iff.rfl⟩
  refine Lp.intro I (fun _ v _ => steps.length - natOf v) ⟨(hI _ _ _).2 ⟨0, _, rfl, by omega, k1.no k2, hR2⟩, ?_⟩
  intro wl l v hl
  obtain ⟨i, G, rfl, hi, kl, hR⟩ := (hI _ _ _).1 hl
  simp only [op_lss, Br_dec]
  refine ⟨fun hlt' => ?_, fun hnl' => ?_⟩
  rotate_left
  · have : i = steps.length := by omega
    subst this
    rw [List.take_length] at hR
    exact hK l wl G kl hR
  have hi' : i < steps.length := by omega
  have htk : steps.take (i + 1) = steps.take i ++ [steps[i]] := List.take_succ_eq_append_getElem hi'
  obtain ⟨f1, f2, f3, f4, f5⟩ := hfit i hi'
  obtain ⟨bp, o, cs, e, fz, rfl, hcs, hsz, hext⟩ := (h0.frame kl (fun _ _ h => h)).part mcells_len (by decide) hi'
  generalize hst : steps[i] = s at *
  have hlow := hR.own_lt
  have nl := kl.size
  simp [-getElem?_pos, -Array.getElem?_eq_getElem, -Int.natCast_add, add_spot, and_assoc, Br_dec, -op_box, -op_alloc_42, -op_st_42, -op_lit_29_1, hcs, hsz, hext]
  refine ⟨hi', ?_⟩
  refine op_alloc_ok (z := .agg #[.int .u8 0, .int .i64 0, .int .i64 0, .int .i64 0, .int .i64 0]) (by kernel_rfl) fun w5 k5 z5 b5 => ?_
  simp only [cells_agg] at b5
  refine op_storeN_ok (n := 5) (by kernel_rfl) b5 rfl (by decide) (by simp [MStep.cells]) fun w6 k6 z6 b6 => ?_
  have b6 : w6.heap[wl.heap.size]? = some (.cells #[.int .u8 s.kind, .int .i64 s.fro, .int .i64 s.key, .int .i64 s.value, .int .i64 s.count] 42 (0, 0)) := by
    rw [ow_all (by simp [MStep.cells])] at b6; simpa [MStep.cells] using b6
  have n5 := k5.size
  have k56 : Frm (fun _ => False) wl w6 := k5.old k6 fun c hc => .inr (by omega)
  have hR6 := hR.still hE (k56.no (Frm.drew w6))
  have hlv : (versM (steps.take i)).length = i + 1 := by rw [versM, vers_len, List.length_take]; omega
  obtain ⟨q, hq⟩ : ∃ q : Nat, s.fro = q := ⟨s.fro.toNat, by omega⟩
  have hq1 : q < (versM (steps.take i)).length := by omega
  obtain ⟨u, g, c, cur, hlg, hg1, hg2, hg3, hg4, hg5, bv, D, hub, hV, htD, hGb⟩ := hR6.get hq1
  subst hlg hub
  have hg0 : cur[q]? = some (.map (some bv)) := by have := hg3 0 (by decide); simpa using this
  have hg1 : w6.heap[g]? = some (.cells cur 37 (0, 0)) := hg1
  generalize ht : (versM (steps.take i))[q] = m0 at htD
  have hnext : versM (steps.take (i + 1)) = versM (steps.take i) ++ [funStep m0 s] := by
    have e1 : (vers funStep MStep.ref (fun _ => none) (steps.take i))[s.ref]? = some m0 := by
      have : s.ref = q := by simp [MStep.ref, hq]
      rw [this, ← ht]; exact List.getElem?_eq_getElem hq1
    rw [htk, versM, vers_snoc, e1]; rfl
  have hx5 := cells5 s
  simp [-getElem?_pos, -Array.getElem?_eq_getElem, -Int.natCast_add, add_spot, and_assoc, Br_dec, -op_box, -op_alloc_42, -op_st_42, -op_lit_29_1, b6, hq, hg1, hg0, hx5]
  refine ⟨hq1, ?_⟩
  rw [← hq]
  refine mapAfter_ok hV htD f1 f4 f5 fun b' D' w7 k7 nb' hm7 ht7 => ?_
  have k67 := Frm.dr k7
  have hml := hm7.lt
  have n7 := k67.size
  have n6 := k56.size
  have nb'' : w6.heap.size ≤ b' := nb'
  refine op_push (u := [.map (some b')]) (G2 := (· = b')) hE apMap (lit_29_1 rfl) rfl (fun x hx => by rw [List.mem_singleton.1 hx]; rfl) (hR.still hE (k56.no k67)) ⟨b', D', rfl, hm7, ht7, rfl⟩ (fun c hc => by omega) (fun b hb hc => by have := hlow b hb; omega) (by omega) (by omega) fun l10 w10 k10 hR10 ho10 => ?_
  try simp [-getElem?_pos, -Array.getElem?_eq_getElem, -Int.natCast_add, add_spot, and_assoc, Br_dec, -op_box, -op_alloc_42, -op_st_42, -op_lit_29_1]
  rw [wrap_i64_small (by omega) (by omega)]
  refine ⟨(hI _ _ _).2 ⟨i + 1, _, by simp, by omega, (kl.no (k56.no k67)).old k10 fun c hc => .inr (hlow c hc.symm).1, by rw [hnext]; exact hR10⟩, ?_⟩
  simp only [natOf]; omega
end Go.Proofs.YtbghmbbhkoniiaaGreat.I
end
section
/- The reference's checks: MapFits, MapHas; the conversions; what a version tells held against the reference. -/
namespace Go.Proofs.YtbghmbbhkoniiaaGreat.I
open Go.Vc Go.Proofs Go.Proofs.YtbghmbbhkoniiaaGreat Go.Vc.Nd
variable {w w' : World} {v : Value} {K : KV} {Kp : KP} {k : Ky} {l s md ml sh : Nat}
structure Fit (steps : List MStep) : Prop where
  ok : ∀ i (h : i < steps.length), steps[i].kind ≤ 3 ∧ 0 ≤ steps[i].fro ∧ steps[i].fro ≤ i ∧ 0 ≤ steps[i].count ∧ steps[i].count ≤ 2000
  cost : mcost steps ≤ 12000
theorem Fit.m {steps : List MStep} (h : Fit steps) : MFit steps := fun i hi => by
  obtain ⟨a, b, c, d, e⟩ := h.ok i hi
  exact ⟨a, b, c, d, by omega⟩
theorem mapFits_spec_ok {a0 : Option Addr} {c0 : Nat} {steps : List MStep} (h0 : Row w a0 (steps.flatMap MStep.cells)) (hn : steps.length < 2 ^ 31)
    (hK0 : ∀ w', Frm (fun _ => False) w w' → K (.bool false) w') (hK1 : Fit steps → ∀ w', Frm (fun _ => False) w w' → K (.bool true) w') : Calls Tryz.prog 14 #[.slice a0 steps.length c0] w (ret K Kp) := by
  refine vc14_calls ?_
  simp only [vc14]
  try simp [-getElem?_pos, -Array.getElem?_eq_getElem, -Int.natCast_add, add_spot, and_assoc, Br_dec, -op_box, -op_alloc_42, -op_st_42]
  obtain ⟨I, hI⟩ : ∃ I : Value → KV, ∀ n v wl, I n v wl ↔ ∃ i : Nat, n = .int .i64 (mcost (steps.take i) : Nat) ∧ v = .int .i64 i ∧ i ≤ steps.length ∧ Frm (fun _ => False) w wl ∧ mcost (steps.take i) ≤ 2001 * i ∧
      ∀ j (h : j < steps.length), j < i → steps[j].kind ≤ 3 ∧ 0 ≤ steps[j].fro ∧ steps[j].fro ≤ j ∧ 0 ≤ steps[j].count ∧ steps[j].count ≤ 2000 := ⟨_, fun _ _ _ => Iff.rfl⟩
  refine Lp.intro I (fun _ v _ => steps.length - natOf v) ⟨(hI _ _ _).2 ⟨0, rfl, rfl, by omega, Frm.refl, by simp [mcost], fun j h hj => by omega⟩, ?_⟩
  intro wl n v hl
  obtain ⟨i, rfl, rfl, hi, kl, hcost, hall⟩ := (hI _ _ _).1 hl
  simp only [op_lss, Br_dec]
  refine ⟨fun hlt' => ?_, fun hnl' => ?_⟩
  rotate_left
  · have : i = steps.length := by omega
    subst this
    rw [List.take_length] at *
    try simp [-getElem?_pos, -Array.getElem?_eq_getElem, -Int.natCast_add, add_spot, and_assoc, Br_dec, -op_box, -op_alloc_42, -op_st_42]
    by_cases hc : mcost steps ≤ 12000
    · rw [decide_eq_true (show ((mcost steps : Nat) : Int) ≤ 12000 by omega)]
      exact hK1 ⟨fun i h => hall i h h, hc⟩ wl kl
    · rw [decide_eq_false (show ¬ ((mcost steps : Nat) : Int) ≤ 12000 by omega)]
      exact hK0 wl kl
  have hi' : i < steps.length := by omega
  have htk : steps.take (i + 1) = steps.take i ++ [steps[i]] := List.take_succ_eq_append_getElem hi'
  obtain ⟨bp, o, cs, e, fz, rfl, hcs, hsz, hext⟩ := (h0.frame kl (fun _ _ h => h)).part mcells_len (by decide) hi'
  generalize hst : steps[i] = s at *
  simp [-getElem?_pos, -Array.getElem?_eq_getElem, -Int.natCast_add, add_spot, and_assoc, Br_dec, -op_box, -op_alloc_42, -op_st_42, hcs, hsz, hext]
  refine ⟨hi', ?_⟩
  refine op_alloc_ok (z := .agg #[.int .u8 0, .int .i64 0, .int .i64 0, .int .i64 0, .int .i64 0]) (by kernel_rfl) fun w5 k5 z5 b5 => ?_
  simp only [cells_agg] at b5
  refine op_storeN_ok (n := 5) (by kernel_rfl) b5 rfl (by decide) (by simp [MStep.cells]) fun w6 k6 z6 b6 => ?_
  have b6 : w6.heap[wl.heap.size]? = some (.cells #[.int .u8 s.kind, .int .i64 s.fro, .int .i64 s.key, .int .i64 s.value, .int .i64 s.count] 42 (0, 0)) := by
    rw [ow_all (by simp [MStep.cells])] at b6; simpa [MStep.cells] using b6
  have k56 : Frm (fun _ => False) w w6 := kl.no (k5.old k6 fun c hc => .inr (by omega))
  simp [-getElem?_pos, -Array.getElem?_eq_getElem, -Int.natCast_add, add_spot, and_assoc, Br_dec, -op_box, -op_alloc_42, -op_st_42, b6]
  refine ⟨fun _ => hK0 w6 k56, fun hk3 => ⟨fun _ => hK0 w6 k56, fun hf0 => ⟨fun _ => hK0 w6 k56, fun hfi => ⟨fun _ => hK0 w6 k56, fun hc0 => ⟨fun _ => hK0 w6 k56, fun hc2 => ?_⟩⟩⟩⟩⟩
  have hsc : s.cost = 1 + s.count.toNat := rfl
  have e1 : IntKind.i64.wrap (1 + s.count) = 1 + s.count := by rw [IntKind.wrap_i64]; omega
  have e2 : IntKind.i64.wrap ((mcost (steps.take i) : Int) + (1 + s.count)) = ((mcost (steps.take (i + 1)) : Nat) : Int) := by
    rw [IntKind.wrap_i64, htk, mcost_snoc]; omega
  have e3 : IntKind.i64.wrap ((i : Int) + 1) = ((i + 1 : Nat) : Int) := by rw [IntKind.wrap_i64]; omega
  rw [e1, e2, e3]
  refine ⟨(hI _ _ _).2 ⟨i + 1, rfl, rfl, by omega, k56, ?_, fun j h hj => ?_⟩, ?_⟩
  · rw [htk, mcost_snoc]; omega
  · by_cases hji : j < i
    · exact hall j h hji
    · have : j = i := by omega
      subst this
      rw [hst]
      exact ⟨by omega, by omega, by omega, by omega, by omega⟩
  · simp only [natOf, Int.toNat_natCast]; omega
theorem fits_ok {a1 : Option Addr} {c1 : Nat} {steps : List MStep} (h1 : Row w a1 (steps.flatMap MStep.cells)) (hn : steps.length < 2 ^ 31)
    (hK0 : ∀ w', Frm (fun _ => False) w w' → K (.bool false) w') (hK1 : Fit steps → steps.length ≤ 12 → sh < 32 → ∀ w', Frm (fun _ => False) w w' → K (.bool true) w') :
    Calls Tryz.prog 5 #[hval md ml sh, .slice a1 steps.length c1] w (ret K Kp) := by
  refine vc5_calls ?_
  simp only [vc5]
  refine op_box_ok fun w1 k1 z1 b1 => ?_
  simp only [hval, cells_agg] at b1
  try simp [-getElem?_pos, -Array.getElem?_eq_getElem, -Int.natCast_add, add_spot, and_assoc, Br_dec, -op_box, -op_alloc_42, -op_st_42]
  refine ⟨fun h12 => ?_, fun h12 => hK0 w1 k1⟩
  refine mapFits_spec_ok (h1.frame k1 fun _ _ h => h) hn (fun w2 k2 => ?_) fun hf w2 k2 => ?_
  · try simp [-getElem?_pos, -Array.getElem?_eq_getElem, -Int.natCast_add, add_spot, and_assoc, Br_dec, -op_box, -op_alloc_42, -op_st_42]
    exact hK0 w2 (k1.no k2)
  · have b2 := k2.get b1 fun h => h
    simp [-getElem?_pos, -Array.getElem?_eq_getElem, -Int.natCast_add, add_spot, and_assoc, Br_dec, -op_box, -op_alloc_42, -op_st_42, b2]
    by_cases h32 : (sh : Int) < 32
    · rw [decide_eq_true h32]; exact hK1 hf (by omega) (by omega) w2 (k1.no k2)
    · rw [decide_eq_false h32]; exact hK0 w2 (k1.no k2)
theorem one_cells (s : MStep) : ∀ u ∈ s.cells, u.oneCell' = true := fun u hu => by simp [MStep.cells] at hu; rcases hu with rfl | rfl | rfl | rfl | rfl <;> rfl
theorem mapTo_ok {a0 : Option Addr} {c0 : Nat} {steps : List MStep} (h0 : Row w a0 (steps.flatMap MStep.cells)) (hn : steps.length < 2 ^ 31)
    (hK : ∀ l w', Frm (fun _ => False) w w' → RowsOf (Flat MStep.cells) w' w.heap.size 52 5 l steps (fun _ => False) → K l w') : Calls Tryz.prog 9 #[.slice a0 steps.length c0] w (ret K Kp) :=
  vc9_calls (conv_ok (f := MStep.cells) (k := 5) (e := 42) (z := .agg #[.int .u8 0, .int .i64 0, .int .i64 0, .int .i64 0, .int .i64 0]) (bytes := 40) mcells_len (by decide) one_cells (by kernel_rfl) (by kernel_rfl) (by kernel_rfl) (by kernel_rfl) rfl (by kernel_rfl) (fun _ => lit_33_1) h0 (by omega) hK)
end Go.Proofs.YtbghmbbhkoniiaaGreat.I
end
section
/- Structs of whole numbers that are compared. -/
namespace Go.Vc
variable {P : Program} {w : World} {K : Value → World → Prop} {K1 : Value → Prop} {Kp : KP} {t : TypeId}
def allInt (P : Program) (k : IntKind) : List Field → Nat → Bool
  | [], _ => true
  | f :: fs, o => f.name != "_" && f.offset == o && (match P.underlying f.type with | some (.int k') => k' == k | _ => false) && (match ldk P f.type with | some .one => true | _ => false) && allInt P k fs (o + 1)
theorem run_eqFields {k : IntKind} {d : Nat} {xs ys : List Int} : ∀ (fs : List Field) (o : Nat) (w : World), allInt P k fs o = true → xs.length = o + fs.length → ys.length = o + fs.length →
    (Op.eqFields (d + 1) (xs.map (Value.int k)).toArray (ys.map (Value.int k)).toArray fs).run P w = .ok (decide (xs.drop o = ys.drop o)) w
  | [], o, w, _, hx, hy => by
    simp only [List.length_nil, Nat.add_zero] at hx hy
    simp [Op.eqFields, List.drop_of_length_le (Nat.le_of_eq hx), List.drop_of_length_le (Nat.le_of_eq hy)]
  | f :: fs, o, w, h, hx, hy => by
    simp only [allInt, Bool.and_eq_true] at h
    obtain ⟨⟨⟨⟨h1, h2⟩, h3⟩, h4⟩, h5⟩ := h
    have h2 : f.offset = o := by simpa using h2
    have h1 : f.name ≠ "_" := by simpa using h1
    have hu : P.underlying f.type = some (.int k) := by
      split at h3
      · rename_i k' hk; rw [hk]; have : k' = k := by simpa using h3
        rw [this]
      · cases h3
    have hl : ldk P f.type = some .one := by
      split at h4
      · rename_i hk; exact hk
      · cases h4
    simp only [List.length_cons] at hx hy
    have hox : o < xs.length := by omega
    have hoy : o < ys.length := by omega
    have px : (part f.type (xs.map (Value.int k)).toArray f.offset).run P w = .ok (.int k xs[o]) w := by
      rw [h2]; exact ldk_part hl (by simp [partV, hox]) w
    have py : (part f.type (ys.map (Value.int k)).toArray f.offset).run P w = .ok (.int k ys[o]) w := by
      rw [h2]; exact ldk_part hl (by simp [partV, hoy]) w
    rw [Op.eqFields, if_pos h1]
    simp only [Sem.run_bind, px, py, Result.andThen_ok, run_equalIn_int (k' := k) (h := hu)]
    have hiff : (xs.drop o = ys.drop o) ↔ xs[o] = ys[o] ∧ xs.drop (o + 1) = ys.drop (o + 1) := by rw [List.drop_eq_getElem_cons hox, List.drop_eq_getElem_cons hoy, List.cons.injEq]
    by_cases e : xs[o] = ys[o]
    · simp only [e, beq_self_eq_true, Bool.not_true, Bool.false_eq_true, if_false]
      rw [run_eqFields fs (o + 1) w h5 (by omega) (by omega)]
      congr 1
      exact decide_eq_decide.2 ⟨fun h => hiff.2 ⟨e, h⟩, fun h => (hiff.1 h).2⟩
    · have e' : (xs[o] == ys[o]) = false := beq_eq_false_iff_ne.2 e
      have hn : ¬ xs.drop o = ys.drop o := fun h => e (hiff.1 h).1
      simp only [e', Bool.not_false, if_true, Sem.run_pure, decide_eq_false hn]
theorem agg_eq_run {k : IntKind} {xs ys : List Int} (ht : P.underlying t = some (.struct (P.fieldsOf t))) (hp : P.stoodInHeld t = false) (hf : allInt P k (P.fieldsOf t).toList 0 = true) (hx : xs.length = (P.fieldsOf t).toList.length) (hy : ys.length = (P.fieldsOf t).toList.length) (w : World) :
    (Op.equal t (.agg (xs.map (Value.int k)).toArray) (.agg (ys.map (Value.int k)).toArray)).run P w = .ok (decide (xs = ys)) w := by
  unfold Op.equal Op.maxDepth
  rw [run_equalIn_struct w 9999 t _ _ ht hp, run_eqFields (d := 9998) _ 0 w hf (by omega) (by omega)]
  simp
theorem pur_neq_agg {k : IntKind} {xs ys : List Int} (ht : P.underlying t = some (.struct (P.fieldsOf t))) (hp : P.stoodInHeld t = false) (hf : allInt P k (P.fieldsOf t).toList 0 = true) (hg : P.eqGuardType P.depth t = false)
    (hx : xs.length = (P.fieldsOf t).toList.length) (hy : ys.length = (P.fieldsOf t).toList.length) (hK : K1 (.bool (!decide (xs = ys)))) :
    (nice P).pur (.bin .neq t false false (.agg (xs.map (Value.int k)).toArray) (.agg (ys.map (Value.int k)).toArray)) K1 := by
  refine ⟨_, fun w => ?_, hK⟩
  have h2 : ∀ w, (eqGuard .neq t (opd false) (opd false) (.agg (xs.map (Value.int k)).toArray) (.agg (ys.map (Value.int k)).toArray)).run P w = .ok () w := fun w => by
    have hp : (program : Sem Program).run P w = .ok P w := rfl
    simp [eqGuard, hp, hg]
  simp only [VOp.sem, Sem.run_bind, h2, Result.andThen_ok]
  simp [binOp, agg_eq_run ht hp hf hx hy]
end Go.Vc
end
section
/- slices.Equal, for elements of one cell and of several ones. -/
namespace Go.Vc
variable {P : Program} {w w' : World} {K : Value → World → Prop} {Kp : KP} {tin tel e : TypeId} {k : Nat} {α : Type} [DecidableEq α] {f : α → List Value} {xs ys : List α} {v1 v2 : Value}
theorem same_rows (hl : xs.length = ys.length) (h : ∀ (j : Nat) (hj : j < xs.length), xs[j] = ys[j]'(by omega)) : xs = ys := List.ext_getElem hl fun j h1 h2 => h j h1
def eqChain (S : Sig) (tin tel : TypeId) (a0 a1 : Value) (w : World) (K : Value → World → Prop) (Kp : KP) : Prop :=
  S.op (.blt Builtin.len [tin] 3 [a0]) w (fun v7 w =>
  S.op (.blt Builtin.len [tin] 3 [a1]) w (fun v9 w =>
  S.op (.bin BinOp.neq 3 false false v7 v9) w (fun v10 w =>
  Br v10 (
    K (Value.bool false) w) (
    S.op (.blt Builtin.len [tin] 3 [a0]) w (fun v12 w =>
    Lp fun (I4 : Value → World → Prop) (μ4 : Value → World → Nat) => I4 (Value.int IntKind.i64 0) w ∧
    ∀ (wl4 : World) (junk : Nat → Value) (s13_ : Value), I4 s13_ wl4 →
      S.op (.bin BinOp.lss 3 false false s13_ v12) wl4 (fun v14 w =>
      Br v14 (
        S.pur (.indexAddr tin a0 s13_) (fun v18 =>
        S.ld (.load tel v18) w.drew (fun v19 =>
        S.pur (.indexAddr tin a1 s13_) (fun v22 =>
        S.ld (.load tel v22) w.drew (fun v23 =>
        S.pur (.bin BinOp.neq tel false false v19 v23) (fun v24 =>
        Br v24 (
          K (Value.bool false) w.drew) (
          S.op (.bin BinOp.add 3 false true s13_ (Value.int IntKind.i64 1)) w.drew (fun v25 w =>
          I4 v25 w ∧ μ4 v25 w < μ4 s13_ wl4) Kp))))))) (
        K (Value.bool true) w)) Kp) Kp)) Kp) Kp) Kp
theorem elem_read {c : Nat} (hin : sliceOf P tin = some (e, k)) (hk : ∀ x, (f x).length = k) (hk0 : 0 < k) (hel : ldk P tel = some (.agg k) ∨ k = 1 ∧ ldk P tel = some .one) {ev : α → Value} (hev : ∀ x, ldk P tel = some (.agg k) ∧ ev x = .agg (f x).toArray ∨ ldk P tel = some .one ∧ f x = [ev x])
    (h : IsSl w v1 xs.length (xs.flatMap f)) {j : Nat} (hj : j < xs.length) {K1 : Value → Prop} (hK : K1 (ev xs[j])) :
    (nice P).pur (.indexAddr tin v1 (.int .i64 (j : Int))) (fun v18 => (nice P).ld (.load tel v18) w K1) := by
  obtain ⟨a, c, rfl, _, _, hr, _⟩ := h
  obtain ⟨b, o, cs, e', fz, rfl, hcs, hsz, hext⟩ := hr.part hk hk0 hj
  rw [pur_ix_slice hin]
  refine ⟨⟨by omega, by omega⟩, ?_⟩
  rw [add_spot rfl]
  simp only [Int.toNat_natCast]
  rcases hev xs[j] with ⟨h1, h2⟩ | ⟨h1, h2⟩
  · rw [ld_ldn h1]
    refine ⟨cs, e', fz, hcs, rfl, hsz, ?_⟩
    show K1 (.agg (cs.extract (o + j * k) (o + j * k + k)))
    rw [hext, ← h2]; exact hK
  · rw [ld_ld h1]
    refine ⟨cs, e', fz, hcs, rfl, ev xs[j], ?_, hK⟩
    have := congrArg (fun a => a[0]?) hext
    rw [h2] at this
    simp only [Array.getElem?_extract] at this
    rw [if_pos (by omega)] at this
    simpa using this
theorem eqChain_ok {ev : α → Value} (hin : sliceOf P tin = some (e, k)) (hkd : kd P tin = .slice) (hk : ∀ x, (f x).length = k) (hk0 : 0 < k) (hel : ldk P tel = some (.agg k) ∨ k = 1 ∧ ldk P tel = some .one) (hev : ∀ x, ldk P tel = some (.agg k) ∧ ev x = .agg (f x).toArray ∨ ldk P tel = some .one ∧ f x = [ev x])
    (hne : ∀ x y (K1 : Value → Prop), K1 (.bool (!decide (x = y))) → (nice P).pur (.bin .neq tel false false (ev x) (ev y)) K1)
    (h1 : IsSl w v1 xs.length (xs.flatMap f)) (h2 : IsSl w v2 ys.length (ys.flatMap f)) (hn : xs.length < 2 ^ 62) (hK : ∀ w', Frm (fun _ => False) w w' → K (.bool (decide (xs = ys))) w') : eqChain (nice P) tin tel v1 v2 w K Kp := by
  unfold eqChain
  obtain ⟨a1, c1, hv1, _⟩ := id h1
  obtain ⟨a2, c2, hv2, _⟩ := id h2
  rw [hv1, hv2, op_len_slice hkd, op_len_slice hkd, op_neq, ← hv1, ← hv2]
  simp only [Br_bool, Bool.not_eq_eq_eq_not, Bool.not_true, Bool.not_false, decide_eq_true_eq, decide_eq_false_iff_not]
  refine ⟨fun hne' => ?_, fun heq => ?_⟩
  · have := hK w Frm.refl
    rw [decide_eq_false (fun e => hne' (by rw [e]))] at this
    exact this
  have hlen : xs.length = ys.length := by omega
  rw [hv1, op_len_slice hkd, ← hv1]
  obtain ⟨I, hI⟩ : ∃ I : Value → World → Prop, ∀ v wl, I v wl ↔ ∃ i : Nat, v = .int .i64 i ∧ i ≤ xs.length ∧ Frm (fun _ => False) w wl ∧ ∀ j (hj : j < xs.length), j < i → xs[j] = ys[j]'(by omega) := ⟨_, fun _ _ => Iff.rfl⟩
  refine Lp.intro I (fun v _ => xs.length - (match v with | .int _ j => j.toNat | _ => 0)) ⟨(hI _ _).2 ⟨0, rfl, by omega, Frm.refl, fun j hj h => by omega⟩, ?_⟩
  intro wl _ v hl
  obtain ⟨i, rfl, hi, kl, hall⟩ := (hI _ _).1 hl
  simp only [op_lss, Br_dec]
  refine ⟨fun hlt => ?_, fun hge => ?_⟩
  · have hi' : i < xs.length := by omega
    have kd := kl.no (Frm.drew wl)
    refine elem_read (w := wl.drew) (c := c1) hin hk hk0 hel hev (h1.still kd) hi' ?_
    refine elem_read (w := wl.drew) (c := c2) hin hk hk0 hel hev (h2.still kd) (show i < ys.length by omega) ?_
    refine hne _ _ _ ?_
    simp only [Br_bool, Bool.not_eq_eq_eq_not, Bool.not_true, Bool.not_false, decide_eq_true_eq, decide_eq_false_iff_not]
    refine ⟨fun hd => ?_, fun hs => ?_⟩
    · have := hK _ kd
      rw [decide_eq_false (fun e => hd (by subst e; rfl))] at this
      exact this
    · rw [op_add, wrap_small64 (by omega) (by omega)]
      refine ⟨(hI _ _).2 ⟨i + 1, by simp, by omega, kd, fun j hj hji => ?_⟩, ?_⟩
      · by_cases h : j = i
        · subst h; exact hs
        · exact hall j hj (by omega)
      · have : ((i : Int) + 1).toNat = i + 1 := by omega
        simp only [Int.toNat_natCast, this]; omega
  · have := hK wl kl
    rw [decide_eq_true (same_rows hlen fun j hj => hall j hj (by omega))] at this
    exact this
end Go.Vc
end
section
/- laws.FnMapRun, mapAwake. -/
namespace Go.Proofs.YtbghmbbhkoniiaaGreat.I
open Go.Vc Go.Proofs Go.Proofs.YtbghmbbhkoniiaaGreat Go.Vc.Nd
variable {w w' : World} {v : Value} {t : Tr} {G : Nat → Prop} {K : KV} {Kp : KP} {hash : Ky → Nat} {k : Ky} {x : Vl} {l md ml sh : Nat}
def awakeSteps : List MStep := [⟨0, 0, 1, 5, 0⟩, ⟨0, 1, 2, 6, 0⟩, ⟨1, 2, 1, 0, 0⟩]
theorem awake_vers (hash : Int → Nat) : versT hash awakeSteps = [.emp, .arr [(1, 5)], .arr [(1, 5), (2, 6)], .arr [(2, 6)]] := by
  simp [versT, vers, awakeSteps, MStep.ref, trieStep, Nd.set, Nd.find, Nd.upd, delT, Nd.getIn, Nd.look, Nd.del, List.findIdx?_cons]
theorem pair_ne (x y : Ky × Vl) (K1 : Value → Prop) (h : K1 (.bool (!decide (x = y)))) : (nice Tryz.prog).pur (.bin .neq 58 false false (.agg (ent x).toArray) (.agg (ent y).toArray)) K1 := by
  have := pur_neq_agg (P := Tryz.prog) (t := 58) (k := .i64) (xs := [x.1, x.2]) (ys := [y.1, y.2]) (K1 := K1) (by kernel_rfl) (by kernel_rfl) (by kernel_rfl) (by kernel_rfl) (by kernel_rfl) (by kernel_rfl)
  refine this ?_
  have e : decide ([x.1, x.2] = [y.1, y.2]) = decide (x = y) := decide_eq_decide.2 ⟨fun h => by simp at h; exact Prod.ext h.1 h.2, fun h => by rw [h]⟩
  rw [e]; exact h
theorem eqPairs_ok {v1 v2 : Value} {L L' : List (Ky × Vl)} (h1 : IsPairs w v1 L) (h2 : IsPairs w v2 L') (hn : L.length < 2 ^ 31) (hK : ∀ w', Frm (fun _ => False) w w' → K (.bool (decide (L = L'))) w') :
    Calls Tryz.prog 16 #[v1, v2] w (ret K Kp) := by
  refine vc16_calls ?_
  exact eqChain_ok (f := ent) (k := 2) (e := 58) (ev := fun x => .agg (ent x).toArray) (by kernel_rfl) (by kernel_rfl) ent_len (by decide) (.inl (by kernel_rfl)) (fun x => .inl ⟨by kernel_rfl, rfl⟩) pair_ne h1 h2 (by omega) hK
theorem mapAwake_ok (hK : ∀ w', Frm (fun _ => False) w w' → K (.bool true) w') : Calls Tryz.prog 6 #[] w (ret K Kp) := by
  refine vc6_calls ?_
  simp only [vc6]
  try simp [-getElem?_pos, -Array.getElem?_eq_getElem, -Int.natCast_add, add_spot, and_assoc, Br_dec, -op_box, -op_alloc_55, -op_st_55, -op_lit_33_3, -op_lit_53_1]
  refine op_lit_ok lit_33_3 fun w1 k1 z1 b1 => ?_
  have hr : Row w1 (some ⟨w.heap.size, 0, none⟩) (awakeSteps.flatMap MStep.cells) := .inr ⟨_, 0, _, _, _, rfl, b1, fun j v hj => by simpa [awakeSteps, MStep.cells] using hj⟩
  have hm := @mapRun_ok
  try simp [-getElem?_pos, -Array.getElem?_eq_getElem, -Int.natCast_add, add_spot, and_assoc, Br_dec, -op_box, -op_alloc_55, -op_st_55, -op_lit_33_3, -op_lit_53_1]
  refine mapRun_ok (md := 0) (ml := 0) (sh := 0) (steps := awakeSteps) hr (fun i hi => ?_) (by decide) fun l w2 G k2 hR2 => ?_
  · match i, hi with
    | 0, _ => simp [awakeSteps]
    | 1, _ => simp [awakeSteps]
    | 2, _ => simp [awakeSteps]
  rw [awake_vers] at hR2
  have r2 := hR2.get (j := 2) (by decide)
  have r3 := hR2.get (j := 3) (by decide)
  obtain ⟨u2, g, c, cs, rfl, hcs, hu2, hg2, _, _, pv2, hp2, hP2, _⟩ := r2
  obtain ⟨u3, g', c', cs', he, hcs', hu3, hg3, _, _, pv3, hp3, hP3, _⟩ := r3
  cases he
  rw [hcs] at hcs'
  cases hcs'
  subst hp2 hp3
  have q2 : cs[4]? = some (.int .i64 2) := by have := hg2 0 (by decide); simpa [toL] using this
  have q3 : cs[6]? = some (.int .i64 1) := by have := hg3 0 (by decide); simpa [toL] using this
  have q4 : cs[7]? = some pv3 := by have := hg3 1 (by decide); simpa using this
  try simp [-getElem?_pos, -Array.getElem?_eq_getElem, -Int.natCast_add, add_spot, and_assoc, Br_dec, -op_box, -op_alloc_55, -op_st_55, -op_lit_33_3, -op_lit_53_1, hcs, q2, q3, q4]
  have k12 := k1.no k2
  refine op_lit_ok lit_53_1 fun w3 k3 z3 b3 => ?_
  have hl : IsPairs w3 (.slice (some ⟨w2.heap.size, 0, none⟩) 1 1) [(2, 6)] := ⟨_, _, rfl, Nat.le_refl _, by simp [maxLen], .inr ⟨_, 0, _, _, _, rfl, b3, fun j v hj => by simpa [ent, ek, ev] using hj⟩, fun h => nomatch h⟩
  refine eqPairs_ok (hP3.still k3) hl (by decide) fun w4 k4 => ?_
  exact hK w4 ((k12.no k3).no k4)
end Go.Proofs.YtbghmbbhkoniiaaGreat.I
end
section
/- From calls that answer true and write nothing that was there to the contract of a law's row; arguments in the heap. -/
namespace Go.Vc
open Go.ChangeShapes Go.WideShapes Go.ChangeAt Go.RowKit Go.WideElems
variable {H : Type} {enc : TypeId × Value → H} {P : Program} {W W' : World}
def typed (P : Program) (ts : List TypeId) : Bool := ts.all fun t => P.readableRec t && decide (t < P.types.size)
theorem below_of (h : ∀ {M}, Frm M W W') : Below W.heap.size W W' := ⟨(h (M := fun _ => False)).os, (h (M := fun _ => False)).tape, (h (M := fun _ => False)).output, (h (M := fun _ => False)).size, fun k hk => (h (M := fun _ => False)).block k hk (fun h => h)⟩
theorem trodAll_below (hl : laidOutB P = true) {sp : Nat → Bool} (hb : Below W.heap.size W W') :
    ∀ {ts : List TypeId} {vs : List Value} {ds : List (DataW H)} {ps : List MemPlace}, typed P ts = true → (∀ p ∈ ps, p.block < W.heap.size) → (∀ p ∈ ps, sp p.block = true) →
      DataW.TrodAll enc P W 0 (fun _ => true) true ts vs ds ps → DataW.TrodAll enc P W' 0 sp true ts vs ds ps
  | [], [], [], _, _, _, _, h => h
  | t :: ts, v :: vs, d :: ds, ps, ht, h1, h2, h => by
    obtain ⟨p, q, hd, hr, rfl⟩ := h
    simp only [typed, List.all_cons, Bool.and_eq_true, decide_eq_true_eq] at ht
    refine ⟨p, q, Trod_stays hl ht.1.1 ht.1.2 hd (fun x hx => hb.same (h1 x (by simp [hx]))) (fun x hx => h2 x (by simp [hx])), ?_, rfl⟩
    exact trodAll_below hl hb (by simpa [typed] using ht.2) (fun x hx => h1 x (by simp [hx])) (fun x hx => h2 x (by simp [hx])) hr
  | [], [], _ :: _, _, _, _, _, h => h.elim
  | [], _ :: _, _, _, _, _, _, h => h.elim
  | _ :: _, [], _, _, _, _, _, h => h.elim
  | _ :: _, _ :: _, [], _, _, _, _, h => h.elim
theorem trodAll_len : ∀ {ts : List TypeId} {vs : List Value} {ds : List (DataW H)} {ps : List MemPlace} {b : Nat} {sp : Nat → Bool} {hd : Bool}, DataW.TrodAll enc P W b sp hd ts vs ds ps → ds.length = ts.length
  | [], [], [], _, _, _, _, _ => rfl
  | t :: ts, v :: vs, d :: ds, ps, _, _, _, h => by
    obtain ⟨p, q, hd, hr, rfl⟩ := h
    simp [trodAll_len hr]
  | [], [], _ :: _, _, _, _, _, h => h.elim
  | [], _ :: _, _, _, _, _, _, h => h.elim
  | _ :: _, [], _, _, _, _, _, h => h.elim
  | _ :: _, _ :: _, [], _, _, _, _, h => h.elim
theorem returns_true {C : Checked} {os : Os} {f : FuncId} {fn : Func} {s : ChangeSpec} {tb : TypeId}
    (own : ownKnob C.prog.godebug = none) (started : os.Started) (noInit : C.prog.inits.idxOf? f = none) (hfn : C.prog.funcs[f]? = some fn)
    (witness : ∃ (w : World) (tape : Tape) (i : Input), w.os = os ∧ (w.forCall tape i).Shaped C.prog ∧ i.vars = [] ∧ Input.okWide C.prog (w.forCall tape i) .any w.heap.size f i ∧
      s.pre6 enc C.prog fn [] false (w.forCall tape i).memory i.args ∧ ({} : Assume).holds C.prog (lone (Frame.enter C.prog f i.args .normal) [] (w.forCall tape i)))
    (hl : laidOutB C.prog = true) (ht : typed C.prog fn.params.toList = true) (hv : s.vars = []) (hres : fn.resultTypes = #[tb]) (hb : C.prog.underlying tb = some .bool)
    (hs : ∀ ds : List (DataW H), ds.length = fn.params.toList.length → s.fn H ds = { results := [.lit (.bool true)], args := ds })
    (contract : ∀ (W : World) (base : Nat) (args : Array Value) (ds : List (DataW H)) (before : List MemPlace), W.ShapedOpen C.prog →
      (∀ (j : Nat) t v, fn.params[j]? = some t → args[j]? = some v → Value.okWide C.prog W .any base t v) →
      DataW.TrodAll enc C.prog W 0 (fun _ => true) true fn.params.toList args.toList ds before → (∀ p ∈ before, p.block < W.heap.size) →
      Calls C.prog f args W (ret (fun v W' => v = .bool true ∧ ∀ M, Frm M W W') fun _ _ => False)) :
    ReturnsInHanded {} C os f .any (s.pre6 enc C.prog fn [] false) (s.post enc C.prog fn false true false false) := by
  refine returnsInHanded_of_calls own started noInit witness ?_
  intro w tape i _ hsh _ hok hpre hholds
  obtain ⟨_, _, _, fn', hfn', _, _, _, _, hval⟩ := hok
  have e : fn' = fn := Option.some.inj (hfn'.symm.trans hfn)
  subst e
  obtain ⟨⟨ds, gs, before, hw, hc⟩, hz⟩ := hpre
  have hw' := DataW.Whole.of_heap (w' := w.forCall tape i) (by rfl) hw
  have hlt := hw'.lt
  have hw'' := hw'
  obtain ⟨p, q, hA, hV, rfl, hfz, hnd⟩ := hw'
  rw [hv] at hV
  obtain ⟨rfl, rfl⟩ := trodVars_none hV
  rw [List.append_nil] at hlt hw''
  refine (contract (w.forCall tape i) w.heap.size i.args ds p hsh hval hA hlt).mono fun e W' he => ?_
  cases e with
  | returned v =>
    obtain ⟨rfl, hf⟩ := he
    have hb' := below_of (fun {M} => hf M)
    have hlen := trodAll_len hA
    have hsd : s.fn H (ds ++ []) = { results := [.lit (.bool true)], args := ds } := by rw [List.append_nil]; exact hs ds hlen
    refine ChangeSpec.post_blind ⟨ds, [], p, [], p, [], hw'', ?_, ?_, ?_, World.keptBut_mono (fun x hx => ⟨hx, .inr (.inl hx)⟩) (hb'.frame (· ∈ p)), (fun h => nomatch h)⟩
    · rw [hsd, hres]; exact trodAll_mk1 (shut_bool hb _)
    · rw [hsd]; exact trodAll_below hl hb' ht hlt (fun x hx => by simpa using hlt x hx) hA
    · rw [hsd, hv]; rfl
  | panicked _ => exact he.elim
  | outgrown => exact he.elim
/-! ### arguments -/
theorem open_rows {t e : TypeId} {base : Nat} {v : Value} {d : DataW H} {ps : List MemPlace} (ht : P.underlying t = some (.slice e)) {c : Nat} (hc : P.cellsOf e = c) (hc0 : 0 < c)
    (hok : Value.okWide P W .any base t v) (h : DataW.Trod enc P W 0 (fun _ => true) true t v d ps) :
    ∃ (a : Option Addr) (len cap : Nat) (f : Nat → List Value), v = .slice a len cap ∧ len ≤ cap ∧ cap ≤ maxLen ∧ (a = none → len = 0) ∧ (∀ p, a = some p → p.spot = none ∧ p.block < W.heap.size) ∧
      Row W a ((List.range len).flatMap f) ∧ (∀ i, (f i).length = c) ∧ ∀ i, i < len → ∃ n x, DataW.trod enc P W 0 (fun _ => true) true n e (f i) = some x := by
  have hv : v = .slice none 0 0 ∨ ∃ p len cap, v = .slice (some p) len cap ∧ p.spot = none ∧ p.block < W.heap.size := by
    unfold Value.okWide at hok
    rw [ht] at hok
    simp only [Cell.okWide, ht] at hok
    unfold Cell.ok at hok
    rw [ht] at hok
    cases v with
    | slice a len cap =>
      cases a with
      | none =>
        match len, cap, hok with
        | 0, 0, _ => exact .inl rfl
      | some p =>
        refine .inr ⟨p, len, cap, rfl, hok.2.2.2.1, ?_⟩
        obtain ⟨row, cells, hsh, _⟩ := hok.2.2.2.2
        unfold World.shape? at hsh
        split at hsh
        · rename_i hb; exact lt_of_get hb
        · cases hsh
    | _ => exact hok.elim
  obtain ⟨fuel, hf⟩ := h
  rcases hv with rfl | ⟨p, len, cap, rfl, hs, hbl⟩
  · exact ⟨none, 0, 0, fun _ => List.replicate c undef, rfl, Nat.le_refl _, by simp [maxLen], fun _ => rfl, (fun p h => nomatch h), .inl rfl, fun i => by simp, fun i hi => by omega⟩
  · have hf' : DataW.trod enc P W 0 (fun _ => true) true fuel t [.slice (some p) len cap] = some (d, ps) := hf
    rcases Go.Deep.open_slice ht hf' with ⟨h0, _⟩ | ⟨a, len', cap', m, n, D, Pl, hcs, _, hl, hm, hmm, _, hx⟩
    · cases h0
    · simp only [List.cons.injEq, Value.slice.injEq, Option.some.injEq, and_true] at hcs
      obtain ⟨rfl, rfl, rfl⟩ := hcs
      obtain ⟨b, o, sp⟩ := p
      simp only at hs
      subst hs
      have hle : ∀ i, i < len → ∃ cs', W.cells? 0 ((⟨b, o, none⟩ : Addr).add (i * c)) c = some cs' ∧ DataW.trod enc P W 0 (fun _ => true) true n e cs' = some (D i, Pl i) := fun i hi => by
        have := hx i (by rw [hmm]; simp; omega)
        rwa [hc] at this
      have hcell : ∀ i, i < len → ∃ cs' : List Value, cs'.length = c ∧ (∀ r, r < c → W.cell? ⟨b, o + (i * c + r), none⟩ = cs'[r]?) ∧ DataW.trod enc P W 0 (fun _ => true) true n e cs' = some (D i, Pl i) := fun i hi => by
        obtain ⟨cs', h1, h2⟩ := hle i hi
        obtain ⟨_, h3, h4⟩ := World.cells?_some h1
        refine ⟨cs', h3, fun r hr => ?_, h2⟩
        rw [← h4 r hr, Go.Deep.add_add, add_spot rfl]
      have hch : ∃ f : Nat → List Value, (∀ i, (f i).length = c) ∧ ∀ i, i < len → (∀ r, r < c → W.cell? ⟨b, o + (i * c + r), none⟩ = (f i)[r]?) ∧ DataW.trod enc P W 0 (fun _ => true) true n e (f i) = some (D i, Pl i) := by
        classical
        refine ⟨fun i => if hi : i < len then Classical.choose (hcell i hi) else List.replicate c undef, fun i => ?_, fun i hi => ?_⟩
        · by_cases hi : i < len
          · simp only [dif_pos hi]; exact (Classical.choose_spec (hcell i hi)).1
          · simp only [dif_neg hi]; simp
        · simp only [dif_pos hi]; exact (Classical.choose_spec (hcell i hi)).2
      obtain ⟨f, hf1, hf2⟩ := hch
      have hrow : Row W (some ⟨b, o, none⟩) ((List.range len).flatMap f) ∧ (len ≠ 0 → b < W.heap.size) := by
        by_cases h0 : len = 0
        · subst h0; exact ⟨.inl rfl, fun h => absurd rfl h⟩
        · have hz := (hf2 0 (by omega)).1 0 hc0
          rw [List.getElem?_eq_getElem (by rw [hf1]; exact hc0)] at hz
          have hb : ∃ cs e' fz, W.heap[b]? = some (.cells cs e' fz) := by
            unfold World.cell? at hz
            split at hz
            · rename_i c' e' fz hb; exact ⟨_, _, _, hb⟩
            · cases hz
          obtain ⟨cs, e', fz, hb⟩ := hb
          refine ⟨.inr ⟨b, o, cs, e', fz, rfl, hb, fun j v hj => ?_⟩, fun _ => lt_of_get hb⟩
          have hjl : j < len * c := by
            have := (List.getElem?_eq_some_iff.1 hj).1
            rwa [flatMap_len hf1, List.length_range] at this
          have hjc : j = j / c * c + j % c := by rw [Nat.mul_comm]; exact (Nat.div_add_mod j c).symm
          have hi : j / c < len := Nat.div_lt_of_lt_mul (by rw [Nat.mul_comm]; exact hjl)
          have hr : j % c < c := Nat.mod_lt _ hc0
          have hg := flatMap_get hf1 (List.range len) (j / c) (j % c) (by simpa using hi) hr
          rw [← hjc] at hg
          rw [hg] at hj
          simp only [List.getElem_range] at hj
          have := (hf2 _ hi).1 _ hr
          rw [← hjc, hj] at this
          rw [← this]
          exact (cell_of (p := ⟨b, o + j, none⟩) hb rfl).symm
      exact ⟨some ⟨b, o, none⟩, len, cap, f, rfl, hl, hm, (fun h => nomatch h), fun p hp => by cases hp; exact ⟨rfl, hbl⟩, hrow.1, hf1, fun i hi => ⟨n, _, (hf2 i hi).2⟩⟩
theorem open_fields {t : TypeId} {fs : Array Field} {n : Nat} {cs : List Value} {x : DataW H × List MemPlace} (ht : P.underlying t = some (.struct fs)) (h : DataW.trod enc P W 0 (fun _ => true) true n t cs = some x)
    {i : Nat} {f : Field} (hf : fs[i]? = some f) (ho : f.offset = i) (hc : P.cellsOf f.type = 1) (hi : i < cs.length) :
    ∃ n y, DataW.trod enc P W 0 (fun _ => true) true n f.type [cs[i]] = some y := by
  obtain ⟨xs, k, rfl, rfl, hl, hxl, hx⟩ := DataW.trod_struct ht h
  have h1 := hx i f hf
  have hi2 : i < xs.length := by rw [hxl]; exact (Array.getElem?_eq_some_iff.1 hf).1
  rw [ho, hc, List.getElem?_eq_getElem hi2, List.drop_eq_getElem_cons hi, List.take_succ_cons, List.take_zero] at h1
  exact ⟨k, _, h1⟩
theorem field_int {t : TypeId} {k : IntKind} {n : Nat} {u : Value} {x : DataW H × List MemPlace} (ht : P.underlying t = some (.int k)) (h : DataW.trod enc P W 0 (fun _ => true) true n t [u] = some x) : ∃ m, u = .int k m ∧ k.min ≤ m ∧ m ≤ k.max := by
  obtain ⟨m, hm, _, hw⟩ := DataW.trod_int ht h
  simp only [Lit.wf, Bool.and_eq_true, decide_eq_true_eq] at hw
  exact ⟨m, by simpa using hm, hw.1, hw.2⟩
end Go.Vc
end
section
/- Further arguments in the heap: whole numbers, structs of them, rows of structs. -/
namespace Go.Vc
open Go.ChangeShapes Go.WideShapes Go.ChangeAt Go.RowKit Go.WideElems
variable {H : Type} {enc : TypeId × Value → H} {P : Program} {W W' : World}
theorem open_agg {t : TypeId} {fs : Array Field} {base n : Nat} {v : Value} {d : DataW H} {ps : List MemPlace} (ht : P.underlying t = some (.struct fs)) (hc : P.cellsOf t = n)
    (hok : Value.okWide P W .any base t v) (h : DataW.Trod enc P W 0 (fun _ => true) true t v d ps) :
    ∃ cs : List Value, v = .agg cs.toArray ∧ cs.length = n ∧ ∃ m x, DataW.trod enc P W 0 (fun _ => true) true m t cs = some x := by
  unfold Value.okWide at hok
  rw [ht] at hok
  obtain ⟨cs, rfl, hs, _⟩ := hok
  obtain ⟨fuel, hf⟩ := h
  exact ⟨cs.toList, by simp, by simp [hs, hc], fuel, _, hf⟩
theorem rows_of {α : Type} {f : Nat → List Value} {c : α → List Value} {len : Nat} {a : Option Addr} (d : α) (h : Row W a ((List.range len).flatMap f)) (hf : ∀ i, i < len → ∃ s, f i = c s) : ∃ xs : List α, xs.length = len ∧ Row W a (xs.flatMap c) := by
  obtain ⟨g, hg⟩ := Classical.axiomOfChoice (r := fun i (s : α) => i < len → f i = c s) fun i => by
    by_cases hi : i < len
    · obtain ⟨s, hs⟩ := hf i hi
      exact ⟨s, fun _ => hs⟩
    · exact ⟨d, fun h => absurd h hi⟩
  refine ⟨(List.range len).map g, by simp, ?_⟩
  rw [Go.Deep.flatMap_congr_range hg] at h
  rwa [List.flatMap_map]
end Go.Vc
end
section
/- What the laws' arguments are in the heap: a hasher's numbers, steps. -/
namespace Go.Proofs.YtbghmbbhkoniiaaGreat.I
open Go.Vc Go.Proofs Go.Proofs.YtbghmbbhkoniiaaGreat Go.ChangeShapes Go.WideShapes Go.ChangeAt Go.RowKit
variable {H : Type} {enc : TypeId × Value → H} {W : World}
theorem row_own : ownKnob Tryz.prog.godebug = none := by kernel_rfl
theorem row_laid : laidOutB Tryz.prog = true := by kernel_rfl
theorem open_hash {base : Nat} {v : Value} {d : DataW H} {ps : List MemPlace} (hok : Value.okWide Tryz.prog W .any base 24 v) (h : DataW.Trod enc Tryz.prog W 0 (fun _ => true) true 24 v d ps) : ∃ md ml sh : Nat, v = hval md ml sh := by
  obtain ⟨cs, rfl, hl, n, x, hx⟩ := open_agg Tryz.underlying24 (n := 3) (by kernel_rfl) hok h
  match cs, hl, hx with
  | [u0, u1, u2], _, hx =>
    have hu := Tryz.underlying24
    obtain ⟨n0, y0, z0⟩ := open_fields hu hx (i := 0) rfl rfl (by kernel_rfl) (by simp)
    obtain ⟨n1, y1, z1⟩ := open_fields hu hx (i := 1) rfl rfl (by kernel_rfl) (by simp)
    obtain ⟨n2, y2, z2⟩ := open_fields hu hx (i := 2) rfl rfl (by kernel_rfl) (by simp)
    obtain ⟨m0, e0, b0, _⟩ := field_int Tryz.underlying22 z0
    obtain ⟨m1, e1, b1, _⟩ := field_int Tryz.underlying22 z1
    obtain ⟨m2, e2, b2, _⟩ := field_int Tryz.underlying5 z2
    have h0 : (m0.toNat : Int) = m0 := Int.toNat_of_nonneg b0
    have h1 : (m1.toNat : Int) = m1 := Int.toNat_of_nonneg b1
    have h2 : (m2.toNat : Int) = m2 := Int.toNat_of_nonneg b2
    refine ⟨m0.toNat, m1.toNat, m2.toNat, ?_⟩
    simp only [List.getElem_cons_zero, List.getElem_cons_succ] at e0 e1 e2
    simp only [hval, h0, h1, h2, e0, e1, e2]
theorem mstep_of {n : Nat} {cs : List Value} {x : DataW H × List MemPlace} (hl : cs.length = 5) (h : DataW.trod enc Tryz.prog W 0 (fun _ => true) true n 42 cs = some x) : ∃ s : MStep, cs = s.cells := by
  match cs, hl, h with
  | [u0, u1, u2, u3, u4], _, h =>
    have hu := Tryz.underlying42
    obtain ⟨n0, y0, z0⟩ := open_fields hu h (i := 0) rfl rfl (by kernel_rfl) (by simp)
    obtain ⟨n1, y1, z1⟩ := open_fields hu h (i := 1) rfl rfl (by kernel_rfl) (by simp)
    obtain ⟨n2, y2, z2⟩ := open_fields hu h (i := 2) rfl rfl (by kernel_rfl) (by simp)
    obtain ⟨n3, y3, z3⟩ := open_fields hu h (i := 3) rfl rfl (by kernel_rfl) (by simp)
    obtain ⟨n4, y4, z4⟩ := open_fields hu h (i := 4) rfl rfl (by kernel_rfl) (by simp)
    obtain ⟨m0, e0, b0, _⟩ := field_int Tryz.underlying5 z0
    obtain ⟨m1, e1, _⟩ := field_int Tryz.underlying3 z1
    obtain ⟨m2, e2, _⟩ := field_int Tryz.underlying2 z2
    obtain ⟨m3, e3, _⟩ := field_int Tryz.underlying2 z3
    obtain ⟨m4, e4, _⟩ := field_int Tryz.underlying3 z4
    have h0 : (m0.toNat : Int) = m0 := Int.toNat_of_nonneg b0
    refine ⟨⟨m0.toNat, m1, m2, m3, m4⟩, ?_⟩
    simp only [List.getElem_cons_zero, List.getElem_cons_succ] at e0 e1 e2 e3 e4
    simp only [MStep.cells, h0, e0, e1, e2, e3, e4]
theorem open_msteps {base : Nat} {v : Value} {d : DataW H} {ps : List MemPlace} (hok : Value.okWide Tryz.prog W .any base 26 v) (h : DataW.Trod enc Tryz.prog W 0 (fun _ => true) true 26 v d ps) :
    ∃ (a : Option Addr) (cap : Nat) (steps : List MStep), v = .slice a steps.length cap ∧ steps.length ≤ cap ∧ cap ≤ maxLen ∧ (a = none → steps.length = 0) ∧ Row W a (steps.flatMap MStep.cells) := by
  obtain ⟨a, len, cap, f, rfl, h1, h2, h3, h4, h6, h7, h8⟩ := open_rows Tryz.underlying26 (c := 5) (by kernel_rfl) (by decide) hok h
  obtain ⟨xs, rfl, hr⟩ := rows_of (c := MStep.cells) ⟨0, 0, 0, 0, 0⟩ h6 fun i hi => by
    obtain ⟨n, x, hx⟩ := h8 i hi
    exact mstep_of (h7 i) hx
  exact ⟨a, cap, xs, rfl, h1, h2, h3, hr⟩
theorem open_ints {base : Nat} {v : Value} {d : DataW H} {ps : List MemPlace} (hok : Value.okWide Tryz.prog W .any base 25 v) (h : DataW.Trod enc Tryz.prog W 0 (fun _ => true) true 25 v d ps) :
    ∃ (a : Option Addr) (cap : Nat) (xs : List Int), v = .slice a xs.length cap ∧ xs.length ≤ cap ∧ cap ≤ maxLen ∧ (a = none → xs.length = 0) ∧ Row W a (xs.flatMap fun x => [.int .i64 x]) := by
  obtain ⟨a, len, cap, f, rfl, h1, h2, h3, h4, h6, h7, h8⟩ := open_rows Tryz.underlying25 (c := 1) (by kernel_rfl) (by decide) hok h
  obtain ⟨xs, rfl, hr⟩ := rows_of (c := fun x : Int => [Value.int .i64 x]) 0 h6 fun i hi => by
    obtain ⟨n, x, hx⟩ := h8 i hi
    match hfi : f i, h7 i, hx with
    | [u0], _, hx =>
      obtain ⟨m0, e0, _⟩ := field_int Tryz.underlying2 hx
      exact ⟨m0, by rw [e0]⟩
  exact ⟨a, cap, xs, rfl, h1, h2, h3, hr⟩
end Go.Proofs.YtbghmbbhkoniiaaGreat.I
end
section
/- A seat's own rewriting rules of single operations, printed by program out of its types and functions. -/
namespace Go.Proofs.YtbghmbbhkoniiaaGreat
open Go.Vc Go.Proofs
variable {w : World} {K : KV} {Kp : KP} {K1 : Value → Prop}
@[simp] theorem op_len_25 {a : Option Addr} {n c ty : Nat} : (nice Tryz.prog).op (.blt .len [25] ty [.slice a n c]) w K Kp = K (.int .i64 n) w := op_len_slice (by kernel_rfl)
@[simp] theorem pur_len_25 {a : Option Addr} {n c ty : Nat} : (nice Tryz.prog).pur (.blt .len [25] ty [.slice a n c]) K1 = K1 (.int .i64 n) := pur_len_slice (by kernel_rfl)
@[simp] theorem ld_len_25 {a : Option Addr} {n c ty : Nat} : (nice Tryz.prog).ld (.blt .len [25] ty [.slice a n c]) w K1 = K1 (.int .i64 n) := ld_len_slice (by kernel_rfl)
@[simp] theorem same_len_25 {a : Option Addr} {n c ty : Nat} {u : Value} : (nice Tryz.prog).same (.blt .len [25] ty [.slice a n c]) u w = (.int .i64 n = u) := same_len_slice (by kernel_rfl)
@[simp] theorem op_ix_25 {p : Addr} {len cap : Nat} {k : IntKind} {j : Int} : (nice Tryz.prog).op (.indexAddr 25 (.slice (some p) len cap) (.int k j)) w K Kp = ((0 ≤ j ∧ j < (len : Int)) ∧ K (.pointer (some (p.add (j.toNat * 1)))) w) := op_ix_slice (e := 2) (by kernel_rfl)
@[simp] theorem pur_ix_25 {p : Addr} {len cap : Nat} {k : IntKind} {j : Int} : (nice Tryz.prog).pur (.indexAddr 25 (.slice (some p) len cap) (.int k j)) K1 = ((0 ≤ j ∧ j < (len : Int)) ∧ K1 (.pointer (some (p.add (j.toNat * 1))))) := pur_ix_slice (e := 2) (by kernel_rfl)
@[simp] theorem call_35 {args : List Value} : (nice Tryz.prog).call (.fn 35) args w K Kp = Calls Tryz.prog 35 args.toArray w (ret K Kp) := call_fn (by kernel_rfl)
@[simp] theorem op_alloc_64 : (nice Tryz.prog).op (.alloc 64) w K Kp = K (.pointer (some ⟨w.heap.size, 0, none⟩)) (w.alloc (.cells #[Value.pointer none] 64)) := op_alloc (z := (.agg #[(Value.pointer none)])) (by kernel_rfl)
@[simp] theorem op_ld_64 {p : Addr} : (nice Tryz.prog).op (.load 64 (.pointer (some p))) w K Kp = ∃ cs e fz, w.heap[p.block]? = some (.cells cs e fz) ∧ p.spot = none ∧ p.off + 1 ≤ cs.size ∧ K (.agg (cs.extract p.off (p.off + 1))) w := op_ldn (by kernel_rfl)
@[simp] theorem ld_ld_64 {p : Addr} : (nice Tryz.prog).ld (.load 64 (.pointer (some p))) w K1 = ∃ cs e fz, w.heap[p.block]? = some (.cells cs e fz) ∧ p.spot = none ∧ p.off + 1 ≤ cs.size ∧ K1 (.agg (cs.extract p.off (p.off + 1))) := ld_ldn (by kernel_rfl)
@[simp] theorem same_ld_64 {p : Addr} {v : Value} : (nice Tryz.prog).same (.load 64 (.pointer (some p))) v w = ∃ cs e fz, w.heap[p.block]? = some (.cells cs e fz) ∧ p.spot = none ∧ p.off + 1 ≤ cs.size ∧ .agg (cs.extract p.off (p.off + 1)) = v := same_ldn (by kernel_rfl)
@[simp] theorem op_st_64 {p : Addr} {vs : Array Value} : (nice Tryz.prog).op (.store 64 (.pointer (some p)) (.agg vs)) w K Kp = (vs.size = 1 ∧ (∀ u ∈ vs.toList, u.oneCell' = true) ∧ ∃ cs e, w.heap[p.block]? = some (.cells cs e (0, 0)) ∧ p.spot = none ∧ p.off + 1 ≤ cs.size ∧ K undef (w.upd p.block (.cells (ow cs p.off vs.toList) e (0, 0)))) := op_stn (by kernel_rfl)
@[simp] theorem op_len_60 {a : Option Addr} {n c ty : Nat} : (nice Tryz.prog).op (.blt .len [60] ty [.slice a n c]) w K Kp = K (.int .i64 n) w := op_len_slice (by kernel_rfl)
@[simp] theorem pur_len_60 {a : Option Addr} {n c ty : Nat} : (nice Tryz.prog).pur (.blt .len [60] ty [.slice a n c]) K1 = K1 (.int .i64 n) := pur_len_slice (by kernel_rfl)
@[simp] theorem ld_len_60 {a : Option Addr} {n c ty : Nat} : (nice Tryz.prog).ld (.blt .len [60] ty [.slice a n c]) w K1 = K1 (.int .i64 n) := ld_len_slice (by kernel_rfl)
@[simp] theorem same_len_60 {a : Option Addr} {n c ty : Nat} {u : Value} : (nice Tryz.prog).same (.blt .len [60] ty [.slice a n c]) u w = (.int .i64 n = u) := same_len_slice (by kernel_rfl)
@[simp] theorem call_53 {args : List Value} : (nice Tryz.prog).call (.fn 53) args w K Kp = Calls Tryz.prog 53 args.toArray w (ret K Kp) := call_fn (by kernel_rfl)
theorem build_88_  : buildV Tryz.prog 88 [] = some (.agg (#[])) := by
  have e : buildV Tryz.prog 88 [] = (Instr.fill ((#[] : Array (Nat × Nat))[·]?) (#[]) []).map .agg := by kernel_rfl
  rw [e]; simp [Instr.fill]
@[simp] theorem op_build_88_  : (nice Tryz.prog).op (.build 88 []) w K Kp = K (.agg (#[])) w := op_build (build_88_)
@[simp] theorem pur_build_88_  : (nice Tryz.prog).pur (.build 88 []) K1 = K1 (.agg (#[])) := pur_build (build_88_)
@[simp] theorem call_44 {args : List Value} : (nice Tryz.prog).call (.fn 44) args w K Kp = Calls Tryz.prog 44 args.toArray w (ret K Kp) := call_fn (by kernel_rfl)
theorem build_64_0 {x0 : Value} (h0 : x0.oneCell' = true) : buildV Tryz.prog 64 [(0, x0)] = some (.agg (#[x0])) := by
  have e : buildV Tryz.prog 64 [(0, x0)] = (Instr.fill ((#[(0, 1)] : Array (Nat × Nat))[·]?) (#[Value.pointer none]) [(0, x0)]).map .agg := by kernel_rfl
  rw [e]; simp [Instr.fill, cells_of_one h0]
@[simp] theorem op_build_64_0 {x0 : Value} (h0 : x0.oneCell' = true) : (nice Tryz.prog).op (.build 64 [(0, x0)]) w K Kp = K (.agg (#[x0])) w := op_build (build_64_0 h0)
@[simp] theorem pur_build_64_0 {x0 : Value} (h0 : x0.oneCell' = true) : (nice Tryz.prog).pur (.build 64 [(0, x0)]) K1 = K1 (.agg (#[x0])) := pur_build (build_64_0 h0)
@[simp] theorem op_fa_64_0 {p : Addr} : (nice Tryz.prog).op (.fieldAddr 64 (.pointer (some p)) 0) w K Kp = K (.pointer (some (p.add 0))) w := op_fa (k := .one) (by kernel_rfl)
@[simp] theorem pur_fa_64_0 {p : Addr} : (nice Tryz.prog).pur (.fieldAddr 64 (.pointer (some p)) 0) K1 = K1 (.pointer (some (p.add 0))) := pur_fa (k := .one) (by kernel_rfl)
@[simp] theorem op_ld_62 {p : Addr} : (nice Tryz.prog).op (.load 62 (.pointer (some p))) w K Kp = ∃ cs e fz, w.heap[p.block]? = some (.cells cs e fz) ∧ p.spot = none ∧ ∃ v, cs[p.off]? = some v ∧ K v w := op_ld (by kernel_rfl)
@[simp] theorem ld_ld_62 {p : Addr} : (nice Tryz.prog).ld (.load 62 (.pointer (some p))) w K1 = ∃ cs e fz, w.heap[p.block]? = some (.cells cs e fz) ∧ p.spot = none ∧ ∃ v, cs[p.off]? = some v ∧ K1 v := ld_ld (by kernel_rfl)
@[simp] theorem same_ld_62 {p : Addr} {v : Value} : (nice Tryz.prog).same (.load 62 (.pointer (some p))) v w = ∃ cs e fz, w.heap[p.block]? = some (.cells cs e fz) ∧ p.spot = none ∧ cs[p.off]? = some v := same_ld (by kernel_rfl)
@[simp] theorem op_st_62 {p : Addr} {v : Value} : (nice Tryz.prog).op (.store 62 (.pointer (some p)) v) w K Kp = ∃ cs e, w.heap[p.block]? = some (.cells cs e (0, 0)) ∧ p.spot = none ∧ p.off < cs.size ∧ v.oneCell' = true ∧ K undef (w.upd p.block (.cells (cs.setIfInBounds p.off v) e (0, 0))) := op_st (by kernel_rfl)
@[simp] theorem op_alloc_88 : (nice Tryz.prog).op (.alloc 88) w K Kp = K (.pointer (some ⟨w.heap.size, 0, none⟩)) (w.alloc (.cells #[] 88)) := op_alloc (z := (.agg #[])) (by kernel_rfl)
@[simp] theorem op_fa_121_1 {p : Addr} : (nice Tryz.prog).op (.fieldAddr 121 (.pointer (some p)) 1) w K Kp = K (.pointer (some (p.add 1))) w := op_fa (k := .one) (by kernel_rfl)
@[simp] theorem pur_fa_121_1 {p : Addr} : (nice Tryz.prog).pur (.fieldAddr 121 (.pointer (some p)) 1) K1 = K1 (.pointer (some (p.add 1))) := pur_fa (k := .one) (by kernel_rfl)
@[simp] theorem op_ld_119 {p : Addr} : (nice Tryz.prog).op (.load 119 (.pointer (some p))) w K Kp = ∃ cs e fz, w.heap[p.block]? = some (.cells cs e fz) ∧ p.spot = none ∧ ∃ v, cs[p.off]? = some v ∧ K v w := op_ld (by kernel_rfl)
@[simp] theorem ld_ld_119 {p : Addr} : (nice Tryz.prog).ld (.load 119 (.pointer (some p))) w K1 = ∃ cs e fz, w.heap[p.block]? = some (.cells cs e fz) ∧ p.spot = none ∧ ∃ v, cs[p.off]? = some v ∧ K1 v := ld_ld (by kernel_rfl)
@[simp] theorem same_ld_119 {p : Addr} {v : Value} : (nice Tryz.prog).same (.load 119 (.pointer (some p))) v w = ∃ cs e fz, w.heap[p.block]? = some (.cells cs e fz) ∧ p.spot = none ∧ cs[p.off]? = some v := same_ld (by kernel_rfl)
@[simp] theorem op_st_119 {p : Addr} {v : Value} : (nice Tryz.prog).op (.store 119 (.pointer (some p)) v) w K Kp = ∃ cs e, w.heap[p.block]? = some (.cells cs e (0, 0)) ∧ p.spot = none ∧ p.off < cs.size ∧ v.oneCell' = true ∧ K undef (w.upd p.block (.cells (cs.setIfInBounds p.off v) e (0, 0))) := op_st (by kernel_rfl)
@[simp] theorem op_eql_119_y {xc yc : Bool} {u : TypeId} {v : Value} : (nice Tryz.prog).op (.bin BinOp.eql 119 xc yc (.iface u v) .nilIface) w K Kp = K (.bool false) w := op_eq_iface (by kernel_rfl) rfl
@[simp] theorem op_eql_119_n {xc : Bool} : (nice Tryz.prog).op (.bin BinOp.eql 119 xc true .nilIface .nilIface) w K Kp = K (.bool true) w := op_eq_niface (by kernel_rfl) rfl
@[simp] theorem pur_eql_119_y {xc yc : Bool} {u : TypeId} {v : Value} : (nice Tryz.prog).pur (.bin BinOp.eql 119 xc yc (.iface u v) .nilIface) K1 = K1 (.bool false) := pur_eq_iface (by kernel_rfl) rfl
@[simp] theorem pur_eql_119_n {xc : Bool} : (nice Tryz.prog).pur (.bin BinOp.eql 119 xc true .nilIface .nilIface) K1 = K1 (.bool true) := pur_eq_niface (by kernel_rfl) rfl
@[simp] theorem op_ld_88 {p : Addr} : (nice Tryz.prog).op (.load 88 (.pointer (some p))) w K Kp = K (.agg #[]) w := op_ld0 (by kernel_rfl)
@[simp] theorem ld_ld_88 {p : Addr} : (nice Tryz.prog).ld (.load 88 (.pointer (some p))) w K1 = K1 (.agg #[]) := ld_ld0 (by kernel_rfl)
@[simp] theorem same_ld_88 {p : Addr} {v : Value} : (nice Tryz.prog).same (.load 88 (.pointer (some p))) v w = (.agg #[] = v) := same_ld0 (by kernel_rfl)
@[simp] theorem op_st_88 {p : Addr} : (nice Tryz.prog).op (.store 88 (.pointer (some p)) (.agg #[])) w K Kp = K undef w := op_st0 (by kernel_rfl)
@[simp] theorem op_fa_121_2 {p : Addr} : (nice Tryz.prog).op (.fieldAddr 121 (.pointer (some p)) 2) w K Kp = K (.pointer (some (p.add 2))) w := op_fa (k := .one) (by kernel_rfl)
@[simp] theorem pur_fa_121_2 {p : Addr} : (nice Tryz.prog).pur (.fieldAddr 121 (.pointer (some p)) 2) K1 = K1 (.pointer (some (p.add 2))) := pur_fa (k := .one) (by kernel_rfl)
@[simp] theorem call_60 {args : List Value} : (nice Tryz.prog).call (.fn 60) args w K Kp = Calls Tryz.prog 60 args.toArray w (ret K Kp) := call_fn (by kernel_rfl)
theorem build_121_2 {x2 : Value} (h2 : x2.oneCell' = true) : buildV Tryz.prog 121 [(2, x2)] = some (.agg (#[Value.int IntKind.i64 0, Value.nilIface, x2])) := by
  have e : buildV Tryz.prog 121 [(2, x2)] = (Instr.fill ((#[(0, 1), (1, 1), (2, 1)] : Array (Nat × Nat))[·]?) (#[Value.int IntKind.i64 0, Value.nilIface, Value.nilIface]) [(2, x2)]).map .agg := by kernel_rfl
  rw [e]; simp [Instr.fill, cells_of_one h2]
@[simp] theorem op_build_121_2 {x2 : Value} (h2 : x2.oneCell' = true) : (nice Tryz.prog).op (.build 121 [(2, x2)]) w K Kp = K (.agg (#[Value.int IntKind.i64 0, Value.nilIface, x2])) w := op_build (build_121_2 h2)
@[simp] theorem pur_build_121_2 {x2 : Value} (h2 : x2.oneCell' = true) : (nice Tryz.prog).pur (.build 121 [(2, x2)]) K1 = K1 (.agg (#[Value.int IntKind.i64 0, Value.nilIface, x2])) := pur_build (build_121_2 h2)
@[simp] theorem call_59 {args : List Value} : (nice Tryz.prog).call (.fn 59) args w K Kp = Calls Tryz.prog 59 args.toArray w (ret K Kp) := call_fn (by kernel_rfl)
@[simp] theorem op_fa_121_0 {p : Addr} : (nice Tryz.prog).op (.fieldAddr 121 (.pointer (some p)) 0) w K Kp = K (.pointer (some (p.add 0))) w := op_fa (k := .one) (by kernel_rfl)
@[simp] theorem pur_fa_121_0 {p : Addr} : (nice Tryz.prog).pur (.fieldAddr 121 (.pointer (some p)) 0) K1 = K1 (.pointer (some (p.add 0))) := pur_fa (k := .one) (by kernel_rfl)
theorem build_131_0_1 {x0 : Value} (h0 : x0.oneCell' = true) : buildV Tryz.prog 131 [(0, x0), (1, .agg #[])] = some (.agg (#[x0])) := by
  have e : buildV Tryz.prog 131 [(0, x0), (1, .agg #[])] = (Instr.fill ((#[(0, 1), (1, 0)] : Array (Nat × Nat))[·]?) (#[Value.int IntKind.i64 0]) [(0, x0), (1, .agg #[])]).map .agg := by kernel_rfl
  rw [e]; simp [Instr.fill, cells_of_one h0, show (Value.agg #[]).cells = #[] from rfl]; rfl
@[simp] theorem op_build_131_0_1 {x0 : Value} (h0 : x0.oneCell' = true) : (nice Tryz.prog).op (.build 131 [(0, x0), (1, .agg #[])]) w K Kp = K (.agg (#[x0])) w := op_build (build_131_0_1 h0)
@[simp] theorem pur_build_131_0_1 {x0 : Value} (h0 : x0.oneCell' = true) : (nice Tryz.prog).pur (.build 131 [(0, x0), (1, .agg #[])]) K1 = K1 (.agg (#[x0])) := pur_build (build_131_0_1 h0)
theorem lit_132_1 {y0_0 : Value} : sliceLit Tryz.prog 132 1 [(0, .agg #[y0_0])] = some (131, #[y0_0]) := by
  have e : sliceLit Tryz.prog 132 1 [(0, .agg #[y0_0])] = (Instr.fill (fun i => some (i * 1, 1)) (#[Value.int IntKind.i64 0]) [(0, .agg #[y0_0])]).map fun cs => (131, cs) := by kernel_rfl
  rw [e]; simp [Instr.fill, Value.cells]
@[simp] theorem op_lit_132_1 {y0_0 : Value} : (nice Tryz.prog).op (.buildSlice 132 1 [(0, .agg #[y0_0])]) w K Kp = K (.slice (some ⟨w.heap.size, 0, none⟩) 1 1) (w.alloc (.cells #[y0_0] 131)) := op_lit (lit_132_1)
theorem build_134_0 {x0 : Value} (h0 : x0.oneCell' = true) : buildV Tryz.prog 134 [(0, x0)] = some (.agg (#[x0])) := by
  have e : buildV Tryz.prog 134 [(0, x0)] = (Instr.fill ((#[(0, 1)] : Array (Nat × Nat))[·]?) (#[Value.slice none 0 0]) [(0, x0)]).map .agg := by kernel_rfl
  rw [e]; simp [Instr.fill, cells_of_one h0]
@[simp] theorem op_build_134_0 {x0 : Value} (h0 : x0.oneCell' = true) : (nice Tryz.prog).op (.build 134 [(0, x0)]) w K Kp = K (.agg (#[x0])) w := op_build (build_134_0 h0)
@[simp] theorem pur_build_134_0 {x0 : Value} (h0 : x0.oneCell' = true) : (nice Tryz.prog).pur (.build 134 [(0, x0)]) K1 = K1 (.agg (#[x0])) := pur_build (build_134_0 h0)
@[simp] theorem op_mki_128 {v : Value} : (nice Tryz.prog).op (.mkIface 128 v) w K Kp = K (.iface 128 v) w := op_mkIface (by kernel_rfl) (by kernel_rfl)
@[simp] theorem pur_mki_128 {v : Value} : (nice Tryz.prog).pur (.mkIface 128 v) K1 = K1 (.iface 128 v) := pur_mkIface (by kernel_rfl) (by kernel_rfl)
@[simp] theorem call_45 {args : List Value} : (nice Tryz.prog).call (.fn 45) args w K Kp = Calls Tryz.prog 45 args.toArray w (ret K Kp) := call_fn (by kernel_rfl)
@[simp] theorem op_ld_121 {p : Addr} : (nice Tryz.prog).op (.load 121 (.pointer (some p))) w K Kp = ∃ cs e fz, w.heap[p.block]? = some (.cells cs e fz) ∧ p.spot = none ∧ p.off + 3 ≤ cs.size ∧ K (.agg (cs.extract p.off (p.off + 3))) w := op_ldn (by kernel_rfl)
@[simp] theorem ld_ld_121 {p : Addr} : (nice Tryz.prog).ld (.load 121 (.pointer (some p))) w K1 = ∃ cs e fz, w.heap[p.block]? = some (.cells cs e fz) ∧ p.spot = none ∧ p.off + 3 ≤ cs.size ∧ K1 (.agg (cs.extract p.off (p.off + 3))) := ld_ldn (by kernel_rfl)
@[simp] theorem same_ld_121 {p : Addr} {v : Value} : (nice Tryz.prog).same (.load 121 (.pointer (some p))) v w = ∃ cs e fz, w.heap[p.block]? = some (.cells cs e fz) ∧ p.spot = none ∧ p.off + 3 ≤ cs.size ∧ .agg (cs.extract p.off (p.off + 3)) = v := same_ldn (by kernel_rfl)
@[simp] theorem op_st_121 {p : Addr} {vs : Array Value} : (nice Tryz.prog).op (.store 121 (.pointer (some p)) (.agg vs)) w K Kp = (vs.size = 3 ∧ (∀ u ∈ vs.toList, u.oneCell' = true) ∧ ∃ cs e, w.heap[p.block]? = some (.cells cs e (0, 0)) ∧ p.spot = none ∧ p.off + 3 ≤ cs.size ∧ K undef (w.upd p.block (.cells (ow cs p.off vs.toList) e (0, 0)))) := op_stn (by kernel_rfl)
@[simp] theorem op_alloc_121 : (nice Tryz.prog).op (.alloc 121) w K Kp = K (.pointer (some ⟨w.heap.size, 0, none⟩)) (w.alloc (.cells #[Value.int IntKind.i64 0, Value.nilIface, Value.nilIface] 121)) := op_alloc (z := (.agg #[(Value.int IntKind.i64 0), (Value.nilIface), (Value.nilIface)])) (by kernel_rfl)
@[simp] theorem call_87 {args : List Value} : (nice Tryz.prog).call (.fn 87) args w K Kp = Calls Tryz.prog 87 args.toArray w (ret K Kp) := call_fn (by kernel_rfl)
@[simp] theorem op_fa_134_0 {p : Addr} : (nice Tryz.prog).op (.fieldAddr 134 (.pointer (some p)) 0) w K Kp = K (.pointer (some (p.add 0))) w := op_fa (k := .one) (by kernel_rfl)
@[simp] theorem pur_fa_134_0 {p : Addr} : (nice Tryz.prog).pur (.fieldAddr 134 (.pointer (some p)) 0) K1 = K1 (.pointer (some (p.add 0))) := pur_fa (k := .one) (by kernel_rfl)
@[simp] theorem op_ld_132 {p : Addr} : (nice Tryz.prog).op (.load 132 (.pointer (some p))) w K Kp = ∃ cs e fz, w.heap[p.block]? = some (.cells cs e fz) ∧ p.spot = none ∧ ∃ v, cs[p.off]? = some v ∧ K v w := op_ld (by kernel_rfl)
@[simp] theorem ld_ld_132 {p : Addr} : (nice Tryz.prog).ld (.load 132 (.pointer (some p))) w K1 = ∃ cs e fz, w.heap[p.block]? = some (.cells cs e fz) ∧ p.spot = none ∧ ∃ v, cs[p.off]? = some v ∧ K1 v := ld_ld (by kernel_rfl)
@[simp] theorem same_ld_132 {p : Addr} {v : Value} : (nice Tryz.prog).same (.load 132 (.pointer (some p))) v w = ∃ cs e fz, w.heap[p.block]? = some (.cells cs e fz) ∧ p.spot = none ∧ cs[p.off]? = some v := same_ld (by kernel_rfl)
@[simp] theorem op_st_132 {p : Addr} {v : Value} : (nice Tryz.prog).op (.store 132 (.pointer (some p)) v) w K Kp = ∃ cs e, w.heap[p.block]? = some (.cells cs e (0, 0)) ∧ p.spot = none ∧ p.off < cs.size ∧ v.oneCell' = true ∧ K undef (w.upd p.block (.cells (cs.setIfInBounds p.off v) e (0, 0))) := op_st (by kernel_rfl)
@[simp] theorem op_len_132 {a : Option Addr} {n c ty : Nat} : (nice Tryz.prog).op (.blt .len [132] ty [.slice a n c]) w K Kp = K (.int .i64 n) w := op_len_slice (by kernel_rfl)
@[simp] theorem pur_len_132 {a : Option Addr} {n c ty : Nat} : (nice Tryz.prog).pur (.blt .len [132] ty [.slice a n c]) K1 = K1 (.int .i64 n) := pur_len_slice (by kernel_rfl)
@[simp] theorem ld_len_132 {a : Option Addr} {n c ty : Nat} : (nice Tryz.prog).ld (.blt .len [132] ty [.slice a n c]) w K1 = K1 (.int .i64 n) := ld_len_slice (by kernel_rfl)
@[simp] theorem same_len_132 {a : Option Addr} {n c ty : Nat} {u : Value} : (nice Tryz.prog).same (.blt .len [132] ty [.slice a n c]) u w = (.int .i64 n = u) := same_len_slice (by kernel_rfl)
@[simp] theorem op_cutlo_132 {len cap b o : Nat} {k : IntKind} {x : Int} : (nice Tryz.prog).op (.slice 132 (.slice (some ⟨b, o, none⟩) len cap) (some (.int k x)) none none) w K Kp = ((0 ≤ x ∧ x ≤ (len : Int) ∧ (len : Int) ≤ (cap : Int)) ∧ K (.slice (some (if cap = x.toNat then ⟨b, o, none⟩ else ⟨b, o + x.toNat * 1, none⟩)) (len - x.toNat) (cap - x.toNat)) w) := op_cut_lo (e := 131) (by kernel_rfl)
@[simp] theorem op_cuthi_132 {len cap b o : Nat} {k : IntKind} {x : Int} : (nice Tryz.prog).op (.slice 132 (.slice (some ⟨b, o, none⟩) len cap) none (some (.int k x)) none) w K Kp = ((0 ≤ x ∧ x ≤ (cap : Int)) ∧ K (.slice (some ⟨b, o, none⟩) x.toNat cap) w) := op_cut_hi (s := 1) (e := 131) (by kernel_rfl)
@[simp] theorem pur_cutlo_132 {len cap b o : Nat} {k : IntKind} {x : Int} : (nice Tryz.prog).pur (.slice 132 (.slice (some ⟨b, o, none⟩) len cap) (some (.int k x)) none none) K1 = ((0 ≤ x ∧ x ≤ (len : Int) ∧ (len : Int) ≤ (cap : Int)) ∧ K1 (.slice (some (if cap = x.toNat then ⟨b, o, none⟩ else ⟨b, o + x.toNat * 1, none⟩)) (len - x.toNat) (cap - x.toNat))) := pur_cut_lo (e := 131) (by kernel_rfl)
@[simp] theorem pur_cuthi_132 {len cap b o : Nat} {k : IntKind} {x : Int} : (nice Tryz.prog).pur (.slice 132 (.slice (some ⟨b, o, none⟩) len cap) none (some (.int k x)) none) K1 = ((0 ≤ x ∧ x ≤ (cap : Int)) ∧ K1 (.slice (some ⟨b, o, none⟩) x.toNat cap)) := pur_cut_hi (s := 1) (e := 131) (by kernel_rfl)
theorem build_131_  : buildV Tryz.prog 131 [] = some (.agg (#[Value.int IntKind.i64 0])) := by
  have e : buildV Tryz.prog 131 [] = (Instr.fill ((#[(0, 1), (1, 0)] : Array (Nat × Nat))[·]?) (#[Value.int IntKind.i64 0]) []).map .agg := by kernel_rfl
  rw [e]; simp [Instr.fill]
@[simp] theorem op_build_131_  : (nice Tryz.prog).op (.build 131 []) w K Kp = K (.agg (#[Value.int IntKind.i64 0])) w := op_build (build_131_)
@[simp] theorem pur_build_131_  : (nice Tryz.prog).pur (.build 131 []) K1 = K1 (.agg (#[Value.int IntKind.i64 0])) := pur_build (build_131_)
@[simp] theorem op_ix_132 {p : Addr} {len cap : Nat} {k : IntKind} {j : Int} : (nice Tryz.prog).op (.indexAddr 132 (.slice (some p) len cap) (.int k j)) w K Kp = ((0 ≤ j ∧ j < (len : Int)) ∧ K (.pointer (some (p.add (j.toNat * 1)))) w) := op_ix_slice (e := 131) (by kernel_rfl)
@[simp] theorem pur_ix_132 {p : Addr} {len cap : Nat} {k : IntKind} {j : Int} : (nice Tryz.prog).pur (.indexAddr 132 (.slice (some p) len cap) (.int k j)) K1 = ((0 ≤ j ∧ j < (len : Int)) ∧ K1 (.pointer (some (p.add (j.toNat * 1))))) := pur_ix_slice (e := 131) (by kernel_rfl)
@[simp] theorem op_ld_131 {p : Addr} : (nice Tryz.prog).op (.load 131 (.pointer (some p))) w K Kp = ∃ cs e fz, w.heap[p.block]? = some (.cells cs e fz) ∧ p.spot = none ∧ p.off + 1 ≤ cs.size ∧ K (.agg (cs.extract p.off (p.off + 1))) w := op_ldn (by kernel_rfl)
@[simp] theorem ld_ld_131 {p : Addr} : (nice Tryz.prog).ld (.load 131 (.pointer (some p))) w K1 = ∃ cs e fz, w.heap[p.block]? = some (.cells cs e fz) ∧ p.spot = none ∧ p.off + 1 ≤ cs.size ∧ K1 (.agg (cs.extract p.off (p.off + 1))) := ld_ldn (by kernel_rfl)
@[simp] theorem same_ld_131 {p : Addr} {v : Value} : (nice Tryz.prog).same (.load 131 (.pointer (some p))) v w = ∃ cs e fz, w.heap[p.block]? = some (.cells cs e fz) ∧ p.spot = none ∧ p.off + 1 ≤ cs.size ∧ .agg (cs.extract p.off (p.off + 1)) = v := same_ldn (by kernel_rfl)
@[simp] theorem op_st_131 {p : Addr} {vs : Array Value} : (nice Tryz.prog).op (.store 131 (.pointer (some p)) (.agg vs)) w K Kp = (vs.size = 1 ∧ (∀ u ∈ vs.toList, u.oneCell' = true) ∧ ∃ cs e, w.heap[p.block]? = some (.cells cs e (0, 0)) ∧ p.spot = none ∧ p.off + 1 ≤ cs.size ∧ K undef (w.upd p.block (.cells (ow cs p.off vs.toList) e (0, 0)))) := op_stn (by kernel_rfl)
@[simp] theorem op_fa_131_0 {p : Addr} : (nice Tryz.prog).op (.fieldAddr 131 (.pointer (some p)) 0) w K Kp = K (.pointer (some (p.add 0))) w := op_fa (k := .one) (by kernel_rfl)
@[simp] theorem pur_fa_131_0 {p : Addr} : (nice Tryz.prog).pur (.fieldAddr 131 (.pointer (some p)) 0) K1 = K1 (.pointer (some (p.add 0))) := pur_fa (k := .one) (by kernel_rfl)
@[simp] theorem call_89 {args : List Value} : (nice Tryz.prog).call (.fn 89) args w K Kp = Calls Tryz.prog 89 args.toArray w (ret K Kp) := call_fn (by kernel_rfl)
@[simp] theorem op_mki_135 {v : Value} : (nice Tryz.prog).op (.mkIface 135 v) w K Kp = K (.iface 135 v) w := op_mkIface (by kernel_rfl) (by kernel_rfl)
@[simp] theorem pur_mki_135 {v : Value} : (nice Tryz.prog).pur (.mkIface 135 v) K1 = K1 (.iface 135 v) := pur_mkIface (by kernel_rfl) (by kernel_rfl)
@[simp] theorem op_alloc_131 : (nice Tryz.prog).op (.alloc 131) w K Kp = K (.pointer (some ⟨w.heap.size, 0, none⟩)) (w.alloc (.cells #[Value.int IntKind.i64 0] 131)) := op_alloc (z := (.agg #[(Value.int IntKind.i64 0)])) (by kernel_rfl)
@[simp] theorem op_alloc_134 : (nice Tryz.prog).op (.alloc 134) w K Kp = K (.pointer (some ⟨w.heap.size, 0, none⟩)) (w.alloc (.cells #[Value.slice none 0 0] 134)) := op_alloc (z := (.agg #[(Value.slice none 0 0)])) (by kernel_rfl)
theorem build_137_0_1_2 {x0 : Value} {x1 : Value} (h0 : x0.oneCell' = true) (h1 : x1.oneCell' = true) : buildV Tryz.prog 137 [(0, x0), (1, x1), (2, .agg #[])] = some (.agg (#[x0, x1])) := by
  have e : buildV Tryz.prog 137 [(0, x0), (1, x1), (2, .agg #[])] = (Instr.fill ((#[(0, 1), (1, 1), (2, 0)] : Array (Nat × Nat))[·]?) (#[Value.int IntKind.u32 0, Value.int IntKind.i64 0]) [(0, x0), (1, x1), (2, .agg #[])]).map .agg := by kernel_rfl
  rw [e]; simp [Instr.fill, cells_of_one h0, cells_of_one h1, show (Value.agg #[]).cells = #[] from rfl]; rfl
@[simp] theorem op_build_137_0_1_2 {x0 : Value} {x1 : Value} (h0 : x0.oneCell' = true) (h1 : x1.oneCell' = true) : (nice Tryz.prog).op (.build 137 [(0, x0), (1, x1), (2, .agg #[])]) w K Kp = K (.agg (#[x0, x1])) w := op_build (build_137_0_1_2 h0 h1)
@[simp] theorem pur_build_137_0_1_2 {x0 : Value} {x1 : Value} (h0 : x0.oneCell' = true) (h1 : x1.oneCell' = true) : (nice Tryz.prog).pur (.build 137 [(0, x0), (1, x1), (2, .agg #[])]) K1 = K1 (.agg (#[x0, x1])) := pur_build (build_137_0_1_2 h0 h1)
@[simp] theorem op_fa_137_1 {p : Addr} : (nice Tryz.prog).op (.fieldAddr 137 (.pointer (some p)) 1) w K Kp = K (.pointer (some (p.add 1))) w := op_fa (k := .one) (by kernel_rfl)
@[simp] theorem pur_fa_137_1 {p : Addr} : (nice Tryz.prog).pur (.fieldAddr 137 (.pointer (some p)) 1) K1 = K1 (.pointer (some (p.add 1))) := pur_fa (k := .one) (by kernel_rfl)
@[simp] theorem op_fa_137_0 {p : Addr} : (nice Tryz.prog).op (.fieldAddr 137 (.pointer (some p)) 0) w K Kp = K (.pointer (some (p.add 0))) w := op_fa (k := .one) (by kernel_rfl)
@[simp] theorem pur_fa_137_0 {p : Addr} : (nice Tryz.prog).pur (.fieldAddr 137 (.pointer (some p)) 0) K1 = K1 (.pointer (some (p.add 0))) := pur_fa (k := .one) (by kernel_rfl)
@[simp] theorem call_94 {args : List Value} : (nice Tryz.prog).call (.fn 94) args w K Kp = Calls Tryz.prog 94 args.toArray w (ret K Kp) := call_fn (by kernel_rfl)
theorem lit_132_2 {y0_0 y1_0 : Value} : sliceLit Tryz.prog 132 2 [(0, .agg #[y0_0]), (1, .agg #[y1_0])] = some (131, #[y0_0, y1_0]) := by
  have e : sliceLit Tryz.prog 132 2 [(0, .agg #[y0_0]), (1, .agg #[y1_0])] = (Instr.fill (fun i => some (i * 1, 1)) (#[Value.int IntKind.i64 0, Value.int IntKind.i64 0]) [(0, .agg #[y0_0]), (1, .agg #[y1_0])]).map fun cs => (131, cs) := by kernel_rfl
  rw [e]; simp [Instr.fill, Value.cells]
@[simp] theorem op_lit_132_2 {y0_0 y1_0 : Value} : (nice Tryz.prog).op (.buildSlice 132 2 [(0, .agg #[y0_0]), (1, .agg #[y1_0])]) w K Kp = K (.slice (some ⟨w.heap.size, 0, none⟩) 2 2) (w.alloc (.cells #[y0_0, y1_0] 131)) := op_lit (lit_132_2)
theorem build_140_0_1 {x0 : Value} {x1 : Value} (h0 : x0.oneCell' = true) (h1 : x1.oneCell' = true) : buildV Tryz.prog 140 [(0, x0), (1, x1)] = some (.agg (#[x0, x1])) := by
  have e : buildV Tryz.prog 140 [(0, x0), (1, x1)] = (Instr.fill ((#[(0, 1), (1, 1)] : Array (Nat × Nat))[·]?) (#[Value.int IntKind.u32 0, Value.slice none 0 0]) [(0, x0), (1, x1)]).map .agg := by kernel_rfl
  rw [e]; simp [Instr.fill, cells_of_one h0, cells_of_one h1]
@[simp] theorem op_build_140_0_1 {x0 : Value} {x1 : Value} (h0 : x0.oneCell' = true) (h1 : x1.oneCell' = true) : (nice Tryz.prog).op (.build 140 [(0, x0), (1, x1)]) w K Kp = K (.agg (#[x0, x1])) w := op_build (build_140_0_1 h0 h1)
@[simp] theorem pur_build_140_0_1 {x0 : Value} {x1 : Value} (h0 : x0.oneCell' = true) (h1 : x1.oneCell' = true) : (nice Tryz.prog).pur (.build 140 [(0, x0), (1, x1)]) K1 = K1 (.agg (#[x0, x1])) := pur_build (build_140_0_1 h0 h1)
@[simp] theorem op_mki_138 {v : Value} : (nice Tryz.prog).op (.mkIface 138 v) w K Kp = K (.iface 138 v) w := op_mkIface (by kernel_rfl) (by kernel_rfl)
@[simp] theorem pur_mki_138 {v : Value} : (nice Tryz.prog).pur (.mkIface 138 v) K1 = K1 (.iface 138 v) := pur_mkIface (by kernel_rfl) (by kernel_rfl)
theorem build_169_0 {x0 : Value} (h0 : x0.oneCell' = true) : buildV Tryz.prog 169 [(0, x0)] = some (.agg (#[x0, Value.slice none 0 0])) := by
  have e : buildV Tryz.prog 169 [(0, x0)] = (Instr.fill ((#[(0, 1), (1, 1)] : Array (Nat × Nat))[·]?) (#[Value.int IntKind.u32 0, Value.slice none 0 0]) [(0, x0)]).map .agg := by kernel_rfl
  rw [e]; simp [Instr.fill, cells_of_one h0]
@[simp] theorem op_build_169_0 {x0 : Value} (h0 : x0.oneCell' = true) : (nice Tryz.prog).op (.build 169 [(0, x0)]) w K Kp = K (.agg (#[x0, Value.slice none 0 0])) w := op_build (build_169_0 h0)
@[simp] theorem pur_build_169_0 {x0 : Value} (h0 : x0.oneCell' = true) : (nice Tryz.prog).pur (.build 169 [(0, x0)]) K1 = K1 (.agg (#[x0, Value.slice none 0 0])) := pur_build (build_169_0 h0)
theorem lit_167_1 {x0 : Value} (h0 : x0.oneCell' = true) : sliceLit Tryz.prog 167 1 [(0, x0)] = some (119, #[x0]) := by
  have e : sliceLit Tryz.prog 167 1 [(0, x0)] = (Instr.fill (fun i => some (i * 1, 1)) (#[Value.nilIface]) [(0, x0)]).map fun cs => (119, cs) := by kernel_rfl
  rw [e]; simp [Instr.fill, cells_of_one h0]
@[simp] theorem op_lit_167_1 {x0 : Value} (h0 : x0.oneCell' = true) : (nice Tryz.prog).op (.buildSlice 167 1 [(0, x0)]) w K Kp = K (.slice (some ⟨w.heap.size, 0, none⟩) 1 1) (w.alloc (.cells #[x0] 119)) := op_lit (lit_167_1 h0)
@[simp] theorem op_fa_169_1 {p : Addr} : (nice Tryz.prog).op (.fieldAddr 169 (.pointer (some p)) 1) w K Kp = K (.pointer (some (p.add 1))) w := op_fa (k := .one) (by kernel_rfl)
@[simp] theorem pur_fa_169_1 {p : Addr} : (nice Tryz.prog).pur (.fieldAddr 169 (.pointer (some p)) 1) K1 = K1 (.pointer (some (p.add 1))) := pur_fa (k := .one) (by kernel_rfl)
@[simp] theorem op_ld_167 {p : Addr} : (nice Tryz.prog).op (.load 167 (.pointer (some p))) w K Kp = ∃ cs e fz, w.heap[p.block]? = some (.cells cs e fz) ∧ p.spot = none ∧ ∃ v, cs[p.off]? = some v ∧ K v w := op_ld (by kernel_rfl)
@[simp] theorem ld_ld_167 {p : Addr} : (nice Tryz.prog).ld (.load 167 (.pointer (some p))) w K1 = ∃ cs e fz, w.heap[p.block]? = some (.cells cs e fz) ∧ p.spot = none ∧ ∃ v, cs[p.off]? = some v ∧ K1 v := ld_ld (by kernel_rfl)
@[simp] theorem same_ld_167 {p : Addr} {v : Value} : (nice Tryz.prog).same (.load 167 (.pointer (some p))) v w = ∃ cs e fz, w.heap[p.block]? = some (.cells cs e fz) ∧ p.spot = none ∧ cs[p.off]? = some v := same_ld (by kernel_rfl)
@[simp] theorem op_st_167 {p : Addr} {v : Value} : (nice Tryz.prog).op (.store 167 (.pointer (some p)) v) w K Kp = ∃ cs e, w.heap[p.block]? = some (.cells cs e (0, 0)) ∧ p.spot = none ∧ p.off < cs.size ∧ v.oneCell' = true ∧ K undef (w.upd p.block (.cells (cs.setIfInBounds p.off v) e (0, 0))) := op_st (by kernel_rfl)
theorem lit_167_2 {x0 x1 : Value} (h0 : x0.oneCell' = true) (h1 : x1.oneCell' = true) : sliceLit Tryz.prog 167 2 [(0, x0), (1, x1)] = some (119, #[x0, x1]) := by
  have e : sliceLit Tryz.prog 167 2 [(0, x0), (1, x1)] = (Instr.fill (fun i => some (i * 1, 1)) (#[Value.nilIface, Value.nilIface]) [(0, x0), (1, x1)]).map fun cs => (119, cs) := by kernel_rfl
  rw [e]; simp [Instr.fill, cells_of_one h0, cells_of_one h1]
@[simp] theorem op_lit_167_2 {x0 x1 : Value} (h0 : x0.oneCell' = true) (h1 : x1.oneCell' = true) : (nice Tryz.prog).op (.buildSlice 167 2 [(0, x0), (1, x1)]) w K Kp = K (.slice (some ⟨w.heap.size, 0, none⟩) 2 2) (w.alloc (.cells #[x0, x1] 119)) := op_lit (lit_167_2 h0 h1)
@[simp] theorem op_mki_166 {v : Value} : (nice Tryz.prog).op (.mkIface 166 v) w K Kp = K (.iface 166 v) w := op_mkIface (by kernel_rfl) (by kernel_rfl)
@[simp] theorem pur_mki_166 {v : Value} : (nice Tryz.prog).pur (.mkIface 166 v) K1 = K1 (.iface 166 v) := pur_mkIface (by kernel_rfl) (by kernel_rfl)
@[simp] theorem call_99 {args : List Value} : (nice Tryz.prog).call (.fn 99) args w K Kp = Calls Tryz.prog 99 args.toArray w (ret K Kp) := call_fn (by kernel_rfl)
@[simp] theorem op_fa_140_1 {p : Addr} : (nice Tryz.prog).op (.fieldAddr 140 (.pointer (some p)) 1) w K Kp = K (.pointer (some (p.add 1))) w := op_fa (k := .one) (by kernel_rfl)
@[simp] theorem pur_fa_140_1 {p : Addr} : (nice Tryz.prog).pur (.fieldAddr 140 (.pointer (some p)) 1) K1 = K1 (.pointer (some (p.add 1))) := pur_fa (k := .one) (by kernel_rfl)
@[simp] theorem op_fa_140_0 {p : Addr} : (nice Tryz.prog).op (.fieldAddr 140 (.pointer (some p)) 0) w K Kp = K (.pointer (some (p.add 0))) w := op_fa (k := .one) (by kernel_rfl)
@[simp] theorem pur_fa_140_0 {p : Addr} : (nice Tryz.prog).pur (.fieldAddr 140 (.pointer (some p)) 0) K1 = K1 (.pointer (some (p.add 0))) := pur_fa (k := .one) (by kernel_rfl)
theorem build_140_0 {x0 : Value} (h0 : x0.oneCell' = true) : buildV Tryz.prog 140 [(0, x0)] = some (.agg (#[x0, Value.slice none 0 0])) := by
  have e : buildV Tryz.prog 140 [(0, x0)] = (Instr.fill ((#[(0, 1), (1, 1)] : Array (Nat × Nat))[·]?) (#[Value.int IntKind.u32 0, Value.slice none 0 0]) [(0, x0)]).map .agg := by kernel_rfl
  rw [e]; simp [Instr.fill, cells_of_one h0]
@[simp] theorem op_build_140_0 {x0 : Value} (h0 : x0.oneCell' = true) : (nice Tryz.prog).op (.build 140 [(0, x0)]) w K Kp = K (.agg (#[x0, Value.slice none 0 0])) w := op_build (build_140_0 h0)
@[simp] theorem pur_build_140_0 {x0 : Value} (h0 : x0.oneCell' = true) : (nice Tryz.prog).pur (.build 140 [(0, x0)]) K1 = K1 (.agg (#[x0, Value.slice none 0 0])) := pur_build (build_140_0 h0)
@[simp] theorem op_fa_169_0 {p : Addr} : (nice Tryz.prog).op (.fieldAddr 169 (.pointer (some p)) 0) w K Kp = K (.pointer (some (p.add 0))) w := op_fa (k := .one) (by kernel_rfl)
@[simp] theorem pur_fa_169_0 {p : Addr} : (nice Tryz.prog).pur (.fieldAddr 169 (.pointer (some p)) 0) K1 = K1 (.pointer (some (p.add 0))) := pur_fa (k := .one) (by kernel_rfl)
@[simp] theorem op_ix_167 {p : Addr} {len cap : Nat} {k : IntKind} {j : Int} : (nice Tryz.prog).op (.indexAddr 167 (.slice (some p) len cap) (.int k j)) w K Kp = ((0 ≤ j ∧ j < (len : Int)) ∧ K (.pointer (some (p.add (j.toNat * 1)))) w) := op_ix_slice (e := 119) (by kernel_rfl)
@[simp] theorem pur_ix_167 {p : Addr} {len cap : Nat} {k : IntKind} {j : Int} : (nice Tryz.prog).pur (.indexAddr 167 (.slice (some p) len cap) (.int k j)) K1 = ((0 ≤ j ∧ j < (len : Int)) ∧ K1 (.pointer (some (p.add (j.toNat * 1))))) := pur_ix_slice (e := 119) (by kernel_rfl)
@[simp] theorem op_len_167 {a : Option Addr} {n c ty : Nat} : (nice Tryz.prog).op (.blt .len [167] ty [.slice a n c]) w K Kp = K (.int .i64 n) w := op_len_slice (by kernel_rfl)
@[simp] theorem pur_len_167 {a : Option Addr} {n c ty : Nat} : (nice Tryz.prog).pur (.blt .len [167] ty [.slice a n c]) K1 = K1 (.int .i64 n) := pur_len_slice (by kernel_rfl)
@[simp] theorem ld_len_167 {a : Option Addr} {n c ty : Nat} : (nice Tryz.prog).ld (.blt .len [167] ty [.slice a n c]) w K1 = K1 (.int .i64 n) := ld_len_slice (by kernel_rfl)
@[simp] theorem same_len_167 {a : Option Addr} {n c ty : Nat} {u : Value} : (nice Tryz.prog).same (.blt .len [167] ty [.slice a n c]) u w = (.int .i64 n = u) := same_len_slice (by kernel_rfl)
@[simp] theorem op_cutlo_167 {len cap b o : Nat} {k : IntKind} {x : Int} : (nice Tryz.prog).op (.slice 167 (.slice (some ⟨b, o, none⟩) len cap) (some (.int k x)) none none) w K Kp = ((0 ≤ x ∧ x ≤ (len : Int) ∧ (len : Int) ≤ (cap : Int)) ∧ K (.slice (some (if cap = x.toNat then ⟨b, o, none⟩ else ⟨b, o + x.toNat * 1, none⟩)) (len - x.toNat) (cap - x.toNat)) w) := op_cut_lo (e := 119) (by kernel_rfl)
@[simp] theorem op_cuthi_167 {len cap b o : Nat} {k : IntKind} {x : Int} : (nice Tryz.prog).op (.slice 167 (.slice (some ⟨b, o, none⟩) len cap) none (some (.int k x)) none) w K Kp = ((0 ≤ x ∧ x ≤ (cap : Int)) ∧ K (.slice (some ⟨b, o, none⟩) x.toNat cap) w) := op_cut_hi (s := 1) (e := 119) (by kernel_rfl)
@[simp] theorem pur_cutlo_167 {len cap b o : Nat} {k : IntKind} {x : Int} : (nice Tryz.prog).pur (.slice 167 (.slice (some ⟨b, o, none⟩) len cap) (some (.int k x)) none none) K1 = ((0 ≤ x ∧ x ≤ (len : Int) ∧ (len : Int) ≤ (cap : Int)) ∧ K1 (.slice (some (if cap = x.toNat then ⟨b, o, none⟩ else ⟨b, o + x.toNat * 1, none⟩)) (len - x.toNat) (cap - x.toNat))) := pur_cut_lo (e := 119) (by kernel_rfl)
@[simp] theorem pur_cuthi_167 {len cap b o : Nat} {k : IntKind} {x : Int} : (nice Tryz.prog).pur (.slice 167 (.slice (some ⟨b, o, none⟩) len cap) none (some (.int k x)) none) K1 = ((0 ≤ x ∧ x ≤ (cap : Int)) ∧ K1 (.slice (some ⟨b, o, none⟩) x.toNat cap)) := pur_cut_hi (s := 1) (e := 119) (by kernel_rfl)
theorem build_169_0_1 {x0 : Value} {x1 : Value} (h0 : x0.oneCell' = true) (h1 : x1.oneCell' = true) : buildV Tryz.prog 169 [(0, x0), (1, x1)] = some (.agg (#[x0, x1])) := by
  have e : buildV Tryz.prog 169 [(0, x0), (1, x1)] = (Instr.fill ((#[(0, 1), (1, 1)] : Array (Nat × Nat))[·]?) (#[Value.int IntKind.u32 0, Value.slice none 0 0]) [(0, x0), (1, x1)]).map .agg := by kernel_rfl
  rw [e]; simp [Instr.fill, cells_of_one h0, cells_of_one h1]
@[simp] theorem op_build_169_0_1 {x0 : Value} {x1 : Value} (h0 : x0.oneCell' = true) (h1 : x1.oneCell' = true) : (nice Tryz.prog).op (.build 169 [(0, x0), (1, x1)]) w K Kp = K (.agg (#[x0, x1])) w := op_build (build_169_0_1 h0 h1)
@[simp] theorem pur_build_169_0_1 {x0 : Value} {x1 : Value} (h0 : x0.oneCell' = true) (h1 : x1.oneCell' = true) : (nice Tryz.prog).pur (.build 169 [(0, x0), (1, x1)]) K1 = K1 (.agg (#[x0, x1])) := pur_build (build_169_0_1 h0 h1)
def zero_173 : Array Value := #[Value.int IntKind.u64 0, Value.nilIface, Value.nilIface, Value.nilIface, Value.nilIface, Value.nilIface, Value.nilIface, Value.nilIface, Value.nilIface, Value.nilIface, Value.nilIface, Value.nilIface, Value.nilIface, Value.nilIface, Value.nilIface, Value.nilIface, Value.nilIface, Value.nilIface, Value.nilIface, Value.nilIface, Value.nilIface, Value.nilIface, Value.nilIface, Value.nilIface, Value.nilIface, Value.nilIface, Value.nilIface, Value.nilIface, Value.nilIface, Value.nilIface, Value.nilIface, Value.nilIface, Value.nilIface]
@[simp] theorem op_alloc_173 : (nice Tryz.prog).op (.alloc 173) w K Kp = K (.pointer (some ⟨w.heap.size, 0, none⟩)) (w.alloc (.cells zero_173 173)) := op_alloc (z := .agg zero_173) (by kernel_rfl)
@[simp] theorem op_fa_173_0 {p : Addr} : (nice Tryz.prog).op (.fieldAddr 173 (.pointer (some p)) 0) w K Kp = K (.pointer (some (p.add 0))) w := op_fa (k := .one) (by kernel_rfl)
@[simp] theorem pur_fa_173_0 {p : Addr} : (nice Tryz.prog).pur (.fieldAddr 173 (.pointer (some p)) 0) K1 = K1 (.pointer (some (p.add 0))) := pur_fa (k := .one) (by kernel_rfl)
@[simp] theorem op_fa_173_1 {p : Addr} : (nice Tryz.prog).op (.fieldAddr 173 (.pointer (some p)) 1) w K Kp = K (.pointer (some (p.add 1))) w := op_fa (k := (.agg 32)) (by kernel_rfl)
@[simp] theorem pur_fa_173_1 {p : Addr} : (nice Tryz.prog).pur (.fieldAddr 173 (.pointer (some p)) 1) K1 = K1 (.pointer (some (p.add 1))) := pur_fa (k := (.agg 32)) (by kernel_rfl)
@[simp] theorem op_ix_171 {p : Addr} {k : IntKind} {j : Int} : (nice Tryz.prog).op (.indexAddr 171 (.pointer (some p)) (.int k j)) w K Kp = ((0 ≤ j ∧ j < 32) ∧ K (.pointer (some (p.add (j.toNat * 1)))) w) := op_ix_arr (by kernel_rfl)
@[simp] theorem pur_ix_171 {p : Addr} {k : IntKind} {j : Int} : (nice Tryz.prog).pur (.indexAddr 171 (.pointer (some p)) (.int k j)) K1 = ((0 ≤ j ∧ j < 32) ∧ K1 (.pointer (some (p.add (j.toNat * 1))))) := pur_ix_arr (by kernel_rfl)
@[simp] theorem op_mki_170 {v : Value} : (nice Tryz.prog).op (.mkIface 170 v) w K Kp = K (.iface 170 v) w := op_mkIface (by kernel_rfl) (by kernel_rfl)
@[simp] theorem pur_mki_170 {v : Value} : (nice Tryz.prog).pur (.mkIface 170 v) K1 = K1 (.iface 170 v) := pur_mkIface (by kernel_rfl) (by kernel_rfl)
@[simp] theorem op_ld_173 {p : Addr} : (nice Tryz.prog).op (.load 173 (.pointer (some p))) w K Kp = ∃ cs e fz, w.heap[p.block]? = some (.cells cs e fz) ∧ p.spot = none ∧ p.off + 33 ≤ cs.size ∧ K (.agg (cs.extract p.off (p.off + 33))) w := op_ldn (by kernel_rfl)
@[simp] theorem ld_ld_173 {p : Addr} : (nice Tryz.prog).ld (.load 173 (.pointer (some p))) w K1 = ∃ cs e fz, w.heap[p.block]? = some (.cells cs e fz) ∧ p.spot = none ∧ p.off + 33 ≤ cs.size ∧ K1 (.agg (cs.extract p.off (p.off + 33))) := ld_ldn (by kernel_rfl)
@[simp] theorem same_ld_173 {p : Addr} {v : Value} : (nice Tryz.prog).same (.load 173 (.pointer (some p))) v w = ∃ cs e fz, w.heap[p.block]? = some (.cells cs e fz) ∧ p.spot = none ∧ p.off + 33 ≤ cs.size ∧ .agg (cs.extract p.off (p.off + 33)) = v := same_ldn (by kernel_rfl)
@[simp] theorem op_st_173 {p : Addr} {vs : Array Value} : (nice Tryz.prog).op (.store 173 (.pointer (some p)) (.agg vs)) w K Kp = (vs.size = 33 ∧ (∀ u ∈ vs.toList, u.oneCell' = true) ∧ ∃ cs e, w.heap[p.block]? = some (.cells cs e (0, 0)) ∧ p.spot = none ∧ p.off + 33 ≤ cs.size ∧ K undef (w.upd p.block (.cells (ow cs p.off vs.toList) e (0, 0)))) := op_stn (by kernel_rfl)
theorem build_169_1 {x1 : Value} (h1 : x1.oneCell' = true) : buildV Tryz.prog 169 [(1, x1)] = some (.agg (#[Value.int IntKind.u32 0, x1])) := by
  have e : buildV Tryz.prog 169 [(1, x1)] = (Instr.fill ((#[(0, 1), (1, 1)] : Array (Nat × Nat))[·]?) (#[Value.int IntKind.u32 0, Value.slice none 0 0]) [(1, x1)]).map .agg := by kernel_rfl
  rw [e]; simp [Instr.fill, cells_of_one h1]
@[simp] theorem op_build_169_1 {x1 : Value} (h1 : x1.oneCell' = true) : (nice Tryz.prog).op (.build 169 [(1, x1)]) w K Kp = K (.agg (#[Value.int IntKind.u32 0, x1])) w := op_build (build_169_1 h1)
@[simp] theorem pur_build_169_1 {x1 : Value} (h1 : x1.oneCell' = true) : (nice Tryz.prog).pur (.build 169 [(1, x1)]) K1 = K1 (.agg (#[Value.int IntKind.u32 0, x1])) := pur_build (build_169_1 h1)
@[simp] theorem op_ld_171 {p : Addr} : (nice Tryz.prog).op (.load 171 (.pointer (some p))) w K Kp = ∃ cs e fz, w.heap[p.block]? = some (.cells cs e fz) ∧ p.spot = none ∧ p.off + 32 ≤ cs.size ∧ K (.agg (cs.extract p.off (p.off + 32))) w := op_ldn (by kernel_rfl)
@[simp] theorem ld_ld_171 {p : Addr} : (nice Tryz.prog).ld (.load 171 (.pointer (some p))) w K1 = ∃ cs e fz, w.heap[p.block]? = some (.cells cs e fz) ∧ p.spot = none ∧ p.off + 32 ≤ cs.size ∧ K1 (.agg (cs.extract p.off (p.off + 32))) := ld_ldn (by kernel_rfl)
@[simp] theorem same_ld_171 {p : Addr} {v : Value} : (nice Tryz.prog).same (.load 171 (.pointer (some p))) v w = ∃ cs e fz, w.heap[p.block]? = some (.cells cs e fz) ∧ p.spot = none ∧ p.off + 32 ≤ cs.size ∧ .agg (cs.extract p.off (p.off + 32)) = v := same_ldn (by kernel_rfl)
@[simp] theorem op_neq_119_y {xc yc : Bool} {u : TypeId} {v : Value} : (nice Tryz.prog).op (.bin BinOp.neq 119 xc yc (.iface u v) .nilIface) w K Kp = K (.bool true) w := op_eq_iface (by kernel_rfl) rfl
@[simp] theorem op_neq_119_n {xc : Bool} : (nice Tryz.prog).op (.bin BinOp.neq 119 xc true .nilIface .nilIface) w K Kp = K (.bool false) w := op_eq_niface (by kernel_rfl) rfl
@[simp] theorem pur_neq_119_y {xc yc : Bool} {u : TypeId} {v : Value} : (nice Tryz.prog).pur (.bin BinOp.neq 119 xc yc (.iface u v) .nilIface) K1 = K1 (.bool true) := pur_eq_iface (by kernel_rfl) rfl
@[simp] theorem pur_neq_119_n {xc : Bool} : (nice Tryz.prog).pur (.bin BinOp.neq 119 xc true .nilIface .nilIface) K1 = K1 (.bool false) := pur_eq_niface (by kernel_rfl) rfl
@[simp] theorem call_119 {args : List Value} : (nice Tryz.prog).call (.fn 119) args w K Kp = Calls Tryz.prog 119 args.toArray w (ret K Kp) := call_fn (by kernel_rfl)
def zero_126 : Array Value := #[Value.pointer none, Value.nilIface, Value.int IntKind.i64 0, Value.nilIface, Value.int IntKind.i64 0, Value.nilIface, Value.int IntKind.i64 0, Value.nilIface, Value.int IntKind.i64 0, Value.nilIface, Value.int IntKind.i64 0, Value.nilIface, Value.int IntKind.i64 0, Value.nilIface, Value.int IntKind.i64 0, Value.nilIface, Value.int IntKind.i64 0, Value.nilIface, Value.int IntKind.i64 0, Value.nilIface, Value.int IntKind.i64 0, Value.nilIface, Value.int IntKind.i64 0, Value.nilIface, Value.int IntKind.i64 0, Value.nilIface, Value.int IntKind.i64 0, Value.nilIface, Value.int IntKind.i64 0, Value.nilIface, Value.int IntKind.i64 0, Value.nilIface, Value.int IntKind.i64 0, Value.nilIface, Value.int IntKind.i64 0, Value.nilIface, Value.int IntKind.i64 0, Value.nilIface, Value.int IntKind.i64 0, Value.nilIface, Value.int IntKind.i64 0, Value.nilIface, Value.int IntKind.i64 0, Value.nilIface, Value.int IntKind.i64 0, Value.nilIface, Value.int IntKind.i64 0, Value.nilIface, Value.int IntKind.i64 0, Value.nilIface, Value.int IntKind.i64 0, Value.nilIface, Value.int IntKind.i64 0, Value.nilIface, Value.int IntKind.i64 0, Value.nilIface, Value.int IntKind.i64 0, Value.nilIface, Value.int IntKind.i64 0, Value.nilIface, Value.int IntKind.i64 0, Value.nilIface, Value.int IntKind.i64 0, Value.nilIface, Value.int IntKind.i64 0, Value.int IntKind.i64 0]
theorem build_126_0 {x0 : Value} (h0 : x0.oneCell' = true) : buildV Tryz.prog 126 [(0, x0)] = some (.agg ((zero_126).setIfInBounds 0 x0)) := by
  have e : buildV Tryz.prog 126 [(0, x0)] = (Instr.fill ((#[(0, 1), (1, 64), (65, 1)] : Array (Nat × Nat))[·]?) (zero_126) [(0, x0)]).map .agg := by kernel_rfl
  rw [e]; simp [Instr.fill, cells_of_one h0, zero_126]
@[simp] theorem op_build_126_0 {x0 : Value} (h0 : x0.oneCell' = true) : (nice Tryz.prog).op (.build 126 [(0, x0)]) w K Kp = K (.agg ((zero_126).setIfInBounds 0 x0)) w := op_build (build_126_0 h0)
@[simp] theorem pur_build_126_0 {x0 : Value} (h0 : x0.oneCell' = true) : (nice Tryz.prog).pur (.build 126 [(0, x0)]) K1 = K1 (.agg ((zero_126).setIfInBounds 0 x0)) := pur_build (build_126_0 h0)
@[simp] theorem call_41 {args : List Value} : (nice Tryz.prog).call (.fn 41) args w K Kp = Calls Tryz.prog 41 args.toArray w (ret K Kp) := call_fn (by kernel_rfl)
@[simp] theorem op_fa_126_2 {p : Addr} : (nice Tryz.prog).op (.fieldAddr 126 (.pointer (some p)) 2) w K Kp = K (.pointer (some (p.add 65))) w := op_fa (k := .one) (by kernel_rfl)
@[simp] theorem pur_fa_126_2 {p : Addr} : (nice Tryz.prog).pur (.fieldAddr 126 (.pointer (some p)) 2) K1 = K1 (.pointer (some (p.add 65))) := pur_fa (k := .one) (by kernel_rfl)
@[simp] theorem op_fa_126_0 {p : Addr} : (nice Tryz.prog).op (.fieldAddr 126 (.pointer (some p)) 0) w K Kp = K (.pointer (some (p.add 0))) w := op_fa (k := .one) (by kernel_rfl)
@[simp] theorem pur_fa_126_0 {p : Addr} : (nice Tryz.prog).pur (.fieldAddr 126 (.pointer (some p)) 0) K1 = K1 (.pointer (some (p.add 0))) := pur_fa (k := .one) (by kernel_rfl)
theorem build_123_0 {x0 : Value} (h0 : x0.oneCell' = true) : buildV Tryz.prog 123 [(0, x0)] = some (.agg (#[x0, Value.int IntKind.i64 0])) := by
  have e : buildV Tryz.prog 123 [(0, x0)] = (Instr.fill ((#[(0, 1), (1, 1)] : Array (Nat × Nat))[·]?) (#[Value.nilIface, Value.int IntKind.i64 0]) [(0, x0)]).map .agg := by kernel_rfl
  rw [e]; simp [Instr.fill, cells_of_one h0]
@[simp] theorem op_build_123_0 {x0 : Value} (h0 : x0.oneCell' = true) : (nice Tryz.prog).op (.build 123 [(0, x0)]) w K Kp = K (.agg (#[x0, Value.int IntKind.i64 0])) w := op_build (build_123_0 h0)
@[simp] theorem pur_build_123_0 {x0 : Value} (h0 : x0.oneCell' = true) : (nice Tryz.prog).pur (.build 123 [(0, x0)]) K1 = K1 (.agg (#[x0, Value.int IntKind.i64 0])) := pur_build (build_123_0 h0)
@[simp] theorem op_fa_126_1 {p : Addr} : (nice Tryz.prog).op (.fieldAddr 126 (.pointer (some p)) 1) w K Kp = K (.pointer (some (p.add 1))) w := op_fa (k := (.agg 64)) (by kernel_rfl)
@[simp] theorem pur_fa_126_1 {p : Addr} : (nice Tryz.prog).pur (.fieldAddr 126 (.pointer (some p)) 1) K1 = K1 (.pointer (some (p.add 1))) := pur_fa (k := (.agg 64)) (by kernel_rfl)
@[simp] theorem op_ix_124 {p : Addr} {k : IntKind} {j : Int} : (nice Tryz.prog).op (.indexAddr 124 (.pointer (some p)) (.int k j)) w K Kp = ((0 ≤ j ∧ j < 32) ∧ K (.pointer (some (p.add (j.toNat * 2)))) w) := op_ix_arr (by kernel_rfl)
@[simp] theorem pur_ix_124 {p : Addr} {k : IntKind} {j : Int} : (nice Tryz.prog).pur (.indexAddr 124 (.pointer (some p)) (.int k j)) K1 = ((0 ≤ j ∧ j < 32) ∧ K1 (.pointer (some (p.add (j.toNat * 2))))) := pur_ix_arr (by kernel_rfl)
@[simp] theorem op_st_123 {p : Addr} {vs : Array Value} : (nice Tryz.prog).op (.store 123 (.pointer (some p)) (.agg vs)) w K Kp = (vs.size = 2 ∧ (∀ u ∈ vs.toList, u.oneCell' = true) ∧ ∃ cs e, w.heap[p.block]? = some (.cells cs e (0, 0)) ∧ p.spot = none ∧ p.off + 2 ≤ cs.size ∧ K undef (w.upd p.block (.cells (ow cs p.off vs.toList) e (0, 0)))) := op_stn (by kernel_rfl)
@[simp] theorem call_56 {args : List Value} : (nice Tryz.prog).call (.fn 56) args w K Kp = Calls Tryz.prog 56 args.toArray w (ret K Kp) := call_fn (by kernel_rfl)
@[simp] theorem call_42 {args : List Value} : (nice Tryz.prog).call (.fn 42) args w K Kp = Calls Tryz.prog 42 args.toArray w (ret K Kp) := call_fn (by kernel_rfl)
@[simp] theorem op_fa_123_0 {p : Addr} : (nice Tryz.prog).op (.fieldAddr 123 (.pointer (some p)) 0) w K Kp = K (.pointer (some (p.add 0))) w := op_fa (k := .one) (by kernel_rfl)
@[simp] theorem pur_fa_123_0 {p : Addr} : (nice Tryz.prog).pur (.fieldAddr 123 (.pointer (some p)) 0) K1 = K1 (.pointer (some (p.add 0))) := pur_fa (k := .one) (by kernel_rfl)
@[simp] theorem op_ta_119_128 {u : TypeId} {v : Value} : (nice Tryz.prog).op (.tassert (.iface u v) 119 128 true) w K Kp = if u = 128 then K (.tuple #[v, .bool true]) w else K (.tuple #[(Value.pointer none), .bool false]) w := op_tassert_ok (by kernel_rfl) (by kernel_rfl) (by kernel_rfl)
@[simp] theorem op_tan_119_128 : (nice Tryz.prog).op (.tassert .nilIface 119 128 true) w K Kp = K (.tuple #[(Value.pointer none), .bool false]) w := op_tassert_ok_nil (by kernel_rfl) (by kernel_rfl) (by kernel_rfl)
@[simp] theorem op_fa_123_1 {p : Addr} : (nice Tryz.prog).op (.fieldAddr 123 (.pointer (some p)) 1) w K Kp = K (.pointer (some (p.add 1))) w := op_fa (k := .one) (by kernel_rfl)
@[simp] theorem pur_fa_123_1 {p : Addr} : (nice Tryz.prog).pur (.fieldAddr 123 (.pointer (some p)) 1) K1 = K1 (.pointer (some (p.add 1))) := pur_fa (k := .one) (by kernel_rfl)
@[simp] theorem op_ta_119_135 {u : TypeId} {v : Value} : (nice Tryz.prog).op (.tassert (.iface u v) 119 135 true) w K Kp = if u = 135 then K (.tuple #[v, .bool true]) w else K (.tuple #[(Value.pointer none), .bool false]) w := op_tassert_ok (by kernel_rfl) (by kernel_rfl) (by kernel_rfl)
@[simp] theorem op_tan_119_135 : (nice Tryz.prog).op (.tassert .nilIface 119 135 true) w K Kp = K (.tuple #[(Value.pointer none), .bool false]) w := op_tassert_ok_nil (by kernel_rfl) (by kernel_rfl) (by kernel_rfl)
@[simp] theorem op_ta_119_138 {u : TypeId} {v : Value} : (nice Tryz.prog).op (.tassert (.iface u v) 119 138 true) w K Kp = if u = 138 then K (.tuple #[v, .bool true]) w else K (.tuple #[(Value.pointer none), .bool false]) w := op_tassert_ok (by kernel_rfl) (by kernel_rfl) (by kernel_rfl)
@[simp] theorem op_tan_119_138 : (nice Tryz.prog).op (.tassert .nilIface 119 138 true) w K Kp = K (.tuple #[(Value.pointer none), .bool false]) w := op_tassert_ok_nil (by kernel_rfl) (by kernel_rfl) (by kernel_rfl)
@[simp] theorem call_57 {args : List Value} : (nice Tryz.prog).call (.fn 57) args w K Kp = Calls Tryz.prog 57 args.toArray w (ret K Kp) := call_fn (by kernel_rfl)
@[simp] theorem op_ta_119_166 {u : TypeId} {v : Value} : (nice Tryz.prog).op (.tassert (.iface u v) 119 166 true) w K Kp = if u = 166 then K (.tuple #[v, .bool true]) w else K (.tuple #[(Value.pointer none), .bool false]) w := op_tassert_ok (by kernel_rfl) (by kernel_rfl) (by kernel_rfl)
@[simp] theorem op_tan_119_166 : (nice Tryz.prog).op (.tassert .nilIface 119 166 true) w K Kp = K (.tuple #[(Value.pointer none), .bool false]) w := op_tassert_ok_nil (by kernel_rfl) (by kernel_rfl) (by kernel_rfl)
@[simp] theorem op_ta_119_170 {u : TypeId} {v : Value} : (nice Tryz.prog).op (.tassert (.iface u v) 119 170 true) w K Kp = if u = 170 then K (.tuple #[v, .bool true]) w else K (.tuple #[(Value.pointer none), .bool false]) w := op_tassert_ok (by kernel_rfl) (by kernel_rfl) (by kernel_rfl)
@[simp] theorem op_tan_119_170 : (nice Tryz.prog).op (.tassert .nilIface 119 170 true) w K Kp = K (.tuple #[(Value.pointer none), .bool false]) w := op_tassert_ok_nil (by kernel_rfl) (by kernel_rfl) (by kernel_rfl)
end Go.Proofs.YtbghmbbhkoniiaaGreat
end
section
namespace Go.Proofs.YtbghmbbhkoniiaaGreat
open Go.Vc Go.Proofs
variable {S : Sig} {a0 a1 a2 a3 a4 a5 a6 a7 a8 a9 : Value} {w : World} {K : KV} {Kp : KP}
private theorem follows_MVcS : Tryz.prog.follows .mixedOrders = true := by kernel_rfl
def vc35 (S : Sig) (a0 a1 : Value) (w : World) (K : KV) (Kp : KP) : Prop :=
 S.op (.alloc 64) w (fun v4 w =>
 S.call (.fn 53) [a0] w (fun v9 w =>
 S.op (.blt .len [25] 3 [a1]) w (fun v11 w =>
 Lp fun (I3 : Value → KV) (μ3 : Value → Value → World → Nat) => I3 v9 (.int .i64 0) w ∧
 ∀ (wl3 : World) (junk : Nat → Value) (s5 : Value) (s12 : Value), I3 s5 s12 wl3 →
 S.op (.bin .lss 3 false false s12 v11) wl3 (fun v13 w =>
 Br v13 (
 S.op (.indexAddr 25 a1 s12) w (fun v14 w =>
 S.op (.load 2 v14) w (fun v15 w =>
 S.op (.build 88 []) w (fun v18 w =>
 S.call (.fn 44) [s5, v15, v18, (.bool true)] w (fun v19 w =>
 S.op (.bin .add 3 false true s12 (.int .i64 1)) w (fun v20 w =>
 I3 v19 v20 w ∧ μ3 v19 v20 w < μ3 s5 s12 wl3) Kp) Kp) Kp) Kp) Kp) (
 S.op (.build 64 [(0, s5)]) w (fun v22 w =>
 S.op (.store 64 v4 v22) w (fun _ w =>
 S.ld (.load 64 v4) w (fun r0 =>
 K r0 w)) Kp) Kp)) Kp) Kp) Kp) Kp
theorem vc35_eq : vc35 S a0 a1 w K Kp = fVC S [(3, [5, 12])] [] Tryz.f35 [a0, a1] w K Kp := by kernel_rfl
theorem vc35_calls (h : vc35 (nice Tryz.prog) a0 a1 w K Kp) : Calls Tryz.prog 35 #[a0, a1] w (ret K Kp) :=
 fVC_sound (args := [a0, a1]) nice_le follows_MVcS Tryz.func35 (by kernel_rfl) (Eq.mp vc35_eq h)
def vc60 (S : Sig) (a0 a1 : Value) (w : World) (K : KV) (Kp : KP) : Prop :=
 S.op (.alloc 88) w (fun v4 w =>
 S.op (.alloc 88) w (fun v6 w =>
 S.op (.nilCheck a0) w (fun v9 w =>
 S.op (.fieldAddr 121 v9 1) w (fun v10 w =>
 S.op (.load 119 v10) w (fun v11 w =>
 S.op (.bin .eql 119 false true v11 .nilIface) w (fun v12 w =>
 Br v12 (
 S.op (.load 88 v6) w (fun v13 w =>
 S.op (.store 88 v4 v13) w (fun _ w =>
 S.ld (.load 88 v4) w (fun r0 =>
 K (.tuple #[r0, (.bool false)]) w)) Kp) Kp) (
 S.op (.nilCheck a0) w (fun v15 w =>
 S.op (.fieldAddr 121 v15 2) w (fun v16 w =>
 S.op (.load 74 v16) w (fun v17 w =>
 S.call (.inv v17 "Hash") [a1] w (fun v19 w =>
 S.pur (.nilCheck a0) (fun v21 =>
 S.pur (.fieldAddr 121 v21 1) (fun v22 =>
 S.ld (.load 119 v22) w.drew (fun v23 =>
 S.pur (.nilCheck a0) (fun v27 =>
 S.pur (.fieldAddr 121 v27 2) (fun v28 =>
 S.ld (.load 74 v28) w.drew (fun v29 =>
 S.pur (.nilCheck v23) (fun v30 =>
 S.call (.inv v23 "pub-bracken/pub/immutable.get") [a1, (.int .u64 0), v19, v29] w.drew (fun v32 w =>
 S.pur (.extract v32 0) (fun v33 =>
 S.pur (.extract v32 1) (fun v34 =>
 S.op (.store 88 v4 v33) w (fun _ w =>
 S.ld (.load 88 v4) w (fun r0 =>
 K (.tuple #[r0, v34]) w)) Kp))) Kp)))))))) Kp) Kp) Kp) Kp)) Kp) Kp) Kp) Kp) Kp) Kp
theorem vc60_eq : vc60 S a0 a1 w K Kp = fVC S [] [] Tryz.f60 [a0, a1] w K Kp := by kernel_rfl
theorem vc60_calls (h : vc60 (nice Tryz.prog) a0 a1 w K Kp) : Calls Tryz.prog 60 #[a0, a1] w (ret K Kp) :=
 fVC_sound (args := [a0, a1]) nice_le follows_MVcS Tryz.func60 (by kernel_rfl) (Eq.mp vc60_eq h)
def vc46 (S : Sig) (a0 a1 : Value) (w : World) (K : KV) (Kp : KP) : Prop :=
 S.op (.box 64 a0) w (fun v2 w =>
 S.op (.fieldAddr 64 v2 0) w (fun v8 w =>
 S.op (.load 62 v8) w (fun v9 w =>
 S.call (.fn 60) [v9, a1] w (fun v11 w =>
 S.op (.extract v11 0) w (fun v12 w =>
 S.op (.extract v11 1) w (fun v13 w =>
 S.op (.alloc 88) w (fun v5 w =>
 S.op (.store 88 v5 v12) w (fun _ w =>
 K v13 w) Kp) Kp) Kp) Kp) Kp) Kp) Kp) Kp
theorem vc46_eq : vc46 S a0 a1 w K Kp = fVC S [] [] Tryz.f46 [a0, a1] w K Kp := by kernel_rfl
theorem vc46_calls (h : vc46 (nice Tryz.prog) a0 a1 w K Kp) : Calls Tryz.prog 46 #[a0, a1] w (ret K Kp) :=
 fVC_sound (args := [a0, a1]) nice_le follows_MVcS Tryz.func46 (by kernel_rfl) (Eq.mp vc46_eq h)
def vc53 (S : Sig) (a0 : Value) (w : World) (K : KV) (Kp : KP) : Prop :=
 S.op (.build 121 [(2, a0)]) w (fun v4 w =>
 S.op (.box 121 v4) w (fun v5 w =>
 K v5 w) Kp) Kp
theorem vc53_eq : vc53 S a0 w K Kp = fVC S [] [] Tryz.f53 [a0] w K Kp := by kernel_rfl
theorem vc53_calls (h : vc53 (nice Tryz.prog) a0 w K Kp) : Calls Tryz.prog 53 #[a0] w (ret K Kp) :=
 fVC_sound (args := [a0]) nice_le follows_MVcS Tryz.func53 (by kernel_rfl) (Eq.mp vc53_eq h)
def vc44 (S : Sig) (a0 a1 a2 a3 : Value) (w : World) (K : KV) (Kp : KP) : Prop :=
 S.op (.box 88 a2) w (fun v6 w =>
 S.op (.nilCheck a0) w (fun v13 w =>
 S.op (.fieldAddr 121 v13 2) w (fun v14 w =>
 S.op (.load 74 v14) w (fun v15 w =>
 Jn fun (J4 : KV) =>
 (S.op (.bin .eql 74 false true v15 .nilIface) w (fun v17 w =>
 Br v17 (
 S.call (.fn 58) [a1] w (fun v19 w =>
 J4 v19 w) Kp) (
 J4 v15 w)) Kp) ∧
 (∀ (w : World) (junk : Nat → Value) (j9 : Value), J4 j9 w →
 Jn fun (J7 : KV) =>
 (S.op (.un .not a3) w (fun v22 w =>
 Br v22 (
 S.call (.fn 59) [a0] w (fun v24 w =>
 J7 v24 w) Kp) (
 J7 a0 w)) Kp) ∧
 (∀ (w : World) (junk : Nat → Value) (j10 : Value), J7 j10 w →
 S.op (.nilCheck j10) w (fun v27 w =>
 S.op (.fieldAddr 121 v27 2) w (fun v28 w =>
 S.op (.store 74 v28 j9) w (fun _ w =>
 S.op (.nilCheck a0) w (fun v30 w =>
 S.op (.fieldAddr 121 v30 1) w (fun v31 w =>
 S.op (.load 119 v31) w (fun v32 w =>
 S.op (.bin .eql 119 false true v32 .nilIface) w (fun v33 w =>
 Br v33 (
 S.op (.nilCheck j10) w (fun v35 w =>
 S.op (.fieldAddr 121 v35 0) w (fun v36 w =>
 S.op (.store 3 v36 (.int .i64 1)) w (fun _ w =>
 S.op (.load 88 v6) w (fun v39 w =>
 S.op (.build 131 [(0, a1), (1, v39)]) w (fun v40 w =>
 S.op (.buildSlice 132 1 [(0, v40)]) w (fun v41 w =>
 S.op (.build 134 [(0, v41)]) w (fun v42 w =>
 S.op (.box 134 v42) w (fun v43 w =>
 S.op (.mkIface 128 v43) w (fun v44 w =>
 S.op (.nilCheck j10) w (fun v45 w =>
 S.op (.fieldAddr 121 v45 1) w (fun v46 w =>
 S.op (.store 119 v46 v44) w (fun _ w =>
 K j10 w) Kp) Kp) Kp) Kp) Kp) Kp) Kp) Kp) Kp) Kp) Kp) Kp) (
 S.op (.alloc 4) w (fun v11 w =>
 S.pur (.nilCheck a0) (fun v50 =>
 S.pur (.fieldAddr 121 v50 1) (fun v51 =>
 S.ld (.load 119 v51) w.drew (fun v52 =>
 S.ld (.load 88 v6) w.drew (fun v54 =>
 S.pur (.nilCheck v52) (fun v60 =>
 S.call (.inv j9 "Hash") [a1] w.drew (fun v57 w =>
 S.same (.load 88 v6) v54 w ∧
 S.same (.load 119 v51) v52 w ∧
 S.call (.inv v52 "pub-bracken/pub/immutable.set") [a1, v54, (.int .u64 0), v57, j9, a3, v11] w (fun v62 w =>
 S.pur (.nilCheck j10) (fun v63 =>
 S.pur (.fieldAddr 121 v63 1) (fun v64 =>
 S.op (.store 119 v64 v62) w (fun _ w =>
 S.op (.load 4 v11) w (fun v65 w =>
 Br v65 (
 S.op (.nilCheck j10) w (fun v67 w =>
 S.op (.fieldAddr 121 v67 0) w (fun v68 w =>
 S.op (.load 3 v68) w (fun v69 w =>
 S.op (.bin .add 3 false true v69 (.int .i64 1)) w (fun v70 w =>
 S.op (.nilCheck j10) w (fun v71 w =>
 S.op (.fieldAddr 121 v71 0) w (fun v72 w =>
 S.op (.store 3 v72 v70) w (fun _ w =>
 K j10 w) Kp) Kp) Kp) Kp) Kp) Kp) Kp) (
 K j10 w)) Kp) Kp))) Kp) Kp)))))) Kp)) Kp) Kp) Kp) Kp) Kp) Kp) Kp))) Kp) Kp) Kp) Kp
theorem vc44_eq : vc44 S a0 a1 a2 a3 w K Kp = fVC S [] [(4, [9]), (7, [10])] Tryz.f44 [a0, a1, a2, a3] w K Kp := by kernel_rfl
theorem vc44_calls (h : vc44 (nice Tryz.prog) a0 a1 a2 a3 w K Kp) : Calls Tryz.prog 44 #[a0, a1, a2, a3] w (ret K Kp) :=
 fVC_sound (args := [a0, a1, a2, a3]) nice_le follows_MVcS Tryz.func44 (by kernel_rfl) (Eq.mp vc44_eq h)
def vc54 (S : Sig) (a0 a1 a2 : Value) (w : World) (K : KV) (Kp : KP) : Prop :=
 S.op (.box 88 a2) w (fun v5 w =>
 S.op (.load 88 v5) w (fun v9 w =>
 S.call (.fn 44) [a0, a1, v9, (.bool false)] w (fun v10 w =>
 K v10 w) Kp) Kp) Kp
theorem vc54_eq : vc54 S a0 a1 a2 w K Kp = fVC S [] [] Tryz.f54 [a0, a1, a2] w K Kp := by kernel_rfl
theorem vc54_calls (h : vc54 (nice Tryz.prog) a0 a1 a2 w K Kp) : Calls Tryz.prog 54 #[a0, a1, a2] w (ret K Kp) :=
 fVC_sound (args := [a0, a1, a2]) nice_le follows_MVcS Tryz.func54 (by kernel_rfl) (Eq.mp vc54_eq h)
def vc55 (S : Sig) (a0 a1 : Value) (w : World) (K : KV) (Kp : KP) : Prop :=
 S.call (.fn 45) [a0, a1, (.bool false)] w (fun v7 w =>
 K v7 w) Kp
theorem vc55_eq : vc55 S a0 a1 w K Kp = fVC S [] [] Tryz.f55 [a0, a1] w K Kp := by kernel_rfl
theorem vc55_calls (h : vc55 (nice Tryz.prog) a0 a1 w K Kp) : Calls Tryz.prog 55 #[a0, a1] w (ret K Kp) :=
 fVC_sound (args := [a0, a1]) nice_le follows_MVcS Tryz.func55 (by kernel_rfl) (Eq.mp vc55_eq h)
def vc59 (S : Sig) (a0 : Value) (w : World) (K : KV) (Kp : KP) : Prop :=
 S.op (.nilCheck a0) w (fun v5 w =>
 S.op (.load 121 v5) w (fun v6 w =>
 S.op (.alloc 121) w (fun v3 w =>
 S.op (.store 121 v3 v6) w (fun _ w =>
 K v3 w) Kp) Kp) Kp) Kp
theorem vc59_eq : vc59 S a0 w K Kp = fVC S [] [] Tryz.f59 [a0] w K Kp := by kernel_rfl
theorem vc59_calls (h : vc59 (nice Tryz.prog) a0 w K Kp) : Calls Tryz.prog 59 #[a0] w (ret K Kp) :=
 fVC_sound (args := [a0]) nice_le follows_MVcS Tryz.func59 (by kernel_rfl) (Eq.mp vc59_eq h)
def vc45 (S : Sig) (a0 a1 a2 : Value) (w : World) (K : KV) (Kp : KP) : Prop :=
 S.op (.nilCheck a0) w (fun v11 w =>
 S.op (.fieldAddr 121 v11 1) w (fun v12 w =>
 S.op (.load 119 v12) w (fun v13 w =>
 S.op (.bin .eql 119 false true v13 .nilIface) w (fun v14 w =>
 Br v14 (
 K a0 w) (
 S.op (.alloc 4) w (fun v7 w =>
 S.pur (.nilCheck a0) (fun v17 =>
 S.pur (.fieldAddr 121 v17 1) (fun v18 =>
 S.ld (.load 119 v18) w.drew (fun v19 =>
 S.pur (.nilCheck a0) (fun v22 =>
 S.pur (.fieldAddr 121 v22 2) (fun v23 =>
 S.ld (.load 74 v23) w.drew (fun v24 =>
 S.pur (.nilCheck a0) (fun v28 =>
 S.pur (.fieldAddr 121 v28 2) (fun v29 =>
 S.ld (.load 74 v29) w.drew (fun v30 =>
 S.pur (.nilCheck v19) (fun v32 =>
 S.call (.inv v24 "Hash") [a1] w.drew (fun v26 w =>
 S.same (.load 74 v29) v30 w ∧
 S.same (.load 119 v18) v19 w ∧
 S.call (.inv v19 "pub-bracken/pub/immutable.delete") [a1, (.int .u64 0), v26, v30, a2, v7] w (fun v34 w =>
 S.op (.load 4 v7) w (fun v35 w =>
 S.op (.un .not v35) w (fun v36 w =>
 Br v36 (
 K a0 w) (
 S.op (.un .not a2) w (fun v40 w =>
 Br v40 (
 S.call (.fn 59) [a0] w (fun v42 w =>
 S.op (.nilCheck a0) w (fun v45 w =>
 S.op (.fieldAddr 121 v45 0) w (fun v46 w =>
 S.op (.load 3 v46) w (fun v47 w =>
 S.op (.bin .sub 3 false true v47 (.int .i64 1)) w (fun v48 w =>
 S.op (.nilCheck v42) w (fun v49 w =>
 S.op (.fieldAddr 121 v49 0) w (fun v50 w =>
 S.op (.store 3 v50 v48) w (fun _ w =>
 S.op (.nilCheck v42) w (fun v53 w =>
 S.op (.fieldAddr 121 v53 1) w (fun v54 w =>
 S.op (.store 119 v54 v34) w (fun _ w =>
 K v42 w) Kp) Kp) Kp) Kp) Kp) Kp) Kp) Kp) Kp) Kp) Kp) (
 S.op (.nilCheck a0) w (fun v45 w =>
 S.op (.fieldAddr 121 v45 0) w (fun v46 w =>
 S.op (.load 3 v46) w (fun v47 w =>
 S.op (.bin .sub 3 false true v47 (.int .i64 1)) w (fun v48 w =>
 S.op (.nilCheck a0) w (fun v49 w =>
 S.op (.fieldAddr 121 v49 0) w (fun v50 w =>
 S.op (.store 3 v50 v48) w (fun _ w =>
 S.op (.nilCheck a0) w (fun v53 w =>
 S.op (.fieldAddr 121 v53 1) w (fun v54 w =>
 S.op (.store 119 v54 v34) w (fun _ w =>
 K a0 w) Kp) Kp) Kp) Kp) Kp) Kp) Kp) Kp) Kp) Kp)) Kp)) Kp) Kp) Kp) Kp))))))))))) Kp)) Kp) Kp) Kp) Kp
theorem vc45_eq : vc45 S a0 a1 a2 w K Kp = fVC S [] [] Tryz.f45 [a0, a1, a2] w K Kp := by kernel_rfl
theorem vc45_calls (h : vc45 (nice Tryz.prog) a0 a1 a2 w K Kp) : Calls Tryz.prog 45 #[a0, a1, a2] w (ret K Kp) :=
 fVC_sound (args := [a0, a1, a2]) nice_le follows_MVcS Tryz.func45 (by kernel_rfl) (Eq.mp vc45_eq h)
def vc85 (S : Sig) (a0 a1 a2 a3 a4 a5 a6 : Value) (w : World) (K : KV) (Kp : KP) : Prop :=
 S.call (.fn 87) [a0, a1, a4] w (fun v20 w =>
 S.op (.bin .eql 3 false true v20 (.int .i64 (-1))) w (fun v22 w =>
 Br v22 (
 S.op (.mkIface 128 a0) w (fun v24 w =>
 K v24 w) Kp) (
 S.op (.nilCheck a6) w (fun v26 w =>
 S.op (.store 4 v26 (.bool true)) w (fun _ w =>
 S.op (.nilCheck a0) w (fun v28 w =>
 S.op (.fieldAddr 134 v28 0) w (fun v29 w =>
 S.op (.load 132 v29) w (fun v30 w =>
 S.op (.blt .len [132] 3 [v30]) w (fun v31 w =>
 S.op (.bin .eql 3 false true v31 (.int .i64 1)) w (fun v32 w =>
 Br v32 (
 K .nilIface w) (
 Br a5 (
 S.pur (.nilCheck a0) (fun v35 =>
 S.pur (.fieldAddr 134 v35 0) (fun v36 =>
 S.ld (.load 132 v36) w.drew (fun v37 =>
 S.pur (.slice 132 v37 (some v20) none none) (fun v39 =>
 S.pur (.nilCheck a0) (fun v41 =>
 S.pur (.fieldAddr 134 v41 0) (fun v42 =>
 S.ld (.load 132 v42) w.drew (fun v43 =>
 S.pur (.bin .add 3 false true v20 (.int .i64 1)) (fun v45 =>
 S.pur (.slice 132 v43 (some v45) none none) (fun v46 =>
 S.op (.blt .copy [132, 132] 3 [v39, v46]) w.drew (fun v47 w =>
 S.pur (.nilCheck a0) (fun v49 =>
 S.pur (.fieldAddr 134 v49 0) (fun v50 =>
 S.ld (.load 132 v50) w.drew (fun v51 =>
 S.pur (.nilCheck a0) (fun v53 =>
 S.pur (.fieldAddr 134 v53 0) (fun v54 =>
 S.ld (.load 132 v54) w.drew (fun v55 =>
 S.ld (.blt .len [132] 3 [v55]) w.drew (fun v56 =>
 S.pur (.bin .sub 3 false true v56 (.int .i64 1)) (fun v57 =>
 S.pur (.build 131 []) (fun v58 =>
 S.pur (.indexAddr 132 v51 v57) (fun v59 =>
 S.op (.store 131 v59 v58) w.drew (fun _ w =>
 S.pur (.nilCheck a0) (fun v62 =>
 S.pur (.fieldAddr 134 v62 0) (fun v63 =>
 S.ld (.load 132 v63) w.drew (fun v64 =>
 S.pur (.nilCheck a0) (fun v66 =>
 S.pur (.fieldAddr 134 v66 0) (fun v67 =>
 S.ld (.load 132 v67) w.drew (fun v68 =>
 S.ld (.blt .len [132] 3 [v68]) w.drew (fun v69 =>
 S.pur (.bin .sub 3 false true v69 (.int .i64 1)) (fun v70 =>
 S.pur (.slice 132 v64 none (some v70) none) (fun v71 =>
 S.pur (.nilCheck a0) (fun v72 =>
 S.pur (.fieldAddr 134 v72 0) (fun v73 =>
 S.op (.store 132 v73 v71) w.drew (fun _ w =>
 S.op (.mkIface 128 a0) w (fun v75 w =>
 K v75 w) Kp) Kp)))))))))))) Kp))))))))))) Kp)))))))))) (
 S.op (.nilCheck a0) w (fun v77 w =>
 S.op (.fieldAddr 134 v77 0) w (fun v78 w =>
 S.op (.load 132 v78) w (fun v79 w =>
 S.op (.blt .len [132] 3 [v79]) w (fun v80 w =>
 S.op (.bin .sub 3 false true v80 (.int .i64 1)) w (fun v81 w =>
 S.op (.mkSlice 132 v81 v81) w (fun v82 w =>
 S.op (.build 134 [(0, v82)]) w (fun v83 w =>
 S.op (.box 134 v83) w (fun v84 w =>
 S.pur (.nilCheck v84) (fun v86 =>
 S.pur (.fieldAddr 134 v86 0) (fun v87 =>
 S.ld (.load 132 v87) w.drew (fun v88 =>
 S.pur (.slice 132 v88 none (some v20) none) (fun v90 =>
 S.pur (.nilCheck a0) (fun v92 =>
 S.pur (.fieldAddr 134 v92 0) (fun v93 =>
 S.ld (.load 132 v93) w.drew (fun v94 =>
 S.pur (.slice 132 v94 none (some v20) none) (fun v96 =>
 S.op (.blt .copy [132, 132] 3 [v90, v96]) w.drew (fun v97 w =>
 S.pur (.nilCheck v84) (fun v99 =>
 S.pur (.fieldAddr 134 v99 0) (fun v100 =>
 S.ld (.load 132 v100) w.drew (fun v101 =>
 S.pur (.slice 132 v101 (some v20) none none) (fun v103 =>
 S.pur (.nilCheck a0) (fun v105 =>
 S.pur (.fieldAddr 134 v105 0) (fun v106 =>
 S.ld (.load 132 v106) w.drew (fun v107 =>
 S.pur (.bin .add 3 false true v20 (.int .i64 1)) (fun v109 =>
 S.pur (.slice 132 v107 (some v109) none none) (fun v110 =>
 S.op (.blt .copy [132, 132] 3 [v103, v110]) w.drew (fun v111 w =>
 S.op (.mkIface 128 v84) w (fun v113 w =>
 K v113 w) Kp) Kp)))))))))) Kp))))))))) Kp) Kp) Kp) Kp) Kp) Kp) Kp) Kp))) Kp) Kp) Kp) Kp) Kp) Kp) Kp)) Kp) Kp
theorem vc85_eq : vc85 S a0 a1 a2 a3 a4 a5 a6 w K Kp = fVC S [] [] Tryz.f85 [a0, a1, a2, a3, a4, a5, a6] w K Kp := by kernel_rfl
theorem vc85_calls (h : vc85 (nice Tryz.prog) a0 a1 a2 a3 a4 a5 a6 w K Kp) : Calls Tryz.prog 85 #[a0, a1, a2, a3, a4, a5, a6] w (ret K Kp) :=
 fVC_sound (args := [a0, a1, a2, a3, a4, a5, a6]) nice_le follows_MVcS Tryz.func85 (by kernel_rfl) (Eq.mp vc85_eq h)
def vc86 (S : Sig) (a0 a1 a2 a3 a4 : Value) (w : World) (K : KV) (Kp : KP) : Prop :=
 S.op (.alloc 88) w (fun v10 w =>
 S.call (.fn 87) [a0, a1, a4] w (fun v16 w =>
 S.op (.bin .eql 3 false true v16 (.int .i64 (-1))) w (fun v18 w =>
 Br v18 (
 S.op (.load 88 v10) w (fun v19 w =>
 S.op (.store 88 v10 v19) w (fun _ w =>
 S.ld (.load 88 v10) w (fun r0 =>
 K (.tuple #[r0, (.bool false)]) w)) Kp) Kp) (
 S.op (.nilCheck a0) w (fun v21 w =>
 S.op (.fieldAddr 134 v21 0) w (fun v22 w =>
 S.op (.load 132 v22) w (fun v23 w =>
 S.op (.indexAddr 132 v23 v16) w (fun v25 w =>
 S.op (.fieldAddr 131 v25 1) w (fun v26 w =>
 S.op (.load 88 v26) w (fun v27 w =>
 S.op (.store 88 v10 v27) w (fun _ w =>
 S.ld (.load 88 v10) w (fun r0 =>
 K (.tuple #[r0, (.bool true)]) w)) Kp) Kp) Kp) Kp) Kp) Kp) Kp)) Kp) Kp) Kp
theorem vc86_eq : vc86 S a0 a1 a2 a3 a4 w K Kp = fVC S [] [] Tryz.f86 [a0, a1, a2, a3, a4] w K Kp := by kernel_rfl
theorem vc86_calls (h : vc86 (nice Tryz.prog) a0 a1 a2 a3 a4 w K Kp) : Calls Tryz.prog 86 #[a0, a1, a2, a3, a4] w (ret K Kp) :=
 fVC_sound (args := [a0, a1, a2, a3, a4]) nice_le follows_MVcS Tryz.func86 (by kernel_rfl) (Eq.mp vc86_eq h)
def vc87 (S : Sig) (a0 a1 a2 : Value) (w : World) (K : KV) (Kp : KP) : Prop :=
 S.op (.nilCheck a0) w (fun v9 w =>
 S.op (.fieldAddr 134 v9 0) w (fun v10 w =>
 S.op (.load 132 v10) w (fun v11 w =>
 S.op (.blt .len [132] 3 [v11]) w (fun v12 w =>
 Lp fun (I2 : KV) (μ2 : Value → World → Nat) => I2 (.int .i64 0) w ∧
 ∀ (wl2 : World) (junk : Nat → Value) (s13 : Value), I2 s13 wl2 →
 S.op (.bin .lss 3 false false s13 v12) wl2 (fun v14 w =>
 Br v14 (
 S.pur (.nilCheck a0) (fun v18 =>
 S.pur (.fieldAddr 134 v18 0) (fun v19 =>
 S.ld (.load 132 v19) w.drew (fun v20 =>
 S.pur (.indexAddr 132 v20 s13) (fun v22 =>
 S.pur (.fieldAddr 131 v22 0) (fun v23 =>
 S.ld (.load 2 v23) w.drew (fun v24 =>
 S.pur (.mkFunc (Fn.method "Equal") [a2] []) (fun v26 =>
 S.pur (.nilCheck v26) (fun v27 =>
 S.call (.inv a2 "Equal") [v24, a1] w.drew (fun v29 w =>
 Br v29 (
 K s13 w) (
 S.op (.bin .add 3 false true s13 (.int .i64 1)) w (fun v31 w =>
 I2 v31 w ∧ μ2 v31 w < μ2 s13 wl2) Kp)) Kp))))))))) (
 K (.int .i64 (-1)) w)) Kp) Kp) Kp) Kp) Kp
theorem vc87_eq : vc87 S a0 a1 a2 w K Kp = fVC S [(2, [13])] [] Tryz.f87 [a0, a1, a2] w K Kp := by kernel_rfl
theorem vc87_calls (h : vc87 (nice Tryz.prog) a0 a1 a2 w K Kp) : Calls Tryz.prog 87 #[a0, a1, a2] w (ret K Kp) :=
 fVC_sound (args := [a0, a1, a2]) nice_le follows_MVcS Tryz.func87 (by kernel_rfl) (Eq.mp vc87_eq h)
def vc88 (S : Sig) (a0 a1 a2 a3 a4 a5 a6 a7 : Value) (w : World) (K : KV) (Kp : KP) : Prop :=
 S.op (.box 88 a2) w (fun v10 w =>
 S.call (.fn 87) [a0, a1, a5] w (fun v25 w =>
 Jn fun (J4 : World → Prop) =>
 (S.op (.bin .eql 3 false true v25 (.int .i64 (-1))) w (fun v27 w =>
 Br v27 (
 S.op (.nilCheck a7) w (fun v29 w =>
 S.op (.store 4 v29 (.bool true)) w (fun _ w =>
 J4 w) Kp) Kp) (
 J4 w)) Kp) ∧
 (∀ (w : World) (junk : Nat → Value), J4 w →
 Jn fun (J12 : World → Prop) =>
 (S.op (.bin .eql 3 false true v25 (.int .i64 (-1))) w (fun v31 w =>
 Br v31 (
 S.op (.nilCheck a0) w (fun v34 w =>
 S.op (.fieldAddr 134 v34 0) w (fun v35 w =>
 S.op (.load 132 v35) w (fun v36 w =>
 S.op (.blt .len [132] 3 [v36]) w (fun v37 w =>
 S.op (.bin .geq 3 false true v37 (.int .i64 8)) w (fun v38 w =>
 Br v38 (
 S.ld (.load 88 v10) w.drew (fun v44 =>
 S.call (.inv a5 "Hash") [a1] w.drew (fun v42 w =>
 S.same (.load 88 v10) v44 w ∧
 S.call (.fn 89) [v42, a1, v44] w (fun v45 w =>
 S.pur (.mkIface 135 v45) (fun v46 =>
 S.op (.nilCheck a0) w (fun v48 w =>
 S.op (.fieldAddr 134 v48 0) w (fun v49 w =>
 S.op (.load 132 v49) w (fun v50 w =>
 S.op (.blt .len [132] 3 [v50]) w (fun v51 w =>
 Lp fun (I7 : Value → KV) (μ7 : Value → Value → World → Nat) => I7 v46 (.int .i64 0) w ∧
 ∀ (wl7 : World) (junk : Nat → Value) (s18 : Value) (s52 : Value), I7 s18 s52 wl7 →
 S.op (.bin .lss 3 false false s52 v51) wl7 (fun v53 w =>
 Br v53 (
 S.op (.indexAddr 132 v50 s52) w (fun v54 w =>
 S.op (.load 131 v54) w (fun v55 w =>
 S.op (.alloc 131) w (fun v20 w =>
 S.op (.store 131 v20 v55) w (fun _ w =>
 S.pur (.fieldAddr 131 v20 0) (fun v57 =>
 S.ld (.load 2 v57) w.drew (fun v58 =>
 S.ld (.fieldAddr 131 v20 1) w.drew (fun v59 =>
 S.ld (.load 88 v59) w.drew (fun v60 =>
 S.pur (.fieldAddr 131 v20 0) (fun v62 =>
 S.ld (.load 2 v62) w.drew (fun v63 =>
 S.pur (.mkFunc (Fn.method "pub-bracken/pub/immutable.set") [s18] []) (fun v67 =>
 S.pur (.nilCheck v67) (fun v68 =>
 S.call (.inv a5 "Hash") [v63] w.drew (fun v64 w =>
 S.same (.load 88 v59) v60 w ∧
 S.same (.fieldAddr 131 v20 1) v59 w ∧
 S.same (.load 2 v57) v58 w ∧
 S.call (.inv s18 "pub-bracken/pub/immutable.set") [v58, v60, (.int .u64 0), v64, a5, (.bool false), a7] w (fun v70 w =>
 S.op (.bin .add 3 false true s52 (.int .i64 1)) w (fun v71 w =>
 I7 v70 v71 w ∧ μ7 v70 v71 w < μ7 s18 s52 wl7) Kp) Kp) Kp))))))))) Kp) Kp) Kp) Kp) (
 K s18 w)) Kp) Kp) Kp) Kp) Kp)) Kp) Kp)) (
 J12 w)) Kp) Kp) Kp) Kp) Kp) (
 J12 w)) Kp) ∧
 (∀ (w : World) (junk : Nat → Value), J12 w →
 Br a6 (
 S.op (.bin .neq 3 false true v25 (.int .i64 (-1))) w (fun v75 w =>
 Br v75 (
 S.pur (.nilCheck a0) (fun v77 =>
 S.pur (.fieldAddr 134 v77 0) (fun v78 =>
 S.ld (.load 132 v78) w.drew (fun v79 =>
 S.ld (.load 88 v10) w.drew (fun v82 =>
 S.pur (.build 131 [(0, a1), (1, v82)]) (fun v83 =>
 S.pur (.indexAddr 132 v79 v25) (fun v84 =>
 S.op (.store 131 v84 v83) w.drew (fun _ w =>
 S.op (.mkIface 128 a0) w (fun v98 w =>
 K v98 w) Kp) Kp))))))) (
 S.pur (.nilCheck a0) (fun v87 =>
 S.pur (.fieldAddr 134 v87 0) (fun v88 =>
 S.ld (.load 132 v88) w.drew (fun v89 =>
 S.ld (.load 88 v10) w.drew (fun v91 =>
 S.pur (.build 131 [(0, a1), (1, v91)]) (fun v92 =>
 S.op (.buildSlice 132 1 [(0, v92)]) w.drew (fun v93 w =>
 S.same (.load 132 v88) v89 w ∧
 S.op (.blt .append [132, 132] 132 [v89, v93]) w (fun v94 w =>
 S.pur (.nilCheck a0) (fun v95 =>
 S.pur (.fieldAddr 134 v95 0) (fun v96 =>
 S.op (.store 132 v96 v94) w (fun _ w =>
 S.op (.mkIface 128 a0) w (fun v98 w =>
 K v98 w) Kp) Kp))) Kp) Kp))))))) Kp) (
 S.op (.alloc 134) w (fun v21 w =>
 S.op (.bin .neq 3 false true v25 (.int .i64 (-1))) w (fun v100 w =>
 Br v100 (
 S.op (.nilCheck a0) w (fun v102 w =>
 S.op (.fieldAddr 134 v102 0) w (fun v103 w =>
 S.op (.load 132 v103) w (fun v104 w =>
 S.op (.blt .len [132] 3 [v104]) w (fun v105 w =>
 S.op (.mkSlice 132 v105 v105) w (fun v106 w =>
 S.op (.fieldAddr 134 v21 0) w (fun v107 w =>
 S.op (.store 132 v107 v106) w (fun _ w =>
 S.pur (.fieldAddr 134 v21 0) (fun v108 =>
 S.ld (.load 132 v108) w.drew (fun v109 =>
 S.pur (.nilCheck a0) (fun v111 =>
 S.pur (.fieldAddr 134 v111 0) (fun v112 =>
 S.ld (.load 132 v112) w.drew (fun v113 =>
 S.op (.blt .copy [132, 132] 3 [v109, v113]) w.drew (fun v114 w =>
 S.op (.fieldAddr 134 v21 0) w (fun v115 w =>
 S.op (.load 132 v115) w (fun v116 w =>
 S.op (.load 88 v10) w (fun v119 w =>
 S.op (.build 131 [(0, a1), (1, v119)]) w (fun v120 w =>
 S.op (.indexAddr 132 v116 v25) w (fun v121 w =>
 S.op (.store 131 v121 v120) w (fun _ w =>
 S.op (.mkIface 128 v21) w (fun v147 w =>
 K v147 w) Kp) Kp) Kp) Kp) Kp) Kp) Kp) Kp)))))) Kp) Kp) Kp) Kp) Kp) Kp) Kp) (
 S.op (.nilCheck a0) w (fun v123 w =>
 S.op (.fieldAddr 134 v123 0) w (fun v124 w =>
 S.op (.load 132 v124) w (fun v125 w =>
 S.op (.blt .len [132] 3 [v125]) w (fun v126 w =>
 S.op (.bin .add 3 false true v126 (.int .i64 1)) w (fun v127 w =>
 S.op (.mkSlice 132 v127 v127) w (fun v128 w =>
 S.op (.fieldAddr 134 v21 0) w (fun v129 w =>
 S.op (.store 132 v129 v128) w (fun _ w =>
 S.pur (.fieldAddr 134 v21 0) (fun v130 =>
 S.ld (.load 132 v130) w.drew (fun v131 =>
 S.pur (.nilCheck a0) (fun v133 =>
 S.pur (.fieldAddr 134 v133 0) (fun v134 =>
 S.ld (.load 132 v134) w.drew (fun v135 =>
 S.op (.blt .copy [132, 132] 3 [v131, v135]) w.drew (fun v136 w =>
 S.op (.fieldAddr 134 v21 0) w (fun v137 w =>
 S.op (.load 132 v137) w (fun v138 w =>
 S.op (.fieldAddr 134 v21 0) w (fun v139 w =>
 S.op (.load 132 v139) w (fun v140 w =>
 S.op (.blt .len [132] 3 [v140]) w (fun v141 w =>
 S.op (.bin .sub 3 false true v141 (.int .i64 1)) w (fun v142 w =>
 S.op (.load 88 v10) w (fun v144 w =>
 S.op (.build 131 [(0, a1), (1, v144)]) w (fun v145 w =>
 S.op (.indexAddr 132 v138 v142) w (fun v146 w =>
 S.op (.store 131 v146 v145) w (fun _ w =>
 S.op (.mkIface 128 v21) w (fun v147 w =>
 K v147 w) Kp) Kp) Kp) Kp) Kp) Kp) Kp) Kp) Kp) Kp) Kp) Kp)))))) Kp) Kp) Kp) Kp) Kp) Kp) Kp) Kp)) Kp) Kp)))) Kp) Kp
theorem vc88_eq : vc88 S a0 a1 a2 a3 a4 a5 a6 a7 w K Kp = fVC S [(7, [18, 52])] [(4, []), (12, [])] Tryz.f88 [a0, a1, a2, a3, a4, a5, a6, a7] w K Kp := by kernel_rfl
theorem vc88_calls (h : vc88 (nice Tryz.prog) a0 a1 a2 a3 a4 a5 a6 a7 w K Kp) : Calls Tryz.prog 88 #[a0, a1, a2, a3, a4, a5, a6, a7] w (ret K Kp) :=
 fVC_sound (args := [a0, a1, a2, a3, a4, a5, a6, a7]) nice_le follows_MVcS Tryz.func88 (by kernel_rfl) (Eq.mp vc88_eq h)
def vc89 (S : Sig) (a0 a1 a2 : Value) (w : World) (K : KV) (Kp : KP) : Prop :=
 S.op (.box 88 a2) w (fun v5 w =>
 S.op (.load 88 v5) w (fun v9 w =>
 S.op (.build 137 [(0, a0), (1, a1), (2, v9)]) w (fun v10 w =>
 S.op (.box 137 v10) w (fun v11 w =>
 K v11 w) Kp) Kp) Kp) Kp
theorem vc89_eq : vc89 S a0 a1 a2 w K Kp = fVC S [] [] Tryz.f89 [a0, a1, a2] w K Kp := by kernel_rfl
theorem vc89_calls (h : vc89 (nice Tryz.prog) a0 a1 a2 w K Kp) : Calls Tryz.prog 89 #[a0, a1, a2] w (ret K Kp) :=
 fVC_sound (args := [a0, a1, a2]) nice_le follows_MVcS Tryz.func89 (by kernel_rfl) (Eq.mp vc89_eq h)
def vc90 (S : Sig) (a0 a1 a2 a3 a4 a5 a6 : Value) (w : World) (K : KV) (Kp : KP) : Prop :=
 S.pur (.nilCheck a0) (fun v17 =>
 S.pur (.fieldAddr 137 v17 1) (fun v18 =>
 S.ld (.load 2 v18) w.drew (fun v19 =>
 S.pur (.mkFunc (Fn.method "Equal") [a4] []) (fun v21 =>
 S.pur (.nilCheck v21) (fun v22 =>
 S.call (.inv a4 "Equal") [v19, a1] w.drew (fun v24 w =>
 S.pur (.un .not v24) (fun v25 =>
 Br v25 (
 S.op (.mkIface 135 a0) w (fun v27 w =>
 K v27 w) Kp) (
 S.op (.nilCheck a6) w (fun v29 w =>
 S.op (.store 4 v29 (.bool true)) w (fun _ w =>
 K .nilIface w) Kp) Kp))) Kp)))))
theorem vc90_eq : vc90 S a0 a1 a2 a3 a4 a5 a6 w K Kp = fVC S [] [] Tryz.f90 [a0, a1, a2, a3, a4, a5, a6] w K Kp := by kernel_rfl
theorem vc90_calls (h : vc90 (nice Tryz.prog) a0 a1 a2 a3 a4 a5 a6 w K Kp) : Calls Tryz.prog 90 #[a0, a1, a2, a3, a4, a5, a6] w (ret K Kp) :=
 fVC_sound (args := [a0, a1, a2, a3, a4, a5, a6]) nice_le follows_MVcS Tryz.func90 (by kernel_rfl) (Eq.mp vc90_eq h)
def vc91 (S : Sig) (a0 a1 a2 a3 a4 : Value) (w : World) (K : KV) (Kp : KP) : Prop :=
 S.op (.alloc 88) w (fun v10 w =>
 S.pur (.nilCheck a0) (fun v14 =>
 S.pur (.fieldAddr 137 v14 1) (fun v15 =>
 S.ld (.load 2 v15) w.drew (fun v16 =>
 S.pur (.mkFunc (Fn.method "Equal") [a4] []) (fun v18 =>
 S.pur (.nilCheck v18) (fun v19 =>
 S.call (.inv a4 "Equal") [v16, a1] w.drew (fun v21 w =>
 S.pur (.un .not v21) (fun v22 =>
 Br v22 (
 S.op (.load 88 v10) w (fun v23 w =>
 S.op (.store 88 v10 v23) w (fun _ w =>
 S.ld (.load 88 v10) w (fun r0 =>
 K (.tuple #[r0, (.bool false)]) w)) Kp) Kp) (
 S.op (.nilCheck a0) w (fun v25 w =>
 S.op (.fieldAddr 137 v25 2) w (fun v26 w =>
 S.op (.load 88 v26) w (fun v27 w =>
 S.op (.store 88 v10 v27) w (fun _ w =>
 S.ld (.load 88 v10) w (fun r0 =>
 K (.tuple #[r0, (.bool true)]) w)) Kp) Kp) Kp) Kp))) Kp)))))) Kp
theorem vc91_eq : vc91 S a0 a1 a2 a3 a4 w K Kp = fVC S [] [] Tryz.f91 [a0, a1, a2, a3, a4] w K Kp := by kernel_rfl
theorem vc91_calls (h : vc91 (nice Tryz.prog) a0 a1 a2 a3 a4 w K Kp) : Calls Tryz.prog 91 #[a0, a1, a2, a3, a4] w (ret K Kp) :=
 fVC_sound (args := [a0, a1, a2, a3, a4]) nice_le follows_MVcS Tryz.func91 (by kernel_rfl) (Eq.mp vc91_eq h)
def vc92 (S : Sig) (a0 : Value) (w : World) (K : KV) (Kp : KP) : Prop :=
 S.op (.nilCheck a0) w (fun v4 w =>
 S.op (.fieldAddr 137 v4 0) w (fun v5 w =>
 S.op (.load 22 v5) w (fun v6 w =>
 K v6 w) Kp) Kp) Kp
theorem vc92_eq : vc92 S a0 w K Kp = fVC S [] [] Tryz.f92 [a0] w K Kp := by kernel_rfl
theorem vc92_calls (h : vc92 (nice Tryz.prog) a0 w K Kp) : Calls Tryz.prog 92 #[a0] w (ret K Kp) :=
 fVC_sound (args := [a0]) nice_le follows_MVcS Tryz.func92 (by kernel_rfl) (Eq.mp vc92_eq h)
def vc93 (S : Sig) (a0 a1 a2 a3 a4 a5 a6 a7 : Value) (w : World) (K : KV) (Kp : KP) : Prop :=
 S.op (.box 88 a2) w (fun v10 w =>
 S.pur (.nilCheck a0) (fun v19 =>
 S.pur (.fieldAddr 137 v19 1) (fun v20 =>
 S.ld (.load 2 v20) w.drew (fun v21 =>
 S.pur (.mkFunc (Fn.method "Equal") [a5] []) (fun v23 =>
 S.pur (.nilCheck v23) (fun v24 =>
 S.call (.inv a5 "Equal") [v21, a1] w.drew (fun v26 w =>
 Br v26 (
 Br a6 (
 S.op (.load 88 v10) w (fun v29 w =>
 S.op (.nilCheck a0) w (fun v30 w =>
 S.op (.fieldAddr 137 v30 2) w (fun v31 w =>
 S.op (.store 88 v31 v29) w (fun _ w =>
 S.op (.mkIface 135 a0) w (fun v33 w =>
 K v33 w) Kp) Kp) Kp) Kp) Kp) (
 S.pur (.nilCheck a0) (fun v35 =>
 S.pur (.fieldAddr 137 v35 0) (fun v36 =>
 S.ld (.load 22 v36) w.drew (fun v37 =>
 S.ld (.load 88 v10) w.drew (fun v39 =>
 S.call (.fn 89) [v37, a1, v39] w.drew (fun v40 w =>
 S.pur (.mkIface 135 v40) (fun v41 =>
 K v41 w)) Kp)))))) (
 S.op (.nilCheck a7) w (fun v43 w =>
 S.op (.store 4 v43 (.bool true)) w (fun _ w =>
 S.op (.nilCheck a0) w (fun v45 w =>
 S.op (.fieldAddr 137 v45 0) w (fun v46 w =>
 S.op (.load 22 v46) w (fun v47 w =>
 S.op (.bin .neq 22 false false v47 a4) w (fun v49 w =>
 Br v49 (
 S.op (.mkIface 135 a0) w (fun v51 w =>
 S.op (.load 88 v10) w (fun v55 w =>
 S.call (.fn 94) [v51, a3, a4, a1, v55] w (fun v56 w =>
 K v56 w) Kp) Kp) Kp) (
 S.pur (.nilCheck a0) (fun v59 =>
 S.pur (.fieldAddr 137 v59 1) (fun v60 =>
 S.ld (.load 2 v60) w.drew (fun v61 =>
 S.pur (.nilCheck a0) (fun v63 =>
 S.ld (.fieldAddr 137 v63 2) w.drew (fun v64 =>
 S.ld (.load 88 v64) w.drew (fun v65 =>
 S.pur (.build 131 [(0, v61), (1, v65)]) (fun v66 =>
 S.ld (.load 88 v10) w.drew (fun v68 =>
 S.pur (.build 131 [(0, a1), (1, v68)]) (fun v69 =>
 S.op (.buildSlice 132 2 [(0, v66), (1, v69)]) w.drew (fun v70 w =>
 S.pur (.build 140 [(0, a4), (1, v70)]) (fun v71 =>
 S.op (.box 140 v71) w (fun v72 w =>
 S.pur (.mkIface 138 v72) (fun v73 =>
 K v73 w)) Kp)) Kp))))))))))) Kp) Kp) Kp) Kp) Kp) Kp)) Kp)))))) Kp
theorem vc93_eq : vc93 S a0 a1 a2 a3 a4 a5 a6 a7 w K Kp = fVC S [] [] Tryz.f93 [a0, a1, a2, a3, a4, a5, a6, a7] w K Kp := by kernel_rfl
theorem vc93_calls (h : vc93 (nice Tryz.prog) a0 a1 a2 a3 a4 a5 a6 a7 w K Kp) : Calls Tryz.prog 93 #[a0, a1, a2, a3, a4, a5, a6, a7] w (ret K Kp) :=
 fVC_sound (args := [a0, a1, a2, a3, a4, a5, a6, a7]) nice_le follows_MVcS Tryz.func93 (by kernel_rfl) (Eq.mp vc93_eq h)
def vc94 (S : Sig) (a0 a1 a2 a3 a4 : Value) (w : World) (K : KV) (Kp : KP) : Prop :=
 S.op (.box 88 a4) w (fun v9 w =>
 S.call (.inv a0 "pub-bracken/pub/immutable.keyHashValue") [] w (fun v16 w =>
 S.op (.bin .shr 22 false false v16 a1) w (fun v18 w =>
 S.op (.bin .and 22 false true v18 (.int .u32 31)) w (fun v19 w =>
 S.op (.bin .shr 22 false false a2 a1) w (fun v22 w =>
 S.op (.bin .and 22 false true v22 (.int .u32 31)) w (fun v23 w =>
 S.op (.bin .shl 22 true false (.int .u32 1) v19) w (fun v25 w =>
 S.op (.bin .shl 22 true false (.int .u32 1) v23) w (fun v27 w =>
 S.op (.bin .or 22 false false v25 v27) w (fun v28 w =>
 S.op (.build 169 [(0, v28)]) w (fun v29 w =>
 S.op (.box 169 v29) w (fun v30 w =>
 S.op (.bin .eql 22 false false v19 v23) w (fun v33 w =>
 Br v33 (
 S.op (.bin .add 144 false true a1 (.int .u64 5)) w (fun v37 w =>
 S.op (.load 88 v9) w (fun v40 w =>
 S.call (.fn 94) [a0, v37, a2, a3, v40] w (fun v41 w =>
 S.op (.buildSlice 167 1 [(0, v41)]) w (fun v42 w =>
 S.op (.nilCheck v30) w (fun v43 w =>
 S.op (.fieldAddr 169 v43 1) w (fun v44 w =>
 S.op (.store 167 v44 v42) w (fun _ w =>
 S.op (.mkIface 166 v30) w (fun v67 w =>
 K v67 w) Kp) Kp) Kp) Kp) Kp) Kp) Kp) Kp) (
 S.op (.load 88 v9) w (fun v47 w =>
 S.call (.fn 89) [a2, a3, v47] w (fun v48 w =>
 S.op (.bin .lss 22 false false v19 v23) w (fun v51 w =>
 Br v51 (
 S.op (.mkIface 135 v48) w (fun v55 w =>
 S.op (.buildSlice 167 2 [(0, a0), (1, v55)]) w (fun v56 w =>
 S.op (.nilCheck v30) w (fun v57 w =>
 S.op (.fieldAddr 169 v57 1) w (fun v58 w =>
 S.op (.store 167 v58 v56) w (fun _ w =>
 S.op (.mkIface 166 v30) w (fun v67 w =>
 K v67 w) Kp) Kp) Kp) Kp) Kp) Kp) (
 S.op (.mkIface 135 v48) w (fun v61 w =>
 S.op (.buildSlice 167 2 [(0, v61), (1, a0)]) w (fun v63 w =>
 S.op (.nilCheck v30) w (fun v64 w =>
 S.op (.fieldAddr 169 v64 1) w (fun v65 w =>
 S.op (.store 167 v65 v63) w (fun _ w =>
 S.op (.mkIface 166 v30) w (fun v67 w =>
 K v67 w) Kp) Kp) Kp) Kp) Kp) Kp)) Kp) Kp) Kp)) Kp) Kp) Kp) Kp) Kp) Kp) Kp) Kp) Kp) Kp) Kp) Kp
theorem vc94_eq : vc94 S a0 a1 a2 a3 a4 w K Kp = fVC S [] [] Tryz.f94 [a0, a1, a2, a3, a4] w K Kp := by kernel_rfl
theorem vc94_calls (h : vc94 (nice Tryz.prog) a0 a1 a2 a3 a4 w K Kp) : Calls Tryz.prog 94 #[a0, a1, a2, a3, a4] w (ret K Kp) :=
 fVC_sound (args := [a0, a1, a2, a3, a4]) nice_le follows_MVcS Tryz.func94 (by kernel_rfl) (Eq.mp vc94_eq h)
def vc95 (S : Sig) (a0 a1 a2 a3 a4 a5 a6 : Value) (w : World) (K : KV) (Kp : KP) : Prop :=
 S.call (.fn 99) [a0, a1, a4] w (fun v20 w =>
 S.op (.bin .eql 3 false true v20 (.int .i64 (-1))) w (fun v22 w =>
 Br v22 (
 S.op (.mkIface 138 a0) w (fun v24 w =>
 K v24 w) Kp) (
 S.op (.nilCheck a6) w (fun v26 w =>
 S.op (.store 4 v26 (.bool true)) w (fun _ w =>
 S.op (.nilCheck a0) w (fun v28 w =>
 S.op (.fieldAddr 140 v28 1) w (fun v29 w =>
 S.op (.load 132 v29) w (fun v30 w =>
 S.op (.blt .len [132] 3 [v30]) w (fun v31 w =>
 S.op (.bin .eql 3 false true v31 (.int .i64 2)) w (fun v32 w =>
 Br v32 (
 S.pur (.nilCheck a0) (fun v34 =>
 S.pur (.fieldAddr 140 v34 0) (fun v35 =>
 S.ld (.load 22 v35) w.drew (fun v36 =>
 S.pur (.nilCheck a0) (fun v38 =>
 S.pur (.fieldAddr 140 v38 1) (fun v39 =>
 S.ld (.load 132 v39) w.drew (fun v40 =>
 S.pur (.bin .xor 3 false true v20 (.int .i64 1)) (fun v42 =>
 S.pur (.indexAddr 132 v40 v42) (fun v43 =>
 S.pur (.fieldAddr 131 v43 0) (fun v44 =>
 S.ld (.load 2 v44) w.drew (fun v45 =>
 S.pur (.nilCheck a0) (fun v47 =>
 S.pur (.fieldAddr 140 v47 1) (fun v48 =>
 S.ld (.load 132 v48) w.drew (fun v49 =>
 S.pur (.bin .xor 3 false true v20 (.int .i64 1)) (fun v51 =>
 S.pur (.indexAddr 132 v49 v51) (fun v52 =>
 S.ld (.fieldAddr 131 v52 1) w.drew (fun v53 =>
 S.ld (.load 88 v53) w.drew (fun v54 =>
 S.pur (.build 137 [(0, v36), (1, v45), (2, v54)]) (fun v55 =>
 S.op (.box 137 v55) w.drew (fun v56 w =>
 S.pur (.mkIface 135 v56) (fun v57 =>
 K v57 w)) Kp))))))))))))))))))) (
 Br a5 (
 S.pur (.nilCheck a0) (fun v60 =>
 S.pur (.fieldAddr 140 v60 1) (fun v61 =>
 S.ld (.load 132 v61) w.drew (fun v62 =>
 S.pur (.slice 132 v62 (some v20) none none) (fun v64 =>
 S.pur (.nilCheck a0) (fun v66 =>
 S.pur (.fieldAddr 140 v66 1) (fun v67 =>
 S.ld (.load 132 v67) w.drew (fun v68 =>
 S.pur (.bin .add 3 false true v20 (.int .i64 1)) (fun v70 =>
 S.pur (.slice 132 v68 (some v70) none none) (fun v71 =>
 S.op (.blt .copy [132, 132] 3 [v64, v71]) w.drew (fun v72 w =>
 S.pur (.nilCheck a0) (fun v74 =>
 S.pur (.fieldAddr 140 v74 1) (fun v75 =>
 S.ld (.load 132 v75) w.drew (fun v76 =>
 S.pur (.nilCheck a0) (fun v78 =>
 S.pur (.fieldAddr 140 v78 1) (fun v79 =>
 S.ld (.load 132 v79) w.drew (fun v80 =>
 S.ld (.blt .len [132] 3 [v80]) w.drew (fun v81 =>
 S.pur (.bin .sub 3 false true v81 (.int .i64 1)) (fun v82 =>
 S.pur (.build 131 []) (fun v83 =>
 S.pur (.indexAddr 132 v76 v82) (fun v84 =>
 S.op (.store 131 v84 v83) w.drew (fun _ w =>
 S.pur (.nilCheck a0) (fun v87 =>
 S.pur (.fieldAddr 140 v87 1) (fun v88 =>
 S.ld (.load 132 v88) w.drew (fun v89 =>
 S.pur (.nilCheck a0) (fun v91 =>
 S.pur (.fieldAddr 140 v91 1) (fun v92 =>
 S.ld (.load 132 v92) w.drew (fun v93 =>
 S.ld (.blt .len [132] 3 [v93]) w.drew (fun v94 =>
 S.pur (.bin .sub 3 false true v94 (.int .i64 1)) (fun v95 =>
 S.pur (.slice 132 v89 none (some v95) none) (fun v96 =>
 S.pur (.nilCheck a0) (fun v97 =>
 S.pur (.fieldAddr 140 v97 1) (fun v98 =>
 S.op (.store 132 v98 v96) w.drew (fun _ w =>
 S.op (.mkIface 138 a0) w (fun v100 w =>
 K v100 w) Kp) Kp)))))))))))) Kp))))))))))) Kp)))))))))) (
 S.pur (.nilCheck a0) (fun v102 =>
 S.pur (.fieldAddr 140 v102 0) (fun v103 =>
 S.ld (.load 22 v103) w.drew (fun v104 =>
 S.pur (.nilCheck a0) (fun v106 =>
 S.pur (.fieldAddr 140 v106 1) (fun v107 =>
 S.ld (.load 132 v107) w.drew (fun v108 =>
 S.ld (.blt .len [132] 3 [v108]) w.drew (fun v109 =>
 S.pur (.bin .sub 3 false true v109 (.int .i64 1)) (fun v110 =>
 S.op (.mkSlice 132 v110 v110) w.drew (fun v111 w =>
 S.same (.load 22 v103) v104 w ∧
 S.pur (.build 140 [(0, v104), (1, v111)]) (fun v112 =>
 S.op (.box 140 v112) w (fun v113 w =>
 S.pur (.nilCheck v113) (fun v115 =>
 S.pur (.fieldAddr 140 v115 1) (fun v116 =>
 S.ld (.load 132 v116) w.drew (fun v117 =>
 S.pur (.slice 132 v117 none (some v20) none) (fun v119 =>
 S.pur (.nilCheck a0) (fun v121 =>
 S.pur (.fieldAddr 140 v121 1) (fun v122 =>
 S.ld (.load 132 v122) w.drew (fun v123 =>
 S.pur (.slice 132 v123 none (some v20) none) (fun v125 =>
 S.op (.blt .copy [132, 132] 3 [v119, v125]) w.drew (fun v126 w =>
 S.pur (.nilCheck v113) (fun v128 =>
 S.pur (.fieldAddr 140 v128 1) (fun v129 =>
 S.ld (.load 132 v129) w.drew (fun v130 =>
 S.pur (.slice 132 v130 (some v20) none none) (fun v132 =>
 S.pur (.nilCheck a0) (fun v134 =>
 S.pur (.fieldAddr 140 v134 1) (fun v135 =>
 S.ld (.load 132 v135) w.drew (fun v136 =>
 S.pur (.bin .add 3 false true v20 (.int .i64 1)) (fun v138 =>
 S.pur (.slice 132 v136 (some v138) none none) (fun v139 =>
 S.op (.blt .copy [132, 132] 3 [v132, v139]) w.drew (fun v140 w =>
 S.op (.mkIface 138 v113) w (fun v142 w =>
 K v142 w) Kp) Kp)))))))))) Kp))))))))) Kp)) Kp))))))))))) Kp) Kp) Kp) Kp) Kp) Kp) Kp)) Kp) Kp
theorem vc95_eq : vc95 S a0 a1 a2 a3 a4 a5 a6 w K Kp = fVC S [] [] Tryz.f95 [a0, a1, a2, a3, a4, a5, a6] w K Kp := by kernel_rfl
theorem vc95_calls (h : vc95 (nice Tryz.prog) a0 a1 a2 a3 a4 a5 a6 w K Kp) : Calls Tryz.prog 95 #[a0, a1, a2, a3, a4, a5, a6] w (ret K Kp) :=
 fVC_sound (args := [a0, a1, a2, a3, a4, a5, a6]) nice_le follows_MVcS Tryz.func95 (by kernel_rfl) (Eq.mp vc95_eq h)
def vc96 (S : Sig) (a0 a1 a2 a3 a4 : Value) (w : World) (K : KV) (Kp : KP) : Prop :=
 S.op (.alloc 88) w (fun v10 w =>
 S.op (.nilCheck a0) w (fun v14 w =>
 S.op (.fieldAddr 140 v14 1) w (fun v15 w =>
 S.op (.load 132 v15) w (fun v16 w =>
 S.op (.blt .len [132] 3 [v16]) w (fun v17 w =>
 Lp fun (I2 : KV) (μ2 : Value → World → Nat) => I2 (.int .i64 0) w ∧
 ∀ (wl2 : World) (junk : Nat → Value) (s18 : Value), I2 s18 wl2 →
 S.op (.bin .lss 3 false false s18 v17) wl2 (fun v19 w =>
 Br v19 (
 S.pur (.nilCheck a0) (fun v23 =>
 S.pur (.fieldAddr 140 v23 1) (fun v24 =>
 S.ld (.load 132 v24) w.drew (fun v25 =>
 S.pur (.indexAddr 132 v25 s18) (fun v27 =>
 S.pur (.fieldAddr 131 v27 0) (fun v28 =>
 S.ld (.load 2 v28) w.drew (fun v29 =>
 S.pur (.mkFunc (Fn.method "Equal") [a4] []) (fun v31 =>
 S.pur (.nilCheck v31) (fun v32 =>
 S.call (.inv a4 "Equal") [v29, a1] w.drew (fun v34 w =>
 Br v34 (
 S.op (.nilCheck a0) w (fun v36 w =>
 S.op (.fieldAddr 140 v36 1) w (fun v37 w =>
 S.op (.load 132 v37) w (fun v38 w =>
 S.op (.indexAddr 132 v38 s18) w (fun v40 w =>
 S.op (.fieldAddr 131 v40 1) w (fun v41 w =>
 S.op (.load 88 v41) w (fun v42 w =>
 S.op (.store 88 v10 v42) w (fun _ w =>
 S.ld (.load 88 v10) w (fun r0 =>
 K (.tuple #[r0, (.bool true)]) w)) Kp) Kp) Kp) Kp) Kp) Kp) Kp) (
 S.op (.bin .add 3 false true s18 (.int .i64 1)) w (fun v43 w =>
 I2 v43 w ∧ μ2 v43 w < μ2 s18 wl2) Kp)) Kp))))))))) (
 S.op (.load 88 v10) w (fun v44 w =>
 S.op (.store 88 v10 v44) w (fun _ w =>
 S.ld (.load 88 v10) w (fun r0 =>
 K (.tuple #[r0, (.bool false)]) w)) Kp) Kp)) Kp) Kp) Kp) Kp) Kp) Kp
theorem vc96_eq : vc96 S a0 a1 a2 a3 a4 w K Kp = fVC S [(2, [18])] [] Tryz.f96 [a0, a1, a2, a3, a4] w K Kp := by kernel_rfl
theorem vc96_calls (h : vc96 (nice Tryz.prog) a0 a1 a2 a3 a4 w K Kp) : Calls Tryz.prog 96 #[a0, a1, a2, a3, a4] w (ret K Kp) :=
 fVC_sound (args := [a0, a1, a2, a3, a4]) nice_le follows_MVcS Tryz.func96 (by kernel_rfl) (Eq.mp vc96_eq h)
def vc99 (S : Sig) (a0 a1 a2 : Value) (w : World) (K : KV) (Kp : KP) : Prop :=
 S.op (.nilCheck a0) w (fun v9 w =>
 S.op (.fieldAddr 140 v9 1) w (fun v10 w =>
 S.op (.load 132 v10) w (fun v11 w =>
 S.op (.blt .len [132] 3 [v11]) w (fun v12 w =>
 Lp fun (I2 : KV) (μ2 : Value → World → Nat) => I2 (.int .i64 0) w ∧
 ∀ (wl2 : World) (junk : Nat → Value) (s13 : Value), I2 s13 wl2 →
 S.op (.bin .lss 3 false false s13 v12) wl2 (fun v14 w =>
 Br v14 (
 S.pur (.nilCheck a0) (fun v18 =>
 S.pur (.fieldAddr 140 v18 1) (fun v19 =>
 S.ld (.load 132 v19) w.drew (fun v20 =>
 S.pur (.indexAddr 132 v20 s13) (fun v22 =>
 S.pur (.fieldAddr 131 v22 0) (fun v23 =>
 S.ld (.load 2 v23) w.drew (fun v24 =>
 S.pur (.mkFunc (Fn.method "Equal") [a2] []) (fun v26 =>
 S.pur (.nilCheck v26) (fun v27 =>
 S.call (.inv a2 "Equal") [v24, a1] w.drew (fun v29 w =>
 Br v29 (
 K s13 w) (
 S.op (.bin .add 3 false true s13 (.int .i64 1)) w (fun v31 w =>
 I2 v31 w ∧ μ2 v31 w < μ2 s13 wl2) Kp)) Kp))))))))) (
 K (.int .i64 (-1)) w)) Kp) Kp) Kp) Kp) Kp
theorem vc99_eq : vc99 S a0 a1 a2 w K Kp = fVC S [(2, [13])] [] Tryz.f99 [a0, a1, a2] w K Kp := by kernel_rfl
theorem vc99_calls (h : vc99 (nice Tryz.prog) a0 a1 a2 w K Kp) : Calls Tryz.prog 99 #[a0, a1, a2] w (ret K Kp) :=
 fVC_sound (args := [a0, a1, a2]) nice_le follows_MVcS Tryz.func99 (by kernel_rfl) (Eq.mp vc99_eq h)
def vc97 (S : Sig) (a0 : Value) (w : World) (K : KV) (Kp : KP) : Prop :=
 S.op (.nilCheck a0) w (fun v4 w =>
 S.op (.fieldAddr 140 v4 0) w (fun v5 w =>
 S.op (.load 22 v5) w (fun v6 w =>
 K v6 w) Kp) Kp) Kp
theorem vc97_eq : vc97 S a0 w K Kp = fVC S [] [] Tryz.f97 [a0] w K Kp := by kernel_rfl
theorem vc97_calls (h : vc97 (nice Tryz.prog) a0 w K Kp) : Calls Tryz.prog 97 #[a0] w (ret K Kp) :=
 fVC_sound (args := [a0]) nice_le follows_MVcS Tryz.func97 (by kernel_rfl) (Eq.mp vc97_eq h)
def vc98 (S : Sig) (a0 a1 a2 a3 a4 a5 a6 a7 : Value) (w : World) (K : KV) (Kp : KP) : Prop :=
 S.op (.box 88 a2) w (fun v10 w =>
 S.op (.nilCheck a0) w (fun v21 w =>
 S.op (.fieldAddr 140 v21 0) w (fun v22 w =>
 S.op (.load 22 v22) w (fun v23 w =>
 S.op (.bin .neq 22 false false v23 a4) w (fun v25 w =>
 Br v25 (
 S.op (.nilCheck a7) w (fun v27 w =>
 S.op (.store 4 v27 (.bool true)) w (fun _ w =>
 S.op (.mkIface 138 a0) w (fun v29 w =>
 S.op (.load 88 v10) w (fun v33 w =>
 S.call (.fn 94) [v29, a3, a4, a1, v33] w (fun v34 w =>
 K v34 w) Kp) Kp) Kp) Kp) Kp) (
 Br a6 (
 S.call (.fn 99) [a0, a1, a5] w (fun v39 w =>
 S.op (.bin .eql 3 false true v39 (.int .i64 (-1))) w (fun v41 w =>
 Br v41 (
 S.op (.nilCheck a7) w (fun v43 w =>
 S.op (.store 4 v43 (.bool true)) w (fun _ w =>
 S.pur (.nilCheck a0) (fun v46 =>
 S.pur (.fieldAddr 140 v46 1) (fun v47 =>
 S.ld (.load 132 v47) w.drew (fun v48 =>
 S.ld (.load 88 v10) w.drew (fun v50 =>
 S.pur (.build 131 [(0, a1), (1, v50)]) (fun v51 =>
 S.op (.buildSlice 132 1 [(0, v51)]) w.drew (fun v52 w =>
 S.same (.load 132 v47) v48 w ∧
 S.op (.blt .append [132, 132] 132 [v48, v52]) w (fun v53 w =>
 S.pur (.nilCheck a0) (fun v54 =>
 S.pur (.fieldAddr 140 v54 1) (fun v55 =>
 S.op (.store 132 v55 v53) w (fun _ w =>
 S.op (.mkIface 138 a0) w (fun v66 w =>
 K v66 w) Kp) Kp))) Kp) Kp)))))) Kp) Kp) (
 S.pur (.nilCheck a0) (fun v57 =>
 S.pur (.fieldAddr 140 v57 1) (fun v58 =>
 S.ld (.load 132 v58) w.drew (fun v59 =>
 S.ld (.load 88 v10) w.drew (fun v62 =>
 S.pur (.build 131 [(0, a1), (1, v62)]) (fun v63 =>
 S.pur (.indexAddr 132 v59 v39) (fun v64 =>
 S.op (.store 131 v64 v63) w.drew (fun _ w =>
 S.op (.mkIface 138 a0) w (fun v66 w =>
 K v66 w) Kp) Kp)))))))) Kp) Kp) (
 S.op (.nilCheck a0) w (fun v68 w =>
 S.op (.fieldAddr 140 v68 0) w (fun v69 w =>
 S.op (.load 22 v69) w (fun v70 w =>
 S.op (.build 140 [(0, v70)]) w (fun v71 w =>
 S.op (.box 140 v71) w (fun v72 w =>
 S.call (.fn 99) [a0, a1, a5] w (fun v76 w =>
 S.op (.bin .eql 3 false true v76 (.int .i64 (-1))) w (fun v78 w =>
 Br v78 (
 S.op (.nilCheck a7) w (fun v80 w =>
 S.op (.store 4 v80 (.bool true)) w (fun _ w =>
 S.op (.nilCheck a0) w (fun v83 w =>
 S.op (.fieldAddr 140 v83 1) w (fun v84 w =>
 S.op (.load 132 v84) w (fun v85 w =>
 S.op (.blt .len [132] 3 [v85]) w (fun v86 w =>
 S.op (.bin .add 3 false true v86 (.int .i64 1)) w (fun v87 w =>
 S.op (.mkSlice 132 v87 v87) w (fun v88 w =>
 S.op (.nilCheck v72) w (fun v89 w =>
 S.op (.fieldAddr 140 v89 1) w (fun v90 w =>
 S.op (.store 132 v90 v88) w (fun _ w =>
 S.pur (.nilCheck v72) (fun v92 =>
 S.pur (.fieldAddr 140 v92 1) (fun v93 =>
 S.ld (.load 132 v93) w.drew (fun v94 =>
 S.pur (.nilCheck a0) (fun v96 =>
 S.pur (.fieldAddr 140 v96 1) (fun v97 =>
 S.ld (.load 132 v97) w.drew (fun v98 =>
 S.op (.blt .copy [132, 132] 3 [v94, v98]) w.drew (fun v99 w =>
 S.pur (.nilCheck v72) (fun v101 =>
 S.pur (.fieldAddr 140 v101 1) (fun v102 =>
 S.ld (.load 132 v102) w.drew (fun v103 =>
 S.pur (.nilCheck v72) (fun v105 =>
 S.pur (.fieldAddr 140 v105 1) (fun v106 =>
 S.ld (.load 132 v106) w.drew (fun v107 =>
 S.ld (.blt .len [132] 3 [v107]) w.drew (fun v108 =>
 S.pur (.bin .sub 3 false true v108 (.int .i64 1)) (fun v109 =>
 S.ld (.load 88 v10) w.drew (fun v111 =>
 S.pur (.build 131 [(0, a1), (1, v111)]) (fun v112 =>
 S.pur (.indexAddr 132 v103 v109) (fun v113 =>
 S.op (.store 131 v113 v112) w.drew (fun _ w =>
 S.op (.mkIface 138 v72) w (fun v142 w =>
 K v142 w) Kp) Kp)))))))))))) Kp))))))) Kp) Kp) Kp) Kp) Kp) Kp) Kp) Kp) Kp) Kp) Kp) (
 S.op (.nilCheck a0) w (fun v116 w =>
 S.op (.fieldAddr 140 v116 1) w (fun v117 w =>
 S.op (.load 132 v117) w (fun v118 w =>
 S.op (.blt .len [132] 3 [v118]) w (fun v119 w =>
 S.op (.mkSlice 132 v119 v119) w (fun v120 w =>
 S.op (.nilCheck v72) w (fun v121 w =>
 S.op (.fieldAddr 140 v121 1) w (fun v122 w =>
 S.op (.store 132 v122 v120) w (fun _ w =>
 S.pur (.nilCheck v72) (fun v124 =>
 S.pur (.fieldAddr 140 v124 1) (fun v125 =>
 S.ld (.load 132 v125) w.drew (fun v126 =>
 S.pur (.nilCheck a0) (fun v128 =>
 S.pur (.fieldAddr 140 v128 1) (fun v129 =>
 S.ld (.load 132 v129) w.drew (fun v130 =>
 S.op (.blt .copy [132, 132] 3 [v126, v130]) w.drew (fun v131 w =>
 S.pur (.nilCheck v72) (fun v133 =>
 S.pur (.fieldAddr 140 v133 1) (fun v134 =>
 S.ld (.load 132 v134) w.drew (fun v135 =>
 S.ld (.load 88 v10) w.drew (fun v138 =>
 S.pur (.build 131 [(0, a1), (1, v138)]) (fun v139 =>
 S.pur (.indexAddr 132 v135 v76) (fun v140 =>
 S.op (.store 131 v140 v139) w.drew (fun _ w =>
 S.op (.mkIface 138 v72) w (fun v142 w =>
 K v142 w) Kp) Kp))))))) Kp))))))) Kp) Kp) Kp) Kp) Kp) Kp) Kp) Kp)) Kp) Kp) Kp) Kp) Kp) Kp) Kp))) Kp) Kp) Kp) Kp) Kp
theorem vc98_eq : vc98 S a0 a1 a2 a3 a4 a5 a6 a7 w K Kp = fVC S [] [] Tryz.f98 [a0, a1, a2, a3, a4, a5, a6, a7] w K Kp := by kernel_rfl
theorem vc98_calls (h : vc98 (nice Tryz.prog) a0 a1 a2 a3 a4 a5 a6 a7 w K Kp) : Calls Tryz.prog 98 #[a0, a1, a2, a3, a4, a5, a6, a7] w (ret K Kp) :=
 fVC_sound (args := [a0, a1, a2, a3, a4, a5, a6, a7]) nice_le follows_MVcS Tryz.func98 (by kernel_rfl) (Eq.mp vc98_eq h)
def vc115 (S : Sig) (a0 a1 a2 a3 a4 a5 a6 : Value) (w : World) (K : KV) (Kp : KP) : Prop :=
 S.op (.bin .shr 22 false false a3 a2) w (fun v23 w =>
 S.op (.bin .and 22 false true v23 (.int .u32 31)) w (fun v24 w =>
 S.op (.bin .shl 22 true false (.int .u32 1) v24) w (fun v25 w =>
 S.op (.nilCheck a0) w (fun v27 w =>
 S.op (.fieldAddr 169 v27 0) w (fun v28 w =>
 S.op (.load 22 v28) w (fun v29 w =>
 S.op (.bin .and 22 false false v29 v25) w (fun v31 w =>
 S.op (.bin .eql 22 false true v31 (.int .u32 0)) w (fun v32 w =>
 Br v32 (
 S.op (.mkIface 166 a0) w (fun v34 w =>
 K v34 w) Kp) (
 S.op (.nilCheck a0) w (fun v36 w =>
 S.op (.fieldAddr 169 v36 0) w (fun v37 w =>
 S.op (.load 22 v37) w (fun v38 w =>
 S.op (.bin .sub 22 false true v25 (.int .u32 1)) w (fun v40 w =>
 S.op (.bin .and 22 false false v38 v40) w (fun v41 w =>
 S.call (.fn 118) [v41] w (fun v42 w =>
 S.op (.nilCheck a0) w (fun v44 w =>
 S.op (.fieldAddr 169 v44 1) w (fun v45 w =>
 S.op (.load 167 v45) w (fun v46 w =>
 S.op (.indexAddr 167 v46 v42) w (fun v48 w =>
 S.op (.load 119 v48) w (fun v49 w =>
 S.op (.bin .add 144 false true a2 (.int .u64 5)) w (fun v53 w =>
 S.call (.inv v49 "pub-bracken/pub/immutable.delete") [a1, v53, a3, a4, a5, a6] w (fun v58 w =>
 S.op (.nilCheck a6) w (fun v60 w =>
 S.op (.load 4 v60) w (fun v61 w =>
 S.op (.un .not v61) w (fun v62 w =>
 Br v62 (
 S.op (.mkIface 166 a0) w (fun v64 w =>
 K v64 w) Kp) (
 S.op (.bin .eql 119 false true v58 .nilIface) w (fun v66 w =>
 Br v66 (
 S.op (.nilCheck a0) w (fun v68 w =>
 S.op (.fieldAddr 169 v68 1) w (fun v69 w =>
 S.op (.load 167 v69) w (fun v70 w =>
 S.op (.blt .len [167] 3 [v70]) w (fun v71 w =>
 S.op (.bin .eql 3 false true v71 (.int .i64 1)) w (fun v72 w =>
 Br v72 (
 K .nilIface w) (
 Br a5 (
 S.op (.nilCheck a0) w (fun v75 w =>
 S.op (.fieldAddr 169 v75 0) w (fun v76 w =>
 S.op (.load 22 v76) w (fun v77 w =>
 S.op (.bin .xor 22 false false v77 v25) w (fun v79 w =>
 S.op (.nilCheck a0) w (fun v80 w =>
 S.op (.fieldAddr 169 v80 0) w (fun v81 w =>
 S.op (.store 22 v81 v79) w (fun _ w =>
 S.pur (.nilCheck a0) (fun v83 =>
 S.pur (.fieldAddr 169 v83 1) (fun v84 =>
 S.ld (.load 167 v84) w.drew (fun v85 =>
 S.pur (.slice 167 v85 (some v42) none none) (fun v87 =>
 S.pur (.nilCheck a0) (fun v89 =>
 S.pur (.fieldAddr 169 v89 1) (fun v90 =>
 S.ld (.load 167 v90) w.drew (fun v91 =>
 S.pur (.bin .add 3 false true v42 (.int .i64 1)) (fun v93 =>
 S.pur (.slice 167 v91 (some v93) none none) (fun v94 =>
 S.op (.blt .copy [167, 167] 3 [v87, v94]) w.drew (fun v95 w =>
 S.pur (.nilCheck a0) (fun v97 =>
 S.pur (.fieldAddr 169 v97 1) (fun v98 =>
 S.ld (.load 167 v98) w.drew (fun v99 =>
 S.pur (.nilCheck a0) (fun v101 =>
 S.pur (.fieldAddr 169 v101 1) (fun v102 =>
 S.ld (.load 167 v102) w.drew (fun v103 =>
 S.ld (.blt .len [167] 3 [v103]) w.drew (fun v104 =>
 S.pur (.bin .sub 3 false true v104 (.int .i64 1)) (fun v105 =>
 S.pur (.indexAddr 167 v99 v105) (fun v106 =>
 S.op (.store 119 v106 .nilIface) w.drew (fun _ w =>
 S.pur (.nilCheck a0) (fun v109 =>
 S.pur (.fieldAddr 169 v109 1) (fun v110 =>
 S.ld (.load 167 v110) w.drew (fun v111 =>
 S.pur (.nilCheck a0) (fun v113 =>
 S.pur (.fieldAddr 169 v113 1) (fun v114 =>
 S.ld (.load 167 v114) w.drew (fun v115 =>
 S.ld (.blt .len [167] 3 [v115]) w.drew (fun v116 =>
 S.pur (.bin .sub 3 false true v116 (.int .i64 1)) (fun v117 =>
 S.pur (.slice 167 v111 none (some v117) none) (fun v118 =>
 S.pur (.nilCheck a0) (fun v119 =>
 S.pur (.fieldAddr 169 v119 1) (fun v120 =>
 S.op (.store 167 v120 v118) w.drew (fun _ w =>
 S.op (.mkIface 166 a0) w (fun v122 w =>
 K v122 w) Kp) Kp)))))))))))) Kp)))))))))) Kp)))))))))) Kp) Kp) Kp) Kp) Kp) Kp) Kp) (
 S.pur (.nilCheck a0) (fun v124 =>
 S.pur (.fieldAddr 169 v124 0) (fun v125 =>
 S.ld (.load 22 v125) w.drew (fun v126 =>
 S.pur (.bin .xor 22 false false v126 v25) (fun v128 =>
 S.pur (.nilCheck a0) (fun v130 =>
 S.pur (.fieldAddr 169 v130 1) (fun v131 =>
 S.ld (.load 167 v131) w.drew (fun v132 =>
 S.ld (.blt .len [167] 3 [v132]) w.drew (fun v133 =>
 S.pur (.bin .sub 3 false true v133 (.int .i64 1)) (fun v134 =>
 S.op (.mkSlice 167 v134 v134) w.drew (fun v135 w =>
 S.same (.load 22 v125) v126 w ∧
 S.pur (.build 169 [(0, v128), (1, v135)]) (fun v136 =>
 S.op (.box 169 v136) w (fun v137 w =>
 S.pur (.nilCheck v137) (fun v139 =>
 S.pur (.fieldAddr 169 v139 1) (fun v140 =>
 S.ld (.load 167 v140) w.drew (fun v141 =>
 S.pur (.slice 167 v141 none (some v42) none) (fun v143 =>
 S.pur (.nilCheck a0) (fun v145 =>
 S.pur (.fieldAddr 169 v145 1) (fun v146 =>
 S.ld (.load 167 v146) w.drew (fun v147 =>
 S.pur (.slice 167 v147 none (some v42) none) (fun v149 =>
 S.op (.blt .copy [167, 167] 3 [v143, v149]) w.drew (fun v150 w =>
 S.pur (.nilCheck v137) (fun v152 =>
 S.pur (.fieldAddr 169 v152 1) (fun v153 =>
 S.ld (.load 167 v153) w.drew (fun v154 =>
 S.pur (.slice 167 v154 (some v42) none none) (fun v156 =>
 S.pur (.nilCheck a0) (fun v158 =>
 S.pur (.fieldAddr 169 v158 1) (fun v159 =>
 S.ld (.load 167 v159) w.drew (fun v160 =>
 S.pur (.bin .add 3 false true v42 (.int .i64 1)) (fun v162 =>
 S.pur (.slice 167 v160 (some v162) none none) (fun v163 =>
 S.op (.blt .copy [167, 167] 3 [v156, v163]) w.drew (fun v164 w =>
 S.op (.mkIface 166 v137) w (fun v166 w =>
 K v166 w) Kp) Kp)))))))))) Kp))))))))) Kp)) Kp)))))))))))) Kp) Kp) Kp) Kp) Kp) (
 S.op (.un .not a5) w (fun v169 w =>
 Br v169 (
 S.pur (.nilCheck a0) (fun v171 =>
 S.pur (.fieldAddr 169 v171 0) (fun v172 =>
 S.ld (.load 22 v172) w.drew (fun v173 =>
 S.pur (.nilCheck a0) (fun v175 =>
 S.pur (.fieldAddr 169 v175 1) (fun v176 =>
 S.ld (.load 167 v176) w.drew (fun v177 =>
 S.ld (.blt .len [167] 3 [v177]) w.drew (fun v178 =>
 S.op (.mkSlice 167 v178 v178) w.drew (fun v179 w =>
 S.same (.load 22 v172) v173 w ∧
 S.pur (.build 169 [(0, v173), (1, v179)]) (fun v180 =>
 S.op (.box 169 v180) w (fun v181 w =>
 S.pur (.nilCheck v181) (fun v183 =>
 S.pur (.fieldAddr 169 v183 1) (fun v184 =>
 S.ld (.load 167 v184) w.drew (fun v185 =>
 S.pur (.nilCheck a0) (fun v187 =>
 S.pur (.fieldAddr 169 v187 1) (fun v188 =>
 S.ld (.load 167 v188) w.drew (fun v189 =>
 S.op (.blt .copy [167, 167] 3 [v185, v189]) w.drew (fun v190 w =>
 S.op (.nilCheck v181) w (fun v192 w =>
 S.op (.fieldAddr 169 v192 1) w (fun v193 w =>
 S.op (.load 167 v193) w (fun v194 w =>
 S.op (.indexAddr 167 v194 v42) w (fun v197 w =>
 S.op (.store 119 v197 v58) w (fun _ w =>
 S.op (.mkIface 166 v181) w (fun v199 w =>
 K v199 w) Kp) Kp) Kp) Kp) Kp) Kp) Kp))))))) Kp)) Kp)))))))) (
 S.op (.nilCheck a0) w (fun v192 w =>
 S.op (.fieldAddr 169 v192 1) w (fun v193 w =>
 S.op (.load 167 v193) w (fun v194 w =>
 S.op (.indexAddr 167 v194 v42) w (fun v197 w =>
 S.op (.store 119 v197 v58) w (fun _ w =>
 S.op (.mkIface 166 a0) w (fun v199 w =>
 K v199 w) Kp) Kp) Kp) Kp) Kp) Kp)) Kp)) Kp)) Kp) Kp) Kp) Kp) Kp) Kp) Kp) Kp) Kp) Kp) Kp) Kp) Kp) Kp) Kp) Kp)) Kp) Kp) Kp) Kp) Kp) Kp) Kp) Kp
theorem vc115_eq : vc115 S a0 a1 a2 a3 a4 a5 a6 w K Kp = fVC S [] [] Tryz.f115 [a0, a1, a2, a3, a4, a5, a6] w K Kp := by kernel_rfl
theorem vc115_calls (h : vc115 (nice Tryz.prog) a0 a1 a2 a3 a4 a5 a6 w K Kp) : Calls Tryz.prog 115 #[a0, a1, a2, a3, a4, a5, a6] w (ret K Kp) :=
 fVC_sound (args := [a0, a1, a2, a3, a4, a5, a6]) nice_le follows_MVcS Tryz.func115 (by kernel_rfl) (Eq.mp vc115_eq h)
def vc116 (S : Sig) (a0 a1 a2 a3 a4 : Value) (w : World) (K : KV) (Kp : KP) : Prop :=
 S.op (.alloc 88) w (fun v10 w =>
 S.op (.bin .shr 22 false false a3 a2) w (fun v16 w =>
 S.op (.bin .and 22 false true v16 (.int .u32 31)) w (fun v17 w =>
 S.op (.bin .shl 22 true false (.int .u32 1) v17) w (fun v18 w =>
 S.op (.nilCheck a0) w (fun v20 w =>
 S.op (.fieldAddr 169 v20 0) w (fun v21 w =>
 S.op (.load 22 v21) w (fun v22 w =>
 S.op (.bin .and 22 false false v22 v18) w (fun v24 w =>
 S.op (.bin .eql 22 false true v24 (.int .u32 0)) w (fun v25 w =>
 Br v25 (
 S.op (.load 88 v10) w (fun v26 w =>
 S.op (.store 88 v10 v26) w (fun _ w =>
 S.ld (.load 88 v10) w (fun r0 =>
 K (.tuple #[r0, (.bool false)]) w)) Kp) Kp) (
 S.pur (.nilCheck a0) (fun v28 =>
 S.pur (.fieldAddr 169 v28 1) (fun v29 =>
 S.ld (.load 167 v29) w.drew (fun v30 =>
 S.pur (.nilCheck a0) (fun v32 =>
 S.pur (.fieldAddr 169 v32 0) (fun v33 =>
 S.ld (.load 22 v33) w.drew (fun v34 =>
 S.pur (.bin .sub 22 false true v18 (.int .u32 1)) (fun v36 =>
 S.pur (.bin .and 22 false false v34 v36) (fun v37 =>
 S.call (.fn 118) [v37] w.drew (fun v38 w =>
 S.same (.load 167 v29) v30 w ∧
 S.pur (.indexAddr 167 v30 v38) (fun v39 =>
 S.ld (.load 119 v39) w (fun v40 =>
 S.op (.bin .add 144 false true a2 (.int .u64 5)) w (fun v44 w =>
 S.call (.inv v40 "pub-bracken/pub/immutable.get") [a1, v44, a3, a4] w (fun v47 w =>
 S.op (.extract v47 0) w (fun v48 w =>
 S.op (.extract v47 1) w (fun v49 w =>
 S.op (.store 88 v10 v48) w (fun _ w =>
 S.ld (.load 88 v10) w (fun r0 =>
 K (.tuple #[r0, v49]) w)) Kp) Kp) Kp) Kp) Kp))) Kp)))))))))) Kp) Kp) Kp) Kp) Kp) Kp) Kp) Kp) Kp
theorem vc116_eq : vc116 S a0 a1 a2 a3 a4 w K Kp = fVC S [] [] Tryz.f116 [a0, a1, a2, a3, a4] w K Kp := by kernel_rfl
theorem vc116_calls (h : vc116 (nice Tryz.prog) a0 a1 a2 a3 a4 w K Kp) : Calls Tryz.prog 116 #[a0, a1, a2, a3, a4] w (ret K Kp) :=
 fVC_sound (args := [a0, a1, a2, a3, a4]) nice_le follows_MVcS Tryz.func116 (by kernel_rfl) (Eq.mp vc116_eq h)
def vc117 (S : Sig) (a0 a1 a2 a3 a4 a5 a6 a7 : Value) (w : World) (K : KV) (Kp : KP) : Prop :=
 S.op (.box 88 a2) w (fun v10 w =>
 S.op (.bin .shr 22 false false a4 a3) w (fun v27 w =>
 S.op (.bin .and 22 false true v27 (.int .u32 31)) w (fun v28 w =>
 S.op (.bin .shl 22 true false (.int .u32 1) v28) w (fun v30 w =>
 S.op (.nilCheck a0) w (fun v32 w =>
 S.op (.fieldAddr 169 v32 0) w (fun v33 w =>
 S.op (.load 22 v33) w (fun v34 w =>
 S.op (.bin .and 22 false false v34 v30) w (fun v36 w =>
 S.op (.bin .neq 22 false true v36 (.int .u32 0)) w (fun v37 w =>
 Jn fun (J6 : World → Prop) =>
 (S.op (.un .not v37) w (fun v39 w =>
 Br v39 (
 S.op (.nilCheck a7) w (fun v41 w =>
 S.op (.store 4 v41 (.bool true)) w (fun _ w =>
 J6 w) Kp) Kp) (
 J6 w)) Kp) ∧
 (∀ (w : World) (junk : Nat → Value), J6 w →
 S.op (.nilCheck a0) w (fun v43 w =>
 S.op (.fieldAddr 169 v43 0) w (fun v44 w =>
 S.op (.load 22 v44) w (fun v45 w =>
 S.op (.bin .sub 22 false true v30 (.int .u32 1)) w (fun v47 w =>
 S.op (.bin .and 22 false false v45 v47) w (fun v48 w =>
 S.call (.fn 118) [v48] w (fun v49 w =>
 Jn fun (J11 : KV) =>
 (Br v37 (
 S.pur (.nilCheck a0) (fun v52 =>
 S.pur (.fieldAddr 169 v52 1) (fun v53 =>
 S.ld (.load 167 v53) w.drew (fun v54 =>
 S.pur (.indexAddr 167 v54 v49) (fun v56 =>
 S.ld (.load 119 v56) w.drew (fun v57 =>
 S.ld (.load 88 v10) w.drew (fun v59 =>
 S.pur (.bin .add 144 false true a3 (.int .u64 5)) (fun v61 =>
 S.call (.inv v57 "pub-bracken/pub/immutable.set") [a1, v59, v61, a4, a5, a6, a7] w.drew (fun v66 w =>
 J11 v66 w) Kp)))))))) (
 S.op (.load 88 v10) w (fun v69 w =>
 S.call (.fn 89) [a4, a1, v69] w (fun v70 w =>
 S.op (.mkIface 135 v70) w (fun v71 w =>
 J11 v71 w) Kp) Kp) Kp)) ∧
 (∀ (w : World) (junk : Nat → Value) (j21 : Value), J11 j21 w →
 Jn fun (J22 : World → Prop) =>
 (S.op (.un .not v37) w (fun v73 w =>
 Br v73 (
 S.op (.nilCheck a0) w (fun v76 w =>
 S.op (.fieldAddr 169 v76 1) w (fun v77 w =>
 S.op (.load 167 v77) w (fun v78 w =>
 S.op (.blt .len [167] 3 [v78]) w (fun v79 w =>
 S.op (.bin .gtr 3 false true v79 (.int .i64 16)) w (fun v80 w =>
 Br v80 (
 S.op (.alloc 173) w (fun v22 w =>
 Lp fun (I14 : KV) (μ14 : Value → World → Nat) => I14 (.int .u64 0) w ∧
 ∀ (wl14 : World) (junk : Nat → Value) (s23 : Value), I14 s23 wl14 →
 S.op (.bin .lss 144 false true s23 (.int .u64 32)) wl14 (fun v83 w =>
 Br v83 (
 S.op (.nilCheck a0) w (fun v87 w =>
 S.op (.fieldAddr 169 v87 0) w (fun v88 w =>
 S.op (.load 22 v88) w (fun v89 w =>
 S.op (.bin .shl 22 true false (.int .u32 1) s23) w (fun v91 w =>
 S.op (.bin .and 22 false false v89 v91) w (fun v92 w =>
 S.op (.bin .neq 22 false true v92 (.int .u32 0)) w (fun v93 w =>
 Br v93 (
 S.pur (.nilCheck a0) (fun v96 =>
 S.pur (.fieldAddr 169 v96 1) (fun v97 =>
 S.ld (.load 167 v97) w.drew (fun v98 =>
 S.pur (.fieldAddr 173 v22 0) (fun v99 =>
 S.ld (.load 144 v99) w.drew (fun v100 =>
 S.pur (.indexAddr 167 v98 v100) (fun v101 =>
 S.ld (.load 119 v101) w.drew (fun v102 =>
 S.pur (.fieldAddr 173 v22 1) (fun v103 =>
 S.pur (.indexAddr 171 v103 s23) (fun v104 =>
 S.op (.store 119 v104 v102) w.drew (fun _ w =>
 S.op (.fieldAddr 173 v22 0) w (fun v105 w =>
 S.op (.load 144 v105) w (fun v106 w =>
 S.op (.bin .add 144 false true v106 (.int .u64 1)) w (fun v107 w =>
 S.op (.fieldAddr 173 v22 0) w (fun v108 w =>
 S.op (.store 144 v108 v107) w (fun _ w =>
 S.op (.bin .add 144 false true s23 (.int .u64 1)) w (fun v85 w =>
 I14 v85 w ∧ μ14 v85 w < μ14 s23 wl14) Kp) Kp) Kp) Kp) Kp) Kp) Kp)))))))))) (
 S.op (.bin .add 144 false true s23 (.int .u64 1)) w (fun v85 w =>
 I14 v85 w ∧ μ14 v85 w < μ14 s23 wl14) Kp)) Kp) Kp) Kp) Kp) Kp) Kp) (
 S.op (.fieldAddr 173 v22 1) w (fun v111 w =>
 S.op (.indexAddr 171 v111 v28) w (fun v112 w =>
 S.op (.store 119 v112 j21) w (fun _ w =>
 S.op (.fieldAddr 173 v22 0) w (fun v113 w =>
 S.op (.load 144 v113) w (fun v114 w =>
 S.op (.bin .add 144 false true v114 (.int .u64 1)) w (fun v115 w =>
 S.op (.fieldAddr 173 v22 0) w (fun v116 w =>
 S.op (.store 144 v116 v115) w (fun _ w =>
 S.op (.mkIface 170 v22) w (fun v117 w =>
 K v117 w) Kp) Kp) Kp) Kp) Kp) Kp) Kp) Kp) Kp)) Kp) Kp) (
 J22 w)) Kp) Kp) Kp) Kp) Kp) (
 J22 w)) Kp) ∧
 (∀ (w : World) (junk : Nat → Value), J22 w →
 Br a6 (
 Br v37 (
 S.op (.nilCheck a0) w (fun v121 w =>
 S.op (.fieldAddr 169 v121 1) w (fun v122 w =>
 S.op (.load 167 v122) w (fun v123 w =>
 S.op (.indexAddr 167 v123 v49) w (fun v126 w =>
 S.op (.store 119 v126 j21) w (fun _ w =>
 S.op (.mkIface 166 a0) w (fun v166 w =>
 K v166 w) Kp) Kp) Kp) Kp) Kp) Kp) (
 S.op (.nilCheck a0) w (fun v128 w =>
 S.op (.fieldAddr 169 v128 0) w (fun v129 w =>
 S.op (.load 22 v129) w (fun v130 w =>
 S.op (.bin .or 22 false false v130 v30) w (fun v132 w =>
 S.op (.nilCheck a0) w (fun v133 w =>
 S.op (.fieldAddr 169 v133 0) w (fun v134 w =>
 S.op (.store 22 v134 v132) w (fun _ w =>
 S.op (.nilCheck a0) w (fun v137 w =>
 S.op (.fieldAddr 169 v137 1) w (fun v138 w =>
 S.op (.load 167 v138) w (fun v139 w =>
 S.op (.buildSlice 167 1 [(0, .nilIface)]) w (fun v140 w =>
 S.op (.blt .append [167, 167] 167 [v139, v140]) w (fun v141 w =>
 S.op (.nilCheck a0) w (fun v142 w =>
 S.op (.fieldAddr 169 v142 1) w (fun v143 w =>
 S.op (.store 167 v143 v141) w (fun _ w =>
 S.pur (.nilCheck a0) (fun v145 =>
 S.pur (.fieldAddr 169 v145 1) (fun v146 =>
 S.ld (.load 167 v146) w.drew (fun v147 =>
 S.pur (.bin .add 3 false true v49 (.int .i64 1)) (fun v149 =>
 S.pur (.slice 167 v147 (some v149) none none) (fun v150 =>
 S.pur (.nilCheck a0) (fun v152 =>
 S.pur (.fieldAddr 169 v152 1) (fun v153 =>
 S.ld (.load 167 v153) w.drew (fun v154 =>
 S.pur (.slice 167 v154 (some v49) none none) (fun v156 =>
 S.op (.blt .copy [167, 167] 3 [v150, v156]) w.drew (fun v157 w =>
 S.op (.nilCheck a0) w (fun v159 w =>
 S.op (.fieldAddr 169 v159 1) w (fun v160 w =>
 S.op (.load 167 v160) w (fun v161 w =>
 S.op (.indexAddr 167 v161 v49) w (fun v164 w =>
 S.op (.store 119 v164 j21) w (fun _ w =>
 S.op (.mkIface 166 a0) w (fun v166 w =>
 K v166 w) Kp) Kp) Kp) Kp) Kp) Kp) Kp)))))))))) Kp) Kp) Kp) Kp) Kp) Kp) Kp) Kp) Kp) Kp) Kp) Kp) Kp) Kp) Kp)) (
 S.op (.nilCheck a0) w (fun v168 w =>
 S.op (.fieldAddr 169 v168 0) w (fun v169 w =>
 S.op (.load 22 v169) w (fun v170 w =>
 S.op (.bin .or 22 false false v170 v30) w (fun v172 w =>
 S.op (.build 169 [(0, v172)]) w (fun v173 w =>
 S.op (.box 169 v173) w (fun v174 w =>
 Br v37 (
 S.op (.nilCheck a0) w (fun v178 w =>
 S.op (.fieldAddr 169 v178 1) w (fun v179 w =>
 S.op (.load 167 v179) w (fun v180 w =>
 S.op (.blt .len [167] 3 [v180]) w (fun v181 w =>
 S.op (.mkSlice 167 v181 v181) w (fun v182 w =>
 S.op (.nilCheck v174) w (fun v183 w =>
 S.op (.fieldAddr 169 v183 1) w (fun v184 w =>
 S.op (.store 167 v184 v182) w (fun _ w =>
 S.pur (.nilCheck v174) (fun v186 =>
 S.pur (.fieldAddr 169 v186 1) (fun v187 =>
 S.ld (.load 167 v187) w.drew (fun v188 =>
 S.pur (.nilCheck a0) (fun v190 =>
 S.pur (.fieldAddr 169 v190 1) (fun v191 =>
 S.ld (.load 167 v191) w.drew (fun v192 =>
 S.op (.blt .copy [167, 167] 3 [v188, v192]) w.drew (fun v193 w =>
 S.op (.nilCheck v174) w (fun v195 w =>
 S.op (.fieldAddr 169 v195 1) w (fun v196 w =>
 S.op (.load 167 v196) w (fun v197 w =>
 S.op (.indexAddr 167 v197 v49) w (fun v200 w =>
 S.op (.store 119 v200 j21) w (fun _ w =>
 S.op (.mkIface 166 v174) w (fun v244 w =>
 K v244 w) Kp) Kp) Kp) Kp) Kp) Kp) Kp))))))) Kp) Kp) Kp) Kp) Kp) Kp) Kp) Kp) (
 S.op (.nilCheck a0) w (fun v203 w =>
 S.op (.fieldAddr 169 v203 1) w (fun v204 w =>
 S.op (.load 167 v204) w (fun v205 w =>
 S.op (.blt .len [167] 3 [v205]) w (fun v206 w =>
 S.op (.bin .add 3 false true v206 (.int .i64 1)) w (fun v207 w =>
 S.op (.mkSlice 167 v207 v207) w (fun v208 w =>
 S.op (.nilCheck v174) w (fun v209 w =>
 S.op (.fieldAddr 169 v209 1) w (fun v210 w =>
 S.op (.store 167 v210 v208) w (fun _ w =>
 S.pur (.nilCheck v174) (fun v212 =>
 S.pur (.fieldAddr 169 v212 1) (fun v213 =>
 S.ld (.load 167 v213) w.drew (fun v214 =>
 S.pur (.nilCheck a0) (fun v216 =>
 S.pur (.fieldAddr 169 v216 1) (fun v217 =>
 S.ld (.load 167 v217) w.drew (fun v218 =>
 S.pur (.slice 167 v218 none (some v49) none) (fun v220 =>
 S.op (.blt .copy [167, 167] 3 [v214, v220]) w.drew (fun v221 w =>
 S.op (.nilCheck v174) w (fun v223 w =>
 S.op (.fieldAddr 169 v223 1) w (fun v224 w =>
 S.op (.load 167 v224) w (fun v225 w =>
 S.op (.indexAddr 167 v225 v49) w (fun v228 w =>
 S.op (.store 119 v228 j21) w (fun _ w =>
 S.pur (.nilCheck v174) (fun v230 =>
 S.pur (.fieldAddr 169 v230 1) (fun v231 =>
 S.ld (.load 167 v231) w.drew (fun v232 =>
 S.pur (.bin .add 3 false true v49 (.int .i64 1)) (fun v234 =>
 S.pur (.slice 167 v232 (some v234) none none) (fun v235 =>
 S.pur (.nilCheck a0) (fun v237 =>
 S.pur (.fieldAddr 169 v237 1) (fun v238 =>
 S.ld (.load 167 v238) w.drew (fun v239 =>
 S.pur (.slice 167 v239 (some v49) none none) (fun v241 =>
 S.op (.blt .copy [167, 167] 3 [v235, v241]) w.drew (fun v242 w =>
 S.op (.mkIface 166 v174) w (fun v244 w =>
 K v244 w) Kp) Kp)))))))))) Kp) Kp) Kp) Kp) Kp) Kp)))))))) Kp) Kp) Kp) Kp) Kp) Kp) Kp) Kp) Kp)) Kp) Kp) Kp) Kp) Kp) Kp)))) Kp) Kp) Kp) Kp) Kp) Kp)) Kp) Kp) Kp) Kp) Kp) Kp) Kp) Kp) Kp
theorem vc117_eq : vc117 S a0 a1 a2 a3 a4 a5 a6 a7 w K Kp = fVC S [(14, [23])] [(6, []), (11, [21]), (22, [])] Tryz.f117 [a0, a1, a2, a3, a4, a5, a6, a7] w K Kp := by kernel_rfl
theorem vc117_calls (h : vc117 (nice Tryz.prog) a0 a1 a2 a3 a4 a5 a6 a7 w K Kp) : Calls Tryz.prog 117 #[a0, a1, a2, a3, a4, a5, a6, a7] w (ret K Kp) :=
 fVC_sound (args := [a0, a1, a2, a3, a4, a5, a6, a7]) nice_le follows_MVcS Tryz.func117 (by kernel_rfl) (Eq.mp vc117_eq h)
def vc119 (S : Sig) (a0 : Value) (w : World) (K : KV) (Kp : KP) : Prop :=
 S.op (.nilCheck a0) w (fun v5 w =>
 S.op (.load 173 v5) w (fun v6 w =>
 S.op (.alloc 173) w (fun v3 w =>
 S.op (.store 173 v3 v6) w (fun _ w =>
 K v3 w) Kp) Kp) Kp) Kp
theorem vc119_eq : vc119 S a0 w K Kp = fVC S [] [] Tryz.f119 [a0] w K Kp := by kernel_rfl
theorem vc119_calls (h : vc119 (nice Tryz.prog) a0 w K Kp) : Calls Tryz.prog 119 #[a0] w (ret K Kp) :=
 fVC_sound (args := [a0]) nice_le follows_MVcS Tryz.func119 (by kernel_rfl) (Eq.mp vc119_eq h)
def vc120 (S : Sig) (a0 a1 a2 a3 a4 a5 a6 : Value) (w : World) (K : KV) (Kp : KP) : Prop :=
 S.op (.bin .shr 22 false false a3 a2) w (fun v24 w =>
 S.op (.bin .and 22 false true v24 (.int .u32 31)) w (fun v25 w =>
 S.op (.nilCheck a0) w (fun v28 w =>
 S.op (.fieldAddr 173 v28 1) w (fun v29 w =>
 S.op (.indexAddr 171 v29 v25) w (fun v30 w =>
 S.op (.load 119 v30) w (fun v31 w =>
 S.op (.bin .eql 119 false true v31 .nilIface) w (fun v33 w =>
 Br v33 (
 S.op (.mkIface 170 a0) w (fun v35 w =>
 K v35 w) Kp) (
 S.op (.bin .add 144 false true a2 (.int .u64 5)) w (fun v39 w =>
 S.call (.inv v31 "pub-bracken/pub/immutable.delete") [a1, v39, a3, a4, a5, a6] w (fun v44 w =>
 S.op (.nilCheck a6) w (fun v46 w =>
 S.op (.load 4 v46) w (fun v47 w =>
 S.op (.un .not v47) w (fun v48 w =>
 Br v48 (
 S.op (.mkIface 170 a0) w (fun v50 w =>
 K v50 w) Kp) (
 Jn fun (J18 : World → Prop) =>
 (S.op (.bin .eql 119 false true v44 .nilIface) w (fun v52 w =>
 Br v52 (
 S.op (.nilCheck a0) w (fun v55 w =>
 S.op (.fieldAddr 173 v55 0) w (fun v56 w =>
 S.op (.load 144 v56) w (fun v57 w =>
 S.op (.bin .leq 144 false true v57 (.int .u64 16)) w (fun v58 w =>
 Br v58 (
 S.op (.nilCheck a0) w (fun v61 w =>
 S.op (.fieldAddr 173 v61 0) w (fun v62 w =>
 S.op (.load 144 v62) w (fun v63 w =>
 S.op (.bin .sub 144 false true v63 (.int .u64 1)) w (fun v64 w =>
 S.op (.mkSlice 167 (.int .i64 0) v64) w (fun v65 w =>
 S.op (.build 169 [(1, v65)]) w (fun v66 w =>
 S.op (.box 169 v66) w (fun v67 w =>
 S.op (.nilCheck a0) w (fun v69 w =>
 S.op (.fieldAddr 173 v69 1) w (fun v70 w =>
 S.op (.load 171 v70) w (fun v71 w =>
 Lp fun (I11 : KV) (μ11 : Value → World → Nat) => I11 (.int .i64 0) w ∧
 ∀ (wl11 : World) (junk : Nat → Value) (s72 : Value), I11 s72 wl11 →
 S.op (.bin .lss 3 false true s72 (.int .i64 32)) wl11 (fun v73 w =>
 Br v73 (
 S.op (.index 171 v71 s72) w (fun v75 w =>
 S.op (.bin .neq 119 false true v75 .nilIface) w (fun v77 w =>
 Br v77 (
 S.op (.conv 3 22 s72) w (fun v80 w =>
 S.op (.bin .neq 22 false false v80 v25) w (fun v82 w =>
 Br v82 (
 S.op (.nilCheck v67) w (fun v85 w =>
 S.op (.fieldAddr 169 v85 0) w (fun v86 w =>
 S.op (.load 22 v86) w (fun v87 w =>
 S.op (.conv 3 144 s72) w (fun v89 w =>
 S.op (.bin .shl 22 true false (.int .u32 1) v89) w (fun v90 w =>
 S.op (.bin .or 22 false false v87 v90) w (fun v91 w =>
 S.op (.nilCheck v67) w (fun v92 w =>
 S.op (.fieldAddr 169 v92 0) w (fun v93 w =>
 S.op (.store 22 v93 v91) w (fun _ w =>
 S.op (.nilCheck v67) w (fun v96 w =>
 S.op (.fieldAddr 169 v96 1) w (fun v97 w =>
 S.op (.load 167 v97) w (fun v98 w =>
 S.op (.buildSlice 167 1 [(0, v75)]) w (fun v100 w =>
 S.op (.blt .append [167, 167] 167 [v98, v100]) w (fun v101 w =>
 S.op (.nilCheck v67) w (fun v102 w =>
 S.op (.fieldAddr 169 v102 1) w (fun v103 w =>
 S.op (.store 167 v103 v101) w (fun _ w =>
 S.op (.bin .add 3 false true s72 (.int .i64 1)) w (fun v104 w =>
 I11 v104 w ∧ μ11 v104 w < μ11 s72 wl11) Kp) Kp) Kp) Kp) Kp) Kp) Kp) Kp) Kp) Kp) Kp) Kp) Kp) Kp) Kp) Kp) Kp) Kp) (
 S.op (.bin .add 3 false true s72 (.int .i64 1)) w (fun v104 w =>
 I11 v104 w ∧ μ11 v104 w < μ11 s72 wl11) Kp)) Kp) Kp) (
 S.op (.bin .add 3 false true s72 (.int .i64 1)) w (fun v104 w =>
 I11 v104 w ∧ μ11 v104 w < μ11 s72 wl11) Kp)) Kp) Kp) (
 S.op (.mkIface 166 v67) w (fun v106 w =>
 K v106 w) Kp)) Kp) Kp) Kp) Kp) Kp) Kp) Kp) Kp) Kp) Kp) Kp) (
 J18 w)) Kp) Kp) Kp) Kp) (
 J18 w)) Kp) ∧
 (∀ (w : World) (junk : Nat → Value), J18 w →
 S.op (.un .not a5) w (fun v109 w =>
 Br v109 (
 S.call (.fn 119) [a0] w (fun v111 w =>
 S.op (.nilCheck v111) w (fun v115 w =>
 S.op (.fieldAddr 173 v115 1) w (fun v116 w =>
 S.op (.indexAddr 171 v116 v25) w (fun v117 w =>
 S.op (.store 119 v117 v44) w (fun _ w =>
 S.op (.bin .eql 119 false true v44 .nilIface) w (fun v119 w =>
 Br v119 (
 S.op (.nilCheck v111) w (fun v121 w =>
 S.op (.fieldAddr 173 v121 0) w (fun v122 w =>
 S.op (.load 144 v122) w (fun v123 w =>
 S.op (.bin .sub 144 false true v123 (.int .u64 1)) w (fun v124 w =>
 S.op (.nilCheck v111) w (fun v125 w =>
 S.op (.fieldAddr 173 v125 0) w (fun v126 w =>
 S.op (.store 144 v126 v124) w (fun _ w =>
 S.op (.mkIface 170 v111) w (fun v128 w =>
 K v128 w) Kp) Kp) Kp) Kp) Kp) Kp) Kp) Kp) (
 S.op (.mkIface 170 v111) w (fun v128 w =>
 K v128 w) Kp)) Kp) Kp) Kp) Kp) Kp) Kp) (
 S.op (.nilCheck a0) w (fun v115 w =>
 S.op (.fieldAddr 173 v115 1) w (fun v116 w =>
 S.op (.indexAddr 171 v116 v25) w (fun v117 w =>
 S.op (.store 119 v117 v44) w (fun _ w =>
 S.op (.bin .eql 119 false true v44 .nilIface) w (fun v119 w =>
 Br v119 (
 S.op (.nilCheck a0) w (fun v121 w =>
 S.op (.fieldAddr 173 v121 0) w (fun v122 w =>
 S.op (.load 144 v122) w (fun v123 w =>
 S.op (.bin .sub 144 false true v123 (.int .u64 1)) w (fun v124 w =>
 S.op (.nilCheck a0) w (fun v125 w =>
 S.op (.fieldAddr 173 v125 0) w (fun v126 w =>
 S.op (.store 144 v126 v124) w (fun _ w =>
 S.op (.mkIface 170 a0) w (fun v128 w =>
 K v128 w) Kp) Kp) Kp) Kp) Kp) Kp) Kp) Kp) (
 S.op (.mkIface 170 a0) w (fun v128 w =>
 K v128 w) Kp)) Kp) Kp) Kp) Kp) Kp)) Kp))) Kp) Kp) Kp) Kp) Kp)) Kp) Kp) Kp) Kp) Kp) Kp) Kp
theorem vc120_eq : vc120 S a0 a1 a2 a3 a4 a5 a6 w K Kp = fVC S [(11, [72])] [(18, [])] Tryz.f120 [a0, a1, a2, a3, a4, a5, a6] w K Kp := by kernel_rfl
theorem vc120_calls (h : vc120 (nice Tryz.prog) a0 a1 a2 a3 a4 a5 a6 w K Kp) : Calls Tryz.prog 120 #[a0, a1, a2, a3, a4, a5, a6] w (ret K Kp) :=
 fVC_sound (args := [a0, a1, a2, a3, a4, a5, a6]) nice_le follows_MVcS Tryz.func120 (by kernel_rfl) (Eq.mp vc120_eq h)
def vc121 (S : Sig) (a0 a1 a2 a3 a4 : Value) (w : World) (K : KV) (Kp : KP) : Prop :=
 S.op (.alloc 88) w (fun v10 w =>
 S.op (.bin .shr 22 false false a3 a2) w (fun v16 w =>
 S.op (.bin .and 22 false true v16 (.int .u32 31)) w (fun v17 w =>
 S.op (.nilCheck a0) w (fun v18 w =>
 S.op (.fieldAddr 173 v18 1) w (fun v19 w =>
 S.op (.indexAddr 171 v19 v17) w (fun v20 w =>
 S.op (.load 119 v20) w (fun v21 w =>
 S.op (.bin .eql 119 false true v21 .nilIface) w (fun v23 w =>
 Br v23 (
 S.op (.load 88 v10) w (fun v24 w =>
 S.op (.store 88 v10 v24) w (fun _ w =>
 S.ld (.load 88 v10) w (fun r0 =>
 K (.tuple #[r0, (.bool false)]) w)) Kp) Kp) (
 S.op (.bin .add 144 false true a2 (.int .u64 5)) w (fun v28 w =>
 S.call (.inv v21 "pub-bracken/pub/immutable.get") [a1, v28, a3, a4] w (fun v31 w =>
 S.op (.extract v31 0) w (fun v32 w =>
 S.op (.extract v31 1) w (fun v33 w =>
 S.op (.store 88 v10 v32) w (fun _ w =>
 S.ld (.load 88 v10) w (fun r0 =>
 K (.tuple #[r0, v33]) w)) Kp) Kp) Kp) Kp) Kp)) Kp) Kp) Kp) Kp) Kp) Kp) Kp) Kp
theorem vc121_eq : vc121 S a0 a1 a2 a3 a4 w K Kp = fVC S [] [] Tryz.f121 [a0, a1, a2, a3, a4] w K Kp := by kernel_rfl
theorem vc121_calls (h : vc121 (nice Tryz.prog) a0 a1 a2 a3 a4 w K Kp) : Calls Tryz.prog 121 #[a0, a1, a2, a3, a4] w (ret K Kp) :=
 fVC_sound (args := [a0, a1, a2, a3, a4]) nice_le follows_MVcS Tryz.func121 (by kernel_rfl) (Eq.mp vc121_eq h)
def vc122 (S : Sig) (a0 a1 a2 a3 a4 a5 a6 a7 : Value) (w : World) (K : KV) (Kp : KP) : Prop :=
 S.op (.box 88 a2) w (fun v10 w =>
 S.op (.bin .shr 22 false false a4 a3) w (fun v23 w =>
 S.op (.bin .and 22 false true v23 (.int .u32 31)) w (fun v24 w =>
 S.op (.nilCheck a0) w (fun v27 w =>
 S.op (.fieldAddr 173 v27 1) w (fun v28 w =>
 S.op (.indexAddr 171 v28 v24) w (fun v29 w =>
 S.op (.load 119 v29) w (fun v30 w =>
 Jn fun (J8 : KV) =>
 (S.op (.bin .eql 119 false true v30 .nilIface) w (fun v32 w =>
 Br v32 (
 S.op (.nilCheck a7) w (fun v34 w =>
 S.op (.store 4 v34 (.bool true)) w (fun _ w =>
 S.op (.load 88 v10) w (fun v37 w =>
 S.call (.fn 89) [a4, a1, v37] w (fun v38 w =>
 S.op (.mkIface 135 v38) w (fun v39 w =>
 J8 v39 w) Kp) Kp) Kp) Kp) Kp) (
 S.op (.load 88 v10) w (fun v42 w =>
 S.op (.bin .add 144 false true a3 (.int .u64 5)) w (fun v44 w =>
 S.call (.inv v30 "pub-bracken/pub/immutable.set") [a1, v42, v44, a4, a5, a6, a7] w (fun v49 w =>
 J8 v49 w) Kp) Kp) Kp)) Kp) ∧
 (∀ (w : World) (junk : Nat → Value) (j19 : Value), J8 j19 w →
 Jn fun (J11 : KV) =>
 (S.op (.un .not a6) w (fun v52 w =>
 Br v52 (
 S.call (.fn 119) [a0] w (fun v54 w =>
 J11 v54 w) Kp) (
 J11 a0 w)) Kp) ∧
 (∀ (w : World) (junk : Nat → Value) (j20 : Value), J11 j20 w →
 S.op (.bin .eql 119 false true v30 .nilIface) w (fun v56 w =>
 Br v56 (
 S.op (.nilCheck j20) w (fun v58 w =>
 S.op (.fieldAddr 173 v58 0) w (fun v59 w =>
 S.op (.load 144 v59) w (fun v60 w =>
 S.op (.bin .add 144 false true v60 (.int .u64 1)) w (fun v61 w =>
 S.op (.nilCheck j20) w (fun v62 w =>
 S.op (.fieldAddr 173 v62 0) w (fun v63 w =>
 S.op (.store 144 v63 v61) w (fun _ w =>
 S.op (.nilCheck j20) w (fun v67 w =>
 S.op (.fieldAddr 173 v67 1) w (fun v68 w =>
 S.op (.indexAddr 171 v68 v24) w (fun v69 w =>
 S.op (.store 119 v69 j19) w (fun _ w =>
 S.op (.mkIface 170 j20) w (fun v71 w =>
 K v71 w) Kp) Kp) Kp) Kp) Kp) Kp) Kp) Kp) Kp) Kp) Kp) Kp) (
 S.op (.nilCheck j20) w (fun v67 w =>
 S.op (.fieldAddr 173 v67 1) w (fun v68 w =>
 S.op (.indexAddr 171 v68 v24) w (fun v69 w =>
 S.op (.store 119 v69 j19) w (fun _ w =>
 S.op (.mkIface 170 j20) w (fun v71 w =>
 K v71 w) Kp) Kp) Kp) Kp) Kp)) Kp))) Kp) Kp) Kp) Kp) Kp) Kp) Kp
theorem vc122_eq : vc122 S a0 a1 a2 a3 a4 a5 a6 a7 w K Kp = fVC S [] [(8, [19]), (11, [20])] Tryz.f122 [a0, a1, a2, a3, a4, a5, a6, a7] w K Kp := by kernel_rfl
theorem vc122_calls (h : vc122 (nice Tryz.prog) a0 a1 a2 a3 a4 a5 a6 a7 w K Kp) : Calls Tryz.prog 122 #[a0, a1, a2, a3, a4, a5, a6, a7] w (ret K Kp) :=
 fVC_sound (args := [a0, a1, a2, a3, a4, a5, a6, a7]) nice_le follows_MVcS Tryz.func122 (by kernel_rfl) (Eq.mp vc122_eq h)
def vc40 (S : Sig) (a0 : Value) (w : World) (K : KV) (Kp : KP) : Prop :=
 S.op (.build 126 [(0, a0)]) w (fun v5 w =>
 S.op (.box 126 v5) w (fun v6 w =>
 S.call (.fn 41) [v6] w (fun v8 w =>
 K v6 w) Kp) Kp) Kp
theorem vc40_eq : vc40 S a0 w K Kp = fVC S [] [] Tryz.f40 [a0] w K Kp := by kernel_rfl
theorem vc40_calls (h : vc40 (nice Tryz.prog) a0 w K Kp) : Calls Tryz.prog 40 #[a0] w (ret K Kp) :=
 fVC_sound (args := [a0]) nice_le follows_MVcS Tryz.func40 (by kernel_rfl) (Eq.mp vc40_eq h)
def vc39 (S : Sig) (a0 : Value) (w : World) (K : KV) (Kp : KP) : Prop :=
 S.op (.nilCheck a0) w (fun v4 w =>
 S.op (.fieldAddr 121 v4 0) w (fun v5 w =>
 S.op (.load 3 v5) w (fun v6 w =>
 K v6 w) Kp) Kp) Kp
theorem vc39_eq : vc39 S a0 w K Kp = fVC S [] [] Tryz.f39 [a0] w K Kp := by kernel_rfl
theorem vc39_calls (h : vc39 (nice Tryz.prog) a0 w K Kp) : Calls Tryz.prog 39 #[a0] w (ret K Kp) :=
 fVC_sound (args := [a0]) nice_le follows_MVcS Tryz.func39 (by kernel_rfl) (Eq.mp vc39_eq h)
def vc42 (S : Sig) (a0 : Value) (w : World) (K : KV) (Kp : KP) : Prop :=
 S.op (.nilCheck a0) w (fun v4 w =>
 S.op (.fieldAddr 126 v4 2) w (fun v5 w =>
 S.op (.load 3 v5) w (fun v6 w =>
 S.op (.bin .eql 3 false true v6 (.int .i64 (-1))) w (fun v7 w =>
 K v7 w) Kp) Kp) Kp) Kp
theorem vc42_eq : vc42 S a0 w K Kp = fVC S [] [] Tryz.f42 [a0] w K Kp := by kernel_rfl
theorem vc42_calls (h : vc42 (nice Tryz.prog) a0 w K Kp) : Calls Tryz.prog 42 #[a0] w (ret K Kp) :=
 fVC_sound (args := [a0]) nice_le follows_MVcS Tryz.func42 (by kernel_rfl) (Eq.mp vc42_eq h)
def vc41 (S : Sig) (a0 : Value) (w : World) (K : KV) (Kp : KP) : Prop :=
 S.op (.nilCheck a0) w (fun v3 w =>
 S.op (.fieldAddr 126 v3 0) w (fun v4 w =>
 S.op (.load 62 v4) w (fun v5 w =>
 S.op (.nilCheck v5) w (fun v6 w =>
 S.op (.fieldAddr 121 v6 1) w (fun v7 w =>
 S.op (.load 119 v7) w (fun v8 w =>
 S.op (.bin .eql 119 false true v8 .nilIface) w (fun v9 w =>
 Br v9 (
 S.op (.nilCheck a0) w (fun v11 w =>
 S.op (.fieldAddr 126 v11 2) w (fun v12 w =>
 S.op (.store 3 v12 (.int .i64 (-1))) w (fun _ w =>
 K (.tuple #[]) w) Kp) Kp) Kp) (
 S.pur (.nilCheck a0) (fun v15 =>
 S.pur (.fieldAddr 126 v15 0) (fun v16 =>
 S.ld (.load 62 v16) w.drew (fun v17 =>
 S.pur (.nilCheck v17) (fun v18 =>
 S.pur (.fieldAddr 121 v18 1) (fun v19 =>
 S.ld (.load 119 v19) w.drew (fun v20 =>
 S.pur (.build 123 [(0, v20)]) (fun v21 =>
 S.pur (.nilCheck a0) (fun v22 =>
 S.pur (.fieldAddr 126 v22 1) (fun v23 =>
 S.pur (.indexAddr 124 v23 (.int .i64 0)) (fun v24 =>
 S.op (.store 123 v24 v21) w.drew (fun _ w =>
 S.op (.nilCheck a0) w (fun v26 w =>
 S.op (.fieldAddr 126 v26 2) w (fun v27 w =>
 S.op (.store 3 v27 (.int .i64 0)) w (fun _ w =>
 S.call (.fn 56) [a0] w (fun v29 w =>
 K (.tuple #[]) w) Kp) Kp) Kp) Kp) Kp)))))))))))) Kp) Kp) Kp) Kp) Kp) Kp) Kp
theorem vc41_eq : vc41 S a0 w K Kp = fVC S [] [] Tryz.f41 [a0] w K Kp := by kernel_rfl
theorem vc41_calls (h : vc41 (nice Tryz.prog) a0 w K Kp) : Calls Tryz.prog 41 #[a0] w (ret K Kp) :=
 fVC_sound (args := [a0]) nice_le follows_MVcS Tryz.func41 (by kernel_rfl) (Eq.mp vc41_eq h)
def vc43 (S : Sig) (a0 : Value) (w : World) (K : KV) (Kp : KP) : Prop :=
 S.op (.alloc 88) w (fun v3 w =>
 S.call (.fn 42) [a0] w (fun v12 w =>
 Br v12 (
 S.ld (.load 88 v3) w.drew (fun v14 =>
 S.same (.load 88 v3) v14 w.drew ∧
 S.op (.store 88 v3 v14) w.drew (fun _ w =>
 S.ld (.load 88 v3) w (fun r1 =>
 K (.tuple #[(.int .i64 0), r1, (.bool false)]) w)) Kp)) (
 S.pur (.nilCheck a0) (fun v17 =>
 S.pur (.fieldAddr 126 v17 2) (fun v18 =>
 S.ld (.load 3 v18) w.drew (fun v19 =>
 S.pur (.nilCheck a0) (fun v20 =>
 S.pur (.fieldAddr 126 v20 1) (fun v21 =>
 S.pur (.indexAddr 124 v21 v19) (fun v22 =>
 S.op (.nilCheck v22) w.drew (fun v24 w =>
 S.op (.fieldAddr 123 v24 0) w (fun v25 w =>
 S.op (.load 119 v25) w (fun v26 w =>
 S.op (.tassert v26 119 128 true) w (fun v27 w =>
 S.op (.extract v27 1) w (fun v28 w =>
 S.op (.extract v27 0) w (fun v29 w =>
 Br v28 (
 S.pur (.nilCheck v29) (fun v31 =>
 S.pur (.fieldAddr 134 v31 0) (fun v32 =>
 S.ld (.load 132 v32) w.drew (fun v33 =>
 S.pur (.nilCheck v22) (fun v35 =>
 S.pur (.fieldAddr 123 v35 1) (fun v36 =>
 S.ld (.load 3 v36) w.drew (fun v37 =>
 S.pur (.indexAddr 132 v33 v37) (fun v38 =>
 S.pur (.nilCheck v38) (fun v40 =>
 S.pur (.fieldAddr 131 v40 0) (fun v41 =>
 S.ld (.load 2 v41) w.drew.drew (fun v42 =>
 S.pur (.nilCheck v38) (fun v44 =>
 S.ld (.fieldAddr 131 v44 1) w.drew.drew (fun v45 =>
 S.ld (.load 88 v45) w.drew.drew (fun v46 =>
 S.same (.load 88 v45) v46 w.drew.drew ∧
 S.same (.fieldAddr 131 v44 1) v45 w.drew.drew ∧
 S.op (.store 88 v3 v46) w.drew.drew (fun _ w =>
 S.call (.fn 57) [a0] w (fun v79 w =>
 S.ld (.load 88 v3) w.drew (fun v81 =>
 S.same (.load 88 v3) v81 w.drew ∧
 S.op (.store 88 v3 v81) w.drew (fun _ w =>
 S.ld (.load 88 v3) w (fun r1 =>
 K (.tuple #[v42, r1, (.bool true)]) w)) Kp)) Kp) Kp)))))))))))))) (
 S.op (.tassert v26 119 135 true) w (fun v47 w =>
 S.op (.extract v47 1) w (fun v48 w =>
 S.op (.extract v47 0) w (fun v49 w =>
 Br v48 (
 S.pur (.nilCheck v49) (fun v51 =>
 S.pur (.fieldAddr 137 v51 1) (fun v52 =>
 S.ld (.load 2 v52) w.drew (fun v53 =>
 S.pur (.nilCheck v49) (fun v55 =>
 S.ld (.fieldAddr 137 v55 2) w.drew (fun v56 =>
 S.ld (.load 88 v56) w.drew (fun v57 =>
 S.same (.load 88 v56) v57 w.drew ∧
 S.same (.fieldAddr 137 v55 2) v56 w.drew ∧
 S.op (.store 88 v3 v57) w.drew (fun _ w =>
 S.call (.fn 57) [a0] w (fun v79 w =>
 S.ld (.load 88 v3) w.drew (fun v81 =>
 S.same (.load 88 v3) v81 w.drew ∧
 S.op (.store 88 v3 v81) w.drew (fun _ w =>
 S.ld (.load 88 v3) w (fun r1 =>
 K (.tuple #[v53, r1, (.bool true)]) w)) Kp)) Kp) Kp))))))) (
 S.op (.tassert v26 119 138 true) w (fun v58 w =>
 S.op (.extract v58 1) w (fun v59 w =>
 S.op (.extract v58 0) w (fun v60 w =>
 Br v59 (
 S.pur (.nilCheck v60) (fun v62 =>
 S.pur (.fieldAddr 140 v62 1) (fun v63 =>
 S.ld (.load 132 v63) w.drew (fun v64 =>
 S.pur (.nilCheck v22) (fun v66 =>
 S.pur (.fieldAddr 123 v66 1) (fun v67 =>
 S.ld (.load 3 v67) w.drew (fun v68 =>
 S.pur (.indexAddr 132 v64 v68) (fun v69 =>
 S.pur (.nilCheck v69) (fun v71 =>
 S.pur (.fieldAddr 131 v71 0) (fun v72 =>
 S.ld (.load 2 v72) w.drew.drew (fun v73 =>
 S.pur (.nilCheck v69) (fun v75 =>
 S.ld (.fieldAddr 131 v75 1) w.drew.drew (fun v76 =>
 S.ld (.load 88 v76) w.drew.drew (fun v77 =>
 S.same (.load 88 v76) v77 w.drew.drew ∧
 S.same (.fieldAddr 131 v75 1) v76 w.drew.drew ∧
 S.op (.store 88 v3 v77) w.drew.drew (fun _ w =>
 S.call (.fn 57) [a0] w (fun v79 w =>
 S.ld (.load 88 v3) w.drew (fun v81 =>
 S.same (.load 88 v3) v81 w.drew ∧
 S.op (.store 88 v3 v81) w.drew (fun _ w =>
 S.ld (.load 88 v3) w (fun r1 =>
 K (.tuple #[v73, r1, (.bool true)]) w)) Kp)) Kp) Kp)))))))))))))) (
 S.call (.fn 57) [a0] w (fun v79 w =>
 S.ld (.load 88 v3) w.drew (fun v81 =>
 S.same (.load 88 v3) v81 w.drew ∧
 S.op (.store 88 v3 v81) w.drew (fun _ w =>
 S.ld (.load 88 v3) w (fun r1 =>
 K (.tuple #[(.int .i64 0), r1, (.bool true)]) w)) Kp)) Kp)) Kp) Kp) Kp)) Kp) Kp) Kp)) Kp) Kp) Kp) Kp) Kp) Kp)))))))) Kp) Kp
theorem vc43_eq : vc43 S a0 w K Kp = fVC S [] [] Tryz.f43 [a0] w K Kp := by kernel_rfl
theorem vc43_calls (h : vc43 (nice Tryz.prog) a0 w K Kp) : Calls Tryz.prog 43 #[a0] w (ret K Kp) :=
 fVC_sound (args := [a0]) nice_le follows_MVcS Tryz.func43 (by kernel_rfl) (Eq.mp vc43_eq h)
def vc56 (S : Sig) (a0 : Value) (w : World) (K : KV) (Kp : KP) : Prop :=
 Lp fun (I1 : World → Prop) (μ1 : World → Nat) => I1 w ∧
 ∀ (wl1 : World) (junk : Nat → Value), I1 wl1 →
 S.pur (.nilCheck a0) (fun v16 =>
 S.pur (.fieldAddr 126 v16 2) (fun v17 =>
 S.ld (.load 3 v17) wl1.drew (fun v18 =>
 S.pur (.nilCheck a0) (fun v19 =>
 S.pur (.fieldAddr 126 v19 1) (fun v20 =>
 S.pur (.indexAddr 124 v20 v18) (fun v21 =>
 S.op (.nilCheck v21) wl1.drew (fun v23 w =>
 S.op (.fieldAddr 123 v23 0) w (fun v24 w =>
 S.op (.load 119 v24) w (fun v25 w =>
 S.op (.tassert v25 119 166 true) w (fun v29 w =>
 S.op (.extract v29 1) w (fun v30 w =>
 S.op (.extract v29 0) w (fun v31 w =>
 Br v30 (
 S.op (.nilCheck v21) w (fun v33 w =>
 S.op (.fieldAddr 123 v33 1) w (fun v34 w =>
 S.op (.store 3 v34 (.int .i64 0)) w (fun _ w =>
 S.pur (.nilCheck a0) (fun v37 =>
 S.pur (.fieldAddr 126 v37 2) (fun v38 =>
 S.ld (.load 3 v38) w.drew (fun v39 =>
 S.pur (.bin .add 3 false true v39 (.int .i64 1)) (fun v40 =>
 S.pur (.nilCheck v31) (fun v42 =>
 S.pur (.fieldAddr 169 v42 1) (fun v43 =>
 S.ld (.load 167 v43) w.drew (fun v44 =>
 S.pur (.indexAddr 167 v44 (.int .i64 0)) (fun v45 =>
 S.ld (.load 119 v45) w.drew (fun v46 =>
 S.pur (.nilCheck a0) (fun v47 =>
 S.pur (.fieldAddr 126 v47 1) (fun v48 =>
 S.pur (.indexAddr 124 v48 v40) (fun v49 =>
 S.pur (.fieldAddr 123 v49 0) (fun v50 =>
 S.op (.store 119 v50 v46) w.drew (fun _ w =>
 S.op (.nilCheck a0) w (fun v8 w =>
 S.op (.fieldAddr 126 v8 2) w (fun v9 w =>
 S.op (.load 3 v9) w (fun v10 w =>
 S.op (.bin .add 3 false true v10 (.int .i64 1)) w (fun v11 w =>
 S.op (.nilCheck a0) w (fun v12 w =>
 S.op (.fieldAddr 126 v12 2) w (fun v13 w =>
 S.op (.store 3 v13 v11) w (fun _ w =>
 I1 w ∧ μ1 w < μ1 wl1) Kp) Kp) Kp) Kp) Kp) Kp) Kp) Kp)))))))))))))) Kp) Kp) Kp) (
 S.op (.tassert v25 119 170 true) w (fun v51 w =>
 S.op (.extract v51 1) w (fun v52 w =>
 S.op (.extract v51 0) w (fun v53 w =>
 Br v52 (
 Lp fun (I12 : KV) (μ12 : Value → World → Nat) => I12 (.int .i64 0) w ∧
 ∀ (wl12 : World) (junk : Nat → Value) (s5 : Value), I12 s5 wl12 →
 S.op (.bin .lss 3 false true s5 (.int .i64 32)) wl12 (fun v55 w =>
 Br v55 (
 S.op (.nilCheck v53) w (fun v60 w =>
 S.op (.fieldAddr 173 v60 1) w (fun v61 w =>
 S.op (.indexAddr 171 v61 s5) w (fun v62 w =>
 S.op (.load 119 v62) w (fun v63 w =>
 S.op (.bin .neq 119 false true v63 .nilIface) w (fun v64 w =>
 Br v64 (
 S.op (.nilCheck v21) w (fun v67 w =>
 S.op (.fieldAddr 123 v67 1) w (fun v68 w =>
 S.op (.store 3 v68 s5) w (fun _ w =>
 S.pur (.nilCheck a0) (fun v71 =>
 S.pur (.fieldAddr 126 v71 2) (fun v72 =>
 S.ld (.load 3 v72) w.drew (fun v73 =>
 S.pur (.bin .add 3 false true v73 (.int .i64 1)) (fun v74 =>
 S.pur (.nilCheck v53) (fun v77 =>
 S.pur (.fieldAddr 173 v77 1) (fun v78 =>
 S.pur (.indexAddr 171 v78 s5) (fun v79 =>
 S.ld (.load 119 v79) w.drew (fun v80 =>
 S.pur (.nilCheck a0) (fun v81 =>
 S.pur (.fieldAddr 126 v81 1) (fun v82 =>
 S.pur (.indexAddr 124 v82 v74) (fun v83 =>
 S.pur (.fieldAddr 123 v83 0) (fun v84 =>
 S.op (.store 119 v84 v80) w.drew (fun _ w =>
 S.op (.nilCheck a0) w (fun v8 w =>
 S.op (.fieldAddr 126 v8 2) w (fun v9 w =>
 S.op (.load 3 v9) w (fun v10 w =>
 S.op (.bin .add 3 false true v10 (.int .i64 1)) w (fun v11 w =>
 S.op (.nilCheck a0) w (fun v12 w =>
 S.op (.fieldAddr 126 v12 2) w (fun v13 w =>
 S.op (.store 3 v13 v11) w (fun _ w =>
 I1 w ∧ μ1 w < μ1 wl1) Kp) Kp) Kp) Kp) Kp) Kp) Kp) Kp))))))))))))) Kp) Kp) Kp) (
 S.op (.bin .add 3 false true s5 (.int .i64 1)) w (fun v57 w =>
 I12 v57 w ∧ μ12 v57 w < μ12 s5 wl12) Kp)) Kp) Kp) Kp) Kp) Kp) (
 S.op (.nilCheck a0) w (fun v8 w =>
 S.op (.fieldAddr 126 v8 2) w (fun v9 w =>
 S.op (.load 3 v9) w (fun v10 w =>
 S.op (.bin .add 3 false true v10 (.int .i64 1)) w (fun v11 w =>
 S.op (.nilCheck a0) w (fun v12 w =>
 S.op (.fieldAddr 126 v12 2) w (fun v13 w =>
 S.op (.store 3 v13 v11) w (fun _ w =>
 I1 w ∧ μ1 w < μ1 wl1) Kp) Kp) Kp) Kp) Kp) Kp) Kp)) Kp) (
 S.op (.nilCheck v21) w (fun v27 w =>
 S.op (.fieldAddr 123 v27 1) w (fun v28 w =>
 S.op (.store 3 v28 (.int .i64 0)) w (fun _ w =>
 K (.tuple #[]) w) Kp) Kp) Kp)) Kp) Kp) Kp)) Kp) Kp) Kp) Kp) Kp) Kp))))))
theorem vc56_eq : vc56 S a0 w K Kp = fVC S [(1, []), (12, [5])] [] Tryz.f56 [a0] w K Kp := by kernel_rfl
theorem vc56_calls (h : vc56 (nice Tryz.prog) a0 w K Kp) : Calls Tryz.prog 56 #[a0] w (ret K Kp) :=
 fVC_sound (args := [a0]) nice_le follows_MVcS Tryz.func56 (by kernel_rfl) (Eq.mp vc56_eq h)
def vc57 (S : Sig) (a0 : Value) (w : World) (K : KV) (Kp : KP) : Prop :=
 Lp fun (I0 : World → Prop) (μ0 : World → Nat) => I0 w ∧
 ∀ (wl0 : World) (junk : Nat → Value), I0 wl0 →
 S.op (.nilCheck a0) wl0 (fun v10 w =>
 S.op (.fieldAddr 126 v10 2) w (fun v11 w =>
 S.op (.load 3 v11) w (fun v12 w =>
 S.op (.bin .geq 3 false true v12 (.int .i64 0)) w (fun v13 w =>
 Br v13 (
 Jn fun (J1 : World → Prop) =>
 (S.pur (.nilCheck a0) (fun v23 =>
 S.pur (.fieldAddr 126 v23 2) (fun v24 =>
 S.ld (.load 3 v24) w.drew (fun v25 =>
 S.pur (.nilCheck a0) (fun v26 =>
 S.pur (.fieldAddr 126 v26 1) (fun v27 =>
 S.pur (.indexAddr 124 v27 v25) (fun v28 =>
 S.op (.nilCheck v28) w.drew (fun v30 w =>
 S.op (.fieldAddr 123 v30 0) w (fun v31 w =>
 S.op (.load 119 v31) w (fun v32 w =>
 S.op (.tassert v32 119 128 true) w (fun v33 w =>
 S.op (.extract v33 1) w (fun v34 w =>
 S.op (.extract v33 0) w (fun v35 w =>
 Br v34 (
 S.pur (.nilCheck v28) (fun v37 =>
 S.pur (.fieldAddr 123 v37 1) (fun v38 =>
 S.ld (.load 3 v38) w.drew (fun v39 =>
 S.pur (.nilCheck v35) (fun v41 =>
 S.pur (.fieldAddr 134 v41 0) (fun v42 =>
 S.ld (.load 132 v42) w.drew (fun v43 =>
 S.ld (.blt .len [132] 3 [v43]) w.drew (fun v44 =>
 S.pur (.bin .sub 3 false true v44 (.int .i64 1)) (fun v45 =>
 S.pur (.bin .lss 3 false false v39 v45) (fun v46 =>
 Br v46 (
 S.op (.nilCheck v28) w.drew (fun v48 w =>
 S.op (.fieldAddr 123 v48 1) w (fun v49 w =>
 S.op (.load 3 v49) w (fun v50 w =>
 S.op (.bin .add 3 false true v50 (.int .i64 1)) w (fun v51 w =>
 S.op (.nilCheck v28) w (fun v52 w =>
 S.op (.fieldAddr 123 v52 1) w (fun v53 w =>
 S.op (.store 3 v53 v51) w (fun _ w =>
 K (.tuple #[]) w) Kp) Kp) Kp) Kp) Kp) Kp) Kp) (
 J1 w.drew))))))))))) (
 S.op (.tassert v32 119 166 true) w (fun v54 w =>
 S.op (.extract v54 1) w (fun v55 w =>
 S.op (.extract v54 0) w (fun v56 w =>
 Br v55 (
 S.pur (.nilCheck v28) (fun v58 =>
 S.pur (.fieldAddr 123 v58 1) (fun v59 =>
 S.ld (.load 3 v59) w.drew (fun v60 =>
 S.pur (.nilCheck v56) (fun v62 =>
 S.pur (.fieldAddr 169 v62 1) (fun v63 =>
 S.ld (.load 167 v63) w.drew (fun v64 =>
 S.ld (.blt .len [167] 3 [v64]) w.drew (fun v65 =>
 S.pur (.bin .sub 3 false true v65 (.int .i64 1)) (fun v66 =>
 S.pur (.bin .lss 3 false false v60 v66) (fun v67 =>
 Br v67 (
 S.op (.nilCheck v28) w.drew (fun v69 w =>
 S.op (.fieldAddr 123 v69 1) w (fun v70 w =>
 S.op (.load 3 v70) w (fun v71 w =>
 S.op (.bin .add 3 false true v71 (.int .i64 1)) w (fun v72 w =>
 S.op (.nilCheck v28) w (fun v73 w =>
 S.op (.fieldAddr 123 v73 1) w (fun v74 w =>
 S.op (.store 3 v74 v72) w (fun _ w =>
 S.pur (.nilCheck a0) (fun v77 =>
 S.pur (.fieldAddr 126 v77 2) (fun v78 =>
 S.ld (.load 3 v78) w.drew (fun v79 =>
 S.pur (.bin .add 3 false true v79 (.int .i64 1)) (fun v80 =>
 S.pur (.nilCheck v56) (fun v82 =>
 S.pur (.fieldAddr 169 v82 1) (fun v83 =>
 S.ld (.load 167 v83) w.drew (fun v84 =>
 S.pur (.nilCheck v28) (fun v86 =>
 S.pur (.fieldAddr 123 v86 1) (fun v87 =>
 S.ld (.load 3 v87) w.drew (fun v88 =>
 S.pur (.indexAddr 167 v84 v88) (fun v89 =>
 S.ld (.load 119 v89) w.drew (fun v90 =>
 S.pur (.nilCheck a0) (fun v91 =>
 S.pur (.fieldAddr 126 v91 1) (fun v92 =>
 S.pur (.indexAddr 124 v92 v80) (fun v93 =>
 S.pur (.fieldAddr 123 v93 0) (fun v94 =>
 S.op (.store 119 v94 v90) w.drew (fun _ w =>
 S.op (.nilCheck a0) w (fun v96 w =>
 S.op (.fieldAddr 126 v96 2) w (fun v97 w =>
 S.op (.load 3 v97) w (fun v98 w =>
 S.op (.bin .add 3 false true v98 (.int .i64 1)) w (fun v99 w =>
 S.op (.nilCheck a0) w (fun v100 w =>
 S.op (.fieldAddr 126 v100 2) w (fun v101 w =>
 S.op (.store 3 v101 v99) w (fun _ w =>
 S.call (.fn 56) [a0] w (fun v103 w =>
 K (.tuple #[]) w) Kp) Kp) Kp) Kp) Kp) Kp) Kp) Kp) Kp))))))))))))))))) Kp) Kp) Kp) Kp) Kp) Kp) Kp) (
 J1 w.drew))))))))))) (
 S.op (.tassert v32 119 170 true) w (fun v104 w =>
 S.op (.extract v104 1) w (fun v105 w =>
 S.op (.extract v104 0) w (fun v106 w =>
 Br v105 (
 S.op (.nilCheck v28) w (fun v108 w =>
 S.op (.fieldAddr 123 v108 1) w (fun v109 w =>
 S.op (.load 3 v109) w (fun v110 w =>
 S.op (.bin .add 3 false true v110 (.int .i64 1)) w (fun v111 w =>
 Lp fun (I18 : KV) (μ18 : Value → World → Nat) => I18 v111 w ∧
 ∀ (wl18 : World) (junk : Nat → Value) (s6 : Value), I18 s6 wl18 →
 S.op (.bin .lss 3 false true s6 (.int .i64 32)) wl18 (fun v113 w =>
 Br v113 (
 S.op (.nilCheck v106) w (fun v118 w =>
 S.op (.fieldAddr 173 v118 1) w (fun v119 w =>
 S.op (.indexAddr 171 v119 s6) w (fun v120 w =>
 S.op (.load 119 v120) w (fun v121 w =>
 S.op (.bin .neq 119 false true v121 .nilIface) w (fun v122 w =>
 Br v122 (
 S.op (.nilCheck v28) w (fun v125 w =>
 S.op (.fieldAddr 123 v125 1) w (fun v126 w =>
 S.op (.store 3 v126 s6) w (fun _ w =>
 S.pur (.nilCheck a0) (fun v129 =>
 S.pur (.fieldAddr 126 v129 2) (fun v130 =>
 S.ld (.load 3 v130) w.drew (fun v131 =>
 S.pur (.bin .add 3 false true v131 (.int .i64 1)) (fun v132 =>
 S.pur (.nilCheck v28) (fun v135 =>
 S.pur (.fieldAddr 123 v135 1) (fun v136 =>
 S.ld (.load 3 v136) w.drew (fun v137 =>
 S.pur (.nilCheck v106) (fun v138 =>
 S.pur (.fieldAddr 173 v138 1) (fun v139 =>
 S.pur (.indexAddr 171 v139 v137) (fun v140 =>
 S.ld (.load 119 v140) w.drew (fun v141 =>
 S.pur (.nilCheck a0) (fun v142 =>
 S.pur (.fieldAddr 126 v142 1) (fun v143 =>
 S.pur (.indexAddr 124 v143 v132) (fun v144 =>
 S.pur (.fieldAddr 123 v144 0) (fun v145 =>
 S.op (.store 119 v145 v141) w.drew (fun _ w =>
 S.op (.nilCheck a0) w (fun v147 w =>
 S.op (.fieldAddr 126 v147 2) w (fun v148 w =>
 S.op (.load 3 v148) w (fun v149 w =>
 S.op (.bin .add 3 false true v149 (.int .i64 1)) w (fun v150 w =>
 S.op (.nilCheck a0) w (fun v151 w =>
 S.op (.fieldAddr 126 v151 2) w (fun v152 w =>
 S.op (.store 3 v152 v150) w (fun _ w =>
 S.call (.fn 56) [a0] w (fun v154 w =>
 K (.tuple #[]) w) Kp) Kp) Kp) Kp) Kp) Kp) Kp) Kp) Kp)))))))))))))))) Kp) Kp) Kp) (
 S.op (.bin .add 3 false true s6 (.int .i64 1)) w (fun v115 w =>
 I18 v115 w ∧ μ18 v115 w < μ18 s6 wl18) Kp)) Kp) Kp) Kp) Kp) Kp) (
 J1 w)) Kp) Kp) Kp) Kp) Kp) (
 S.op (.tassert v32 119 135 true) w (fun v155 w =>
 S.op (.extract v155 1) w (fun v156 w =>
 S.op (.extract v155 0) w (fun v157 w =>
 Br v156 (
 J1 w) (
 S.op (.tassert v32 119 138 true) w (fun v158 w =>
 S.op (.extract v158 1) w (fun v159 w =>
 S.op (.extract v158 0) w (fun v160 w =>
 Br v159 (
 S.pur (.nilCheck v28) (fun v162 =>
 S.pur (.fieldAddr 123 v162 1) (fun v163 =>
 S.ld (.load 3 v163) w.drew (fun v164 =>
 S.pur (.nilCheck v160) (fun v166 =>
 S.pur (.fieldAddr 140 v166 1) (fun v167 =>
 S.ld (.load 132 v167) w.drew (fun v168 =>
 S.ld (.blt .len [132] 3 [v168]) w.drew (fun v169 =>
 S.pur (.bin .sub 3 false true v169 (.int .i64 1)) (fun v170 =>
 S.pur (.bin .lss 3 false false v164 v170) (fun v171 =>
 Br v171 (
 S.op (.nilCheck v28) w.drew (fun v173 w =>
 S.op (.fieldAddr 123 v173 1) w (fun v174 w =>
 S.op (.load 3 v174) w (fun v175 w =>
 S.op (.bin .add 3 false true v175 (.int .i64 1)) w (fun v176 w =>
 S.op (.nilCheck v28) w (fun v177 w =>
 S.op (.fieldAddr 123 v177 1) w (fun v178 w =>
 S.op (.store 3 v178 v176) w (fun _ w =>
 K (.tuple #[]) w) Kp) Kp) Kp) Kp) Kp) Kp) Kp) (
 J1 w.drew))))))))))) (
 J1 w)) Kp) Kp) Kp)) Kp) Kp) Kp)) Kp) Kp) Kp)) Kp) Kp) Kp)) Kp) Kp) Kp) Kp) Kp) Kp))))))) ∧
 (∀ (w : World) (junk : Nat → Value), J1 w →
 S.op (.nilCheck a0) w (fun v15 w =>
 S.op (.fieldAddr 126 v15 2) w (fun v16 w =>
 S.op (.load 3 v16) w (fun v17 w =>
 S.op (.bin .sub 3 false true v17 (.int .i64 1)) w (fun v18 w =>
 S.op (.nilCheck a0) w (fun v19 w =>
 S.op (.fieldAddr 126 v19 2) w (fun v20 w =>
 S.op (.store 3 v20 v18) w (fun _ w =>
 I0 w ∧ μ0 w < μ0 wl0) Kp) Kp) Kp) Kp) Kp) Kp) Kp)) (
 K (.tuple #[]) w)) Kp) Kp) Kp) Kp
theorem vc57_eq : vc57 S a0 w K Kp = fVC S [(0, []), (18, [6])] [(1, [])] Tryz.f57 [a0] w K Kp := by kernel_rfl
theorem vc57_calls (h : vc57 (nice Tryz.prog) a0 w K Kp) : Calls Tryz.prog 57 #[a0] w (ret K Kp) :=
 fVC_sound (args := [a0]) nice_le follows_MVcS Tryz.func57 (by kernel_rfl) (Eq.mp vc57_eq h)
end Go.Proofs.YtbghmbbhkoniiaaGreat
end
section
/- The address of a field that has no size. -/
namespace Go.Vc
variable {P : Program} {w : World} {K : Value → World → Prop} {Kp : KP} {K1 : Value → Prop} {t e : TypeId}
theorem fieldAt0 {fs : Array Field} {fd : Field} {f b o b1 b2 : Nat} {cs : Array Value} {fz : Nat × Nat} (hu : P.underlying t = some (.struct fs)) (hf : fs[f]? = some fd) (hs : szOf P fd.type = some 0)
    (hb : w.heap[b]? = some (.cells cs e fz)) (h0 : P.cellsOf e ≠ 0) (h1 : byteOfCell P P.depth e (o % P.cellsOf e) = some b1) (h2 : byteOfCell P P.depth e ((o + fd.offset) % P.cellsOf e) = some b2)
    (hne : (o + fd.offset) / P.cellsOf e * P.bytesOf e + b2 ≠ o / P.cellsOf e * P.bytesOf e + b1 + fd.byteOffset) :
    (Instr.fieldAt t (.pointer (some ⟨b, o, none⟩)) f).run P w = .ok (.pointer (some ⟨b, o + fd.offset, some (o / P.cellsOf e * P.bytesOf e + b1 + fd.byteOffset)⟩)) w := by
  have hc : ∀ {α : Type} (k : Option (TypeId × Nat) → Sem α), (Sem.shape b k).run P w = (k (some (e, cs.size))).run P w := fun k => by
    simp [Sem.run, World.shape?, hb]
  simp [Instr.fieldAt, run_und hu, hf, Instr.sureAddr, fieldPlace, run_sz hs, partAt, byteOf, noView, viewAt, shape, hc, h0, h1, h2, hne]
theorem op_fa0_ok {f b o : Nat} {a : Value} (hn : fieldOff P t f = none) (h : (Instr.fieldAt t (.pointer (some ⟨b, o, none⟩)) f).run P w = .ok a w) (hK : K a w) : (nice P).op (.fieldAddr t (.pointer (some ⟨b, o, none⟩)) f) w K Kp := by
  simp only [nice, niceOp, pv, hn, Option.map_none, memOp]
  exact out_ok h hK
theorem ld_fa0_ok {f b o : Nat} {a : Value} (h : (Instr.fieldAt t (.pointer (some ⟨b, o, none⟩)) f).run P w = .ok a w) (hK : K1 a) : (nice P).ld (.fieldAddr t (.pointer (some ⟨b, o, none⟩)) f) w K1 := ⟨a, h, hK⟩
theorem same_fa0_ok {f b o : Nat} {a : Value} (h : (Instr.fieldAt t (.pointer (some ⟨b, o, none⟩)) f).run P w = .ok a w) : (nice P).same (.fieldAddr t (.pointer (some ⟨b, o, none⟩)) f) a w := h
end Go.Vc
end
