import Derived.Test.YtbghmbbhkoniiaaH5
import Derived.Test.YtbghmbbhkoniiaaH3
import Derived.Test.YtbghmbbhkoniiaaH4
import Derived.Carry
section
/- Setting a key behind a root. -/
set_option maxRecDepth 100000
set_option maxHeartbeats 1000000
set_option linter.unusedSimpArgs false
set_option linter.unusedVariables false
set_option linter.unusedSectionVars false
namespace Go.Proofs.Ytbghmbbhkoniiaa.S
open Go.Vc Go.Proofs Go.Proofs.Ytbghmbbhkoniiaa Go.Vc.Nd
variable {w w' : World} {v hv : Value} {t : Tr} {F F' : Nat → Prop} {K : Value → World → Prop} {Kp : KP} {hash : Ky → Nat} {k : Ky} {x : Vl} {l s rb : Nat} {r0 mu : Bool}

def zeroE : Array Value := #[.int .i64 0]
theorem set_root (h : WF hash t 0 0) : Nd.set hash t k x = setIn (hash k) k x t 0 ∨ t = .emp := by
  cases t with
  | emp => exact .inr rfl
  | arr es => exact h.elim
  | _ => exact .inl rfl
theorem setIn_len (hH : IsH hv hash) (h : WF hash t 0 0) (hne : t ≠ .emp) : (toL (setIn (hash k) k x t 0)).length ≤ (toL t).length + 1 := by
  have := set_len (hash := hash) (k := k) (v := x) hH.lt (WFr.of h)
  rw [(set_root h).resolve_right hne] at this
  rw [this]; split <;> omega

theorem nil_set (h : Rep w t v F) (hne : t ≠ .emp) {K1 : Value → Prop} : (nice Try.prog).pur (.nilCheck (.func (.method "pub-bracken/pub/immutable.set") #[v] #[])) K1 = K1 (.func (.method "pub-bracken/pub/immutable.set") #[v] #[]) := by
  cases t with
  | emp => exact absurd rfl hne
  | arr es => obtain ⟨b, g, cap, rfl, _⟩ := h; simp [ptr]
  | val h' k x => obtain ⟨b, rfl, _⟩ := h; simp [ptr]
  | col h' es => obtain ⟨b, g, cap, rfl, _⟩ := h; simp [ptr]
  | br hs f => cases hs with
    | true => obtain ⟨b, cs, vs, Fs, rfl, _⟩ := h; simp [ptr]
    | false => obtain ⟨b, g, cap, vs, Fs, rfl, _⟩ := h; simp [ptr]

theorem setA_ok {es : List (Ky × Vl)} {kh : Value} (hH : IsH hv hash) (hL : es.length ≤ 8) (h : Rep w (.arr es) v F) (hr : flag w rb r0) (hrb : ¬ F rb)
    (hK : Sets w mu F rb (r0 || (find es k).isNone) (Nd.set hash (.arr es) k x) K) :
    (nice Try.prog).call (.inv v "pub-bracken/pub/immutable.set") [ek k, ev x, .int .u64 0, kh, hv, .bool mu, ptr rb] w K Kp := by
  obtain ⟨b, g, cap, rfl, h2, h3, h4, hb, h6, hg⟩ := h
  simp only [inv_240_170]
  refine vc170_calls ?_
  simp only [vc170]
  refine op_box_ok fun w k0 z0 b0 => ?_
  replace hb := k0.get hb (fun h => h)
  replace hg := hg.frame k0 (fun h => h)
  replace hr := hr.frame k0 (fun h => h)
  replace hK := hK.still k0
  have hne : b ≠ rb := fun e => hrb (e ▸ h2)
  have hgr : g ≠ rb := fun e => hrb (e ▸ h3)
  have l1 := lt_of_get hb
  have l2 := lt_of_get hr
  have l3 := hg.lt
  simp [-getElem?_pos, -Array.getElem?_eq_getElem, -Int.natCast_add, add_spot, and_assoc, Br_dec, -op_box, -op_st_4, -op_st_22, -op_st_226, -op_st_243, -op_st_296, -op_st_242, -op_st_187, -op_st_2, -op_st_307, -op_alloc_245, -op_alloc_242, -op_alloc_307, -op_lit_243_1, -op_lit_243_2, -op_lit_296_1, -op_lit_296_2, vc170]
  refine indexA_ok hH hb hg h6 fun w1 k1 => ?_
  have hb1 := k1.get hb (fun h => h)
  have hg1 := hg.frame k1 (fun h => h)
  have hr1 := hr.frame k1 (fun h => h)
  have n1 := k1.size
  have hidx : ∀ {w : World} {K : Value → World → Prop} {Kp : KP}, (nice Try.prog).op (.bin .eql 3 false true (idxV (find es k)) (.int .i64 (-1))) w K Kp = K (.bool (find es k).isNone) w := fun {w K Kp} => by
    cases find es k with
    | none => simp [idxV]
    | some i => simp only [idxV, op_eql]; rw [decide_eq_false (by omega)]; rfl
  have hidn : ∀ {w : World} {K : Value → World → Prop} {Kp : KP}, (nice Try.prog).op (.bin .neq 3 false true (idxV (find es k)) (.int .i64 (-1))) w K Kp = K (.bool (find es k).isSome) w := fun {w K Kp} => by
    cases find es k with
    | none => simp [idxV]
    | some i => simp only [idxV, op_neq]; rw [decide_eq_false (by omega)]; rfl
  simp [-getElem?_pos, -Array.getElem?_eq_getElem, -Int.natCast_add, add_spot, and_assoc, Br_dec, -op_box, -op_st_4, -op_st_22, -op_st_226, -op_st_243, -op_st_296, -op_st_242, -op_st_187, -op_st_2, -op_st_307, -op_alloc_245, -op_alloc_242, -op_alloc_307, -op_lit_243_1, -op_lit_243_2, -op_lit_296_1, -op_lit_296_2, hidx, hidn, ptr]
  refine Jn.intro (fun w2 => Frm (· = rb) w1 w2 ∧ flag w2 rb (r0 || (find es k).isNone)) ⟨fun e => ?_, fun e => ⟨Frm.refl, ?_⟩, ?_⟩
  · exact raise_ok hr1 fun w2 k2 z2 f2 => ⟨k2, by simpa [e] using f2⟩
  · have : (find es k).isNone = false := by cases h : find es k <;> simp_all
    rw [this]; simpa using hr1
  rintro w2 ⟨k2, f2⟩
  have hb2 := k2.get hb1 hne
  have hg2 := hg1.frame k2 hgr
  have n2 := k2.size
  refine Jn.intro (fun w3 => w3 = w2 ∧ ¬ ((find es k).isNone = true ∧ 8 ≤ es.length)) ⟨fun e => ?_, fun e => ⟨rfl, fun h => ?_⟩, ?_⟩
  · have h8i : ((8 : Int) ≤ (es.length : Int)) ↔ 8 ≤ es.length := by omega
    simp [-getElem?_pos, -Array.getElem?_eq_getElem, -Int.natCast_add, add_spot, and_assoc, Br_dec, -op_box, -op_st_4, -op_st_22, -op_st_226, -op_st_243, -op_st_296, -op_st_242, -op_st_187, -op_st_2, -op_st_307, -op_alloc_245, -op_alloc_242, -op_alloc_307, -op_lit_243_1, -op_lit_243_2, -op_lit_296_1, -op_lit_296_2, ptr, hb2, e, h8i]
    intro h8
    have hset : Nd.set hash (.arr es) k x = es.foldl (fun n e => setIn (hash e.1) e.1 e.2 n 0) (.val (hash k) k x) := by
      show (if ((find es k).isNone && decide (8 ≤ es.length)) = true then _ else _) = _
      rw [e, decide_eq_true h8]; rfl
    rw [hset] at hK
    refine hH.hsh fun w3 k3 => ?_
    replace k3 := Frm.dr k3
    have hb3 := k3.get hb2 (fun h => h)
    have hg3 := hg2.frame k3 (fun h => h)
    have f3 := f2.frame k3 (fun h => h)
    have n3 := k3.size
    refine new_val_ok (x := x) fun bv w4 k4 lv lv2 r4 => ?_
    have hb4 := k4.get hb3 (fun h => h)
    have hg4 := hg3.frame k4 (fun h => h)
    have f4 := f3.frame k4 (fun h => h)
    rw [e] at f4 hK
    simp only [Option.isNone_none, Bool.or_true] at f4 hK
    simp [-getElem?_pos, -Array.getElem?_eq_getElem, -Int.natCast_add, add_spot, and_assoc, Br_dec, -op_box, -op_st_4, -op_st_22, -op_st_226, -op_st_243, -op_st_296, -op_st_242, -op_st_187, -op_st_2, -op_st_307, -op_alloc_245, -op_alloc_242, -op_alloc_307, -op_lit_243_1, -op_lit_243_2, -op_lit_296_1, -op_lit_296_2, hb4]
    obtain ⟨N, hN⟩ : ∃ N : Nat → Tr, ∀ j, N j = (es.take j).foldl (fun n e => setIn (hash e.1) e.1 e.2 n 0) (.val (hash k) k x) := ⟨_, fun _ => rfl⟩
    have hN0 : N 0 = .val (hash k) k x := by rw [hN]; rfl
    have hNs : ∀ j (hj : j < es.length), N (j + 1) = setIn (hash es[j].1) es[j].1 es[j].2 (N j) 0 := fun j hj => by
      rw [hN, hN, List.take_succ_eq_append_getElem hj, List.foldl_append]; rfl
    have hNe : N es.length = es.foldl (fun n e => setIn (hash e.1) e.1 e.2 n 0) (.val (hash k) k x) := by rw [hN, List.take_length]
    have hNW : ∀ j, j ≤ es.length → WF hash (N j) 0 0 ∧ N j ≠ .emp ∧ (toL (N j)).length ≤ j + 1 := fun j => by
      induction j with
      | zero => intro _; rw [hN0]; exact ⟨⟨rfl, by simp [Nat.mod_one]⟩, by simp, by simp [toL]⟩
      | succ j ih =>
        intro hj
        obtain ⟨i1, i2, i3⟩ := ih (by omega)
        rw [hNs j (by omega)]
        have hsp := setIn_spec (hash := hash) (k := es[j].1) (v := es[j].2) hH.lt (N j) 0 0 i1 (by decide) (mod_one _) (by decide)
        have hln := setIn_len (k := es[j].1) (x := es[j].2) hH i1 i2
        exact ⟨hsp.1, hsp.2.1, by omega⟩
    clear hN
    obtain ⟨I, hI⟩ : ∃ I : Value → Value → World → Prop, ∀ nv sv wl, I nv sv wl ↔ ∃ (j : Nat) (Fj : Nat → Prop), sv = Value.int .i64 j ∧ j ≤ es.length ∧ Frm (· = rb) w4 wl ∧ Rep wl (N j) nv Fj ∧ (∀ c, Fj c → w3.heap.size ≤ c) ∧ flag wl rb true := ⟨_, fun _ _ _ => Iff.rfl⟩
    refine Lp.intro I (fun _ sv _ => es.length - natOf sv) ⟨(hI _ _ _).2 ⟨0, _, rfl, by omega, Frm.refl, by rw [hN0]; exact r4, fun c hc => by omega, f4⟩, ?_⟩
    intro wl nv sv hs
    obtain ⟨j, Fj, rfl, hj, kl, rl, hFj, fl⟩ := (hI _ _ _).1 hs
    have hjlt : ((j : Int) < (es.length : Int)) ↔ j < es.length := by omega
    simp [-getElem?_pos, -Array.getElem?_eq_getElem, -Int.natCast_add, add_spot, and_assoc, Br_dec, -op_box, -op_st_4, -op_st_22, -op_st_226, -op_st_243, -op_st_296, -op_st_242, -op_st_187, -op_st_2, -op_st_307, -op_alloc_245, -op_alloc_242, -op_alloc_307, -op_lit_243_1, -op_lit_243_2, -op_lit_296_1, -op_lit_296_2, hjlt]
    refine ⟨fun hlt => ?_, fun hge => ?_⟩
    · obtain ⟨hW, hne', hLn⟩ := hNW j hj
      have hgl := hg4.frame kl (by omega)
      obtain ⟨cur, hcur, hcz, hpart⟩ := hgl.part
      have nl := kl.size
      have hp := hpart (j * 1) 1 (by rw [ents_len]; omega)
      have hpe : ((ents es).drop (j * 1)).take 1 = ent es[j] := by
        rw [ents_drop, List.drop_eq_getElem_cons hlt]
        show (ent es[j] ++ ents (es.drop (j + 1))).take 1 = _
        rw [← ent_len es[j], List.take_left]
      rw [hpe] at hp
      have hp1 := hp.1
      have hp2 := hp.2
      rw [Nat.mul_one] at hp1 hp2
      simp [-getElem?_pos, -Array.getElem?_eq_getElem, -Int.natCast_add, add_spot, and_assoc, Br_dec, -op_box, -op_st_4, -op_st_22, -op_st_226, -op_st_243, -op_st_296, -op_st_242, -op_st_187, -op_st_2, -op_st_307, -op_alloc_245, -op_alloc_242, -op_alloc_307, -op_lit_243_1, -op_lit_243_2, -op_lit_296_1, -op_lit_296_2, hlt, hcur, hp1, hp2]
      refine op_alloc_ok (z := .agg zeroE) (by kernel_rfl) fun w5 k5 z5 b5 => ?_
      simp only [cells_agg] at b5
      have q5 : Rw w5 242 1 wl.heap.size 1 zeroE.toList := Rw.lit (n := 1) rfl (by decide) (by simpa using b5)
      refine op_storeRN (n := 1) (by kernel_rfl) rfl q5 (by show 0 + 1 ≤ 1; omega) (fun u hu => ents_one (es := [es[j]]) u (by simpa [ents] using hu)) fun w6 k6 z6 q6 => ?_
      have q6 : Rw w6 242 1 wl.heap.size 1 (ents [es[j]]) := by
        have h : lw zeroE.toList 0 (ent es[j]) = ents [es[j]] := by rw [lw_all (zs := zeroE.toList) (l := ent es[j]) rfl]; simp [ents]
        rw [← h]; exact q6
      obtain ⟨c6, hc6, hk6⟩ := key_cell q6
      have hk6' := hk6 0 (by simp)
      simp only [Nat.zero_mul, Nat.zero_add, List.getElem_cons_zero] at hk6'
      have hk6a := hk6'.1
      have hk6b := hk6'.2
      have hnil := fun {K1 : Value → Prop} => nil_set (K1 := K1) rl hne'
      simp [-getElem?_pos, -Array.getElem?_eq_getElem, -Int.natCast_add, add_spot, and_assoc, Br_dec, -op_box, -op_st_4, -op_st_22, -op_st_226, -op_st_243, -op_st_296, -op_st_242, -op_st_187, -op_st_2, -op_st_307, -op_alloc_245, -op_alloc_242, -op_alloc_307, -op_lit_243_1, -op_lit_243_2, -op_lit_296_1, -op_lit_296_2, ptr, hc6, hk6a, hk6b, hnil]
      refine ld_fa0_ok (ent_val (w := w6.drew) hc6) ?_
      simp [-getElem?_pos, -Array.getElem?_eq_getElem, -Int.natCast_add, add_spot, and_assoc, Br_dec, -op_box, -op_st_4, -op_st_22, -op_st_226, -op_st_243, -op_st_296, -op_st_242, -op_st_187, -op_st_2, -op_st_307, -op_alloc_245, -op_alloc_242, -op_alloc_307, -op_lit_243_1, -op_lit_243_2, -op_lit_296_1, -op_lit_296_2]
      refine hH.hsh fun w7 k7 => ?_
      have k7 := Frm.dr k7
      have hc7 := k7.get hc6 (fun h => h)
      simp [-getElem?_pos, -Array.getElem?_eq_getElem, -Int.natCast_add, add_spot, and_assoc, Br_dec, -op_box, -op_st_4, -op_st_22, -op_st_226, -op_st_243, -op_st_296, -op_st_242, -op_st_187, -op_st_2, -op_st_307, -op_alloc_245, -op_alloc_242, -op_alloc_307, -op_lit_243_1, -op_lit_243_2, -op_lit_296_1, -op_lit_296_2, hc7, hk6a, hk6b]
      refine ⟨same_fa0_ok (ent_val hc7), ?_⟩
      have kk := k5.fst (k6.tr k7)
      have r7 : Rep w7 (N j) nv (fun c => Fj c ∧ c < wl.heap.size) := rl.lt.frame kk fun c hc h => by rcases h with h | h; omega; exact h
      have f7 : flag w7 rb true := fl.frame kk fun h => by rcases h with h | h; omega; exact h
      have n6 := k6.size
      have n7 := k7.size
      refine set_ok (x := es[j].2) (s := 0) (p := 0) hH hW (by decide) (mod_one _) (by decide) rfl hne' (by omega) (r0 := true) r7 f7 (fun h => by have := hFj rb h.1; omega) fun v' w8 F' k8 r8 hF8 f8 => ?_
      rw [wrap_i64_small (by omega) (by omega)]
      refine ⟨(hI _ _ _).2 ⟨j + 1, F', by simp, by omega, (kl.old (kk.tr k8) fun c hc => ?_), by rw [hNs j hlt]; exact r8, fun c hc => ?_, by simpa using f8⟩, by simp only [natOf]; omega⟩
      · rcases hc with (hc | hc) | hc | hc
        · exact .inr (by omega)
        · exact hc.elim
        · exact .inl hc
        · exact absurd hc.1 (by decide)
      · rcases hF8 c hc with h | h
        · exact hFj c h.1
        · omega
    · obtain rfl : j = es.length := by omega
      rw [hNe] at rl
      have kall := k1.fst (k2.old ((k3.no k4).fst kl) fun c hc => .inl hc)
      exact hK _ wl Fj (kall.to fun c hc => .inl hc) rl (fun c hc => .inr (by have := hFj c hc; omega)) fl
  · have h1 := Option.isNone_iff_eq_none.1 h.1
    rw [h1] at e; cases e
  rintro w3 ⟨rfl, h8⟩
  have hc := hg2.cap_le h6
  have hset : Nd.set hash (.arr es) k x = .arr (upd es k x) := by
    have h8' : ((find es k).isNone && decide (8 ≤ es.length)) = false := by
      cases h : find es k with
      | none => rw [h] at h8; simp at h8 ⊢; omega
      | some i => rfl
    show (if ((find es k).isNone && decide (8 ≤ es.length)) = true then _ else _) = _
    rw [h8']; rfl
  rw [hset] at hK
  refine ⟨fun hm => ⟨fun e => ?_, fun e => ?_⟩, fun hm => ?_⟩
  · obtain ⟨i, hx⟩ := Option.isSome_iff_exists.1 e
    obtain ⟨hi, hik, _⟩ := find_some hx
    have hi' : i < es.length := hi
    simp [-getElem?_pos, -Array.getElem?_eq_getElem, -Int.natCast_add, add_spot, and_assoc, Br_dec, -op_box, -op_st_4, -op_st_22, -op_st_226, -op_st_243, -op_st_296, -op_st_242, -op_st_187, -op_st_2, -op_st_307, -op_alloc_245, -op_alloc_242, -op_alloc_307, -op_lit_243_1, -op_lit_243_2, -op_lit_296_1, -op_lit_296_2, idxV, hx, hb2, hi]
    refine op_storeRN (n := 1) (by kernel_rfl) rfl hg2 (by rw [ents_len]; omega) (fun u hu => ents_one (es := [(k, x)]) u (by simpa [ents, ent] using hu)) fun w4 k4 z4 hg4 => ?_
    replace k4 := Frm.dr k4
    have hg4 : Rw w4 242 1 g cap (ents (es.set i (k, x))) := Rw_to hg4 (ents_set_at hi (by omega) rfl)
    have hb4 := k4.get hb2 (fun e => h4 e.symm)
    refine hK _ w4 F ((k1.fst (k2.tr k4)).to fun c hc => hc.elim (fun h => .inl h) fun h => .inr ⟨hm, by rw [h]; exact h3⟩) ⟨b, g, cap, rfl, h2, h3, h4, ?_, ?_, ?_⟩ (fun _ h => .inl h) (f2.frame k4 (fun e => hgr e.symm))
    · simpa [upd, hx] using hb4
    · simpa [upd, hx] using h6
    · simpa [upd, hx] using hg4
  · have hx := e
    simp [-getElem?_pos, -Array.getElem?_eq_getElem, -Int.natCast_add, add_spot, and_assoc, Br_dec, -op_box, -op_st_4, -op_st_22, -op_st_226, -op_st_243, -op_st_296, -op_st_242, -op_st_187, -op_st_2, -op_st_307, -op_alloc_245, -op_alloc_242, -op_alloc_307, -op_lit_243_1, -op_lit_243_2, -op_lit_296_1, -op_lit_296_2, hb2]
    refine op_lit_ok lit_243_1 fun w4 k4 z4 b4 => ?_
    replace k4 := Frm.dr k4
    have hb3' := k4.get hb2 (fun h => h)
    simp [-getElem?_pos, -Array.getElem?_eq_getElem, -Int.natCast_add, add_spot, and_assoc, Br_dec, -op_box, -op_st_4, -op_st_22, -op_st_226, -op_st_243, -op_st_296, -op_st_242, -op_st_187, -op_st_2, -op_st_307, -op_alloc_245, -op_alloc_242, -op_alloc_307, -op_lit_243_1, -op_lit_243_2, -op_lit_296_1, -op_lit_296_2, hb3']
    have hg4 := hg2.frame k4 (fun h => h)
    have hq : Rw w4 242 1 w3.heap.size 1 (ent (k, x)) := Rw.lit (n := 1) (ent_len _) (by decide) (by simpa [ent] using b4)
    refine op_appendR (m := 1) (apE) hg4 (ents_len es) h6 hq (by rw [ent_len]) (fun u hu => ents_one (es := [(k, x)]) u (by simpa [ents] using hu)) (by omega) (by omega) fun w5 g' cap' k5 hg5 hc5 hgg => ?_
    have hb4 := k4.get hb2 (fun h => h)
    have hb5 := k5.get hb4 (fun e => h4 e.symm)
    have n4 := k4.size
    refine op_store_ok (by kernel_rfl) hb5 (by simp) rfl fun w6 k6 z6 b6 => ?_
    have hgb : g' ≠ b := by
      rcases hgg with rfl | rfl
      · exact h4
      · omega
    have hrg : g' ≠ rb := by
      rcases hgg with rfl | rfl
      · exact hgr
      · omega
    have f6 := ((f2.frame k4 (fun h => h)).frame k5 (fun e => hgr e.symm)).frame k6 (fun e => hne e.symm)
    refine hK _ w6 (fun c => c = b ∨ c = g') ((k1.fst ((k2.tr (k4.fst k5)).tr k6)).to fun c hc => ?_) ⟨b, g', cap', rfl, .inl rfl, .inr rfl, hgb, ?_, ?_, ?_⟩ (fun c hc => ?_) f6
    · rcases hc with (hc | hc) | hc
      · exact .inl hc
      · exact .inr ⟨hm, hc ▸ h3⟩
      · exact .inr ⟨hm, hc ▸ h2⟩
    · simpa [upd, hx] using b6
    · simpa [upd, hx] using hc5
    · simpa [upd, hx, ents_append, ents] using hg5.frame k6 hgb
    · rcases hc with rfl | rfl
      · exact .inl h2
      · rcases hgg with rfl | rfl
        · exact .inl h3
        · exact .inr (by omega)
  · refine op_alloc_ok (z := .agg #[.slice none 0 0]) (by kernel_rfl) fun w4 k4 z4 bn4 => ?_
    simp only [cells_agg] at bn4
    have hb4 := k4.get hb2 (fun h => h)
    have hg4 := hg2.frame k4 (fun h => h)
    have f4 := f2.frame k4 (fun h => h)
    refine ⟨fun e => ?_, fun e => ?_⟩
    · obtain ⟨i, hx⟩ := Option.isSome_iff_exists.1 e
      obtain ⟨hi, hik, _⟩ := find_some hx
      simp [-getElem?_pos, -Array.getElem?_eq_getElem, -Int.natCast_add, add_spot, and_assoc, Br_dec, -op_box, -op_st_4, -op_st_22, -op_st_226, -op_st_243, -op_st_296, -op_st_242, -op_st_187, -op_st_2, -op_st_307, -op_alloc_245, -op_alloc_242, -op_alloc_307, -op_lit_243_1, -op_lit_243_2, -op_lit_296_1, -op_lit_296_2, hb4, idxV, hx]
      refine op_make_ok (n := es.length) apE (by omega) (by omega) fun w5 zs k5 z5 hzs q5 => ?_
      have bn5 := k5.get bn4 (fun h => h)
      have hb5 := k5.get hb4 (fun h => h)
      have hg5 := hg4.frame k5 (fun h => h)
      have f5 := f4.frame k5 (fun h => h)
      refine op_store_ok (by kernel_rfl) bn5 (by simp) rfl fun w6 k6 z6 bn6 => ?_
      have hb6 := k6.get hb5 (by omega)
      have hg6 := hg5.frame k6 (by omega)
      have f6 := f5.frame k6 (by omega)
      have q6 := q5.frame k6 (by omega)
      simp [-getElem?_pos, -Array.getElem?_eq_getElem, -Int.natCast_add, add_spot, and_assoc, Br_dec, -op_box, -op_st_4, -op_st_22, -op_st_226, -op_st_243, -op_st_296, -op_st_242, -op_st_187, -op_st_2, -op_st_307, -op_alloc_245, -op_alloc_242, -op_alloc_307, -op_lit_243_1, -op_lit_243_2, -op_lit_296_1, -op_lit_296_2, bn6, hb6]
      refine op_copyR (n := es.length) (by kernel_rfl) q6.drew hg6.drew (by omega) (by rw [hzs]; omega) (by rw [ents_len]; omega) ents_one fun w7 k7 z7 q7 => ?_
      have k7 := Frm.dr k7
      have bn7 := k7.get bn6 (by omega)
      have f7 := f6.frame k7 (by omega)
      have hq : lw zs 0 (List.take (es.length * 1) (List.drop 0 (ents es))) = ents es := by
        rw [List.drop_zero, List.take_of_length_le (by rw [ents_len]; omega), lw_all (by rw [hzs, ents_len])]
      rw [hq] at q7
      simp [-getElem?_pos, -Array.getElem?_eq_getElem, -Int.natCast_add, add_spot, and_assoc, Br_dec, -op_box, -op_st_4, -op_st_22, -op_st_226, -op_st_243, -op_st_296, -op_st_242, -op_st_187, -op_st_2, -op_st_307, -op_alloc_245, -op_alloc_242, -op_alloc_307, -op_lit_243_1, -op_lit_243_2, -op_lit_296_1, -op_lit_296_2, bn7, hi]
      refine op_storeRN (n := 1) (by kernel_rfl) rfl q7 (by rw [ents_len]; omega) (fun u hu => ents_one (es := [(k, x)]) u (by simpa [ents, ent] using hu)) fun w8 k8 z8 q8 => ?_
      have bn8 := k8.get bn7 (by omega)
      have f8 := f7.frame k8 (by omega)
      have q8 : Rw w8 242 1 w4.heap.size es.length (ents (es.set i (k, x))) := Rw_to q8 (ents_set_at hi (by omega) rfl)
      have kall := k1.fst (k2.old (k4.fst (k5.fst (k6.tr (k7.tr k8)))) fun c hc => .inr (by omega))
      refine hK _ w8 (fun c => c = w3.heap.size ∨ c = w4.heap.size) (kall.to fun c hc => .inl hc) ⟨w3.heap.size, w4.heap.size, es.length, rfl, .inl rfl, .inr rfl, by omega, ?_, ?_, ?_⟩ (fun c hc => .inr (by omega)) f8
      · simpa [upd, hx] using bn8
      · simp [upd, hx]
      · simpa [upd, hx] using q8
    · have hx := e
      simp [-getElem?_pos, -Array.getElem?_eq_getElem, -Int.natCast_add, add_spot, and_assoc, Br_dec, -op_box, -op_st_4, -op_st_22, -op_st_226, -op_st_243, -op_st_296, -op_st_242, -op_st_187, -op_st_2, -op_st_307, -op_alloc_245, -op_alloc_242, -op_alloc_307, -op_lit_243_1, -op_lit_243_2, -op_lit_296_1, -op_lit_296_2, hb4, wrap_i64_small (n := (es.length : Int) + 1) (by omega) (by omega)]
      refine op_make_ok (n := es.length + 1) apE (by omega) (by omega) fun w5 zs k5 z5 hzs q5 => ?_
      have bn5 := k5.get bn4 (fun h => h)
      have hb5 := k5.get hb4 (fun h => h)
      have hg5 := hg4.frame k5 (fun h => h)
      have f5 := f4.frame k5 (fun h => h)
      refine op_store_ok (by kernel_rfl) bn5 (by simp) rfl fun w6 k6 z6 bn6 => ?_
      have hb6 := k6.get hb5 (by omega)
      have hg6 := hg5.frame k6 (by omega)
      have f6 := f5.frame k6 (by omega)
      have q6 := q5.frame k6 (by omega)
      simp [-getElem?_pos, -Array.getElem?_eq_getElem, -Int.natCast_add, add_spot, and_assoc, Br_dec, -op_box, -op_st_4, -op_st_22, -op_st_226, -op_st_243, -op_st_296, -op_st_242, -op_st_187, -op_st_2, -op_st_307, -op_alloc_245, -op_alloc_242, -op_alloc_307, -op_lit_243_1, -op_lit_243_2, -op_lit_296_1, -op_lit_296_2, bn6, hb6]
      refine op_copyR (n := es.length) (by kernel_rfl) q6.drew hg6.drew (by omega) (by rw [hzs]; omega) (by rw [ents_len]; omega) ents_one fun w7 k7 z7 q7 => ?_
      have k7 := Frm.dr k7
      have bn7 := k7.get bn6 (by omega)
      have f7 := f6.frame k7 (by omega)
      have hq : lw zs 0 (List.take (es.length * 1) (List.drop 0 (ents es))) = ents es ++ zs.drop (es.length * 1) := by
        rw [List.drop_zero, List.take_of_length_le (by rw [ents_len]; omega), lw_first, ents_len]
      rw [hq] at q7
      have hm1 : IntKind.i64.wrap (((es.length + 1 : Nat) : Int) - 1) = (es.length : Int) := by rw [IntKind.wrap_i64]; omega
      simp [-getElem?_pos, -Array.getElem?_eq_getElem, -Int.natCast_add, add_spot, and_assoc, Br_dec, -op_box, -op_st_4, -op_st_22, -op_st_226, -op_st_243, -op_st_296, -op_st_242, -op_st_187, -op_st_2, -op_st_307, -op_alloc_245, -op_alloc_242, -op_alloc_307, -op_lit_243_1, -op_lit_243_2, -op_lit_296_1, -op_lit_296_2, bn7, hm1]
      refine op_storeRN (n := 1) (by kernel_rfl) rfl q7 (by simp [ents_len, hzs] <;> omega) (fun u hu => ents_one (es := [(k, x)]) u (by simpa [ents, ent] using hu)) fun w8 k8 z8 q8 => ?_
      have bn8 := k8.get bn7 (by omega)
      have f8 := f7.frame k8 (by omega)
      have q8 : Rw w8 242 1 w4.heap.size (es.length + 1) (ents (es ++ [(k, x)])) := Rw_to q8 (ents_snoc_at (by rw [List.length_drop, hzs]; omega) (by omega) rfl)
      have kall := k1.fst (k2.old (k4.fst (k5.fst (k6.tr (k7.tr k8)))) fun c hc => .inr (by omega))
      refine hK _ w8 (fun c => c = w3.heap.size ∨ c = w4.heap.size) (kall.to fun c hc => .inl hc) ⟨w3.heap.size, w4.heap.size, es.length + 1, rfl, .inl rfl, .inr rfl, by omega, ?_, ?_, ?_⟩ (fun c hc => .inr (by omega)) f8
      · simpa [upd, hx] using bn8
      · simp [upd, hx]
      · simpa [upd, hx] using q8

theorem root_set_ok (hH : IsH hv hash) (hW : WFr hash t) (hne : t ≠ .emp) (hL : (toL t).length ≤ 1000000) (h : Rep w t v F) (hr : flag w rb r0) (hrb : ¬ F rb) (hK : Sets w mu F rb (r0 || (getIn (hash k) k t 0).isNone) (Nd.set hash t k x) K) :
    (nice Try.prog).call (.inv v "pub-bracken/pub/immutable.set") [ek k, ev x, .int .u64 0, .int .u32 (hash k), hv, .bool mu, ptr rb] w K Kp := by
  have go : WF hash t 0 0 → (nice Try.prog).call (.inv v "pub-bracken/pub/immutable.set") [ek k, ev x, .int .u64 0, .int .u32 (hash k), hv, .bool mu, ptr rb] w K Kp := fun hW' => by
    rw [(set_root hW').resolve_right hne] at hK
    exact set_ok (s := 0) (p := 0) hH hW' (by decide) (mod_one _) (by decide) rfl hne hL h hr hrb hK
  cases t with
  | emp => exact absurd rfl hne
  | arr es =>
    refine setA_ok hH hW.2.1 h hr hrb ?_
    have e : (getIn (hash k) k (Nd.arr es) 0).isNone = (find es k).isNone := by
      rw [getIn, look_find]
      cases hx : find es k with
      | none => rfl
      | some i =>
        obtain ⟨hi, hik, _⟩ := find_some hx
        simp [hi]
    rw [e] at hK; exact hK
  | br hs f => exact go hW
  | val h' k' x' => exact go hW
  | col h' es => exact go hW
end Go.Proofs.Ytbghmbbhkoniiaa.S
end
section
/- Deleting a key from a leaf. -/
set_option maxRecDepth 100000
set_option maxHeartbeats 1000000
set_option linter.unusedSimpArgs false
set_option linter.unusedVariables false
set_option linter.unusedSectionVars false
namespace Go.Proofs.Ytbghmbbhkoniiaa.S
open Go.Vc Go.Proofs Go.Proofs.Ytbghmbbhkoniiaa Go.Vc.Nd
variable {w w' : World} {v hv : Value} {t : Tr} {F F' : Nat → Prop} {K : Value → World → Prop} {Kp : KP} {hash : Ky → Nat} {k : Ky} {x : Vl} {l s rb : Nat} {r0 mu : Bool}

def Dels (w : World) (mu : Bool) (F : Nat → Prop) (rb : Nat) (v : Value) (dl : Bool) (t' : Tr) (K : Value → World → Prop) : Prop :=
  (dl = false → ∀ w', Frm (fun _ => False) w w' → K v w') ∧ (dl = true → Sets w mu F rb true t' K)
def DelC (hv : Value) (hash : Ky → Nat) (k : Ky) (mu : Bool) (rb s : Nat) (t t' : Tr) (dl : Bool) : Prop :=
  ∀ {w : World} {v : Value} {F : Nat → Prop} {K : Value → World → Prop} {Kp : KP}, Rep w t v F → flag w rb false → ¬ F rb → Dels w mu F rb v dl t' K →
    (nice Try.prog).call (.inv v "pub-bracken/pub/immutable.delete") [ek k, .int .u64 s, .int .u32 (hash k), hv, .bool mu, ptr rb] w K Kp

theorem ents_erase (es : List (Ky × Vl)) (i : Nat) : ents (es.eraseIdx i) = (ents es).take (i * 1) ++ (ents es).drop (i * 1 + 1) := by
  rw [List.eraseIdx_eq_take_drop_succ, ents_append, ents_take, show i * 1 + 1 = (i + 1) * 1 from by omega, ents_drop]
theorem lw_keep {xs l : List Value} {o : Nat} (h : o ≤ xs.length) : (lw xs o l).take o = xs.take o := by
  rw [lw, List.append_assoc, List.take_append_of_le_length (by simp; omega), List.take_take, Nat.min_self]
theorem delV_ok {h' : Nat} {k' : Ky} {x' : Vl} (hH : IsH hv hash) : DelC hv hash k mu rb s (.val h' k' x') (if k' = k then .emp else .val h' k' x') (decide (k' = k)) := by
  intro w v F K Kp h hr hrb hK
  have h0 := h
  obtain ⟨b, rfl, h2, h3⟩ := h
  simp only [inv_283_173]
  refine vc173_calls ?_
  simp [-getElem?_pos, -Array.getElem?_eq_getElem, -Int.natCast_add, add_spot, and_assoc, Br_dec, -op_box, -op_st_4, -op_st_22, -op_st_226, -op_st_243, -op_st_296, -op_st_242, -op_st_187, -op_st_2, -op_st_307, -op_alloc_245, -op_alloc_242, -op_alloc_307, -op_lit_243_1, -op_lit_243_2, -op_lit_296_1, -op_lit_296_2, vc173, ptr, h3, hH.nilE]
  refine hH.eqv fun w1 k1 => ?_
  have k1 := Frm.dr k1
  have hr' := hr.frame k1 (fun h => h)
  by_cases hk : k' = k
  · rw [if_pos hk, decide_eq_true hk] at hK
    have hK := hK.2 rfl
    simp [-getElem?_pos, -Array.getElem?_eq_getElem, -Int.natCast_add, add_spot, and_assoc, Br_dec, -op_box, -op_st_4, -op_st_22, -op_st_226, -op_st_243, -op_st_296, -op_st_242, -op_st_187, -op_st_2, -op_st_307, -op_alloc_245, -op_alloc_242, -op_alloc_307, -op_lit_243_1, -op_lit_243_2, -op_lit_296_1, -op_lit_296_2, hk]
    refine raise_ok hr' fun w2 k2 z2 f2 => ?_
    exact hK _ w2 (fun _ => False) ((k1.fst k2).to fun c hc => .inl hc) rfl (fun _ h => h.elim) f2
  · rw [if_neg hk, decide_eq_false hk] at hK
    simp [-getElem?_pos, -Array.getElem?_eq_getElem, -Int.natCast_add, add_spot, and_assoc, Br_dec, -op_box, -op_st_4, -op_st_22, -op_st_226, -op_st_243, -op_st_296, -op_st_242, -op_st_187, -op_st_2, -op_st_307, -op_alloc_245, -op_alloc_242, -op_alloc_307, -op_lit_243_1, -op_lit_243_2, -op_lit_296_1, -op_lit_296_2, hk]
    exact hK.1 rfl w1 k1

theorem delC_ok {h' p : Nat} {es : List (Ky × Vl)} (hH : IsH hv hash) (hz : es.length ≤ 1000000) (h2e : 2 ≤ es.length) : DelC hv hash k mu rb s (.col h' es) (delIn (hash k) k (.col h' es) l) (find es k).isSome := by
  intro w v F K Kp h hr hrb hK
  have h0 := h
  obtain ⟨b, g, cap, rfl, h2, h3, h4, hb, h6, hg⟩ := h
  simp only [inv_290_183]
  refine vc183_calls ?_
  have hne : b ≠ rb := fun e => hrb (e ▸ h2)
  have hgr : g ≠ rb := fun e => hrb (e ▸ h3)
  simp [-getElem?_pos, -Array.getElem?_eq_getElem, -Int.natCast_add, add_spot, and_assoc, Br_dec, -op_box, -op_st_4, -op_st_22, -op_st_226, -op_st_243, -op_st_296, -op_st_242, -op_st_187, -op_st_2, -op_st_307, -op_alloc_245, -op_alloc_242, -op_alloc_307, -op_lit_243_1, -op_lit_243_2, -op_lit_296_1, -op_lit_296_2, vc183, ptr]
  refine indexC_ok hH hb hg h6 fun w1 k1 => ?_
  have hb1 := k1.get hb (fun h => h)
  have hg1 := hg.frame k1 (fun h => h)
  have hr1 := hr.frame k1 (fun h => h)
  have n1 := k1.size
  have hc := hg.cap_le h6
  have l1 := lt_of_get hb
  have l2 := lt_of_get hr
  have l3 := hg.lt
  rw [delIn] at hK
  cases hx : find es k with
  | none =>
    rw [hx] at hK
    simp [-getElem?_pos, -Array.getElem?_eq_getElem, -Int.natCast_add, add_spot, and_assoc, Br_dec, -op_box, -op_st_4, -op_st_22, -op_st_226, -op_st_243, -op_st_296, -op_st_242, -op_st_187, -op_st_2, -op_st_307, -op_alloc_245, -op_alloc_242, -op_alloc_307, -op_lit_243_1, -op_lit_243_2, -op_lit_296_1, -op_lit_296_2, idxV]
    exact hK.1 rfl w1 k1
  | some i =>
    obtain ⟨hi, hik, _⟩ := find_some hx
    rw [hx] at hK
    have hK := hK.2 rfl
    dsimp only at hK
    rw [Sets] at hK
    have hcast : ((es.length : Int) = 2) ↔ es.length = 2 := by omega
    have hi1 : ¬ ((i : Int) = -1) := by omega
    simp [-getElem?_pos, -Array.getElem?_eq_getElem, -Int.natCast_add, add_spot, and_assoc, Br_dec, -op_box, -op_st_4, -op_st_22, -op_st_226, -op_st_243, -op_st_296, -op_st_242, -op_st_187, -op_st_2, -op_st_307, -op_alloc_245, -op_alloc_242, -op_alloc_307, -op_lit_243_1, -op_lit_243_2, -op_lit_296_1, -op_lit_296_2, idxV, hi1]
    refine raise_ok hr1 fun w2 k2 z2 f2 => ?_
    have hb2 := k2.get hb1 hne
    have hg2 := hg1.frame k2 hgr
    simp [-getElem?_pos, -Array.getElem?_eq_getElem, -Int.natCast_add, add_spot, and_assoc, Br_dec, -op_box, -op_st_4, -op_st_22, -op_st_226, -op_st_243, -op_st_296, -op_st_242, -op_st_187, -op_st_2, -op_st_307, -op_alloc_245, -op_alloc_242, -op_alloc_307, -op_lit_243_1, -op_lit_243_2, -op_lit_296_1, -op_lit_296_2, hb2, hcast]
    refine ⟨fun hlen => ?_, fun hlen => ⟨fun hm => ?_, fun hm => ?_⟩⟩
    · obtain ⟨a, c, rfl⟩ : ∃ a c, es = [a, c] := by
        match es, hlen with
        | [a, c], _ => exact ⟨a, c, rfl⟩
      have hx0 : bitsV .xor .i64 0 1 = 1 := by decide
      have hx1 : bitsV .xor .i64 1 1 = 0 := by decide
      obtain ⟨cur, hcur, hk⟩ := key_cell hg2
      have hk0 := hk 0 (by simp)
      have hk1 := hk 1 (by simp)
      simp only [Nat.zero_mul, Nat.zero_add, Nat.one_mul, List.getElem_cons_zero, List.getElem_cons_succ] at hk0 hk1
      have hk0a := hk0.1
      have hk0b := hk0.2
      have hk1a := hk1.1
      have hk1b := hk1.2
      have hi2 : i = 0 ∨ i = 1 := by simp at hi; omega
      rcases hi2 with rfl | rfl
      · simp [-getElem?_pos, -Array.getElem?_eq_getElem, -Int.natCast_add, add_spot, and_assoc, Br_dec, -op_box, -op_st_4, -op_st_22, -op_st_226, -op_st_243, -op_st_296, -op_st_242, -op_st_187, -op_st_2, -op_st_307, -op_alloc_245, -op_alloc_242, -op_alloc_307, -op_lit_243_1, -op_lit_243_2, -op_lit_296_1, -op_lit_296_2, hx0, hcur, hk1a, hk1b]
        refine ld_fa0_ok (ent_val (w := w2.drew) hcur) ?_
        simp [-getElem?_pos, -Array.getElem?_eq_getElem, -Int.natCast_add, add_spot, and_assoc, Br_dec, -op_box, -op_st_4, -op_st_22, -op_st_226, -op_st_243, -op_st_296, -op_st_242, -op_st_187, -op_st_2, -op_st_307, -op_alloc_245, -op_alloc_242, -op_alloc_307, -op_lit_243_1, -op_lit_243_2, -op_lit_296_1, -op_lit_296_2]
        refine op_box_ok fun w3 k3 z3 b3 => ?_
        refine hK _ w3 (fun d => d = w2.heap.size) ((k1.fst (k2.old (Frm.dr k3) fun _ h => h.elim)).to fun c hc => .inl hc) ⟨_, rfl, by simp, by simpa using b3⟩ (fun d hd => .inr (by omega)) (by simpa using f2.frame (Frm.dr k3) (fun h => h))
      · simp [-getElem?_pos, -Array.getElem?_eq_getElem, -Int.natCast_add, add_spot, and_assoc, Br_dec, -op_box, -op_st_4, -op_st_22, -op_st_226, -op_st_243, -op_st_296, -op_st_242, -op_st_187, -op_st_2, -op_st_307, -op_alloc_245, -op_alloc_242, -op_alloc_307, -op_lit_243_1, -op_lit_243_2, -op_lit_296_1, -op_lit_296_2, hx1, hcur, hk0a, hk0b]
        refine ld_fa0_ok (ent_val (w := w2.drew) hcur) ?_
        simp [-getElem?_pos, -Array.getElem?_eq_getElem, -Int.natCast_add, add_spot, and_assoc, Br_dec, -op_box, -op_st_4, -op_st_22, -op_st_226, -op_st_243, -op_st_296, -op_st_242, -op_st_187, -op_st_2, -op_st_307, -op_alloc_245, -op_alloc_242, -op_alloc_307, -op_lit_243_1, -op_lit_243_2, -op_lit_296_1, -op_lit_296_2]
        refine op_box_ok fun w3 k3 z3 b3 => ?_
        refine hK _ w3 (fun d => d = w2.heap.size) ((k1.fst (k2.old (Frm.dr k3) fun _ h => h.elim)).to fun c hc => .inl hc) ⟨_, rfl, by simp, by simpa using b3⟩ (fun d hd => .inr (by omega)) (by simpa using f2.frame (Frm.dr k3) (fun h => h))
    · have hw : IntKind.i64.wrap ((i : Int) + 1) = ((i + 1 : Nat) : Int) := by rw [IntKind.wrap_i64]; omega
      have hw1 : IntKind.i64.wrap ((es.length : Int) - 1) = ((es.length - 1 : Nat) : Int) := by rw [IntKind.wrap_i64]; omega
      simp [-getElem?_pos, -Array.getElem?_eq_getElem, -Int.natCast_add, add_spot, and_assoc, Br_dec, -op_box, -op_st_4, -op_st_22, -op_st_226, -op_st_243, -op_st_296, -op_st_242, -op_st_187, -op_st_2, -op_st_307, -op_alloc_245, -op_alloc_242, -op_alloc_307, -op_lit_243_1, -op_lit_243_2, -op_lit_296_1, -op_lit_296_2, hw]
      refine ⟨by omega, h6, by omega, h6, ?_⟩
      refine op_copyX (n := es.length - i - 1) (x1 := i) (x2 := i + 1) (by kernel_rfl) hg2.drew hg2.drew (by split; exact .inr ⟨rfl, by omega⟩; exact .inl (by simp)) (by split; exact .inr ⟨rfl, by omega⟩; exact .inl (by simp)) (by omega) (by rw [ents_len]; omega) (by rw [ents_len]; omega) ents_one fun w3 k3 z3 q3 => ?_
      have k3 := Frm.dr k3
      have hb3 := k3.get hb2 (fun e => h4 e.symm)
      have f3 := f2.frame k3 (fun e => hgr e.symm)
      have hlt1 : es.length - 1 < es.length := by omega
      simp [-getElem?_pos, -Array.getElem?_eq_getElem, -Int.natCast_add, add_spot, and_assoc, Br_dec, -op_box, -op_st_4, -op_st_22, -op_st_226, -op_st_243, -op_st_296, -op_st_242, -op_st_187, -op_st_2, -op_st_307, -op_alloc_245, -op_alloc_242, -op_alloc_307, -op_lit_243_1, -op_lit_243_2, -op_lit_296_1, -op_lit_296_2, hb3, hw1, hlt1]
      have hdel := del_mut (A := ents es) (r := i * 1) (m := 1) (by rw [ents_len]; omega)
      rw [← ents_erase, ents_len, show es.length * 1 - i * 1 - 1 = (es.length - i - 1) * 1 from by omega, show i * 1 + 1 = (i + 1) * 1 from by omega] at hdel
      have hl3 : (lw (ents es) (i * 1) (List.take ((es.length - i - 1) * 1) (List.drop ((i + 1) * 1) (ents es)))).length = es.length * 1 := by rw [lw_len (by simp [ents_len]; omega), ents_len]
      refine op_storeRN (n := 1) (by kernel_rfl) rfl q3.drew (by rw [hl3]; omega) (fun u hu => by simp at hu; first | subst hu; rfl | (rcases hu with rfl | rfl <;> rfl)) fun w4 k4 z4 q4 => ?_
      have k4 := Frm.dr k4
      have hb4 := k4.get hb3 (fun e => h4 e.symm)
      have f4 := f3.frame k4 (fun e => hgr e.symm)
      have q4 := q4.take ((es.length - 1) * 1)
      simp only [Nat.mul_one] at q4 hdel hl3
      rw [lw_keep (by rw [hl3]; omega), hdel] at q4
      have hle4 : es.length - 1 ≤ cap := by omega
      simp [-getElem?_pos, -Array.getElem?_eq_getElem, -Int.natCast_add, add_spot, and_assoc, Br_dec, -op_box, -op_st_4, -op_st_22, -op_st_226, -op_st_243, -op_st_296, -op_st_242, -op_st_187, -op_st_2, -op_st_307, -op_alloc_245, -op_alloc_242, -op_alloc_307, -op_lit_243_1, -op_lit_243_2, -op_lit_296_1, -op_lit_296_2, hb4, hw1, hle4]
      refine op_store_ok (by kernel_rfl) (show w4.drew.heap[b]? = _ from by simpa using hb4) (by simp) rfl fun w5 k5 z5 b5 => ?_
      have k5 := Frm.dr k5
      have q5 := q4.frame k5 h4
      have f5 := f4.frame k5 (fun e => hne e.symm)
      rw [if_neg hlen] at hK
      have hel : (es.eraseIdx i).length = es.length - 1 := by rw [List.length_eraseIdx, if_pos hi]
      refine hK _ w5 F ((k1.fst (k2.tr (k3.tr (k4.tr k5)))).to fun c hc => ?_) ⟨b, g, cap, rfl, h2, h3, h4, by rw [hel]; simpa using b5, by rw [hel]; omega, q5⟩ (fun _ h => .inl h) f5
      rcases hc with h | h | h | h
      · exact .inl h
      · exact .inr ⟨hm, by rw [h]; exact h3⟩
      · exact .inr ⟨hm, by rw [h]; exact h3⟩
      · exact .inr ⟨hm, by rw [h]; exact h2⟩
    · have hw : IntKind.i64.wrap ((i : Int) + 1) = ((i + 1 : Nat) : Int) := by rw [IntKind.wrap_i64]; omega
      have hw1 : IntKind.i64.wrap ((es.length : Int) - 1) = ((es.length - 1 : Nat) : Int) := by rw [IntKind.wrap_i64]; omega
      rw [hw1]
      refine op_make_ok (n := es.length - 1) apE rfl (by omega) fun w3 zs k3 z3 hzs q3 => ?_
      have k3 := Frm.dr k3
      simp only [heap_drew] at z3 q3
      have hb3 := k3.get hb2 (fun h => h)
      have hg3 := hg2.frame k3 (fun h => h)
      have f3 := f2.frame k3 (fun h => h)
      simp [-getElem?_pos, -Array.getElem?_eq_getElem, -Int.natCast_add, add_spot, and_assoc, Br_dec, -op_box, -op_st_4, -op_st_22, -op_st_226, -op_st_243, -op_st_296, -op_st_242, -op_st_187, -op_st_2, -op_st_307, -op_alloc_245, -op_alloc_242, -op_alloc_307, -op_lit_243_1, -op_lit_243_2, -op_lit_296_1, -op_lit_296_2, hb3]
      refine op_box_ok fun w4 k4 z4 b4 => ?_
      simp only [cells_agg] at b4
      have hb4 := k4.get hb3 (fun h => h)
      have hg4 := hg3.frame k4 (fun h => h)
      have q4 := q3.frame k4 (fun h => h)
      have f4 := f3.frame k4 (fun h => h)
      have hile : i ≤ es.length - 1 := by omega
      have hicap : i ≤ cap := by omega
      simp [-getElem?_pos, -Array.getElem?_eq_getElem, -Int.natCast_add, add_spot, and_assoc, Br_dec, -op_box, -op_st_4, -op_st_22, -op_st_226, -op_st_243, -op_st_296, -op_st_242, -op_st_187, -op_st_2, -op_st_307, -op_alloc_245, -op_alloc_242, -op_alloc_307, -op_lit_243_1, -op_lit_243_2, -op_lit_296_1, -op_lit_296_2, b4, hb4, hile, hicap]
      refine op_copyX (n := i) (x1 := 0) (x2 := 0) (by kernel_rfl) q4.drew hg4.drew (.inl rfl) (.inl rfl) (by omega) (by omega) (by rw [ents_len]; omega) ents_one fun w5 k5 z5 q5 => ?_
      have k5 := Frm.dr k5
      have b5 := k5.get b4 (by omega)
      have hb5 := k5.get hb4 (by omega)
      have hg5 := hg4.frame k5 (by omega)
      have f5 := f4.frame k5 (by omega)
      simp only [Nat.zero_mul, List.drop_zero] at q5
      simp [-getElem?_pos, -Array.getElem?_eq_getElem, -Int.natCast_add, add_spot, and_assoc, Br_dec, -op_box, -op_st_4, -op_st_22, -op_st_226, -op_st_243, -op_st_296, -op_st_242, -op_st_187, -op_st_2, -op_st_307, -op_alloc_245, -op_alloc_242, -op_alloc_307, -op_lit_243_1, -op_lit_243_2, -op_lit_296_1, -op_lit_296_2, b5, hb5, hw]
      refine ⟨hile, by omega, h6, ?_⟩
      have hdel := del_new (A := ents es) (zs := zs) (r := i * 1) (m := 1) (by rw [ents_len]; omega) (by rw [ents_len, hzs]; omega)
      rw [← ents_erase, ents_len, show es.length * 1 - i * 1 - 1 = (es.length - i - 1) * 1 from by omega, show i * 1 + 1 = (i + 1) * 1 from by omega] at hdel
      refine op_copyX (n := es.length - i - 1) (x1 := i) (x2 := i + 1) (by kernel_rfl) q5.drew hg5.drew (by split; exact .inr ⟨rfl, by omega⟩; exact .inl (by simp)) (by split; exact .inr ⟨rfl, by omega⟩; exact .inl (by simp)) (by omega)
        (by rw [lw_len (by simp [ents_len, hzs]; omega)]; omega) (by rw [ents_len]; omega) ents_one fun w6 k6 z6 q6 => ?_
      have k6 := Frm.dr k6
      have b6 := k6.get b5 (by omega)
      have f6 := f5.frame k6 (by omega)
      rw [hdel] at q6
      rw [if_neg hlen] at hK
      have hel : (es.eraseIdx i).length = es.length - 1 := by rw [List.length_eraseIdx, if_pos hi]
      have kall := k1.fst (k2.old (k3.fst (k4.fst (k5.tr k6))) fun c hc => .inr (by omega))
      refine hK _ w6 (fun c => c = w3.heap.size ∨ c = w2.heap.size) (kall.to fun c hc => .inl hc) ⟨w3.heap.size, w2.heap.size, es.length - 1, rfl, .inl rfl, .inr rfl, by omega, by rw [hel]; simpa using b6, by rw [hel]; omega, q6⟩ (fun c hc => .inr (by omega)) f6
end Go.Proofs.Ytbghmbbhkoniiaa.S
end
section
/- Deleting a key from the array of a root. -/
set_option maxRecDepth 100000
set_option maxHeartbeats 1000000
set_option linter.unusedSimpArgs false
set_option linter.unusedVariables false
set_option linter.unusedSectionVars false
namespace Go.Proofs.Ytbghmbbhkoniiaa.S
open Go.Vc Go.Proofs Go.Proofs.Ytbghmbbhkoniiaa Go.Vc.Nd
variable {w w' : World} {v hv : Value} {t : Tr} {F F' : Nat → Prop} {K : Value → World → Prop} {Kp : KP} {hash : Ky → Nat} {k : Ky} {x : Vl} {l s rb : Nat} {r0 mu : Bool}

theorem delA_ok {es : List (Ky × Vl)} {kh : Value} (hH : IsH hv hash) (hz : es.length ≤ 1000000) (h1e : 1 ≤ es.length) (h : Rep w (.arr es) v F) (hr : flag w rb false) (hrb : ¬ F rb) (hK : Dels w mu F rb v (find es k).isSome (Nd.del hash (.arr es) k) K) :
    (nice Try.prog).call (.inv v "pub-bracken/pub/immutable.delete") [ek k, .int .u64 0, kh, hv, .bool mu, ptr rb] w K Kp := by
  have h0 := h
  obtain ⟨b, g, cap, rfl, h2, h3, h4, hb, h6, hg⟩ := h
  simp only [inv_240_167]
  refine vc167_calls ?_
  have hne : b ≠ rb := fun e => hrb (e ▸ h2)
  have hgr : g ≠ rb := fun e => hrb (e ▸ h3)
  simp [-getElem?_pos, -Array.getElem?_eq_getElem, -Int.natCast_add, add_spot, and_assoc, Br_dec, -op_box, -op_st_4, -op_st_22, -op_st_226, -op_st_243, -op_st_296, -op_st_242, -op_st_187, -op_st_2, -op_st_307, -op_alloc_245, -op_alloc_242, -op_alloc_307, -op_lit_243_1, -op_lit_243_2, -op_lit_296_1, -op_lit_296_2, vc167, ptr]
  refine indexA_ok hH hb hg h6 fun w1 k1 => ?_
  have hb1 := k1.get hb (fun h => h)
  have hg1 := hg.frame k1 (fun h => h)
  have hr1 := hr.frame k1 (fun h => h)
  have n1 := k1.size
  have hc := hg.cap_le h6
  have l1 := lt_of_get hb
  have l2 := lt_of_get hr
  have l3 := hg.lt
  rw [Nd.del] at hK
  cases hx : find es k with
  | none =>
    rw [hx] at hK
    simp [-getElem?_pos, -Array.getElem?_eq_getElem, -Int.natCast_add, add_spot, and_assoc, Br_dec, -op_box, -op_st_4, -op_st_22, -op_st_226, -op_st_243, -op_st_296, -op_st_242, -op_st_187, -op_st_2, -op_st_307, -op_alloc_245, -op_alloc_242, -op_alloc_307, -op_lit_243_1, -op_lit_243_2, -op_lit_296_1, -op_lit_296_2, idxV]
    exact hK.1 rfl w1 k1
  | some i =>
    obtain ⟨hi, hik, _⟩ := find_some hx
    rw [hx] at hK
    have hK := hK.2 rfl
    dsimp only at hK
    rw [Sets] at hK
    have hcast : ((es.length : Int) = 1) ↔ es.length = 1 := by omega
    have hi1 : ¬ ((i : Int) = -1) := by omega
    simp [-getElem?_pos, -Array.getElem?_eq_getElem, -Int.natCast_add, add_spot, and_assoc, Br_dec, -op_box, -op_st_4, -op_st_22, -op_st_226, -op_st_243, -op_st_296, -op_st_242, -op_st_187, -op_st_2, -op_st_307, -op_alloc_245, -op_alloc_242, -op_alloc_307, -op_lit_243_1, -op_lit_243_2, -op_lit_296_1, -op_lit_296_2, idxV, hi1]
    refine raise_ok hr1 fun w2 k2 z2 f2 => ?_
    have hb2 := k2.get hb1 hne
    have hg2 := hg1.frame k2 hgr
    simp [-getElem?_pos, -Array.getElem?_eq_getElem, -Int.natCast_add, add_spot, and_assoc, Br_dec, -op_box, -op_st_4, -op_st_22, -op_st_226, -op_st_243, -op_st_296, -op_st_242, -op_st_187, -op_st_2, -op_st_307, -op_alloc_245, -op_alloc_242, -op_alloc_307, -op_lit_243_1, -op_lit_243_2, -op_lit_296_1, -op_lit_296_2, hb2, hcast]
    refine ⟨fun hlen => ?_, fun hlen => ⟨fun hm => ?_, fun hm => ?_⟩⟩
    · rw [if_pos hlen] at hK
      exact hK _ w2 (fun _ => False) ((k1.fst k2).to fun c hc => .inl hc) rfl (fun _ h => h.elim) f2
    · have hw : IntKind.i64.wrap ((i : Int) + 1) = ((i + 1 : Nat) : Int) := by rw [IntKind.wrap_i64]; omega
      have hw1 : IntKind.i64.wrap ((es.length : Int) - 1) = ((es.length - 1 : Nat) : Int) := by rw [IntKind.wrap_i64]; omega
      simp [-getElem?_pos, -Array.getElem?_eq_getElem, -Int.natCast_add, add_spot, and_assoc, Br_dec, -op_box, -op_st_4, -op_st_22, -op_st_226, -op_st_243, -op_st_296, -op_st_242, -op_st_187, -op_st_2, -op_st_307, -op_alloc_245, -op_alloc_242, -op_alloc_307, -op_lit_243_1, -op_lit_243_2, -op_lit_296_1, -op_lit_296_2, hw]
      refine ⟨by omega, h6, by omega, h6, ?_⟩
      refine op_copyX (n := es.length - i - 1) (x1 := i) (x2 := i + 1) (by kernel_rfl) hg2.drew hg2.drew (by split; exact .inr ⟨rfl, by omega⟩; exact .inl (by simp)) (by split; exact .inr ⟨rfl, by omega⟩; exact .inl (by simp)) (by omega) (by rw [ents_len]; omega) (by rw [ents_len]; omega) ents_one fun w3 k3 z3 q3 => ?_
      have k3 := Frm.dr k3
      have hb3 := k3.get hb2 (fun e => h4 e.symm)
      have f3 := f2.frame k3 (fun e => hgr e.symm)
      have hlt1 : es.length - 1 < es.length := by omega
      simp [-getElem?_pos, -Array.getElem?_eq_getElem, -Int.natCast_add, add_spot, and_assoc, Br_dec, -op_box, -op_st_4, -op_st_22, -op_st_226, -op_st_243, -op_st_296, -op_st_242, -op_st_187, -op_st_2, -op_st_307, -op_alloc_245, -op_alloc_242, -op_alloc_307, -op_lit_243_1, -op_lit_243_2, -op_lit_296_1, -op_lit_296_2, hb3, hw1, hlt1]
      have hdel := del_mut (A := ents es) (r := i * 1) (m := 1) (by rw [ents_len]; omega)
      rw [← ents_erase, ents_len, show es.length * 1 - i * 1 - 1 = (es.length - i - 1) * 1 from by omega, show i * 1 + 1 = (i + 1) * 1 from by omega] at hdel
      have hl3 : (lw (ents es) (i * 1) (List.take ((es.length - i - 1) * 1) (List.drop ((i + 1) * 1) (ents es)))).length = es.length * 1 := by rw [lw_len (by simp [ents_len]; omega), ents_len]
      refine op_storeRN (n := 1) (by kernel_rfl) rfl q3.drew (by rw [hl3]; omega) (fun u hu => by simp at hu; first | subst hu; rfl | (rcases hu with rfl | rfl <;> rfl)) fun w4 k4 z4 q4 => ?_
      have k4 := Frm.dr k4
      have hb4 := k4.get hb3 (fun e => h4 e.symm)
      have f4 := f3.frame k4 (fun e => hgr e.symm)
      have q4 := q4.take ((es.length - 1) * 1)
      simp only [Nat.mul_one] at q4 hdel hl3
      rw [lw_keep (by rw [hl3]; omega), hdel] at q4
      have hle4 : es.length - 1 ≤ cap := by omega
      simp [-getElem?_pos, -Array.getElem?_eq_getElem, -Int.natCast_add, add_spot, and_assoc, Br_dec, -op_box, -op_st_4, -op_st_22, -op_st_226, -op_st_243, -op_st_296, -op_st_242, -op_st_187, -op_st_2, -op_st_307, -op_alloc_245, -op_alloc_242, -op_alloc_307, -op_lit_243_1, -op_lit_243_2, -op_lit_296_1, -op_lit_296_2, hb4, hw1, hle4]
      refine op_store_ok (by kernel_rfl) (show w4.drew.heap[b]? = _ from by simpa using hb4) (by simp) rfl fun w5 k5 z5 b5 => ?_
      have k5 := Frm.dr k5
      have q5 := q4.frame k5 h4
      have f5 := f4.frame k5 (fun e => hne e.symm)
      rw [if_neg hlen] at hK
      have hel : (es.eraseIdx i).length = es.length - 1 := by rw [List.length_eraseIdx, if_pos hi]
      refine hK _ w5 F ((k1.fst (k2.tr (k3.tr (k4.tr k5)))).to fun c hc => ?_) ⟨b, g, cap, rfl, h2, h3, h4, by rw [hel]; simpa using b5, by rw [hel]; omega, q5⟩ (fun _ h => .inl h) f5
      rcases hc with h | h | h | h
      · exact .inl h
      · exact .inr ⟨hm, by rw [h]; exact h3⟩
      · exact .inr ⟨hm, by rw [h]; exact h3⟩
      · exact .inr ⟨hm, by rw [h]; exact h2⟩
    · have hw : IntKind.i64.wrap ((i : Int) + 1) = ((i + 1 : Nat) : Int) := by rw [IntKind.wrap_i64]; omega
      have hw1 : IntKind.i64.wrap ((es.length : Int) - 1) = ((es.length - 1 : Nat) : Int) := by rw [IntKind.wrap_i64]; omega
      rw [hw1]
      refine op_make_ok (n := es.length - 1) apE rfl (by omega) fun w3 zs k3 z3 hzs q3 => ?_
      have hb3 := k3.get hb2 (fun h => h)
      have hg3 := hg2.frame k3 (fun h => h)
      have f3 := f2.frame k3 (fun h => h)
      simp [-getElem?_pos, -Array.getElem?_eq_getElem, -Int.natCast_add, add_spot, and_assoc, Br_dec, -op_box, -op_st_4, -op_st_22, -op_st_226, -op_st_243, -op_st_296, -op_st_242, -op_st_187, -op_st_2, -op_st_307, -op_alloc_245, -op_alloc_242, -op_alloc_307, -op_lit_243_1, -op_lit_243_2, -op_lit_296_1, -op_lit_296_2]
      refine op_box_ok fun w4 k4 z4 b4 => ?_
      simp only [cells_agg] at b4
      have hb4 := k4.get hb3 (fun h => h)
      have hg4 := hg3.frame k4 (fun h => h)
      have q4 := q3.frame k4 (fun h => h)
      have f4 := f3.frame k4 (fun h => h)
      have hile : i ≤ es.length - 1 := by omega
      have hicap : i ≤ cap := by omega
      simp [-getElem?_pos, -Array.getElem?_eq_getElem, -Int.natCast_add, add_spot, and_assoc, Br_dec, -op_box, -op_st_4, -op_st_22, -op_st_226, -op_st_243, -op_st_296, -op_st_242, -op_st_187, -op_st_2, -op_st_307, -op_alloc_245, -op_alloc_242, -op_alloc_307, -op_lit_243_1, -op_lit_243_2, -op_lit_296_1, -op_lit_296_2, b4, hb4, hile, hicap]
      refine op_copyX (n := i) (x1 := 0) (x2 := 0) (by kernel_rfl) q4.drew hg4.drew (.inl rfl) (.inl rfl) (by omega) (by omega) (by rw [ents_len]; omega) ents_one fun w5 k5 z5 q5 => ?_
      have k5 := Frm.dr k5
      have b5 := k5.get b4 (by omega)
      have hb5 := k5.get hb4 (by omega)
      have hg5 := hg4.frame k5 (by omega)
      have f5 := f4.frame k5 (by omega)
      simp only [Nat.zero_mul, List.drop_zero] at q5
      simp [-getElem?_pos, -Array.getElem?_eq_getElem, -Int.natCast_add, add_spot, and_assoc, Br_dec, -op_box, -op_st_4, -op_st_22, -op_st_226, -op_st_243, -op_st_296, -op_st_242, -op_st_187, -op_st_2, -op_st_307, -op_alloc_245, -op_alloc_242, -op_alloc_307, -op_lit_243_1, -op_lit_243_2, -op_lit_296_1, -op_lit_296_2, b5, hb5, hw]
      refine ⟨hile, by omega, h6, ?_⟩
      have hdel := del_new (A := ents es) (zs := zs) (r := i * 1) (m := 1) (by rw [ents_len]; omega) (by rw [ents_len, hzs]; omega)
      rw [← ents_erase, ents_len, show es.length * 1 - i * 1 - 1 = (es.length - i - 1) * 1 from by omega, show i * 1 + 1 = (i + 1) * 1 from by omega] at hdel
      refine op_copyX (n := es.length - i - 1) (x1 := i) (x2 := i + 1) (by kernel_rfl) q5.drew hg5.drew (by split; exact .inr ⟨rfl, by omega⟩; exact .inl (by simp)) (by split; exact .inr ⟨rfl, by omega⟩; exact .inl (by simp)) (by omega)
        (by rw [lw_len (by simp [ents_len, hzs]; omega)]; omega) (by rw [ents_len]; omega) ents_one fun w6 k6 z6 q6 => ?_
      have k6 := Frm.dr k6
      have b6 := k6.get b5 (by omega)
      have f6 := f5.frame k6 (by omega)
      rw [hdel] at q6
      rw [if_neg hlen] at hK
      have hel : (es.eraseIdx i).length = es.length - 1 := by rw [List.length_eraseIdx, if_pos hi]
      have kall := k1.fst (k2.old (k3.fst (k4.fst (k5.tr k6))) fun c hc => .inr (by omega))
      refine hK _ w6 (fun c => c = w3.heap.size ∨ c = w2.heap.size) (kall.to fun c hc => .inl hc) ⟨w3.heap.size, w2.heap.size, es.length - 1, rfl, .inl rfl, .inr rfl, by omega, by rw [hel]; simpa using b6, by rw [hel]; omega, q6⟩ (fun c hc => .inr (by omega)) f6
end Go.Proofs.Ytbghmbbhkoniiaa.S
end
section
/- Deleting a key from a branch. -/
set_option maxRecDepth 100000
set_option maxHeartbeats 2000000
set_option linter.unusedSimpArgs false
set_option linter.unusedVariables false
set_option linter.unusedSectionVars false
namespace Go.Proofs.Ytbghmbbhkoniiaa.S
open Go.Vc Go.Proofs Go.Proofs.Ytbghmbbhkoniiaa Go.Vc.Nd
variable {w w' : World} {v hv : Value} {t : Tr} {F F' : Nat → Prop} {K : Value → World → Prop} {Kp : KP} {hash : Ky → Nat} {k : Ky} {x : Vl} {l s rb : Nat} {r0 mu : Bool}

theorem eq_nil (h : Rep w t v F) {wz : World} {K : Value → World → Prop} {Kp : KP} : (nice Try.prog).op (.bin .eql 226 false true v .nilIface) wz K Kp = K (.bool t.isEmp) wz := by
  by_cases e : t = .emp
  · subst e; rw [h.nil]; simp [Nd.isEmp]
  · obtain ⟨u, c, hv⟩ := h.iface e
    have he' : t.isEmp = false := by cases h : t.isEmp; rfl; exact absurd (isEmp_iff.1 h) e
    rw [hv, he']; simp

theorem delB_ok {f : Nat → Tr} {p i : Nat} {t' T : Tr} (hH : IsH hv hash) (hl : l ≤ 6) (hs : s = 5 * l) (hi0 : frag l (hash k) = i) (dl : Bool) (he : f i = .emp → dl = false)
    (hT : dl = true → T = if t'.isEmp then (if Nd.cnt f = 1 then .emp else .br false (Nd.put f i .emp)) else .br false (Nd.put f i t'))
    (child : f i ≠ .emp → DelC hv hash k mu rb (s + 5) (f i) t' dl) : DelC hv hash k mu rb s (.br false f) T dl := by
  intro w v F K Kp h hr hrb hK
  have hi := frag_lt l (hash k)
  have hfr := frag_eq (hH.lt k) hs hl
  rw [hi0] at hi hfr
  obtain ⟨b, g, cap, vs, Fs0, rfl, h2, h3, h4, hb, h6, hg, h8, h9⟩ := h
  have hF : ∀ j, j < 32 → ∀ c, Fs0 j c → F c := fun j hj c hc => (h9 j hj c hc).1
  have hkin0 : Kin w f vs Fs0 (fun c => c = b ∨ c = g) := ⟨h8, fun j hj c hc => ⟨fun e => e.elim (h9 j hj c hc).2.1 (h9 j hj c hc).2.2.1, (h9 j hj c hc).2.2.2⟩⟩
  obtain ⟨Fs, hkin, hFl⟩ : ∃ Fs : Nat → Nat → Prop, Kin w f vs Fs (fun c => c = b ∨ c = g) ∧ ∀ j, j < 32 → ∀ c, Fs j c → F c ∧ c < w.heap.size := ⟨_, hkin0.lt, fun j hj c hc => ⟨hF j hj c hc.1, hc.2⟩⟩
  clear h8 h9 hF hkin0
  simp only [inv_295_188]
  refine vc188_calls ?_
  have hbit := bit_eq hi
  have hand := and_u32 (bm_lt (f := f)) (two_pow_lt hi)
  have hxor := xor_u32 (bm_lt (f := f)) (two_pow_lt hi)
  have hless := bit_less hi
  have hpos := Nat.pow_pos (n := i) (show 0 < 2 by decide)
  have hbel := and_u32 (bm_lt (f := f)) (b := 2 ^ i - 1) (by have := two_pow_lt hi; omega)
  have hz := bm_and_zero (f := f) i hi
  have hpop := pop_rk (f := f) (i := i) (by omega)
  have hlt2 : bm f &&& (2 ^ i - 1) < 2 ^ 32 := Nat.lt_of_le_of_lt Nat.and_le_left bm_lt
  have hbm := fun e => bm_xor (f := f) hi e
  have hns := next_shift hs hl
  have hne : b ≠ rb := fun e => hrb (e ▸ h2)
  have hgr : g ≠ rb := fun e => hrb (e ▸ h3)
  have l1 := lt_of_get hb
  have l2 := lt_of_get hr
  have l3 := hg.lt
  generalize hB : bm f &&& 2 ^ i = B at *
  generalize hO : bm f ^^^ 2 ^ i = O at *
  generalize hC : bm f &&& (2 ^ i - 1) = C at *
  generalize hy : (2 : Nat) ^ i = y at *
  have hzB : ((B : Int) = 0) ↔ f i = .emp := by rw [← hz]; omega
  simp [-getElem?_pos, -Array.getElem?_eq_getElem, -Int.natCast_add, add_spot, and_assoc, Br_dec, -op_box, -op_st_4, -op_st_22, -op_st_226, -op_st_243, -op_st_296, -op_st_242, -op_st_187, -op_st_2, -op_st_307, -op_alloc_245, -op_alloc_242, -op_alloc_307, -op_lit_243_1, -op_lit_243_2, -op_lit_296_1, -op_lit_296_2, vc188, ptr, hb, hfr, hbit, hand, -Int.natCast_eq_zero, hzB]
  refine ⟨fun e => hK.1 (he e) w Frm.refl, fun e => ?_⟩
  rw [hless, hbel]
  refine pop_ok hlt2 fun w2 k2 => ?_
  rw [hpop]
  have hb2 := k2.get hb (fun h => h)
  have hg2 := hg.frame k2 (fun h => h)
  have f2 := hr.frame k2 (fun h => h)
  have n2 := k2.size
  have hkin1 : ∀ j, j < 32 → Rep w2 (f j) (vs j) (Fs j) := fun j hj => (hkin.1 j hj).still k2
  obtain ⟨cur, hcur, hk⟩ := kid_cell hg2
  have hk' := hk i hi e
  have hrl := rk_lt (f := f) hi e
  rw [← cnt_rk] at hrl
  have he' : (f i).isEmp = false := by cases h : (f i).isEmp; rfl; exact absurd (isEmp_iff.1 h) e
  simp [-getElem?_pos, -Array.getElem?_eq_getElem, -Int.natCast_add, add_spot, and_assoc, Br_dec, -op_box, -op_st_4, -op_st_22, -op_st_226, -op_st_243, -op_st_296, -op_st_242, -op_st_187, -op_st_2, -op_st_307, -op_alloc_245, -op_alloc_242, -op_alloc_307, -op_lit_243_1, -op_lit_243_2, -op_lit_296_1, -op_lit_296_2, hb2, hcur, hk', hns, hrl]
  refine child e (hkin1 i hi) f2 (fun h => hrb (hFl i hi rb h).1) ⟨fun hd w3 k3 => ?_, fun hd nv w3 F0 k3 r30 hF10 f3 => ?_⟩
  · have f3 := f2.frame k3 (fun h => h)
    unfold flag at f3
    simp [-getElem?_pos, -Array.getElem?_eq_getElem, -Int.natCast_add, add_spot, and_assoc, Br_dec, -op_box, -op_st_4, -op_st_22, -op_st_226, -op_st_243, -op_st_296, -op_st_242, -op_st_187, -op_st_2, -op_st_307, -op_alloc_245, -op_alloc_242, -op_alloc_307, -op_lit_243_1, -op_lit_243_2, -op_lit_296_1, -op_lit_296_2, f3]
    exact hK.1 hd w3 (k2.no k3)
  have hK := hK.2 hd
  rw [hT hd] at hK
  obtain ⟨F1, r3, hF1⟩ : ∃ F1 : Nat → Prop, Rep w3 t' nv F1 ∧ ∀ c, F1 c → (Fs i c ∨ w2.heap.size ≤ c) ∧ c < w3.heap.size := ⟨fun c => F0 c ∧ c < w3.heap.size, r30.lt, fun c hc => ⟨hF10 c hc.1, hc.2⟩⟩
  have hft := f3
  unfold flag at hft
  have heq := fun {wz : World} {K : Value → World → Prop} {Kp : KP} => eq_nil r3 (wz := wz) (K := K) (Kp := Kp)
  simp [-getElem?_pos, -Array.getElem?_eq_getElem, -Int.natCast_add, add_spot, and_assoc, Br_dec, -op_box, -op_st_4, -op_st_22, -op_st_226, -op_st_243, -op_st_296, -op_st_242, -op_st_187, -op_st_2, -op_st_307, -op_alloc_245, -op_alloc_242, -op_alloc_307, -op_lit_243_1, -op_lit_243_2, -op_lit_296_1, -op_lit_296_2, hft, heq]
  clear hft
  have n3 := k3.size
  have hbF : ¬ Fs i b := fun h => (hkin.2 i hi b h).1 (.inl rfl)
  have hgF : ¬ Fs i g := fun h => (hkin.2 i hi g h).1 (.inr rfl)
  have hb3 := k3.get hb2 (fun h => h.elim hne fun h => hbF h.2)
  have hg3 := hg2.frame k3 (fun h => h.elim hgr fun h => hgF h.2)
  have hkin3 : ∀ j, j < 32 → j ≠ i → Rep w3 (f j) (vs j) (Fs j) := fun j hj hji => (hkin1 j hj).frame k3 fun c hc h => h.elim (fun e => hrb (e ▸ (hFl j hj c hc).1)) fun h => (hkin.2 j hj c hc).2 i hi (fun e => hji e.symm) h.2
  have hF1b : ∀ c, F1 c → c ≠ b ∧ c ≠ g := fun c hc => by
    rcases (hF1 c hc).1 with h | h
    · have := (hkin.2 i hi c h).1; exact ⟨fun e => this (.inl e), fun e => this (.inr e)⟩
    · exact ⟨by omega, by omega⟩
  have hF1d : ∀ c, F1 c → ∀ j, j < 32 → j ≠ i → ¬ Fs j c := fun c hc j hj hji hjc => by
    rcases (hF1 c hc).1 with h | h
    · exact (hkin.2 i hi c h).2 j hj hji hjc
    · have := (hFl j hj c hjc).2; omega
  have hto : ∀ {w4 : World} {M : Nat → Prop}, Frm M w3 w4 → (∀ c, M c → (mu = true ∧ (c = b ∨ c = g)) ∨ w.heap.size ≤ c) → Frm (fun c => c = rb ∨ mu = true ∧ F c) w w4 := fun {w4 M} k4 hM => by
    refine Frm.old (((k2.fst k3).to fun c hc => ?_)) (k4.to (M' := fun c => (mu = true ∧ (c = b ∨ c = g)) ∨ w.heap.size ≤ c) hM) fun c hc => ?_
    · rcases hc with h | h
      · exact .inl h
      · exact .inr ⟨h.1, (hFl i hi c h.2).1⟩
    · rcases hc with ⟨hm, h | h⟩ | h
      · exact .inl (.inr ⟨hm, h ▸ h2⟩)
      · exact .inl (.inr ⟨hm, h ▸ h3⟩)
      · exact .inr h
  have hkinP : ∀ {w4 : World} {M O : Nat → Prop}, Frm M w3 w4 → (∀ c, M c → c = b ∨ c = g ∨ w3.heap.size ≤ c) → (∀ c, O c → c = b ∨ c = g ∨ w3.heap.size ≤ c) → Kin w4 (Nd.put f i t') (putV vs i nv) (fun j => if j = i then F1 else Fs j) O := fun {w4 M O} k4 hM hO => by
    have hOF : ∀ j, j < 32 → ∀ c, Fs j c → ¬ O c ∧ ¬ M c := fun j hj c hc => by
      have h1 := (hkin.2 j hj c hc).1
      have h2 := (hFl j hj c hc).2
      exact ⟨fun h => by rcases hO c h with h | h | h; exact h1 (.inl h); exact h1 (.inr h); omega, fun h => by rcases hM c h with h | h | h; exact h1 (.inl h); exact h1 (.inr h); omega⟩
    have hOF1 : ∀ c, F1 c → ¬ O c ∧ ¬ M c := fun c hc => by
      have h1 := hF1b c hc
      have h2 := (hF1 c hc).2
      exact ⟨fun h => by rcases hO c h with h | h | h; exact h1.1 h; exact h1.2 h; omega, fun h => by rcases hM c h with h | h | h; exact h1.1 h; exact h1.2 h; omega⟩
    refine ⟨fun j hj => ?_, fun j hj c hc => ?_⟩
    · by_cases e : j = i
      · subst e; rw [Nd.put_same]; simpa [putV] using r3.frame k4 fun c hc => (hOF1 c hc).2
      · rw [Nd.put_ne e]; simp only [putV, if_neg e]; exact (hkin3 j hj e).frame k4 fun c hc => (hOF j hj c hc).2
    · by_cases e : j = i
      · simp only [if_pos e] at hc
        refine ⟨(hOF1 c hc).1, fun q hq hne hqc => ?_⟩
        simp only [if_neg (show ¬ q = i by omega)] at hqc
        exact hF1d c hc q hq (by omega) hqc
      · simp only [if_neg e] at hc
        refine ⟨(hOF j hj c hc).1, fun q hq hne hqc => ?_⟩
        by_cases e' : q = i
        · simp only [if_pos e'] at hqc; exact hF1d c hqc j hj e hc
        · simp only [if_neg e'] at hqc; exact (hkin.2 j hj c hc).2 q hq hne hqc
  have hFF : ∀ {O : Nat → Prop} {w4 : World}, (∀ c, O c → F c ∨ w.heap.size ≤ c) → ∀ c, (O c ∨ ∃ j, j < 32 ∧ (if j = i then F1 else Fs j) c) → F c ∨ w.heap.size ≤ c := fun {O w4} hO c hc => by
    rcases hc with hc | ⟨j, hj, hc⟩
    · exact hO c hc
    · by_cases e : j = i
      · simp only [if_pos e] at hc
        rcases (hF1 c hc).1 with h | h
        · exact .inl (hFl i hi c h).1
        · exact .inr (by omega)
      · simp only [if_neg e] at hc
        exact .inl (hFl j hj c hc).1
  have hone := kids_one_cell hkin.1
  have hnil : ∀ q, q < 32 → f q = .emp → vs q = .nilIface := fun q hq e => by have := hkin.1 q hq; rw [e] at this; exact this.nil
  clear hkin hkin1 hkin3
  have hvs : ∀ u ∈ kids f vs, u.oneCell' = true := hone
  have hcl := cnt_le (f := f)
  have hcm := hg3.cap_le h6
  have hkl : (kids f vs).length = Nd.cnt f := kids_len
  have hw : IntKind.i64.wrap ((rk f i : Int) + 1) = ((rk f i + 1 : Nat) : Int) := by rw [IntKind.wrap_i64]; omega
  have hw1 : IntKind.i64.wrap ((Nd.cnt f : Int) - 1) = ((Nd.cnt f - 1 : Nat) : Int) := by rw [IntKind.wrap_i64]; omega
  have hc1 : ((Nd.cnt f : Int) = 1) ↔ Nd.cnt f = 1 := by omega
  refine ⟨fun ht => ?_, fun ht => ?_⟩
  · have ht := isEmp_iff.1 ht
    subst ht
    have hnv := r3.nil
    subst hnv
    simp only [Nd.isEmp, if_true] at hK
    simp [-getElem?_pos, -Array.getElem?_eq_getElem, -Int.natCast_add, add_spot, and_assoc, Br_dec, -op_box, -op_st_4, -op_st_22, -op_st_226, -op_st_243, -op_st_296, -op_st_242, -op_st_187, -op_st_2, -op_st_307, -op_alloc_245, -op_alloc_242, -op_alloc_307, -op_lit_243_1, -op_lit_243_2, -op_lit_296_1, -op_lit_296_2, hb3, hc1]
    refine ⟨fun h1 => ?_, fun h1 => ?_⟩
    · rw [if_pos h1] at hK
      exact hK _ w3 (fun _ => False) (hto (M := fun _ => False) Frm.refl fun _ h => h.elim) rfl (fun _ h => h.elim) f3
    rw [if_neg h1] at hK
    have hcn := cnt_del (f := f) hi e
    have hkd := kids_del (f := f) (vs := vs) (v := Value.nilIface) hi e
    have hbe := hbm e
    refine ⟨fun hm => ?_, fun hm => ?_⟩
    · simp [-getElem?_pos, -Array.getElem?_eq_getElem, -Int.natCast_add, add_spot, and_assoc, Br_dec, -op_box, -op_st_4, -op_st_22, -op_st_226, -op_st_243, -op_st_296, -op_st_242, -op_st_187, -op_st_2, -op_st_307, -op_alloc_245, -op_alloc_242, -op_alloc_307, -op_lit_243_1, -op_lit_243_2, -op_lit_296_1, -op_lit_296_2, hb3, hxor]
      refine op_store_ok (by kernel_rfl) hb3 (by simp) rfl fun w5 k5 z5 b5 => ?_
      have hg5 := hg3.frame k5 h4
      have f5 := f3.frame k5 (fun e => hne e.symm)
      simp [-getElem?_pos, -Array.getElem?_eq_getElem, -Int.natCast_add, add_spot, and_assoc, Br_dec, -op_box, -op_st_4, -op_st_22, -op_st_226, -op_st_243, -op_st_296, -op_st_242, -op_st_187, -op_st_2, -op_st_307, -op_alloc_245, -op_alloc_242, -op_alloc_307, -op_lit_243_1, -op_lit_243_2, -op_lit_296_1, -op_lit_296_2, b5, hw]
      refine ⟨by omega, h6, by omega, h6, ?_⟩
      refine op_copyX (n := Nd.cnt f - rk f i - 1) (x1 := rk f i) (x2 := rk f i + 1) (by kernel_rfl) hg5.drew hg5.drew (by split; exact .inr ⟨rfl, by omega⟩; exact .inl (by simp)) (by split; exact .inr ⟨rfl, by omega⟩; exact .inl (by simp)) (by omega) (by omega) (by omega) hvs fun w6 k6 z6 q6 => ?_
      have k6 := Frm.dr k6
      have b6 := k6.get b5 (fun e => h4 e.symm)
      have f6 := f5.frame k6 (fun e => hgr e.symm)
      have hlt1 : Nd.cnt f - 1 < Nd.cnt f := by omega
      simp [-getElem?_pos, -Array.getElem?_eq_getElem, -Int.natCast_add, add_spot, and_assoc, Br_dec, -op_box, -op_st_4, -op_st_22, -op_st_226, -op_st_243, -op_st_296, -op_st_242, -op_st_187, -op_st_2, -op_st_307, -op_alloc_245, -op_alloc_242, -op_alloc_307, -op_lit_243_1, -op_lit_243_2, -op_lit_296_1, -op_lit_296_2, b6, hw1, hlt1]
      simp only [Nat.mul_one] at q6
      have hdel := del_mut (A := kids f vs) (r := rk f i) (m := 1) (by omega)
      rw [hkl] at hdel
      have hl6 : (lw (kids f vs) (rk f i) (List.take (Nd.cnt f - rk f i - 1) (List.drop (rk f i + 1) (kids f vs)))).length = Nd.cnt f := by rw [lw_len (by simp; omega), hkl]
      refine op_storeR1 (by kernel_rfl) q6.drew (by rw [hl6]; omega) rfl fun w7 k7 z7 q7 => ?_
      have k7 := Frm.dr k7
      have b7 := k7.get b6 (fun e => h4 e.symm)
      have f7 := f6.frame k7 (fun e => hgr e.symm)
      have q7 := q7.take (Nd.cnt f - 1)
      rw [List.take_set_of_le (by omega), hdel, ← hkd] at q7
      have hle7 : Nd.cnt f - 1 ≤ cap := by omega
      simp [-getElem?_pos, -Array.getElem?_eq_getElem, -Int.natCast_add, add_spot, and_assoc, Br_dec, -op_box, -op_st_4, -op_st_22, -op_st_226, -op_st_243, -op_st_296, -op_st_242, -op_st_187, -op_st_2, -op_st_307, -op_alloc_245, -op_alloc_242, -op_alloc_307, -op_lit_243_1, -op_lit_243_2, -op_lit_296_1, -op_lit_296_2, b7, hw1, hle7]
      refine op_store_ok (by kernel_rfl) (show w7.drew.heap[b]? = _ from by simpa using b7) (by simp) rfl fun w8 k8 z8 b8 => ?_
      have k8 := Frm.dr k8
      have q8 := q7.frame k8 h4
      have f8 := f7.frame k8 (fun e => hne e.symm)
      have kall := (k5.tr (k6.tr (k7.tr k8)))
      have hall : ∀ c, (c = b ∨ c = g ∨ c = g ∨ c = b) → c = b ∨ c = g := fun c hc => by omega
      refine hK _ w8 _ (hto kall fun c hc => .inl ⟨hm, hall c hc⟩) (Rep.mkB (f := Nd.put f i .emp) h4 (by rw [← hbe, show Nd.cnt (Nd.put f i .emp) = Nd.cnt f - 1 from by omega]; simpa using b8) (by omega) q8 (hkinP kall (fun c hc => or_assoc.1 (.inl (hall c hc))) (fun c hc => hc.imp id .inl))) (fun c hc => hFF (O := fun c => c = b ∨ c = g) (w4 := w) (fun c hc => .inl (hc.elim (fun e => e ▸ h2) fun e => e ▸ h3)) c (or_assoc.2 hc)) f8
    · simp [-getElem?_pos, -Array.getElem?_eq_getElem, -Int.natCast_add, add_spot, and_assoc, Br_dec, -op_box, -op_st_4, -op_st_22, -op_st_226, -op_st_243, -op_st_296, -op_st_242, -op_st_187, -op_st_2, -op_st_307, -op_alloc_245, -op_alloc_242, -op_alloc_307, -op_lit_243_1, -op_lit_243_2, -op_lit_296_1, -op_lit_296_2, hb3, hxor, hw1]
      refine op_make_ok (n := Nd.cnt f - 1) apN rfl (by omega) fun w4 zs k4 z4 hzs q4 => ?_
      have k4 := Frm.dr k4
      simp only [heap_drew] at z4 q4
      have hb4 := k4.get hb3 (fun h => h)
      have hg4 := hg3.frame k4 (fun h => h)
      have f4 := f3.frame k4 (fun h => h)
      simp [-getElem?_pos, -Array.getElem?_eq_getElem, -Int.natCast_add, add_spot, and_assoc, Br_dec, -op_box, -op_st_4, -op_st_22, -op_st_226, -op_st_243, -op_st_296, -op_st_242, -op_st_187, -op_st_2, -op_st_307, -op_alloc_245, -op_alloc_242, -op_alloc_307, -op_lit_243_1, -op_lit_243_2, -op_lit_296_1, -op_lit_296_2, hb4]
      refine op_box_ok fun w5 k5 z5 b5 => ?_
      simp only [cells_agg] at b5
      have hb5 := k5.get hb4 (fun h => h)
      have hg5 := hg4.frame k5 (fun h => h)
      have q5 := q4.frame k5 (fun h => h)
      have f5 := f4.frame k5 (fun h => h)
      have hile : rk f i ≤ Nd.cnt f - 1 := by omega
      have hicap : rk f i ≤ cap := by omega
      simp [-getElem?_pos, -Array.getElem?_eq_getElem, -Int.natCast_add, add_spot, and_assoc, Br_dec, -op_box, -op_st_4, -op_st_22, -op_st_226, -op_st_243, -op_st_296, -op_st_242, -op_st_187, -op_st_2, -op_st_307, -op_alloc_245, -op_alloc_242, -op_alloc_307, -op_lit_243_1, -op_lit_243_2, -op_lit_296_1, -op_lit_296_2, b5, hb5, hile, hicap]
      refine op_copyX (n := rk f i) (x1 := 0) (x2 := 0) (by kernel_rfl) q5.drew hg5.drew (.inl rfl) (.inl rfl) (by omega) (by omega) (by omega) hvs fun w6 k6 z6 q6 => ?_
      have k6 := Frm.dr k6
      have b6 := k6.get b5 (by omega)
      have hb6 := k6.get hb5 (by omega)
      have hg6 := hg5.frame k6 (by omega)
      have f6 := f5.frame k6 (by omega)
      simp only [Nat.zero_mul, List.drop_zero, Nat.mul_one] at q6
      simp [-getElem?_pos, -Array.getElem?_eq_getElem, -Int.natCast_add, add_spot, and_assoc, Br_dec, -op_box, -op_st_4, -op_st_22, -op_st_226, -op_st_243, -op_st_296, -op_st_242, -op_st_187, -op_st_2, -op_st_307, -op_alloc_245, -op_alloc_242, -op_alloc_307, -op_lit_243_1, -op_lit_243_2, -op_lit_296_1, -op_lit_296_2, b6, hb6, hw]
      refine ⟨hile, by omega, h6, ?_⟩
      have hdel := del_new (A := kids f vs) (zs := zs) (r := rk f i) (m := 1) (by omega) (by omega)
      rw [hkl] at hdel
      refine op_copyX (n := Nd.cnt f - rk f i - 1) (x1 := rk f i) (x2 := rk f i + 1) (by kernel_rfl) q6.drew hg6.drew (by split; exact .inr ⟨rfl, by omega⟩; exact .inl (by simp)) (by split; exact .inr ⟨rfl, by omega⟩; exact .inl (by simp)) (by omega)
        (by rw [lw_len (by simp; omega)]; omega) (by omega) hvs fun w7 k7 z7 q7 => ?_
      have k7 := Frm.dr k7
      have b7 := k7.get b6 (by omega)
      have f7 := f6.frame k7 (by omega)
      simp only [Nat.mul_one] at q7
      rw [hdel, ← hkd] at q7
      have kall := (k4.fst (k5.fst (k6.tr k7)))
      have hall : ∀ c, (c = w3.heap.size ∨ c = w3.heap.size) → w3.heap.size ≤ c := fun c hc => by omega
      refine hK _ w7 _ (hto kall fun c hc => .inr (by have := hall c hc; omega)) (Rep.mkB (f := Nd.put f i .emp) (b := w4.heap.size) (g := w3.heap.size) (cap := Nd.cnt f - 1) (by omega) (by rw [← hbe, show Nd.cnt (Nd.put f i .emp) = Nd.cnt f - 1 from by omega]; simpa using b7) (by omega) q7 (hkinP kall (fun c hc => .inr (.inr (hall c hc))) (fun c hc => .inr (.inr (by omega))))) (fun c hc => hFF (O := fun c => c = w4.heap.size ∨ c = w3.heap.size) (w4 := w) (fun c hc => .inr (by omega)) c (or_assoc.2 hc)) f7
  · have ht' : t' ≠ .emp := fun e => by rw [e] at ht; cases ht
    rw [ht] at hK
    simp only [Bool.false_eq_true, if_false] at hK
    refine ⟨fun hm => ?_, fun hm => ?_⟩
    · simp [-getElem?_pos, -Array.getElem?_eq_getElem, -Int.natCast_add, add_spot, and_assoc, Br_dec, -op_box, -op_st_4, -op_st_22, -op_st_226, -op_st_243, -op_st_296, -op_st_242, -op_st_187, -op_st_2, -op_st_307, -op_alloc_245, -op_alloc_242, -op_alloc_307, -op_lit_243_1, -op_lit_243_2, -op_lit_296_1, -op_lit_296_2, hb3]
      refine op_make_ok (n := Nd.cnt f) apN rfl (by omega) fun w4 zs k4 z4 hzs q4 => ?_
      have k4 := Frm.dr k4
      simp only [heap_drew] at z4 q4
      have hb4 := k4.get hb3 (fun h => h)
      have hg4 := hg3.frame k4 (fun h => h)
      have f4 := f3.frame k4 (fun h => h)
      simp [-getElem?_pos, -Array.getElem?_eq_getElem, -Int.natCast_add, add_spot, and_assoc, Br_dec, -op_box, -op_st_4, -op_st_22, -op_st_226, -op_st_243, -op_st_296, -op_st_242, -op_st_187, -op_st_2, -op_st_307, -op_alloc_245, -op_alloc_242, -op_alloc_307, -op_lit_243_1, -op_lit_243_2, -op_lit_296_1, -op_lit_296_2, hb4]
      refine op_box_ok fun w5 k5 z5 b5 => ?_
      simp only [cells_agg] at b5
      have hb5 := k5.get hb4 (fun h => h)
      have hg5 := hg4.frame k5 (fun h => h)
      have q5 := q4.frame k5 (fun h => h)
      have f5 := f4.frame k5 (fun h => h)
      simp [-getElem?_pos, -Array.getElem?_eq_getElem, -Int.natCast_add, add_spot, and_assoc, Br_dec, -op_box, -op_st_4, -op_st_22, -op_st_226, -op_st_243, -op_st_296, -op_st_242, -op_st_187, -op_st_2, -op_st_307, -op_alloc_245, -op_alloc_242, -op_alloc_307, -op_lit_243_1, -op_lit_243_2, -op_lit_296_1, -op_lit_296_2, b5, hb5]
      refine op_copyX (n := Nd.cnt f) (x1 := 0) (x2 := 0) (by kernel_rfl) q5.drew hg5.drew (.inl rfl) (.inl rfl) (by omega) (by omega) (by omega) hvs fun w6 k6 z6 q6 => ?_
      have k6 := Frm.dr k6
      have b6 := k6.get b5 (by omega)
      have f6 := f5.frame k6 (by omega)
      have hq6 : lw zs (0 * 1) (List.take (Nd.cnt f * 1) (List.drop (0 * 1) (kids f vs))) = kids f vs := by
        simp only [Nat.zero_mul, Nat.mul_one, List.drop_zero]
        rw [List.take_of_length_le (by omega), lw_all (by omega)]
      rw [hq6] at q6
      simp [-getElem?_pos, -Array.getElem?_eq_getElem, -Int.natCast_add, add_spot, and_assoc, Br_dec, -op_box, -op_st_4, -op_st_22, -op_st_226, -op_st_243, -op_st_296, -op_st_242, -op_st_187, -op_st_2, -op_st_307, -op_alloc_245, -op_alloc_242, -op_alloc_307, -op_lit_243_1, -op_lit_243_2, -op_lit_296_1, -op_lit_296_2, b6, hrl]
      refine op_storeR1 (by kernel_rfl) q6 (by omega) r3.one fun w7 k7 z7 q7 => ?_
      rw [kids_set hi e ht'] at q7
      have b7 := k7.get b6 (by omega)
      have f7 := f6.frame k7 (by omega)
      have kall := (k4.fst (k5.fst (k6.tr k7)))
      have hall : ∀ c, (c = w3.heap.size ∨ c = w3.heap.size) → w3.heap.size ≤ c := fun c hc => by omega
      refine hK _ w7 _ (hto kall fun c hc => .inr (by have := hall c hc; omega)) (Rep.mkB (f := Nd.put f i t') (b := w4.heap.size) (g := w3.heap.size) (cap := Nd.cnt f) (by omega) (by rw [bm_keep e ht', cnt_same e ht']; simpa using b7) (by rw [cnt_same e ht']; omega) q7 (hkinP kall (fun c hc => .inr (.inr (hall c hc))) (fun c hc => .inr (.inr (by omega))))) (fun c hc => hFF (O := fun c => c = w4.heap.size ∨ c = w3.heap.size) (w4 := w) (fun c hc => .inr (by omega)) c (or_assoc.2 hc)) f7
    · simp [-getElem?_pos, -Array.getElem?_eq_getElem, -Int.natCast_add, add_spot, and_assoc, Br_dec, -op_box, -op_st_4, -op_st_22, -op_st_226, -op_st_243, -op_st_296, -op_st_242, -op_st_187, -op_st_2, -op_st_307, -op_alloc_245, -op_alloc_242, -op_alloc_307, -op_lit_243_1, -op_lit_243_2, -op_lit_296_1, -op_lit_296_2, hb3, hrl]
      refine op_storeR1 (by kernel_rfl) hg3 (by omega) r3.one fun w5 k5 z5 q5 => ?_
      rw [kids_set hi e ht'] at q5
      have f5 := f3.frame k5 (fun e => hgr e.symm)
      refine hK _ w5 _ (hto k5 fun c hc => .inl ⟨hm, .inr hc⟩) (Rep.mkB (f := Nd.put f i t') h4 (by rw [bm_keep e ht', cnt_same e ht']; exact k5.get hb3 (fun e => h4 e.symm)) (by rw [cnt_same e ht']; exact h6) q5 (hkinP k5 (fun c hc => .inr (.inl hc)) (fun c hc => hc.imp id .inl))) (fun c hc => hFF (O := fun c => c = b ∨ c = g) (w4 := w) (fun c hc => .inl (hc.elim (fun e => e ▸ h2) fun e => e ▸ h3)) c (or_assoc.2 hc)) f5
end Go.Proofs.Ytbghmbbhkoniiaa.S
end
section
/- Deleting a key from a branch of 32 places. -/
set_option maxRecDepth 100000
set_option maxHeartbeats 2000000
set_option linter.unusedSimpArgs false
set_option linter.unusedVariables false
set_option linter.unusedSectionVars false
namespace Go.Proofs.Ytbghmbbhkoniiaa.S
open Go.Vc Go.Proofs Go.Proofs.Ytbghmbbhkoniiaa Go.Vc.Nd
variable {w w' : World} {v hv : Value} {t : Tr} {F F' : Nat → Prop} {K : Value → World → Prop} {Kp : KP} {hash : Ky → Nat} {k : Ky} {x : Vl} {l s rb : Nat} {r0 mu : Bool}

theorem ne_nil (h : Rep w t v F) {wz : World} {K : Value → World → Prop} {Kp : KP} : (nice Try.prog).op (.bin .neq 226 false true v .nilIface) wz K Kp = K (.bool (!t.isEmp)) wz := by
  by_cases e : t = .emp
  · subst e; rw [h.nil]; simp [Nd.isEmp]
  · obtain ⟨u, c, hv⟩ := h.iface e
    have he' : t.isEmp = false := by cases h : t.isEmp; rfl; exact absurd (isEmp_iff.1 h) e
    rw [hv, he']; simp
theorem bmN_or {f : Nat → Tr} {j : Nat} (h : full f j = true) : bmN f j ||| 2 ^ j = bmN f (j + 1) := by
  apply Nat.eq_of_testBit_eq
  intro q
  rw [Nat.testBit_or, bmN_bit, bmN_bit, Nat.testBit_two_pow]
  by_cases e : j = q
  · subst e; simp [h]
  · simp only [e, decide_false, Bool.or_false]
    congr 1; exact decide_eq_decide.2 (by omega)
theorem bmN_skip {f : Nat → Tr} {j : Nat} (h : full f j = false) : bmN f (j + 1) = bmN f j := by rw [bmN, h]; simp
def pre (f : Nat → Tr) (vs : Nat → Value) (j : Nat) : List Value := ((List.range j).filter (full f)).map vs
theorem pre_len (f : Nat → Tr) (vs : Nat → Value) (j : Nat) : (pre f vs j).length = rk f j := by simp [pre, rk]
theorem pre_succ (f : Nat → Tr) (vs : Nat → Value) (j : Nat) : pre f vs (j + 1) = pre f vs j ++ if full f j then [vs j] else [] := by
  unfold pre; rw [List.range_succ, List.filter_append, List.map_append]; cases h : full f j <;> simp [h]
theorem kids_skip {f : Nat → Tr} {vs : Nat → Value} {i : Nat} : kids (Nd.put f i .emp) (putV vs i v) = pre (Nd.put f i .emp) vs 32 := by
  unfold kids pre
  apply List.map_congr_left
  intro q hq
  have := (List.mem_filter.1 hq).2
  by_cases e : q = i
  · subst e; rw [full_put, if_pos rfl] at this; cases this
  · simp [putV, e]

theorem delH_ok {f : Nat → Tr} {p i : Nat} {t' T : Tr} (hH : IsH hv hash) (hl : l ≤ 6) (hs : s = 5 * l) (hi0 : frag l (hash k) = i) (dl : Bool) (he : f i = .emp → dl = false)
    (hT : dl = true → T = if t'.isEmp then .br (decide (16 < Nd.cnt f)) (Nd.put f i .emp) else .br true (Nd.put f i t'))
    (child : f i ≠ .emp → DelC hv hash k mu rb (s + 5) (f i) t' dl) : DelC hv hash k mu rb s (.br true f) T dl := by
  intro w v F K Kp h hr hrb hK
  have hi := frag_lt l (hash k)
  have hfr := frag_eq (hH.lt k) hs hl
  rw [hi0] at hi hfr
  obtain ⟨b, cs, vs, Fs0, rfl, h2, hb, hcz, hc0, hcs, h8, h9⟩ := h
  obtain ⟨Fs, hrep, hdis, hFl⟩ : ∃ Fs : Nat → Nat → Prop, (∀ j, j < 32 → Rep w (f j) (vs j) (Fs j)) ∧ (∀ j, j < 32 → ∀ c, Fs j c → c ≠ b ∧ ∀ q, q < 32 → q ≠ j → ¬ Fs q c) ∧ ∀ j, j < 32 → ∀ c, Fs j c → F c ∧ c < w.heap.size :=
    ⟨fun j c => Fs0 j c ∧ c < w.heap.size, fun j hj => (h8 j hj).lt, fun j hj c hc => ⟨(h9 j hj c hc.1).2.1, fun q hq hne h => (h9 j hj c hc.1).2.2 q hq hne h.1⟩, fun j hj c hc => ⟨(h9 j hj c hc.1).1, hc.2⟩⟩
  clear h8 h9
  have hns := next_shift hs hl
  have hne : b ≠ rb := fun e => hrb (e ▸ h2)
  have l1 := lt_of_get hb
  have l2 := lt_of_get hr
  have hci := hcs i hi
  simp only [inv_308_192]
  refine vc192_calls ?_
  have hi' : (i : Int) < 32 := by omega
  have heq0 := fun {wz : World} {K : Value → World → Prop} {Kp : KP} => eq_nil (hrep i hi) (wz := wz) (K := K) (Kp := Kp)
  simp [-getElem?_pos, -Array.getElem?_eq_getElem, -Int.natCast_add, add_spot, and_assoc, Br_dec, -op_box, -op_st_4, -op_st_22, -op_st_226, -op_st_243, -op_st_296, -op_st_242, -op_st_187, -op_st_2, -op_st_307, -op_alloc_245, -op_alloc_242, -op_alloc_307, -op_lit_243_1, -op_lit_243_2, -op_lit_296_1, -op_lit_296_2, vc192, ptr, hb, hfr, Nat.add_comm 1, hci, hi', heq0]
  refine ⟨fun e => hK.1 (he (isEmp_iff.1 e)) w Frm.refl, fun e => ?_⟩
  have he' : f i ≠ .emp := fun h => by rw [h] at e; cases e
  rw [hns]
  refine child he' (hrep i hi) hr (fun h => hrb (hFl i hi rb h).1) ⟨fun hd w3 k3 => ?_, fun hd nv w3 F0 k3 r30 hF10 f3 => ?_⟩
  · have f3 := hr.frame k3 (fun h => h)
    unfold flag at f3
    simp [-getElem?_pos, -Array.getElem?_eq_getElem, -Int.natCast_add, add_spot, and_assoc, Br_dec, -op_box, -op_st_4, -op_st_22, -op_st_226, -op_st_243, -op_st_296, -op_st_242, -op_st_187, -op_st_2, -op_st_307, -op_alloc_245, -op_alloc_242, -op_alloc_307, -op_lit_243_1, -op_lit_243_2, -op_lit_296_1, -op_lit_296_2, f3]
    exact hK.1 hd w3 k3
  have hK := hK.2 hd
  rw [hT hd] at hK
  obtain ⟨F1, r3, hF1⟩ : ∃ F1 : Nat → Prop, Rep w3 t' nv F1 ∧ ∀ c, F1 c → (Fs i c ∨ w.heap.size ≤ c) ∧ c < w3.heap.size := ⟨fun c => F0 c ∧ c < w3.heap.size, r30.lt, fun c hc => ⟨hF10 c hc.1, hc.2⟩⟩
  have hft := f3
  unfold flag at hft
  have heq := fun {wz : World} {K : Value → World → Prop} {Kp : KP} => eq_nil r3 (wz := wz) (K := K) (Kp := Kp)
  simp [-getElem?_pos, -Array.getElem?_eq_getElem, -Int.natCast_add, add_spot, and_assoc, Br_dec, -op_box, -op_st_4, -op_st_22, -op_st_226, -op_st_243, -op_st_296, -op_st_242, -op_st_187, -op_st_2, -op_st_307, -op_alloc_245, -op_alloc_242, -op_alloc_307, -op_lit_243_1, -op_lit_243_2, -op_lit_296_1, -op_lit_296_2, hft, heq]
  clear hft
  have n3 := k3.size
  have hbF : ¬ Fs i b := fun h => (hdis i hi b h).1 rfl
  have hb3 := k3.get hb (fun h => h.elim hne fun h => hbF h.2)
  have hrep3 : ∀ j, j < 32 → j ≠ i → Rep w3 (f j) (vs j) (Fs j) := fun j hj hji => (hrep j hj).frame k3 fun c hc h => h.elim (fun e => hrb (e ▸ (hFl j hj c hc).1)) fun h => (hdis j hj c hc).2 i hi (fun e => hji e.symm) h.2
  have hcone := cells_one_H hcz hc0 hcs fun j hj => (hrep j hj).one
  have hcl := cnt_le (f := f)
  have hcp := cnt_pos (f := f) hi he'
  have hw1 : IntKind.u64.wrap ((Nd.cnt f : Int) - 1) = ((Nd.cnt f - 1 : Nat) : Int) := by rw [IntKind.wrap_u64]; omega
  refine Jn.intro (fun w4 => w4 = w3 ∧ ¬ (t'.isEmp = true ∧ Nd.cnt f ≤ 16)) ⟨fun ht => ?_, fun ht => ⟨rfl, fun h => by rw [ht] at h; cases h.1⟩, ?_⟩
  · have hcast : ((Nd.cnt f : Int) ≤ 16) ↔ Nd.cnt f ≤ 16 := by omega
    simp [-getElem?_pos, -Array.getElem?_eq_getElem, -Int.natCast_add, add_spot, and_assoc, Br_dec, -op_box, -op_st_4, -op_st_22, -op_st_226, -op_st_243, -op_st_296, -op_st_242, -op_st_187, -op_st_2, -op_st_307, -op_alloc_245, -op_alloc_242, -op_alloc_307, -op_lit_243_1, -op_lit_243_2, -op_lit_296_1, -op_lit_296_2, hb3, hc0, hcast, ht, hw1]
    intro h16
    have ht' := isEmp_iff.1 ht
    subst ht'
    have hnv := r3.nil
    subst hnv
    have hres : (if (Nd.emp : Tr).isEmp then Nd.br (decide (16 < Nd.cnt f)) (Nd.put f i .emp) else .br true (Nd.put f i .emp)) = .br false (Nd.put f i .emp) := by
      rw [decide_eq_false (by omega)]; rfl
    rw [hres] at hK
    refine op_make0 (n := Nd.cnt f - 1) apN (by omega) fun w4 k4 z4 q4 => ?_
    simp [-getElem?_pos, -Array.getElem?_eq_getElem, -Int.natCast_add, add_spot, and_assoc, Br_dec, -op_box, -op_st_4, -op_st_22, -op_st_226, -op_st_243, -op_st_296, -op_st_242, -op_st_187, -op_st_2, -op_st_307, -op_alloc_245, -op_alloc_242, -op_alloc_307, -op_lit_243_1, -op_lit_243_2, -op_lit_296_1, -op_lit_296_2]
    refine op_box_ok fun w5 k5 z5 b5 => ?_
    simp only [cells_agg] at b5
    have hb5 := k5.get (k4.get hb3 (fun h => h)) (fun h => h)
    have q5 := q4.frame k5 (fun h => h)
    have hcx : ∀ j, j < 32 → (cs.extract 1 33)[j]? = some (vs j) := fun j hj => by
      rw [Array.getElem?_extract, if_pos (by omega), Nat.add_comm 1, hcs j hj]
    have h33 : 33 ≤ cs.size := by omega
    obtain ⟨G, hG⟩ : ∃ G : Nat → Tr, G = Nd.put f i .emp := ⟨_, rfl⟩
    have hGi : full G i = false := by rw [hG, full_put, if_pos rfl]; rfl
    have hGj : ∀ j, j ≠ i → full G j = full f j := fun j hj => by rw [hG, full_put, if_neg hj]
    have hone : ∀ j, j < 32 → (vs j).oneCell' = true := fun j hj => (hrep j hj).one
    simp [-getElem?_pos, -Array.getElem?_eq_getElem, -Int.natCast_add, add_spot, and_assoc, Br_dec, -op_box, -op_st_4, -op_st_22, -op_st_226, -op_st_243, -op_st_296, -op_st_242, -op_st_187, -op_st_2, -op_st_307, -op_alloc_245, -op_alloc_242, -op_alloc_307, -op_lit_243_1, -op_lit_243_2, -op_lit_296_1, -op_lit_296_2, hb5, h33]
    obtain ⟨I, hI⟩ : ∃ I : Value → World → Prop, ∀ sv wl, I sv wl ↔ ∃ j gg cap : Nat, sv = Value.int .i64 j ∧ j ≤ 32 ∧ Frm (fun _ => False) w3 wl ∧ w3.heap.size ≤ gg ∧ gg ≠ w4.heap.size ∧ wl.heap[w4.heap.size]? = some (.cells #[.int .u32 (bmN G j), .slice (some ⟨gg, 0, none⟩) (rk G j) cap] 298 (0, 0)) ∧ rk G j ≤ cap ∧ Rw wl 226 1 gg cap (pre G vs j) := ⟨_, fun _ _ => Iff.rfl⟩
    refine Lp.intro I (fun sv _ => 32 - natOf sv) ⟨(hI _ _).2 ⟨0, w3.heap.size, Nd.cnt f - 1, rfl, by omega, k4.no k5, by omega, by omega, by simpa [bmN, rk] using b5, by simp [rk], q5⟩, ?_⟩
    intro wl sv hsv
    obtain ⟨j, gg, cap, rfl, hj, kl, hgg1, hgg2, bl, hcap, ql⟩ := (hI _ _).1 hsv
    have hjlt : ((j : Int) < 32) ↔ j < 32 := by omega
    have nl := kl.size
    have hnl := lt_of_get bl
    have hgl := ql.lt
    simp [-getElem?_pos, -Array.getElem?_eq_getElem, -Int.natCast_add, add_spot, and_assoc, Br_dec, -op_box, -op_st_4, -op_st_22, -op_st_226, -op_st_243, -op_st_296, -op_st_242, -op_st_187, -op_st_2, -op_st_307, -op_alloc_245, -op_alloc_242, -op_alloc_307, -op_lit_243_1, -op_lit_243_2, -op_lit_296_1, -op_lit_296_2, hjlt]
    refine ⟨fun hj32 => ?_, fun hj32 => ?_⟩
    · refine op_index_arr (len := 32) (el := 226) (by kernel_rfl) (by kernel_rfl) hj32 (hcx j hj32) ?_
      have hnx : IntKind.i64.wrap ((j : Int) + 1) = ((j + 1 : Nat) : Int) := by rw [IntKind.wrap_i64]; omega
      have hcv : IntKind.u32.wrap (j : Int) = (j : Int) := by rw [IntKind.wrap_u32]; omega
      have hcv2 : IntKind.u64.wrap (j : Int) = (j : Int) := by rw [IntKind.wrap_u64]; omega
      have hji : ((j : Int) = (i : Int)) ↔ j = i := by omega
      rw [ne_nil (hrep j hj32)]
      have skip : full G j = false → I (Value.int .i64 ((j + 1 : Nat) : Int)) wl ∧ 32 - natOf (Value.int .i64 ((j + 1 : Nat) : Int)) < 32 - natOf (Value.int .i64 (j : Int)) := fun hf =>
        ⟨(hI _ _).2 ⟨j + 1, gg, cap, rfl, by omega, kl, hgg1, hgg2, by rw [bmN_skip hf, rk_succ, hf]; exact bl, by rw [rk_succ, hf]; exact hcap, by rw [pre_succ, hf]; simpa using ql⟩, by simp only [natOf]; omega⟩
      simp [-getElem?_pos, -Array.getElem?_eq_getElem, -Int.natCast_add, add_spot, and_assoc, Br_dec, -op_box, -op_st_4, -op_st_22, -op_st_226, -op_st_243, -op_st_296, -op_st_242, -op_st_187, -op_st_2, -op_st_307, -op_alloc_245, -op_alloc_242, -op_alloc_307, -op_lit_243_1, -op_lit_243_2, -op_lit_296_1, -op_lit_296_2, hnx, hcv, hcv2, hji]
      refine ⟨fun hf => ⟨fun hji' => ?_, fun hji' => skip (by rw [hji']; exact hGi)⟩, fun hf => ?_⟩
      · have hfull : full G j = true := by rw [hGj j hji', full, hf]; rfl
        have hbitj := bit_eq hj32
        have horj := or_u32 (Nat.lt_of_lt_of_le (bmN_lt (f := G) j) (Nat.pow_le_pow_right (by decide) hj)) (two_pow_lt hj32)
        rw [bmN_or hfull] at horj
        generalize (2 : Nat) ^ j = yj at *
        have hrj := rk_le (f := G) j
        simp [-getElem?_pos, -Array.getElem?_eq_getElem, -Int.natCast_add, add_spot, and_assoc, Br_dec, -op_box, -op_st_4, -op_st_22, -op_st_226, -op_st_243, -op_st_296, -op_st_242, -op_st_187, -op_st_2, -op_st_307, -op_alloc_245, -op_alloc_242, -op_alloc_307, -op_lit_243_1, -op_lit_243_2, -op_lit_296_1, -op_lit_296_2, bl, hbitj, horj]
        refine op_store_ok (by kernel_rfl) bl (by simp) rfl fun wa ka za ba => ?_
        have qa := ql.frame ka hgg2
        simp [-getElem?_pos, -Array.getElem?_eq_getElem, -Int.natCast_add, add_spot, and_assoc, Br_dec, -op_box, -op_st_4, -op_st_22, -op_st_226, -op_st_243, -op_st_296, -op_st_242, -op_st_187, -op_st_2, -op_st_307, -op_alloc_245, -op_alloc_242, -op_alloc_307, -op_lit_243_1, -op_lit_243_2, -op_lit_296_1, -op_lit_296_2, ba]
        refine op_lit_ok (lit_296_1 (hone j hj32)) fun wb kb zb bb => ?_
        have hq : Rw wb 226 1 wa.heap.size 1 [vs j] := Rw.lit (n := 1) rfl (by decide) bb
        refine op_appendR apN (qa.frame kb fun h => h) (n := rk G j) (by rw [pre_len]; omega) hcap hq (m := 1) rfl (fun u hu => by simp at hu; subst hu; exact hone j hj32) (by omega) (by omega) fun wc g' cap' kc qc hcc hgg => ?_
        have bc := kc.get (kb.get ba (fun h => h)) (fun e => hgg2 e.symm)
        have hg'n : g' ≠ w4.heap.size := by
          rcases hgg with rfl | rfl
          · exact hgg2
          · have := kb.size; omega
        refine op_store_ok (by kernel_rfl) bc (by simp) rfl fun wd kd zd bd => ?_
        have qd := qc.frame kd hg'n
        have nb := kb.size
        refine ⟨(hI _ _).2 ⟨j + 1, g', cap', rfl, by omega, kl.old (ka.tr (kb.fst (kc.tr kd))) (fun c hc => .inr (by omega)), by rcases hgg with h | h <;> omega, hg'n, ?_, by rw [rk_succ, hfull]; exact hcc, by rw [pre_succ, hfull]; exact qd⟩, by simp only [natOf]; omega⟩
        rw [rk_succ, hfull]; simpa using bd
      · refine skip ?_
        by_cases e' : j = i
        · rw [e']; exact hGi
        · rw [hGj j e', full, hf]; rfl
    · obtain rfl : j = 32 := by omega
      have hkin : Kin wl G (putV vs i .nilIface) (fun j => if j = i then (fun _ => False) else Fs j) (fun c => c = w4.heap.size ∨ c = gg) := by
        have hlo : ∀ q, q < 32 → ∀ c, Fs q c → ¬ (c = w4.heap.size ∨ c = gg) := fun q hq c hc h => by have := (hFl q hq c hc).2; omega
        refine ⟨fun q hq => ?_, fun q hq c hc => ?_⟩
        · by_cases e' : q = i
          · subst e'; rw [hG, Nd.put_same]; simp [putV]; rfl
          · rw [hG, Nd.put_ne e']; simp only [putV, if_neg e']; exact (hrep3 q hq e').still kl
        · by_cases e' : q = i
          · simp only [if_pos e'] at hc
          · simp only [if_neg e'] at hc
            refine ⟨hlo q hq c hc, fun q' hq' hne' h' => ?_⟩
            by_cases e2 : q' = i
            · simp only [if_pos e2] at h'
            · simp only [if_neg e2] at h'; exact (hdis q hq c hc).2 q' hq' hne' h'
      subst hG
      have hks := kids_skip (f := f) (vs := vs) (i := i) (v := Value.nilIface)
      refine hK _ wl _ ((k3.to (M' := fun c => c = rb ∨ mu = true ∧ F c) fun c hc => hc.imp id fun h => ⟨h.1, (hFl i hi c h.2).1⟩).old kl fun c hc => hc.elim) (Rep.mkB (f := Nd.put f i .emp) (b := w4.heap.size) (g := gg) (cap := cap) hgg2 bl hcap (by rw [hks]; exact ql) hkin) (fun c hc => ?_) (f3.frame kl fun h => h)
      rcases hc with rfl | rfl | ⟨q, hq, hc⟩
      · exact .inr (by omega)
      · exact .inr (by omega)
      · by_cases e' : q = i
        · simp only [if_pos e'] at hc
        · simp only [if_neg e'] at hc; exact .inl (hFl q hq c hc).1
  rintro w4 ⟨rfl, h16⟩
  have hres : (if t'.isEmp then Nd.br (decide (16 < Nd.cnt f)) (Nd.put f i .emp) else .br true (Nd.put f i t')) = .br true (Nd.put f i t') := by
    cases ht : t'.isEmp with
    | false => rfl
    | true =>
      have := isEmp_iff.1 ht
      subst this
      rw [decide_eq_true (Nat.lt_of_not_le fun h => h16 ⟨ht, h⟩)]; rfl
  rw [hres] at hK
  have fin0 : ∀ {nb : Nat} {w5 : World}, Frm (fun _ => False) w4 w5 → w5.heap[nb]? = some (.cells cs 307 (0, 0)) → (nb = b ∧ mu = true ∨ nb = w4.heap.size) →
      (nice Try.prog).op (.store 226 (.pointer (some ⟨nb, 1 + i, none⟩)) nv) w5 (fun _ w => (t'.isEmp = true → ∃ cs', (∃ x a b, w.heap[nb]? = some (.cells cs' x (a, b))) ∧ ∃ v, cs'[0]? = some v ∧ (nice Try.prog).op (.bin .sub 187 false true v (.int .u64 1)) w (fun v124 w => (nice Try.prog).op (.store 187 (.pointer (some ⟨nb, 0, none⟩)) v124) w (fun _ w => K (.iface 308 (ptr nb)) w) Kp) Kp) ∧ (t'.isEmp = false → K (.iface 308 (ptr nb)) w)) Kp := fun {nb w5} k5 b5 hnb => by
    have f5 := f3.frame k5 (fun h => h)
    have hnr : nb ≠ rb := by
      rcases hnb with h | h
      · rw [h.1]; exact hne
      · have := lt_of_get f3; omega
    have fin : ∀ {w6 : World} {cs' : Array Value}, Frm (· = nb) w5 w6 → w6.heap[nb]? = some (.cells cs' 307 (0, 0)) → cs'.size = 33 → cs'[0]? = some (.int .u64 (Nd.cnt (Nd.put f i t'))) → (∀ q, q < 32 → cs'[q + 1]? = some (putV vs i nv q)) → K (.iface 308 (ptr nb)) w6 := fun {w6 cs'} k6 b6 hz5 h05 hv5 => by
      have kall := k5.fst k6
      have hnF : ∀ j, j < 32 → ∀ c, Fs j c → c ≠ nb := fun j hj c hc => by
        rcases hnb with h | h
        · rw [h.1]; exact (hdis j hj c hc).1
        · have := (hFl j hj c hc).2; omega
      have hnF1 : ∀ c, F1 c → c ≠ nb := fun c hc => by
        rcases hnb with h | h
        · rw [h.1]
          rcases (hF1 c hc).1 with h' | h'
          · exact (hdis i hi c h').1
          · omega
        · have := (hF1 c hc).2; omega
      have hF1d : ∀ c, F1 c → ∀ j, j < 32 → j ≠ i → ¬ Fs j c := fun c hc j hj hji hjc => by
        rcases (hF1 c hc).1 with h | h
        · exact (hdis i hi c h).2 j hj hji hjc
        · have := (hFl j hj c hjc).2; omega
      have hkin : Kin w6 (Nd.put f i t') (putV vs i nv) (fun j => if j = i then F1 else Fs j) (fun c => c = nb) := by
        refine ⟨fun j hj => ?_, fun j hj c hc => ?_⟩
        · by_cases e : j = i
          · subst e; rw [Nd.put_same]; simpa [putV] using r3.frame kall fun c hc h => hnF1 c hc h
          · rw [Nd.put_ne e]; simp only [putV, if_neg e]; exact (hrep3 j hj e).frame kall fun c hc h => hnF j hj c hc h
        · by_cases e : j = i
          · simp only [if_pos e] at hc
            refine ⟨hnF1 c hc, fun q hq hne hqc => ?_⟩
            simp only [if_neg (show ¬ q = i by omega)] at hqc
            exact hF1d c hc q hq (by omega) hqc
          · simp only [if_neg e] at hc
            refine ⟨hnF j hj c hc, fun q hq hne hqc => ?_⟩
            by_cases e' : q = i
            · simp only [if_pos e'] at hqc; exact hF1d c hqc j hj e hc
            · simp only [if_neg e'] at hqc; exact (hdis j hj c hc).2 q hq hne hqc
      refine hK _ w6 _ ((k3.to (M' := fun c => c = rb ∨ mu = true ∧ F c) fun c hc => hc.imp id fun h => ⟨h.1, (hFl i hi c h.2).1⟩).old kall fun c hc => ?_) (Rep.mkH (f := Nd.put f i t') b6 hz5 h05 hv5 hkin) (fun c hc => ?_) (f5.frame k6 (fun e => hnr e.symm))
      · rcases hnb with h | h
        · exact .inl (.inr ⟨h.2, by rw [hc, h.1]; exact h2⟩)
        · exact .inr (by omega)
      · rcases hc with rfl | ⟨j, hj, hc⟩
        · rcases hnb with h | h
          · exact .inl (by rw [h.1]; exact h2)
          · exact .inr (by omega)
        · by_cases e : j = i
          · simp only [if_pos e] at hc
            exact (hF1 c hc).1.imp (fun h => (hFl i hi c h).1) id
          · simp only [if_neg e] at hc
            exact .inl (hFl j hj c hc).1
    refine op_store_ok (by kernel_rfl) b5 (by omega) r3.one fun w6 k6 z6 b6 => ⟨fun ht => ?_, fun ht => ?_⟩
    · have ht' := isEmp_iff.1 ht
      subst ht'
      have hc6 : (cs.setIfInBounds (1 + i) nv)[0]? = some (.int .u64 (Nd.cnt f)) := by rw [Array.getElem?_setIfInBounds, if_neg (by omega), hc0]
      have hcn := cnt_del (f := f) hi he'
      simp [-getElem?_pos, -Array.getElem?_eq_getElem, -Int.natCast_add, add_spot, and_assoc, Br_dec, -op_box, -op_st_4, -op_st_22, -op_st_226, -op_st_243, -op_st_296, -op_st_242, -op_st_187, -op_st_2, -op_st_307, -op_alloc_245, -op_alloc_242, -op_alloc_307, -op_lit_243_1, -op_lit_243_2, -op_lit_296_1, -op_lit_296_2, b6, hc6, hw1]
      refine op_store_ok (by kernel_rfl) b6 (by simp; omega) rfl fun w7 k7 z7 b7 => ?_
      refine fin ((k6.tr k7).to fun c hc => hc.elim id id) b7 (by simp [hcz]) ?_ fun q hq => ?_
      · rw [Array.getElem?_setIfInBounds, if_pos rfl, if_pos (by simp; omega), show Nd.cnt (Nd.put f i .emp) = Nd.cnt f - 1 from by omega]
      · rw [Array.getElem?_setIfInBounds, if_neg (by omega), Array.getElem?_setIfInBounds]
        by_cases eq : q = i
        · subst eq; rw [if_pos (by omega), if_pos (by omega)]; simp [putV]
        · rw [if_neg (by omega), hcs q hq]; simp [putV, eq]
    · have ht' : t' ≠ .emp := fun e => by rw [e] at ht; cases ht
      refine fin k6 b6 (by simp [hcz]) ?_ fun q hq => ?_
      · rw [Array.getElem?_setIfInBounds, if_neg (by omega), hc0, cnt_same he' ht']
      · rw [Array.getElem?_setIfInBounds]
        by_cases eq : q = i
        · subst eq; rw [if_pos (by omega), if_pos (by omega)]; simp [putV]
        · rw [if_neg (by omega), hcs q hq]; simp [putV, eq]
  refine ⟨fun hm => ?_, fun hm => ?_⟩
  · refine clone_ok hb3 hcz hcone fun w5 k5 b5 => ?_
    simp [-getElem?_pos, -Array.getElem?_eq_getElem, -Int.natCast_add, add_spot, and_assoc, Br_dec, -op_box, -op_st_4, -op_st_22, -op_st_226, -op_st_243, -op_st_296, -op_st_242, -op_st_187, -op_st_2, -op_st_307, -op_alloc_245, -op_alloc_242, -op_alloc_307, -op_lit_243_1, -op_lit_243_2, -op_lit_296_1, -op_lit_296_2, ptr, hi', heq]
    exact fin0 k5 b5 (.inr rfl)
  · rw [Nat.add_comm i 1]; exact fin0 Frm.refl hb3 (.inl ⟨rfl, hm⟩)
end Go.Proofs.Ytbghmbbhkoniiaa.S
end
section
/- Deleting a key at any node, and behind a root. -/
set_option maxRecDepth 100000
set_option linter.unusedSimpArgs false
set_option linter.unusedVariables false
set_option linter.unusedSectionVars false
namespace Go.Proofs.Ytbghmbbhkoniiaa.S
open Go.Vc Go.Proofs Go.Proofs.Ytbghmbbhkoniiaa Go.Vc.Nd
variable {w w' : World} {v hv : Value} {t : Tr} {F F' : Nat → Prop} {K : Value → World → Prop} {Kp : KP} {hash : Ky → Nat} {k : Ky} {x : Vl} {l s rb : Nat} {r0 mu : Bool}

theorem del_ok : ∀ {t : Tr} {l p s : Nat}, IsH hv hash → WF hash t l p → l ≤ 7 → s = 5 * l → t ≠ .emp → (toL t).length ≤ 1000000 →
    DelC hv hash k mu rb s t (delIn (hash k) k t l) (getIn (hash k) k t l).isSome
  | .emp, l, p, s, hH, hW, hl, hs, hne, hL => absurd rfl hne
  | .arr es, l, p, s, hH, hW, hl, hs, hne, hL => hW.elim
  | .val h' k' x', l, p, s, hH, hW, hl, hs, hne, hL => by
    have e : (getIn (hash k) k (Nd.val h' k' x') l).isSome = decide (k' = k) := by
      rw [getIn]; by_cases hk : k' = k <;> simp [hk]
    rw [e, delIn]
    exact delV_ok hH
  | .col h' es, l, p, s, hH, hW, hl, hs, hne, hL => by
    have e : (getIn (hash k) k (Nd.col h' es) l).isSome = (find es k).isSome := by
      rw [getIn, look_find]
      cases hx : find es k with
      | none => rfl
      | some i =>
        obtain ⟨hi, hik, _⟩ := find_some hx
        simp [hi]
    rw [e]
    exact delC_ok (p := p) hH hL hW.1
  | .br hs' f, l, p, s, hH, hW, hl, hs, hne, hL => by
    obtain ⟨hl6, hWs, hup, _⟩ := hW
    have hi := frag_lt l (hash k)
    have child : f (frag l (hash k)) ≠ .emp → DelC hv hash k mu rb (s + 5) (f (frag l (hash k))) (delIn (hash k) k (f (frag l (hash k))) (l + 1)) (getIn (hash k) k (f (frag l (hash k))) (l + 1)).isSome :=
      fun e => del_ok hH (hWs _ hi) (by omega) (by omega) e (Nat.le_trans (len_child (hs := hs') hi) hL)
    have he : f (frag l (hash k)) = .emp → (getIn (hash k) k (f (frag l (hash k))) (l + 1)).isSome = false := fun e => by rw [e]; rfl
    have hne' : ∀ d : Bool, (getIn (hash k) k (f (frag l (hash k))) (l + 1)).isSome = true → (f (frag l (hash k))).isEmp = false := fun _ h => by
      cases h' : (f (frag l (hash k))).isEmp with
      | false => rfl
      | true => rw [he (isEmp_iff.1 h')] at h; cases h
    rw [getIn]
    cases hs' with
    | false =>
      refine delB_ok (p := p) hH hl6 hs rfl _ he (fun hd => ?_) child
      rw [delIn]
      simp only [hne' true hd, Bool.not_false, Bool.and_true, Bool.true_and, Bool.false_and, decide_eq_true_eq]
    | true =>
      refine delH_ok (p := p) hH hl6 hs rfl _ he (fun hd => ?_) child
      rw [delIn]
      simp only [hne' true hd, Bool.not_false, Bool.and_true, Bool.not_true, Bool.true_and, Bool.false_and, Bool.false_eq_true, if_false]
theorem root_del_ok (hH : IsH hv hash) (hW : WFr hash t) (hne : t ≠ .emp) (hL : (toL t).length ≤ 1000000) (h : Rep w t v F) (hr : flag w rb false) (hrb : ¬ F rb) (hK : Dels w mu F rb v (getIn (hash k) k t 0).isSome (Nd.del hash t k) K) :
    (nice Try.prog).call (.inv v "pub-bracken/pub/immutable.delete") [ek k, .int .u64 0, .int .u32 (hash k), hv, .bool mu, ptr rb] w K Kp := by
  cases t with
  | emp => exact absurd rfl hne
  | arr es =>
    refine delA_ok hH hL (List.length_pos_iff.2 hW.1) h hr hrb ?_
    have e : (getIn (hash k) k (Nd.arr es) 0).isSome = (find es k).isSome := by
      rw [getIn, look_find]
      cases hx : find es k with
      | none => rfl
      | some i =>
        obtain ⟨hi, hik, _⟩ := find_some hx
        simp [hi]
    rw [e] at hK; exact hK
  | br hs f => exact del_ok (s := 0) (p := 0) hH hW (by decide) rfl hne hL h hr hrb hK
  | val h' k' x' => exact del_ok (s := 0) (p := 0) hH hW (by decide) rfl hne hL h hr hrb hK
  | col h' es => exact del_ok (s := 0) (p := 0) hH hW (by decide) rfl hne hL h hr hrb hK
end Go.Proofs.Ytbghmbbhkoniiaa.S
end
section
/- Maps: Set, Delete, Get, Len. -/
set_option maxRecDepth 100000
set_option maxHeartbeats 1000000
set_option linter.unusedSimpArgs false
set_option linter.unusedVariables false
set_option linter.unusedSectionVars false
namespace Go.Proofs.Ytbghmbbhkoniiaa.S
open Go.Vc Go.Proofs Go.Proofs.Ytbghmbbhkoniiaa Go.Vc.Nd
variable {w w' : World} {v hv : Value} {t : Tr} {F F' : Nat → Prop} {K : Value → World → Prop} {Kp : KP} {hash : Ky → Nat} {k : Ky} {x : Vl} {l s rb : Nat} {r0 mu : Bool}

def IsMap (w : World) (b : Nat) (h : Value) (t : Tr) (F : Nat → Prop) : Prop :=
  ∃ r, ∃ F0 : Nat → Prop, w.heap[b]? = some (.cells #[.int .i64 (toL t).length, r, h] 228 (0, 0)) ∧ F b ∧ Rep w t r F0 ∧ ∀ c, F0 c → F c ∧ c ≠ b
theorem IsMap.keep {h : Value} {b : Nat} (hm : IsMap w b h t F) (hw : ∀ c o, F c → w.heap[c]? = some o → w'.heap[c]? = some o) : IsMap w' b h t F := by
  obtain ⟨r, F0, h1, h2, h3, h4⟩ := hm
  exact ⟨r, F0, hw _ _ h2 h1, h2, h3.mono (fun _ h => h) (fun c o hc => hw c o (h4 c hc).1), h4⟩
theorem IsMap.lt {h : Value} {b : Nat} (hm : IsMap w b h t F) : IsMap w b h t (fun c => F c ∧ c < w.heap.size) := by
  obtain ⟨r, F0, h1, h2, h3, h4⟩ := hm
  exact ⟨r, fun c => F0 c ∧ c < w.heap.size, h1, ⟨h2, lt_of_get h1⟩, h3.lt, fun c hc => ⟨⟨(h4 c hc.1).1, hc.2⟩, (h4 c hc.1).2⟩⟩
theorem IsMap.mem {h : Value} {b : Nat} (hm : IsMap w b h t F) : F b := by obtain ⟨r, F0, h1, h2, _⟩ := hm; exact h2

theorem get_map_ok {b : Nat} (hH : IsH hv hash) (hW : WFr hash t) (hm : IsMap w b hv t F) (hK : ∀ w', Frm (fun _ => False) w w' → K (gotV (getIn (hash k) k t 0)) w') : Calls Try.prog 80 #[ptr b, ek k] w (ret K Kp) := by
  obtain ⟨r, F0, h1, h2, h3, h4⟩ := hm
  refine vc80_calls ?_
  simp only [vc80]
  refine op_alloc_ok (z := .agg #[]) (by kernel_rfl) fun w0 k0 z0 b0 => ?_
  refine op_alloc_ok (z := .agg #[]) (by kernel_rfl) fun w00 k00 z00 b00 => ?_
  replace h1 := (k0.no k00).get h1 (fun h => h)
  replace h3 := h3.still (k0.no k00)
  replace hK := fun w' (hf : Frm (fun _ => False) w00 w') => hK w' ((k0.no k00).no hf)
  have heq := fun {wz : World} {K : Value → World → Prop} {Kp : KP} => eq_nil h3 (wz := wz) (K := K) (Kp := Kp)
  simp [-getElem?_pos, -Array.getElem?_eq_getElem, -Int.natCast_add, add_spot, and_assoc, Br_dec, -op_box, -op_st_4, -op_st_3, -op_st_226, -op_st_243, -op_st_296, -op_st_242, -op_alloc_4, -op_alloc_228, -op_lit_243_1, vc80, ptr, h1, heq]
  refine ⟨fun e => ?_, fun e => ?_⟩
  · have := isEmp_iff.1 e
    subst this
    exact hK _ Frm.refl
  · have hne : t ≠ .emp := fun h => by rw [h] at e; cases e
    obtain ⟨u, c, rfl⟩ := h3.iface hne
    refine hH.hsh fun w1 k1 => ?_
    have h1' := k1.get h1 (fun h => h)
    simp [-getElem?_pos, -Array.getElem?_eq_getElem, -Int.natCast_add, add_spot, and_assoc, Br_dec, -op_box, -op_st_4, -op_st_3, -op_st_226, -op_st_243, -op_st_296, -op_st_242, -op_alloc_4, -op_alloc_228, -op_lit_243_1, h1']
    refine root_get_ok hH hW ((h3.still k1).still (Frm.drew _)) hne fun w2 k2 => ?_
    have := hK w2 (k1.no (Frm.dr k2))
    cases hx : getIn (hash k) k t 0 with
    | none => rw [hx] at this; simpa [gotV, zv, ev] using this
    | some x => rw [hx] at this; simpa [gotV, zv, ev] using this
end Go.Proofs.Ytbghmbbhkoniiaa.S
end
section
/- Maps: set in both modes. -/
set_option maxRecDepth 100000
set_option maxHeartbeats 1000000
set_option linter.unusedSimpArgs false
set_option linter.unusedVariables false
set_option linter.unusedSectionVars false
namespace Go.Proofs.Ytbghmbbhkoniiaa.S
open Go.Vc Go.Proofs Go.Proofs.Ytbghmbbhkoniiaa Go.Vc.Nd
variable {w w' : World} {v hv : Value} {t : Tr} {F F' : Nat → Prop} {K : Value → World → Prop} {Kp : KP} {hash : Ky → Nat} {k : Ky} {x : Vl} {l s rb : Nat} {r0 mu : Bool}

theorem clone_map_ok {b : Nat} {n r h : Value} (hb : w.heap[b]? = some (.cells #[n, r, h] 228 (0, 0))) (h1 : n.oneCell' = true) (h2 : r.oneCell' = true) (h3 : h.oneCell' = true)
    (hK : ∀ w', Frm (fun _ => False) w w' → w'.heap.size = w.heap.size + 1 → w'.heap[w.heap.size]? = some (.cells #[n, r, h] 228 (0, 0)) → K (ptr w.heap.size) w') : Calls Try.prog 93 #[ptr b] w (ret K Kp) := by
  refine vc93_calls ?_
  have hx : (#[n, r, h] : Array Value).extract 0 3 = #[n, r, h] := rfl
  simp [-getElem?_pos, -Array.getElem?_eq_getElem, -Int.natCast_add, add_spot, and_assoc, Br_dec, -op_box, -op_st_4, -op_st_3, -op_st_226, -op_st_243, -op_st_296, -op_st_242, -op_st_228, -op_st_99, -op_alloc_4, -op_alloc_228, -op_lit_243_1, vc93, ptr, hb, hx]
  refine op_alloc_ok (z := .agg #[.int .i64 0, .nilIface, .nilIface]) (by kernel_rfl) fun w1 k1 z1 b1 => ?_
  simp only [cells_agg] at b1
  rw [op_stn (n := 3) (by kernel_rfl)]
  refine ⟨rfl, fun u hu => ?_, _, _, b1, rfl, by show 0 + 3 ≤ 3; decide, ?_⟩
  · simp at hu
    rcases hu with rfl | rfl | rfl <;> assumption
  refine hK _ (k1.old (Frm.upd (M := (· = w.heap.size)) _ _ fun _ => rfl) fun c hc => .inr (by omega)) (by simpa using z1) ?_
  exact heap_upd_same (o := .cells #[n, r, h] 228 (0, 0)) b1

theorem set_size (hH : IsH hv hash) (hW : WFr hash t) : (toL (Nd.set hash t k x)).length = (toL t).length + if (getIn (hash k) k t 0).isNone then 1 else 0 := by
  rw [set_len hH.lt hW]
  cases hx : getIn (hash k) k t 0 with
  | none =>
    rw [if_neg]; rfl
    intro hk
    obtain ⟨y, hy⟩ := mem_keys.1 hk
    rw [(get_spec hW).2 hy] at hx; cases hx
  | some y =>
    rw [if_pos (mem_keys.2 ⟨y, (get_spec hW).1 hx⟩)]; rfl
theorem set_map_ok {b : Nat} (hH : IsH hv hash) (hW : WFr hash t) (hL : (toL t).length ≤ 1000000) (hm : IsMap w b hv t F)
    (hK : ∀ b' w' F', Frm (fun c => mu = true ∧ F c) w w' → IsMap w' b' hv (Nd.set hash t k x) F' → (∀ c, F' c → F c ∨ w.heap.size ≤ c) → (mu = true → b' = b) → K (ptr b') w') : Calls Try.prog 90 #[ptr b, ek k, ev x, .bool mu] w (ret K Kp) := by
  obtain ⟨r, F0, h1, h2, h3, h4⟩ := hm.lt
  obtain ⟨u, p, rfl⟩ := hH.iface
  have heq := fun {wz : World} {K : Value → World → Prop} {Kp : KP} => eq_nil h3 (wz := wz) (K := K) (Kp := Kp)
  refine vc90_calls ?_
  simp only [vc90]
  refine op_box_ok fun w k0 z0 b0 => ?_
  replace h1 := k0.get h1 (fun h => h)
  replace h3 := h3.still k0
  replace h4 : ∀ c, F0 c → (F c ∧ c < w.heap.size) ∧ c ≠ b := fun c hc => ⟨⟨(h4 c hc).1.1, by have := (h4 c hc).1.2; omega⟩, (h4 c hc).2⟩
  replace hK := fun b' w' F' (kf : Frm (fun c => mu = true ∧ F c) w w') hm (hF : ∀ c, F' c → F c ∨ w.heap.size ≤ c) hb => hK b' w' F' (k0.fst kf) hm (fun c hc => (hF c hc).imp id fun h => by omega) hb
  simp [-getElem?_pos, -Array.getElem?_eq_getElem, -Int.natCast_add, add_spot, and_assoc, Br_dec, -op_box, -op_st_4, -op_st_3, -op_st_226, -op_st_243, -op_st_296, -op_st_242, -op_st_228, -op_st_99, -op_alloc_4, -op_alloc_228, -op_lit_243_1, vc90, ptr, h1, heq]
  refine Jn.intro (fun hv' w1 => hv' = .iface u p ∧ w1 = w) ⟨⟨rfl, rfl⟩, ?_⟩
  rintro w0 _ ⟨rfl, rfl⟩
  obtain ⟨J, hJ⟩ : ∃ J : Value → World → Prop, ∀ ov w1, J ov w1 ↔ ∃ nb, ov = ptr nb ∧ Frm (fun _ => False) w0 w1 ∧ w1.heap[nb]? = some (.cells #[.int .i64 (toL t).length, r, .iface u p] 228 (0, 0)) ∧ (nb = b ∧ mu = true ∨ nb = w0.heap.size) ∧ (mu = true → nb = b) := ⟨_, fun _ _ => Iff.rfl⟩
  refine Jn.intro J ⟨fun hm => ?_, fun hm => (hJ _ _).2 ⟨b, rfl, Frm.refl, h1, .inl ⟨rfl, hm⟩, fun _ => rfl⟩, ?_⟩
  · exact clone_map_ok h1 rfl h3.one rfl fun w1 k1 z1 b1 => (hJ _ _).2 ⟨_, rfl, k1, b1, .inr rfl, fun h => by rw [h] at hm; cases hm⟩
  intro w1 ov hov
  obtain ⟨nb, rfl, k1, b1, hnb, hnbm⟩ := (hJ _ _).1 hov
  clear hov hJ J
  have hb1 := k1.get h1 (fun h => h)
  simp [-getElem?_pos, -Array.getElem?_eq_getElem, -Int.natCast_add, add_spot, and_assoc, Br_dec, -op_box, -op_st_4, -op_st_3, -op_st_226, -op_st_243, -op_st_296, -op_st_242, -op_st_228, -op_st_99, -op_alloc_4, -op_alloc_228, -op_lit_243_1, ptr]
  refine op_store_ok (by kernel_rfl) b1 (by simp) rfl fun w2 k2 z2 b2 => ?_
  have b2 : w2.heap[nb]? = some (.cells #[.int .i64 (toL t).length, r, .iface u p] 228 (0, 0)) := by simpa using b2
  have hb2 : w2.heap[b]? = some (.cells #[.int .i64 (toL t).length, r, .iface u p] 228 (0, 0)) := by
    by_cases e : b = nb
    · rw [e]; exact b2
    · exact k2.get hb1 e
  have l1 := lt_of_get h1
  have n1 := k1.size
  have hnF : ∀ c, F0 c → c ≠ nb := fun c hc => by
    rcases hnb with h | h
    · rw [h.1]; exact (h4 c hc).2
    · have := (h4 c hc).1.2; omega
  have r2 : Rep w2 t r F0 := (h3.still k1).frame k2 hnF
  simp [-getElem?_pos, -Array.getElem?_eq_getElem, -Int.natCast_add, add_spot, and_assoc, Br_dec, -op_box, -op_st_4, -op_st_3, -op_st_226, -op_st_243, -op_st_296, -op_st_242, -op_st_228, -op_st_99, -op_alloc_4, -op_alloc_228, -op_lit_243_1, hb2, heq]
  refine ⟨fun e => ?_, fun e => ?_⟩
  · have := isEmp_iff.1 e
    subst this
    refine op_store_ok (by kernel_rfl) b2 (by simp) rfl fun w3 k3 z3 b3 => ?_
    refine op_lit_ok lit_243_1 fun w4 k4 z4 b4 => ?_
    simp [-getElem?_pos, -Array.getElem?_eq_getElem, -Int.natCast_add, add_spot, and_assoc, Br_dec, -op_box, -op_st_4, -op_st_3, -op_st_226, -op_st_243, -op_st_296, -op_st_242, -op_st_228, -op_st_99, -op_alloc_4, -op_alloc_228, -op_lit_243_1]
    refine op_box_ok fun w5 k5 z5 b5 => ?_
    simp only [cells_agg] at b5
    have bn5 := k5.get (k4.get b3 (fun h => h)) (fun h => h)
    refine op_store_ok (by kernel_rfl) bn5 (by simp) rfl fun w6 k6 z6 b6 => ?_
    have l2 := lt_of_get b2
    have hq : Rw w6 242 1 w3.heap.size 1 (ents [(k, x)]) := ((Rw.lit (w := w4) (n := 1) (by rw [ents_len]; rfl) (by decide) (by simpa [ents, ent] using b4)).frame k5 (fun h => h)).frame k6 (by omega)
    have b56 := k6.get b5 (by omega)
    have kall : Frm (fun c => mu = true ∧ F c) w0 w6 := (k1.to (M' := fun c => mu = true ∧ F c) fun _ h => h.elim).old (k2.tr (k3.tr (k4.fst (k5.fst k6)))) fun c hc => by
      have hcn : c = nb := by rcases hc with h | h | h <;> exact h
      rcases hnb with h | h
      · exact .inl ⟨h.2, by rw [hcn, h.1]; exact h2.1⟩
      · exact .inr (by omega)
    refine hK nb w6 (fun c => c = nb ∨ c = w4.heap.size ∨ c = w3.heap.size) kall ⟨_, fun c => c = w4.heap.size ∨ c = w3.heap.size, by rw [show ((toL (Nd.set hash Nd.emp k x)).length : Int) = 1 from rfl]; simpa [ptr] using b6, .inl rfl, ⟨w4.heap.size, w3.heap.size, 1, rfl, .inl rfl, .inr rfl, by omega, b56, by simp, hq⟩, fun c hc => ⟨.inr hc, by omega⟩⟩ (fun c hc => ?_) hnbm
    rcases hc with h | h | h
    · rcases hnb with h' | h'
      · exact .inl (by rw [h, h'.1]; exact h2.1)
      · exact .inr (by omega)
    · exact .inr (by omega)
    · exact .inr (by omega)
  · have hne : t ≠ .emp := fun h => by rw [h] at e; cases e
    obtain ⟨u', c', rfl⟩ := h3.iface hne
    have l2 := lt_of_get b2
    refine op_alloc_ok (z := .bool false) (by kernel_rfl) fun w3 k3 z3 b3 => ?_
    have f3 : flag w3 w2.heap.size false := b3
    have hb3 := k3.get hb2 (fun h => h)
    simp [-getElem?_pos, -Array.getElem?_eq_getElem, -Int.natCast_add, add_spot, and_assoc, Br_dec, -op_box, -op_st_4, -op_st_3, -op_st_226, -op_st_243, -op_st_296, -op_st_242, -op_st_228, -op_st_99, -op_alloc_4, -op_alloc_228, -op_lit_243_1, hb3]
    refine hH.hsh fun w4 k4 => ?_
    have k4 := Frm.dr k4
    have hb4 := k4.get hb3 (fun h => h)
    have bn4 := k4.get (k3.get b2 (fun h => h)) (fun h => h)
    simp [-getElem?_pos, -Array.getElem?_eq_getElem, -Int.natCast_add, add_spot, and_assoc, Br_dec, -op_box, -op_st_4, -op_st_3, -op_st_226, -op_st_243, -op_st_296, -op_st_242, -op_st_228, -op_st_99, -op_alloc_4, -op_alloc_228, -op_lit_243_1, hb4]
    have hlow : ∀ c, F0 c → c < w0.heap.size := fun c hc => (h4 c hc).1.2
    refine root_set_ok (x := x) hH hW hne hL ((r2.still k3).still k4) (f3.frame k4 (fun h => h)) (fun h => by have := hlow _ h; omega) fun v' w5 F' k5 r5 hF5 f5 => ?_
    have n4 := k4.size
    have n5 := k5.size
    have bn5 := k5.get bn4 (fun h => h.elim (fun h => by omega) fun h => hnF _ h.2 rfl)
    have hF5' : ∀ c, F' c → c ≠ nb := fun c hc => by
      rcases hF5 c hc with h | h
      · exact hnF c h
      · have := lt_of_get b2; have := k3.size; omega
    refine op_store_ok (by kernel_rfl) bn5 (by simp) r5.one fun w6 k6 z6 b6 => ?_
    have f6 := f5.frame k6 (fun e => by omega)
    have r6 := r5.frame k6 (fun c hc h => hF5' c hc h)
    have f6' := f6
    unfold flag at f6'
    simp only [Bool.false_or] at f6'
    simp [-getElem?_pos, -Array.getElem?_eq_getElem, -Int.natCast_add, add_spot, and_assoc, Br_dec, -op_box, -op_st_4, -op_st_3, -op_st_226, -op_st_243, -op_st_296, -op_st_242, -op_st_228, -op_st_99, -op_alloc_4, -op_alloc_228, -op_lit_243_1, f6']
    have hsz := set_size (k := k) (x := x) hH hW
    have fin : ∀ {w7 : World}, Frm (· = nb) w6 w7 → w7.heap[nb]? = some (.cells #[.int .i64 (toL (Nd.set hash t k x)).length, v', .iface u p] 228 (0, 0)) → K (ptr nb) w7 := fun {w7} k7 b7 => by
      have kall : Frm (fun c => mu = true ∧ F c) w0 w7 := (k1.to (M' := fun c => mu = true ∧ F c) fun _ h => h.elim).old (k2.tr (k3.fst (k4.fst (k5.tr (k6.tr k7))))) fun c hc => by
        rcases hc with h | (h | h) | h | h
        · rcases hnb with h' | h'
          · exact .inl ⟨h'.2, by rw [h, h'.1]; exact h2.1⟩
          · exact .inr (by omega)
        · exact .inr (by omega)
        · exact .inl ⟨h.1, (h4 c h.2).1.1⟩
        · rcases hnb with h' | h'
          · exact .inl ⟨h'.2, by rw [h, h'.1]; exact h2.1⟩
          · exact .inr (by omega)
        · rcases hnb with h' | h'
          · exact .inl ⟨h'.2, by rw [h, h'.1]; exact h2.1⟩
          · exact .inr (by omega)
      refine hK nb w7 (fun c => c = nb ∨ F' c) kall ⟨v', F', b7, .inl rfl, r6.frame k7 (fun c hc h => hF5' c hc h), fun c hc => ⟨.inr hc, hF5' c hc⟩⟩ (fun c hc => ?_) hnbm
      rcases hc with h | h
      · rcases hnb with h' | h'
        · exact .inl (by rw [h, h'.1]; exact h2.1)
        · exact .inr (by omega)
      · rcases hF5 c h with h' | h'
        · exact .inl (h4 c h').1.1
        · exact .inr (by omega)
    have hw1 : IntKind.i64.wrap (((toL t).length : Int) + 1) = (((toL t).length + 1 : Nat) : Int) := by rw [IntKind.wrap_i64]; omega
    refine ⟨fun hn => ?_, fun hn => ?_⟩
    · simp [-getElem?_pos, -Array.getElem?_eq_getElem, -Int.natCast_add, add_spot, and_assoc, Br_dec, -op_box, -op_st_4, -op_st_3, -op_st_226, -op_st_243, -op_st_296, -op_st_242, -op_st_228, -op_st_99, -op_alloc_4, -op_alloc_228, -op_lit_243_1, b6, hw1]
      refine op_store_ok (by kernel_rfl) b6 (by simp) rfl fun w7 k7 z7 b7 => fin k7 ?_
      rw [hsz, hn]; simpa using b7
    · refine fin Frm.refl ?_
      rw [hsz]
      cases hg : getIn (hash k) k t 0 with
      | none => rw [hg] at hn; simp at hn
      | some y => simpa using b6
end Go.Proofs.Ytbghmbbhkoniiaa.S
end
section
/- Maps: delete in both modes. -/
set_option maxRecDepth 100000
set_option maxHeartbeats 1000000
set_option linter.unusedSimpArgs false
set_option linter.unusedVariables false
set_option linter.unusedSectionVars false
namespace Go.Proofs.Ytbghmbbhkoniiaa.S
open Go.Vc Go.Proofs Go.Proofs.Ytbghmbbhkoniiaa Go.Vc.Nd
variable {w w' : World} {v hv : Value} {t : Tr} {F F' : Nat → Prop} {K : Value → World → Prop} {Kp : KP} {hash : Ky → Nat} {k : Ky} {x : Vl} {l s rb : Nat} {r0 mu : Bool}

theorem del_size (hW : WFr hash t) : (toL t).length = (toL (Nd.del hash t k)).length + if (getIn (hash k) k t 0).isSome then 1 else 0 := by
  rw [del_len (hash := hash) (k := k) hW]
  cases hx : getIn (hash k) k t 0 with
  | none =>
    rw [if_neg]; rfl
    intro hk
    obtain ⟨y, hy⟩ := mem_keys.1 hk
    rw [(get_spec hW).2 hy] at hx; cases hx
  | some y =>
    rw [if_pos (mem_keys.2 ⟨y, (get_spec hW).1 hx⟩)]; rfl

theorem del_map_ok {b : Nat} (hH : IsH hv hash) (hW : WFr hash t) (hL : (toL t).length ≤ 1000000) (hm : IsMap w b hv t F)
    (hK0 : (getIn (hash k) k t 0).isSome = false → ∀ w', Frm (fun _ => False) w w' → K (ptr b) w')
    (hK : (getIn (hash k) k t 0).isSome = true → ∀ b' w' F', Frm (fun c => mu = true ∧ F c) w w' → IsMap w' b' hv (Nd.del hash t k) F' → (∀ c, F' c → F c ∨ w.heap.size ≤ c) → K (ptr b') w') : Calls Try.prog 94 #[ptr b, ek k, .bool mu] w (ret K Kp) := by
  obtain ⟨r, F0, h1, h2, h3, h4⟩ := hm.lt
  obtain ⟨u, p, rfl⟩ := hH.iface
  have heq := fun {wz : World} {K : Value → World → Prop} {Kp : KP} => eq_nil h3 (wz := wz) (K := K) (Kp := Kp)
  refine vc94_calls ?_
  simp [-getElem?_pos, -Array.getElem?_eq_getElem, -Int.natCast_add, add_spot, and_assoc, Br_dec, -op_box, -op_st_4, -op_st_3, -op_st_226, -op_st_243, -op_st_296, -op_st_242, -op_st_228, -op_st_99, -op_alloc_4, -op_alloc_228, -op_lit_243_1, vc94, ptr, h1, heq]
  refine ⟨fun e => ?_, fun e => ?_⟩
  · have := isEmp_iff.1 e
    subst this
    exact hK0 rfl w Frm.refl
  have hne : t ≠ .emp := fun h => by rw [h] at e; cases e
  obtain ⟨u', c', rfl⟩ := h3.iface hne
  refine op_alloc_ok (z := .bool false) (by kernel_rfl) fun w3 k3 z3 b3 => ?_
  have f3 : flag w3 w.heap.size false := b3
  have hb3 := k3.get h1 (fun h => h)
  simp [-getElem?_pos, -Array.getElem?_eq_getElem, -Int.natCast_add, add_spot, and_assoc, Br_dec, -op_box, -op_st_4, -op_st_3, -op_st_226, -op_st_243, -op_st_296, -op_st_242, -op_st_228, -op_st_99, -op_alloc_4, -op_alloc_228, -op_lit_243_1, hb3]
  refine hH.hsh fun w4 k4 => ?_
  have k4 := Frm.dr k4
  have hb4 := k4.get hb3 (fun h => h)
  simp [-getElem?_pos, -Array.getElem?_eq_getElem, -Int.natCast_add, add_spot, and_assoc, Br_dec, -op_box, -op_st_4, -op_st_3, -op_st_226, -op_st_243, -op_st_296, -op_st_242, -op_st_228, -op_st_99, -op_alloc_4, -op_alloc_228, -op_lit_243_1, hb4]
  have hlow : ∀ c, F0 c → c < w.heap.size := fun c hc => (h4 c hc).1.2
  have n4 := k4.size
  refine root_del_ok hH hW hne hL ((h3.still k3).still k4) (f3.frame k4 (fun h => h)) (fun h => by have := hlow _ h; omega) ⟨fun hd w5 k5 => ?_, fun hd v' w5 F' k5 r5 hF5 f5 => ?_⟩
  · have f5 := (f3.frame k4 (fun h => h)).frame k5 (fun h => h)
    unfold flag at f5
    simp [-getElem?_pos, -Array.getElem?_eq_getElem, -Int.natCast_add, add_spot, and_assoc, Br_dec, -op_box, -op_st_4, -op_st_3, -op_st_226, -op_st_243, -op_st_296, -op_st_242, -op_st_228, -op_st_99, -op_alloc_4, -op_alloc_228, -op_lit_243_1, f5]
    exact hK0 hd w5 ((k3.no k4).no k5)
  · have f5' := f5
    unfold flag at f5'
    have n5 := k5.size
    have hbF : ¬ F0 b := fun h => (h4 b h).2 rfl
    have l1 := lt_of_get h1
    have hb5 := k5.get hb4 (fun h => h.elim (fun h => by omega) fun h => hbF h.2)
    simp [-getElem?_pos, -Array.getElem?_eq_getElem, -Int.natCast_add, add_spot, and_assoc, Br_dec, -op_box, -op_st_4, -op_st_3, -op_st_226, -op_st_243, -op_st_296, -op_st_242, -op_st_228, -op_st_99, -op_alloc_4, -op_alloc_228, -op_lit_243_1, f5']
    have hsz := del_size (k := k) hW
    rw [hd, if_pos rfl] at hsz
    have hw1 : IntKind.i64.wrap (((toL t).length : Int) - 1) = ((toL (Nd.del hash t k)).length : Int) := by rw [IntKind.wrap_i64]; omega
    have fin : ∀ {nb : Nat} {w6 : World}, Frm (fun _ => False) w5 w6 → w6.heap[nb]? = some (.cells #[.int .i64 (toL t).length, .iface u' (ptr c'), .iface u p] 228 (0, 0)) → (nb = b ∧ mu = true ∨ nb = w5.heap.size) →
        (nice Try.prog).op (.store 3 (.pointer (some ⟨nb, 0, none⟩)) (.int .i64 (toL (Nd.del hash t k)).length)) w6 (fun _ w => (nice Try.prog).op (.store 226 (.pointer (some ⟨nb, 1, none⟩)) v') w (fun _ w => K (ptr nb) w) Kp) Kp := fun {nb w6} k6 b6 hnb => by
      refine op_store_ok (by kernel_rfl) b6 (by simp) rfl fun w7 k7 z7 b7 => ?_
      refine op_store_ok (by kernel_rfl) b7 (by simp) r5.one fun w8 k8 z8 b8 => ?_
      have n6 := k6.size
      have r5' := r5.lt
      have hF5' : ∀ c, F' c ∧ c < w5.heap.size → c ≠ nb := fun c hc => by
        rcases hnb with h | h
        · rw [h.1]
          rcases hF5 c hc.1 with h' | h'
          · exact (h4 c h').2
          · omega
        · omega
      refine hK hd nb w8 (fun c => c = nb ∨ F' c) ((((k3.no k4).fst k5).tr (k6.fst (k7.tr k8)) |>.mono fun c hc hlt => ?_)) ⟨v', fun c => F' c ∧ c < w5.heap.size, by simpa using b8, .inl rfl, ((r5'.still k6).frame k7 (fun c hc h => hF5' c hc h)).frame k8 (fun c hc h => hF5' c hc h), fun c hc => ⟨.inr hc.1, hF5' c hc⟩⟩ fun c hc => ?_
      · rcases hc with (h | h) | h | h
        · omega
        · exact ⟨h.1, (h4 c h.2).1.1⟩
        · rcases hnb with h' | h'
          · exact ⟨h'.2, by rw [h, h'.1]; exact h2.1⟩
          · omega
        · rcases hnb with h' | h'
          · exact ⟨h'.2, by rw [h, h'.1]; exact h2.1⟩
          · omega
      · rcases hc with h | h
        · rcases hnb with h' | h'
          · exact .inl (by rw [h, h'.1]; exact h2.1)
          · exact .inr (by omega)
        · rcases hF5 c h with h' | h'
          · exact .inl (h4 c h').1.1
          · exact .inr (by omega)
    refine ⟨fun hm => ?_, fun hm => ?_⟩
    · refine clone_map_ok hb5 rfl h3.one rfl fun w6 k6 z6 b6 => ?_
      simp [-getElem?_pos, -Array.getElem?_eq_getElem, -Int.natCast_add, add_spot, and_assoc, Br_dec, -op_box, -op_st_4, -op_st_3, -op_st_226, -op_st_243, -op_st_296, -op_st_242, -op_st_228, -op_st_99, -op_alloc_4, -op_alloc_228, -op_lit_243_1, ptr, k6.get hb5 (fun h => h), hw1]
      exact fin k6 b6 (.inr rfl)
    · simp [-getElem?_pos, -Array.getElem?_eq_getElem, -Int.natCast_add, add_spot, and_assoc, Br_dec, -op_box, -op_st_4, -op_st_3, -op_st_226, -op_st_243, -op_st_296, -op_st_242, -op_st_228, -op_st_99, -op_alloc_4, -op_alloc_228, -op_lit_243_1, hb5, hw1]
      exact fin Frm.refl hb5 (.inl ⟨rfl, hm⟩)
end Go.Proofs.Ytbghmbbhkoniiaa.S
end
section
/- A map with its hasher, chosen or to be chosen at the first key: set, delete, get, length, iterator. -/
set_option maxRecDepth 100000
set_option maxHeartbeats 1000000
set_option linter.unusedSimpArgs false
set_option linter.unusedVariables false
set_option linter.unusedSectionVars false
namespace Go.Proofs.Ytbghmbbhkoniiaa.S
open Go.Vc Go.Proofs Go.Proofs.Ytbghmbbhkoniiaa Go.Vc.Nd
variable {w w' : World} {v hv : Value} {t : Tr} {F F' : Nat → Prop} {K : Value → World → Prop} {Kp : KP} {hash : Ky → Nat} {k : Ky} {x : Vl} {l s rb : Nat} {r0 mu nl : Bool}

theorem isH_of (h : I.IsH hv hash) : IsH hv hash := ⟨h.lt, fun {a b w K Kp} hK => h.eqv (a := a) (b := b) hK, fun {k w K Kp} hK => h.hsh (k := k) hK, h.nilE, h.iface⟩
abbrev defV := I.defV
abbrev defHash : Ky → Nat := I.defHash
theorem newHasher_ok (hK : ∀ d w', Frm (fun _ => False) w w' → K (defV d) w') : Calls Try.prog 84 #[ek k] w (ret K Kp) := I.newHasher_ok (k := k) hK
theorem set_first_ok {b : Nat} (hm : IsMap w b .nilIface .emp F)
    (hK : ∀ b' w' F' d, Frm (fun c => mu = true ∧ F c) w w' → IsMap w' b' (defV d) (.arr [(k, x)]) F' → (∀ c, F' c → F c ∨ w.heap.size ≤ c) → (mu = true → b' = b) → K (ptr b') w') : Calls Try.prog 90 #[ptr b, ek k, ev x, .bool mu] w (ret K Kp) := by
  obtain ⟨r, F0, h1, h2, h3, h4⟩ := hm.lt
  have heq := fun {wz : World} {K : Value → World → Prop} {Kp : KP} => eq_nil h3 (wz := wz) (K := K) (Kp := Kp)
  obtain rfl := h3.nil
  refine vc90_calls ?_
  simp only [vc90]
  refine op_box_ok fun w k0 z0 b0 => ?_
  replace h1 := k0.get h1 (fun h => h)
  replace h4 : ∀ c, F0 c → (F c ∧ c < w.heap.size) ∧ c ≠ b := fun c hc => ⟨⟨(h4 c hc).1.1, by have := (h4 c hc).1.2; omega⟩, (h4 c hc).2⟩
  replace hK := fun b' w' F' d (kf : Frm (fun c => mu = true ∧ F c) w w') hm (hF : ∀ c, F' c → F c ∨ w.heap.size ≤ c) hb => hK b' w' F' d (k0.fst kf) hm (fun c hc => (hF c hc).imp id fun h => by omega) hb
  simp [-getElem?_pos, -Array.getElem?_eq_getElem, -Int.natCast_add, add_spot, and_assoc, Br_dec, -op_box, -op_st_4, -op_st_3, -op_st_226, -op_st_243, -op_st_296, -op_st_242, -op_st_228, -op_st_99, -op_alloc_4, -op_alloc_228, -op_lit_243_1, vc90, ptr, h1]
  refine Jn.intro (fun hv' w1 => ∃ d, hv' = defV d ∧ Frm (fun _ => False) w w1) ⟨newHasher_ok fun d w1 k1 => ⟨d, rfl, k1⟩, ?_⟩
  rintro w0 _ ⟨d, rfl, k0⟩
  have h10 := k0.get h1 (fun h => h)
  have n0 := k0.size
  obtain ⟨J, hJ⟩ : ∃ J : Value → World → Prop, ∀ ov w1, J ov w1 ↔ ∃ nb, ov = ptr nb ∧ Frm (fun _ => False) w0 w1 ∧ w1.heap[nb]? = some (.cells #[.int .i64 0, .nilIface, .nilIface] 228 (0, 0)) ∧ (nb = b ∧ mu = true ∨ nb = w0.heap.size) ∧ (mu = true → nb = b) := ⟨_, fun _ _ => Iff.rfl⟩
  refine Jn.intro J ⟨fun hm => ?_, fun hm => (hJ _ _).2 ⟨b, rfl, Frm.refl, h10, .inl ⟨rfl, hm⟩, fun _ => rfl⟩, ?_⟩
  · exact clone_map_ok h10 rfl rfl rfl fun w1 k1 z1 b1 => (hJ _ _).2 ⟨_, rfl, k1, b1, .inr rfl, fun h => by rw [h] at hm; cases hm⟩
  intro w1 ov hov
  obtain ⟨nb, rfl, k1, b1, hnb, hnbm⟩ := (hJ _ _).1 hov
  clear hov hJ J
  have hb1 := k1.get h10 (fun h => h)
  have n1 := k1.size
  have l1 := lt_of_get h10
  simp [-getElem?_pos, -Array.getElem?_eq_getElem, -Int.natCast_add, add_spot, and_assoc, Br_dec, -op_box, -op_st_4, -op_st_3, -op_st_226, -op_st_243, -op_st_296, -op_st_242, -op_st_228, -op_st_99, -op_alloc_4, -op_alloc_228, -op_lit_243_1, ptr]
  refine op_store_ok (by kernel_rfl) b1 (by simp) rfl fun w2 k2 z2 b2 => ?_
  have b2 : w2.heap[nb]? = some (.cells #[.int .i64 0, .nilIface, defV d] 228 (0, 0)) := by simpa using b2
  obtain ⟨hh, hb2⟩ : ∃ hh, w2.heap[b]? = some (.cells #[.int .i64 0, .nilIface, hh] 228 (0, 0)) := by
    by_cases e : b = nb
    · exact ⟨_, by rw [e]; exact b2⟩
    · exact ⟨_, k2.get hb1 e⟩
  simp [-getElem?_pos, -Array.getElem?_eq_getElem, -Int.natCast_add, add_spot, and_assoc, Br_dec, -op_box, -op_st_4, -op_st_3, -op_st_226, -op_st_243, -op_st_296, -op_st_242, -op_st_228, -op_st_99, -op_alloc_4, -op_alloc_228, -op_lit_243_1, hb2]
  refine op_store_ok (by kernel_rfl) b2 (by simp) rfl fun w3 k3 z3 b3 => ?_
  refine op_lit_ok lit_243_1 fun w4 k4 z4 b4 => ?_
  simp [-getElem?_pos, -Array.getElem?_eq_getElem, -Int.natCast_add, add_spot, and_assoc, Br_dec, -op_box, -op_st_4, -op_st_3, -op_st_226, -op_st_243, -op_st_296, -op_st_242, -op_st_228, -op_st_99, -op_alloc_4, -op_alloc_228, -op_lit_243_1]
  refine op_box_ok fun w5 k5 z5 b5 => ?_
  simp only [cells_agg] at b5
  have bn5 := k5.get (k4.get b3 (fun h => h)) (fun h => h)
  refine op_store_ok (by kernel_rfl) bn5 (by simp) rfl fun w6 k6 z6 b6 => ?_
  have l2 := lt_of_get b2
  have hq : Rw w6 242 1 w3.heap.size 1 (ents [(k, x)]) := ((Rw.lit (w := w4) (n := 1) (by rw [ents_len]; rfl) (by decide) (by simpa [ents, ent] using b4)).frame k5 (fun h => h)).frame k6 (by omega)
  have b56 := k6.get b5 (by omega)
  have kall : Frm (fun c => mu = true ∧ F c) w w6 := (k0.to (M' := fun c => mu = true ∧ F c) fun _ h => h.elim).old (k1.fst (k2.tr (k3.tr (k4.fst (k5.fst k6))))) fun c hc => by
    have hcn : c = nb := by rcases hc with h | h | h <;> exact h
    rcases hnb with h | h
    · exact .inl ⟨h.2, by rw [hcn, h.1]; exact h2.1⟩
    · exact .inr (by omega)
  refine hK nb w6 (fun c => c = nb ∨ c = w4.heap.size ∨ c = w3.heap.size) d kall ⟨_, fun c => c = w4.heap.size ∨ c = w3.heap.size, by rw [show ((toL (Nd.arr [(k, x)])).length : Int) = 1 from rfl]; simpa [ptr] using b6, .inl rfl, ⟨w4.heap.size, w3.heap.size, 1, rfl, .inl rfl, .inr rfl, by omega, b56, by simp, hq⟩, fun c hc => ⟨.inr hc, by omega⟩⟩ (fun c hc => ?_) hnbm
  rcases hc with h | h | h
  · rcases hnb with h' | h'
    · exact .inl (by rw [h, h'.1]; exact h2.1)
    · exact .inr (by omega)
  · exact .inr (by omega)
  · exact .inr (by omega)

def Ver (w : World) (b : Nat) (hash : Ky → Nat) (nl : Bool) (t : Tr) (F : Nat → Prop) : Prop :=
  WFr hash t ∧ ∃ hv, IsMap w b hv t F ∧ (IsH hv hash ∨ nl = true ∧ hash = defHash ∧ hv = .nilIface ∧ t = .emp)
theorem Ver.keep {b : Nat} (h : Ver w b hash nl t F) (hw : ∀ c o, F c → w.heap[c]? = some o → w'.heap[c]? = some o) : Ver w' b hash nl t F := by
  obtain ⟨h1, hv, h2, h3⟩ := h
  exact ⟨h1, hv, h2.keep hw, h3⟩
theorem Ver.frame {b : Nat} {M : Nat → Prop} (h : Ver w b hash nl t F) (hf : Frm M w w') (hM : ∀ c, F c → ¬ M c) : Ver w' b hash nl t F := h.keep fun c o hc ho => hf.get ho (hM c hc)
theorem Ver.still {b : Nat} (h : Ver w b hash nl t F) (hf : Frm (fun _ => False) w w') : Ver w' b hash nl t F := h.frame hf fun _ _ h => h
theorem Ver.mono {b : Nat} (h : Ver w b hash nl t F) (hF : ∀ c, F c → F' c) : Ver w b hash nl t F' := by
  obtain ⟨h1, hv, ⟨r, F0, g1, g2, g3, g4⟩, h3⟩ := h
  exact ⟨h1, hv, ⟨r, F0, g1, hF _ g2, g3, fun c hc => ⟨hF _ (g4 c hc).1, (g4 c hc).2⟩⟩, h3⟩
theorem Ver.lt {b : Nat} (h : Ver w b hash nl t F) : Ver w b hash nl t (fun c => F c ∧ c < w.heap.size) := by
  obtain ⟨h1, hv, h2, h3⟩ := h
  exact ⟨h1, hv, h2.lt, h3⟩
theorem Ver.mem {b : Nat} (h : Ver w b hash nl t F) : F b := by obtain ⟨h1, hv, h2, h3⟩ := h; exact h2.mem
theorem ver_set_ok {b : Nat} (hdef : ∀ d, IsH (defV d) defHash) (h : Ver w b hash nl t F) (hL : (toL t).length ≤ 1000000)
    (hK : ∀ b' w' F', Frm (fun c => mu = true ∧ F c) w w' → Ver w' b' hash nl (Nd.set hash t k x) F' → (∀ c, F' c → F c ∨ w.heap.size ≤ c) → (mu = true → b' = b) → K (ptr b') w') : Calls Try.prog 90 #[ptr b, ek k, ev x, .bool mu] w (ret K Kp) := by
  obtain ⟨h1, hv, h2, h3 | ⟨hn, rfl, rfl, rfl⟩⟩ := h
  · exact set_map_ok (x := x) h3 h1 hL h2 fun b' w' F' k' m' hF' hb => hK b' w' F' k' ⟨(set_spec h3.lt h1).1, hv, m', .inl h3⟩ hF' hb
  · refine set_first_ok (x := x) h2 fun b' w' F' d k' m' hF' hb => hK b' w' F' k' ⟨(set_spec (hdef d).lt h1).1, defV d, m', .inl (hdef d)⟩ hF' hb
theorem ver_del_ok {b : Nat} (h : Ver w b hash nl t F) (hL : (toL t).length ≤ 1000000)
    (hK : ∀ b' w' F', Frm (fun c => mu = true ∧ F c) w w' → Ver w' b' hash nl (delT hash t k) F' → (∀ c, F' c → F c ∨ w.heap.size ≤ c) → K (ptr b') w') : Calls Try.prog 94 #[ptr b, ek k, .bool mu] w (ret K Kp) := by
  obtain ⟨h1, hv, h2, h3 | ⟨hn, rfl, rfl, rfl⟩⟩ := h
  · refine del_map_ok h3 h1 hL h2 (fun hg w' k' => ?_) fun hg b' w' F' k' m' hF' => hK b' w' F' k' ⟨(delT_spec h1).1, hv, by rw [delT, if_pos hg]; exact m', .inl h3⟩ hF'
    have e : delT hash t k = t := by rw [delT, if_neg (by rw [hg]; decide)]
    refine hK b w' F (k'.to fun _ h => h.elim) ?_ fun c hc => .inl hc
    rw [e]
    exact ⟨h1, hv, h2.keep fun c o hc ho => k'.get ho fun h => h, .inl h3⟩
  · obtain ⟨r, F0, g1, g2, g3, g4⟩ := id h2
    obtain rfl := g3.nil
    refine vc94_calls ?_
    simp [-getElem?_pos, -Array.getElem?_eq_getElem, -Int.natCast_add, add_spot, and_assoc, Br_dec, -op_box, -op_st_4, -op_st_3, -op_st_226, -op_st_243, -op_st_296, -op_st_242, -op_st_228, -op_st_99, -op_alloc_4, -op_alloc_228, -op_lit_243_1, vc94, ptr, g1]
    exact hK b w F Frm.refl ⟨h1, _, h2, .inr ⟨hn, rfl, rfl, rfl⟩⟩ fun c hc => .inl hc
theorem Set_ok {b : Nat} (hdef : ∀ d, IsH (defV d) defHash) (h : Ver w b hash nl t F) (hL : (toL t).length ≤ 1000000)
    (hK : ∀ b' w' F', Frm (fun _ => False) w w' → Ver w' b' hash nl (Nd.set hash t k x) F' → (∀ c, F' c → (F c ∨ w.heap.size ≤ c) ∧ c < w'.heap.size) → K (ptr b') w') : Calls Try.prog 91 #[ptr b, ek k, ev x] w (ret K Kp) := by
  refine vc91_calls ?_
  simp only [vc91]
  refine op_box_ok fun w k0 z0 b0 => ?_
  replace h := h.still k0
  replace hK := fun b' w' F' (kf : Frm (fun _ => False) w w') hv (hF : ∀ c, F' c → (F c ∨ w.heap.size ≤ c) ∧ c < w'.heap.size) => hK b' w' F' (k0.no kf) hv (fun c hc => ⟨(hF c hc).1.imp id fun h => by omega, (hF c hc).2⟩)
  simp only [op_ld_190, call_90]
  exact ver_set_ok (x := x) hdef h hL fun b' w' F' k' h' hF' _ => hK b' w' _ (k'.to fun _ h => nomatch h.1) h'.lt fun c hc => ⟨hF' c hc.1, hc.2⟩
theorem Delete_ok {b : Nat} (h : Ver w b hash nl t F) (hL : (toL t).length ≤ 1000000)
    (hK : ∀ b' w' F', Frm (fun _ => False) w w' → Ver w' b' hash nl (delT hash t k) F' → (∀ c, F' c → (F c ∨ w.heap.size ≤ c) ∧ c < w'.heap.size) → K (ptr b') w') : Calls Try.prog 92 #[ptr b, ek k] w (ret K Kp) := by
  refine vc92_calls ?_
  simp only [vc92, call_94]
  exact ver_del_ok h hL fun b' w' F' k' h' hF' => hK b' w' _ (k'.to fun _ h => nomatch h.1) h'.lt fun c hc => ⟨hF' c hc.1, hc.2⟩
theorem ver_get_ok {b : Nat} (h : Ver w b hash nl t F) (hK : ∀ w', Frm (fun _ => False) w w' → K (gotV (getIn (hash k) k t 0)) w') : Calls Try.prog 80 #[ptr b, ek k] w (ret K Kp) := by
  obtain ⟨h1, hv, h2, h3 | ⟨hn, rfl, rfl, rfl⟩⟩ := h
  · exact get_map_ok h3 h1 h2 hK
  · obtain ⟨r, F0, g1, g2, g3, g4⟩ := id h2
    obtain rfl := g3.nil
    refine vc80_calls ?_
    simp only [vc80]
    refine op_alloc_ok (z := .agg #[]) (by kernel_rfl) fun w0 k0 z0 b0 => ?_
    refine op_alloc_ok (z := .agg #[]) (by kernel_rfl) fun w00 k00 z00 b00 => ?_
    replace g1 := (k0.no k00).get g1 (fun h => h)
    replace hK := fun w' (hf : Frm (fun _ => False) w00 w') => hK w' ((k0.no k00).no hf)
    simp [-getElem?_pos, -Array.getElem?_eq_getElem, -Int.natCast_add, add_spot, and_assoc, Br_dec, -op_box, -op_st_4, -op_st_3, -op_st_226, -op_st_243, -op_st_296, -op_st_242, -op_st_228, -op_st_99, -op_alloc_4, -op_alloc_228, -op_lit_243_1, vc80, ptr, g1]
    exact hK _ Frm.refl
theorem ver_new_ok {h : Value} (hv : IsH h hash ∨ nl = true ∧ hash = defHash ∧ h = .nilIface) (h1 : h.oneCell' = true) (hK : ∀ w', Frm (fun _ => False) w w' → w'.heap.size = w.heap.size + 1 → Ver w' w.heap.size hash nl .emp (· = w.heap.size) → K (ptr w.heap.size) w') : Calls Try.prog 89 #[h] w (ret K Kp) := by
  refine vc89_calls ?_
  simp [-getElem?_pos, -Array.getElem?_eq_getElem, -Int.natCast_add, add_spot, and_assoc, Br_dec, -op_box, -op_st_4, -op_st_3, -op_st_226, -op_st_243, -op_st_296, -op_st_242, -op_st_228, -op_st_99, -op_alloc_4, -op_alloc_228, -op_lit_243_1, vc89, h1]
  refine op_box_ok fun w1 k1 z1 b1 => ?_
  simp only [cells_agg] at b1
  refine hK w1 k1 z1 ⟨trivial, h, ⟨.nilIface, fun _ => False, b1, rfl, rfl, fun _ h => h.elim⟩, ?_⟩
  rcases hv with hv | hv
  · exact .inl hv
  · exact .inr ⟨hv.1, hv.2.1, hv.2.2, rfl⟩
end Go.Proofs.Ytbghmbbhkoniiaa.S
end
section
/- Pairs that are put one behind the other: the function they make, whatever their order. -/
set_option linter.unusedSimpArgs false
set_option linter.unusedVariables false
namespace Go.Vc
open Nd
end Go.Vc
end
section
/- Versions of sets in plain words: a trie of keys without values beside a map of which only the keys count. -/
set_option linter.unusedVariables false
set_option linter.unusedSectionVars false
namespace Go.Vc
open Nd
theorem vers_cost {α : Type} {f : α → MStep → α} {a0 : α} {Q : α → Nat → Prop} {c0 : Nat} (mono : ∀ {a n m}, Q a n → n ≤ m → Q a m) (h0 : Q a0 c0) (hs : ∀ {a n} s, Q a n → Q (f a s) (n + s.cost)) (steps : List MStep) :
    ∀ (j : Nat) a, (vers f MStep.ref a0 steps)[j]? = some a → Q a (c0 + mcost steps) := by
  refine snoc_ind (P := fun steps => ∀ (j : Nat) a, (vers f MStep.ref a0 steps)[j]? = some a → Q a (c0 + mcost steps)) ?_ (fun l s ih => ?_) steps
  · intro j a ha
    cases j with
    | zero => simp [vers] at ha; subst ha; simpa [mcost] using h0
    | succ j => simp [vers] at ha
  · intro j a ha
    rw [vers_snoc] at ha
    have hl1 := vers_len (f := f) (fro := MStep.ref) (a0 := a0) l
    rw [mcost_snoc]
    by_cases hj : j < l.length + 1
    · rw [List.getElem?_append_left (by omega)] at ha
      exact mono (ih j a ha) (by omega)
    · have hj' : j = l.length + 1 := by
        have := (List.getElem?_eq_some_iff.1 ha).1
        simp [hl1] at this; omega
      subst hj'
      rw [List.getElem?_append_right (by omega), hl1] at ha
      simp at ha
      subst ha
      rw [← Nat.add_assoc]
      refine hs s ?_
      cases hx : (vers f MStep.ref a0 l)[s.ref]? with
      | none => exact mono h0 (by omega)
      | some x => exact ih _ _ hx
def un (m : Int → Option Int) : Int → Option Unit := fun k => (m k).map fun _ => ()
theorem un_set {m : Int → Option Int} {k v : Int} : un (mset m k v) = mset (un m) k () := by
  funext j; unfold un mset; split <;> rfl
theorem un_del {m : Int → Option Int} {k : Int} : un (mdel m k) = mdel (un m) k := by
  funext j; unfold un mdel; split <;> rfl
theorem un_some {m : Int → Option Int} {k : Int} : (un m k).isSome = (m k).isSome := by unfold un; cases m k <;> rfl
def addN (hash : Int → Nat) (k v : Int) (t : Nd Int Unit) (n : Nat) : Nd Int Unit := (List.range n).foldl (fun t i => Nd.set hash t (kAt k v i) ()) t
def remN (hash : Int → Nat) (k v : Int) (t : Nd Int Unit) (n : Nat) : Nd Int Unit := (List.range n).foldl (fun t i => delT hash t (kAt k v i)) t
theorem addN_succ {hash : Int → Nat} {k v : Int} {t : Nd Int Unit} {n : Nat} : addN hash k v t (n + 1) = Nd.set hash (addN hash k v t n) (kAt k v n) () := by
  unfold addN; rw [List.range_succ, List.foldl_append]; rfl
theorem remN_succ {hash : Int → Nat} {k v : Int} {t : Nd Int Unit} {n : Nat} : remN hash k v t (n + 1) = delT hash (remN hash k v t n) (kAt k v n) := by
  unfold remN; rw [List.range_succ, List.foldl_append]; rfl
def setStep (hash : Int → Nat) (t : Nd Int Unit) (s : MStep) : Nd Int Unit := match s.kind with
  | 0 => Nd.set hash t s.key ()
  | 1 => delT hash t s.key
  | 2 => addN hash s.key s.value t s.count.toNat
  | _ => remN hash s.key s.value t s.count.toNat
def setFirst (hash : Int → Nat) (values : List Int) : Nd Int Unit := values.foldl (fun t x => Nd.set hash t x ()) .emp
def funFirst (values : List Int) : Int → Option Int := values.foldl (fun m x => mset m x 0) fun _ => none
theorem setFirst_succ {hash : Int → Nat} {values : List Int} {i : Nat} (h : i < values.length) : setFirst hash (values.take (i + 1)) = Nd.set hash (setFirst hash (values.take i)) values[i] () := by
  rw [List.take_succ_eq_append_getElem h, setFirst, List.foldl_append]; rfl
theorem funFirst_succ {values : List Int} {i : Nat} (h : i < values.length) : funFirst (values.take (i + 1)) = mset (funFirst (values.take i)) values[i] 0 := by
  rw [List.take_succ_eq_append_getElem h, funFirst, List.foldl_append]; rfl
section
variable {hash : Int → Nat} (hh : ∀ k, hash k < 2 ^ 32)
include hh
theorem is_first (values : List Int) : Is hash (setFirst hash values) (un (funFirst values)) := by
  refine snoc_ind (P := fun values => Is hash (setFirst hash values) (un (funFirst values))) is_emp (fun l x ih => ?_) values
  rw [setFirst, funFirst, List.foldl_append, List.foldl_append]
  show Is hash (Nd.set hash (setFirst hash l) x ()) (un (mset (funFirst l) x 0))
  rw [un_set]; exact is_set hh ih
theorem is_addN {t : Nd Int Unit} {m : Int → Option Int} (h : Is hash t (un m)) {k v : Int} : ∀ n, Is hash (addN hash k v t n) (un (msetN k v m n))
  | 0 => h
  | n + 1 => by rw [addN_succ, msetN_succ, un_set]; exact is_set hh (is_addN h n)
omit hh in
theorem is_remN {t : Nd Int Unit} {m : Int → Option Int} (h : Is hash t (un m)) {k v : Int} : ∀ n, Is hash (remN hash k v t n) (un (mdelN k v m n))
  | 0 => h
  | n + 1 => by rw [remN_succ, mdelN_succ, un_del]; exact is_del (is_remN h n)
theorem is_setStep {t : Nd Int Unit} {m : Int → Option Int} (h : Is hash t (un m)) (s : MStep) : Is hash (setStep hash t s) (un (funStep m s)) := by
  obtain ⟨kind, fro, key, value, count⟩ := s
  match kind with
  | 0 => show Is hash (Nd.set hash t key ()) (un (mset m key value)); rw [un_set]; exact is_set hh h
  | 1 => show Is hash (delT hash t key) (un (mdel m key)); rw [un_del]; exact is_del h
  | 2 => exact is_addN hh h _
  | n + 3 => exact is_remN h _
theorem unit_len_le {t : Nd Int Unit} (h : WFr hash t) {k : Int} {v : Unit} : (toL (Nd.set hash t k v)).length ≤ (toL t).length + 1 := by
  rw [set_len hh h]; split <;> omega
theorem addN_len {t : Nd Int Unit} (h : WFr hash t) {k v : Int} : ∀ n, WFr hash (addN hash k v t n) ∧ (toL (addN hash k v t n)).length ≤ (toL t).length + n
  | 0 => ⟨h, Nat.le_refl _⟩
  | n + 1 => by
    obtain ⟨a, b⟩ := addN_len h (k := k) (v := v) n
    rw [addN_succ]
    exact ⟨(set_spec hh a).1, by have := unit_len_le hh a (k := kAt k v n) (v := ()); omega⟩
omit hh in
theorem remN_len {t : Nd Int Unit} (h : WFr hash t) {k v : Int} : ∀ n, WFr hash (remN hash k v t n) ∧ (toL (remN hash k v t n)).length ≤ (toL t).length
  | 0 => ⟨h, Nat.le_refl _⟩
  | n + 1 => by
    obtain ⟨a, b⟩ := remN_len h (k := k) (v := v) n
    rw [remN_succ]
    exact ⟨(delT_spec a).1, Nat.le_trans (delT_len a) b⟩
theorem setStep_len {t : Nd Int Unit} (h : WFr hash t) (s : MStep) : WFr hash (setStep hash t s) ∧ (toL (setStep hash t s)).length ≤ (toL t).length + s.cost := by
  unfold setStep MStep.cost
  split
  · exact ⟨(set_spec hh h).1, by have := unit_len_le hh h (k := s.key) (v := ()); omega⟩
  · exact ⟨(delT_spec h).1, by have := delT_len (k := s.key) h; omega⟩
  · have := addN_len hh h (k := s.key) (v := s.value) s.count.toNat
    exact ⟨this.1, by omega⟩
  · have := remN_len h (k := s.key) (v := s.value) s.count.toNat
    exact ⟨this.1, by omega⟩
theorem first_len (values : List Int) : (toL (setFirst hash values)).length ≤ values.length := by
  refine snoc_ind (P := fun values => (toL (setFirst hash values)).length ≤ values.length) (by simp [setFirst, toL]) (fun l x ih => ?_) values
  rw [setFirst, List.foldl_append]
  show (toL (Nd.set hash (setFirst hash l) x ())).length ≤ _
  have := unit_len_le hh (is_first hh l).1 (k := x) (v := ())
  simp; omega
end
def versS (hash : Int → Nat) (values : List Int) (steps : List MStep) : List (Nd Int Unit) := vers (setStep hash) MStep.ref (setFirst hash values) steps
def versI (values : List Int) (steps : List MStep) : List (Int → Option Int) := vers funStep MStep.ref (funFirst values) steps
theorem versS_len (hash : Int → Nat) (values : List Int) (l : List MStep) : (versS hash values l).length = l.length + 1 := vers_len l
theorem versI_len (values : List Int) (l : List MStep) : (versI values l).length = l.length + 1 := vers_len l
theorem is_versS {hash : Int → Nat} (hh : ∀ k, hash k < 2 ^ 32) (values : List Int) (steps : List MStep) (j : Nat) {t : Nd Int Unit} {m : Int → Option Int} (ht : (versS hash values steps)[j]? = some t) (hm : (versI values steps)[j]? = some m) : Is hash t (un m) :=
  vers_rel (R := fun t m => Is hash t (un m)) (is_first hh values) (fun a b s h => is_setStep hh h s) steps j t m ht hm
theorem versS_size {hash : Int → Nat} (hh : ∀ k, hash k < 2 ^ 32) (values : List Int) (steps : List MStep) (j : Nat) {t : Nd Int Unit} (ht : (versS hash values steps)[j]? = some t) : WFr hash t ∧ (toL t).length ≤ values.length + mcost steps :=
  vers_cost (Q := fun t n => WFr hash t ∧ (toL t).length ≤ n) (fun h hn => ⟨h.1, Nat.le_trans h.2 hn⟩) ⟨(is_first hh values).1, first_len hh values⟩ (fun s h => ⟨(setStep_len hh h.1 s).1, by have := (setStep_len hh h.1 s).2; omega⟩) steps j t ht
theorem is_un_get {hash : Int → Nat} {t : Nd Int Unit} {m : Int → Option Int} (h : Is hash t (un m)) (k : Int) : (getIn (hash k) k t 0).isSome = (m k).isSome := by
  rw [h.get, un_some]
end Go.Vc
end
section
/- Sets of whole numbers: NewSet, Add, Delete, Has; setsOf. -/
set_option maxRecDepth 100000
set_option maxHeartbeats 2000000
set_option linter.unusedSimpArgs false
set_option linter.unusedVariables false
set_option linter.unusedSectionVars false
namespace Go.Proofs.Ytbghmbbhkoniiaa.S
open Go.Vc Go.Proofs Go.Proofs.Ytbghmbbhkoniiaa Go.Vc.Nd
variable {w w' : World} {v hv : Value} {t : Tr} {F F' G : Nat → Prop} {K : Value → World → Prop} {Kp : KP} {hash : Ky → Nat} {k : Ky} {x : Vl} {l s rb md ml sh : Nat} {r0 mu nl : Bool}
def i1 (x : Int) : List Value := [.int .i64 x]
theorem i1_len (x : Int) : (i1 x).length = 1 := rfl
theorem row_int {a : Option Addr} {xs : List Int} (h : Row w a (xs.flatMap i1)) {i : Nat} (hi : i < xs.length) :
    ∃ bp o cs e fz, a = some ⟨bp, o, none⟩ ∧ w.heap[bp]? = some (.cells cs e fz) ∧ cs[o + i]? = some (.int .i64 xs[i]) := by
  obtain ⟨bp, o, cs, e, fz, rfl, hcs, hsz, hext⟩ := h.part i1_len (by decide) hi
  refine ⟨bp, o, cs, e, fz, rfl, hcs, ?_⟩
  have := congrArg (fun a => a[0]?) hext
  simp only [Array.getElem?_extract] at this
  rw [if_pos (by omega)] at this
  simpa [i1] using this
def setV (b : Nat) : Value := .agg #[ptr b]
theorem one_ptr {b : Nat} : (ptr b).oneCell' = true := rfl
theorem ow1 {u v : Value} : ow #[u] 0 [v] = #[v] := ow_all rfl
theorem NewSet_ok {a1 : Option Addr} {c1 : Nat} {xs : List Int} {h : Value} (hdef : ∀ d, IsH (defV d) defHash) (hv : IsH h hash ∨ nl = true ∧ hash = defHash ∧ h = .nilIface) (h1 : h.oneCell' = true) (hlt : ∀ k, hash k < 2 ^ 32)
    (hr : Row w a1 (xs.flatMap i1)) (hn : xs.length ≤ 1000000)
    (hK : ∀ b w' G, Frm (fun _ => False) w w' → Ver w' b hash nl (setFirst hash xs) G → (∀ c, G c → w.heap.size ≤ c ∧ c < w'.heap.size) → K (setV b) w') :
    Calls Try.prog 77 #[h, .slice a1 xs.length c1] w (ret K Kp) := by
  refine vc77_calls ?_
  simp only [vc77]
  refine op_alloc_ok (z := .agg #[.pointer none]) (by kernel_rfl) fun w1 k1 z1 b1 => ?_
  simp only [cells_agg] at b1
  try simp [-getElem?_pos, -Array.getElem?_eq_getElem, -Int.natCast_add, add_spot, and_assoc, Br_dec, -op_box, -op_alloc_118, -op_st_118, -op_alloc_35, -op_st_35, -op_lit_114_1]
  refine ver_new_ok hv h1 fun w2 k2 z2 v2 => ?_
  try simp [-getElem?_pos, -Array.getElem?_eq_getElem, -Int.natCast_add, add_spot, and_assoc, Br_dec, -op_box, -op_alloc_118, -op_st_118, -op_alloc_35, -op_st_35, -op_lit_114_1]
  obtain ⟨I, hI⟩ : ∃ I : Value → Value → World → Prop, ∀ m v wl, I m v wl ↔ ∃ (i : Nat) (G : Nat → Prop), m = ptr w1.heap.size ∧ v = .int .i64 i ∧ i ≤ xs.length ∧ Frm (fun _ => False) w1 wl ∧
      Ver wl w1.heap.size hash nl (setFirst hash (xs.take i)) G ∧ ∀ c, G c → w1.heap.size ≤ c ∧ c < wl.heap.size := ⟨_, fun _ _ _ => Iff.rfl⟩
  refine Lp.intro I (fun _ v _ => xs.length - natOf v) ⟨(hI _ _ _).2 ⟨0, _, rfl, rfl, by omega, k2, v2, fun c hc => by omega⟩, ?_⟩
  intro wl m v hm
  obtain ⟨i, G, rfl, rfl, hi, kl, vl, hG⟩ := (hI _ _ _).1 hm
  simp only [op_lss, Br_dec]
  refine ⟨fun hlt' => ?_, fun hge => ?_⟩
  · have hi' : i < xs.length := by omega
    obtain ⟨bp, o, cs, e, fz, rfl, hcs, hki⟩ := row_int ((hr.frame k1 fun _ _ h => h).frame kl fun _ _ h => h) hi'
    have hsz := first_len hlt (xs.take i)
    rw [List.length_take] at hsz
    try simp [-getElem?_pos, -Array.getElem?_eq_getElem, -Int.natCast_add, add_spot, and_assoc, Br_dec, -op_box, -op_alloc_118, -op_st_118, -op_alloc_35, -op_st_35, -op_lit_114_1, hcs, hki]
    refine ⟨hi', ?_⟩
    refine ver_set_ok (k := xs[i]) (x := ()) (mu := true) hdef vl (by omega) fun b' w3 F' k3 v3 hF3 hb' => ?_
    obtain rfl := hb' rfl
    have n3 := k3.size
    have v3' := v3.lt
    rw [← setFirst_succ hi'] at v3'
    rw [wrap_i64_small (by omega) (by omega)]
    refine ⟨(hI _ _ _).2 ⟨i + 1, _, rfl, by simp, by omega, kl.old k3 fun c hc => .inr (hG c hc.2).1, v3', fun c hc => ⟨?_, hc.2⟩⟩, ?_⟩
    · have n2 := kl.size
      rcases hF3 c hc.1 with h | h
      · exact (hG c h).1
      · omega
    · simp only [natOf]; omega
  · have : i = xs.length := by omega
    subst this
    rw [List.take_length] at vl
    rw [op_build_118_0 one_ptr]
    refine op_storeN_ok (vs := #[ptr w1.heap.size]) (o := 0) (n := 1) (by kernel_rfl) (kl.get b1 fun h => h) rfl (by decide) (by simp [ptr]) fun w3 k3 z3 b3 => ?_
    rw [show (#[ptr w1.heap.size] : Array Value).toList = [ptr w1.heap.size] from rfl, ow1] at b3
    try simp [-getElem?_pos, -Array.getElem?_eq_getElem, -Int.natCast_add, add_spot, and_assoc, Br_dec, -op_box, -op_alloc_118, -op_st_118, -op_alloc_35, -op_st_35, -op_lit_114_1, b3]
    have n1 := k1.size
    exact hK _ w3 G ((k1.no kl).old k3 fun c hc => .inr (by omega)) (vl.frame k3 fun c hc e => by have := (hG c hc).1; omega) fun c hc => ⟨by have := (hG c hc).1; omega, by have := (hG c hc).2; omega⟩
theorem Add_ok {b : Nat} (hdef : ∀ d, IsH (defV d) defHash) (h : Ver w b hash nl t F) (hL : (toL t).length ≤ 1000000)
    (hK : ∀ b' w' F', Frm (fun _ => False) w w' → Ver w' b' hash nl (Nd.set hash t k ()) F' → (∀ c, F' c → (F c ∨ w.heap.size ≤ c) ∧ c < w'.heap.size) → K (setV b') w') : Calls Try.prog 78 #[setV b, ek k] w (ret K Kp) := by
  refine vc78_calls ?_
  simp only [vc78]
  refine op_box_ok fun w1 k1 z1 b1 => ?_
  simp only [setV, cells_agg] at b1
  refine op_alloc_ok (z := .agg #[.pointer none]) (by kernel_rfl) fun w2 k2 z2 b2 => ?_
  simp only [cells_agg] at b2
  have b1' := k2.get b1 fun h => h
  try simp [-getElem?_pos, -Array.getElem?_eq_getElem, -Int.natCast_add, add_spot, and_assoc, Br_dec, -op_box, -op_alloc_118, -op_st_118, -op_alloc_35, -op_st_35, -op_lit_114_1, b1', ptr]
  refine Set_ok (k := k) (x := ()) hdef (h.lt.still (k1.no k2)) hL fun b' w3 F3 k3 v3 hF3 => ?_
  rw [op_build_118_0 one_ptr]
  refine op_storeN_ok (vs := #[ptr b']) (o := 0) (n := 1) (by kernel_rfl) (k3.get b2 fun h => h) rfl (by decide) (by simp [ptr]) fun w4 k4 z4 b4 => ?_
  rw [show (#[ptr b'] : Array Value).toList = [ptr b'] from rfl, ow1] at b4
  try simp [-getElem?_pos, -Array.getElem?_eq_getElem, -Int.natCast_add, add_spot, and_assoc, Br_dec, -op_box, -op_alloc_118, -op_st_118, -op_alloc_35, -op_st_35, -op_lit_114_1, b4]
  have n1 := k1.size
  have n2 := k2.size
  have n3 := k3.size
  have n4 := k4.size
  exact hK b' w4 F3 (((k1.no k2).no k3).old k4 fun c hc => .inr (by omega)) (v3.frame k4 fun c hc e => by rcases (hF3 c hc).1 with h | h <;> omega) fun c hc => ⟨(hF3 c hc).1.imp (fun h => h.1) fun h => by omega, by have := (hF3 c hc).2; omega⟩
theorem SDelete_ok {b : Nat} (h : Ver w b hash nl t F) (hL : (toL t).length ≤ 1000000)
    (hK : ∀ b' w' F', Frm (fun _ => False) w w' → Ver w' b' hash nl (delT hash t k) F' → (∀ c, F' c → (F c ∨ w.heap.size ≤ c) ∧ c < w'.heap.size) → K (setV b') w') : Calls Try.prog 79 #[setV b, ek k] w (ret K Kp) := by
  refine vc79_calls ?_
  simp only [vc79]
  refine op_box_ok fun w1 k1 z1 b1 => ?_
  simp only [setV, cells_agg] at b1
  refine op_alloc_ok (z := .agg #[.pointer none]) (by kernel_rfl) fun w2 k2 z2 b2 => ?_
  simp only [cells_agg] at b2
  have b1' := k2.get b1 fun h => h
  try simp [-getElem?_pos, -Array.getElem?_eq_getElem, -Int.natCast_add, add_spot, and_assoc, Br_dec, -op_box, -op_alloc_118, -op_st_118, -op_alloc_35, -op_st_35, -op_lit_114_1, b1', ptr]
  refine Delete_ok (k := k) (h.lt.still (k1.no k2)) hL fun b' w3 F3 k3 v3 hF3 => ?_
  rw [op_build_118_0 one_ptr]
  refine op_storeN_ok (vs := #[ptr b']) (o := 0) (n := 1) (by kernel_rfl) (k3.get b2 fun h => h) rfl (by decide) (by simp [ptr]) fun w4 k4 z4 b4 => ?_
  rw [show (#[ptr b'] : Array Value).toList = [ptr b'] from rfl, ow1] at b4
  try simp [-getElem?_pos, -Array.getElem?_eq_getElem, -Int.natCast_add, add_spot, and_assoc, Br_dec, -op_box, -op_alloc_118, -op_st_118, -op_alloc_35, -op_st_35, -op_lit_114_1, b4]
  have n1 := k1.size
  have n2 := k2.size
  have n3 := k3.size
  have n4 := k4.size
  exact hK b' w4 F3 (((k1.no k2).no k3).old k4 fun c hc => .inr (by omega)) (v3.frame k4 fun c hc e => by rcases (hF3 c hc).1 with h | h <;> omega) fun c hc => ⟨(hF3 c hc).1.imp (fun h => h.1) fun h => by omega, by have := (hF3 c hc).2; omega⟩
theorem Has_ok {b : Nat} (h : Ver w b hash nl t F) (hK : ∀ w', Frm (fun _ => False) w w' → K (.bool (getIn (hash k) k t 0).isSome) w') : Calls Try.prog 55 #[setV b, ek k] w (ret K Kp) := by
  refine vc55_calls ?_
  simp only [vc55]
  refine op_box_ok fun w1 k1 z1 b1 => ?_
  simp only [setV, cells_agg] at b1
  try simp [-getElem?_pos, -Array.getElem?_eq_getElem, -Int.natCast_add, add_spot, and_assoc, Br_dec, -op_box, -op_alloc_118, -op_st_118, -op_alloc_35, -op_st_35, -op_lit_114_1, b1, ptr]
  refine ver_get_ok (k := k) (h.still k1) fun w2 k2 => ?_
  have := fun w' k => hK w' (((k1.no k2).no k))
  cases hx : getIn (hash k) k t 0 with
  | none =>
    rw [hx] at this
    try simp [-getElem?_pos, -Array.getElem?_eq_getElem, -Int.natCast_add, add_spot, and_assoc, Br_dec, -op_box, -op_alloc_118, -op_st_118, -op_alloc_35, -op_st_35, -op_lit_114_1, gotV, zv]
    exact this _ (Frm.alloc _ _)
  | some x =>
    rw [hx] at this
    try simp [-getElem?_pos, -Array.getElem?_eq_getElem, -Int.natCast_add, add_spot, and_assoc, Br_dec, -op_box, -op_alloc_118, -op_st_118, -op_alloc_35, -op_st_35, -op_lit_114_1, gotV, ev]
    exact this _ (Frm.alloc _ _)
def ElS (hash : Ky → Nat) (nl : Bool) : World → List Value → Tr → (Nat → Prop) → Prop := fun w u t G => ∃ b, u = [ptr b] ∧ Ver w b hash nl t G
theorem elS_ok (hash : Ky → Nat) (nl : Bool) : ElOk (ElS hash nl) :=
  ⟨fun ⟨b, hu, h⟩ hf hM => ⟨b, hu, h.frame hf hM⟩, fun ⟨b, hu, h⟩ hG => ⟨b, hu, h.mono hG⟩⟩
theorem apSet : apOf Try.prog 114 = some (118, 1, 8) := by kernel_rfl
theorem cells5 (s : MStep) : (#[.int .u8 s.kind, .int .i64 s.fro, .int .i64 s.key, .int .i64 s.value, .int .i64 s.count] : Array Value).extract 0 5 = s.cells.toArray := rfl
theorem hasherS_ok (hK : ∀ h w', Frm (fun _ => False) w w' → h.oneCell' = true → (IsH h (I.hashOf md ml sh) ∨ decide (md = 0) = true ∧ I.hashOf md ml sh = defHash ∧ h = .nilIface) → K h w') : Calls Try.prog 41 #[I.hval md ml sh] w (ret K Kp) :=
  I.hasher_ok (md := md) (ml := ml) (sh := sh) fun h w' k o hh => hK h w' k o (hh.imp isH_of id)
end Go.Proofs.Ytbghmbbhkoniiaa.S
end
section
/- Versions of sets made by steps: setsOf. -/
set_option maxRecDepth 100000
set_option maxHeartbeats 4000000
set_option linter.unusedSimpArgs false
set_option linter.unusedVariables false
set_option linter.unusedSectionVars false
namespace Go.Proofs.Ytbghmbbhkoniiaa.S
open Go.Vc Go.Proofs Go.Proofs.Ytbghmbbhkoniiaa Go.Vc.Nd
open Go.Proofs.Ytbghmbbhkoniiaa.I (hval hashOf hashOf_lt mapStep_ok)
variable {w w' : World} {v hv : Value} {t : Tr} {F F' G : Nat → Prop} {K : Value → World → Prop} {Kp : KP} {hash : Ky → Nat} {k : Ky} {x : Vl} {l s rb md ml sh : Nat} {r0 mu nl : Bool}
theorem lit_set {b : Nat} : sliceLit Try.prog 114 1 [(0, setV b)] = some (118, [ptr b].toArray) := by
  exact lit_114_1
theorem putSet_ok {mb b : Nat} {b0 : Value} (hb : w.heap[mb]? = some (.cells #[b0] 118 (0, 0))) (hK : ∀ w', Frm (· = mb) w w' → w'.heap.size = w.heap.size → w'.heap[mb]? = some (.cells #[ptr b] 118 (0, 0)) → K undef w') :
    (nice Try.prog).op (.store 118 (.pointer (some ⟨mb, 0, none⟩)) (setV b)) w K Kp := by
  refine op_storeN_ok (vs := #[ptr b]) (o := 0) (n := 1) (by kernel_rfl) hb rfl (by simp) (by simp [ptr]) fun w4 k4 z4 b4 => ?_
  rw [show (#[ptr b] : Array Value).toList = [ptr b] from rfl, ow1] at b4
  exact hK w4 k4 z4 b4
theorem ex1 (b : Nat) : (#[ptr b] : Array Value).extract 0 1 = #[ptr b] := rfl
theorem setsOf_ok {a0 a1 : Option Addr} {c0 c1 : Nat} {values : List Int} {steps : List MStep} (h0 : Row w a0 (values.flatMap i1)) (h1 : Row w a1 (steps.flatMap MStep.cells)) (hfit : MFit steps) (hc : values.length + mcost steps ≤ 900000)
    (hK : ∀ l w' G, Frm (fun _ => False) w w' → RowsOf (ElS (hashOf md ml sh) (decide (md = 0))) w' w.heap.size 118 1 l (versS (hashOf md ml sh) values steps) G → K l w') :
    Calls Try.prog 54 #[hval md ml sh, .slice a0 values.length c0, .slice a1 steps.length c1] w (ret K Kp) := by
  have hn : steps.length ≤ mcost steps := by
    clear h1 hfit hc hK
    induction steps with
    | nil => simp
    | cons s l ih => simp only [mcost, List.map_cons, List.sum_cons, List.length_cons, MStep.cost] at ih ⊢; omega
  generalize hhash : hashOf md ml sh = hash at *
  generalize hnl : decide (md = 0) = nl at *
  have hE := elS_ok hash nl
  have hdef : ∀ d, IsH (defV d) defHash := fun d => isH_of (I.defHasher_ok d)
  have hlt : ∀ k, hash k < 2 ^ 32 := fun k => by rw [← hhash]; exact hashOf_lt md ml sh k
  refine vc54_calls ?_
  simp only [vc54]
  refine op_box_ok fun w1 k1 z1 b1 => ?_
  simp only [hval, cells_agg] at b1
  have hx3 : (#[Value.int .u32 (md : Int), .int .u32 (ml : Int), .int .u8 (sh : Int)] : Array Value).extract 0 3 = #[.int .u32 md, .int .u32 ml, .int .u8 sh] := rfl
  simp [-getElem?_pos, -Array.getElem?_eq_getElem, -Int.natCast_add, add_spot, and_assoc, Br_dec, -op_box, -op_alloc_118, -op_st_118, -op_alloc_35, -op_st_35, -op_lit_114_1, b1, hx3]
  refine hasherS_ok (md := md) (ml := ml) (sh := sh) fun h w2 k2 o2 hh2 => ?_
  rw [hhash, hnl] at hh2
  try simp [-getElem?_pos, -Array.getElem?_eq_getElem, -Int.natCast_add, add_spot, and_assoc, Br_dec, -op_box, -op_alloc_118, -op_st_118, -op_alloc_35, -op_st_35, -op_lit_114_1]
  refine NewSet_ok hdef hh2 o2 hlt ((h0.frame k1 fun _ _ h => h).frame k2 fun _ _ h => h) (by omega) fun nb w3 G3 k3 v3 hG3 => ?_
  try simp [-getElem?_pos, -Array.getElem?_eq_getElem, -Int.natCast_add, add_spot, and_assoc, Br_dec, -op_box, -op_alloc_118, -op_st_118, -op_alloc_35, -op_st_35, -op_lit_114_1]
  have n1 := k1.size
  have n2 := k2.size
  have n3 := k3.size
  have k13 := k2.no k3
  refine op_row1 (base := w1.heap.size) (u := [ptr nb]) hE apSet lit_set rfl ⟨_, rfl, v3⟩ (fun c hc => by have := hG3 c hc; omega) (by omega) fun l4 w4 k4 hR4 ho4 => ?_
  have b4 := (k13.no k4).get b1 fun h => h
  obtain ⟨a4, c4, rfl, _⟩ := hR4.slice
  try simp [-getElem?_pos, -Array.getElem?_eq_getElem, -Int.natCast_add, add_spot, and_assoc, Br_dec, -op_box, -op_alloc_118, -op_st_118, -op_alloc_35, -op_st_35, -op_lit_114_1]
  obtain ⟨I, hI⟩ : ∃ I : Value → Value → World → Prop, ∀ l v wl, I l v wl ↔ ∃ (i : Nat) (G : Nat → Prop), v = .int .i64 i ∧ i ≤ steps.length ∧ Frm (fun _ => False) w1 wl ∧
      RowsOf (ElS hash nl) wl w1.heap.size 118 1 l (versS hash values (steps.take i)) G := ⟨_, fun _ _ _ => Iff.rfl⟩
  refine Lp.intro I (fun _ v _ => steps.length - natOf v) ⟨(hI _ _ _).2 ⟨0, G3, rfl, by omega, k13.no k4, hR4⟩, ?_⟩
  intro wl l v hl
  obtain ⟨i, G, rfl, hi, kl, hR⟩ := (hI _ _ _).1 hl
  simp only [op_lss, Br_dec]
  refine ⟨fun hlt' => ?_, fun hnl' => ?_⟩
  rotate_left
  · have : i = steps.length := by omega
    subst this
    rw [List.take_length] at hR
    exact hK l wl G (k1.no kl) (hR.base_le (by omega))
  have hi' : i < steps.length := by omega
  have htk : steps.take (i + 1) = steps.take i ++ [steps[i]] := List.take_succ_eq_append_getElem hi'
  have hct := mcost_take steps (i + 1)
  rw [htk, mcost_snoc] at hct
  obtain ⟨f1, f2, f3, f4, f5⟩ := hfit i hi'
  obtain ⟨bp, o, cs, e, fz, rfl, hcs, hsz, hext⟩ := ((h1.frame k1 fun _ _ h => h).frame kl (fun _ _ h => h)).part mcells_len (by decide) hi'
  generalize hst : steps[i] = s at *
  have hlow := hR.own_lt
  have bl := kl.get b1 fun h => h
  simp [-getElem?_pos, -Array.getElem?_eq_getElem, -Int.natCast_add, add_spot, and_assoc, Br_dec, -op_box, -op_alloc_118, -op_st_118, -op_alloc_35, -op_st_35, -op_lit_114_1, hcs, hsz, hext]
  refine ⟨hi', ?_⟩
  refine op_alloc_ok (z := .agg #[.int .u8 0, .int .i64 0, .int .i64 0, .int .i64 0, .int .i64 0]) (by kernel_rfl) fun w5 k5 z5 b5 => ?_
  simp only [cells_agg] at b5
  refine op_storeN_ok (n := 5) (by kernel_rfl) b5 rfl (by decide) (by simp [MStep.cells]) fun w6 k6 z6 b6 => ?_
  have b6 : w6.heap[wl.heap.size]? = some (.cells s.cells.toArray 35 (0, 0)) := by
    rw [ow_all (by simp [MStep.cells])] at b6; simpa [MStep.cells] using b6
  have n5 := k5.size
  have n6 := k6.size
  have k56 : Frm (fun _ => False) wl w6 := k5.old k6 fun c hc => .inr (by omega)
  have bl6 := k56.get bl fun h => h
  simp [-getElem?_pos, -Array.getElem?_eq_getElem, -Int.natCast_add, add_spot, and_assoc, Br_dec, -op_box, -op_alloc_118, -op_st_118, -op_alloc_35, -op_st_35, -op_lit_114_1, bl6, hx3]
  refine hasherS_ok (md := md) (ml := ml) (sh := sh) fun h7 w7 k7 o7 hh7 => ?_
  rw [hhash, hnl] at hh7
  try simp [-getElem?_pos, -Array.getElem?_eq_getElem, -Int.natCast_add, add_spot, and_assoc, Br_dec, -op_box, -op_alloc_118, -op_st_118, -op_alloc_35, -op_st_35, -op_lit_114_1]
  refine NewSet_ok (xs := []) (a1 := none) (c1 := 0) hdef hh7 o7 hlt (.inl rfl) (by simp) fun nb8 w8 G8 k8 v8 hG8 => ?_
  try simp [-getElem?_pos, -Array.getElem?_eq_getElem, -Int.natCast_add, add_spot, and_assoc, Br_dec, -op_box, -op_alloc_118, -op_st_118, -op_alloc_35, -op_st_35, -op_lit_114_1]
  refine op_alloc_ok (z := .agg #[.pointer none]) (by kernel_rfl) fun w9 k9 z9 b9 => ?_
  simp only [cells_agg] at b9
  refine putSet_ok b9 fun w10 k10 z10 b10 => ?_
  have n7 := k7.size
  have n8 := k8.size
  have k78 := k7.no k8
  have k58 := k56.no k78
  generalize hmb : w8.heap.size = mb at *
  have k510 : Frm (fun _ => False) wl w10 := (k58.no k9).old k10 fun c hc => .inr (by omega)
  have s10 : w10.heap[wl.heap.size]? = some (.cells #[.int .u8 s.kind, .int .i64 s.fro, .int .i64 s.key, .int .i64 s.value, .int .i64 s.count] 35 (0, 0)) := k10.get ((k78.no k9).get b6 fun h => h) (by omega)
  have hR10 := hR.still hE k510
  have hlv : (versS hash values (steps.take i)).length = i + 1 := by rw [versS_len, List.length_take]; omega
  obtain ⟨q, hq⟩ : ∃ q : Nat, s.fro = q := ⟨s.fro.toNat, by omega⟩
  have hq1 : q < (versS hash values (steps.take i)).length := by omega
  obtain ⟨u, g, c, cur, hlg, hg1, hg2, hg3, hg4, hg5, bv, hub, hV⟩ := hR10.get hq1
  subst hlg hub
  generalize ht : (versS hash values (steps.take i))[q] = t0 at hV
  have hsize : (toL t0).length ≤ values.length + mcost (steps.take i) := (versS_size hlt values (steps.take i) q (by rw [List.getElem?_eq_getElem hq1, ht])).2
  have hnext : versS hash values (steps.take (i + 1)) = versS hash values (steps.take i) ++ [setStep hash t0 s] := by
    have e1 : (vers (setStep hash) MStep.ref (setFirst hash values) (steps.take i))[s.ref]? = some t0 := by
      have : s.ref = q := by simp [MStep.ref, hq]
      rw [this, ← ht]; exact List.getElem?_eq_getElem hq1
    rw [htk, versS, vers_snoc, e1]; rfl
  have hcost : s.cost = 1 + s.count.toNat := rfl
  obtain ⟨J, hJ⟩ : ∃ J : World → Prop, ∀ w', J w' ↔ ∃ (b' : Nat) (G2 : Nat → Prop), Frm (fun _ => False) wl w' ∧ w'.heap[mb]? = some (.cells #[ptr b'] 118 (0, 0)) ∧ Ver w' b' hash nl (setStep hash t0 s) G2 ∧ ∀ c, G2 c → (G c ∨ wl.heap.size ≤ c) ∧ c < w'.heap.size := ⟨_, fun _ => Iff.rfl⟩
  refine Jn.intro J ⟨?_, ?_⟩
  rotate_left
  · intro w9 hm
    obtain ⟨b', G2, k9, bm9, v9, hG2⟩ := (hJ _).1 hm
    try simp [-getElem?_pos, -Array.getElem?_eq_getElem, -Int.natCast_add, add_spot, and_assoc, Br_dec, -op_box, -op_alloc_118, -op_st_118, -op_alloc_35, -op_st_35, -op_lit_114_1, bm9, ex1]
    refine op_push (u := [ptr b']) hE apSet lit_set rfl (by simp [ptr]) (hR.still hE k9) ⟨b', rfl, v9⟩ (fun c hc => ?_) (fun b hb hc => ?_) (by omega) (by have := k9.size; have := kl.size; omega) fun l10 w10 k10 hR10 ho10 => ?_
    · refine ⟨?_, (hG2 c hc).2⟩
      rcases (hG2 c hc).1 with h | h
      · exact (hR.low c h).1
      · have := kl.size; omega
    · rcases (hG2 b hc).1 with h | h
      · exact hR.off b hb h
      · have := hlow b hb; omega
    · try simp [-getElem?_pos, -Array.getElem?_eq_getElem, -Int.natCast_add, add_spot, and_assoc, Br_dec, -op_box, -op_alloc_118, -op_st_118, -op_alloc_35, -op_st_35, -op_lit_114_1]
      rw [wrap_i64_small (by omega) (by omega)]
      refine ⟨(hI _ _ _).2 ⟨i + 1, _, by simp, by omega, (kl.no k9).old k10 fun c hc => .inr (by have := hlow c hc.symm; omega), by rw [hnext]; exact hR10⟩, ?_⟩
      simp only [natOf]; omega
  have hx5 := cells5 s
  simp [-getElem?_pos, -Array.getElem?_eq_getElem, -Int.natCast_add, add_spot, and_assoc, Br_dec, -op_box, -op_alloc_118, -op_st_118, -op_alloc_35, -op_st_35, -op_lit_114_1, s10, hx5]
  rw [hlv]
  refine mapStep_ok (s := s) (n := i + 1) f2 (by omega) f1 f4 f5 fun w11 k11 => ?_
  have s11 := k11.get s10 fun h => h
  have hg11 := k11.get hg1 fun h => h
  have bm11 := k11.get b10 fun h => h
  have hV11 := hV.still k11
  have n11 := k11.size
  have n10 := k10.size
  rw [Nat.mul_one] at hg4 hg5
  simp [-getElem?_pos, -Array.getElem?_eq_getElem, -Int.natCast_add, add_spot, and_assoc, Br_dec, -op_box, -op_alloc_118, -op_st_118, -op_alloc_35, -op_st_35, -op_lit_114_1, s11, hq, hg11, hg4, hg5]
  refine ⟨by omega, ?_⟩
  refine putSet_ok bm11 fun w12 k12 z12 b12 => ?_
  have s12 := k12.get s11 (by omega)
  have n9 := k9.size
  have hGm : ∀ c, G c → c < wl.heap.size := fun c hc => (hR.low c hc).2
  have hV12 := hV11.frame k12 fun c hc e => by have := hGm c hc; omega
  have k012 : Frm (fun _ => False) wl w12 := (k510.no k11).old k12 fun c hc => .inr (by omega)
  have n12 := k12.size
  have hdone : ∀ {b' : Nat} {wz : World} {t' : Tr} {G2 : Nat → Prop}, t' = setStep hash t0 s → Frm (fun _ => False) w12 wz → Ver wz b' hash nl t' G2 → (∀ c, G2 c → (G c ∨ w12.heap.size ≤ c) ∧ c < wz.heap.size) →
      (nice Try.prog).op (.store 118 (.pointer (some ⟨mb, 0, none⟩)) (setV b')) wz (fun _ w => J w) Kp := fun {b' wz t' G2} he kz vz hz => by
    subst he
    refine putSet_ok (kz.get b12 fun h => h) fun wy ky zy by' => ?_
    have := kz.size
    refine (hJ _).2 ⟨b', G2, (k012.no kz).old ky fun c hc => .inr (by omega), by', vz.frame ky fun c hc e => ?_, fun c hc => ⟨?_, by have := (hz c hc).2; omega⟩⟩
    · rcases (hz c hc).1 with h | h
      · have := hGm c h; omega
      · omega
    · rcases (hz c hc).1 with h | h
      · exact .inl h
      · exact .inr (by omega)
  have hkind : s.kind = 0 ∨ s.kind = 1 ∨ s.kind = 2 ∨ s.kind = 3 := by omega
  rcases hkind with hk | hk | hk | hk
  · simp [-getElem?_pos, -Array.getElem?_eq_getElem, -Int.natCast_add, add_spot, and_assoc, Br_dec, -op_box, -op_alloc_118, -op_st_118, -op_alloc_35, -op_st_35, -op_lit_114_1, hk, s12, b12, ex1]
    refine Add_ok (k := s.key) hdef hV12 (by omega) fun b' wz F' kz vz hz => hdone (by simp only [setStep, hk]) kz vz hz
  · simp [-getElem?_pos, -Array.getElem?_eq_getElem, -Int.natCast_add, add_spot, and_assoc, Br_dec, -op_box, -op_alloc_118, -op_st_118, -op_alloc_35, -op_st_35, -op_lit_114_1, hk, s12, b12, ex1]
    refine SDelete_ok (k := s.key) hV12 (by omega) fun b' wz F' kz vz hz => hdone (by simp only [setStep, hk]) kz vz hz
  · simp [-getElem?_pos, -Array.getElem?_eq_getElem, -Int.natCast_add, add_spot, and_assoc, Br_dec, -op_box, -op_alloc_118, -op_st_118, -op_alloc_35, -op_st_35, -op_lit_114_1, hk, s12]
    obtain ⟨I2, hI2⟩ : ∃ I2 : Value → World → Prop, ∀ v wz, I2 v wz ↔ ∃ (j b' : Nat) (G2 : Nat → Prop), v = .int .i64 j ∧ (j : Int) ≤ s.count ∧ Frm (fun c => c = mb) w12 wz ∧ wz.heap[mb]? = some (.cells #[ptr b'] 118 (0, 0)) ∧ Ver wz b' hash nl (addN hash s.key s.value t0 j) G2 ∧ (∀ c, G2 c → (G c ∨ w12.heap.size ≤ c) ∧ c < wz.heap.size) := ⟨_, fun _ _ => Iff.rfl⟩
    refine Lp.intro I2 (fun v _ => s.count.toNat - natOf v) ⟨(hI2 _ _).2 ⟨0, bv, G, rfl, by omega, Frm.refl, b12, hV12, fun c hc => ⟨.inl hc, by have := hGm c hc; omega⟩⟩, ?_⟩
    intro wz v hm
    obtain ⟨j, b', G2, rfl, hj, kz, bz, vz, hz⟩ := (hI2 _ _).1 hm
    have sz := kz.get s12 (by omega)
    have hsz2 := (addN_len hlt hV12.1 (k := s.key) (v := s.value) j).2
    simp [-getElem?_pos, -Array.getElem?_eq_getElem, -Int.natCast_add, add_spot, and_assoc, Br_dec, -op_box, -op_alloc_118, -op_st_118, -op_alloc_35, -op_st_35, -op_lit_114_1, sz]
    refine ⟨fun hlt2 => ?_, fun hge => ?_⟩
    · simp [-getElem?_pos, -Array.getElem?_eq_getElem, -Int.natCast_add, add_spot, and_assoc, Br_dec, -op_box, -op_alloc_118, -op_st_118, -op_alloc_35, -op_st_35, -op_lit_114_1, bz, ex1, sz]
      refine Add_ok (k := kAt s.key s.value j) hdef vz (by omega) fun b'' wy F' ky vy hy => ?_
      rw [← addN_succ] at vy
      have := kz.size
      refine putSet_ok (ky.get bz fun h => h) fun wx kx zx bx => ?_
      try simp [-getElem?_pos, -Array.getElem?_eq_getElem, -Int.natCast_add, add_spot, and_assoc, Br_dec, -op_box, -op_alloc_118, -op_st_118, -op_alloc_35, -op_st_35, -op_lit_114_1]
      rw [wrap_i64_small (by omega) (by omega)]
      have hy2 : ∀ c, F' c → (G c ∨ w12.heap.size ≤ c) ∧ c < wy.heap.size := fun c hc => ⟨by rcases (hy c hc).1 with h | h; exact (hz c h).1; exact .inr (by omega), (hy c hc).2⟩
      refine ⟨(hI2 _ _).2 ⟨j + 1, b'', F', by simp, by omega, (kz.tr (ky.fst kx)).to fun c hc => hc.elim id id, bx, vy.frame kx fun c hc e => ?_, fun c hc => ⟨(hy2 c hc).1, by have := (hy2 c hc).2; omega⟩⟩, ?_⟩
      · rcases (hy2 c hc).1 with h | h
        · have := hGm c h; omega
        · omega
      · simp only [natOf]; omega
    · have : j = s.count.toNat := by omega
      subst this
      have := kz.size
      exact (hJ _).2 ⟨b', G2, k012.old kz fun c hc => .inr (by omega), bz, by simpa only [setStep, hk] using vz, fun c hc => ⟨by rcases (hz c hc).1 with h | h; exact .inl h; exact .inr (by omega), (hz c hc).2⟩⟩
  · simp [-getElem?_pos, -Array.getElem?_eq_getElem, -Int.natCast_add, add_spot, and_assoc, Br_dec, -op_box, -op_alloc_118, -op_st_118, -op_alloc_35, -op_st_35, -op_lit_114_1, hk, s12]
    obtain ⟨I2, hI2⟩ : ∃ I2 : Value → World → Prop, ∀ v wz, I2 v wz ↔ ∃ (j b' : Nat) (G2 : Nat → Prop), v = .int .i64 j ∧ (j : Int) ≤ s.count ∧ Frm (fun c => c = mb) w12 wz ∧ wz.heap[mb]? = some (.cells #[ptr b'] 118 (0, 0)) ∧ Ver wz b' hash nl (remN hash s.key s.value t0 j) G2 ∧ (∀ c, G2 c → (G c ∨ w12.heap.size ≤ c) ∧ c < wz.heap.size) := ⟨_, fun _ _ => Iff.rfl⟩
    refine Lp.intro I2 (fun v _ => s.count.toNat - natOf v) ⟨(hI2 _ _).2 ⟨0, bv, G, rfl, by omega, Frm.refl, b12, hV12, fun c hc => ⟨.inl hc, by have := hGm c hc; omega⟩⟩, ?_⟩
    intro wz v hm
    obtain ⟨j, b', G2, rfl, hj, kz, bz, vz, hz⟩ := (hI2 _ _).1 hm
    have sz := kz.get s12 (by omega)
    have hsz2 := (remN_len hV12.1 (k := s.key) (v := s.value) j).2
    simp [-getElem?_pos, -Array.getElem?_eq_getElem, -Int.natCast_add, add_spot, and_assoc, Br_dec, -op_box, -op_alloc_118, -op_st_118, -op_alloc_35, -op_st_35, -op_lit_114_1, sz]
    refine ⟨fun hlt2 => ?_, fun hge => ?_⟩
    · simp [-getElem?_pos, -Array.getElem?_eq_getElem, -Int.natCast_add, add_spot, and_assoc, Br_dec, -op_box, -op_alloc_118, -op_st_118, -op_alloc_35, -op_st_35, -op_lit_114_1, bz, ex1, sz]
      refine SDelete_ok (k := kAt s.key s.value j) vz (by omega) fun b'' wy F' ky vy hy => ?_
      rw [← remN_succ] at vy
      have := kz.size
      refine putSet_ok (ky.get bz fun h => h) fun wx kx zx bx => ?_
      try simp [-getElem?_pos, -Array.getElem?_eq_getElem, -Int.natCast_add, add_spot, and_assoc, Br_dec, -op_box, -op_alloc_118, -op_st_118, -op_alloc_35, -op_st_35, -op_lit_114_1]
      rw [wrap_i64_small (by omega) (by omega)]
      have hy2 : ∀ c, F' c → (G c ∨ w12.heap.size ≤ c) ∧ c < wy.heap.size := fun c hc => ⟨by rcases (hy c hc).1 with h | h; exact (hz c h).1; exact .inr (by omega), (hy c hc).2⟩
      refine ⟨(hI2 _ _).2 ⟨j + 1, b'', F', by simp, by omega, (kz.tr (ky.fst kx)).to fun c hc => hc.elim id id, bx, vy.frame kx fun c hc e => ?_, fun c hc => ⟨(hy2 c hc).1, by have := (hy2 c hc).2; omega⟩⟩, ?_⟩
      · rcases (hy2 c hc).1 with h | h
        · have := hGm c h; omega
        · omega
      · simp only [natOf]; omega
    · have : j = s.count.toNat := by omega
      subst this
      have := kz.size
      exact (hJ _).2 ⟨b', G2, k012.old kz fun c hc => .inr (by omega), bz, by simpa only [setStep, hk] using vz, fun c hc => ⟨by rcases (hz c hc).1 with h | h; exact .inl h; exact .inr (by omega), (hz c hc).2⟩⟩
end Go.Proofs.Ytbghmbbhkoniiaa.S
end
section
/- laws.itemSteps: the reference's versions of sets, as Go's maps. -/
set_option maxRecDepth 100000
set_option maxHeartbeats 2000000
set_option linter.unusedSimpArgs false
set_option linter.unusedVariables false
set_option linter.unusedSectionVars false
namespace Go.Proofs.Ytbghmbbhkoniiaa.I
open Go.Vc Go.Proofs Go.Proofs.Ytbghmbbhkoniiaa Go.Vc.Nd
variable {w w' : World} {v hv : Value} {t : Tr} {F F' G : Nat → Prop} {K : Value → World → Prop} {Kp : KP} {hash : Ky → Nat} {k : Ky} {x : Vl} {l s rb md ml sh : Nat} {r0 mu nl : Bool}
theorem row_int {a : Option Addr} {xs : List Int} (h : Row w a (xs.flatMap fun x => [.int .i64 x])) {i : Nat} (hi : i < xs.length) :
    ∃ bp o cs e fz, a = some ⟨bp, o, none⟩ ∧ w.heap[bp]? = some (.cells cs e fz) ∧ cs[o + i]? = some (.int .i64 xs[i]) := by
  obtain ⟨bp, o, cs, e, fz, rfl, hcs, hsz, hext⟩ := h.part (k := 1) (fun _ => rfl) (by decide) hi
  refine ⟨bp, o, cs, e, fz, rfl, hcs, ?_⟩
  have := congrArg (fun a => a[0]?) hext
  simp only [Array.getElem?_extract] at this
  rw [if_pos (by omega)] at this
  simpa using this
theorem itemSteps_ok {a0 a1 : Option Addr} {c0 c1 : Nat} {values : List Int} {steps : List MStep} (h0 : Row w a0 (values.flatMap fun x => [.int .i64 x])) (h1 : Row w a1 (steps.flatMap MStep.cells)) (hfit : MFit steps) (hn : steps.length < 2 ^ 30) (hnv : values.length < 2 ^ 30)
    (hK : ∀ l w' G, Frm (fun _ => False) w w' → RowsOf ElM w' w.heap.size 30 1 l (versI values steps) G → K l w') : Calls Try.prog 28 #[.slice a0 values.length c0, .slice a1 steps.length c1] w (ret K Kp) := by
  have hE := elM_ok
  refine vc28_calls ?_
  simp only [vc28]
  refine op_mkMap ?_
  have k1 : Frm (fun _ => False) w (w.alloc (.map #[] 0)) := Frm.alloc _ _
  have hm1 : HasMap (w.alloc (.map #[] 0)) kE.enc ev w.heap.size ([] : List (Int × Int)) := hasMap_new w _ _
  generalize hw1 : w.alloc (.map #[] 0) = w1 at *
  have n1 := k1.size
  try simp [-getElem?_pos, -Array.getElem?_eq_getElem, -Int.natCast_add, add_spot, and_assoc, Br_dec, -op_box, -op_alloc_82, -op_st_82, -op_lit_28_1]
  obtain ⟨I0, hI0⟩ : ∃ I : Value → World → Prop, ∀ v wl, I v wl ↔ ∃ (i : Nat) (D : List (Int × Int)), v = .int .i64 i ∧ i ≤ values.length ∧ Frm (fun _ => False) w wl ∧ HasMap wl kE.enc ev w.heap.size D ∧ Tells D (funFirst (values.take i)) := ⟨_, fun _ _ => Iff.rfl⟩
  refine Lp.intro I0 (fun v _ => values.length - natOf v) ⟨(hI0 _ _).2 ⟨0, [], rfl, by omega, k1, hm1, tells_nil⟩, ?_⟩
  intro wl0 v0 hl0
  obtain ⟨i0, D0, rfl, hi0, k0, hm0, ht0⟩ := (hI0 _ _).1 hl0
  simp only [op_lss, Br_dec]
  refine ⟨fun hlt0 => ?_, fun hge0 => ?_⟩
  · have hi0' : i0 < values.length := by omega
    obtain ⟨bp, o, cs, e, fz, rfl, hcs, hki⟩ := row_int (h0.frame k0 fun _ _ h => h) hi0'
    try simp [-getElem?_pos, -Array.getElem?_eq_getElem, -Int.natCast_add, add_spot, and_assoc, Br_dec, -op_box, -op_alloc_82, -op_st_82, -op_lit_28_1, hcs, hki]
    refine ⟨hi0', ?_⟩
    refine op_update (E := kE) (ev := ev) (k := values[i0]) (v := 0) Try.underlying30 hm0 fun w5 k5 z5 hm5 => ?_
    try simp [-getElem?_pos, -Array.getElem?_eq_getElem, -Int.natCast_add, add_spot, and_assoc, Br_dec, -op_box, -op_alloc_82, -op_st_82, -op_lit_28_1]
    rw [wrap_i64_small (by omega) (by omega)]
    refine ⟨(hI0 _ _).2 ⟨i0 + 1, _, by simp, by omega, k0.old k5 fun c hc => .inr (by omega), hm5, by rw [funFirst_succ hi0']; exact tells_upd hm0.nodup ht0⟩, ?_⟩
    simp only [natOf]; omega
  have hi00 : i0 = values.length := by omega
  subst hi00
  rw [List.take_length] at ht0
  have n0 := k0.size
  have hmlt := hm0.lt
  refine op_row1 (base := w.heap.size) (u := [.map (some w.heap.size)]) (y := funFirst values) (G2 := (· = w.heap.size)) hE apMap (lit_28_1 rfl) rfl ⟨_, _, rfl, hm0, ht0, rfl⟩ (fun c hc => by omega) n0 fun l2 w2 k2 hR2 ho2 => ?_
  obtain ⟨a2, c2, hl2, _⟩ := hR2.slice
  try simp [-getElem?_pos, -Array.getElem?_eq_getElem, -Int.natCast_add, add_spot, and_assoc, Br_dec, -op_box, -op_alloc_82, -op_st_82, -op_lit_28_1]
  obtain ⟨I, hI⟩ : ∃ I : Value → Value → World → Prop, ∀ l v wl, I l v wl ↔ ∃ (i : Nat) (G : Nat → Prop), v = .int .i64 i ∧ i ≤ steps.length ∧ Frm (fun _ => False) w wl ∧ RowsOf ElM wl w.heap.size 30 1 l (versI values (steps.take i)) G := ⟨_, fun _ _ _ => Iff.rfl⟩
  refine Lp.intro I (fun _ v _ => steps.length - natOf v) ⟨(hI _ _ _).2 ⟨0, _, rfl, by omega, k0.no k2, hR2⟩, ?_⟩
  intro wl l v hl
  obtain ⟨i, G, rfl, hi, kl, hR⟩ := (hI _ _ _).1 hl
  simp only [op_lss, Br_dec]
  refine ⟨fun hlt' => ?_, fun hnl' => ?_⟩
  rotate_left
  · have : i = steps.length := by omega
    subst this
    rw [List.take_length] at hR
    exact hK l wl G kl hR
  have hi' : i < steps.length := by omega
  have htk : steps.take (i + 1) = steps.take i ++ [steps[i]] := List.take_succ_eq_append_getElem hi'
  obtain ⟨f1, f2, f3, f4, f5⟩ := hfit i hi'
  obtain ⟨bp, o, cs, e, fz, rfl, hcs, hsz, hext⟩ := (h1.frame kl (fun _ _ h => h)).part mcells_len (by decide) hi'
  generalize hst : steps[i] = s at *
  have hlow := hR.own_lt
  have nl := kl.size
  simp [-getElem?_pos, -Array.getElem?_eq_getElem, -Int.natCast_add, add_spot, and_assoc, Br_dec, -op_box, -op_alloc_82, -op_st_82, -op_lit_28_1, hcs, hsz, hext]
  refine ⟨hi', ?_⟩
  refine op_alloc_ok (z := .agg #[.int .u8 0, .int .i64 0, .int .i64 0, .int .i64 0, .int .i64 0]) (by kernel_rfl) fun w5 k5 z5 b5 => ?_
  simp only [cells_agg] at b5
  refine op_storeN_ok (n := 5) (by kernel_rfl) b5 rfl (by decide) (by simp [MStep.cells]) fun w6 k6 z6 b6 => ?_
  have b6 : w6.heap[wl.heap.size]? = some (.cells #[.int .u8 s.kind, .int .i64 s.fro, .int .i64 s.key, .int .i64 s.value, .int .i64 s.count] 82 (0, 0)) := by
    rw [ow_all (by simp [MStep.cells])] at b6; simpa [MStep.cells] using b6
  have n5 := k5.size
  have k56 : Frm (fun _ => False) wl w6 := k5.old k6 fun c hc => .inr (by omega)
  have hR6 := hR.still hE (k56.no (Frm.drew w6))
  have hlv : (versI values (steps.take i)).length = i + 1 := by rw [versI, vers_len, List.length_take]; omega
  obtain ⟨q, hq⟩ : ∃ q : Nat, s.fro = q := ⟨s.fro.toNat, by omega⟩
  have hq1 : q < (versI values (steps.take i)).length := by omega
  obtain ⟨u, g, c, cur, hlg, hg1, hg2, hg3, hg4, hg5, bv, D, hub, hV, htD, hGb⟩ := hR6.get hq1
  subst hlg hub
  have hg0 : cur[q]? = some (.map (some bv)) := by have := hg3 0 (by decide); simpa using this
  have hg1 : w6.heap[g]? = some (.cells cur 30 (0, 0)) := hg1
  generalize ht : (versI values (steps.take i))[q] = m0 at htD
  have hnext : versI values (steps.take (i + 1)) = versI values (steps.take i) ++ [funStep m0 s] := by
    have e1 : (vers funStep MStep.ref (funFirst values) (steps.take i))[s.ref]? = some m0 := by
      have : s.ref = q := by simp [MStep.ref, hq]
      rw [this, ← ht]; exact List.getElem?_eq_getElem hq1
    rw [htk, versI, vers_snoc, e1]; rfl
  have hx5 := cells5 s
  simp [-getElem?_pos, -Array.getElem?_eq_getElem, -Int.natCast_add, add_spot, and_assoc, Br_dec, -op_box, -op_alloc_82, -op_st_82, -op_lit_28_1, b6, hq, hg1, hg0, hx5]
  refine ⟨hq1, ?_⟩
  rw [← hq]
  refine mapAfter_ok hV htD f1 f4 f5 fun b' D' w7 k7 nb' hm7 ht7 => ?_
  have k67 := Frm.dr k7
  have hml := hm7.lt
  have n7 := k67.size
  have n6 := k56.size
  have nb'' : w6.heap.size ≤ b' := nb'
  refine op_push (u := [.map (some b')]) (G2 := (· = b')) hE apMap (lit_28_1 rfl) rfl (fun x hx => by rw [List.mem_singleton.1 hx]; rfl) (hR.still hE (k56.no k67)) ⟨b', D', rfl, hm7, ht7, rfl⟩ (fun c hc => by omega) (fun b hb hc => by have := hlow b hb; omega) (by omega) (by omega) fun l10 w10 k10 hR10 ho10 => ?_
  try simp [-getElem?_pos, -Array.getElem?_eq_getElem, -Int.natCast_add, add_spot, and_assoc, Br_dec, -op_box, -op_alloc_82, -op_st_82, -op_lit_28_1]
  rw [wrap_i64_small (by omega) (by omega)]
  refine ⟨(hI _ _ _).2 ⟨i + 1, _, by simp, by omega, (kl.no (k56.no k67)).old k10 fun c hc => .inr (hlow c hc.symm).1, by rw [hnext]; exact hR10⟩, ?_⟩
  simp only [natOf]; omega
end Go.Proofs.Ytbghmbbhkoniiaa.I
end
section
/- ItemHas, laws.FnItemHas. -/
set_option maxRecDepth 100000
set_option maxHeartbeats 2000000
set_option linter.unusedSimpArgs false
set_option linter.unusedVariables false
set_option linter.unusedSectionVars false
namespace Go.Proofs.Ytbghmbbhkoniiaa.S
open Go.Vc Go.Proofs Go.Proofs.Ytbghmbbhkoniiaa Go.Vc.Nd
open Go.Proofs.Ytbghmbbhkoniiaa.I (hval hashOf hashOf_lt mapAwake_ok fits_ok mapTo_ok itemSteps_ok kE)
variable {w w' : World} {v hv : Value} {t : Tr} {F F' G : Nat → Prop} {K : Value → World → Prop} {Kp : KP} {hash : Ky → Nat} {k : Ky} {x : Vl} {l s rb md ml sh : Nat} {r0 mu nl : Bool}
def b1 (b : Bool) : List Value := [.bool b]
theorem b1_len (b : Bool) : (b1 b).length = 1 := rfl
theorem b1_one (b : Bool) : ∀ u ∈ b1 b, u.oneCell' = true := fun u hu => by rw [List.mem_singleton.1 hu]; rfl
theorem apBool : apOf Try.prog 49 = some (4, 1, 1) := by kernel_rfl
def hasOf (m : Int → Option Int) (k : Int) : Bool := (m k).isSome
theorem itemHas_ok {a1 a2 a3 : Option Addr} {c1 c2 c3 v : Nat} {values asked : List Int} {steps : List MStep} {m : Int → Option Int} (h1 : Row w a1 (values.flatMap i1)) (h2 : Row w a2 (steps.flatMap MStep.cells)) (hfit : MFit steps) (hc : values.length + mcost steps ≤ 900000)
    (h3 : Row w a3 (asked.flatMap i1)) (hn : asked.length < 2 ^ 31) (hm : (versI values steps)[v]? = some m) (hK : ∀ l2 w', Frm (fun _ => False) w w' → FRow b1 w' w.heap.size 4 1 l2 (asked.map (hasOf m)) → K l2 w') :
    Calls Try.prog 29 #[hval md ml sh, .slice a1 values.length c1, .slice a2 steps.length c2, .int .i64 v, .slice a3 asked.length c3] w (ret K Kp) := by
  refine vc29_calls ?_
  simp only [vc29]
  refine op_box_ok fun w1 k1 z1 b1' => ?_
  simp only [hval, cells_agg] at b1'
  have hx3 : (#[Value.int .u32 (md : Int), .int .u32 (ml : Int), .int .u8 (sh : Int)] : Array Value).extract 0 3 = #[.int .u32 md, .int .u32 ml, .int .u8 sh] := rfl
  try simp [-getElem?_pos, -Array.getElem?_eq_getElem, -Int.natCast_add, add_spot, and_assoc, Br_dec, -op_box, -op_lit_49_1, b1', hx3]
  refine setsOf_ok (md := md) (ml := ml) (sh := sh) (h1.frame k1 fun _ _ h => h) (h2.frame k1 fun _ _ h => h) hfit hc fun l2 w2 G2 k2 hR2 => ?_
  have hlt := hashOf_lt md ml sh
  have hT := versS_len (hashOf md ml sh) values steps
  have hvl : v < steps.length + 1 := by have := (List.getElem?_eq_some_iff.1 hm).1; rw [versI_len] at this; exact this
  have hIs := is_versS hlt values steps v (List.getElem?_eq_getElem (by omega)) hm
  obtain ⟨u, g, c, cur, hlg, hg1, hg2, hg3, hg4, hg5, bv, hub, hV⟩ := hR2.get (j := v) (by omega)
  subst hlg hub
  rw [Nat.mul_one] at hg4 hg5
  generalize (versS (hashOf md ml sh) values steps)[v]'(by omega) = t at *
  have k02 := k1.no k2
  have n2 := k02.size
  rw [hT]
  have e1 : ¬ ((v : Int) < 0) := by omega
  have e2 : ¬ (((steps.length + 1 : Nat) : Int) ≤ (v : Int)) := by omega
  try simp [-getElem?_pos, -Array.getElem?_eq_getElem, -Int.natCast_add, add_spot, and_assoc, Br_dec, -op_box, -op_lit_49_1, e1, e2]
  have hr3 := h3.frame k02 fun _ _ h => h
  obtain ⟨I, hI⟩ : ∃ I : Value → Value → World → Prop, ∀ l2 s wl, I l2 s wl ↔ ∃ i : Nat, s = .int .i64 i ∧ i ≤ asked.length ∧ Frm (fun _ => False) w2 wl ∧ FRow b1 wl w2.heap.size 4 1 l2 ((asked.take i).map (hasOf m)) := ⟨_, fun _ _ _ => Iff.rfl⟩
  refine Lp.intro I (fun _ s _ => asked.length - natOf s) ⟨(hI _ _ _).2 ⟨0, rfl, by omega, Frm.refl, rows_nil⟩, ?_⟩
  intro wl l2 s hl
  obtain ⟨i, rfl, hi, kl, hRb⟩ := (hI _ _ _).1 hl
  simp only [op_lss, Br_dec]
  refine ⟨fun hlt' => ?_, fun hge => ?_⟩
  rotate_left
  · have : i = asked.length := by omega
    subst this
    rw [List.take_length] at *
    exact hK l2 wl (k02.no kl) (hRb.base_le n2)
  have hi' : i < asked.length := by omega
  have htk : asked.take (i + 1) = asked.take i ++ [asked[i]] := List.take_succ_eq_append_getElem hi'
  obtain ⟨bp, o, cs, e, fz, rfl, hcs, hki⟩ := row_int (hr3.frame kl fun _ _ h => h) hi'
  have hgl := kl.get hg1 fun h => h
  have nl' := kl.size
  have lo2 := hRb.own_lt
  try simp [-getElem?_pos, -Array.getElem?_eq_getElem, -Int.natCast_add, add_spot, and_assoc, Br_dec, -op_box, -op_lit_49_1, hcs, hki, hgl, hg4, hg5]
  refine ⟨hi', by omega, ?_⟩
  refine Has_ok (k := asked[i]) (hV.still kl) fun w3 k3 => ?_
  rw [is_un_get hIs]
  have n3 := k3.size
  try simp [-getElem?_pos, -Array.getElem?_eq_getElem, -Int.natCast_add, add_spot, and_assoc, Br_dec, -op_box, -op_lit_49_1]
  have htl2 : ((asked.take i).map (hasOf m)).length = i := by simp; omega
  refine op_pushF (f := b1) (y := hasOf m asked[i]) apBool (lit_49_1 rfl) b1_len b1_one (frow_still hRb k3) (by rw [htl2]; omega) (by omega) fun l4 w5 k5 hR5 ho5 => ?_
  try simp [-getElem?_pos, -Array.getElem?_eq_getElem, -Int.natCast_add, add_spot, and_assoc, Br_dec, -op_box, -op_lit_49_1]
  rw [wrap_i64_small (by omega) (by omega)]
  refine ⟨(hI _ _ _).2 ⟨i + 1, by simp, by omega, ((kl.no k3).old k5 fun c hc => .inr (by have := lo2 c hc.symm; omega)), by rw [htk, List.map_append]; exact hR5⟩, ?_⟩
  simp only [natOf]; omega
theorem law_has {a1 a2 a3 : Option Addr} {c1 c2 c3 ver : Nat} {values asked : List Int} {steps : List MStep} (h1 : Row w a1 (values.flatMap i1)) (h2 : Row w a2 (steps.flatMap MStep.cells)) (h3 : Row w a3 (asked.flatMap i1)) (hver : ver < 256) (hK : ∀ w', Frm (fun _ => False) w w' → K (.bool true) w') :
    Calls Try.prog 10 #[hval md ml sh, .slice a1 values.length c1, .slice a2 steps.length c2, .int .u8 ver, .slice a3 asked.length c3] w (ret K Kp) := by
  refine vc10_calls ?_
  simp only [vc10]
  refine op_box_ok fun w1 k1 z1 b1' => ?_
  simp only [hval, cells_agg] at b1'
  have hx3 : (#[Value.int .u32 (md : Int), .int .u32 (ml : Int), .int .u8 (sh : Int)] : Array Value).extract 0 3 = #[.int .u32 md, .int .u32 ml, .int .u8 sh] := rfl
  try simp [-getElem?_pos, -Array.getElem?_eq_getElem, -Int.natCast_add, add_spot, and_assoc, Br_dec, -op_box, -op_lit_49_1, b1', hx3]
  refine ⟨fun _ => hK w1 k1, fun hle => ⟨fun _ => hK w1 k1, fun hle2 => ⟨fun _ => hK w1 k1, fun hle3 => ?_⟩⟩⟩
  have hr1 := h1.frame k1 fun _ _ h => h
  have hs1 := h2.frame k1 fun _ _ h => h
  have hawake : ∀ {wz}, Frm (fun _ => False) w wz → Calls Try.prog 13 #[] wz (ret K Kp) := fun {wz} kz => mapAwake_ok fun w3 k3 => hK w3 (kz.no k3)
  refine fits_ok (md := md) (ml := ml) (sh := sh) hs1 (by omega) (fun w2 k2 => ?_) fun hfit h12 hsh w2 k2 => ?_
  · try simp [-getElem?_pos, -Array.getElem?_eq_getElem, -Int.natCast_add, add_spot, and_assoc, Br_dec, -op_box, -op_lit_49_1]
    exact hawake (k1.no k2)
  have b2 := k2.get b1' fun h => h
  have k02 := k1.no k2
  have hr2 := hr1.frame k2 fun _ _ h => h
  have hs2 := hs1.frame k2 fun _ _ h => h
  try simp [-getElem?_pos, -Array.getElem?_eq_getElem, -Int.natCast_add, add_spot, and_assoc, Br_dec, -op_box, -op_lit_49_1]
  refine ⟨fun _ => hawake k02, fun h2000 => ⟨fun _ => hawake k02, fun h300 => ?_⟩⟩
  refine itemSteps_ok hr2 hs2 hfit.m (by omega) (by omega) fun l3 w3 G3 k3 hR3 => ?_
  have b3 := k3.get b2 fun h => h
  have hM := versI_len values steps
  obtain ⟨a3', c3', hl3, _⟩ := id hR3.slice
  subst hl3
  have k03 := k02.no k3
  have hv : (ver : Int).tmod ((steps.length + 1 : Nat) : Int) = ((ver % (steps.length + 1) : Nat) : Int) := rfl
  have hvl : ver % (steps.length + 1) < steps.length + 1 := Nat.mod_lt _ (by omega)
  generalize ver % (steps.length + 1) = v at *
  have e0 : IntKind.i64.wrap (ver : Int) = ver := wrap_i64_small (by omega) (by omega)
  have e1 : ¬ (((steps.length + 1 : Nat) : Int) = 0) := by omega
  rw [hM]
  try simp [-getElem?_pos, -Array.getElem?_eq_getElem, -Int.natCast_add, add_spot, and_assoc, Br_dec, -op_box, -op_lit_49_1, e0, e1, hv, b3, hx3]
  have k3d : Frm (fun _ => False) w2 w3.drew := k3.no (Frm.drew _)
  refine mapTo_ok (hs2.frame k3d fun _ _ h => h) (by omega) fun l4 w4 k4 hR4 => ?_
  have k34 := Frm.dr k4
  have b4 := k34.get b3 fun h => h
  obtain ⟨a4, c4, rfl, hc4, _, hr4, _⟩ := hR4.flat
  have hcost := hfit.cost
  have hm : (versI values steps)[v]? = some ((versI values steps)[v]'(by omega)) := List.getElem?_eq_getElem (by omega)
  have hv4 := (h1.frame (k03.no k34) fun _ _ h => h)
  have hk4 := (h3.frame (k03.no k34) fun _ _ h => h)
  obtain ⟨u', g', c', cs', hle2, hcs', hu', hg', _, _, bm, D, hbm, hMap, htD, _⟩ := hR3.get (j := v) (by omega)
  cases hle2
  subst hbm
  have q1 : cs'[v]? = some (.map (some bm)) := by have := hg' 0 (by decide); simpa using this
  generalize (versI values steps)[v]'(by omega) = m at hm htD
  try simp [-getElem?_pos, -Array.getElem?_eq_getElem, -Int.natCast_add, add_spot, and_assoc, Br_dec, -op_box, -op_lit_49_1, b4, hx3]
  refine itemHas_ok (md := md) (ml := ml) (sh := sh) hv4 hr4 hfit.m (by omega) hk4 (by omega) hm fun l6 w5 k5 hR6 => ?_
  obtain ⟨g6, c6, hl6⟩ : ∃ a c, l6 = .slice a asked.length c := by obtain ⟨a, c, h, _⟩ := hR6.slice; exact ⟨a, c, by simpa using h⟩
  have k35 := k34.no k5
  have k05 := k03.no k35
  rw [hl6]
  try simp [-getElem?_pos, -Array.getElem?_eq_getElem, -Int.natCast_add, add_spot, and_assoc, Br_dec, -op_box, -op_lit_49_1]
  rw [← hl6]
  obtain ⟨I, hI⟩ : ∃ I : Value → World → Prop, ∀ v wl, I v wl ↔ ∃ i : Nat, v = .int .i64 i ∧ i ≤ asked.length ∧ Frm (fun _ => False) w5 wl := ⟨_, fun _ _ => Iff.rfl⟩
  refine Lp.intro I (fun v _ => asked.length - natOf v) ⟨(hI _ _).2 ⟨0, rfl, by omega, Frm.refl⟩, ?_⟩
  intro wl s hl
  obtain ⟨i, rfl, hi, kl⟩ := (hI _ _).1 hl
  simp only [op_lss, Br_dec]
  refine ⟨fun hlt' => ?_, fun hnl' => hawake (k05.no kl)⟩
  have hi' : i < asked.length := by omega
  obtain ⟨bp, o, cs, e, fz, rfl, hcs, hki⟩ := row_int (h3.frame (k05.no kl) fun _ _ h => h) hi'
  have hcsl := (k35.no kl).get hcs' fun h => h
  obtain ⟨x6, d6, e6, he6, y6, z6, _, _⟩ := frow_get (frow_still hR6 kl) (j := i) (by simpa using hi')
  have q6 : e6[i]? = some (.bool (hasOf m asked[i])) := by have := z6 0 (by decide); simpa [b1] using this
  rw [he6]
  simp only [List.length_map]
  try simp [-getElem?_pos, -Array.getElem?_eq_getElem, -Int.natCast_add, add_spot, and_assoc, Br_dec, -op_box, -op_lit_49_1, hcs, hki, hcsl, q1]
  refine ⟨hi', by omega, ?_⟩
  refine op_lookup (E := kE) (ev := Go.Proofs.Ytbghmbbhkoniiaa.I.ev) (k := asked[i]) (z := .int .i64 0) Try.underlying30 (by kernel_rfl) (hMap.frame (k35.no kl) fun h => h) ?_
  rw [tells_look hMap.nodup htD]
  have hha : (m asked[i]).isSome = hasOf m asked[i] := rfl
  rw [hha]
  try simp [-getElem?_pos, -Array.getElem?_eq_getElem, -Int.natCast_add, add_spot, and_assoc, Br_dec, -op_box, -op_lit_49_1, y6, q6]
  rw [wrap_i64_small (by omega) (by omega)]
  refine ⟨hi', (hI _ _).2 ⟨i + 1, by simp, by omega, kl⟩, ?_⟩
  simp only [natOf]; omega
end Go.Proofs.Ytbghmbbhkoniiaa.S
end
section
/- Five arguments that have been read as data. -/
set_option linter.unusedVariables false
namespace Go.RowKit
open Go.ChangeShapes Go.WideShapes Go.ChangeAt Go.WideElems
variable {H : Type} {enc : TypeId × Value → H} {P : Program} {w : World} {base : Nat} {spare : Nat → Bool} {held : Bool}
theorem trodAll_five {t0 t1 t2 t3 t4 : TypeId} {args : Array Value} {ds : List (DataW H)} {ps : List MemPlace} (h : DataW.TrodAll enc P w base spare held [t0, t1, t2, t3, t4] args.toList ds ps) :
    ∃ v0 v1 v2 v3 v4 d0 d1 d2 d3 d4 p0 p1 p2 p3 p4, args = #[v0, v1, v2, v3, v4] ∧ ds = [d0, d1, d2, d3, d4] ∧ ps = p0 ++ p1 ++ p2 ++ p3 ++ p4 ∧ DataW.Trod enc P w base spare held t0 v0 d0 p0 ∧ DataW.Trod enc P w base spare held t1 v1 d1 p1 ∧
      DataW.Trod enc P w base spare held t2 v2 d2 p2 ∧ DataW.Trod enc P w base spare held t3 v3 d3 p3 ∧ DataW.Trod enc P w base spare held t4 v4 d4 p4 := by
  obtain ⟨v0, l0, d0, e0, p0, q0, hargs, rfl, rfl, h0, r0⟩ := trodAll_cons h
  obtain ⟨v1, l1, d1, e1, p1, q1, rfl, rfl, rfl, h1, r1⟩ := trodAll_cons r0
  obtain ⟨v2, l2, d2, e2, p2, q2, rfl, rfl, rfl, h2, r2⟩ := trodAll_cons r1
  obtain ⟨v3, l3, d3, e3, p3, q3, rfl, rfl, rfl, h3, r3⟩ := trodAll_cons r2
  obtain ⟨v4, l4, d4, e4, p4, q4, rfl, rfl, rfl, h4, r4⟩ := trodAll_cons r3
  obtain ⟨rfl, rfl, rfl⟩ := trodAll_nil r4
  exact ⟨v0, v1, v2, v3, v4, d0, d1, d2, d3, d4, p0, p1, p2, p3, p4, by cases args; simp_all, rfl, by simp, h0, h1, h2, h3, h4⟩
end Go.RowKit
end
