/- slices.Reverse. -/
import Derived.Test.YtjlaclgikmmmlaaLSl
set_option maxRecDepth 100000
set_option linter.unusedSimpArgs false
set_option linter.unusedVariables false
set_option maxHeartbeats 4000000
namespace Go.Proofs.Ytjlaclgikmmmlaa
open Go.Vc Go.Proofs
variable {w w' w0 : World} {F F' G : Nat → Prop} {K : Value → World → Prop} {Kp : KP}
theorem reverse_ok {base n : Nat} {v : Value} {xs : List Int} (hown : w.ownsRow base 2 1 v n (i64s xs)) (hx : n < 2 ^ 31)
    (hK : ∀ w', Frm (fun b => some b = v.ownBlock) w w' → w'.ownsRow base 2 1 v n (i64s xs.reverse) → K (.tuple #[]) w') : Calls Try.prog 50 #[v] w (ret K Kp) := by
  have hlen : xs.length = n := by have := hown.1; simpa [i64s] using this
  refine vc50_calls ?_
  obtain ⟨hl, ⟨rfl, rfl⟩ | ⟨g, cap, cur, rfl, hb, hg, hnc, hcm, hcs, htk⟩⟩ := id hown
  · have : xs = [] := List.eq_nil_of_length_eq_zero hlen
    subst this
    simp [-getElem?_pos, -Array.getElem?_eq_getElem, List.getElem?_cons_zero, vc50]
    refine Lp.intro (fun i j w' => i = .int .i64 0 ∧ j = .int .i64 (IntKind.i64.wrap (-1)) ∧ w' = w) (fun _ _ _ => 0) ⟨⟨rfl, rfl, rfl⟩, ?_⟩
    rintro wl i j ⟨rfl, rfl, rfl⟩
    have e : IntKind.i64.wrap (-1) = -1 := by rw [IntKind.wrap_i64]; rfl
    simp [e, Br_dec]
    exact hK _ Frm.refl own_nil
  · have hcur : ∀ k, k < n → cur[k]? = some (.int .i64 (xs[k]?.getD 0)) := fun k hk => by
      have h1 : (cur.toList.take (n * 1))[k]? = (i64s xs)[k]? := by rw [htk]
      rw [List.getElem?_take, if_pos (by omega), i64s_get (by omega)] at h1
      simpa [show k < xs.length from by omega] using h1
    simp [-getElem?_pos, -Array.getElem?_eq_getElem, List.getElem?_cons_zero, vc50]
    obtain ⟨I, hI⟩ : ∃ I : Value → Value → World → Prop, ∀ u v w', I u v w' ↔ ∃ (i : Nat) (cur' : Array Value), u = .int .i64 i ∧ v = .int .i64 ((n : Int) - 1 - i) ∧ 2 * i ≤ n + 1 ∧ Frm (fun b => b = g) w w' ∧ w'.heap[g]? = some (.cells cur' 2 (0, 0)) ∧ cur'.size = cur.size ∧
      ∀ k, k < n → cur'[k]? = some (.int .i64 (if k < i ∨ n ≤ k + i then xs[n - 1 - k]?.getD 0 else xs[k]?.getD 0)) := ⟨_, fun _ _ _ => Iff.rfl⟩
    obtain ⟨μ, hμ⟩ : ∃ μ : Value → Value → World → Nat, ∀ (j : Nat) v w, μ (.int .i64 j) v w = n - j := ⟨fun v _ _ => n - (match v with | .int _ j => j.toNat | _ => 0), fun _ _ _ => rfl⟩
    rw [wrap_in (by omega) (by omega)]
    refine Lp.intro I μ ⟨(hI _ _ _).2 ⟨0, cur, rfl, by simp, by omega, Frm.refl, hg, rfl, fun k hk => by rw [if_neg (by omega)]; exact hcur k hk⟩, ?_⟩
    intro wl u v hIl
    obtain ⟨i, cur', rfl, rfl, hi, hf, hg', hsz, hk'⟩ := (hI _ _ _).1 hIl
    simp only [op_lss, Br_dec]
    refine ⟨fun hlt => ?_, fun hnl => ?_⟩
    · have hj : (((n : Int) - 1 - i)) = ((n - 1 - i : Nat) : Int) := by omega
      have e1 := hk' i (by omega)
      have e2 := hk' (n - 1 - i) (by omega)
      rw [if_neg (by omega)] at e1 e2
      have hcc : n ≤ cur'.size := by omega
      rw [hj]
      simp [-getElem?_pos, -Array.getElem?_eq_getElem, List.getElem?_cons_zero, add_spot, hg', e1, e2, heap_upd_same hg', heap_upd_same (w := wl.drew) hg', upd_upd, and_assoc]
      rw [wrap_in (by omega) (by omega), wrap_in (by omega) (by omega)]
      refine ⟨by omega, by omega, by omega, by omega, by omega, (hI _ _ _).2 ⟨i + 1, _, rfl, ?_, by omega, ?_, heap_upd_same (w := wl.drew) hg', by simp [hsz], fun k hk => ?_⟩, ?_⟩
      · congr 1; omega
      · exact (hf.trans (Frm.drew (M := fun _ => False) wl) fun b h _ => h.elim).trans (Frm.upd (M := fun b => b = g) _ _ fun _ => rfl) fun b h _ => h
      · rw [Array.getElem?_setIfInBounds, Array.getElem?_setIfInBounds]
        by_cases h1 : n - 1 - i = k
        · subst h1
          rw [if_pos rfl, if_pos (by simp; omega), if_pos (by omega), show n - 1 - (n - 1 - i) = i from by omega]
        · rw [if_neg h1]
          by_cases h2 : i = k
          · subst h2
            rw [if_pos rfl, if_pos (by omega), if_pos (by omega)]
          · rw [if_neg h2, hk' k hk]
            by_cases h3 : k < i ∨ n ≤ k + i
            · rw [if_pos h3, if_pos (by omega)]
            · rw [if_neg h3, if_neg (by omega)]
      · have e : (i : Int) + 1 = ((i + 1 : Nat) : Int) := rfl
        rw [e, hμ, hμ]; omega
    · refine hK wl (hf.mono fun b h _ => by simp [Value.ownBlock, h]) ⟨by simpa [i64s] using hl, .inr ⟨g, cap, cur', rfl, hb, hg', hnc, hcm, by omega, ?_⟩⟩
      apply List.ext_getElem?
      intro k
      rw [List.getElem?_take]
      by_cases hkn : k < n
      · rw [if_pos (by omega)]
        have h1 := hk' k hkn
        have h2 : (i64s xs.reverse)[k]? = some (.int .i64 (xs[n - 1 - k]?.getD 0)) := by
          rw [i64s_get (by simp; omega)]
          simp [List.getElem_reverse, hlen]
          rw [List.getElem?_eq_getElem (by omega)]; rfl
        rw [h2]
        simp only [Array.getElem?_toList]
        rw [h1]
        congr 2
        by_cases h3 : k < i ∨ n ≤ k + i
        · rw [if_pos h3]
        · rw [if_neg h3, show n - 1 - k = k from by omega]
      · rw [if_neg (by omega), List.getElem?_eq_none (by simp [i64s]; omega)]
end Go.Proofs.Ytjlaclgikmmmlaa
