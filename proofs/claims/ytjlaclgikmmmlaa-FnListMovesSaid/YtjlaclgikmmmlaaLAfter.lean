/- spec.ListAfter. -/
import Derived.Test.YtjlaclgikmmmlaaLRev
set_option maxRecDepth 100000
set_option linter.unusedSimpArgs false
set_option linter.unusedVariables false
set_option maxHeartbeats 8000000
namespace Go.Proofs.Ytjlaclgikmmmlaa
open Go.Vc Go.Proofs
variable {w w' w0 : World} {F F' G : Nat → Prop} {K : Value → World → Prop} {Kp : KP}

theorem op_slice_any {P : Program} {t : TypeId} {len cap s : Nat} {a : Option Addr} {e : TypeId} {k k' : IntKind} {x y : Int} (h : sliceOf P t = some (e, s)) :
    (nice P).op (.slice t (.slice a len cap) (some (.int k x)) (some (.int k' y)) none) w K Kp =
      ((0 ≤ x ∧ x ≤ y ∧ y ≤ (cap : Int)) ∧ K (.slice (if cap = x.toNat then a else a.map fun p => p.add (x.toNat * s)) (y.toNat - x.toNat) (cap - x.toNat)) w) := by
  rw [op_of (c := 0 ≤ x ∧ x ≤ y ∧ y ≤ (cap : Int)) (v := .slice (if cap = x.toNat then a else a.map fun p => p.add (x.toNat * s)) (y.toNat - x.toNat) (cap - x.toNat))]
  simp only [pv, h, cutV, lowV, upV, Option.map_some]
@[simp] theorem sl22 {len cap : Nat} {a : Option Addr} {k k' : IntKind} {x y : Int} : (nice Try.prog).op (.slice 22 (.slice a len cap) (some (.int k x)) (some (.int k' y)) none) w K Kp =
      ((0 ≤ x ∧ x ≤ y ∧ y ≤ (cap : Int)) ∧ K (.slice (if cap = x.toNat then a else a.map fun p => p.add (x.toNat * 1)) (y.toNat - x.toNat) (cap - x.toNat)) w) := op_slice_any (e := 2) (s := 1) (by kernel_rfl)

theorem Row.drop {a : Option Addr} {vs : List Value} {x n : Nat} (h : Row w a vs) : Row w (a.map fun p => p.add (x * 1)) ((vs.drop x).take n) := by
  rcases h with rfl | ⟨b, o, cs, e, fz, rfl, h1, h2⟩
  · exact .inl (by simp)
  · refine .inr ⟨b, o + x, cs, e, fz, by simp [add_spot], h1, fun j v hv => ?_⟩
    rw [List.getElem?_take] at hv
    split at hv
    · rw [List.getElem?_drop] at hv
      rw [Nat.add_assoc]; exact h2 _ _ hv
    · cases hv
theorem IsInts.cut {a : Option Addr} {c : Nat} {xs : List Int} {i e : Nat} (h : IsInts w (.slice a xs.length c) xs) (hi : i ≤ e) (he : e ≤ xs.length) :
    IsInts w (.slice (if c = i then a else a.map fun p => p.add (i * 1)) (e - i) (c - i)) (cut xs i e) := by
  obtain ⟨a', c', hu, hc, hr, ha⟩ := h
  obtain ⟨rfl, _, rfl⟩ := Value.slice.inj hu
  have hl := cut_length hi he
  have hlist : i64s (Ytjlaclgikmmmlaa.cut xs i e) = ((i64s xs).drop i).take (e - i) := by
    simp only [i64s, Ytjlaclgikmmmlaa.cut, List.drop_take, List.map_take, List.map_drop]
  refine ⟨_, _, by rw [hl], by omega, ?_, fun hn => ?_⟩
  · by_cases hci : c = i
    · have : Ytjlaclgikmmmlaa.cut xs i e = [] := List.eq_nil_of_length_eq_zero (by omega)
      rw [this]; exact .inl rfl
    · rw [if_neg hci, hlist]; exact Row.drop hr
  · have : xs = [] := ha (by
      split at hn
      · exact hn
      · simpa using hn)
    subst this
    exact List.eq_nil_of_length_eq_zero (by simp at he; omega)

theorem after_ok {u : Value} {xs : List Int} {s : Step} (hu : IsInts w u xs) (hub : ∀ b, u.ownBlock = some b → b < w.heap.size) (hx : xs.length < 2 ^ 20) (hfit : s.Fits) (hidx : 4 ≤ s.kind → s.index ≤ 100000)
    (hK : ∀ v w', (∀ {M}, Frm M w w') → IsInts w' v (after xs s).1 → (∀ b, v.ownBlock = some b → (u.ownBlock = some b ∨ w.heap.size ≤ b) ∧ b < w'.heap.size) → K (.tuple #[v, .bool (after xs s).2]) w') :
    Calls Try.prog 24 #[u, .agg s.cells.toArray] w (ret K Kp) := by
  refine vc24_calls ?_
  obtain ⟨kind, fro, index, fin, value⟩ := s
  obtain ⟨hk5, hk4⟩ := hfit
  simp only at hk5 hk4 hidx
  simp only [Step.cells]
  have hfa : ∀ {M} o, Frm M w (w.alloc o) := fun o => Frm.alloc _ _
  have hkc : kind = 0 ∨ kind = 1 ∨ kind = 2 ∨ kind = 3 ∨ kind = 4 ∨ kind = 5 := by omega
  obtain ⟨a, c, rfl, hc, hr, ha⟩ := id hu
  have own_app : ∀ {base n : Nat} {v : Value} {w1 : World} {ys zs : List Int} {a : Option Addr} {c : Nat} {K' : Value → World → Prop}, w1.ownsRow base 2 1 v n (i64s ys) → Row w1 a (i64s zs) → (a = none → zs = []) → ys.length + zs.length < 2 ^ 31 → base ≤ w1.heap.size →
      (∀ v' w', w'.ownsRow base 2 1 v' (ys ++ zs).length (i64s (ys ++ zs)) → Frm (fun b => some b = v.ownBlock) w1 w' → K' v' w') →
      (nice Try.prog).op (.blt .append [22, 22] 22 [v, .slice a zs.length c]) w1 K' Kp := fun hown hrow hnone hlen hbase hK' => by
    rename_i base n v w1 ys zs a c K'
    have hn : ys.length = n := by have := hown.1; simpa [i64s] using this
    refine op_append (base := base) (size := 1) (n := n) (m := zs.length) (xs := i64s ys) (news := i64s zs) ap22 hown hrow (by simp [i64s]) (by simp [i64s]) (fun h => by rw [hnone h]; rfl) (by omega) hbase fun v' w' h1 h2 h3 => ?_
    refine hK' v' w' ?_ h2
    rw [List.length_append, hn]
    simpa [i64s] using h1
  have one_row : ∀ {w1 : World} {y : Int} {o : Nat}, w1.heap[o]? = some (.cells #[.int .i64 y] 2 (0, 0)) → Row w1 (some ⟨o, 0, none⟩) (i64s [y]) := fun h => .inr ⟨_, _, _, _, _, rfl, h, fun j v hj => by simpa [i64s] using hj⟩
  rcases hkc with rfl | rfl | rfl | rfl | rfl | rfl
  · simp [-getElem?_pos, -Array.getElem?_eq_getElem, List.getElem?_cons_zero, vc24, add_spot, hp_alloc_eq, Br_dec]
    refine ⟨?_, ?_⟩
    · have hf1 : ∀ {M}, Frm M w (w.drew.alloc (.cells #[Value.int IntKind.u8 0, Value.int IntKind.i64 fro, Value.int IntKind.i64 index, Value.int IntKind.i64 fin, Value.int IntKind.i64 value] 59)) := (Frm.drew w).trans (Frm.alloc _ _) fun _ h _ => h
      refine sclone_ok (hu.frame (hf1 (M := fun _ => False)) (by simp)) (by omega) fun v w1 hf2 hown => ?_
      have hs1 := hf2.get (M := fun _ => False) (hp_alloc_eq (w := w.drew) (b := w.heap.size) rfl) (by simp)
      have hsz := (hf2 (M := fun _ => False)).size
      simp only [size_alloc, heap_drew] at hsz hown
      simp [-getElem?_pos, -Array.getElem?_eq_getElem, List.getElem?_cons_zero, hs1]
      have hfr : ∀ {M}, Frm M w (w1.alloc (.cells #[.int .i64 value] 2)) := fun {M} => ((hf1 (M := M)).trans (hf2 (M := M)) fun _ h _ => h).trans (Frm.alloc _ _) fun _ h _ => h
      refine own_app (ys := xs) (zs := [value]) (own_frame hown (Frm.alloc (M := fun _ => False) _ _) (by simp)) (one_row hp_alloc_new) (fun h => nomatch h) (by simp; omega) (by simp; omega) fun v' w' hv' hf' => ?_
      have hb := own_lt hv'
      have hb0 := own_lt hown
      exact hK v' w' (fun {M} => (hfr (M := M)).trans hf' fun k hk hlt => by have := (hb0 k hk.symm).1; omega) (own_ints hv') fun b hb' => ⟨.inr (by have := (hb b hb').1; omega), (hb b hb').2⟩
    · have hf1 : ∀ {M}, Frm M w ((w.drew.alloc (.cells #[Value.int IntKind.u8 0, Value.int IntKind.i64 fro, Value.int IntKind.i64 index, Value.int IntKind.i64 fin, Value.int IntKind.i64 value] 59)).alloc (.cells #[.int .i64 value] 2)) := ((Frm.drew w).trans (Frm.alloc _ _) fun _ h _ => h).trans (Frm.alloc _ _) fun _ h _ => h
      refine sclone_ok (hu.frame (hf1 (M := fun _ => False)) (by simp)) (by omega) fun v w1 hf2 hown => ?_
      have hs1 := hf2.get (M := fun _ => False) (hp_alloc_eq (w := w.drew.alloc (.cells #[Value.int IntKind.u8 0, Value.int IntKind.i64 fro, Value.int IntKind.i64 index, Value.int IntKind.i64 fin, Value.int IntKind.i64 value] 59)) (o := .cells #[.int .i64 value] 2) (b := w.heap.size + 1) (by simp)) (by simp)
      have hsz := (hf2 (M := fun _ => False)).size
      simp only [size_alloc, heap_drew] at hsz hown
      refine own_app (ys := xs) (zs := [value]) hown (one_row hs1) (fun h => nomatch h) (by simp; omega) (by omega) fun v' w' hv' hf' => ?_
      have hb := own_lt hv'
      have hb0 := own_lt hown
      exact hK v' w' (fun {M} => ((hf1 (M := M)).trans (hf2 (M := M)) fun _ h _ => h).trans hf' fun k hk hlt => by have := (hb0 k hk.symm).1; omega) (own_ints hv') fun b hb' => ⟨.inr (by have := (hb b hb').1; omega), (hb b hb').2⟩
  · simp [-getElem?_pos, -Array.getElem?_eq_getElem, List.getElem?_cons_zero, vc24, add_spot, hp_alloc_eq, Br_dec]
    have hown : ((w.alloc (.cells #[Value.int IntKind.u8 1, Value.int IntKind.i64 fro, Value.int IntKind.i64 index, Value.int IntKind.i64 fin, Value.int IntKind.i64 value] 59)).alloc (.cells #[.int .i64 value] 2)).ownsRow w.heap.size 2 1 (.slice (some ⟨w.heap.size + 1, 0, none⟩) 1 1) 1 (i64s [value]) :=
      ⟨rfl, .inr ⟨_, 1, #[.int .i64 value], rfl, by omega, hp_alloc_eq (by simp), Nat.le_refl _, by decide, rfl, rfl⟩⟩
    have hf1 : ∀ {M}, Frm M w ((w.alloc (.cells #[Value.int IntKind.u8 1, Value.int IntKind.i64 fro, Value.int IntKind.i64 index, Value.int IntKind.i64 fin, Value.int IntKind.i64 value] 59)).alloc (.cells #[.int .i64 value] 2)) := (Frm.alloc _ _).trans (Frm.alloc _ _) fun _ h _ => h
    refine own_app (ys := [value]) (zs := xs) hown (hr.frame (hf1 (M := fun _ => False)) (by simp)) ha (by simp; omega) (by simp; omega) fun v' w' hv' hf' => ?_
    have hb := own_lt hv'
    exact hK v' w' (fun {M} => (hf1 (M := M)).trans hf' fun k hk hlt => by have := Option.some.inj hk; simp only at this; omega) (own_ints hv') fun b hb' => ⟨.inr (hb b hb').1, (hb b hb').2⟩
  · by_cases hi : 0 ≤ index ∧ index < xs.length
    · have hres : after xs ⟨2, fro, index, fin, value⟩ = (xs.set index.toNat value, true) := by simp only [after]; rw [if_pos hi]
      rw [hres] at hK
      simp [-getElem?_pos, -Array.getElem?_eq_getElem, List.getElem?_cons_zero, vc24, add_spot, hp_alloc_eq, Br_dec]
      refine ⟨fun h => by omega, fun _ => ⟨fun h => by omega, fun _ => ?_⟩⟩
      have hf1 : ∀ {M}, Frm M w (w.alloc (.cells #[Value.int IntKind.u8 2, Value.int IntKind.i64 fro, Value.int IntKind.i64 index, Value.int IntKind.i64 fin, Value.int IntKind.i64 value] 59)) := Frm.alloc _ _
      refine sclone_ok (hu.frame (hf1 (M := fun _ => False)) (by simp)) (by omega) fun v w1 hf2 hown => ?_
      have hs1 := hf2.get (M := fun _ => False) (hp_alloc_eq (w := w) (b := w.heap.size) rfl) (by simp)
      have hsz := (hf2 (M := fun _ => False)).size
      simp only [size_alloc] at hsz hown
      obtain ⟨hl, ⟨rfl, h0⟩ | ⟨g, cap, cur, rfl, hb, hg, hnc, hcm, hcs, htk⟩⟩ := id hown
      · omega
      · simp [-getElem?_pos, -Array.getElem?_eq_getElem, List.getElem?_cons_zero, hs1, add_spot, hg, and_assoc]
        obtain ⟨k, rfl⟩ : ∃ k : Nat, index = k := ⟨index.toNat, by omega⟩
        have hk : k < xs.length := by omega
        simp only [Int.toNat_natCast] at *
        refine ⟨by omega, by omega, by omega, ?_⟩
        have hfu : Frm (fun b => b = g) w1 (w1.upd g (.cells (cur.setIfInBounds k (.int .i64 value)) 2 (0, 0))) := Frm.upd _ _ fun _ => rfl
        refine hK _ _ (fun {M} => ((hf1 (M := M)).trans (hf2 (M := M)) fun _ h _ => h).trans hfu fun b hb' hlt => by omega) (own_ints (base := w.heap.size) ?_) fun b hb' => ?_
        · refine ⟨by simp [i64s], .inr ⟨g, cap, cur.setIfInBounds k (.int .i64 value), by simp, by omega, heap_upd_same hg, by simpa using hnc, hcm, by simpa using hcs, ?_⟩⟩
          simp only [Array.toList_setIfInBounds, List.length_set, i64s, List.map_set]
          rw [List.take_set, htk]
          rfl
        · have := Option.some.inj hb'
          simp only at this
          have := lt_of_get hg
          exact ⟨.inr (by omega), by simp; omega⟩
    · have hres : after xs ⟨2, fro, index, fin, value⟩ = (xs, false) := by simp only [after]; rw [if_neg hi]
      rw [hres] at hK
      have hf1 : ∀ {M}, Frm M w (w.alloc (.cells #[Value.int IntKind.u8 2, Value.int IntKind.i64 fro, Value.int IntKind.i64 index, Value.int IntKind.i64 fin, Value.int IntKind.i64 value] 59)) := Frm.alloc _ _
      have hK2 := hK _ _ hf1 (hu.frame (hf1 (M := fun _ => False)) (by simp)) fun b hb => ⟨.inl hb, by have := hub b hb; simp; omega⟩
      simp [-getElem?_pos, -Array.getElem?_eq_getElem, List.getElem?_cons_zero, vc24, add_spot, hp_alloc_eq, Br_dec]
      refine ⟨fun _ => hK2, fun _ => ⟨fun _ => hK2, fun _ => by omega⟩⟩
  · have hf1 : ∀ {M}, Frm M w (w.alloc (.cells #[Value.int IntKind.u8 3, Value.int IntKind.i64 fro, Value.int IntKind.i64 index, Value.int IntKind.i64 fin, Value.int IntKind.i64 value] 59)) := Frm.alloc _ _
    by_cases hi : 0 ≤ index ∧ index ≤ fin ∧ fin ≤ xs.length
    · have hres : after xs ⟨3, fro, index, fin, value⟩ = (cut xs index.toNat fin.toNat, true) := by simp only [after]; rw [if_pos hi]
      rw [hres] at hK
      simp [-getElem?_pos, -Array.getElem?_eq_getElem, List.getElem?_cons_zero, vc24, add_spot, hp_alloc_eq, Br_dec]
      refine ⟨fun h => by omega, fun _ => ⟨fun h => by omega, fun _ => ⟨fun h => by omega, fun _ => ⟨fun h => by omega, fun _ => ⟨⟨by omega, by omega, by omega⟩, ?_⟩⟩⟩⟩⟩
      have hcut := (hu.frame (hf1 (M := fun _ => False)) (by simp)).cut (i := index.toNat) (e := fin.toNat) (by omega) (by omega)
      simp only [Nat.mul_one] at hcut
      have hcl := cut_length (xs := xs) (s := index.toNat) (e := fin.toNat) (by omega) (by omega)
      refine sclone_ok hcut (by omega) fun v w1 hf2 hown => ?_
      have hb := own_lt hown
      simp only [size_alloc] at hb
      exact hK v w1 (fun {M} => (hf1 (M := M)).trans (hf2 (M := M)) fun _ h _ => h) (own_ints hown) fun b hb' => ⟨.inr (by have := (hb b hb').1; omega), (hb b hb').2⟩
    · have hres : after xs ⟨3, fro, index, fin, value⟩ = (xs, false) := by simp only [after]; rw [if_neg hi]
      rw [hres] at hK
      have hK2 := hK _ _ hf1 (hu.frame (hf1 (M := fun _ => False)) (by simp)) fun b hb => ⟨.inl hb, by have := hub b hb; simp; omega⟩
      simp [-getElem?_pos, -Array.getElem?_eq_getElem, List.getElem?_cons_zero, vc24, add_spot, hp_alloc_eq, Br_dec]
      refine ⟨fun _ => hK2, fun _ => ⟨fun _ => hK2, fun _ => ⟨fun _ => hK2, fun _ => ⟨fun _ => hK2, fun _ => by omega⟩⟩⟩⟩
  · obtain ⟨n, rfl⟩ : ∃ n : Nat, index = n := ⟨index.toNat, by have := hk4 (by omega); omega⟩
    have hn := hidx (by omega)
    have hres : after xs ⟨4, fro, n, fin, value⟩ = (xs ++ many value (n : Int).toNat, true) := rfl
    rw [hres] at hK
    have hf1 : ∀ {M}, Frm M w (w.alloc (.cells #[Value.int IntKind.u8 4, Value.int IntKind.i64 fro, Value.int IntKind.i64 n, Value.int IntKind.i64 fin, Value.int IntKind.i64 value] 59)) := Frm.alloc _ _
    obtain ⟨I, hI⟩ : ∃ I : Value → Value → World → Prop, ∀ l v w', I l v w' ↔ ∃ (j : Nat), v = .int .i64 j ∧ j ≤ n ∧ (∀ {M}, Frm M (w.alloc (.cells #[Value.int IntKind.u8 4, Value.int IntKind.i64 fro, Value.int IntKind.i64 n, Value.int IntKind.i64 fin, Value.int IntKind.i64 value] 59)) w') ∧ w'.ownsRow (w.heap.size + 1) 2 1 l j (i64s (many value j)) := ⟨_, fun _ _ _ => Iff.rfl⟩
    obtain ⟨μ, hμ⟩ : ∃ μ : Value → Value → World → Nat, ∀ l (j : Nat) w, μ l (.int .i64 j) w = n - j := ⟨fun _ v _ => n - (match v with | .int _ j => j.toNat | _ => 0), fun _ _ _ => rfl⟩
    simp [-getElem?_pos, -Array.getElem?_eq_getElem, List.getElem?_cons_zero, vc24, add_spot, hp_alloc_eq, Br_dec]
    refine Lp.intro I μ ⟨(hI _ _ _).2 ⟨0, rfl, by omega, Frm.refl, own_nil⟩, ?_⟩
    intro wl l v hIl
    obtain ⟨j, rfl, hj, hf, hown⟩ := (hI _ _ _).1 hIl
    have hs1 := hf.get (M := fun _ => False) (hp_alloc_eq (w := w) (b := w.heap.size) rfl) (by simp)
    have hsz := (hf (M := fun _ => False)).size
    simp only [size_alloc] at hsz
    have hob := own_lt hown
    simp only [op_lss, Br_dec]
    refine ⟨fun hlt => ?_, fun hnl => ?_⟩
    · simp [-getElem?_pos, -Array.getElem?_eq_getElem, List.getElem?_cons_zero, hs1, add_spot]
      refine own_app (ys := many value j) (zs := [IntKind.i64.wrap (value + j)]) (own_frame hown (Frm.alloc (M := fun _ => False) _ _) (by simp)) (one_row hp_alloc_new) (fun h => nomatch h) (by simp [many]; omega) (by simp; omega) fun v' w' hv' hf' => ?_
      rw [wrap_small _ rfl (by omega) (by omega)]
      refine ⟨(hI _ _ _).2 ⟨j + 1, rfl, by omega, fun {M} => ((hf (M := M)).trans (Frm.alloc _ _) fun _ h _ => h).trans hf' fun k hk hlt => by have := (hob k hk.symm).1; simp at hlt; omega, ?_⟩, ?_⟩
      · rw [many_succ]; simpa [many] using hv'
      · have e : (j : Int) + 1 = ((j + 1 : Nat) : Int) := rfl
        rw [e, hμ, hμ]; omega
    · have : j = n := by omega
      subst this
      simp [-getElem?_pos, -Array.getElem?_eq_getElem, List.getElem?_cons_zero, hs1, add_spot, Br_dec]
      have hfw : ∀ {M}, Frm M w wl := fun {M} => (hf1 (M := M)).trans (hf (M := M)) fun _ h _ => h
      have hml : (many value j).length = j := by simp [many]
      obtain ⟨am, cm, rfl, hcm, hrm, ham, hom⟩ := own_slice hown
      refine sclone_ok (hu.frame (hfw (M := fun _ => False)) (by simp)) (by omega) fun v w1 hf2 hown2 => ?_
      have hb0 := own_lt hown2
      have hsz2 := (hf2 (M := fun _ => False)).size
      have happ := own_app (K' := fun v17 w => K (Value.tuple #[v17, Value.bool true]) w) (c := cm) (ys := xs) (zs := many value j) hown2 (hrm.frame (hf2 (M := fun _ => False)) (by simp)) (fun h => by have := ham h; subst this; rfl) (by rw [hml]; omega) (by omega) fun v' w' hv' hf' => ?_
      · rw [hml] at happ; exact happ
      · have hb := own_lt hv'
        exact hK v' w' (fun {M} => ((hfw (M := M)).trans (hf2 (M := M)) fun _ h _ => h).trans hf' fun k hk hlt => by have := (hb0 k hk.symm).1; omega) (own_ints hv') fun b hb' => ⟨.inr (by have := (hb b hb').1; omega), (hb b hb').2⟩
  · obtain ⟨n, rfl⟩ : ∃ n : Nat, index = n := ⟨index.toNat, by have := hk4 (by omega); omega⟩
    have hn := hidx (by omega)
    have hres : after xs ⟨5, fro, n, fin, value⟩ = ((many value (n : Int).toNat).reverse ++ xs, true) := rfl
    rw [hres] at hK
    have hf1 : ∀ {M}, Frm M w (w.alloc (.cells #[Value.int IntKind.u8 5, Value.int IntKind.i64 fro, Value.int IntKind.i64 n, Value.int IntKind.i64 fin, Value.int IntKind.i64 value] 59)) := Frm.alloc _ _
    obtain ⟨I, hI⟩ : ∃ I : Value → Value → World → Prop, ∀ l v w', I l v w' ↔ ∃ (j : Nat), v = .int .i64 j ∧ j ≤ n ∧ (∀ {M}, Frm M (w.alloc (.cells #[Value.int IntKind.u8 5, Value.int IntKind.i64 fro, Value.int IntKind.i64 n, Value.int IntKind.i64 fin, Value.int IntKind.i64 value] 59)) w') ∧ w'.ownsRow (w.heap.size + 1) 2 1 l j (i64s (many value j)) := ⟨_, fun _ _ _ => Iff.rfl⟩
    obtain ⟨μ, hμ⟩ : ∃ μ : Value → Value → World → Nat, ∀ l (j : Nat) w, μ l (.int .i64 j) w = n - j := ⟨fun _ v _ => n - (match v with | .int _ j => j.toNat | _ => 0), fun _ _ _ => rfl⟩
    simp [-getElem?_pos, -Array.getElem?_eq_getElem, List.getElem?_cons_zero, vc24, add_spot, hp_alloc_eq, Br_dec]
    refine Lp.intro I μ ⟨(hI _ _ _).2 ⟨0, rfl, by omega, Frm.refl, own_nil⟩, ?_⟩
    intro wl l v hIl
    obtain ⟨j, rfl, hj, hf, hown⟩ := (hI _ _ _).1 hIl
    have hs1 := hf.get (M := fun _ => False) (hp_alloc_eq (w := w) (b := w.heap.size) rfl) (by simp)
    have hsz := (hf (M := fun _ => False)).size
    simp only [size_alloc] at hsz
    have hob := own_lt hown
    simp only [op_lss, Br_dec]
    refine ⟨fun hlt => ?_, fun hnl => ?_⟩
    · simp [-getElem?_pos, -Array.getElem?_eq_getElem, List.getElem?_cons_zero, hs1, add_spot]
      refine own_app (ys := many value j) (zs := [IntKind.i64.wrap (value + j)]) (own_frame hown (Frm.alloc (M := fun _ => False) _ _) (by simp)) (one_row hp_alloc_new) (fun h => nomatch h) (by simp [many]; omega) (by simp; omega) fun v' w' hv' hf' => ?_
      rw [wrap_small _ rfl (by omega) (by omega)]
      refine ⟨(hI _ _ _).2 ⟨j + 1, rfl, by omega, fun {M} => ((hf (M := M)).trans (Frm.alloc _ _) fun _ h _ => h).trans hf' fun k hk hlt => by have := (hob k hk.symm).1; simp at hlt; omega, ?_⟩, ?_⟩
      · rw [many_succ]; simpa [many] using hv'
      · have e : (j : Int) + 1 = ((j + 1 : Nat) : Int) := rfl
        rw [e, hμ, hμ]; omega
    · have : j = n := by omega
      subst this
      simp [-getElem?_pos, -Array.getElem?_eq_getElem, List.getElem?_cons_zero, hs1, add_spot, Br_dec]
      have hfw : ∀ {M}, Frm M w wl := fun {M} => (hf1 (M := M)).trans (hf (M := M)) fun _ h _ => h
      have hml : (many value j).length = j := by simp [many]
      refine reverse_ok hown (by omega) fun w1 hf2 hown2 => ?_
      have hb0 := own_lt hown2
      have hsz2 := hf2.size
      have hfw1 : ∀ {M}, Frm M w w1 := fun {M} => (hfw (M := M)).trans hf2 fun k hk hlt => by have := (hob k hk.symm).1; omega
      refine own_app (ys := (many value j).reverse) (zs := xs) hown2 (hr.frame (hfw1 (M := fun _ => False)) (by simp)) ha (by simp [hml]; omega) (by omega) fun v' w' hv' hf' => ?_
      have hb := own_lt hv'
      exact hK v' w' (fun {M} => (hfw1 (M := M)).trans hf' fun k hk hlt => by have := (hb0 k hk.symm).1; omega) (own_ints hv') fun b hb' => ⟨.inr (by have := (hb b hb').1; omega), (hb b hb').2⟩
end Go.Proofs.Ytjlaclgikmmmlaa
