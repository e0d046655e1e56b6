/- Iterators of lists: the stack of nodes; seek. -/
import Derived.Test.YtjlaclgikmmmlaaLOne
set_option maxRecDepth 100000
set_option linter.unusedSimpArgs false
set_option linter.unusedVariables false
set_option maxHeartbeats 8000000
namespace Go.Proofs.Ytjlaclgikmmmlaa
open Go.Vc Go.Proofs
variable {m : Bool} {w w' w0 : World} {F F' G : Nat → Prop} {K : Value → World → Prop} {Kp : KP}

theorem slot_nat (d p : Nat) : slot d (p : Int) = p / 32 ^ d % 32 := by
  unfold slot
  have : ((p : Int) / 32 ^ d % 32) = ((p / 32 ^ d % 32 : Nat) : Int) := by simp
  rw [this, Int.toNat_natCast]
/-- What a node of depth dl on the way to p has. -/
def at_ (g : Int → Option Int) (p dl : Nat) : Int → Option Int := fun q => g (((p / 32 ^ (dl + 1) : Nat) : Int) * 32 ^ (dl + 1) + q)
theorem at_top {g : Int → Option Int} {p d : Nat} (h : p < 32 ^ (d + 1)) : at_ g p d = g := by
  funext q
  unfold at_
  rw [Nat.div_eq_of_lt h]; simp
theorem at_child (g : Int → Option Int) (p dl : Nat) : sub (dl + 1) (slot (dl + 1) p) (at_ g p (dl + 1)) = at_ g p dl := by
  funext q
  unfold sub at_
  congr 1
  rw [slot_nat, Nat.pow_succ 32 (dl + 1), ← Nat.div_div_eq_div_mul]
  generalize hQ : p / 32 ^ (dl + 1) = Q
  have e : ((Q / 32 : Nat) : Int) * 32 ^ (dl + 1 + 1) + ((Q % 32 : Nat) : Int) * 32 ^ (dl + 1) = (Q : Int) * 32 ^ (dl + 1) := by
    have h1 : ((Q / 32 : Nat) : Int) * 32 + ((Q % 32 : Nat) : Int) = (Q : Int) := by omega
    rw [Int.pow_succ 32 (dl + 1), Int.mul_comm (32 ^ (dl + 1)) 32, ← Int.mul_assoc, ← Int.add_mul, h1]
  rw [← Int.add_assoc, e]
theorem at_self (g : Int → Option Int) (p dl : Nat) : at_ g p dl (((p % 32 ^ (dl + 1) : Nat)) : Int) = g p := by
  unfold at_
  congr 1
  have h1 := Nat.div_add_mod p (32 ^ (dl + 1))
  have h2 : ((p / 32 ^ (dl + 1) : Nat) : Int) * 32 ^ (dl + 1) = ((p / 32 ^ (dl + 1) * 32 ^ (dl + 1) : Nat) : Int) := by simp
  rw [h2, Nat.mul_comm]; omega
/-- The child on the way. -/
theorem Rep.down {dl p : Nat} {nv : Value} {g : Int → Option Int} {x : Int} (h : Rep m w (dl + 1) nv (at_ g p (dl + 1)) F) (hg : g p = some x) :
    ∃ bq cs v, nv = .iface 115 (ptr bq) ∧ w.heap[bq]? = some (.cells cs 118 (0, 0)) ∧ cs[slot (dl + 1) p + 1]? = some v ∧ Rep m w dl v (at_ g p dl) F := by
  obtain ⟨b, cs, vs, Fs, rfl, h2, h3, ⟨h4, h5, h6⟩, h7, h8⟩ := h
  have hs := slot_lt (dl + 1) p
  refine ⟨b, cs, _, rfl, h3, h6 _ hs, ?_⟩
  have h9 := h7 _ hs
  rw [at_child] at h9
  rcases h9 with ⟨_, hn⟩ | hr
  · have := hn ((p % 32 ^ (dl + 1) : Nat) : Int) (by omega) (by
      have := Nat.mod_lt p (Nat.pow_pos (n := dl + 1) (show 0 < 32 by decide))
      have e := cast_pow (dl + 1)
      omega)
    rw [at_self, hg] at this; cases this
  · exact hr.size_of fun b hb => (h8 _ hs b hb).1
theorem Rep.leaf {p : Nat} {nv : Value} {g : Int → Option Int} {x : Int} (h : Rep m w 0 nv (at_ g p 0) F) (hg : g p = some x) :
    ∃ bq cs, nv = .iface 104 (ptr bq) ∧ w.heap[bq]? = some (.cells cs 103 (0, 0)) ∧ cs[slot 0 p]? = some (.int .i64 x) := by
  obtain ⟨b, cs, rfl, h2, h3, h4, h5, h6⟩ := h
  refine ⟨b, cs, rfl, h3, ?_⟩
  obtain ⟨y, hy, hx⟩ := h6 (slot 0 p) (slot_lt _ _)
  have e := at_self g p 0
  have e2 : ((p % 32 ^ (0 + 1) : Nat) : Int) = (slot 0 p : Int) := by rw [slot_nat]; simp
  rw [e2, hg] at e
  rw [hy, ← hx x e]

def ICells (cs : Array Value) (b : Nat) (i : Int) (D : Nat) : Prop := cs.size = 67 ∧ cs[0]? = some (ptr b) ∧ cs[1]? = some (.int .i64 i) ∧ cs[66]? = some (.int .i64 D)
def Stk (m : Bool) (w : World) (cs : Array Value) (d p : Nat) (g : Int → Option Int) (F : Nat → Prop) (D : Nat) : Prop := ∀ l, l ≤ D → ∃ nv, cs[2 + l * 2]? = some nv ∧ Rep m w (d - l) nv (at_ g p (d - l)) F
def Ixs (cs : Array Value) (d p D : Nat) : Prop := ∀ l, l < D → cs[2 + l * 2 + 1]? = some (.int .i64 (slot (d - l) p))
theorem Stk.frame {M : Nat → Prop} {cs : Array Value} {d p D : Nat} {g : Int → Option Int} (h : Stk m w cs d p g F D) (hf : Frm M w w') (hM : ∀ b, F b → ¬ M b) : Stk m w' cs d p g F D := fun l hl => by
  obtain ⟨nv, h1, h2⟩ := h l hl
  exact ⟨nv, h1, h2.frame hf hM⟩

/-- The number in a cell. -/
def natAt (w : World) (b j : Nat) : Nat := match w.heap[b]? with
  | some (.cells cs _ _) => match cs[j]? with
    | some (.int _ n) => n.toNat
    | _ => 0
  | _ => 0
theorem natAt_eq {w : World} {b j n : Nat} {cs : Array Value} {e : TypeId} {fz : Nat × Nat} {k : IntKind} (h : w.heap[b]? = some (.cells cs e fz)) (h2 : cs[j]? = some (.int k n)) : natAt w b j = n := by
  unfold natAt
  rw [h]
  simp only [h2]
  exact Int.toNat_natCast n

theorem seek_ok {bi b o d k D : Nat} {rv : Value} {cs : Array Value} {i x : Int} {n : Nat} {g : Int → Option Int} (hL : w.heap[b]? = some (head rv o n)) (hb : w.heap[bi]? = some (.cells cs 98 (0, 0))) (hne : b ≠ bi) (hF : ¬ F bi)
    (hd : d ≤ 6) (hk : g ((o + k : Nat) : Int) = some x) (hsm : o + k < 2 ^ 31) (hI : ICells cs b i D) (hD : D ≤ d) (hS : Stk m w cs d (o + k) g F D) (hX : Ixs cs d (o + k) D)
    (hK : ∀ w' cs', Frm (· = bi) w w' → w'.heap[bi]? = some (.cells cs' 98 (0, 0)) → ICells cs' b i d → Stk m w' cs' d (o + k) g F d → Ixs cs' d (o + k) (d + 1) → K (.tuple #[]) w') :
    Calls Try.prog 60 #[ptr bi, .int .i64 k] w (ret K Kp) := by
  refine vc60_calls ?_
  unfold vc60
  obtain ⟨I, hIx⟩ : ∃ I : World → Prop, ∀ w', I w' ↔ ∃ D cs, D ≤ d ∧ Frm (· = bi) w w' ∧ w'.heap[bi]? = some (.cells cs 98 (0, 0)) ∧ ICells cs b i D ∧ Stk m w' cs d (o + k) g F D ∧ Ixs cs d (o + k) D := ⟨_, fun _ => Iff.rfl⟩
  obtain ⟨μ, hμ⟩ : ∃ μ : World → Nat, ∀ (w : World) (cs : Array Value) (D : Nat), w.heap[bi]? = some (.cells cs 98 (0, 0)) → cs[66]? = some (.int .i64 D) → μ w = d - D :=
    ⟨fun w => d - natAt w bi 66, fun w cs D h1 h2 => by show d - natAt w bi 66 = d - D; rw [natAt_eq h1 h2]⟩
  refine Lp.intro I μ ⟨(hIx _).2 ⟨D, cs, hD, Frm.refl, hb, hI, hS, hX⟩, ?_⟩
  intro wl _ hIl
  clear hI hS hX hD
  obtain ⟨D, cs, hD, hfr, hbl, ⟨i1, i2, i3, i4⟩, hS, hX⟩ := (hIx _).1 hIl
  have hLl := hfr.get hL (fun e => hne e)
  obtain ⟨nv, hn1, hn2⟩ := hS D (Nat.le_refl _)
  obtain ⟨tn, pn, rfl⟩ := hn2.iface
  have hsl := slot_eq (d := d - D) (by omega) ((o + k : Nat) : Int)
  have hw1 : IntKind.i64.wrap ((o : Int) + k) = ((o + k : Nat) : Int) := wrap_small _ rfl (by omega) (by omega)
  have hslt := slot_lt (d - D) ((o + k : Nat) : Int)
  simp only [head] at hLl
  simp [-getElem?_pos, -Array.getElem?_eq_getElem, List.getElem?_cons_zero, -Int.natCast_add, ptr, add_spot, hbl, i2, i4, hLl, hn1, hw1]
  refine ⟨by omega, ?_⟩
  have hn2' := (hn2.frame (Frm.drew (M := fun _ => False) wl) (by simp)).frame (Frm.drew (M := fun _ => False) _) (by simp)
  refine depth_ok hn2' ?_
  simp [-getElem?_pos, -Array.getElem?_eq_getElem, List.getElem?_cons_zero, -Int.natCast_add, ptr, add_spot, hbl, i2, i4, hLl, hn1, hsl, i1]
  refine ⟨cs, 98, ⟨rfl, rfl⟩, by omega, ?_⟩
  obtain ⟨cs1, hcs1⟩ : ∃ cs1, cs1 = cs.setIfInBounds (2 + D * 2 + 1) (Value.int .i64 (slot (d - D) ((o + k : Nat) : Int))) := ⟨_, rfl⟩
  obtain ⟨w1, hw1'⟩ : ∃ w1, w1 = wl.drew.drew.upd bi (.cells cs1 98 (0, 0)) := ⟨_, rfl⟩
  rw [← hcs1, ← hw1']
  have hb1 : w1.heap[bi]? = some (.cells cs1 98 (0, 0)) := by rw [hw1']; exact heap_upd_same (w := wl.drew.drew) hbl
  have hf1 : Frm (· = bi) wl w1 := by
    rw [hw1']
    exact ((Frm.drew wl).trans (Frm.drew (M := fun _ => False) _) fun _ h _ => h.elim).trans (Frm.upd (M := (· = bi)) _ _ fun _ => rfl) fun _ h _ => h
  have hget : ∀ j, j ≠ 2 + D * 2 + 1 → cs1[j]? = cs[j]? := fun j hj => by rw [hcs1, Array.getElem?_setIfInBounds_ne (by omega)]
  have hI1 : ICells cs1 b i D := ⟨by rw [hcs1]; simpa using i1, by rw [hget _ (by omega)]; exact i2, by rw [hget _ (by omega)]; exact i3, by rw [hget _ (by omega)]; exact i4⟩
  have hS1 : Stk m w1 cs1 d (o + k) g F D := (fun l hl => by
    obtain ⟨nv, h1, h2⟩ := hS l hl
    exact ⟨nv, by rw [hget _ (by omega)]; exact h1, h2.frame hf1 fun b hb e => hF (e ▸ hb)⟩)
  have hX1 : Ixs cs1 d (o + k) (D + 1) := fun l hl => by
    by_cases e : l = D
    · subst e; rw [hcs1, Array.getElem?_setIfInBounds_self_of_lt (by omega)]
    · rw [hget _ (by omega)]; exact hX l (by omega)
  clear hw1' hcs1
  obtain ⟨j1, j2, j3, j4⟩ := hI1
  obtain ⟨nv', hn3, hn4⟩ := hS1 D (Nat.le_refl _)
  have hx1 := hX1 D (by omega)
  have e0 : nv' = .iface tn pn := by
    rw [hget _ (by omega), hn1] at hn3; exact (Option.some.inj hn3).symm
  subst e0
  cases hdd : d - D with
  | zero =>
    rw [hdd] at hn4
    obtain ⟨bq, csq, hnv, hq1, hq2⟩ := hn4.leaf hk
    obtain ⟨rfl, rfl⟩ := Value.iface.inj hnv
    simp [-getElem?_pos, -Array.getElem?_eq_getElem, List.getElem?_cons_zero, -Int.natCast_add, ptr, add_spot, hb1, hn3, Br_dec]
    have : D = d := by omega
    subst this
    exact hK w1 cs1 (hfr.trans hf1 fun _ h _ => h) hb1 ⟨j1, j2, j3, j4⟩ hS1 hX1
  | succ dl =>
    rw [hdd] at hn4 hx1
    obtain ⟨bq, csq, vq, hnv, hq1, hq2, hq3⟩ := hn4.down hk
    obtain ⟨rfl, rfl⟩ := Value.iface.inj hnv
    obtain ⟨tq, pq, rfl⟩ := hq3.iface
    rw [Nat.add_comm] at hq2
    have hsl2 := slot_lt (dl + 1) ((o + k : Nat) : Int)
    have hwD : IntKind.i64.wrap ((D : Int) + 1) = ((D + 1 : Nat) : Int) := wrap_small _ rfl (by omega) (by omega)
    simp [-getElem?_pos, -Array.getElem?_eq_getElem, List.getElem?_cons_zero, -Int.natCast_add, ptr, add_spot, hb1, hn3, Br_dec, hx1, hq1, hq2, j4, hwD, and_assoc]
    have hb2 := fun o => heap_upd_same (w := w1.drew.drew) (o := o) hb1
    obtain ⟨cs2, hcs2⟩ : ∃ cs2, cs2 = ow cs1 (2 + (D + 1) * 2) [.iface tq pq, .int .i64 0] := ⟨_, rfl⟩
    have hsz2 : cs2.size = 67 := by rw [hcs2, size_ow]; exact j1
    have hget2 : ∀ j, cs2[j]? = if 2 + (D + 1) * 2 ≤ j ∧ j < 2 + (D + 1) * 2 + 2 then [Value.iface tq pq, .int .i64 0][j - (2 + (D + 1) * 2)]? else cs1[j]? := fun j => by
      rw [hcs2, getElem?_ow _ _ _ (by simp; omega)]; rfl
    have h66 : cs2[66]? = some (.int .i64 D) := by rw [hget2, if_neg (by omega)]; exact j4
    simp [-getElem?_pos, -Array.getElem?_eq_getElem, List.getElem?_cons_zero, -Int.natCast_add, add_spot, hb1, and_assoc, hb2, upd_upd, ← hcs2, h66, hwD, hsz2]
    obtain ⟨cs3, hcs3⟩ : ∃ cs3, cs3 = cs2.setIfInBounds 66 (.int .i64 ((D + 1 : Nat) : Int)) := ⟨_, rfl⟩
    rw [← hcs3]
    have hget3 : ∀ j, j ≠ 66 → cs3[j]? = cs2[j]? := fun j hj => by rw [hcs3, Array.getElem?_setIfInBounds_ne (by omega)]
    have h663 : cs3[66]? = some (.int .i64 ((D + 1 : Nat) : Int)) := by rw [hcs3, Array.getElem?_setIfInBounds_self_of_lt (by omega)]
    have hold : ∀ j, j < 2 + (D + 1) * 2 → cs3[j]? = cs1[j]? := fun j hj => by rw [hget3 _ (by omega), hget2, if_neg (by omega)]
    have hf2 : Frm (· = bi) wl (w1.drew.drew.upd bi (.cells cs3 98 (0, 0))) :=
      hf1.trans (((Frm.drew w1).trans (Frm.drew (M := fun _ => False) _) fun _ h _ => h.elim).trans (Frm.upd (M := (· = bi)) _ _ fun _ => rfl) fun _ h _ => h) fun _ h _ => h
    have hf12 : Frm (· = bi) w1 (w1.drew.drew.upd bi (.cells cs3 98 (0, 0))) := ((Frm.drew w1).trans (Frm.drew (M := fun _ => False) _) fun _ h _ => h.elim).trans (Frm.upd (M := (· = bi)) _ _ fun _ => rfl) fun _ h _ => h
    have hnF : ∀ b, F b → ¬ b = bi := fun b hb e => hF (e ▸ hb)
    refine ⟨by omega, by omega, by omega, (hIx _).2 ⟨D + 1, cs3, by omega, hfr.trans hf2 fun _ h _ => h, hb2 _, ⟨by rw [hcs3]; simpa using hsz2, by rw [hold _ (by omega)]; exact j2, by rw [hold _ (by omega)]; exact j3, h663⟩, fun l hl => ?_, fun l hl => ?_⟩, ?_⟩
    · by_cases e : l = D + 1
      · subst e
        refine ⟨_, by rw [hget3 _ (by omega), hget2, if_pos (by omega), Nat.sub_self]; rfl, ?_⟩
        rw [show d - (D + 1) = dl from by omega]
        exact hq3.frame hf12 hnF
      · obtain ⟨nv, h1, h2⟩ := hS1 l (by omega)
        exact ⟨nv, by rw [hold _ (by omega)]; exact h1, h2.frame hf12 hnF⟩
    · rw [hold _ (by omega)]; exact hX1 l hl
    · rw [hμ _ cs3 (D + 1) (hb2 _) h663, hμ _ cs D hbl i4]; omega
end Go.Proofs.Ytjlaclgikmmmlaa
