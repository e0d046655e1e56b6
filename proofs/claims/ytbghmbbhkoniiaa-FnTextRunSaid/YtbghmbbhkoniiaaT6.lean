import Derived.Test.YtbghmbbhkoniiaaT5
import Derived.Test.YtbghmbbhkoniiaaT3
import Derived.Test.YtbghmbbhkoniiaaT4
import Derived.Test.YtbghmbbhkoniiaaT0
import Derived.ProofKit
import Derived.WideKeyArgs
import Derived.Deep.Slices
import Derived.Carry
import Derived.Test.YtbghmbbhkoniiaaRows
section
/- Iterators: Done, Next, First, and a map's Iterator. -/
set_option maxRecDepth 100000
set_option maxHeartbeats 2000000
set_option linter.unusedSimpArgs false
set_option linter.unusedVariables false
set_option linter.unusedSectionVars false
namespace Go.Proofs.Ytbghmbbhkoniiaa.I
open Go.Vc Go.Proofs Go.Proofs.Ytbghmbbhkoniiaa Go.Vc.Nd
variable {w w' : World} {v hv : Value} {t : Tr} {F F' : Nat → Prop} {K : Value → World → Prop} {Kp : KP} {hash : Ky → Nat} {k : Ky} {x : Vl} {l s rb : Nat} {r0 mu : Bool}

theorem At.depth {ib mb : Nat} {L : List (Ky × Vl)} (h : At w ib mb F hash L) : ∃ cs, ∃ fs : List Fr, Up w ib mb F hash cs fs ∧ (L = [] ↔ fs = []) ∧ L.tail = left fs ∧ match fs with
    | [] => True
    | r :: _ => (∀ hs f, r.s ≠ .br hs f) ∧ ∃ e, (toL r.s)[r.i]? = some e ∧ L = e :: left fs := by
  obtain ⟨cs, fs, h1, h2, h3, h4, h5, h6⟩ := h
  refine ⟨cs, fs, ⟨h1, h2, h3, h4, h5⟩, ?_⟩
  cases fs with
  | nil => subst h6; exact ⟨by simp, rfl, trivial⟩
  | cons r fs =>
    obtain ⟨a, e, b, c⟩ := h6
    exact ⟨by simp [c], by rw [c]; rfl, a, e, b, c⟩
theorem done_ok {ib mb : Nat} {L : List (Ky × Vl)} (h : At w ib mb F hash L) (hK : K (.bool (decide (L = []))) w) : Calls Try.prog 42 #[ptr ib] w (ret K Kp) := by
  obtain ⟨cs, fs, ⟨h1, h2, h3, h4, h5⟩, h6, h7, _⟩ := h.depth
  refine vc42_calls ?_
  have e : decide ((fs.length : Int) - 1 = -1) = decide (L = []) := by
    cases fs with
    | nil => have := h6.2 rfl; subst this; rfl
    | cons r fs =>
      have hL : L ≠ [] := fun h => by have := h6.1 h; cases this
      simp only [List.length_cons]
      rw [decide_eq_false (by omega), decide_eq_false hL]
  simp [-getElem?_pos, -Array.getElem?_eq_getElem, -Int.natCast_add, add_spot, and_assoc, Br_dec, -op_box, -op_st_3, -op_st_132, -op_st_136, vc42, ptr, h1, h4]
  rw [← e] at hK
  simpa using hK
def zk : Ky := 0
def nextV (L : List (Ky × Vl)) : Value := match L with
  | [] => .tuple #[ek zk, zv, .bool false]
  | e :: _ => .tuple #[ek e.1, ev e.2, .bool true]
theorem entry_at {g cap : Nat} {es : List (Ky × Vl)} {i : Nat} {e : Ky × Vl} (h : Rw w 148 2 g cap (ents es)) (he : es[i]? = some e) : ∃ cur, w.heap[g]? = some (.cells cur 148 (0, 0)) ∧ cur[i * 2]? = some (ek e.1)
    ∧ cur[i * 2 + 1]? = some (ev e.2)
    := by
  obtain ⟨cur, h1, h2⟩ := key_cell h
  obtain ⟨hi, rfl⟩ := List.getElem?_eq_some_iff.1 he
  exact ⟨cur, h1, (h2 i hi).1, by have := (h2 i hi).2; rwa [if_pos (by decide)] at this⟩
theorem Next_ok {ib mb : Nat} {L : List (Ky × Vl)} (h : At w ib mb F hash L) (hF : ¬ F ib)
    (hK : ∀ w', Frm (· = ib) w w' → w'.heap.size = w.heap.size → At w' ib mb F hash L.tail → K (nextV L) w') : Calls Try.prog 44 #[ptr ib] w (ret K Kp) := by
  obtain ⟨cs, fs, hup, h6, h7, h8⟩ := h.depth
  have ⟨h1, h2, h3, h4, h5⟩ := hup
  refine vc44_calls ?_
  simp only [vc44, call_42]
  refine done_ok h ?_
  simp only [Br_dec]
  refine ⟨fun e => ?_, fun hnn => ?_⟩
  · subst e
    exact hK w Frm.refl rfl h
  cases fs with
  | nil => exact absurd (h6.2 rfl) hnn
  | cons r fs =>
  have hlow := hup.low
  have ⟨_, _, _, h4', h5', hsub, hst⟩ := hlow
  have d7 := hsub.1
  have r7 : (fs.length : Int) < 32 := by omega
  have hi0 := h5.2.1
  obtain ⟨hbr, e, he, hL⟩ := h8
  subst hL
  have hfin : ∀ {wz : World}, Frm (fun _ => False) w wz → wz.heap.size = w.heap.size → Calls Try.prog 72 #[ptr ib] wz (ret (fun _ w => K (.tuple #[ek e.1, ev e.2, .bool true]) w) Kp) := fun {wz} kz zz => by
    have hM : ∀ c, F c → ¬ False := fun _ _ h => h
    refine next_ok (cs := cs) (fs := r :: fs) ⟨kz.get h1 (fun h => h), h2, h3, h4, h5.frame kz hM⟩ hF fun w' k' z' hat => hK w' (kz.fst k') (by rw [z', zz]) ?_
    exact hat
  obtain ⟨rs, rv, ri⟩ := r
  simp only at hsub hi0 hbr he h5'
  cases rs with
  | emp => exact absurd rfl hsub.2.2.1
  | br hs f => exact absurd rfl (hbr _ _)
  | arr es =>
    obtain ⟨_, hw, _, F0, ⟨b, g, cap, rfl, g1, g2, g3, g4, g5, g6⟩, gF⟩ := hsub
    have hri : ri < es.length := (List.getElem?_eq_some_iff.1 he).1
    have hidx : (Fr.mk (.arr es) (.iface 145 (ptr b)) ri).idx = ri := rfl
    rw [hidx] at hi0
    obtain ⟨cur, c1, c2⟩ := entry_at g6 he
    obtain ⟨c2, c3⟩ := c2
    simp [-getElem?_pos, -Array.getElem?_eq_getElem, -Int.natCast_add, add_spot, and_assoc, Br_dec, -op_box, -op_st_3, -op_st_132, -op_st_136, ptr, h1, h4', h5', r7, hi0, g4, c1, c2, c3, call_72]
    exact ⟨hri, hfin (((Frm.drew _).no (Frm.drew _)).no (Frm.drew _)) rfl⟩
  | val h' k' x' =>
    obtain ⟨_, hw, _, F0, ⟨b, rfl, g1, g2⟩, gF⟩ := hsub
    have hri : ri = 0 := by have := (List.getElem?_eq_some_iff.1 he).1; simpa [toL] using this
    subst hri
    obtain rfl : (k', x') = e := by simpa [toL] using he
    simp [-getElem?_pos, -Array.getElem?_eq_getElem, -Int.natCast_add, add_spot, and_assoc, Br_dec, -op_box, -op_st_3, -op_st_132, -op_st_136, ptr, h1, h4', h5', r7, hi0, g2, call_72]
    exact hfin ((Frm.drew _).no (Frm.drew _)) rfl
  | col h' es =>
    obtain ⟨_, hw, _, F0, ⟨b, g, cap, rfl, g1, g2, g3, g4, g5, g6⟩, gF⟩ := hsub
    have hri : ri < es.length := (List.getElem?_eq_some_iff.1 he).1
    have hidx : (Fr.mk (.col h' es) (.iface 155 (ptr b)) ri).idx = ri := rfl
    rw [hidx] at hi0
    obtain ⟨cur, c1, c2⟩ := entry_at g6 he
    obtain ⟨c2, c3⟩ := c2
    simp [-getElem?_pos, -Array.getElem?_eq_getElem, -Int.natCast_add, add_spot, and_assoc, Br_dec, -op_box, -op_st_3, -op_st_132, -op_st_136, ptr, h1, h4', h5', r7, hi0, g4, c1, c2, c3, call_72]
    exact ⟨hri, hfin (((Frm.drew _).no (Frm.drew _)).no (Frm.drew _)) rfl⟩

def Itr (w : World) (ib mb : Nat) : Prop := ∃ cs, w.heap[ib]? = some (.cells cs 139 (0, 0)) ∧ cs.size = 66 ∧ cs[0]? = some (ptr mb)
theorem First_ok {ib mb : Nat} {h : Value} (hW : WFr hash t) (hm : IsMap w mb h t F) (hi : Itr w ib mb) (hF : ¬ F ib)
    (hK : ∀ w', Frm (· = ib) w w' → w'.heap.size = w.heap.size → At w' ib mb F hash (toL t) → K (.tuple #[]) w') : Calls Try.prog 43 #[ptr ib] w (ret K Kp) := by
  obtain ⟨r, F0, h1, h2, h3, h4⟩ := hm
  obtain ⟨cs, g1, g2, g3⟩ := hi
  have heq := fun {wz : World} {K : Value → World → Prop} {Kp : KP} => eq_nil h3 (wz := wz) (K := K) (Kp := Kp)
  have hM : ∀ c, F c → ¬ c = ib := fun c hc e => hF (e ▸ hc)
  refine vc43_calls ?_
  simp [-getElem?_pos, -Array.getElem?_eq_getElem, -Int.natCast_add, add_spot, and_assoc, Br_dec, -op_box, -op_st_3, -op_st_132, -op_st_136, vc43, ptr, g1, g3, h1, heq]
  refine ⟨fun e => ?_, fun e => ?_⟩
  · have := isEmp_iff.1 e
    subst this
    refine op_store_ok (by kernel_rfl) g1 (by rw [g2]; omega) rfl fun w3 k3 z3 b3 => hK w3 k3 z3 ⟨_, [], b3, by simp [g2], ?_, ?_, trivial, rfl⟩
    · rw [set_at (by omega), if_neg (by omega)]; exact g3
    · rw [set_at (by omega), if_pos rfl]; rfl
  · have hne : t ≠ .emp := fun h => by rw [h] at e; cases e
    have r1 := h3.one
    have hcs : (2 : Nat) ≤ cs.size := by omega
    obtain ⟨u, c, rfl⟩ := h3.iface hne
    simp [-getElem?_pos, -Array.getElem?_eq_getElem, -Int.natCast_add, add_spot, and_assoc, Br_dec, -op_box, -op_st_3, -op_st_132, -op_st_136, h1]
    refine op_storeN_ok (n := 2) (by kernel_rfl) (w := w.drew) g1 rfl (by rw [g2]; omega) (by simp) fun w3 k3 z3 b3 => ?_
    have k3 := Frm.dr k3
    have hg : ∀ j, (ow cs 1 [Value.iface u (ptr c), Value.int .i64 0])[j]? = if 1 ≤ j ∧ j < 3 then [Value.iface u (ptr c), Value.int .i64 0][j - 1]? else cs[j]? := fun j => ow_get (by simp; omega)
    refine op_store_ok (by kernel_rfl) b3 (by rw [ow_size]; omega) rfl fun w4 k4 z4 b4 => ?_
    have k34 : Frm (· = ib) w w4 := k3.trans k4 fun _ h _ => h
    have hz : (ow cs 1 [Value.iface u (ptr c), Value.int .i64 0]).size = 66 := by rw [ow_size]; exact g2
    refine first_ok (fs := []) (s := t) (v := .iface u (ptr c)) (F := F) (hash := hash) (mb := mb) ⟨b4, by simpa using hz, ?_, ?_, ?_, ⟨by simp, ?_, hne, F0, h3.frame k34 fun c hc => hM c (h4 c hc).1, fun c hc => (h4 c hc).1⟩, trivial⟩ hF fun w5 k5 z5 hat => ?_
    · show ((ow cs 1 [Value.iface u (ptr c), Value.int .i64 0]).setIfInBounds 65 (.int .i64 0))[0]? = _
      rw [set_at (by omega), if_neg (by omega), hg, if_neg (by omega)]; exact g3
    · show ((ow cs 1 [Value.iface u (ptr c), Value.int .i64 0]).setIfInBounds 65 (.int .i64 0))[65]? = _
      rw [set_at (by omega), if_pos rfl]; rfl
    · show ((ow cs 1 [Value.iface u (ptr c), Value.int .i64 0]).setIfInBounds 65 (.int .i64 0))[1]? = _
      rw [set_at (by omega), if_neg (by omega), hg, if_pos (by omega)]; rfl
    · cases t with
      | arr es => exact .inr ⟨es, rfl, hW.1⟩
      | emp => exact absurd rfl hne
      | br hs f => exact .inl ⟨0, hW⟩
      | val a b c => exact .inl ⟨0, hW⟩
      | col a b => exact .inl ⟨0, hW⟩
    · refine hK w5 (k34.trans k5 fun _ h _ => h) (by rw [z5, z4, z3]; rfl) ?_
      have e : left [] = ([] : List (Ky × Vl)) := rfl
      rw [e, List.append_nil] at hat
      exact hat
theorem iterator_ok {mb : Nat} {h : Value} (hW : WFr hash t) (hm : IsMap w mb h t F) (hF : ∀ c, F c → c < w.heap.size)
    (hK : ∀ ib w', Frm (fun _ => False) w w' → w.heap.size ≤ ib → At w' ib mb F hash (toL t) → K (ptr ib) w') : Calls Try.prog 37 #[ptr mb] w (ret K Kp) := by
  refine vc37_calls ?_
  simp [-getElem?_pos, -Array.getElem?_eq_getElem, -Int.natCast_add, add_spot, and_assoc, Br_dec, -op_box, -op_st_3, -op_st_132, -op_st_136, vc37, ptr]
  refine op_box_ok fun w1 k1 z1 b1 => ?_
  simp only [cells_agg] at b1
  refine First_ok (ib := w.heap.size) hW (hm.keep fun c o hc ho => k1.get ho fun h => h) ⟨_, b1, by simp [zero_139], ?_⟩ (fun h => by have := hF _ h; omega) fun w2 k2 z2 hat => hK _ w2 (k1.old k2 fun c hc => .inr (by omega)) (Nat.le_refl _) hat
  rw [set_at (by decide), if_pos rfl]; rfl
end Go.Proofs.Ytbghmbbhkoniiaa.I
end
section
/- The hasher that is chosen for a map without one. -/
set_option maxRecDepth 100000
set_option maxHeartbeats 1000000
set_option linter.unusedSimpArgs false
set_option linter.unusedVariables false
set_option linter.unusedSectionVars false
namespace Go.Proofs.Ytbghmbbhkoniiaa.I
open Go.Vc Go.Proofs Go.Proofs.Ytbghmbbhkoniiaa Go.Vc.Nd
variable {w w' : World} {K : Value → World → Prop} {Kp : KP} {k : Ky}

theorem xor_u64 {a b : Nat} (ha : a < 2 ^ 64) (hb : b < 2 ^ 64) : bitsV .xor .u64 (a : Int) (b : Int) = ((a ^^^ b : Nat) : Int) := by
  have h : (BitVec.ofInt 64 (a : Int) ^^^ BitVec.ofInt 64 (b : Int)).toNat = a ^^^ b := by
    rw [BitVec.toNat_xor, BitVec.toNat_ofInt, BitVec.toNat_ofInt]
    congr 1 <;> omega
  show IntKind.u64.wrap ((BitVec.ofInt 64 (a : Int) ^^^ BitVec.ofInt 64 (b : Int)).toNat : Int) = _
  rw [h, IntKind.wrap_u64]
  have := Nat.xor_lt_two_pow ha hb
  omega
def h64 : Nat → Nat → Nat → Nat
  | 0, _, h => h
  | n + 1, v, h => if 4294967295 < v then h64 n (v / 4294967295) (h ^^^ (v / 4294967295)) else h
def defHash (k : Ky) : Nat := (IntKind.u32.wrap ((h64 3 (IntKind.u64.wrap k).toNat (IntKind.u64.wrap k).toNat : Nat) : Int)).toNat
theorem hash64_ok {v : Nat} (hv : v < 2 ^ 64) (hK : K (.int .u32 (IntKind.u32.wrap ((h64 3 v v : Nat) : Int))) w) : Calls Try.prog 163 #[.int .u64 (v : Int)] w (ret K Kp) := by
  refine vc163_calls ?_
  simp only [vc163]
  obtain ⟨I, hI⟩ : ∃ I : Value → Value → World → Prop, ∀ s t wl, I s t wl ↔ ∃ n x h : Nat, s = .int .u64 (x : Int) ∧ t = .int .u64 (h : Int) ∧ h < 2 ^ 64 ∧ h64 n x h = h64 3 v v ∧ (n = 3 ∧ x < 2 ^ 64 ∨ n = 2 ∧ x ≤ 4294967297 ∨ n = 1 ∧ x ≤ 1) ∧ wl = w := ⟨_, fun _ _ _ => Iff.rfl⟩
  refine Lp.intro I (fun s _ _ => natOf s) ⟨(hI _ _ _).2 ⟨3, v, v, rfl, rfl, hv, rfl, .inl ⟨rfl, hv⟩, rfl⟩, ?_⟩
  intro wl _ s t hs
  obtain ⟨n, x, h, rfl, rfl, hh, he, hn, rfl⟩ := (hI _ _ _).1 hs
  simp only [op_gtr, Br_dec]
  refine ⟨fun hgt => ?_, fun hle => ?_⟩
  · have hgt' : 4294967295 < x := by omega
    have hx64 : x < 2 ^ 64 := by omega
    have hd : (x : Int).tdiv 4294967295 = ((x / 4294967295 : Nat) : Int) := rfl
    have hdl : x / 4294967295 < 2 ^ 64 := by omega
    have hw : IntKind.u64.wrap ((x / 4294967295 : Nat) : Int) = ((x / 4294967295 : Nat) : Int) := by rw [IntKind.wrap_u64]; omega
    simp only [op_quo, hd, hw, op_xor, xor_u64 hh hdl]
    refine ⟨by decide, ?_⟩
    have hx2 := Nat.xor_lt_two_pow hh hdl
    obtain ⟨m, rfl⟩ : ∃ m, n = m + 1 := ⟨n - 1, by omega⟩
    rw [h64, if_pos hgt'] at he
    refine ⟨(hI _ _ _).2 ⟨m, _, _, rfl, rfl, hx2, he, by omega, rfl⟩, ?_⟩
    simp only [natOf, Int.toNat_natCast]; omega
  · have hle' : ¬ 4294967295 < x := by omega
    have : h64 3 v v = h := by
      rw [← he]
      cases n with
      | zero => rfl
      | succ n => rw [h64, if_neg hle']
    rw [this] at hK
    simp [-getElem?_pos, -Array.getElem?_eq_getElem, -Int.natCast_add, add_spot, and_assoc, Br_dec, -op_box]
    exact hK
def defV (d : Nat) : Value := .iface 235 (ptr d)
theorem hash_eql {w : World} {K : Value → World → Prop} {Kp : KP} {a b : Ky} (hK : K (.bool (decide (a = b))) w) : (nice Try.prog).op (.bin .eql 20 false false (.iface 2 (ek a)) (.iface 2 (ek b))) w K Kp :=
  op_eql_ifaces (i := (Try.prog.info? 2).getD default) Try.underlying20 (by kernel_rfl) (by kernel_rfl) (fun w => eql_int Try.underlying2 w) hK
structure IsD (hv : Value) : Prop where
  eqv : ∀ {a b : Ky} {w : World} {K : Value → World → Prop} {Kp : KP}, (∀ w', Frm (fun _ => False) w w' → K (.bool (decide (a = b))) w') → (nice Try.prog).call (.inv hv "Equal") [ek a, ek b] w K Kp
theorem defEq_ok {d : Nat} {a b : Ky} (hK : K (.bool (decide (a = b))) w) : (nice Try.prog).call (.inv (defV d) "Equal") [ek a, ek b] w K Kp := by
  simp only [defV, inv_235_161]
  refine vc161_calls ?_
  simp only [vc161]
  simp [-getElem?_pos, -Array.getElem?_eq_getElem, -Int.natCast_add, add_spot, and_assoc, Br_dec, -op_box]
  exact hash_eql hK
theorem defHash_ok {d : Nat} (hK : K (.int .u32 (defHash k)) w) : (nice Try.prog).call (.inv (defV d) "Hash") [ek k] w K Kp := by
  simp only [defV, inv_235_162]
  refine vc162_calls ?_
  simp only [vc162, ek]
  have h0 : 0 ≤ IntKind.u64.wrap k ∧ IntKind.u64.wrap k < 18446744073709551616 := by rw [IntKind.wrap_u64]; omega
  obtain ⟨v, hv⟩ : ∃ v : Nat, IntKind.u64.wrap k = v := ⟨(IntKind.u64.wrap k).toNat, by omega⟩
  simp [-getElem?_pos, -Array.getElem?_eq_getElem, -Int.natCast_add, add_spot, and_assoc, Br_dec, -op_box, hv]
  refine hash64_ok (by omega) ?_
  have e : (defHash k : Int) = IntKind.u32.wrap ((h64 3 v v : Nat) : Int) := by
    have h1 : 0 ≤ IntKind.u32.wrap ((h64 3 v v : Nat) : Int) := by rw [IntKind.wrap_u32]; omega
    rw [defHash, hv, Int.toNat_natCast]; omega
  rw [e] at hK
  exact hK
theorem defHasher_ok (d : Nat) : IsH (defV d) defHash where
  lt k := by
    have : 0 ≤ IntKind.u32.wrap ((h64 3 (IntKind.u64.wrap k).toNat (IntKind.u64.wrap k).toNat : Nat) : Int) ∧ IntKind.u32.wrap ((h64 3 (IntKind.u64.wrap k).toNat (IntKind.u64.wrap k).toNat : Nat) : Int) < 4294967296 := by rw [IntKind.wrap_u32]; omega
    rw [defHash]; omega
  eqv := fun hK => defEq_ok (hK _ Frm.refl)
  hsh := fun hK => defHash_ok (hK _ Frm.refl)
  nilE := by intro K1; simp [defV, ptr]
  iface := ⟨_, _, rfl⟩
private theorem mixed : Try.prog.follows .mixedOrders = true := by kernel_rfl
set_option maxHeartbeats 4000000 in
theorem newHasher_ok (hK : ∀ d w', Frm (fun _ => False) w w' → K (defV d) w') : Calls Try.prog 84 #[ek k] w (ret K Kp) := by
  refine fVC_sound (args := [ek k]) (aL := []) (aJ := []) nice_le mixed Try.func84 (by kernel_rfl) ?_
  refine fVC_of (c := _) rfl ?_
  refine code_seq ?_
  refine code_region ?_
  refine ops_move rfl (.inr rfl) ?_
  refine ops_end ?_
  refine code_seq ?_
  refine code_seq ?_
  refine code_region ?_
  refine ops_move rfl (.inl rfl) ?_
  refine ops_op rfl rfl rfl ?_
  refine Eq.mpr (op_mki_2 (v := ek k)) ?_
  refine ops_end ?_
  refine code_block ?_
  refine code_seq ?_
  refine code_region ?_
  refine ops_op rfl rfl rfl ?_
  refine Eq.mpr (op_ta_20_3 (u := 2) (v := ek k)) ?_
  refine ite_no (by decide) ?_
  refine ops_op rfl rfl rfl ?_
  refine Eq.mpr op_ext2_1 ?_
  refine ops_op rfl rfl rfl ?_
  refine Eq.mpr op_ext2_0 ?_
  refine ops_op rfl rfl rfl ?_
  refine Eq.mpr (op_ta_20_231 (u := 2) (v := ek k)) ?_
  refine ite_no (by decide) ?_
  refine ops_op rfl rfl rfl ?_
  refine Eq.mpr op_ext2_1 ?_
  refine ops_op rfl rfl rfl ?_
  refine Eq.mpr op_ext2_0 ?_
  refine ops_op rfl rfl rfl ?_
  refine Eq.mpr (op_ta_20_232 (u := 2) (v := ek k)) ?_
  refine ite_no (by decide) ?_
  refine ops_op rfl rfl rfl ?_
  refine Eq.mpr op_ext2_1 ?_
  refine ops_op rfl rfl rfl ?_
  refine Eq.mpr op_ext2_0 ?_
  refine ops_op rfl rfl rfl ?_
  refine Eq.mpr (op_ta_20_21 (u := 2) (v := ek k)) ?_
  refine ite_no (by decide) ?_
  refine ops_op rfl rfl rfl ?_
  refine Eq.mpr op_ext2_1 ?_
  refine ops_op rfl rfl rfl ?_
  refine Eq.mpr op_ext2_0 ?_
  refine ops_op rfl rfl rfl ?_
  refine Eq.mpr (op_ta_20_2 (u := 2) (v := ek k)) ?_
  refine ite_yes rfl ?_
  refine ops_op rfl rfl rfl ?_
  refine Eq.mpr op_ext2_1 ?_
  refine ops_op rfl rfl rfl ?_
  refine Eq.mpr op_ext2_0 ?_
  refine ops_op rfl rfl rfl ?_
  refine Eq.mpr (op_ta_20_187 (u := 2) (v := ek k)) ?_
  refine ite_no (by decide) ?_
  refine ops_op rfl rfl rfl ?_
  refine Eq.mpr op_ext2_1 ?_
  refine ops_op rfl rfl rfl ?_
  refine Eq.mpr op_ext2_0 ?_
  refine ops_op rfl rfl rfl ?_
  refine Eq.mpr (op_ta_20_5 (u := 2) (v := ek k)) ?_
  refine ite_no (by decide) ?_
  refine ops_op rfl rfl rfl ?_
  refine Eq.mpr op_ext2_1 ?_
  refine ops_op rfl rfl rfl ?_
  refine Eq.mpr op_ext2_0 ?_
  refine ops_op rfl rfl rfl ?_
  refine Eq.mpr (op_ta_20_233 (u := 2) (v := ek k)) ?_
  refine ite_no (by decide) ?_
  refine ops_op rfl rfl rfl ?_
  refine Eq.mpr op_ext2_1 ?_
  refine ops_op rfl rfl rfl ?_
  refine Eq.mpr op_ext2_0 ?_
  refine ops_op rfl rfl rfl ?_
  refine Eq.mpr (op_ta_20_22 (u := 2) (v := ek k)) ?_
  refine ite_no (by decide) ?_
  refine ops_op rfl rfl rfl ?_
  refine Eq.mpr op_ext2_1 ?_
  refine ops_op rfl rfl rfl ?_
  refine Eq.mpr op_ext2_0 ?_
  refine ops_op rfl rfl rfl ?_
  refine Eq.mpr (op_ta_20_234 (u := 2) (v := ek k)) ?_
  refine ite_no (by decide) ?_
  refine ops_op rfl rfl rfl ?_
  refine Eq.mpr op_ext2_1 ?_
  refine ops_op rfl rfl rfl ?_
  refine Eq.mpr op_ext2_0 ?_
  refine ops_op rfl rfl rfl ?_
  refine Eq.mpr (op_ta_20_12 (u := 2) (v := ek k)) ?_
  refine ite_no (by decide) ?_
  refine ops_op rfl rfl rfl ?_
  refine Eq.mpr op_ext2_1 ?_
  refine ops_op rfl rfl rfl ?_
  refine Eq.mpr op_ext2_0 ?_
  refine ops_op rfl rfl rfl ?_
  refine Eq.mpr (op_ta_20_9 (u := 2) (v := ek k)) ?_
  refine ite_no (by decide) ?_
  refine ops_op rfl rfl rfl ?_
  refine Eq.mpr op_ext2_1 ?_
  refine ops_op rfl rfl rfl ?_
  refine Eq.mpr op_ext2_0 ?_
  refine ops_pick (b := false) rfl rfl rfl rfl ?_
  refine ops_pick (b := false) rfl rfl rfl rfl ?_
  refine ops_pick (b := false) rfl rfl rfl rfl ?_
  refine ops_pick (b := false) rfl rfl rfl rfl ?_
  refine ops_pick (b := false) rfl rfl rfl rfl ?_
  refine ops_pick (b := false) rfl rfl rfl rfl ?_
  refine ops_pick (b := true) rfl rfl rfl rfl ?_
  refine ops_pick (b := false) rfl rfl rfl rfl ?_
  refine ops_pick (b := false) rfl rfl rfl rfl ?_
  refine ops_pick (b := false) rfl rfl rfl rfl ?_
  refine ops_pick (b := false) rfl rfl rfl rfl ?_
  refine ops_end ?_
  refine code_cond (t := true) rfl (.inr rfl) ?_
  refine code_seq ?_
  refine code_region ?_
  refine ops_op rfl rfl rfl ?_
  refine Eq.mpr (op_build (v := .agg #[]) (by kernel_rfl)) ?_
  refine ops_op rfl rfl rfl ?_
  refine op_box_ok fun w1 k1 z1 b1 => ?_
  refine ops_op rfl rfl rfl ?_
  refine Eq.mpr (op_mki_235 (v := ptr w.heap.size)) ?_
  refine ops_move rfl (.inr rfl) ?_
  refine ops_end ?_
  refine code_ret ?_
  exact hK _ w1 k1
end Go.Proofs.Ytbghmbbhkoniiaa.I
end
section
/- A map with its hasher, chosen or to be chosen at the first key: set, delete, get, length, iterator. -/
set_option maxRecDepth 100000
set_option maxHeartbeats 1000000
set_option linter.unusedSimpArgs false
set_option linter.unusedVariables false
set_option linter.unusedSectionVars false
namespace Go.Proofs.Ytbghmbbhkoniiaa.I
open Go.Vc Go.Proofs Go.Proofs.Ytbghmbbhkoniiaa Go.Vc.Nd
variable {w w' : World} {v hv : Value} {t : Tr} {F F' : Nat → Prop} {K : Value → World → Prop} {Kp : KP} {hash : Ky → Nat} {k : Ky} {x : Vl} {l s rb : Nat} {r0 mu nl : Bool}

theorem set_first_ok {b : Nat} (hm : IsMap w b .nilIface .emp F)
    (hK : ∀ b' w' F' d, Frm (fun c => mu = true ∧ F c) w w' → IsMap w' b' (defV d) (.arr [(k, x)]) F' → (∀ c, F' c → F c ∨ w.heap.size ≤ c) → (mu = true → b' = b) → K (ptr b') w') : Calls Try.prog 70 #[ptr b, ek k, ev x, .bool mu] w (ret K Kp) := by
  obtain ⟨r, F0, h1, h2, h3, h4⟩ := hm.lt
  have heq := fun {wz : World} {K : Value → World → Prop} {Kp : KP} => eq_nil h3 (wz := wz) (K := K) (Kp := Kp)
  obtain rfl := h3.nil
  refine vc70_calls ?_
  simp [-getElem?_pos, -Array.getElem?_eq_getElem, -Int.natCast_add, add_spot, and_assoc, Br_dec, -op_box, -op_st_4, -op_st_3, -op_st_132, -op_st_149, -op_st_201, -op_st_148, -op_st_134, -op_st_99, -op_alloc_4, -op_alloc_134, -op_lit_149_1, vc70, ptr, h1]
  refine Jn.intro (fun hv' w1 => ∃ d, hv' = defV d ∧ Frm (fun _ => False) w w1) ⟨newHasher_ok fun d w1 k1 => ⟨d, rfl, k1⟩, ?_⟩
  rintro w0 _ ⟨d, rfl, k0⟩
  have h10 := k0.get h1 (fun h => h)
  have n0 := k0.size
  obtain ⟨J, hJ⟩ : ∃ J : Value → World → Prop, ∀ ov w1, J ov w1 ↔ ∃ nb, ov = ptr nb ∧ Frm (fun _ => False) w0 w1 ∧ w1.heap[nb]? = some (.cells #[.int .i64 0, .nilIface, .nilIface] 134 (0, 0)) ∧ (nb = b ∧ mu = true ∨ nb = w0.heap.size) ∧ (mu = true → nb = b) := ⟨_, fun _ _ => Iff.rfl⟩
  refine Jn.intro J ⟨fun hm => ?_, fun hm => (hJ _ _).2 ⟨b, rfl, Frm.refl, h10, .inl ⟨rfl, hm⟩, fun _ => rfl⟩, ?_⟩
  · exact clone_map_ok h10 rfl rfl rfl fun w1 k1 z1 b1 => (hJ _ _).2 ⟨_, rfl, k1, b1, .inr rfl, fun h => by rw [h] at hm; cases hm⟩
  intro w1 ov hov
  obtain ⟨nb, rfl, k1, b1, hnb, hnbm⟩ := (hJ _ _).1 hov
  clear hov hJ J
  have hb1 := k1.get h10 (fun h => h)
  have n1 := k1.size
  have l1 := lt_of_get h10
  simp [-getElem?_pos, -Array.getElem?_eq_getElem, -Int.natCast_add, add_spot, and_assoc, Br_dec, -op_box, -op_st_4, -op_st_3, -op_st_132, -op_st_149, -op_st_201, -op_st_148, -op_st_134, -op_st_99, -op_alloc_4, -op_alloc_134, -op_lit_149_1, ptr]
  refine op_store_ok (by kernel_rfl) b1 (by simp) rfl fun w2 k2 z2 b2 => ?_
  have b2 : w2.heap[nb]? = some (.cells #[.int .i64 0, .nilIface, defV d] 134 (0, 0)) := by simpa using b2
  obtain ⟨hh, hb2⟩ : ∃ hh, w2.heap[b]? = some (.cells #[.int .i64 0, .nilIface, hh] 134 (0, 0)) := by
    by_cases e : b = nb
    · exact ⟨_, by rw [e]; exact b2⟩
    · exact ⟨_, k2.get hb1 e⟩
  simp [-getElem?_pos, -Array.getElem?_eq_getElem, -Int.natCast_add, add_spot, and_assoc, Br_dec, -op_box, -op_st_4, -op_st_3, -op_st_132, -op_st_149, -op_st_201, -op_st_148, -op_st_134, -op_st_99, -op_alloc_4, -op_alloc_134, -op_lit_149_1, hb2]
  refine op_store_ok (by kernel_rfl) b2 (by simp) rfl fun w3 k3 z3 b3 => ?_
  refine op_lit_ok lit_149_1 fun w4 k4 z4 b4 => ?_
  simp [-getElem?_pos, -Array.getElem?_eq_getElem, -Int.natCast_add, add_spot, and_assoc, Br_dec, -op_box, -op_st_4, -op_st_3, -op_st_132, -op_st_149, -op_st_201, -op_st_148, -op_st_134, -op_st_99, -op_alloc_4, -op_alloc_134, -op_lit_149_1]
  refine op_box_ok fun w5 k5 z5 b5 => ?_
  simp only [cells_agg] at b5
  have bn5 := k5.get (k4.get b3 (fun h => h)) (fun h => h)
  refine op_store_ok (by kernel_rfl) bn5 (by simp) rfl fun w6 k6 z6 b6 => ?_
  have l2 := lt_of_get b2
  have hq : Rw w6 148 2 w3.heap.size 1 (ents [(k, x)]) := ((Rw.lit (w := w4) (n := 1) (by rw [ents_len]; rfl) (by decide) (by simpa [ents, ent] using b4)).frame k5 (fun h => h)).frame k6 (by omega)
  have b56 := k6.get b5 (by omega)
  have kall : Frm (fun c => mu = true ∧ F c) w w6 := (k0.to (M' := fun c => mu = true ∧ F c) fun _ h => h.elim).old (k1.fst (k2.tr (k3.tr (k4.fst (k5.fst k6))))) fun c hc => by
    have hcn : c = nb := by rcases hc with h | h | h <;> exact h
    rcases hnb with h | h
    · exact .inl ⟨h.2, by rw [hcn, h.1]; exact h2.1⟩
    · exact .inr (by omega)
  refine hK nb w6 (fun c => c = nb ∨ c = w4.heap.size ∨ c = w3.heap.size) d kall ⟨_, fun c => c = w4.heap.size ∨ c = w3.heap.size, by rw [show ((toL (Nd.arr [(k, x)])).length : Int) = 1 from rfl]; simpa [ptr] using b6, .inl rfl, ⟨w4.heap.size, w3.heap.size, 1, rfl, .inl rfl, .inr rfl, by omega, b56, by simp, hq⟩, fun c hc => ⟨.inr hc, by omega⟩⟩ (fun c hc => ?_) hnbm
  rcases hc with h | h | h
  · rcases hnb with h' | h'
    · exact .inl (by rw [h, h'.1]; exact h2.1)
    · exact .inr (by omega)
  · exact .inr (by omega)
  · exact .inr (by omega)

def Ver (w : World) (b : Nat) (hash : Ky → Nat) (nl : Bool) (t : Tr) (F : Nat → Prop) : Prop :=
  WFr hash t ∧ ∃ hv, IsMap w b hv t F ∧ (IsH hv hash ∨ nl = true ∧ hash = defHash ∧ hv = .nilIface ∧ t = .emp)
theorem Ver.keep {b : Nat} (h : Ver w b hash nl t F) (hw : ∀ c o, F c → w.heap[c]? = some o → w'.heap[c]? = some o) : Ver w' b hash nl t F := by
  obtain ⟨h1, hv, h2, h3⟩ := h
  exact ⟨h1, hv, h2.keep hw, h3⟩
theorem Ver.frame {b : Nat} {M : Nat → Prop} (h : Ver w b hash nl t F) (hf : Frm M w w') (hM : ∀ c, F c → ¬ M c) : Ver w' b hash nl t F := h.keep fun c o hc ho => hf.get ho (hM c hc)
theorem Ver.still {b : Nat} (h : Ver w b hash nl t F) (hf : Frm (fun _ => False) w w') : Ver w' b hash nl t F := h.frame hf fun _ _ h => h
theorem Ver.mono {b : Nat} (h : Ver w b hash nl t F) (hF : ∀ c, F c → F' c) : Ver w b hash nl t F' := by
  obtain ⟨h1, hv, ⟨r, F0, g1, g2, g3, g4⟩, h3⟩ := h
  exact ⟨h1, hv, ⟨r, F0, g1, hF _ g2, g3, fun c hc => ⟨hF _ (g4 c hc).1, (g4 c hc).2⟩⟩, h3⟩
theorem Ver.lt {b : Nat} (h : Ver w b hash nl t F) : Ver w b hash nl t (fun c => F c ∧ c < w.heap.size) := by
  obtain ⟨h1, hv, h2, h3⟩ := h
  exact ⟨h1, hv, h2.lt, h3⟩
theorem Ver.mem {b : Nat} (h : Ver w b hash nl t F) : F b := by obtain ⟨h1, hv, h2, h3⟩ := h; exact h2.mem
theorem ver_set_ok {b : Nat} (hdef : ∀ d, IsH (defV d) defHash) (h : Ver w b hash nl t F) (hL : (toL t).length ≤ 1000000)
    (hK : ∀ b' w' F', Frm (fun c => mu = true ∧ F c) w w' → Ver w' b' hash nl (Nd.set hash t k x) F' → (∀ c, F' c → F c ∨ w.heap.size ≤ c) → (mu = true → b' = b) → K (ptr b') w') : Calls Try.prog 70 #[ptr b, ek k, ev x, .bool mu] w (ret K Kp) := by
  obtain ⟨h1, hv, h2, h3 | ⟨hn, rfl, rfl, rfl⟩⟩ := h
  · exact set_map_ok h3 h1 hL h2 fun b' w' F' k' m' hF' hb => hK b' w' F' k' ⟨(set_spec h3.lt h1).1, hv, m', .inl h3⟩ hF' hb
  · refine set_first_ok h2 fun b' w' F' d k' m' hF' hb => hK b' w' F' k' ⟨(set_spec (hdef d).lt h1).1, defV d, m', .inl (hdef d)⟩ hF' hb
theorem ver_del_ok {b : Nat} (h : Ver w b hash nl t F) (hL : (toL t).length ≤ 1000000)
    (hK : ∀ b' w' F', Frm (fun c => mu = true ∧ F c) w w' → Ver w' b' hash nl (delT hash t k) F' → (∀ c, F' c → F c ∨ w.heap.size ≤ c) → K (ptr b') w') : Calls Try.prog 82 #[ptr b, ek k, .bool mu] w (ret K Kp) := by
  obtain ⟨h1, hv, h2, h3 | ⟨hn, rfl, rfl, rfl⟩⟩ := h
  · refine del_map_ok h3 h1 hL h2 (fun hg w' k' => ?_) fun hg b' w' F' k' m' hF' => hK b' w' F' k' ⟨(delT_spec h1).1, hv, by rw [delT, if_pos hg]; exact m', .inl h3⟩ hF'
    have e : delT hash t k = t := by rw [delT, if_neg (by rw [hg]; decide)]
    refine hK b w' F (k'.to fun _ h => h.elim) ?_ fun c hc => .inl hc
    rw [e]
    exact ⟨h1, hv, h2.keep fun c o hc ho => k'.get ho fun h => h, .inl h3⟩
  · obtain ⟨r, F0, g1, g2, g3, g4⟩ := id h2
    obtain rfl := g3.nil
    refine vc82_calls ?_
    simp [-getElem?_pos, -Array.getElem?_eq_getElem, -Int.natCast_add, add_spot, and_assoc, Br_dec, -op_box, -op_st_4, -op_st_3, -op_st_132, -op_st_149, -op_st_201, -op_st_148, -op_st_134, -op_st_99, -op_alloc_4, -op_alloc_134, -op_lit_149_1, vc82, ptr, g1]
    exact hK b w F Frm.refl ⟨h1, _, h2, .inr ⟨hn, rfl, rfl, rfl⟩⟩ fun c hc => .inl hc
theorem Set_ok {b : Nat} (hdef : ∀ d, IsH (defV d) defHash) (h : Ver w b hash nl t F) (hL : (toL t).length ≤ 1000000)
    (hK : ∀ b' w' F', Frm (fun _ => False) w w' → Ver w' b' hash nl (Nd.set hash t k x) F' → (∀ c, F' c → (F c ∨ w.heap.size ≤ c) ∧ c < w'.heap.size) → K (ptr b') w') : Calls Try.prog 68 #[ptr b, ek k, ev x] w (ret K Kp) := by
  refine vc68_calls ?_
  simp only [vc68, call_70]
  exact ver_set_ok hdef h hL fun b' w' F' k' h' hF' _ => hK b' w' _ (k'.to fun _ h => nomatch h.1) h'.lt fun c hc => ⟨hF' c hc.1, hc.2⟩
theorem Delete_ok {b : Nat} (h : Ver w b hash nl t F) (hL : (toL t).length ≤ 1000000)
    (hK : ∀ b' w' F', Frm (fun _ => False) w w' → Ver w' b' hash nl (delT hash t k) F' → (∀ c, F' c → (F c ∨ w.heap.size ≤ c) ∧ c < w'.heap.size) → K (ptr b') w') : Calls Try.prog 69 #[ptr b, ek k] w (ret K Kp) := by
  refine vc69_calls ?_
  simp only [vc69, call_82]
  exact ver_del_ok h hL fun b' w' F' k' h' hF' => hK b' w' _ (k'.to fun _ h => nomatch h.1) h'.lt fun c hc => ⟨hF' c hc.1, hc.2⟩
theorem ver_len_ok {b : Nat} (h : Ver w b hash nl t F) (hK : K (.int .i64 (toL t).length) w) : Calls Try.prog 36 #[ptr b] w (ret K Kp) := by
  obtain ⟨h1, hv, h2, h3⟩ := h
  exact len_ok h2 hK
theorem ver_iter_ok {b : Nat} (h : Ver w b hash nl t F) (hF : ∀ c, F c → c < w.heap.size)
    (hK : ∀ ib w', Frm (fun _ => False) w w' → w.heap.size ≤ ib → At w' ib b F hash (toL t) → K (ptr ib) w') : Calls Try.prog 37 #[ptr b] w (ret K Kp) := by
  obtain ⟨h1, hv, h2, h3⟩ := h
  exact iterator_ok h1 h2 hF hK
theorem ver_new_ok {h : Value} (hv : IsH h hash ∨ nl = true ∧ hash = defHash ∧ h = .nilIface) (h1 : h.oneCell' = true) (hK : ∀ w', Frm (fun _ => False) w w' → w'.heap.size = w.heap.size + 1 → Ver w' w.heap.size hash nl .emp (· = w.heap.size) → K (ptr w.heap.size) w') : Calls Try.prog 66 #[h] w (ret K Kp) := by
  refine vc66_calls ?_
  simp [-getElem?_pos, -Array.getElem?_eq_getElem, -Int.natCast_add, add_spot, and_assoc, Br_dec, -op_box, -op_st_4, -op_st_3, -op_st_132, -op_st_149, -op_st_201, -op_st_148, -op_st_134, -op_st_99, -op_alloc_4, -op_alloc_134, -op_lit_149_1, vc66, h1]
  refine op_box_ok fun w1 k1 z1 b1 => ?_
  simp only [cells_agg] at b1
  refine hK w1 k1 z1 ⟨trivial, h, ⟨.nilIface, fun _ => False, b1, rfl, rfl, fun _ h => h.elim⟩, ?_⟩
  rcases hv with hv | hv
  · exact .inl hv
  · exact .inr ⟨hv.1, hv.2.1, hv.2.2, rfl⟩
end Go.Proofs.Ytbghmbbhkoniiaa.I
end
section
/- What a version of a map tells: mapSeen. -/
set_option maxRecDepth 100000
set_option maxHeartbeats 2000000
set_option linter.unusedSimpArgs false
set_option linter.unusedVariables false
set_option linter.unusedSectionVars false
namespace Go.Proofs.Ytbghmbbhkoniiaa.I
open Go.Vc Go.Proofs Go.Proofs.Ytbghmbbhkoniiaa Go.Vc.Nd
variable {w w' : World} {v hv : Value} {t : Tr} {F F' : Nat → Prop} {K : Value → World → Prop} {Kp : KP} {hash : Ky → Nat} {k : Ky} {x : Vl} {l s rb : Nat} {r0 mu nl : Bool}

theorem apPair : apOf Try.prog 39 = some (46, 2, 16) := by kernel_rfl
def IsPairs (w : World) (v : Value) (L : List (Ky × Vl)) : Prop := IsSl w v L.length (L.flatMap ent)
def lenAt (w : World) (b j : Nat) : Nat := match w.heap[b]? with
  | some (.cells cs _ _) => match cs[j]? with
    | some (.slice _ n _) => n
    | _ => 0
  | _ => 0
theorem nextV_cons {e : Ky × Vl} {L : List (Ky × Vl)} : nextV (e :: L) = .tuple #[ek e.1, ev e.2, .bool true] := rfl
theorem mapSeen_ok {ib mb n : Nat} {L : List (Ky × Vl)} (h : At w ib mb F hash L) (hF : ¬ F ib) (hFl : ∀ c, F c → c < w.heap.size) (hL : L.length < 2 ^ 31)
    (hK : ∀ pv w', Frm (· = ib) w w' → RowsOf (Flat ent) w' w.heap.size 46 2 pv L (fun _ => False) → K (.agg #[.int .i64 n, pv]) w') : Calls Try.prog 35 #[.int .i64 n, ptr ib] w (ret K Kp) := by
  refine vc35_calls ?_
  simp only [vc35]
  refine op_alloc_ok (z := .agg #[.int .i64 0, .slice none 0 0]) (by kernel_rfl) fun w1 k1 z1 b1 => ?_
  simp only [cells_agg] at b1
  simp [-getElem?_pos, -Array.getElem?_eq_getElem, -Int.natCast_add, add_spot, and_assoc, Br_dec, -op_box, -op_alloc_41, -op_lit_39_1, -op_st_41, -op_st_39]
  refine op_alloc_ok (z := .agg #[.int .i64 0, .slice none 0 0]) (by kernel_rfl) fun w2 k2 z2 b2 => ?_
  simp only [cells_agg] at b2
  refine op_storeN_ok (n := 2) (by kernel_rfl) b2 rfl (by decide) (by simp) fun w3 k3 z3 b3 => ?_
  have n1 := k1.size
  have n2 := k2.size
  have n3 := k3.size
  have b13 := k3.get (k2.get b1 fun h => h) (by omega)
  have hib := h.lt
  have b3 : w3.heap[w1.heap.size]? = some (.cells #[.int .i64 n, .slice none 0 0] 41 (0, 0)) := by simpa [ow] using b3
  have k03 : Frm (fun _ => False) w w3 := ((k1.no k2).old k3 fun c hc => .inr (by omega))
  have hA3 : At w3 ib mb F hash L := h.frame k03 (fun _ _ h => h) fun h => h
  obtain ⟨I, hI⟩ : ∃ I : World → Prop, ∀ wl, I wl ↔ ∃ D L' pv, D ++ L' = L ∧ Frm (· = ib) w wl ∧ w3.heap.size ≤ wl.heap.size ∧ At wl ib mb F hash L' ∧ wl.heap[w.heap.size]? = some (.cells #[.int .i64 0, .slice none 0 0] 41 (0, 0)) ∧
      wl.heap[w1.heap.size]? = some (.cells #[.int .i64 n, pv] 41 (0, 0)) ∧ RowsOf (Flat ent) wl w3.heap.size 46 2 pv D (fun _ => False) := ⟨_, fun _ => Iff.rfl⟩
  refine Lp.intro I (fun wl => L.length - lenAt wl w1.heap.size 1) ⟨(hI _).2 ⟨[], L, _, rfl, k03.to fun _ h => h.elim, Nat.le_refl _, hA3, b13, b3, rows_nil⟩, ?_⟩
  intro wl hl
  obtain ⟨D, L', pv, hDL, kl, zl, hA, bz, bo, hR⟩ := (hI _).1 hl
  have hib2 : ib ≠ w1.heap.size := by omega
  have hlow := hR.own_lt
  refine done_ok hA ?_
  cases L' with
  | nil =>
    simp only [List.append_nil] at hDL
    subst hDL
    simp [-getElem?_pos, -Array.getElem?_eq_getElem, -Int.natCast_add, add_spot, and_assoc, Br_dec, -op_box, -op_alloc_41, -op_lit_39_1, -op_st_41, -op_st_39, bo]
    have hx : (#[Value.int .i64 (n : Int), pv] : Array Value).extract 0 2 = #[.int .i64 n, pv] := rfl
    refine op_storeN_ok (n := 2) (by kernel_rfl) bz rfl (by decide) (by simp [hR.one]) fun w4 k4 z4 b4 => ?_
    have b4 : w4.heap[w.heap.size]? = some (.cells #[.int .i64 n, pv] 41 (0, 0)) := by simpa [ow] using b4
    simp [-getElem?_pos, -Array.getElem?_eq_getElem, -Int.natCast_add, add_spot, and_assoc, Br_dec, -op_box, -op_alloc_41, -op_lit_39_1, -op_st_41, -op_st_39, b4, hx]
    refine hK pv w4 (kl.old k4 fun c hc => .inr (by omega)) ((hR.frame (flat_ok _) k4 (fun _ h => h.elim) fun b hb he => ?_).base_le (by omega))
    have := hlow b hb; omega
  | cons e L' =>
    simp [-getElem?_pos, -Array.getElem?_eq_getElem, -Int.natCast_add, add_spot, and_assoc, Br_dec, -op_box, -op_alloc_41, -op_lit_39_1, -op_st_41, -op_st_39]
    refine Next_ok hA hF fun w4 k4 z4 hA4 => ?_
    rw [nextV_cons]
    have bo4 := k4.get bo (fun h => hib2 h.symm)
    have bz4 := k4.get bz (by omega)
    have hR4 := hR.frame (flat_ok _) k4 (fun _ h => h.elim) fun b hb he => by have := hlow b hb; omega
    simp [-getElem?_pos, -Array.getElem?_eq_getElem, -Int.natCast_add, add_spot, and_assoc, Br_dec, -op_box, -op_alloc_41, -op_lit_39_1, -op_st_41, -op_st_39, bo4, ek, ev]
    have hlen : D.length + L'.length + 1 = L.length := by rw [← hDL]; simp; omega
    refine op_push (u := ent e) (flat_ok ent) apPair lit_39_1 rfl (fun u hu => ents_one (es := [e]) u (by simpa [ents] using hu)) hR4 rfl (G2 := fun _ => False) (fun _ h => h.elim) (fun _ _ h => h) (by omega) (by omega) fun l' w5 k5 hR5 hown5 => ?_
    have hlow4 := hR4.own_lt
    have bo5 := k5.get bo4 (fun h => by have := hlow4 _ h.symm; omega)
    have bz5 := k5.get bz4 (fun h => by have := hlow4 _ h.symm; omega)
    refine op_store_ok (by kernel_rfl) bo5 (by simp) hR5.one fun w6 k6 z6 b6 => ?_
    have b6 : w6.heap[w1.heap.size]? = some (.cells #[.int .i64 n, l'] 41 (0, 0)) := by simpa using b6
    have hlow5 := hR5.own_lt
    have hF5 : ∀ c, F c → ¬ some c = pv.ownBlock := fun c hc he => by have := hlow4 _ he.symm; have := hFl c hc; omega
    have hA6 := (hA4.frame k5 hF5 (fun he => by have := hlow4 _ he.symm; omega)).frame k6 (fun c hc he => by have := hFl c hc; omega) hib2
    have n4 := k4.size
    have n5 := k5.size
    obtain ⟨a, c, rfl, _⟩ := hR5.slice
    refine ⟨(hI _).2 ⟨D ++ [e], L', _, by rw [← hDL]; simp, ((kl.trans k4 fun _ h _ => h).old k5 fun c hc => ?_).old k6 fun c hc => .inr (by omega), by omega, hA6, k6.get bz5 (by omega), b6, ?_⟩, ?_⟩
    · have := hlow4 _ hc.symm; exact .inr (by omega)
    · exact (hR5.frame (flat_ok _) k6 (fun _ h => h.elim (fun h => h.elim) fun h => h.elim) fun b hb he => by have := hlow5 b hb; omega).mono (flat_ok _) (fun _ h => h.elim (fun h => h.elim) fun h => h.elim) (fun _ h => h.elim) fun _ _ h => h
    · have e1 : lenAt wl w1.heap.size 1 = D.length := by
        obtain ⟨a0, c0, rfl, _⟩ := hR.slice
        simp [lenAt, bo]
      have e2 : lenAt w6 w1.heap.size 1 = D.length + 1 := by simp [lenAt, b6]
      rw [e1, e2]; omega
end Go.Proofs.Ytbghmbbhkoniiaa.I
end
section
/- The hasher of the thin package. -/
set_option maxRecDepth 100000
set_option linter.unusedSimpArgs false
set_option linter.unusedVariables false
set_option linter.unusedSectionVars false
namespace Go.Proofs.Ytbghmbbhkoniiaa.I
open Go.Vc Go.Proofs Go.Proofs.Ytbghmbbhkoniiaa Go.Vc.Nd
variable {w w' : World} {K : Value → World → Prop} {Kp : KP}

def dataHash (md ml sh : Nat) (k : Int) : Nat := (IntKind.u32.wrap ((IntKind.u32.wrap (IntKind.u32.wrap k * (ml : Int))).tmod (md : Int) * 2 ^ min sh IntKind.u32.bits)).toNat
def dataV (md ml sh : Nat) : Value := .iface 143 (.agg #[.int .u32 md, .int .u32 ml, .int .u8 sh])
theorem dataHasher_ok {md ml sh : Nat} (hm : 0 < md) : IsH (dataV md ml sh) (dataHash md ml sh) where
  lt k := by
    unfold dataHash
    have : 0 ≤ IntKind.u32.wrap ((IntKind.u32.wrap (IntKind.u32.wrap k * (ml : Int))).tmod (md : Int) * 2 ^ min sh IntKind.u32.bits) ∧ IntKind.u32.wrap ((IntKind.u32.wrap (IntKind.u32.wrap k * (ml : Int))).tmod (md : Int) * 2 ^ min sh IntKind.u32.bits) < 4294967296 := by
      rw [IntKind.wrap_u32]; omega
    omega
  eqv := fun {a b w K Kp} hK => by
    simp only [dataV, inv_143_114]
    refine vc114_calls ?_
    simp only [vc114]
    refine op_box_ok fun w1 k1 z1 b1 => ?_
    simp only [ek, op_eql]
    exact hK w1 k1
  hsh := fun {k w K Kp} hK => by
    simp only [dataV, inv_143_115]
    refine vc115_calls ?_
    simp only [vc115]
    refine op_box_ok fun w1 k1 z1 b1 => ?_
    simp only [cells_agg] at b1
    have hne : ¬ ((md : Int) = 0) := by omega
    simp [-getElem?_pos, -Array.getElem?_eq_getElem, -Int.natCast_add, add_spot, and_assoc, Br_dec, -op_box, b1, ek, hne]
    have := hK w1.drew (k1.no (Frm.drew _))
    have hd : ((dataHash md ml sh k : Nat) : Int) = IntKind.u32.wrap ((IntKind.u32.wrap (IntKind.u32.wrap k * (ml : Int))).tmod (md : Int) * 2 ^ min sh IntKind.u32.bits) := by
      unfold dataHash
      exact Int.toNat_of_nonneg (by rw [IntKind.wrap_u32]; omega)
    rw [hd] at this
    first | exact this | exact ⟨by omega, this⟩
  nilE := by intro K1; simp [dataV]
  iface := ⟨_, _, rfl⟩
end Go.Proofs.Ytbghmbbhkoniiaa.I
end
section
/- Versions of maps made by steps, and what they tell: mapsOf, MapRun. -/
set_option maxRecDepth 100000
set_option maxHeartbeats 2000000
set_option linter.unusedSimpArgs false
set_option linter.unusedVariables false
set_option linter.unusedSectionVars false
namespace Go.Proofs.Ytbghmbbhkoniiaa.I
open Go.Vc Go.Proofs Go.Proofs.Ytbghmbbhkoniiaa Go.Vc.Nd
variable {w w' : World} {v hv : Value} {t : Tr} {F F' G : Nat → Prop} {K : Value → World → Prop} {Kp : KP} {hash : Ky → Nat} {k : Ky} {x : Vl} {l s rb md ml sh : Nat} {r0 mu nl : Bool}

def hval (md ml sh : Nat) : Value := .agg #[.int .u32 md, .int .u32 ml, .int .u8 sh]
def hashOf (md ml sh : Nat) : Ky → Nat := if md = 0 then defHash else dataHash md ml sh
theorem hashOf_lt (md ml sh : Nat) (k : Ky) : hashOf md ml sh k < 2 ^ 32 := by
  unfold hashOf
  split
  · exact (defHasher_ok 0).lt k
  · exact (dataHasher_ok (by omega)).lt k
theorem hasher_ok (hK : ∀ h w', Frm (fun _ => False) w w' → h.oneCell' = true → (IsH h (hashOf md ml sh) ∨ decide (md = 0) = true ∧ hashOf md ml sh = defHash ∧ h = .nilIface) → K h w') : Calls Try.prog 41 #[hval md ml sh] w (ret K Kp) := by
  refine vc41_calls ?_
  simp only [vc41, hval]
  refine op_box_ok fun w1 k1 z1 b1 => ?_
  simp only [cells_agg] at b1
  have hx : (#[Value.int .u32 (md : Int), .int .u32 (ml : Int), .int .u8 (sh : Int)] : Array Value).extract 0 3 = #[.int .u32 md, .int .u32 ml, .int .u8 sh] := rfl
  simp [-getElem?_pos, -Array.getElem?_eq_getElem, -Int.natCast_add, add_spot, and_assoc, Br_dec, -op_box, -op_alloc_35, -op_st_35, -op_lit_88_1, -op_lit_36_1, b1]
  refine ⟨fun h0 => ?_, fun h0 => ?_⟩
  · have h0 : md = 0 := by omega
    refine hK .nilIface w1 k1 rfl (.inr ⟨by simp [h0], ?_, rfl⟩)
    rw [hashOf, if_pos h0]
  · have h0 : ¬ md = 0 := by omega
    refine hK (dataV md ml sh) w1 k1 rfl (.inl ?_)
    rw [hashOf, if_neg h0]
    exact dataHasher_ok (by omega)
theorem mapStep_ok {s : MStep} {n : Nat} (h0 : 0 ≤ s.fro) (h1 : s.fro < n) (h2 : s.kind ≤ 3) (h3 : 0 ≤ s.count) (h4 : s.count ≤ 100000) (hK : ∀ w', Frm (fun _ => False) w w' → K (.bool true) w') :
    Calls Try.prog 67 #[.agg s.cells.toArray, .int .i64 n] w (ret K Kp) := by
  refine vc67_calls ?_
  simp only [vc67]
  refine op_box_ok fun w1 k1 z1 b1 => ?_
  simp only [cells_agg, MStep.cells] at b1
  have e1 : (s.kind : Int) ≤ 3 := by omega
  have := hK w1 k1
  simp [-getElem?_pos, -Array.getElem?_eq_getElem, -Int.natCast_add, add_spot, and_assoc, Br_dec, -op_box, -op_alloc_35, -op_st_35, -op_lit_88_1, -op_lit_36_1, b1, h0, h1, e1]
  refine ⟨fun _ => this, fun _ => ?_⟩
  try simp [-getElem?_pos, -Array.getElem?_eq_getElem, -Int.natCast_add, add_spot, and_assoc, Br_dec, -op_box, -op_alloc_35, -op_st_35, -op_lit_88_1, -op_lit_36_1, h3, h4]
  first | exact this | exact ⟨this, fun h => absurd h (by omega)⟩

def ElV (hash : Ky → Nat) (nl : Bool) : World → List Value → Tr → (Nat → Prop) → Prop := fun w u t G => ∃ b, u = [ptr b] ∧ Ver w b hash nl t G
theorem elV_ok (hash : Ky → Nat) (nl : Bool) : ElOk (ElV hash nl) :=
  ⟨fun ⟨b, hu, h⟩ hf hM => ⟨b, hu, h.frame hf hM⟩, fun ⟨b, hu, h⟩ hG => ⟨b, hu, h.mono hG⟩⟩
theorem apM : apOf Try.prog 88 = some (90, 1, 8) := by kernel_rfl
theorem apSeen : apOf Try.prog 36 = some (41, 2, 32) := by kernel_rfl
theorem cells5 (s : MStep) : (#[.int .u8 s.kind, .int .i64 s.fro, .int .i64 s.key, .int .i64 s.value, .int .i64 s.count] : Array Value).extract 0 5 = s.cells.toArray := rfl

theorem mapsOf_ok {a1 : Option Addr} {c1 : Nat} {steps : List MStep} (h1 : Row w a1 (steps.flatMap MStep.cells)) (hfit : MFit steps) (hc : mcost steps ≤ 900000)
    (hK : ∀ l w' G, Frm (fun _ => False) w w' → RowsOf (ElV (hashOf md ml sh) (decide (md = 0))) w' w.heap.size 90 1 l (versT (hashOf md ml sh) steps) G → K l w') :
    Calls Try.prog 34 #[hval md ml sh, .slice a1 steps.length c1] w (ret K Kp) := by
  have hn : steps.length ≤ mcost steps := by
    clear h1 hfit hc hK
    induction steps with
    | nil => simp
    | cons s l ih => simp only [mcost, List.map_cons, List.sum_cons, List.length_cons, MStep.cost] at ih ⊢; omega
  generalize hhash : hashOf md ml sh = hash at *
  generalize hnl : decide (md = 0) = nl at *
  have hE := elV_ok hash nl
  have hlt : ∀ k, hash k < 2 ^ 32 := fun k => by rw [← hhash]; exact hashOf_lt md ml sh k
  refine vc34_calls ?_
  simp only [vc34]
  refine op_box_ok fun w1 k1 z1 b1 => ?_
  simp only [hval, cells_agg] at b1
  have hx3 : (#[Value.int .u32 (md : Int), .int .u32 (ml : Int), .int .u8 (sh : Int)] : Array Value).extract 0 3 = #[.int .u32 md, .int .u32 ml, .int .u8 sh] := rfl
  simp [-getElem?_pos, -Array.getElem?_eq_getElem, -Int.natCast_add, add_spot, and_assoc, Br_dec, -op_box, -op_alloc_35, -op_st_35, -op_lit_88_1, -op_lit_36_1, b1, hx3]
  refine hasher_ok (md := md) (ml := ml) (sh := sh) fun h w2 k2 o2 hh2 => ?_
  rw [hhash, hnl] at hh2
  try simp [-getElem?_pos, -Array.getElem?_eq_getElem, -Int.natCast_add, add_spot, and_assoc, Br_dec, -op_box, -op_alloc_35, -op_st_35, -op_lit_88_1, -op_lit_36_1]
  refine ver_new_ok hh2 o2 fun w3 k3 z3 v3 => ?_
  have n1 := k1.size
  have n2 := k2.size
  have n3 := k3.size
  have k03 := (k1.no k2).no k3
  refine op_row1 (base := w.heap.size) (u := [ptr w2.heap.size]) hE apM (lit_88_1 rfl) rfl ⟨_, rfl, v3⟩ (fun c hc => by omega) (by omega) fun l4 w4 k4 hR4 ho4 => ?_
  have b4 := k4.get (k3.get (k2.get b1 fun h => h) fun h => h) fun h => h
  obtain ⟨a4, c4, rfl, _⟩ := hR4.slice
  try simp [-getElem?_pos, -Array.getElem?_eq_getElem, -Int.natCast_add, add_spot, and_assoc, Br_dec, -op_box, -op_alloc_35, -op_st_35, -op_lit_88_1, -op_lit_36_1]
  obtain ⟨I, hI⟩ : ∃ I : Value → Value → World → Prop, ∀ l v wl, I l v wl ↔ ∃ (i : Nat) (G : Nat → Prop), v = .int .i64 i ∧ i ≤ steps.length ∧ Frm (fun _ => False) w wl ∧ w1.heap.size ≤ wl.heap.size ∧
      wl.heap[w.heap.size]? = some (.cells #[.int .u32 md, .int .u32 ml, .int .u8 sh] 24 (0, 0)) ∧ RowsOf (ElV hash nl) wl (w.heap.size + 1) 90 1 l (versT hash (steps.take i)) G := ⟨_, fun _ _ _ => Iff.rfl⟩
  have hR4' : RowsOf (ElV hash nl) w4 (w.heap.size + 1) 90 1 (.slice a4 [Nd.emp (κ := Ky) (ν := Vl)].length c4) (versT hash (steps.take 0)) (· = w2.heap.size) := by
    obtain ⟨⟨us, g1, g2, g3, g4⟩, g5, g6⟩ := hR4
    refine ⟨⟨us, by simpa [versT, vers] using g1, g2, ?_, by simpa [versT, vers] using g4⟩, fun c hc => ⟨by omega, (g5 c hc).2⟩, g6⟩
    obtain ⟨q1, ⟨q2, q3⟩ | ⟨g, cap, cur, q2, q3, q4⟩⟩ := g3
    · simp at q3
    · refine ⟨by simpa [versT, vers] using q1, .inr ⟨g, cap, cur, by simpa [versT, vers] using q2, ?_, by simpa [versT, vers] using q4⟩⟩
      rw [q2] at ho4
      have e : g = w3.heap.size := Option.some.inj ho4
      omega
  refine Lp.intro I (fun _ v _ => steps.length - natOf v) ⟨(hI _ _ _).2 ⟨0, _, rfl, by omega, k03.no k4, by have := k4.size; omega, b4, hR4'⟩, ?_⟩
  intro wl l v hl
  obtain ⟨i, G, rfl, hi, kl, zl, bl, hR⟩ := (hI _ _ _).1 hl
  simp only [op_lss, Br_dec]
  refine ⟨fun hlt' => ?_, fun hnl' => ?_⟩
  rotate_left
  · have : i = steps.length := by omega
    subst this
    rw [List.take_length] at hR
    exact hK l wl G kl (hR.base_le (by omega))
  have hi' : i < steps.length := by omega
  have htk : steps.take (i + 1) = steps.take i ++ [steps[i]] := List.take_succ_eq_append_getElem hi'
  have hct := mcost_take steps (i + 1)
  rw [htk, mcost_snoc] at hct
  obtain ⟨f1, f2, f3, f4, f5⟩ := hfit i hi'
  obtain ⟨bp, o, cs, e, fz, rfl, hcs, hsz, hext⟩ := (h1.frame kl (fun _ _ h => h)).part mcells_len (by decide) hi'
  generalize hst : steps[i] = s at *
  have hlow := hR.own_lt
  simp [-getElem?_pos, -Array.getElem?_eq_getElem, -Int.natCast_add, add_spot, and_assoc, Br_dec, -op_box, -op_alloc_35, -op_st_35, -op_lit_88_1, -op_lit_36_1, hcs, hsz, hext]
  refine ⟨hi', ?_⟩
  refine op_alloc_ok (z := .agg #[.int .u8 0, .int .i64 0, .int .i64 0, .int .i64 0, .int .i64 0]) (by kernel_rfl) fun w5 k5 z5 b5 => ?_
  simp only [cells_agg] at b5
  refine op_storeN_ok (n := 5) (by kernel_rfl) b5 rfl (by decide) (by simp [MStep.cells]) fun w6 k6 z6 b6 => ?_
  have b6 : w6.heap[wl.heap.size]? = some (.cells s.cells.toArray 35 (0, 0)) := by
    rw [ow_all (by simp [MStep.cells])] at b6; simpa [MStep.cells] using b6
  have n5 := k5.size
  have n6 := k6.size
  have k56 : Frm (fun _ => False) wl w6 := k5.old k6 fun c hc => .inr (by omega)
  have bl6 := k56.get bl fun h => h
  simp [-getElem?_pos, -Array.getElem?_eq_getElem, -Int.natCast_add, add_spot, and_assoc, Br_dec, -op_box, -op_alloc_35, -op_st_35, -op_lit_88_1, -op_lit_36_1, bl6, hx3]
  refine hasher_ok (md := md) (ml := ml) (sh := sh) fun h7 w7 k7 o7 hh7 => ?_
  rw [hhash, hnl] at hh7
  try simp [-getElem?_pos, -Array.getElem?_eq_getElem, -Int.natCast_add, add_spot, and_assoc, Br_dec, -op_box, -op_alloc_35, -op_st_35, -op_lit_88_1, -op_lit_36_1]
  refine ver_new_ok hh7 o7 fun w8 k8 z8 v8 => ?_
  have n7 := k7.size
  have n8 := k8.size
  have k78 := k7.no k8
  have k58 := k56.no k78
  have b8 : w8.heap[wl.heap.size]? = some (.cells #[.int .u8 s.kind, .int .i64 s.fro, .int .i64 s.key, .int .i64 s.value, .int .i64 s.count] 35 (0, 0)) := k78.get b6 fun h => h
  have hR8 := hR.still hE k58
  have hlv : (versT hash (steps.take i)).length = i + 1 := by rw [versT, vers_len, List.length_take]; omega
  obtain ⟨q, hq⟩ : ∃ q : Nat, s.fro = q := ⟨s.fro.toNat, by omega⟩
  have hq1 : q < (versT hash (steps.take i)).length := by omega
  obtain ⟨u, g, c, cur, hlg, hg1, hg2, hg3, hg4, hg5, bv, hub, hV⟩ := hR8.get hq1
  subst hlg hub
  have hg0 : cur[q]? = some (ptr bv) := by have := hg3 0 (by decide); simpa using this
  generalize ht : (versT hash (steps.take i))[q] = t0 at hV
  have hsize : (toL t0).length ≤ mcost (steps.take i) := (vers_size hlt (steps.take i) q t0 (by rw [List.getElem?_eq_getElem hq1, ht])).2
  have hnext : versT hash (steps.take (i + 1)) = versT hash (steps.take i) ++ [trieStep hash t0 s] := by
    have e1 : (vers (trieStep hash) MStep.ref .emp (steps.take i))[s.ref]? = some t0 := by
      have : s.ref = q := by simp [MStep.ref, hq]
      rw [this, ← ht]; exact List.getElem?_eq_getElem hq1
    rw [htk, versT, vers_snoc, e1]; rfl
  have hcost : s.cost = 1 + s.count.toNat := rfl
  obtain ⟨J, hJ⟩ : ∃ J : Value → World → Prop, ∀ p w', J p w' ↔ ∃ (b' : Nat) (G2 : Nat → Prop), p = ptr b' ∧ Frm (fun _ => False) wl w' ∧ w8.heap.size ≤ w'.heap.size ∧ Ver w' b' hash nl (trieStep hash t0 s) G2 ∧ ∀ c, G2 c → (G c ∨ wl.heap.size ≤ c) ∧ c < w'.heap.size := ⟨_, fun _ _ => Iff.rfl⟩
  refine Jn.intro J ⟨?_, ?_⟩
  rotate_left
  · intro w9 m hm
    obtain ⟨b', G2, rfl, k9, n9, v9, hG2⟩ := (hJ _ _).1 hm
    refine op_push (u := [ptr b']) hE apM (lit_88_1 rfl) rfl (by simp [ptr]) (hR.still hE k9) ⟨b', rfl, v9⟩ (fun c hc => ?_) (fun b hb hc => ?_) (by omega) (by omega) fun l10 w10 k10 hR10 ho10 => ?_
    · refine ⟨?_, (hG2 c hc).2⟩
      rcases (hG2 c hc).1 with h | h
      · exact (hR.low c h).1
      · omega
    · rcases (hG2 b hc).1 with h | h
      · exact hR.off b hb h
      · have := hlow b hb; omega
    · try simp [-getElem?_pos, -Array.getElem?_eq_getElem, -Int.natCast_add, add_spot, and_assoc, Br_dec, -op_box, -op_alloc_35, -op_st_35, -op_lit_88_1, -op_lit_36_1]
      rw [wrap_i64_small (by omega) (by omega)]
      have hM10 : ∀ b, some b = (Value.slice (some { block := g, off := 0 }) (versT hash (steps.take i)).length c).ownBlock → w.heap.size + 1 ≤ b := fun b hb => (hlow b hb.symm).1
      refine ⟨(hI _ _ _).2 ⟨i + 1, _, by simp, by omega, (kl.no k9).old k10 fun c hc => .inr (by have := hM10 c hc; omega), by have := k10.size; omega, k10.get (k9.get bl fun h => h) fun he => by have := hM10 _ he; omega, by rw [hnext]; exact hR10⟩, ?_⟩
      simp only [natOf]; omega
  have hx5 := cells5 s
  simp [-getElem?_pos, -Array.getElem?_eq_getElem, -Int.natCast_add, add_spot, and_assoc, Br_dec, -op_box, -op_alloc_35, -op_st_35, -op_lit_88_1, -op_lit_36_1, b8, hx5]
  rw [hlv]
  refine mapStep_ok (s := s) (n := i + 1) f2 (by omega) f1 f4 f5 fun w9 k9 => ?_
  have b9 := k9.get b8 fun h => h
  have hg9 := k9.get hg1 fun h => h
  have hV9 := hV.still k9
  have n9 := k9.size
  simp [-getElem?_pos, -Array.getElem?_eq_getElem, -Int.natCast_add, add_spot, and_assoc, Br_dec, -op_box, -op_alloc_35, -op_st_35, -op_lit_88_1, -op_lit_36_1, b9, hq, hg9, hg0]
  refine ⟨by omega, ?_⟩
  have hdone : ∀ {b' : Nat} {wz : World} {t' : Tr} {G2 : Nat → Prop}, t' = trieStep hash t0 s → Frm (fun _ => False) w9 wz → Ver wz b' hash nl t' G2 → (∀ c, G2 c → (G c ∨ w9.heap.size ≤ c) ∧ c < wz.heap.size) → J (ptr b') wz := fun {b' wz t' G2} he kz vz hz => by
    subst he
    refine (hJ _ _).2 ⟨b', G2, rfl, (k58.no k9).no kz, by have := kz.size; omega, vz, fun c hc => ⟨?_, (hz c hc).2⟩⟩
    rcases (hz c hc).1 with h | h
    · exact .inl h
    · exact .inr (by omega)
  have hkind : s.kind = 0 ∨ s.kind = 1 ∨ s.kind = 2 ∨ s.kind = 3 := by omega
  have hdef := defHasher_ok
  rcases hkind with hk | hk | hk | hk
  · simp [-getElem?_pos, -Array.getElem?_eq_getElem, -Int.natCast_add, add_spot, and_assoc, Br_dec, -op_box, -op_alloc_35, -op_st_35, -op_lit_88_1, -op_lit_36_1, hk, b9]
    refine Set_ok (k := s.key) (x := s.value) hdef hV9 (by omega) fun b' wz F' kz vz hz => hdone (by simp only [trieStep, hk]) kz vz hz
  · simp [-getElem?_pos, -Array.getElem?_eq_getElem, -Int.natCast_add, add_spot, and_assoc, Br_dec, -op_box, -op_alloc_35, -op_st_35, -op_lit_88_1, -op_lit_36_1, hk, b9]
    refine Delete_ok (k := s.key) hV9 (by omega) fun b' wz F' kz vz hz => hdone (by simp only [trieStep, hk]) kz vz hz
  · simp [-getElem?_pos, -Array.getElem?_eq_getElem, -Int.natCast_add, add_spot, and_assoc, Br_dec, -op_box, -op_alloc_35, -op_st_35, -op_lit_88_1, -op_lit_36_1, hk]
    obtain ⟨I2, hI2⟩ : ∃ I2 : Value → Value → World → Prop, ∀ m v wz, I2 m v wz ↔ ∃ (j b' : Nat) (G2 : Nat → Prop), m = ptr b' ∧ v = .int .i64 j ∧ (j : Int) ≤ s.count ∧ Frm (fun _ => False) w9 wz ∧ Ver wz b' hash nl (setN hash s.key s.value t0 j) G2 ∧ (∀ c, G2 c → (G c ∨ w9.heap.size ≤ c) ∧ c < wz.heap.size) := ⟨_, fun _ _ _ => Iff.rfl⟩
    refine Lp.intro I2 (fun _ v _ => s.count.toNat - natOf v) ⟨(hI2 _ _ _).2 ⟨0, bv, G, rfl, rfl, by omega, Frm.refl, hV9, fun c hc => ⟨.inl hc, by have := (hR.low c hc).2; omega⟩⟩, ?_⟩
    intro wz m v hm
    obtain ⟨j, b', G2, rfl, rfl, hj, kz, vz, hz⟩ := (hI2 _ _ _).1 hm
    have bz := kz.get b9 fun h => h
    have hsz2 := (setN_len hlt hV9.1 (k := s.key) (v := s.value) j).2
    simp [-getElem?_pos, -Array.getElem?_eq_getElem, -Int.natCast_add, add_spot, and_assoc, Br_dec, -op_box, -op_alloc_35, -op_st_35, -op_lit_88_1, -op_lit_36_1, bz]
    refine ⟨fun hlt2 => ?_, fun hge => ?_⟩
    · refine Set_ok (k := kAt s.key s.value j) (x := (j : Int)) hdef vz (by omega) fun b'' wy F' ky vy hy => ?_
      rw [← setN_succ] at vy
      rw [wrap_i64_small (by omega) (by omega)]
      have := kz.size
      refine ⟨(hI2 _ _ _).2 ⟨j + 1, b'', F', rfl, by simp, by omega, kz.no ky, vy, fun c hc => ⟨?_, (hy c hc).2⟩⟩, ?_⟩
      · rcases (hy c hc).1 with h | h
        · exact (hz c h).1
        · exact .inr (by omega)
      · simp only [natOf]; omega
    · have : j = s.count.toNat := by omega
      subst this
      exact hdone (by simp only [trieStep, hk]) kz vz hz
  · simp [-getElem?_pos, -Array.getElem?_eq_getElem, -Int.natCast_add, add_spot, and_assoc, Br_dec, -op_box, -op_alloc_35, -op_st_35, -op_lit_88_1, -op_lit_36_1, hk]
    obtain ⟨I2, hI2⟩ : ∃ I2 : Value → Value → World → Prop, ∀ m v wz, I2 m v wz ↔ ∃ (j b' : Nat) (G2 : Nat → Prop), m = ptr b' ∧ v = .int .i64 j ∧ (j : Int) ≤ s.count ∧ Frm (fun _ => False) w9 wz ∧ Ver wz b' hash nl (delN hash s.key s.value t0 j) G2 ∧ (∀ c, G2 c → (G c ∨ w9.heap.size ≤ c) ∧ c < wz.heap.size) := ⟨_, fun _ _ _ => Iff.rfl⟩
    refine Lp.intro I2 (fun _ v _ => s.count.toNat - natOf v) ⟨(hI2 _ _ _).2 ⟨0, bv, G, rfl, rfl, by omega, Frm.refl, hV9, fun c hc => ⟨.inl hc, by have := (hR.low c hc).2; omega⟩⟩, ?_⟩
    intro wz m v hm
    obtain ⟨j, b', G2, rfl, rfl, hj, kz, vz, hz⟩ := (hI2 _ _ _).1 hm
    have bz := kz.get b9 fun h => h
    have hsz2 := (delN_len hV9.1 (k := s.key) (v := s.value) j).2
    simp [-getElem?_pos, -Array.getElem?_eq_getElem, -Int.natCast_add, add_spot, and_assoc, Br_dec, -op_box, -op_alloc_35, -op_st_35, -op_lit_88_1, -op_lit_36_1, bz]
    refine ⟨fun hlt2 => ?_, fun hge => ?_⟩
    · refine Delete_ok (k := kAt s.key s.value j) vz (by omega) fun b'' wy F' ky vy hy => ?_
      rw [← delN_succ] at vy
      rw [wrap_i64_small (by omega) (by omega)]
      have := kz.size
      refine ⟨(hI2 _ _ _).2 ⟨j + 1, b'', F', rfl, by simp, by omega, kz.no ky, vy, fun c hc => ⟨?_, (hy c hc).2⟩⟩, ?_⟩
      · rcases (hy c hc).1 with h | h
        · exact (hz c h).1
        · exact .inr (by omega)
      · simp only [natOf]; omega
    · have : j = s.count.toNat := by omega
      subst this
      exact hdone (by simp only [trieStep, hk]) kz vz hz
end Go.Proofs.Ytbghmbbhkoniiaa.I
end
section
/- MapRun: what all versions tell. -/
set_option maxRecDepth 100000
set_option maxHeartbeats 2000000
set_option linter.unusedSimpArgs false
set_option linter.unusedVariables false
set_option linter.unusedSectionVars false
namespace Go.Proofs.Ytbghmbbhkoniiaa.I
open Go.Vc Go.Proofs Go.Proofs.Ytbghmbbhkoniiaa Go.Vc.Nd
variable {w w' : World} {v hv : Value} {t : Tr} {F F' G : Nat → Prop} {K : Value → World → Prop} {Kp : KP} {hash : Ky → Nat} {k : Ky} {x : Vl} {l s rb md ml sh : Nat} {r0 mu nl : Bool}

def ElS : World → List Value → Tr → (Nat → Prop) → Prop := fun w u t G => ∃ pv, u = [.int .i64 (toL t).length, pv] ∧ IsPairs w pv (toL t) ∧ ∀ b, pv.ownBlock = some b → G b
theorem elS_ok : ElOk ElS :=
  ⟨fun ⟨pv, hu, h, hG⟩ hf hM => ⟨pv, hu, h.frame hf fun b hb => hM b (hG b hb), hG⟩, fun ⟨pv, hu, h, hG⟩ hG' => ⟨pv, hu, h, fun b hb => hG' b (hG b hb)⟩⟩
theorem told_ok {b : Nat} (h : Ver w b hash nl t F) (hF : ∀ c, F c → c < w.heap.size) (hL : (toL t).length < 2 ^ 31)
    (hK : ∀ pv w', Frm (fun _ => False) w w' → RowsOf (Flat ent) w' w.heap.size 46 2 pv (toL t) (fun _ => False) → K (.agg #[.int .i64 (toL t).length, pv]) w') :
    (nice Try.prog).call (.fn 36) [ptr b] w (fun v18 w => (nice Try.prog).call (.fn 37) [ptr b] w (fun v20 w => (nice Try.prog).call (.fn 35) [v18, v20] w K Kp) Kp) Kp := by
  simp only [call_36, call_37, call_35]
  refine ver_len_ok h ?_
  refine ver_iter_ok h hF fun ib w1 k1 hib hA => ?_
  have hib2 := hA.lt
  have n1 := k1.size
  refine mapSeen_ok hA (fun hc => by have := hF _ hc; omega) (fun c hc => by have := hF c hc; omega) hL fun pv w2 k2 hR2 => hK pv w2 (k1.old k2 fun c hc => .inr (by omega)) (hR2.base_le k1.size)
theorem mapRun_ok {a1 : Option Addr} {c1 : Nat} {steps : List MStep} (h1 : Row w a1 (steps.flatMap MStep.cells)) (hfit : MFit steps) (hc : mcost steps ≤ 900000)
    (hK : ∀ l w' G, Frm (fun _ => False) w w' → RowsOf ElS w' w.heap.size 41 2 l (versT (hashOf md ml sh) steps) G → K l w') :
    Calls Try.prog 16 #[hval md ml sh, .slice a1 steps.length c1] w (ret K Kp) := by
  refine vc16_calls ?_
  simp only [vc16]
  refine op_box_ok fun w1 k1 z1 b1 => ?_
  simp only [hval, cells_agg] at b1
  have hx3 : (#[Value.int .u32 (md : Int), .int .u32 (ml : Int), .int .u8 (sh : Int)] : Array Value).extract 0 3 = #[.int .u32 md, .int .u32 ml, .int .u8 sh] := rfl
  simp [-getElem?_pos, -Array.getElem?_eq_getElem, -Int.natCast_add, add_spot, and_assoc, Br_dec, -op_box, -op_lit_36_1, b1, hx3]
  refine mapsOf_ok (md := md) (ml := ml) (sh := sh) (h1.frame k1 fun _ _ h => h) hfit hc fun l w2 G k2 hR2 => ?_
  have hlt := hashOf_lt md ml sh
  generalize hashOf md ml sh = hash at *
  generalize decide (md = 0) = nl at *
  have hn : (versT hash steps).length = steps.length + 1 := vers_len steps
  have hcl : steps.length ≤ mcost steps := by
    clear h1 hfit hc hK hR2 hn
    induction steps with
    | nil => simp
    | cons s l ih => simp only [mcost, List.map_cons, List.sum_cons, List.length_cons, MStep.cost] at ih ⊢; omega
  have hsz := vers_size hlt steps
  generalize hvs : versT hash steps = vs at *
  obtain ⟨a2, c2, hl2, _⟩ := id hR2.slice
  subst hl2
  have n1 := k1.size
  have n2 := k2.size
  obtain ⟨I, hI⟩ : ∃ I : Value → Value → World → Prop, ∀ l v wl, I l v wl ↔ ∃ (i : Nat) (G' : Nat → Prop), v = .int .i64 i ∧ i ≤ vs.length ∧ Frm (fun _ => False) w2 wl ∧ RowsOf ElS wl w2.heap.size 41 2 l (vs.take i) G' := ⟨_, fun _ _ _ => Iff.rfl⟩
  try simp [-getElem?_pos, -Array.getElem?_eq_getElem, -Int.natCast_add, add_spot, and_assoc, Br_dec, -op_box, -op_lit_36_1]
  refine Lp.intro I (fun _ v _ => vs.length - natOf v) ⟨(hI _ _ _).2 ⟨0, _, rfl, by omega, Frm.refl, rows_nil⟩, ?_⟩
  intro wl l v hl
  obtain ⟨i, G', rfl, hi, kl, hR⟩ := (hI _ _ _).1 hl
  simp only [op_lss, Br_dec]
  refine ⟨fun hlt' => ?_, fun hnl' => ?_⟩
  rotate_left
  · have : i = vs.length := by omega
    subst this
    rw [List.take_length] at hR
    exact hK l wl G' ((k1.no k2).no kl) (hR.base_le (by omega))
  have hi' : i < vs.length := by omega
  have htk : vs.take (i + 1) = vs.take i ++ [vs[i]] := List.take_succ_eq_append_getElem hi'
  have hlow := hR.own_lt
  have nl' := kl.size
  obtain ⟨u, g, c, cur, hlg, hg1, hg2, hg3, hg4, hg5, bv, hub, hV⟩ := (hR2.still (elV_ok hash nl) kl).get hi'
  cases hlg
  subst hub
  have hg0 : cur[i]? = some (ptr bv) := by have := hg3 0 (by decide); simpa using this
  have hti := (hsz i vs[i] (by simp [hi'])).2
  generalize ht : vs[i] = t0 at *
  simp [-getElem?_pos, -Array.getElem?_eq_getElem, -Int.natCast_add, add_spot, and_assoc, Br_dec, -op_box, -op_lit_36_1, hg1, hg0]
  refine ⟨hi', ?_⟩
  have := @told_ok
  simp only [call_36, call_37, call_35] at this
  refine this hV (fun c hc => by have := (hR2.low c hc).2; omega) (by omega) fun pv w3 k3 hR3 => ?_
  have hlow3 := hR3.own_lt
  have n3 := k3.size
  have hR' := hR.still elS_ok k3
  refine op_push (u := [.int .i64 (toL t0).length, pv]) (G2 := fun c => pv.ownBlock = some c) elS_ok apSeen lit_36_1 rfl (by simp [hR3.one]) hR' ⟨pv, rfl, hR3.flat, fun b hb => hb⟩ (fun c hc => by have := hlow3 c hc; omega) (fun b hb hc => by have := hlow b hb; have := hlow3 b hc; omega) (by simp; omega) (by omega) fun l' w4 k4 hR4 ho4 => ?_
  try simp [-getElem?_pos, -Array.getElem?_eq_getElem, -Int.natCast_add, add_spot, and_assoc, Br_dec, -op_box, -op_lit_36_1]
  rw [wrap_i64_small (by omega) (by omega)]
  refine ⟨(hI _ _ _).2 ⟨i + 1, _, by simp, by omega, (kl.no k3).old k4 fun c hc => .inr (hlow c hc.symm).1, by rw [htk]; exact hR4⟩, ?_⟩
  simp only [natOf]; omega
end Go.Proofs.Ytbghmbbhkoniiaa.I
end
section
/- The reference's maps: versions as Go's maps; the conversions between the packages' types. -/
set_option maxRecDepth 100000
set_option maxHeartbeats 2000000
set_option linter.unusedSimpArgs false
set_option linter.unusedVariables false
set_option linter.unusedSectionVars false
namespace Go.Proofs.Ytbghmbbhkoniiaa.I
open Go.Vc Go.Proofs Go.Proofs.Ytbghmbbhkoniiaa Go.Vc.Nd
variable {w w' : World} {v hv : Value} {t : Tr} {F F' G : Nat → Prop} {K : Value → World → Prop} {Kp : KP} {hash : Ky → Nat} {k : Ky} {x : Vl} {l s rb md ml sh : Nat} {r0 mu nl : Bool}

def kE : KeyEnc Try.prog 2 Int := keyInt Try.underlying2
def ElM : World → List Value → (Int → Option Int) → (Nat → Prop) → Prop := fun w u m G => ∃ b D, u = [.map (some b)] ∧ HasMap w kE.enc ev b D ∧ Tells D m ∧ G b
theorem elM_ok : ElOk ElM :=
  ⟨fun ⟨b, D, hu, h, ht, hG⟩ hf hM => ⟨b, D, hu, h.frame hf (hM b hG), ht, hG⟩, fun ⟨b, D, hu, h, ht, hG⟩ hG' => ⟨b, D, hu, h, ht, hG' b hG⟩⟩
theorem apMap : apOf Try.prog 28 = some (30, 1, 8) := by kernel_rfl
end Go.Proofs.Ytbghmbbhkoniiaa.I
end
section
/- The reference's checks: MapFits, MapHas; the conversions; what a version tells held against the reference. -/
set_option maxRecDepth 100000
set_option maxHeartbeats 2000000
set_option linter.unusedSimpArgs false
set_option linter.unusedVariables false
set_option linter.unusedSectionVars false
namespace Go.Proofs.Ytbghmbbhkoniiaa.I
open Go.Vc Go.Proofs Go.Proofs.Ytbghmbbhkoniiaa Go.Vc.Nd
variable {w w' : World} {v hv : Value} {t : Tr} {F F' G : Nat → Prop} {K : Value → World → Prop} {Kp : KP} {hash : Ky → Nat} {k : Ky} {x : Vl} {l s rb md ml sh : Nat} {r0 mu nl : Bool}

structure Fit (steps : List MStep) : Prop where
  ok : ∀ i (h : i < steps.length), steps[i].kind ≤ 3 ∧ 0 ≤ steps[i].fro ∧ steps[i].fro ≤ i ∧ 0 ≤ steps[i].count ∧ steps[i].count ≤ 2000
  cost : mcost steps ≤ 12000
theorem Fit.m {steps : List MStep} (h : Fit steps) : MFit steps := fun i hi => by
  obtain ⟨a, b, c, d, e⟩ := h.ok i hi
  exact ⟨a, b, c, d, by omega⟩
def evB (b : Bool) : Value := .bool b
end Go.Proofs.Ytbghmbbhkoniiaa.I
end
section
/- Structs of whole numbers that are compared. -/
set_option linter.unusedSimpArgs false
set_option linter.unusedVariables false
namespace Go.Vc
variable {P : Program} {w : World} {K : Value → World → Prop} {K1 : Value → Prop} {Kp : KP} {t : TypeId}
def allInt (P : Program) (k : IntKind) : List Field → Nat → Bool
  | [], _ => true
  | f :: fs, o => f.name != "_" && f.offset == o && (match P.underlying f.type with | some (.int k') => k' == k | _ => false) && (match ldk P f.type with | some .one => true | _ => false) && allInt P k fs (o + 1)
theorem run_eqFields {k : IntKind} {d : Nat} {xs ys : List Int} : ∀ (fs : List Field) (o : Nat) (w : World), allInt P k fs o = true → xs.length = o + fs.length → ys.length = o + fs.length →
    (Op.eqFields (d + 1) (xs.map (Value.int k)).toArray (ys.map (Value.int k)).toArray fs).run P w = .ok (decide (xs.drop o = ys.drop o)) w
  | [], o, w, _, hx, hy => by
    simp only [List.length_nil, Nat.add_zero] at hx hy
    simp [Op.eqFields, List.drop_of_length_le (Nat.le_of_eq hx), List.drop_of_length_le (Nat.le_of_eq hy)]
  | f :: fs, o, w, h, hx, hy => by
    simp only [allInt, Bool.and_eq_true] at h
    obtain ⟨⟨⟨⟨h1, h2⟩, h3⟩, h4⟩, h5⟩ := h
    have h2 : f.offset = o := by simpa using h2
    have h1 : f.name ≠ "_" := by simpa using h1
    have hu : P.underlying f.type = some (.int k) := by
      split at h3
      · rename_i k' hk; rw [hk]; have : k' = k := by simpa using h3
        rw [this]
      · cases h3
    have hl : ldk P f.type = some .one := by
      split at h4
      · rename_i hk; exact hk
      · cases h4
    simp only [List.length_cons] at hx hy
    have hox : o < xs.length := by omega
    have hoy : o < ys.length := by omega
    have px : (part f.type (xs.map (Value.int k)).toArray f.offset).run P w = .ok (.int k xs[o]) w := by
      rw [h2]; exact ldk_part hl (by simp [partV, hox]) w
    have py : (part f.type (ys.map (Value.int k)).toArray f.offset).run P w = .ok (.int k ys[o]) w := by
      rw [h2]; exact ldk_part hl (by simp [partV, hoy]) w
    rw [Op.eqFields, if_pos h1]
    simp only [Sem.run_bind, px, py, Result.andThen_ok, run_equalIn_int (k' := k) (h := hu)]
    have hiff : (xs.drop o = ys.drop o) ↔ xs[o] = ys[o] ∧ xs.drop (o + 1) = ys.drop (o + 1) := by rw [List.drop_eq_getElem_cons hox, List.drop_eq_getElem_cons hoy, List.cons.injEq]
    by_cases e : xs[o] = ys[o]
    · simp only [e, beq_self_eq_true, Bool.not_true, Bool.false_eq_true, if_false]
      rw [run_eqFields fs (o + 1) w h5 (by omega) (by omega)]
      congr 1
      exact decide_eq_decide.2 ⟨fun h => hiff.2 ⟨e, h⟩, fun h => (hiff.1 h).2⟩
    · have e' : (xs[o] == ys[o]) = false := beq_eq_false_iff_ne.2 e
      have hn : ¬ xs.drop o = ys.drop o := fun h => e (hiff.1 h).1
      simp only [e', Bool.not_false, if_true, Sem.run_pure, decide_eq_false hn]
theorem agg_eq_run {k : IntKind} {xs ys : List Int} (ht : P.underlying t = some (.struct (P.fieldsOf t))) (hp : P.stoodInHeld t = false) (hf : allInt P k (P.fieldsOf t).toList 0 = true) (hx : xs.length = (P.fieldsOf t).toList.length) (hy : ys.length = (P.fieldsOf t).toList.length) (w : World) :
    (Op.equal t (.agg (xs.map (Value.int k)).toArray) (.agg (ys.map (Value.int k)).toArray)).run P w = .ok (decide (xs = ys)) w := by
  unfold Op.equal Op.maxDepth
  rw [run_equalIn_struct w 9999 t _ _ ht hp, run_eqFields (d := 9998) _ 0 w hf (by omega) (by omega)]
  simp
theorem pur_neq_agg {k : IntKind} {xs ys : List Int} (ht : P.underlying t = some (.struct (P.fieldsOf t))) (hp : P.stoodInHeld t = false) (hf : allInt P k (P.fieldsOf t).toList 0 = true) (hg : P.eqGuardType P.depth t = false)
    (hx : xs.length = (P.fieldsOf t).toList.length) (hy : ys.length = (P.fieldsOf t).toList.length) (hK : K1 (.bool (!decide (xs = ys)))) :
    (nice P).pur (.bin .neq t false false (.agg (xs.map (Value.int k)).toArray) (.agg (ys.map (Value.int k)).toArray)) K1 := by
  refine ⟨_, fun w => ?_, hK⟩
  have h2 : ∀ w, (eqGuard .neq t (opd false) (opd false) (.agg (xs.map (Value.int k)).toArray) (.agg (ys.map (Value.int k)).toArray)).run P w = .ok () w := fun w => by
    have hp : (program : Sem Program).run P w = .ok P w := rfl
    simp [eqGuard, hp, hg]
  simp only [VOp.sem, Sem.run_bind, h2, Result.andThen_ok]
  simp [binOp, agg_eq_run ht hp hf hx hy]
end Go.Vc
end
section
/- slices.Equal, for elements of one cell and of several ones. -/
set_option linter.unusedSimpArgs false
set_option linter.unusedVariables false
set_option linter.unusedSectionVars false
namespace Go.Vc
variable {P : Program} {w w' : World} {K : Value → World → Prop} {Kp : KP} {tin tel e : TypeId} {k : Nat} {α : Type} [DecidableEq α] {f : α → List Value} {xs ys : List α} {v1 v2 : Value}
theorem same_rows (hl : xs.length = ys.length) (h : ∀ (j : Nat) (hj : j < xs.length), xs[j] = ys[j]'(by omega)) : xs = ys := List.ext_getElem hl fun j h1 h2 => h j h1
def eqChain (S : Sig) (tin tel : TypeId) (a0 a1 : Value) (w : World) (K : Value → World → Prop) (Kp : KP) : Prop :=
  S.op (.blt Builtin.len [tin] 3 [a0]) w (fun v7 w =>
  S.op (.blt Builtin.len [tin] 3 [a1]) w (fun v9 w =>
  S.op (.bin BinOp.neq 3 false false v7 v9) w (fun v10 w =>
  Br v10 (
    K (Value.bool false) w) (
    S.op (.blt Builtin.len [tin] 3 [a0]) w (fun v12 w =>
    Lp fun (I4 : Value → World → Prop) (μ4 : Value → World → Nat) => I4 (Value.int IntKind.i64 0) w ∧
    ∀ (wl4 : World) (junk : Nat → Value) (s13_ : Value), I4 s13_ wl4 →
      S.op (.bin BinOp.lss 3 false false s13_ v12) wl4 (fun v14 w =>
      Br v14 (
        S.pur (.indexAddr tin a0 s13_) (fun v18 =>
        S.ld (.load tel v18) w.drew (fun v19 =>
        S.pur (.indexAddr tin a1 s13_) (fun v22 =>
        S.ld (.load tel v22) w.drew (fun v23 =>
        S.pur (.bin BinOp.neq tel false false v19 v23) (fun v24 =>
        Br v24 (
          K (Value.bool false) w.drew) (
          S.op (.bin BinOp.add 3 false true s13_ (Value.int IntKind.i64 1)) w.drew (fun v25 w =>
          I4 v25 w ∧ μ4 v25 w < μ4 s13_ wl4) Kp))))))) (
        K (Value.bool true) w)) Kp) Kp)) Kp) Kp) Kp
theorem elem_read {c : Nat} (hin : sliceOf P tin = some (e, k)) (hk : ∀ x, (f x).length = k) (hk0 : 0 < k) (hel : ldk P tel = some (.agg k) ∨ k = 1 ∧ ldk P tel = some .one) {ev : α → Value} (hev : ∀ x, ldk P tel = some (.agg k) ∧ ev x = .agg (f x).toArray ∨ ldk P tel = some .one ∧ f x = [ev x])
    (h : IsSl w v1 xs.length (xs.flatMap f)) {j : Nat} (hj : j < xs.length) {K1 : Value → Prop} (hK : K1 (ev xs[j])) :
    (nice P).pur (.indexAddr tin v1 (.int .i64 (j : Int))) (fun v18 => (nice P).ld (.load tel v18) w K1) := by
  obtain ⟨a, c, rfl, _, _, hr, _⟩ := h
  obtain ⟨b, o, cs, e', fz, rfl, hcs, hsz, hext⟩ := hr.part hk hk0 hj
  rw [pur_ix_slice hin]
  refine ⟨⟨by omega, by omega⟩, ?_⟩
  rw [add_spot rfl]
  simp only [Int.toNat_natCast]
  rcases hev xs[j] with ⟨h1, h2⟩ | ⟨h1, h2⟩
  · rw [ld_ldn h1]
    refine ⟨cs, e', fz, hcs, rfl, hsz, ?_⟩
    show K1 (.agg (cs.extract (o + j * k) (o + j * k + k)))
    rw [hext, ← h2]; exact hK
  · rw [ld_ld h1]
    refine ⟨cs, e', fz, hcs, rfl, ev xs[j], ?_, hK⟩
    have := congrArg (fun a => a[0]?) hext
    rw [h2] at this
    simp only [Array.getElem?_extract] at this
    rw [if_pos (by omega)] at this
    simpa using this
theorem eqChain_ok {ev : α → Value} (hin : sliceOf P tin = some (e, k)) (hkd : kd P tin = .slice) (hk : ∀ x, (f x).length = k) (hk0 : 0 < k) (hel : ldk P tel = some (.agg k) ∨ k = 1 ∧ ldk P tel = some .one) (hev : ∀ x, ldk P tel = some (.agg k) ∧ ev x = .agg (f x).toArray ∨ ldk P tel = some .one ∧ f x = [ev x])
    (hne : ∀ x y (K1 : Value → Prop), K1 (.bool (!decide (x = y))) → (nice P).pur (.bin .neq tel false false (ev x) (ev y)) K1)
    (h1 : IsSl w v1 xs.length (xs.flatMap f)) (h2 : IsSl w v2 ys.length (ys.flatMap f)) (hn : xs.length < 2 ^ 62) (hK : ∀ w', Frm (fun _ => False) w w' → K (.bool (decide (xs = ys))) w') : eqChain (nice P) tin tel v1 v2 w K Kp := by
  unfold eqChain
  obtain ⟨a1, c1, hv1, _⟩ := id h1
  obtain ⟨a2, c2, hv2, _⟩ := id h2
  rw [hv1, hv2, op_len_slice hkd, op_len_slice hkd, op_neq, ← hv1, ← hv2]
  simp only [Br_bool, Bool.not_eq_eq_eq_not, Bool.not_true, Bool.not_false, decide_eq_true_eq, decide_eq_false_iff_not]
  refine ⟨fun hne' => ?_, fun heq => ?_⟩
  · have := hK w Frm.refl
    rw [decide_eq_false (fun e => hne' (by rw [e]))] at this
    exact this
  have hlen : xs.length = ys.length := by omega
  rw [hv1, op_len_slice hkd, ← hv1]
  obtain ⟨I, hI⟩ : ∃ I : Value → World → Prop, ∀ v wl, I v wl ↔ ∃ i : Nat, v = .int .i64 i ∧ i ≤ xs.length ∧ Frm (fun _ => False) w wl ∧ ∀ j (hj : j < xs.length), j < i → xs[j] = ys[j]'(by omega) := ⟨_, fun _ _ => Iff.rfl⟩
  refine Lp.intro I (fun v _ => xs.length - (match v with | .int _ j => j.toNat | _ => 0)) ⟨(hI _ _).2 ⟨0, rfl, by omega, Frm.refl, fun j hj h => by omega⟩, ?_⟩
  intro wl _ v hl
  obtain ⟨i, rfl, hi, kl, hall⟩ := (hI _ _).1 hl
  simp only [op_lss, Br_dec]
  refine ⟨fun hlt => ?_, fun hge => ?_⟩
  · have hi' : i < xs.length := by omega
    have kd := kl.no (Frm.drew wl)
    refine elem_read (w := wl.drew) (c := c1) hin hk hk0 hel hev (h1.still kd) hi' ?_
    refine elem_read (w := wl.drew) (c := c2) hin hk hk0 hel hev (h2.still kd) (show i < ys.length by omega) ?_
    refine hne _ _ _ ?_
    simp only [Br_bool, Bool.not_eq_eq_eq_not, Bool.not_true, Bool.not_false, decide_eq_true_eq, decide_eq_false_iff_not]
    refine ⟨fun hd => ?_, fun hs => ?_⟩
    · have := hK _ kd
      rw [decide_eq_false (fun e => hd (by subst e; rfl))] at this
      exact this
    · rw [op_add, wrap_small64 (by omega) (by omega)]
      refine ⟨(hI _ _).2 ⟨i + 1, by simp, by omega, kd, fun j hj hji => ?_⟩, ?_⟩
      · by_cases h : j = i
        · subst h; exact hs
        · exact hall j hj (by omega)
      · have : ((i : Int) + 1).toNat = i + 1 := by omega
        simp only [Int.toNat_natCast, this]; omega
  · have := hK wl kl
    rw [decide_eq_true (same_rows hlen fun j hj => hall j hj (by omega))] at this
    exact this
end Go.Vc
end
section
/- laws.FnMapRun, mapAwake. -/
set_option maxRecDepth 100000
set_option maxHeartbeats 2000000
set_option linter.unusedSimpArgs false
set_option linter.unusedVariables false
set_option linter.unusedSectionVars false
namespace Go.Proofs.Ytbghmbbhkoniiaa.I
open Go.Vc Go.Proofs Go.Proofs.Ytbghmbbhkoniiaa Go.Vc.Nd
variable {w w' : World} {v hv : Value} {t : Tr} {F F' G : Nat → Prop} {K : Value → World → Prop} {Kp : KP} {hash : Ky → Nat} {k : Ky} {x : Vl} {l s rb md ml sh : Nat} {r0 mu nl : Bool}

def awakeSteps : List MStep := [⟨0, 0, 1, 5, 0⟩, ⟨0, 1, 2, 6, 0⟩, ⟨1, 2, 1, 0, 0⟩]
theorem awake_vers (hash : Int → Nat) : versT hash awakeSteps = [.emp, .arr [(1, 5)], .arr [(1, 5), (2, 6)], .arr [(2, 6)]] := by
  simp [versT, vers, awakeSteps, MStep.ref, trieStep, Nd.set, Nd.find, Nd.upd, delT, Nd.getIn, Nd.look, Nd.del, List.findIdx?_cons]
theorem pair_ne (x y : Ky × Vl) (K1 : Value → Prop) (h : K1 (.bool (!decide (x = y)))) : (nice Try.prog).pur (.bin .neq 46 false false (.agg (ent x).toArray) (.agg (ent y).toArray)) K1 := by
  have := pur_neq_agg (P := Try.prog) (t := 46) (k := .i64) (xs := [x.1, x.2]) (ys := [y.1, y.2]) (K1 := K1) (by kernel_rfl) (by kernel_rfl) (by kernel_rfl) (by kernel_rfl) (by kernel_rfl) (by kernel_rfl)
  refine this ?_
  have e : decide ([x.1, x.2] = [y.1, y.2]) = decide (x = y) := decide_eq_decide.2 ⟨fun h => by simp at h; exact Prod.ext h.1 h.2, fun h => by rw [h]⟩
  rw [e]; exact h
theorem eqPairs_ok {v1 v2 : Value} {L L' : List (Ky × Vl)} (h1 : IsPairs w v1 L) (h2 : IsPairs w v2 L') (hn : L.length < 2 ^ 31) (hK : ∀ w', Frm (fun _ => False) w w' → K (.bool (decide (L = L'))) w') :
    Calls Try.prog 27 #[v1, v2] w (ret K Kp) := by
  refine vc27_calls ?_
  exact eqChain_ok (f := ent) (k := 2) (e := 46) (ev := fun x => .agg (ent x).toArray) (by kernel_rfl) (by kernel_rfl) ent_len (by decide) (.inl (by kernel_rfl)) (fun x => .inl ⟨by kernel_rfl, rfl⟩) pair_ne h1 h2 (by omega) hK
theorem mapAwake_ok (hK : ∀ w', Frm (fun _ => False) w w' → K (.bool true) w') : Calls Try.prog 13 #[] w (ret K Kp) := by
  refine vc13_calls ?_
  simp only [vc13]
  try simp [-getElem?_pos, -Array.getElem?_eq_getElem, -Int.natCast_add, add_spot, and_assoc, Br_dec, -op_box, -op_alloc_41, -op_st_41, -op_lit_32_3, -op_lit_39_1]
  refine op_lit_ok lit_32_3 fun w1 k1 z1 b1 => ?_
  have hr : Row w1 (some ⟨w.heap.size, 0, none⟩) (awakeSteps.flatMap MStep.cells) := .inr ⟨_, 0, _, _, _, rfl, b1, fun j v hj => by simpa [awakeSteps, MStep.cells] using hj⟩
  have hm := @mapRun_ok
  try simp [-getElem?_pos, -Array.getElem?_eq_getElem, -Int.natCast_add, add_spot, and_assoc, Br_dec, -op_box, -op_alloc_41, -op_st_41, -op_lit_32_3, -op_lit_39_1]
  refine mapRun_ok (md := 0) (ml := 0) (sh := 0) (steps := awakeSteps) hr (fun i hi => ?_) (by decide) fun l w2 G k2 hR2 => ?_
  · match i, hi with
    | 0, _ => simp [awakeSteps]
    | 1, _ => simp [awakeSteps]
    | 2, _ => simp [awakeSteps]
  rw [awake_vers] at hR2
  have r2 := hR2.get (j := 2) (by decide)
  have r3 := hR2.get (j := 3) (by decide)
  obtain ⟨u2, g, c, cs, rfl, hcs, hu2, hg2, _, _, pv2, hp2, hP2, _⟩ := r2
  obtain ⟨u3, g', c', cs', he, hcs', hu3, hg3, _, _, pv3, hp3, hP3, _⟩ := r3
  cases he
  rw [hcs] at hcs'
  cases hcs'
  subst hp2 hp3
  have q2 : cs[4]? = some (.int .i64 2) := by have := hg2 0 (by decide); simpa [toL] using this
  have q3 : cs[6]? = some (.int .i64 1) := by have := hg3 0 (by decide); simpa [toL] using this
  have q4 : cs[7]? = some pv3 := by have := hg3 1 (by decide); simpa using this
  try simp [-getElem?_pos, -Array.getElem?_eq_getElem, -Int.natCast_add, add_spot, and_assoc, Br_dec, -op_box, -op_alloc_41, -op_st_41, -op_lit_32_3, -op_lit_39_1, hcs, q2, q3, q4]
  have k12 := k1.no k2
  refine op_lit_ok lit_39_1 fun w3 k3 z3 b3 => ?_
  have hl : IsPairs w3 (.slice (some ⟨w2.heap.size, 0, none⟩) 1 1) [(2, 6)] := ⟨_, _, rfl, Nat.le_refl _, by simp [maxLen], .inr ⟨_, 0, _, _, _, rfl, b3, fun j v hj => by simpa [ent, ek, ev] using hj⟩, fun h => nomatch h⟩
  refine eqPairs_ok (hP3.still k3) hl (by decide) fun w4 k4 => ?_
  exact hK w4 ((k12.no k3).no k4)
end Go.Proofs.Ytbghmbbhkoniiaa.I
end
section
/- laws.FnTextRun. -/
set_option maxRecDepth 100000
set_option maxHeartbeats 4000000
set_option linter.unusedSimpArgs false
set_option linter.unusedVariables false
set_option linter.unusedSectionVars false
namespace Go.Proofs.Ytbghmbbhkoniiaa.T
open Go.Vc Go.Proofs Go.Proofs.Ytbghmbbhkoniiaa Go.Vc.Nd
variable {w w' : World} {v hv : Value} {t : Tr} {F F' G : Nat → Prop} {K : Value → World → Prop} {Kp : KP} {hash : Ky → Nat} {k : Ky} {x : Vl} {l s rb : Nat} {r0 mu nl : Bool}
theorem tcells4 (s : TStep) : (#[.bool s.del, .int .i64 s.fro, .string s.key, .int .i64 s.value] : Array Value).extract 0 4 = s.cells.toArray := rfl
theorem zzFits2_ok {a1 : Option Addr} {c1 : Nat} {steps : List TStep} (h1 : Row w a1 (steps.flatMap TStep.cells))
    (hK : ∀ b w', Frm (fun _ => False) w w' → (b = true → steps.length ≤ 2147483647) → K (.bool b) w') : Calls Try.prog 20 #[.slice a1 steps.length c1] w (ret K Kp) := by
  refine vc20_calls ?_
  simp only [vc20]
  try simp [-getElem?_pos, -Array.getElem?_eq_getElem, -Int.natCast_add, add_spot, and_assoc, Br_dec, -op_box, -op_alloc_60, -op_st_60, -op_alloc_67, -op_st_67, -op_lit_58_1]
  refine ⟨fun _ => hK false w Frm.refl (fun h => nomatch h), fun hle => ?_⟩
  obtain ⟨I, hI⟩ : ∃ I : Value → World → Prop, ∀ v wl, I v wl ↔ ∃ i : Nat, v = .int .i64 i ∧ i ≤ steps.length ∧ Frm (fun _ => False) w wl := ⟨_, fun _ _ => Iff.rfl⟩
  refine Lp.intro I (fun v _ => steps.length - natOf v) ⟨(hI _ _).2 ⟨0, rfl, by omega, Frm.refl⟩, ?_⟩
  intro wl v hl
  obtain ⟨i, rfl, hi, kl⟩ := (hI _ _).1 hl
  simp only [op_lss, Br_dec]
  refine ⟨fun hlt' => ?_, fun hge => hK true wl kl fun _ => by omega⟩
  have hi' : i < steps.length := by omega
  obtain ⟨bp, o, cs, e, fz, rfl, hcs, hsz, hext⟩ := (h1.frame kl (fun _ _ h => h)).part tcells_len (by decide) hi'
  generalize hst : steps[i] = s at *
  try simp [-getElem?_pos, -Array.getElem?_eq_getElem, -Int.natCast_add, add_spot, and_assoc, Br_dec, -op_box, -op_alloc_60, -op_st_60, -op_alloc_67, -op_st_67, -op_lit_58_1, hcs, hsz, hext]
  refine ⟨hi', ?_⟩
  refine op_alloc_ok (z := .agg #[.bool false, .int .i64 0, .string ⟨#[]⟩, .int .i64 0]) (by kernel_rfl) fun w5 k5 z5 b5 => ?_
  simp only [cells_agg] at b5
  refine op_storeN_ok (n := 4) (by kernel_rfl) b5 rfl (by decide) (by simp [TStep.cells]) fun w6 k6 z6 b6 => ?_
  have b6 : w6.heap[wl.heap.size]? = some (.cells #[.bool s.del, .int .i64 s.fro, .string s.key, .int .i64 s.value] 60 (0, 0)) := by
    rw [ow_all (by simp [TStep.cells])] at b6; simpa [TStep.cells] using b6
  have k56 : Frm (fun _ => False) wl w6 := k5.old k6 fun c hc => .inr (by omega)
  have hx4 := tcells4 s
  try simp [-getElem?_pos, -Array.getElem?_eq_getElem, -Int.natCast_add, add_spot, and_assoc, Br_dec, -op_box, -op_alloc_60, -op_st_60, -op_alloc_67, -op_st_67, -op_lit_58_1, b6, hx4]
  refine vc45_calls ?_
  simp only [vc45]
  refine op_box_ok fun w7 k7 z7 b7 => ?_
  simp only [cells_agg, TStep.cells] at b7
  try simp [-getElem?_pos, -Array.getElem?_eq_getElem, -Int.natCast_add, add_spot, and_assoc, Br_dec, -op_box, -op_alloc_60, -op_st_60, -op_alloc_67, -op_st_67, -op_lit_58_1, b7]
  have k07 := kl.no (k56.no k7)
  refine ⟨fun _ => hK false w7 k07 (fun h => nomatch h), fun _ => ?_⟩
  rw [wrap_i64_small (by omega) (by omega)]
  refine ⟨(hI _ _).2 ⟨i + 1, by simp, by omega, k07⟩, ?_⟩
  simp only [natOf]; omega
theorem apStep : apOf Try.prog 58 = some (61, 4, 40) := by kernel_rfl
def evB (b : Bool) : Value := .bool b
def inSeen (L : List (Ky × Int)) (k : Ky) : Option Bool := if L.any (fun x => decide (x.1 = k)) then some true else none
theorem inSeen_none {L : List (Ky × Int)} {k : Ky} (h : k ∉ L.map (·.1)) : inSeen L k = none := by
  unfold inSeen
  rw [if_neg]
  intro ha
  obtain ⟨x, hx, he⟩ := List.any_eq_true.1 ha
  exact h (List.mem_map.2 ⟨x, hx, of_decide_eq_true he⟩)
theorem inSeen_snoc {L : List (Ky × Int)} {p : Ky × Int} : inSeen (L ++ [p]) = mset (inSeen L) p.1 true := by
  funext k
  unfold inSeen mset
  rw [List.any_append]
  by_cases hk : k = p.1
  · subst hk; simp
  · have : decide (p.1 = k) = false := decide_eq_false fun h => hk h.symm
    rw [if_neg hk]
    simp only [List.any_cons, List.any_nil, this, Bool.or_false]
theorem law_text {a1 : Option Addr} {c1 : Nat} {steps : List TStep} (h1 : Row w a1 (steps.flatMap TStep.cells)) (hK : ∀ w', Frm (fun _ => False) w w' → K (.bool true) w') :
    Calls Try.prog 7 #[.slice a1 steps.length c1] w (ret K Kp) := by
  have hawake : ∀ {wz}, Frm (fun _ => False) w wz → Calls Try.prog 13 #[] wz (ret K Kp) := fun {wz} kz => I.mapAwake_ok fun w3 k3 => hK w3 (kz.no k3)
  refine vc7_calls ?_
  simp only [vc7]
  try simp [-getElem?_pos, -Array.getElem?_eq_getElem, -Int.natCast_add, add_spot, and_assoc, Br_dec, -op_box, -op_alloc_60, -op_st_60, -op_alloc_67, -op_st_67, -op_lit_58_1]
  refine zzFits2_ok h1 fun ok w1 k1 hle => ?_
  cases ok with
  | false => try simp [-getElem?_pos, -Array.getElem?_eq_getElem, -Int.natCast_add, add_spot, and_assoc, Br_dec, -op_box, -op_alloc_60, -op_st_60, -op_alloc_67, -op_st_67, -op_lit_58_1]; exact hK w1 k1
  | true =>
  have hle := hle rfl
  try simp [-getElem?_pos, -Array.getElem?_eq_getElem, -Int.natCast_add, add_spot, and_assoc, Br_dec, -op_box, -op_alloc_60, -op_st_60, -op_alloc_67, -op_st_67, -op_lit_58_1]
  have hr1 := h1.frame k1 fun _ _ h => h
  refine textVersions_ok hr1 (by omega) (fun w2 k2 => ?_) fun hfit l2 w2 G2 k2 hR2 => ?_
  · try simp [-getElem?_pos, -Array.getElem?_eq_getElem, -Int.natCast_add, add_spot, and_assoc, Br_dec, -op_box, -op_alloc_60, -op_st_60, -op_alloc_67, -op_st_67, -op_lit_58_1]
    exact hawake (k1.no k2)
  have hmost := hfit.most
  have k02 := k1.no k2
  have hr2 := hr1.frame k2 fun _ _ h => h
  try simp [-getElem?_pos, -Array.getElem?_eq_getElem, -Int.natCast_add, add_spot, and_assoc, Br_dec, -op_box, -op_alloc_60, -op_st_60, -op_alloc_67, -op_st_67, -op_lit_58_1]
  obtain ⟨I, hI⟩ : ∃ I : Value → Value → World → Prop, ∀ l v wl, I l v wl ↔ ∃ i : Nat, v = .int .i64 i ∧ i ≤ steps.length ∧ Frm (fun _ => False) w2 wl ∧ FRow TStep.cells wl w2.heap.size 61 4 l (steps.take i) := ⟨_, fun _ _ _ => Iff.rfl⟩
  refine Lp.intro I (fun _ v _ => steps.length - natOf v) ⟨(hI _ _ _).2 ⟨0, rfl, by omega, Frm.refl, rows_nil⟩, ?_⟩
  intro wl l v hl
  obtain ⟨i, rfl, hi, kl, hC⟩ := (hI _ _ _).1 hl
  have loC := hC.own_lt
  have nl := kl.size
  simp only [op_lss, Br_dec]
  refine ⟨fun hlt' => ?_, fun hge => ?_⟩
  · have hi' : i < steps.length := by omega
    have htk : steps.take (i + 1) = steps.take i ++ [steps[i]] := List.take_succ_eq_append_getElem hi'
    obtain ⟨bp, o, cs, e, fz, rfl, hcs, hsz, hext⟩ := (hr2.frame kl (fun _ _ h => h)).part tcells_len (by decide) hi'
    generalize hst : steps[i] = s at *
    try simp [-getElem?_pos, -Array.getElem?_eq_getElem, -Int.natCast_add, add_spot, and_assoc, Br_dec, -op_box, -op_alloc_60, -op_st_60, -op_alloc_67, -op_st_67, -op_lit_58_1, hcs, hsz, hext]
    refine ⟨hi', ?_⟩
    refine op_alloc_ok (z := .agg #[.bool false, .int .i64 0, .string ⟨#[]⟩, .int .i64 0]) (by kernel_rfl) fun w5 k5 z5 b5 => ?_
    simp only [cells_agg] at b5
    refine op_storeN_ok (n := 4) (by kernel_rfl) b5 rfl (by decide) (by simp [TStep.cells]) fun w6 k6 z6 b6 => ?_
    have b6 : w6.heap[wl.heap.size]? = some (.cells #[.bool s.del, .int .i64 s.fro, .string s.key, .int .i64 s.value] 60 (0, 0)) := by
      rw [ow_all (by simp [TStep.cells])] at b6; simpa [TStep.cells] using b6
    have k56 : Frm (fun _ => False) wl w6 := k5.old k6 fun c hc => .inr (by omega)
    have n6 := k56.size
    have hx4 := tcells4 s
    try simp [-getElem?_pos, -Array.getElem?_eq_getElem, -Int.natCast_add, add_spot, and_assoc, Br_dec, -op_box, -op_alloc_60, -op_st_60, -op_alloc_67, -op_st_67, -op_lit_58_1, b6, hx4]
    refine op_pushF (f := TStep.cells) (y := s) apStep lit_58_1 tcells_len tcells_one (frow_still hC k56) (by simp; omega) (by omega) fun l8 w8 k8 hR8 ho8 => ?_
    rw [wrap_i64_small (by omega) (by omega)]
    refine ⟨(hI _ _ _).2 ⟨i + 1, by simp, by omega, (kl.no k56).old k8 fun c hc => .inr (by have := loC c hc.symm; omega), by rw [htk]; exact hR8⟩, ?_⟩
    simp only [natOf]; omega
  have : i = steps.length := by omega
  subst this
  rw [List.take_length] at hC
  obtain ⟨aC, cC, rfl, _, _, hrC, _⟩ := hC.flat
  try simp [-getElem?_pos, -Array.getElem?_eq_getElem, -Int.natCast_add, add_spot, and_assoc, Br_dec, -op_box, -op_alloc_60, -op_st_60, -op_alloc_67, -op_st_67, -op_lit_58_1]
  refine textRun_ok hrC hfit fun l4 w4 G4 k4 hR4 => ?_
  have hMl : (versTM steps).length = steps.length + 1 := vers_len steps
  have hTl : (versTT defHash steps).length = steps.length + 1 := vers_len steps
  have hlt : ∀ k, defHash k < 2 ^ 32 := fun k => (defHasher_ok 0).lt k
  have hszv := size_versT hlt steps
  have hisv := fun (j : Nat) (t : Tr) (m : Ky → Option Int) (ht : (versTT defHash steps)[j]? = some t) (hm : (versTM steps)[j]? = some m) => is_versT hlt steps j ht hm
  have k24 := kl.no k4
  have k04 := k02.no k24
  have hR24 := hR2.still elM_ok k24
  generalize versTM steps = ms at *
  generalize versTT defHash steps = ts at *
  obtain ⟨aM, cM, rfl, _⟩ := hR2.slice
  obtain ⟨aT, cT, rfl, _⟩ := hR4.slice
  have hmt : ms.length = ts.length := by omega
  try simp [-getElem?_pos, -Array.getElem?_eq_getElem, -Int.natCast_add, add_spot, and_assoc, Br_dec, -op_box, -op_alloc_60, -op_st_60, -op_alloc_67, -op_st_67, -op_lit_58_1, hmt]
  obtain ⟨I2, hI2⟩ : ∃ I : Value → World → Prop, ∀ v wz, I v wz ↔ ∃ i : Nat, v = .int .i64 i ∧ i ≤ ts.length ∧ Frm (fun _ => False) w4 wz := ⟨_, fun _ _ => Iff.rfl⟩
  refine Lp.intro I2 (fun v _ => ts.length - natOf v) ⟨(hI2 _ _).2 ⟨0, rfl, by omega, Frm.refl⟩, ?_⟩
  intro wz v hz
  obtain ⟨i, rfl, hi2, kz⟩ := (hI2 _ _).1 hz
  simp only [op_lss, Br_dec]
  refine ⟨fun hlt' => ?_, fun hge2 => hawake (k04.no kz)⟩
  have hi' : i < ts.length := by omega
  obtain ⟨u, g, c, cur, hlg, hg1, hg2, hg3, hg4, hg5, kv, vv, hub, hk1, hk2, hkG⟩ := (hR4.still elS_ok kz).get hi'
  obtain ⟨u', g', c', cur', hlg', hg1', hg2', hg3', hg4', hg5', bM, D, hub', hMap, hTM, _⟩ := (hR24.still elM_ok kz).get (j := i) (by omega)
  obtain ⟨rfl, rfl⟩ : aT = some ⟨g, 0, none⟩ ∧ cT = c := by injection hlg with q1 q2 q3; exact ⟨q1, q3⟩
  obtain ⟨rfl, rfl⟩ : aM = some ⟨g', 0, none⟩ ∧ cM = c' := by injection hlg' with q1 q2 q3; exact ⟨q1, q3⟩
  subst hub hub'
  have hT := hszv i ts[i] (List.getElem?_eq_getElem _)
  have hIs := hisv i ts[i] ms[i] (List.getElem?_eq_getElem _) (List.getElem?_eq_getElem _)
  generalize htt : ts[i] = tt at *
  generalize hmm : ms[i] = mm at *
  have hLnd := hIs.nodup
  have hL := hIs.2
  obtain ⟨L, hLL⟩ : ∃ L, L = toL tt := ⟨_, rfl⟩
  rw [← hLL] at hk1 hk2 hLnd hL hg3 hg5 hT
  have hDl : D.length = L.length := tells_len hMap.nodup hLnd hTM hL
  obtain ⟨ak, ck, rfl, _, _, hrk, _⟩ := hk1
  obtain ⟨av, cv, rfl, _, _, hrv, _⟩ := hk2
  have q0 : cur'[i]? = some (.map (some bM)) := by have := hg3' 0 (by decide); simpa using this
  try simp [-getElem?_pos, -Array.getElem?_eq_getElem, -Int.natCast_add, add_spot, and_assoc, Br_dec, -op_box, -op_alloc_60, -op_st_60, -op_alloc_67, -op_st_67, -op_lit_58_1, hg1, hg4, hg5]
  refine ⟨hi', ?_⟩
  refine op_alloc_ok (z := .agg #[.int .i64 0, .slice none 0 0, .slice none 0 0]) (by kernel_rfl) fun w5 k5 z5 b5 => ?_
  simp only [cells_agg] at b5
  refine op_storeN_ok (n := 3) (by kernel_rfl) b5 rfl (by decide) (by simp) fun w6 k6 z6 b6 => ?_
  have b6 : w6.heap[wz.heap.size]? = some (.cells #[.int .i64 L.length, .slice ak L.length ck, .slice av L.length cv] 67 (0, 0)) := by
    rw [ow_all (by simp)] at b6; simpa using b6
  have k56 : Frm (fun _ => False) wz w6 := k5.old k6 fun c hc => .inr (by omega)
  have n6 := k56.size
  have g6 := k56.get hg1' fun h => h
  have hM6 := hMap.frame k56 fun h => h
  try simp [-getElem?_pos, -Array.getElem?_eq_getElem, -Int.natCast_add, add_spot, and_assoc, Br_dec, -op_box, -op_alloc_60, -op_st_60, -op_alloc_67, -op_st_67, -op_lit_58_1, b6, g6, q0]
  refine ⟨by omega, ?_⟩
  refine ld_mapLen (ek := kT.enc) (ev := ev) Try.underlying68 (hM6.frame (Frm.drew (M := fun _ => False) _) fun h => h) ?_
  rw [hDl]
  try simp [-getElem?_pos, -Array.getElem?_eq_getElem, -Int.natCast_add, add_spot, and_assoc, Br_dec, -op_box, -op_alloc_60, -op_st_60, -op_alloc_67, -op_st_67, -op_lit_58_1, b6]
  refine op_mkMap ?_
  have k7 : Frm (fun _ => False) w6.drew (w6.drew.alloc (.map #[] 0)) := Frm.alloc _ _
  have hs7 : HasMap (w6.drew.alloc (.map #[] 0)) kT.enc evB w6.drew.heap.size ([] : List (Ky × Bool)) := hasMap_new w6.drew _ _
  generalize hw7 : w6.drew.alloc (.map #[] 0) = w7 at *
  have k67 := Frm.dr k7
  have k07 := k56.no k67
  have b7 := k67.get b6 fun h => h
  have g7 := k67.get g6 fun h => h
  have hM7 := hM6.frame k67 fun h => h
  have e6 : w6.drew.heap.size = w6.heap.size := rfl
  have hslt := hs7.lt
  have hblt := hMap.lt
  rw [e6] at hs7 hslt
  try simp [-getElem?_pos, -Array.getElem?_eq_getElem, -Int.natCast_add, add_spot, and_assoc, Br_dec, -op_box, -op_alloc_60, -op_st_60, -op_alloc_67, -op_st_67, -op_lit_58_1, b7]
  obtain ⟨I3, hI3⟩ : ∃ I : Value → World → Prop, ∀ v wl, I v wl ↔ ∃ (j : Nat) (S : List (Ky × Bool)), v = .int .i64 j ∧ j ≤ L.length ∧ Frm (fun c => c = w6.heap.size) w7 wl ∧ HasMap wl kT.enc evB w6.heap.size S ∧ Tells S (inSeen (L.take j)) := ⟨_, fun _ _ => Iff.rfl⟩
  refine Lp.intro I3 (fun v _ => L.length - natOf v) ⟨(hI3 _ _).2 ⟨0, [], rfl, by omega, Frm.refl, hs7, fun k v => by simp [inSeen]⟩, ?_⟩
  intro wy v hy
  obtain ⟨j, S, rfl, hj, ky, hS, hSt⟩ := (hI3 _ _).1 hy
  simp only [op_lss, Br_dec]
  have kzy : Frm (fun _ => False) wz wy := k07.old ky fun c hc => .inr (by omega)
  refine ⟨fun hltj => ?_, fun hgej => ?_⟩
  rotate_left
  · try simp [-getElem?_pos, -Array.getElem?_eq_getElem, -Int.natCast_add, add_spot, and_assoc, Br_dec, -op_box, -op_alloc_60, -op_st_60, -op_alloc_67, -op_st_67, -op_lit_58_1]
    rw [wrap_i64_small (by omega) (by omega)]
    refine ⟨(hI2 _ _).2 ⟨i + 1, by simp, by omega, kz.no kzy⟩, ?_⟩
    simp only [natOf]; omega
  have hj' : j < L.length := by omega
  have htk : L.take (j + 1) = L.take j ++ [L[j]] := List.take_succ_eq_append_getElem hj'
  obtain ⟨bp, o, cs, e, fz, rfl, hcs, hsz, hext⟩ := (hrk.frame kzy fun _ _ h => h).part (i := j) k1_len (by decide) (by simpa using hj')
  obtain ⟨bp2, o2, cs2, e2, fz2, rfl, hcs2, hsz2, hext2⟩ := (hrv.frame kzy fun _ _ h => h).part (i := j) v1_len (by decide) (by simpa using hj')
  have hki : cs[o + j]? = some (kT.enc L[j].1) := by
    have := congrArg (fun a => a[0]?) hext
    simp only [Array.getElem?_extract] at this
    rw [if_pos (by omega)] at this
    show cs[o + j]? = some (ek L[j].1)
    simpa [T.k1] using this
  have hvi : cs2[o2 + j]? = some (.int .i64 L[j].2) := by
    have := congrArg (fun a => a[0]?) hext2
    simp only [Array.getElem?_extract] at this
    rw [if_pos (by omega)] at this
    simpa [T.v1] using this
  have hmem := List.getElem_mem hj'
  have hfresh : L[j].1 ∉ (L.take j).map (·.1) := fun hk => by
    rw [List.map_take] at hk
    obtain ⟨j2, hj2, hje⟩ := List.mem_iff_getElem.1 hk
    simp at hj2
    have := List.pairwise_iff_getElem.1 hLnd j2 j (by simpa using by omega) (by simpa using hj') (by omega)
    simp at hje
    exact this (by simpa using hje)
  generalize hp : L[j] = p at *
  have hmp : mm p.1 = some p.2 := (hL p.1 p.2).1 hmem
  have bY := ky.get b7 fun h => by omega
  have gY := kzy.get hg1' fun h => h
  have hMy := hMap.frame kzy fun h => h
  try simp [-getElem?_pos, -Array.getElem?_eq_getElem, -Int.natCast_add, add_spot, and_assoc, Br_dec, -op_box, -op_alloc_60, -op_st_60, -op_alloc_67, -op_st_67, -op_lit_58_1, hcs, hki, gY, q0]
  refine ⟨hj', by omega, ?_⟩
  refine op_lookup (E := kT) (ev := ev) (k := p.1) (z := .int .i64 0) Try.underlying68 (by kernel_rfl) hMy ?_
  rw [tells_look hMap.nodup hTM, hmp]
  try simp [-getElem?_pos, -Array.getElem?_eq_getElem, -Int.natCast_add, add_spot, and_assoc, Br_dec, -op_box, -op_alloc_60, -op_st_60, -op_alloc_67, -op_st_67, -op_lit_58_1, ev]
  refine op_lookup (E := kT) (ev := evB) (k := p.1) (z := .bool false) Try.underlying69 (by kernel_rfl) hS ?_
  have hlk : Nd.look S p.1 = none := by rw [tells_look hS.nodup hSt, inSeen_none hfresh]
  rw [hlk]
  try simp [-getElem?_pos, -Array.getElem?_eq_getElem, -Int.natCast_add, add_spot, and_assoc, Br_dec, -op_box, -op_alloc_60, -op_st_60, -op_alloc_67, -op_st_67, -op_lit_58_1, bY, hcs2, hvi]
  refine ⟨hj', ?_⟩
  refine op_update (E := kT) (ev := evB) (k := p.1) (v := true) Try.underlying69 hS fun w9 k9 z9 hS9 => ?_
  try simp [-getElem?_pos, -Array.getElem?_eq_getElem, -Int.natCast_add, add_spot, and_assoc, Br_dec, -op_box, -op_alloc_60, -op_st_60, -op_alloc_67, -op_st_67, -op_lit_58_1]
  rw [wrap_i64_small (by omega) (by omega)]
  refine ⟨(hI3 _ _).2 ⟨j + 1, _, by simp, by omega, ky.trans k9 fun _ h _ => h, hS9, ?_⟩, ?_⟩
  · rw [htk, inSeen_snoc]; exact tells_upd (k := p.1) (v := true) hS.nodup hSt
  · simp only [natOf]; omega
end Go.Proofs.Ytbghmbbhkoniiaa.T
end
section
/- From calls that answer true and write nothing that was there to the contract of a law's row; arguments in the heap. -/
namespace Go.Vc
open Go.ChangeShapes Go.WideShapes Go.ChangeAt Go.RowKit Go.WideElems
variable {H : Type} {enc : TypeId × Value → H} {P : Program} {W W' : World}

def typed (P : Program) (ts : List TypeId) : Bool := ts.all fun t => P.readableRec t && decide (t < P.types.size)

theorem below_of (h : ∀ {M}, Frm M W W') : Below W.heap.size W W' := ⟨(h (M := fun _ => False)).os, (h (M := fun _ => False)).tape, (h (M := fun _ => False)).output, (h (M := fun _ => False)).size, fun k hk => (h (M := fun _ => False)).block k hk (fun h => h)⟩

theorem trodAll_below (hl : laidOutB P = true) {sp : Nat → Bool} (hb : Below W.heap.size W W') :
    ∀ {ts : List TypeId} {vs : List Value} {ds : List (DataW H)} {ps : List MemPlace}, typed P ts = true → (∀ p ∈ ps, p.block < W.heap.size) → (∀ p ∈ ps, sp p.block = true) →
      DataW.TrodAll enc P W 0 (fun _ => true) true ts vs ds ps → DataW.TrodAll enc P W' 0 sp true ts vs ds ps
  | [], [], [], _, _, _, _, h => h
  | t :: ts, v :: vs, d :: ds, ps, ht, h1, h2, h => by
    obtain ⟨p, q, hd, hr, rfl⟩ := h
    simp only [typed, List.all_cons, Bool.and_eq_true, decide_eq_true_eq] at ht
    refine ⟨p, q, Trod_stays hl ht.1.1 ht.1.2 hd (fun x hx => hb.same (h1 x (by simp [hx]))) (fun x hx => h2 x (by simp [hx])), ?_, rfl⟩
    exact trodAll_below hl hb (by simpa [typed] using ht.2) (fun x hx => h1 x (by simp [hx])) (fun x hx => h2 x (by simp [hx])) hr
  | [], [], _ :: _, _, _, _, _, h => h.elim
  | [], _ :: _, _, _, _, _, _, h => h.elim
  | _ :: _, [], _, _, _, _, _, h => h.elim
  | _ :: _, _ :: _, [], _, _, _, _, h => h.elim

theorem trodAll_len : ∀ {ts : List TypeId} {vs : List Value} {ds : List (DataW H)} {ps : List MemPlace} {b : Nat} {sp : Nat → Bool} {hd : Bool}, DataW.TrodAll enc P W b sp hd ts vs ds ps → ds.length = ts.length
  | [], [], [], _, _, _, _, _ => rfl
  | t :: ts, v :: vs, d :: ds, ps, _, _, _, h => by
    obtain ⟨p, q, hd, hr, rfl⟩ := h
    simp [trodAll_len hr]
  | [], [], _ :: _, _, _, _, _, h => h.elim
  | [], _ :: _, _, _, _, _, _, h => h.elim
  | _ :: _, [], _, _, _, _, _, h => h.elim
  | _ :: _, _ :: _, [], _, _, _, _, h => h.elim

theorem returns_true {C : Checked} {os : Os} {f : FuncId} {fn : Func} {s : ChangeSpec} {tb : TypeId}
    (own : ownKnob C.prog.godebug = none) (started : os.Started) (noInit : C.prog.inits.idxOf? f = none) (hfn : C.prog.funcs[f]? = some fn)
    (witness : ∃ (w : World) (tape : Tape) (i : Input), w.os = os ∧ (w.forCall tape i).Shaped C.prog ∧ i.vars = [] ∧ Input.okWide C.prog (w.forCall tape i) .any w.heap.size f i ∧
      s.pre6 enc C.prog fn [] false (w.forCall tape i).memory i.args ∧ ({} : Assume).holds C.prog (lone (Frame.enter C.prog f i.args .normal) [] (w.forCall tape i)))
    (hl : laidOutB C.prog = true) (ht : typed C.prog fn.params.toList = true) (hv : s.vars = []) (hres : fn.resultTypes = #[tb]) (hb : C.prog.underlying tb = some .bool)
    (hs : ∀ ds : List (DataW H), ds.length = fn.params.toList.length → s.fn H ds = { results := [.lit (.bool true)], args := ds })
    (contract : ∀ (W : World) (base : Nat) (args : Array Value) (ds : List (DataW H)) (before : List MemPlace), W.ShapedOpen C.prog →
      (∀ (j : Nat) t v, fn.params[j]? = some t → args[j]? = some v → Value.okWide C.prog W .any base t v) →
      DataW.TrodAll enc C.prog W 0 (fun _ => true) true fn.params.toList args.toList ds before → (∀ p ∈ before, p.block < W.heap.size) →
      Calls C.prog f args W (ret (fun v W' => v = .bool true ∧ ∀ M, Frm M W W') fun _ _ => False)) :
    ReturnsInHanded {} C os f .any (s.pre6 enc C.prog fn [] false) (s.post enc C.prog fn false true false false) := by
  refine returnsInHanded_of_calls own started noInit witness ?_
  intro w tape i _ hsh _ hok hpre hholds
  obtain ⟨_, _, _, fn', hfn', _, _, _, _, hval⟩ := hok
  have e : fn' = fn := Option.some.inj (hfn'.symm.trans hfn)
  subst e
  obtain ⟨⟨ds, gs, before, hw, hc⟩, hz⟩ := hpre
  have hw' := DataW.Whole.of_heap (w' := w.forCall tape i) (by rfl) hw
  have hlt := hw'.lt
  have hw'' := hw'
  obtain ⟨p, q, hA, hV, rfl, hfz, hnd⟩ := hw'
  rw [hv] at hV
  obtain ⟨rfl, rfl⟩ := trodVars_none hV
  rw [List.append_nil] at hlt hw''
  refine (contract (w.forCall tape i) w.heap.size i.args ds p hsh hval hA hlt).mono fun e W' he => ?_
  cases e with
  | returned v =>
    obtain ⟨rfl, hf⟩ := he
    have hb' := below_of (fun {M} => hf M)
    have hlen := trodAll_len hA
    have hsd : s.fn H (ds ++ []) = { results := [.lit (.bool true)], args := ds } := by rw [List.append_nil]; exact hs ds hlen
    refine ChangeSpec.post_blind ⟨ds, [], p, [], p, [], hw'', ?_, ?_, ?_, World.keptBut_mono (fun x hx => ⟨hx, .inr (.inl hx)⟩) (hb'.frame (· ∈ p)), (fun h => nomatch h)⟩
    · rw [hsd, hres]; exact trodAll_mk1 (shut_bool hb _)
    · rw [hsd]; exact trodAll_below hl hb' ht hlt (fun x hx => by simpa using hlt x hx) hA
    · rw [hsd, hv]; rfl
  | panicked _ => exact he.elim
  | outgrown => exact he.elim

/-! ### arguments -/
theorem open_rows {t e : TypeId} {base : Nat} {v : Value} {d : DataW H} {ps : List MemPlace} (ht : P.underlying t = some (.slice e)) {c : Nat} (hc : P.cellsOf e = c) (hc0 : 0 < c)
    (hok : Value.okWide P W .any base t v) (h : DataW.Trod enc P W 0 (fun _ => true) true t v d ps) :
    ∃ (a : Option Addr) (len cap : Nat) (f : Nat → List Value), v = .slice a len cap ∧ len ≤ cap ∧ cap ≤ maxLen ∧ (a = none → len = 0) ∧ (∀ p, a = some p → p.spot = none ∧ p.block < W.heap.size) ∧
      Row W a ((List.range len).flatMap f) ∧ (∀ i, (f i).length = c) ∧ ∀ i, i < len → ∃ n x, DataW.trod enc P W 0 (fun _ => true) true n e (f i) = some x := by
  have hv : v = .slice none 0 0 ∨ ∃ p len cap, v = .slice (some p) len cap ∧ p.spot = none ∧ p.block < W.heap.size := by
    unfold Value.okWide at hok
    rw [ht] at hok
    simp only [Cell.okWide, ht] at hok
    unfold Cell.ok at hok
    rw [ht] at hok
    cases v with
    | slice a len cap =>
      cases a with
      | none =>
        match len, cap, hok with
        | 0, 0, _ => exact .inl rfl
      | some p =>
        refine .inr ⟨p, len, cap, rfl, hok.2.2.2.1, ?_⟩
        obtain ⟨row, cells, hsh, _⟩ := hok.2.2.2.2
        unfold World.shape? at hsh
        split at hsh
        · rename_i hb; exact lt_of_get hb
        · cases hsh
    | _ => exact hok.elim
  obtain ⟨fuel, hf⟩ := h
  rcases hv with rfl | ⟨p, len, cap, rfl, hs, hbl⟩
  · exact ⟨none, 0, 0, fun _ => List.replicate c undef, rfl, Nat.le_refl _, by simp [maxLen], fun _ => rfl, (fun p h => nomatch h), .inl rfl, fun i => by simp, fun i hi => by omega⟩
  · have hf' : DataW.trod enc P W 0 (fun _ => true) true fuel t [.slice (some p) len cap] = some (d, ps) := hf
    rcases Go.Deep.open_slice ht hf' with ⟨h0, _⟩ | ⟨a, len', cap', m, n, D, Pl, hcs, _, hl, hm, hmm, _, hx⟩
    · cases h0
    · simp only [List.cons.injEq, Value.slice.injEq, Option.some.injEq, and_true] at hcs
      obtain ⟨rfl, rfl, rfl⟩ := hcs
      obtain ⟨b, o, sp⟩ := p
      simp only at hs
      subst hs
      have hle : ∀ i, i < len → ∃ cs', W.cells? 0 ((⟨b, o, none⟩ : Addr).add (i * c)) c = some cs' ∧ DataW.trod enc P W 0 (fun _ => true) true n e cs' = some (D i, Pl i) := fun i hi => by
        have := hx i (by rw [hmm]; simp; omega)
        rwa [hc] at this
      have hcell : ∀ i, i < len → ∃ cs' : List Value, cs'.length = c ∧ (∀ r, r < c → W.cell? ⟨b, o + (i * c + r), none⟩ = cs'[r]?) ∧ DataW.trod enc P W 0 (fun _ => true) true n e cs' = some (D i, Pl i) := fun i hi => by
        obtain ⟨cs', h1, h2⟩ := hle i hi
        obtain ⟨_, h3, h4⟩ := World.cells?_some h1
        refine ⟨cs', h3, fun r hr => ?_, h2⟩
        rw [← h4 r hr, Go.Deep.add_add, add_spot rfl]
      have hch : ∃ f : Nat → List Value, (∀ i, (f i).length = c) ∧ ∀ i, i < len → (∀ r, r < c → W.cell? ⟨b, o + (i * c + r), none⟩ = (f i)[r]?) ∧ DataW.trod enc P W 0 (fun _ => true) true n e (f i) = some (D i, Pl i) := by
        classical
        refine ⟨fun i => if hi : i < len then Classical.choose (hcell i hi) else List.replicate c undef, fun i => ?_, fun i hi => ?_⟩
        · by_cases hi : i < len
          · simp only [dif_pos hi]; exact (Classical.choose_spec (hcell i hi)).1
          · simp only [dif_neg hi]; simp
        · simp only [dif_pos hi]; exact (Classical.choose_spec (hcell i hi)).2
      obtain ⟨f, hf1, hf2⟩ := hch
      have hrow : Row W (some ⟨b, o, none⟩) ((List.range len).flatMap f) ∧ (len ≠ 0 → b < W.heap.size) := by
        by_cases h0 : len = 0
        · subst h0; exact ⟨.inl rfl, fun h => absurd rfl h⟩
        · have hz := (hf2 0 (by omega)).1 0 hc0
          rw [List.getElem?_eq_getElem (by rw [hf1]; exact hc0)] at hz
          have hb : ∃ cs e' fz, W.heap[b]? = some (.cells cs e' fz) := by
            unfold World.cell? at hz
            split at hz
            · rename_i c' e' fz hb; exact ⟨_, _, _, hb⟩
            · cases hz
          obtain ⟨cs, e', fz, hb⟩ := hb
          refine ⟨.inr ⟨b, o, cs, e', fz, rfl, hb, fun j v hj => ?_⟩, fun _ => lt_of_get hb⟩
          have hjl : j < len * c := by
            have := (List.getElem?_eq_some_iff.1 hj).1
            rwa [flatMap_len hf1, List.length_range] at this
          have hjc : j = j / c * c + j % c := by rw [Nat.mul_comm]; exact (Nat.div_add_mod j c).symm
          have hi : j / c < len := Nat.div_lt_of_lt_mul (by rw [Nat.mul_comm]; exact hjl)
          have hr : j % c < c := Nat.mod_lt _ hc0
          have hg := flatMap_get hf1 (List.range len) (j / c) (j % c) (by simpa using hi) hr
          rw [← hjc] at hg
          rw [hg] at hj
          simp only [List.getElem_range] at hj
          have := (hf2 _ hi).1 _ hr
          rw [← hjc, hj] at this
          rw [← this]
          exact (cell_of (p := ⟨b, o + j, none⟩) hb rfl).symm
      exact ⟨some ⟨b, o, none⟩, len, cap, f, rfl, hl, hm, (fun h => nomatch h), fun p hp => by cases hp; exact ⟨rfl, hbl⟩, hrow.1, hf1, fun i hi => ⟨n, _, (hf2 i hi).2⟩⟩

theorem open_fields {t : TypeId} {fs : Array Field} {n : Nat} {cs : List Value} {x : DataW H × List MemPlace} (ht : P.underlying t = some (.struct fs)) (h : DataW.trod enc P W 0 (fun _ => true) true n t cs = some x)
    {i : Nat} {f : Field} (hf : fs[i]? = some f) (ho : f.offset = i) (hc : P.cellsOf f.type = 1) (hi : i < cs.length) :
    ∃ n y, DataW.trod enc P W 0 (fun _ => true) true n f.type [cs[i]] = some y := by
  obtain ⟨xs, k, rfl, rfl, hl, hxl, hx⟩ := DataW.trod_struct ht h
  have h1 := hx i f hf
  have hi2 : i < xs.length := by rw [hxl]; exact (Array.getElem?_eq_some_iff.1 hf).1
  rw [ho, hc, List.getElem?_eq_getElem hi2, List.drop_eq_getElem_cons hi, List.take_succ_cons, List.take_zero] at h1
  exact ⟨k, _, h1⟩
theorem field_int {t : TypeId} {k : IntKind} {n : Nat} {u : Value} {x : DataW H × List MemPlace} (ht : P.underlying t = some (.int k)) (h : DataW.trod enc P W 0 (fun _ => true) true n t [u] = some x) : ∃ m, u = .int k m ∧ k.min ≤ m ∧ m ≤ k.max := by
  obtain ⟨m, hm, _, hw⟩ := DataW.trod_int ht h
  simp only [Lit.wf, Bool.and_eq_true, decide_eq_true_eq] at hw
  exact ⟨m, by simpa using hm, hw.1, hw.2⟩
end Go.Vc
end
section
/- Further arguments in the heap: whole numbers, structs of them, rows of structs. -/
namespace Go.Vc
open Go.ChangeShapes Go.WideShapes Go.ChangeAt Go.RowKit Go.WideElems
variable {H : Type} {enc : TypeId × Value → H} {P : Program} {W W' : World}
theorem rows_of {α : Type} {f : Nat → List Value} {c : α → List Value} {len : Nat} {a : Option Addr} (d : α) (h : Row W a ((List.range len).flatMap f)) (hf : ∀ i, i < len → ∃ s, f i = c s) : ∃ xs : List α, xs.length = len ∧ Row W a (xs.flatMap c) := by
  obtain ⟨g, hg⟩ := Classical.axiomOfChoice (r := fun i (s : α) => i < len → f i = c s) fun i => by
    by_cases hi : i < len
    · obtain ⟨s, hs⟩ := hf i hi
      exact ⟨s, fun _ => hs⟩
    · exact ⟨d, fun h => absurd h hi⟩
  refine ⟨(List.range len).map g, by simp, ?_⟩
  rw [Go.Deep.flatMap_congr_range hg] at h
  rwa [List.flatMap_map]
end Go.Vc
end
section
/- What the laws' arguments are in the heap: a hasher's numbers, steps. -/
set_option maxRecDepth 100000
set_option linter.unusedSimpArgs false
set_option linter.unusedVariables false
set_option maxHeartbeats 8000000
namespace Go.Proofs.Ytbghmbbhkoniiaa.I
open Go.Vc Go.Proofs Go.Proofs.Ytbghmbbhkoniiaa Go.ChangeShapes Go.WideShapes Go.ChangeAt Go.RowKit
variable {H : Type} {enc : TypeId × Value → H} {W : World}
theorem row_own : ownKnob Try.prog.godebug = none := by kernel_rfl
theorem row_laid : laidOutB Try.prog = true := by kernel_rfl
end Go.Proofs.Ytbghmbbhkoniiaa.I
end
section
/- Steps over maps of texts as arguments. -/
set_option maxRecDepth 100000
set_option linter.unusedSimpArgs false
set_option linter.unusedVariables false
set_option maxHeartbeats 8000000
namespace Go.Proofs.Ytbghmbbhkoniiaa.T
open Go.Vc Go.Proofs Go.Proofs.Ytbghmbbhkoniiaa Go.ChangeShapes Go.WideShapes Go.ChangeAt Go.RowKit
variable {H : Type} {enc : TypeId × Value → H} {W : World}
theorem tstep_of {n : Nat} {cs : List Value} {x : DataW H × List MemPlace} (hl : cs.length = 4) (h : DataW.trod enc Try.prog W 0 (fun _ => true) true n 60 cs = some x) : ∃ s : TStep, cs = s.cells := by
  match cs, hl, h with
  | [u0, u1, u2, u3], _, h =>
    have hu := Try.underlying60
    obtain ⟨n0, y0, z0⟩ := open_fields hu h (i := 0) rfl rfl (by kernel_rfl) (by simp)
    obtain ⟨n1, y1, z1⟩ := open_fields hu h (i := 1) rfl rfl (by kernel_rfl) (by simp)
    obtain ⟨n2, y2, z2⟩ := open_fields hu h (i := 2) rfl rfl (by kernel_rfl) (by simp)
    obtain ⟨n3, y3, z3⟩ := open_fields hu h (i := 3) rfl rfl (by kernel_rfl) (by simp)
    obtain ⟨m0, e0, _⟩ := DataW.trod_bool Try.underlying4 z0
    obtain ⟨m1, e1, _⟩ := field_int Try.underlying3 z1
    obtain ⟨m2, e2, _⟩ := DataW.trod_string Try.underlying9 z2
    obtain ⟨m3, e3, _⟩ := field_int Try.underlying2 z3
    refine ⟨⟨m0, m1, m2, m3⟩, ?_⟩
    simp only [List.getElem_cons_zero, List.getElem_cons_succ] at e0 e1 e2 e3
    obtain ⟨rfl, _⟩ := List.cons.inj e0
    obtain ⟨rfl, _⟩ := List.cons.inj e2
    simp only [TStep.cells, e1, e3]
theorem open_tsteps {base : Nat} {v : Value} {d : DataW H} {ps : List MemPlace} (hok : Value.okWide Try.prog W .any base 53 v) (h : DataW.Trod enc Try.prog W 0 (fun _ => true) true 53 v d ps) :
    ∃ (a : Option Addr) (cap : Nat) (steps : List TStep), v = .slice a steps.length cap ∧ steps.length ≤ cap ∧ cap ≤ maxLen ∧ (a = none → steps.length = 0) ∧ Row W a (steps.flatMap TStep.cells) := by
  obtain ⟨a, len, cap, f, rfl, h1, h2, h3, h4, h6, h7, h8⟩ := open_rows Try.underlying53 (c := 4) (by kernel_rfl) (by decide) hok h
  obtain ⟨xs, rfl, hr⟩ := rows_of (c := TStep.cells) ⟨false, 0, ⟨#[]⟩, 0⟩ h6 fun i hi => by
    obtain ⟨n, x, hx⟩ := h8 i hi
    exact tstep_of (h7 i) hx
  exact ⟨a, cap, xs, rfl, h1, h2, h3, hr⟩
theorem row_own : ownKnob Try.prog.godebug = none := by kernel_rfl
theorem row_laid : laidOutB Try.prog = true := by kernel_rfl
end Go.Proofs.Ytbghmbbhkoniiaa.T
end
