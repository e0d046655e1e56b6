/- The operations that only reckon: what is written down is what the model's run gives. -/
import Derived.Test.YtjlaclgikmmmlaaVcOps
namespace Go.Vc
variable {P : Program}

theorem kd_spec (t : TypeId) : match kd P t with
    | .bool => P.underlying t = some .bool
    | .int k => P.underlying t = some (.int k)
    | .string => P.underlying t = some .string
    | .pointer => ∃ e, P.underlying t = some (.pointer e)
    | .iface => ∃ ms, P.underlying t = some (.interface ms)
    | .slice => ∃ e, P.underlying t = some (.slice e)
    | .map => ∃ k e, P.underlying t = some (.map k e)
    | .func => ∃ a b c, P.underlying t = some (.func a b c)
    | .other => ∀ ms, P.underlying t ≠ some (.interface ms) := by
  unfold kd
  cases h : P.underlying t with
  | none => simp
  | some d => cases d <;> simp
theorem hasT_spec {t : TypeId} (h : hasT P t = true) : ∃ d, P.underlying t = some d := Option.isSome_iff_exists.1 h

theorem run_und {t : TypeId} {d : TypeDesc} (h : P.underlying t = some d) (w : World) : (underlying t).run P w = .ok d w := run_underlying h w
theorem run_sz {t : TypeId} {s : Nat} (h : szOf P t = some s) (w : World) : (sizeOf t).run P w = .ok s w := by
  unfold szOf at h
  cases hi : P.info? t with
  | none => simp [hi] at h
  | some i => simp [hi] at h; simp [sizeOf, typeInfo, program, Sem.run, hi, h]

def Good (P : Program) (s : Sem Value) (c : Prop) (v : Value) : Prop := c → ∀ w, s.run P w = .ok v w

theorem guard_pure {op : BinOp} {t : TypeId} {x y : Operand} {u v : Value} (h : eqGuard op t x y u v = pure ()) (s : Sem Value) (w : World) : (do eqGuard op t x y u v; s : Sem Value).run P w = s.run P w := by
  rw [h]; simp

theorem eqV_good {op : BinOp} {t : TypeId} {xc yc : Bool} {x y : Value} {b : Bool} {c : Prop} {v : Value} (he : eqGuard op t (opd xc) (opd yc) x y = pure ())
    (hb1 : binOp .eql t x y = do pure (.bool (← Op.equal t x y))) (hb2 : binOp .neq t x y = do pure (.bool (!(← Op.equal t x y))))
    (hq : ∀ w, (Op.equal t x y).run P w = .ok b w) (h : eqV op b = some (c, v)) : Good P (VOp.bin op t xc yc x y).sem c v := by
  intro _ w
  simp only [VOp.sem]
  rw [guard_pure he]
  cases op <;> simp only [eqV, Option.some.injEq, Prod.mk.injEq, reduceCtorEq] at h
  · rw [hb1]; obtain ⟨_, rfl⟩ := h; simp [hq]
  · rw [hb2]; obtain ⟨_, rfl⟩ := h; simp [hq]

theorem intV_good {op : BinOp} {t : TypeId} {xc yc : Bool} {k : IntKind} {a b : Int} {c : Prop} {v : Value} (hs : op ≠ .shl ∧ op ≠ .shr) (h : intV op k a b = some (c, v)) : Good P (VOp.bin op t xc yc (.int k a) (.int k b)).sem c v := by
  intro hc w
  simp only [VOp.sem]
  rw [guard_pure (eqGuard_at_int ..)]
  cases op <;> simp only [intV, Option.some.injEq, Prod.mk.injEq, reduceCtorEq] at h
  all_goals
    first
    | exact absurd rfl hs.1
    | exact absurd rfl hs.2
    | (obtain ⟨rfl, rfl⟩ := h
       first
       | (simp [binOp, Op.intArith]; done)
       | (simp [binOp, Op.intBits, bitsV]; done)
       | (simp [binOp, Op.intDiv, hc]; done)
       | (simp [binOp, Op.intCmp]; done)
       | (simp [binOp, Op.intCmp]; rfl))

theorem strV_good {op : BinOp} {t : TypeId} {xc yc : Bool} {a b : ByteArray} {c : Prop} {v : Value} (h : strV op a b = some (c, v)) : Good P (VOp.bin op t xc yc (.string a) (.string b)).sem c v := by
  intro hc w
  have he : (a.toList == b.toList) = decide (a = b) := by
    rw [Bool.eq_iff_iff]
    simp only [beq_iff_eq, decide_eq_true_eq]
    refine ⟨fun h => ?_, fun h => by rw [h]⟩
    rw [ByteArray.toList_eq, ByteArray.toList_eq] at h
    obtain ⟨⟨l⟩⟩ := a
    obtain ⟨⟨m⟩⟩ := b
    simp at h
    rw [h]
  simp only [VOp.sem]
  rw [guard_pure (eqGuard_at_string ..)]
  cases op <;> simp only [strV, Option.some.injEq, Prod.mk.injEq, reduceCtorEq] at h
  all_goals
    obtain ⟨rfl, rfl⟩ := h
    first
    | (have hh : (a.size : Int) + (b.size : Int) ≤ 9223372036854775807 := by have := hc; omega
       simp [binOp, Op.stringOp]; exact hh)
    | (simp [binOp, Op.stringOp, he]; done)

theorem equal_nil {t : TypeId} {x y : Value} {b : Bool} (h : ∀ d w, (Op.equalIn (d + 1) t x y).run P w = .ok b w) : ∀ w, (Op.equal t x y).run P w = .ok b w := fun w => h 9999 w

theorem binV_good {op : BinOp} {t : TypeId} {xc yc : Bool} {x y : Value} {c : Prop} {v : Value} (h : binV P op t xc yc x y = some (c, v)) : Good P (VOp.bin op t xc yc x y).sem c v := by
  have K := kd_spec (P := P) t
  unfold binV at h
  split at h
  · -- ints
    rename_i k a k' b
    split at h
    · simp only [Option.some.injEq, Prod.mk.injEq] at h
      obtain ⟨rfl, rfl⟩ := h
      intro hc w
      simp only [VOp.sem]
      rw [guard_pure (eqGuard_shl ..)]
      simp [binOp, Op.shift, Int.not_lt.2 hc]
    · simp only [Option.some.injEq, Prod.mk.injEq] at h
      obtain ⟨rfl, rfl⟩ := h
      intro hc w
      simp only [VOp.sem]
      rw [guard_pure (eqGuard_shr ..)]
      simp [binOp, Op.shift, Int.not_lt.2 hc]
    · rename_i h1 h2
      split at h
      · rename_i hk; subst hk; exact intV_good ⟨h1, h2⟩ h
      · cases h
  · exact strV_good h
  case h_3 =>
    split at h
    · rename_i hkd
      rw [hkd] at K
      refine eqV_good (eqGuard_at_bool ..) ?_ ?_ (equal_nil fun d w => ?_) h <;> simp [binOp, Op.equalIn, run_und K]
    · cases h
  case h_4 =>
    split at h
    · rename_i hkd
      rw [hkd] at K
      obtain ⟨ms, K⟩ := K
      refine eqV_good (eqGuard_at_iface ..) ?_ ?_ (equal_nil fun d w => ?_) h <;> simp [binOp, Op.equalIn, run_und K]
    · cases h
  case h_5 =>
    split at h
    · rename_i hkd
      rw [hkd] at K
      obtain ⟨ms, K⟩ := K
      refine eqV_good (eqGuard_nil_iface ..) ?_ ?_ (equal_nil fun d w => ?_) h <;> simp [binOp, Op.equalIn, run_und K]
    · cases h
  case h_6 =>
    split at h
    · rename_i hkd hc
      rw [hkd] at K
      obtain ⟨ms, K⟩ := K
      refine eqV_good ?_ ?_ ?_ (equal_nil fun d w => ?_) h
      · cases xc with
        | true => exact eqGuard_nil_constL ..
        | false =>
          cases yc with
          | true => exact eqGuard_nil_constR ..
          | false => cases hc
      all_goals simp [binOp, Op.equalIn, run_und K]
    · cases h
  case h_7 =>
    rename_i a
    split at h
    · rename_i hkd
      rw [hkd] at K
      obtain ⟨ms, K⟩ := K
      refine eqV_good (eqGuard_at_pointer ..) ?_ ?_ (equal_nil fun d w => ?_) h
      · cases a <;> simp [binOp]
      · cases a <;> simp [binOp]
      · cases a <;> simp [Op.equalIn, run_und K]
    · cases h
  case h_8 =>
    rename_i a _
    split at h
    · rename_i hkd
      rw [hkd] at K
      obtain ⟨ms, K⟩ := K
      refine eqV_good (eqGuard_at_pointer ..) ?_ ?_ (equal_nil fun d w => ?_) h
      · cases a <;> simp [binOp]
      · cases a <;> simp [binOp]
      · cases a <;> simp [Op.equalIn, run_und K]
    · cases h
  case h_9 =>
    rename_i a _ _ _ _
    split at h
    · rename_i hkd
      rw [hkd] at K
      obtain ⟨ms, K⟩ := K
      refine eqV_good (eqGuard_at_slice ..) ?_ ?_ (equal_nil fun d w => ?_) h
      · cases a <;> simp [binOp]
      · cases a <;> simp [binOp]
      · cases a <;> simp [Op.equalIn, run_und K]
    · cases h
  case h_10 =>
    rename_i a
    split at h
    · rename_i hkd
      rw [hkd] at K
      obtain ⟨ms, me, K⟩ := K
      refine eqV_good (eqGuard_at_map ..) ?_ ?_ (equal_nil fun d w => ?_) h
      · cases a <;> simp [binOp]
      · cases a <;> simp [binOp]
      · cases a <;> simp [Op.equalIn, run_und K]
    · cases h
  case h_11 =>
    split at h
    · rename_i hkd
      rw [hkd] at K
      obtain ⟨ms, me, mf, K⟩ := K
      refine eqV_good (eqGuard_at_func ..) ?_ ?_ (equal_nil fun d w => ?_) h <;> simp [binOp, Op.equalIn, run_und K]
    · cases h
  case h_12 =>
    split at h
    · rename_i hkd
      rw [hkd] at K
      obtain ⟨ms, me, mf, K⟩ := K
      refine eqV_good (eqGuard_at_nilFunc ..) ?_ ?_ (equal_nil fun d w => ?_) h <;> simp [binOp, Op.equalIn, run_und K]
    · cases h
  case h_13 => cases h

theorem ldk_part {t : TypeId} {k : LdK} (h : ldk P t = some k) {cs : Array Value} {off : Nat} {v : Value} (hv : partV k cs off = some v) (w : World) : (part t cs off).run P w = .ok v w := by
  unfold ldk at h
  cases hu : P.underlying t with
  | none => simp [hu] at h
  | some d =>
    rw [hu] at h
    cases d with
    | struct fs =>
      simp only [Option.map_eq_some_iff] at h
      obtain ⟨n, hn, rfl⟩ := h
      simp only [partV, Option.some.injEq] at hv
      subst hv
      simp [part, isAgg, run_und hu, run_sz hn]
    | array m e =>
      simp only [Option.map_eq_some_iff] at h
      obtain ⟨n, hn, rfl⟩ := h
      simp only [partV, Option.some.injEq] at hv
      subst hv
      simp [part, isAgg, run_und hu, run_sz hn]
    | _ =>
      simp only at h
      split at h
      · simp only [Option.some.injEq] at h
        subst h
        simp only [partV] at hv
        simp [part, isAgg, run_und hu, hv]
      · cases h

theorem run_bounds {x : Value} {k : IntKind} {i : Int} {y : Nat} {c : BoundsCode} (hx : x = .int k i) (h0 : 0 ≤ i) (h1 : i ≤ (y : Int)) (w : World) : (Instr.sliceBound x y c).run P w = .ok i.toNat w := by
  subst hx
  simp [Instr.sliceBound, asIntOf, h0, h1]

theorem lowV_spec {lo : Option Value} {l : Int} (h : lowV lo = some l) : (lo = none ∧ l = 0) ∨ ∃ k, lo = some (.int k l) := by
  unfold lowV at h
  split at h
  · exact .inl ⟨rfl, (Option.some.inj h).symm⟩
  · rename_i k l'; exact .inr ⟨k, by rw [Option.some.inj h]⟩
  · cases h
theorem upV_spec {n : Nat} {hi : Option Value} {l : Int} (h : upV n hi = some l) : (hi = none ∧ l = n) ∨ ∃ k, hi = some (.int k l) := by
  unfold upV at h
  split at h
  · exact .inl ⟨rfl, (Option.some.inj h).symm⟩
  · rename_i k l'; exact .inr ⟨k, by rw [Option.some.inj h]⟩
  · cases h

theorem run_cut {isS : Bool} {len cap : Nat} {lo hi mx : Option Value} {c : Prop} {l h m : Nat} (hc : cutV len cap lo hi mx = some (c, l, h, m)) (hcc : c) (w : World) :
    (Instr.sliceBounds isS len cap lo hi mx).run P w = .ok (l, h, m) w := by
  unfold cutV at hc
  cases mx with
  | none =>
    simp only at hc
    split at hc
    · rename_i li ui hl hh
      simp only [Option.some.injEq, Prod.mk.injEq] at hc
      obtain ⟨rfl, rfl, rfl, rfl⟩ := hc
      obtain ⟨h1, h2, h3⟩ := hcc
      have h4 : (0 : Int) ≤ ui := Int.le_trans h1 h2
      have h5 : li ≤ ((ui.toNat : Nat) : Int) := by omega
      unfold Instr.sliceBounds
      rcases upV_spec hh with ⟨rfl, rfl⟩ | ⟨k, rfl⟩ <;> rcases lowV_spec hl with ⟨rfl, rfl⟩ | ⟨k', rfl⟩
      · simp
      · simp only [Int.toNat_natCast] at h5 ⊢
        simp [run_bounds rfl h1 h5]
      · simp [run_bounds rfl h4 h3]
      · simp [run_bounds rfl h4 h3, run_bounds rfl h1 h5]
    · cases hc
  | some mv =>
    simp only at hc
    split at hc
    · rename_i li k ui mi hl hm
      simp only [Option.some.injEq, Prod.mk.injEq] at hc
      obtain ⟨rfl, rfl, rfl, rfl⟩ := hc
      obtain ⟨h1, h2, h3, h4⟩ := hcc
      unfold Instr.sliceBounds
      rcases upV_spec hm with ⟨hx, _⟩ | ⟨k2, hx⟩
      · cases hx
      · cases hx
        have h5 : (0 : Int) ≤ mi := Int.le_trans h1 (Int.le_trans h2 h3)
        have h6 : (0 : Int) ≤ ui := Int.le_trans h1 h2
        have h7 : ui ≤ ((mi.toNat : Nat) : Int) := by omega
        have h8 : li ≤ ((ui.toNat : Nat) : Int) := by omega
        rcases lowV_spec hl with ⟨rfl, rfl⟩ | ⟨k', rfl⟩
        · simp [run_bounds rfl h5 h4, run_bounds rfl h6 h7]
        · simp [run_bounds rfl h5 h4, run_bounds rfl h6 h7, run_bounds rfl h1 h8]
    · cases hc

theorem field_spec {t : TypeId} {f : Nat} {o : Nat} {k : LdK} (h : fieldOff P t f = some (o, k)) : ∃ fs fd s, P.underlying t = some (.struct fs) ∧ fs[f]? = some fd ∧ szOf P fd.type = some (s + 1) ∧ ldk P fd.type = some k ∧ fd.offset = o := by
  unfold fieldOff at h
  split at h
  · rename_i fs hu
    split at h
    · rename_i fd hf
      split at h
      · rename_i s hs
        simp only [Option.map_eq_some_iff, Prod.mk.injEq] at h
        obtain ⟨k', hk, ho, rfl⟩ := h
        exact ⟨fs, fd, s, hu, hf, hs, hk, ho⟩
      · cases h
    · cases h
  · cases h
theorem arr_spec {t : TypeId} {n s : Nat} (h : arrOf P t = some (n, s)) : ∃ e, P.underlying t = some (.array n e) ∧ szOf P e = some s := by
  unfold arrOf at h
  split at h
  · rename_i n' e hu
    simp only [Option.map_eq_some_iff, Prod.mk.injEq] at h
    obtain ⟨s', hs, rfl, rfl⟩ := h
    exact ⟨e, hu, hs⟩
  · cases h
theorem slice_spec {t e : TypeId} {s : Nat} (h : sliceOf P t = some (e, s)) : P.underlying t = some (.slice e) ∧ szOf P e = some s := by
  unfold sliceOf at h
  split at h
  · rename_i e' hu
    simp only [Option.map_eq_some_iff, Prod.mk.injEq] at h
    obtain ⟨s', hs, rfl, rfl⟩ := h
    exact ⟨hu, hs⟩
  · cases h

theorem pv_good {x : VOp} {c : Prop} {v : Value} (h : pv P x = some (c, v)) : Good P x.sem c v := by
  cases x with
  | nilCheck y =>
    simp only [pv] at h
    split at h <;> simp only [Option.some.injEq, Prod.mk.injEq, reduceCtorEq] at h <;> obtain ⟨_, rfl⟩ := h <;> intro _ w <;> simp [VOp.sem, nilSem]
  | fieldAddr t y f =>
    simp only [pv] at h
    split at h
    · rename_i p
      simp only [Option.map_eq_some_iff, Prod.mk.injEq] at h
      obtain ⟨⟨o, k⟩, ho, rfl, rfl⟩ := h
      obtain ⟨fs, fd, s, hu, hf, hs, hk, hoff⟩ := field_spec ho
      intro _ w
      simp [VOp.sem, Instr.fieldAt, run_und hu, hf, Instr.sureAddr, fieldPlace, run_sz hs, hoff]
    · cases h
  | field t y f =>
    simp only [pv] at h
    split at h
    · rename_i cs o k ho
      simp only [Option.map_eq_some_iff, Prod.mk.injEq] at h
      obtain ⟨u, hu', rfl, rfl⟩ := h
      obtain ⟨fs, fd, s, hu, hf, hs, hk, hoff⟩ := field_spec ho
      intro _ w
      simp [VOp.sem, Instr.field, run_und hu, hf, asAgg, hoff, ldk_part hk hu']
    · cases h
  | indexAddr t y i =>
    simp only [pv] at h
    split at h
    · rename_i p k j
      simp only [Option.map_eq_some_iff, Prod.mk.injEq] at h
      obtain ⟨⟨n, s⟩, hn, rfl, rfl⟩ := h
      obtain ⟨e, hu, hs⟩ := arr_spec hn
      intro hc w
      simp [VOp.sem, Instr.indexAt, asIntOf, run_und hu, Instr.sureAddr, hc.1, hc.2, run_sz hs]
    · rename_i p len cap k j
      simp only [Option.map_eq_some_iff, Prod.mk.injEq] at h
      obtain ⟨⟨e, s⟩, hn, rfl, rfl⟩ := h
      obtain ⟨hu, hs⟩ := slice_spec hn
      intro hc w
      simp [VOp.sem, Instr.indexAt, asIntOf, run_und hu, hc.1, hc.2, run_sz hs]
    · cases h
  | index t y i =>
    simp only [pv] at h
    split at h
    · rename_i s k j
      split at h
      · rename_i hk
        simp only [Option.some.injEq, Prod.mk.injEq] at h
        obtain ⟨rfl, rfl⟩ := h
        have K := kd_spec (P := P) t
        rw [hk] at K
        intro hc w
        have hlt : j.toNat < s.size := by omega
        have hg : s[j.toNat]? = some s[j.toNat] := by simp [hlt]
        simp [VOp.sem, Instr.index, asIntOf, run_und K, hc.1, hg]
      · cases h
    · cases h
  | bin op t xc yc a b => exact binV_good h
  | un op y =>
    simp only [pv] at h
    split at h <;> simp only [Option.some.injEq, Prod.mk.injEq, reduceCtorEq] at h <;> obtain ⟨_, rfl⟩ := h <;> intro _ w <;> simp [VOp.sem, Op.unary, Op.intArith, Op.intBits, bitsV]
  | conv s d y =>
    simp only [pv] at h
    have K := kd_spec (P := P) d
    split at h
    · rename_i k n k' hd hs
      rw [hd] at K
      obtain ⟨ds, hs⟩ := hasT_spec hs
      simp only [Option.some.injEq, Prod.mk.injEq] at h
      obtain ⟨_, rfl⟩ := h
      intro _ w
      cases ds <;> simp [VOp.sem, convert, run_und hs, run_und K, Conv.intToInt]
    · rename_i k hd hs
      rw [hd] at K
      obtain ⟨ds, hs⟩ := hasT_spec hs
      simp only [Option.some.injEq, Prod.mk.injEq] at h
      obtain ⟨_, rfl⟩ := h
      intro _ w
      cases ds <;> simp [VOp.sem, convert, run_und hs, run_und K]
    · cases h
  | mkIface t y =>
    simp only [pv] at h
    have K := kd_spec (P := P) t
    split at h
    · cases h
    · rename_i hs hk
      obtain ⟨ds, hs⟩ := hasT_spec hs
      simp only [Option.some.injEq, Prod.mk.injEq] at h
      obtain ⟨_, rfl⟩ := h
      intro _ w
      have hni : ∀ ms, ds ≠ .interface ms := by
        rintro ms rfl
        exact hk (by simp [kd, hs])
      cases ds <;> first | (exact absurd rfl (hni _)) | simp [VOp.sem, Instr.makeInterface, run_und hs]
    · cases h
  | mkFunc fn a b =>
    simp only [pv, Option.some.injEq, Prod.mk.injEq] at h
    obtain ⟨_, rfl⟩ := h
    intro _ w
    simp [VOp.sem, Instr.makeFunc]
  | extract y i =>
    simp only [pv] at h
    split at h
    · rename_i vs
      simp only [Option.map_eq_some_iff, Prod.mk.injEq] at h
      obtain ⟨u, hu, _, rfl⟩ := h
      intro _ w
      simp [VOp.sem, Instr.extract, hu]
    · cases h
  | tassert y xt at' ok =>
    simp only [pv] at h
    have hz : ∀ {z : Value}, zeroOf P at' = some z → ∀ w, (zeroValue at').run P w = .ok z w := by
      intro z hz w
      unfold zeroOf at hz
      cases hi : P.info? at' with
      | none => simp [hi] at hz
      | some i => simp [hi] at hz; simp [zeroValue, typeInfo, program, Sem.run, hi, hz]
    have hni : ∀ {ds}, kd P at' ≠ .iface → P.underlying at' = some ds → ∀ ms, ds ≠ .interface ms := by
      rintro ds hk hs ms rfl
      simp [kd, hs] at hk
    split at h
    · cases h
    · rename_i t u hs hk
      obtain ⟨ds, hs⟩ := hasT_spec hs
      have hn := hni hk hs
      split at h
      · rename_i ht
        simp only [Option.some.injEq, Prod.mk.injEq] at h
        obtain ⟨_, rfl⟩ := h
        intro _ w
        cases ds <;> first | (exact absurd rfl (hn _)) | (cases ok <;> simp [VOp.sem, Instr.typeAssert, run_und hs, ht])
      · rename_i ht
        split at h
        · rename_i hok
          simp only [Option.map_eq_some_iff, Prod.mk.injEq] at h
          obtain ⟨z, hz', _, rfl⟩ := h
          intro _ w
          cases ds <;> first | (exact absurd rfl (hn _)) | simp [VOp.sem, Instr.typeAssert, run_und hs, ht, hok, hz hz']
        · cases h
    · cases h
    · rename_i hs hk
      obtain ⟨ds, hs⟩ := hasT_spec hs
      have hn := hni hk hs
      split at h
      · rename_i hok
        simp only [Option.map_eq_some_iff, Prod.mk.injEq] at h
        obtain ⟨z, hz', _, rfl⟩ := h
        intro _ w
        cases ds <;> first | (exact absurd rfl (hn _)) | simp [VOp.sem, Instr.typeAssert, run_und hs, hok, hz hz']
      · cases h
    · cases h
  | blt b ts ty args =>
    simp only [pv] at h
    split at h
    · rename_i t a n cap
      have K := kd_spec (P := P) t
      split at h
      · rename_i hk
        rw [hk] at K
        obtain ⟨e, K⟩ := K
        simp only [Option.some.injEq, Prod.mk.injEq] at h
        obtain ⟨_, rfl⟩ := h
        intro _ w
        simp [VOp.sem, bltSem, Builtin.len_, run_und K, goInt]
      · cases h
    · rename_i t s
      have K := kd_spec (P := P) t
      split at h
      · rename_i hk
        rw [hk] at K
        simp only [Option.some.injEq, Prod.mk.injEq] at h
        obtain ⟨_, rfl⟩ := h
        intro _ w
        simp [VOp.sem, bltSem, Builtin.len_, run_und K, goInt]
      · cases h
    · rename_i t a n cap
      have K := kd_spec (P := P) t
      split at h
      · rename_i hk
        rw [hk] at K
        obtain ⟨e, K⟩ := K
        simp only [Option.some.injEq, Prod.mk.injEq] at h
        obtain ⟨_, rfl⟩ := h
        intro _ w
        simp [VOp.sem, bltSem, Builtin.cap_, run_und K, goInt]
      · cases h
    · cases h
  | slice t y lo hi mx =>
    simp only [pv] at h
    split at h
    · rename_i a len cap
      split at h
      · rename_i e s c' l hh m hs hc
        simp only [Option.some.injEq, Prod.mk.injEq] at h
        obtain ⟨rfl, rfl⟩ := h
        obtain ⟨hu, hsz⟩ := slice_spec hs
        intro hcc w
        simp [VOp.sem, Instr.sliceAt, Instr.slice, run_und hu, run_cut hc hcc, run_sz hsz]
      · cases h
    · rename_i a
      split at h
      · rename_i n s c' l hh m hs hc
        simp only [Option.some.injEq, Prod.mk.injEq] at h
        obtain ⟨rfl, rfl⟩ := h
        obtain ⟨e, hu, hsz⟩ := arr_spec hs
        rw [hs] at hc
        simp only [Option.bind_some] at hc
        intro hcc w
        simp [VOp.sem, Instr.sliceAt, run_und hu, Instr.sureAddr, run_cut hc hcc, run_sz hsz]
      · cases h
    · rename_i s
      have K := kd_spec (P := P) t
      split at h
      · rename_i c' l hh m hk hc
        rw [hk] at K
        simp only [Option.some.injEq, Prod.mk.injEq] at h
        obtain ⟨rfl, rfl⟩ := h
        intro hcc w
        simp [VOp.sem, Instr.sliceAt, Instr.slice, run_und K, run_cut hc hcc]
      · cases h
    · cases h
  | _ => simp [pv] at h

end Go.Vc
