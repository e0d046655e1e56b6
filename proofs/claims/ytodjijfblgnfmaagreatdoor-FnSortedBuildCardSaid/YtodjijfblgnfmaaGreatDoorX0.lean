import Derived.WalkKit
import Derived.Maps.AppendAt
import Derived.Laws.OwnMore
set_option linter.unusedSimpArgs false
set_option linter.unusedVariables false
set_option linter.unusedSectionVars false
set_option maxRecDepth 100000
set_option maxHeartbeats 4000000
section
namespace Go.Vc
abbrev KV := Value → World → Prop
/-! ### operations with their operands' values -/
inductive VOp where
  | load (t : TypeId) (a : Value)
  | store (t : TypeId) (a v : Value)
  | alloc (t : TypeId)
  | box (t : TypeId) (v : Value)
  | build (t : TypeId) (ps : List (Nat × Value))
  | buildSlice (t : TypeId) (n : Nat) (ps : List (Nat × Value))
  | nilCheck (v : Value)
  | bin (op : BinOp) (t : TypeId) (xc yc : Bool) (x y : Value)
  | un (op : UnOp) (v : Value)
  | conv (s d : TypeId) (v : Value)
  | mkIface (t : TypeId) (v : Value)
  | mkFunc (fn : Fn) (first cap : List Value)
  | mkMap (t : TypeId) (r : Option Value)
  | mkSlice (t : TypeId) (l c : Value)
  | slice (t : TypeId) (x : Value) (lo hi mx : Option Value)
  | fieldAddr (t : TypeId) (x : Value) (f : Nat)
  | field (t : TypeId) (x : Value) (f : Nat)
  | indexAddr (t : TypeId) (x i : Value)
  | index (t : TypeId) (x i : Value)
  | lookup (t : TypeId) (x i : Value) (ok : Bool)
  | mapUpdate (t : TypeId) (m k v : Value)
  | range (t : TypeId) (x : Value)
  | next (it : Value) (isStr : Bool) (ty : TypeId)
  | entry (it : Value)
  | tassert (x : Value) (xt at' : TypeId) (ok : Bool)
  | extract (x : Value) (i : Nat)
  | blt (b : Builtin) (argTypes : List TypeId) (ty : TypeId) (args : List Value)
  | panic (x : Value)
def nilMeth (v : Value) : Sem Value := do
  match ← execOp (fun _ => v) { (default : Oper) with op := .nilCheck (.tmp 0) } with
  | .value u => pure u
  | _ => stuck ""
def nilSem : Value → Sem Value
  | .pointer none | .nilIface | .nilFunc => runtimePanic .nilDeref
  | .func (.method n) f c => nilMeth (.func (.method n) f c)
  | x => pure x
def opd (c : Bool) : Operand := if c then .const undef else .tmp 0
def bltSem (b : Builtin) (argTypes : Array TypeId) (ty : TypeId) (args : Array Value) : Sem Value :=
  match b with
  | .append => Builtin.append_ argTypes ty args
  | .cap => Builtin.cap_ argTypes ty args
  | .clear => Builtin.clear_ argTypes ty args
  | .copy => Builtin.copy_ argTypes ty args
  | .delete => Builtin.delete_ argTypes ty args
  | .len => Builtin.len_ argTypes ty args
  | .max => Builtin.max_ argTypes ty args
  | .min => Builtin.min_ argTypes ty args
  | _ => stuck ""
def VOp.sem : VOp → Sem Value
  | .load t a => Instr.loadAt t a
  | .store t a v => do Instr.storeAt t a v; pure undef
  | .alloc t => Instr.alloc t true (.tuple #[])
  | .box t v => Instr.box t v
  | .build t ps => Instr.build t ps.toArray
  | .buildSlice t n ps => Instr.buildSlice t n ps.toArray
  | .nilCheck v => nilSem v
  | .bin op t xc yc x y => do eqGuard op t (opd xc) (opd yc) x y; binOp op t x y
  | .un op v => Op.unary op v
  | .conv s d v => convert s d v
  | .mkIface t v => Instr.makeInterface t v
  | .mkFunc fn first cap => Instr.makeFunc fn first.toArray cap.toArray
  | .mkMap t r => Instr.makeMap t r
  | .mkSlice t l c => Instr.makeSlice t l c
  | .slice t x lo hi mx => Instr.sliceAt t x lo hi mx
  | .fieldAddr t x f => Instr.fieldAt t x f
  | .field t x f => Instr.field t x f
  | .indexAddr t x i => Instr.indexAt t x i
  | .index t x i => Instr.index t x i
  | .lookup t x i ok => Instr.lookup t x i ok
  | .mapUpdate t m k v => do Instr.mapUpdate t m k v; pure undef
  | .range t x => Instr.range t x
  | .next it isStr ty => Instr.next it isStr ty
  | .entry it => Instr.entry it
  | .tassert x xt at' ok => Instr.typeAssert x xt at' ok
  | .extract x i => Instr.extract x i
  | .blt b argTypes ty args => bltSem b argTypes.toArray ty args.toArray
  | .panic x => Instr.panic x
inductive VCallee where
  | fn (f : FuncId)
  | val (v : Value)
  | inv (recv : Value) (name : String)
def VCallee.deferred (c : VCallee) (args : Array Value) : Sem Deferred :=
  match c with
  | .fn f => Deferred.ofValue (.func (.func f) #[] #[]) args
  | .val v => Deferred.ofValue v args
  | .inv r name => pure { target := .fn (.method name) #[], args := #[r] ++ args }
def isConst : Operand → Bool
  | .const _ => true
  | _ => false
def toV (ρ : Operand → Value) (ty : TypeId) : Op → Option VOp
  | .load t a => some (.load t (ρ a))
  | .store t a v => some (.store t (ρ a) (ρ v))
  | .alloc t => some (.alloc t)
  | .box t v => some (.box t (ρ v))
  | .build t ps => some (.build t (ps.toList.map fun p => (p.1, ρ p.2)))
  | .buildSlice t n ps => some (.buildSlice t n (ps.toList.map fun p => (p.1, ρ p.2)))
  | .nilCheck v => some (.nilCheck (ρ v))
  | .binOp op t x y _ => some (.bin op t (isConst x) (isConst y) (ρ x) (ρ y))
  | .unOp op _ v => some (.un op (ρ v))
  | .convert s d v => some (.conv s d (ρ v))
  | .makeInterface t v => some (.mkIface t (ρ v))
  | .makeFunc fn first cap => some (.mkFunc fn (first.toList.map ρ) (cap.toList.map ρ))
  | .makeMap t r => some (.mkMap t (r.map ρ))
  | .makeSlice t l c => some (.mkSlice t (ρ l) (ρ c))
  | .slice t x lo hi mx => some (.slice t (ρ x) (lo.map ρ) (hi.map ρ) (mx.map ρ))
  | .fieldAddr t x f => some (.fieldAddr t (ρ x) f)
  | .field t x f => some (.field t (ρ x) f)
  | .indexAddr t x i => some (.indexAddr t (ρ x) (ρ i))
  | .index t x i => some (.index t (ρ x) (ρ i))
  | .lookup t x i ok => some (.lookup t (ρ x) (ρ i) ok)
  | .mapUpdate t m k v => some (.mapUpdate t (ρ m) (ρ k) (ρ v))
  | .insert t m k v => some (.mapUpdate t (ρ m) (ρ k) (ρ v))
  | .range t x => some (.range t (ρ x))
  | .next it s => some (.next (ρ it) s ty)
  | .entry it => some (.entry (ρ it))
  | .typeAssert x xt at' ok => some (.tassert (ρ x) xt at' ok)
  | .extract x i => some (.extract (ρ x) i)
  | .call c => match c.callee with
    | .builtin b => some (.blt b c.argTypes.toList ty (c.args.toList.map ρ))
    | _ => none
  | .panic x => some (.panic (ρ x))
  | _ => none
def toC (ρ : Operand → Value) (c : Call) : Option (VCallee × List Value) :=
  match c.callee with
  | .value (.func f) => some (.fn f, c.args.toList.map ρ)
  | .value x => some (.val (ρ x), c.args.toList.map ρ)
  | .invoke r name => some (.inv (ρ r) name, c.args.toList.map ρ)
  | .builtin _ => none
/-! ### what an operation and a call are asked for -/
structure Sig where
  op : VOp → World → (Value → World → Prop) → (List PanicEntry → World → Prop) → Prop
  call : VCallee → List Value → World → (Value → World → Prop) → (List PanicEntry → World → Prop) → Prop
  pur : VOp → (Value → Prop) → Prop
  ld : VOp → World → (Value → Prop) → Prop
  same : VOp → Value → World → Prop
def outOf (P : Program) (s : Sem Value) (w : World) (K : Value → World → Prop) (Kp : List PanicEntry → World → Prop) : Prop :=
  match s.run P w with
  | .ok v w' => K v w'
  | .halt (.panic v) w' => Kp [{ v, recovered := false }] w'
  | _ => False
def ret (K : Value → World → Prop) (Kp : List PanicEntry → World → Prop) : Ending → World → Prop
  | .returned v, w => K v w
  | .panicked ch, w => Kp ch w
  | .outgrown, _ => False
def callOut (P : Program) (s : Sem Next) (w : World) (K : Value → World → Prop) (Kp : List PanicEntry → World → Prop) : Prop :=
  match s.run P w with
  | .ok (.value v) w' => K v w'
  | .ok (.enter f args) w' => Calls P f args w' (ret K Kp)
  | .halt (.panic v) w' => Kp [{ v, recovered := false }] w'
  | _ => False
structure Le (S : Sig) (P : Program) : Prop where
  op : ∀ {x w K Kp}, S.op x w K Kp → outOf P x.sem w K Kp
  call : ∀ {c args w K Kp}, S.call c args w K Kp → callOut P (c.deferred args.toArray >>= fun d => invoke d.target d.args) w K Kp
  pur : ∀ {x K}, S.pur x K → ∃ v, (∀ w, x.sem.run P w = .ok v w) ∧ K v
  ld : ∀ {x w K}, S.ld x w K → ∃ v, x.sem.run P w = .ok v w ∧ K v
  same : ∀ {x v w}, S.same x v w → x.sem.run P w = .ok v w
/-! ### the frame as a function -/
abbrev Env := Nat → Value
abbrev Known := Nat → Option (Option Bool)
def put (e : Env) : Option Nat → Value → Env
  | none, _ => e
  | some d, v => fun t => bif Nat.beq t d then v else e t
def putK (k : Known) : Option Nat → Option (Option Bool) → Known
  | none, _ => k
  | some d, v => fun t => bif Nat.beq t d then v else k t
def evalE (e : Env) : Operand → Value
  | .tmp t => e t
  | .const v => v
  | .global g => .pointer (some ⟨g, 0, none⟩)
  | .func f => .func (.func f) #[] #[]
def kn (k : Known) : Operand → Option (Option Bool)
  | .tmp t => k t
  | .const (.bool b) => some (some b)
  | _ => none
def nth {α : Type} : List α → Nat → Option α
  | [], _ => none
  | x :: _, 0 => some x
  | _ :: l, n + 1 => nth l n
abbrev KE := Env → Known → World → Prop
abbrev KP := List PanicEntry → World → Prop
def opVC (S : Sig) (o : Oper) (e : Env) (k : Known) (w : World) (K : KE) (Kp : KP) : Prop :=
  match o.op with
  | .move x => K (put e o.dst (evalE e x)) (putK k o.dst (kn k x)) w
  | .assign x => K (put e o.dst (evalE e x)) (putK k o.dst (kn k x)) w
  | .pick c x y => match kn k c with
    | some (some true) => K (put e o.dst (evalE e x)) (putK k o.dst (kn k x)) w
    | some (some false) => K (put e o.dst (evalE e y)) (putK k o.dst (kn k y)) w
    | _ => ∃ t, evalE e c = .bool t ∧ (t = true → K (put e o.dst (evalE e x)) (putK k o.dst (kn k x)) w) ∧ (t = false → K (put e o.dst (evalE e y)) (putK k o.dst (kn k y)) w)
  | op => match toV (evalE e) o.type op with
    | some x => S.op x w (fun v w' => K (put e o.dst v) (putK k o.dst none) w') Kp
    | none => match op with
      | .call c => match toC (evalE e) c with
        | some (f, args) => S.call f args w (fun v w' => K (put e o.dst v) (putK k o.dst none) w') Kp
        | none => False
      | _ => False
def opsVC (S : Sig) (all : List Oper) : List Oper → Env → Known → World → KE → KP → Prop
  | [], e, k, w, K, _ => K e k w
  | o :: rest, e, k, w, K, Kp => match o.guard with
    | none => opVC S o e k w (fun e k w => opsVC S all rest e k w K Kp) Kp
    | some (g, want) => match (nth all g).bind (·.dst) with
      | none => False
      | some s => match k s with
        | some (some b) => match b, want with
          | true, true | false, false => opVC S o e k w (fun e k w => opsVC S all rest e k w K Kp) Kp
          | _, _ => opsVC S all rest (put e o.dst undef) (putK k o.dst (some none)) w K Kp
        | some none => opsVC S all rest (put e o.dst undef) (putK k o.dst (some none)) w K Kp
        | none => ∃ b, e s = .bool b ∧
          (b = true → match want with
            | true => opVC S o (put e (some s) (.bool true)) (putK k (some s) (some (some true))) w (fun e k w => opsVC S all rest e k w K Kp) Kp
            | false => opsVC S all rest (put (put e (some s) (.bool true)) o.dst undef) (putK (putK k (some s) (some (some true))) o.dst (some none)) w K Kp) ∧
          (b = false → match want with
            | false => opVC S o (put e (some s) (.bool false)) (putK k (some s) (some (some false))) w (fun e k w => opsVC S all rest e k w K Kp) Kp
            | true => opsVC S all rest (put (put e (some s) (.bool false)) o.dst undef) (putK (putK k (some s) (some (some false))) o.dst (some none)) w K Kp)
/-! ### a region that draws its order -/
def zeroField (t f : Nat) : Bool := (Nat.beq t 294 && Nat.beq f 1) || (Nat.beq t 318 && Nat.beq f 1)
def isLoad : Op → Bool
  | .load .. | .lookup .. => true
  | .fieldAddr t _ f => zeroField t f
  | .call { callee := .builtin .len, .. } => true
  | _ => false
def isPure : Op → Bool
  | .nilCheck _ | .fieldAddr .. | .field .. | .indexAddr .. | .index .. | .binOp .. | .unOp .. | .convert .. | .makeInterface .. | .extract .. | .slice ..
  | .typeAssert .. | .makeFunc .. | .build .. => true
  | .call { callee := .builtin .cap, .. } => true
  | _ => false
def isMove : Op → Bool
  | .move _ => true
  | _ => false
def isPick : Op → Bool
  | .pick .. => true
  | _ => false
def isFloat (o : Op) : Bool := isMove o || isLoad o || isPure o || isPick o
def memN (x : Nat) : List Nat → Bool
  | [] => false
  | y :: l => bif Nat.beq x y then true else memN x l
def rdy (o : Oper) (listed : List Nat) : Bool := o.after.toList.all fun e => !Region.binds .any e || memN e.on listed
def gslot (all : List Oper) (o : Oper) : Option Nat :=
  match o.guard with
  | none => none
  | some (g, _) => (nth all g).bind (·.dst)
def left (all : List Oper) (k : Known) (o : Oper) : Option Bool :=
  match o.guard with
  | none => some false
  | some (_, want) => match gslot all o with
    | none => some true
    | some s => match k s with
      | none => none
      | some none => some true
      | some (some b) => some (bif want then !b else b)
def firstG (all : List Oper) (k : Known) (listed : List Nat) : Nat → List Oper → Option Nat
  | _, [] => none
  | i, o :: l => bif !memN i listed && rdy o listed && (left all k o).isNone then gslot all o else firstG all k listed (i + 1) l
def firstFl (all : List Oper) (k : Known) (listed : List Nat) : Nat → List Oper → Option (Nat × Oper)
  | _, [] => none
  | i, o :: l => bif (isFloat o.op || (left all k o == some true)) && !memN i listed && rdy o listed then some (i, o) else firstFl all k listed (i + 1) l
def rdyAll (listed : List Nat) : Nat → List Oper → List (Nat × Oper)
  | _, [] => []
  | i, o :: l => bif !memN i listed && rdy o listed then (i, o) :: rdyAll listed (i + 1) l else rdyAll listed (i + 1) l
def floatVC (S : Sig) (i : Nat) (o : Oper) (e : Env) (k : Known) (w : World) (outs : List (Nat × VOp × Value)) (K : Value → Option (Option Bool) → List (Nat × VOp × Value) → Prop) : Prop :=
  match o.op with
  | .move x => K (evalE e x) (kn k x) outs
  | .pick c x y => match kn k c with
    | some (some true) => K (evalE e x) (kn k x) outs
    | some (some false) => K (evalE e y) (kn k y) outs
    | _ => False
  | op => match toV (evalE e) o.type op with
    | none => False
    | some x => bif isLoad op then S.ld x w (fun v => K v none ((i, x, v) :: outs)) else S.pur x (fun v => K v none outs)
def sames (S : Sig) (anc : List Nat) (w : World) : List (Nat × VOp × Value) → Prop → Prop
  | [], K => K
  | (j, x, v) :: l, K => bif memN j anc then sames S anc w l K else S.same x v w ∧ sames S anc w l K
def keepOuts (anc : List Nat) : List (Nat × VOp × Value) → List (Nat × VOp × Value)
  | [] => []
  | x :: l => bif memN x.1 anc then keepOuts anc l else x :: keepOuts anc l
def anchorVC (S : Sig) (o : Oper) (e : Env) (k : Known) (w : World) (K : Env → Known → World → Prop) (Kp : KP) : Prop :=
  match o.op with
  | .assign x => K (put e o.dst (evalE e x)) (putK k o.dst none) w
  | op => match toV (evalE e) o.type op with
    | some x => S.op x w (fun v w' => K (put e o.dst v) (putK k o.dst none) w') Kp
    | none => match op with
      | .call c => match toC (evalE e) c with
        | some (f, args) => S.call f args w (fun v w' => K (put e o.dst v) (putK k o.dst none) w') Kp
        | none => False
      | _ => False
def allR (f : Nat × Oper → Prop) : List (Nat × Oper) → Prop
  | [] => False
  | [x] => f x
  | x :: y :: l => f x ∧ allR f (y :: l)
def drawVC (S : Sig) (all : List Oper) (tab : List (List Nat)) : Nat → List Nat → List (Nat × VOp × Value) → Env → Known → World → KE → KP → Prop
  | 0, _, _, _, _, _, _, _ => False
  | n + 1, listed, outs, e, k, w, K, Kp =>
    bif (List.range all.length).all (memN · listed) then K e k w else
    match firstG all k listed 0 all with
    | some s => ∃ b, e s = .bool b ∧ (b = true → drawVC S all tab n listed outs e (putK k (some s) (some (some true))) w K Kp) ∧
        (b = false → drawVC S all tab n listed outs e (putK k (some s) (some (some false))) w K Kp)
    | none => match firstFl all k listed 0 all with
      | some (i, o) => bif (left all k o == some true) then drawVC S all tab n (i :: listed) outs (put e o.dst undef) (putK k o.dst (some none)) w K Kp
        else floatVC S i o e k w outs fun v q outs => drawVC S all tab n (i :: listed) outs (put e o.dst v) (putK k o.dst q) w K Kp
      | none => allR (fun p => anchorVC S p.2 e k w (fun e k w => sames S ((nth tab p.1).getD []) w outs (drawVC S all tab n (p.1 :: listed) (keepOuts ((nth tab p.1).getD []) outs) e k w K Kp)) Kp) (rdyAll listed 0 all)
def uni : List Nat → List Nat → List Nat
  | [], l => l
  | x :: xs, l => bif memN x l then uni xs l else uni xs (x :: l)
def mkTab : List Oper → List (List Nat) → List (List Nat)
  | [], acc => acc
  | o :: l, acc => mkTab l (acc ++ [o.after.toList.foldl (fun s e => bif Region.binds .any e then uni (e.on :: (nth acc e.on).getD []) s else s) []])
def reads (all : List Oper) (o : Oper) : List Nat := (gslot all o).toList ++ o.op.operands.toList.filterMap fun | .tmp t => some t | _ => none
def names (all : List Oper) (o : Oper) : List Nat := o.dst.toList ++ reads all o
def allIx {α : Type} (f : Nat → α → Bool) : Nat → List α → Bool
  | _, [] => true
  | i, x :: l => f i x && allIx f (i + 1) l
def floatOk (all : List Oper) (tab : List (List Nat)) (i : Nat) (o : Oper) (d : Nat) : Bool :=
  !memN d (reads all o) && allIx (fun m om => Nat.beq m i ||
    ((bif memN d (names all om) then memN i ((nth tab m).getD []) else true) &&
     (match om.dst with
      | none => true
      | some dm => bif memN dm (reads all o) then memN m ((nth tab i).getD []) || memN i ((nth tab m).getD []) else true))) 0 all
def drawOk (all : List Oper) (tab : List (List Nat)) : Bool :=
  allIx (fun i o =>
    (match o.op with | .select .. => false | _ => true) &&
    (o.after.toList.all fun e => !Region.binds .any e || Nat.blt e.on i) &&
    (((nth tab i).getD []).all fun j => o.after.toList.any fun e => Region.binds .any e && (Nat.beq e.on j || memN j ((nth tab e.on).getD []))) &&
    (bif isFloat o.op || o.guard.isSome then (match o.dst with | none => false | some d => floatOk all tab i o d) else true)) 0 all
/-! ### code -/
def dsts : List Oper → List Nat
  | [] => []
  | o :: l => match o.dst with | some d => d :: dsts l | none => dsts l
def writes : Code → List Nat
  | .region _ ops _ => dsts ops.toList
  | .seq a b => writes a ++ writes b
  | .cond _ a b => writes a ++ writes b
  | .block _ c => writes c
  | .loop c => writes c
  | _ => []
def firstRegion : Code → Option Nat
  | .region id _ _ => some id
  | .seq a b => match firstRegion a with | some i => some i | none => firstRegion b
  | .cond _ a b => match firstRegion a with | some i => some i | none => firstRegion b
  | .block _ c => firstRegion c
  | .loop c => firstRegion c
  | _ => none
def lk (n : Nat) : List (Nat × List Nat) → Option (List Nat)
  | [] => none
  | x :: l => bif Nat.beq n x.1 then some x.2 else lk n l
def Cur : Nat → Type
  | 0 => World → Prop
  | n + 1 => Value → Cur n
def CurN : Nat → Type
  | 0 => World → Nat
  | n + 1 => Value → CurN n
def Cur.app : (n : Nat) → Cur n → List Value → World → Prop
  | 0, I, _, w => I w
  | n + 1, I, x :: xs, w => Cur.app n (I x) xs w
  | _ + 1, _, [], _ => False
def CurN.app : (n : Nat) → CurN n → List Value → World → Nat
  | 0, I, _, w => I w
  | n + 1, I, x :: xs, w => CurN.app n (I x) xs w
  | _ + 1, _, [], _ => 0
def allV : Nat → (List Value → Prop) → Prop
  | 0, f => f []
  | n + 1, f => ∀ x : Value, allV n fun xs => f (x :: xs)
def reenv (W : List Nat) (junk e : Env) : List Nat → List Value → Env
  | s :: L, x :: xs => fun t => bif Nat.beq t s then x else reenv W junk e L xs t
  | _, _ => fun t => bif memN t W then junk t else e t
def reknown (W : List Nat) (k : Known) : Known := fun t => bif memN t W then none else k t
abbrev QE := Exit → Env → Known → World → Prop
def thenQ (K : KE) (Q : QE) : QE := fun ex e k w => match ex with
  | .normal => K e k w
  | .exit id => Q (.exit id) e k w
  | .goto l => Q (.goto l) e k w
  | .ret => Q .ret e k w
  | .panic ch => Q (.panic ch) e k w
  | .outgrown => Q .outgrown e k w
def blockQ (id : Nat) (Q : QE) : QE := fun ex e k w => match ex with
  | .normal => Q .normal e k w
  | .exit id' => bif Nat.beq id' id then Q .normal e k w else Q (.exit id') e k w
  | .goto l => Q (.goto l) e k w
  | .ret => Q .ret e k w
  | .panic ch => Q (.panic ch) e k w
  | .outgrown => Q .outgrown e k w
def codeVC (S : Sig) (aL aJ : List (Nat × List Nat)) : Code → Env → Known → World → QE → KP → Prop
  | .skip, e, k, w, Q, _ => Q .normal e k w
  | .region _ ops d, e, k, w, Q, Kp => bif d then
      (bif drawOk ops.toList (mkTab ops.toList []) then drawVC S ops.toList (mkTab ops.toList []) (2 * ops.toList.length + 2) [] [] e k { w with drawn := w.drawn + 1 } (Q .normal) Kp else False)
    else opsVC S ops.toList ops.toList e k w (Q .normal) Kp
  | .seq a b, e, k, w, Q, Kp =>
    (match (firstRegion b).bind (lk · aJ) with
    | none => codeVC S aL aJ a e k w (thenQ (fun e k w => codeVC S aL aJ b e k w Q Kp) Q) Kp
    | some L => ∃ J : Cur L.length,
        codeVC S aL aJ a e k w (thenQ (fun e _ w => J.app L.length (L.map e) w) Q) Kp ∧
        (∀ (w' : World) (junk : Nat → Value), allV L.length fun xs => J.app L.length xs w' →
          codeVC S aL aJ b (reenv (writes a) junk e L xs) (reknown (L ++ writes a) k) w' Q Kp))
  | .cond c a b, e, k, w, Q, Kp => (match kn k c with
    | some (some true) => codeVC S aL aJ a e k w Q Kp
    | some (some false) => codeVC S aL aJ b e k w Q Kp
    | _ => ∃ t, evalE e c = .bool t ∧ (t = true → codeVC S aL aJ a e k w Q Kp) ∧ (t = false → codeVC S aL aJ b e k w Q Kp))
  | .block id c, e, k, w, Q, Kp => codeVC S aL aJ c e k w (blockQ id Q) Kp
  | .loop c, e, k, w, Q, Kp =>
    (match (firstRegion c).bind (lk · aL) with
    | none => False
    | some L => ∃ (I : Cur L.length) (μ : CurN L.length), I.app L.length (L.map e) w ∧
        ∀ (w' : World) (junk : Nat → Value), allV L.length fun xs => I.app L.length xs w' →
          codeVC S aL aJ c (reenv (writes c) junk e L xs) (reknown (L ++ writes c) k) w'
            (thenQ (fun e2 _ w2 => I.app L.length (L.map e2) w2 ∧ μ.app L.length (L.map e2) w2 < μ.app L.length xs w') Q) Kp)
  | .exit id, e, k, w, Q, _ => Q (.exit id) e k w
  | .ret, e, k, w, Q, _ => Q .ret e k w
  | _, _, _, _, _, _ => False
/-! ### a function -/
def resV (S : Sig) (r : ResultVar) (e : Env) (w : World) (K : Value → Prop) : Prop :=
  match r with
  | .tmp t => K (e t)
  | .cell a t => S.ld (.load t (e a)) w K
def resVC (S : Sig) (rs : List ResultVar) (e : Env) (w : World) (R : Value → World → Prop) : Prop :=
  match rs with
  | [] => R (.tuple #[]) w
  | [r] => resV S r e w fun v => R v w
  | [r, s] => resV S r e w fun v => resV S s e w fun u => R (.tuple #[v, u]) w
  | [r, s, t] => resV S r e w fun v => resV S s e w fun u => resV S t e w fun x => R (.tuple #[v, u, x]) w
  | [r, s, t, q] => resV S r e w fun v => resV S s e w fun u => resV S t e w fun x => resV S q e w fun y => R (.tuple #[v, u, x, y]) w
  | [r, s, t, q, p] => resV S r e w fun v => resV S s e w fun u => resV S t e w fun x => resV S q e w fun y => resV S p e w fun z => R (.tuple #[v, u, x, y, z]) w
  | _ => False
def nthD : List Value → Nat → Value
  | [], _ => undef
  | x :: _, 0 => x
  | _ :: l, n + 1 => nthD l n
def fVC (S : Sig) (aL aJ : List (Nat × List Nat)) (fn : Func) (args : List Value) (w : World) (K : Value → World → Prop) (Kp : KP) : Prop :=
  match fn.body with
  | none => False
  | some c => codeVC S aL aJ c (nthD args) (fun _ => none) w (fun ex e _ w => match ex with
    | .normal => resVC S fn.results.toList e w K
    | .ret => resVC S fn.results.toList e w K
    | _ => False) Kp
def fits (n : Nat) : Code → Bool
  | .region _ ops _ => (dsts ops.toList).all fun d => Nat.blt d n
  | .seq a b => fits n a && fits n b
  | .cond _ a b => fits n a && fits n b
  | .block _ c => fits n c
  | .loop c => fits n c
  | _ => true
def fitsF (fn : Func) : Bool := match fn.body with | some c => fits fn.ntmps c | none => false
end Go.Vc
end
section
namespace Go.Vc
variable {P : Program}
theorem mapTA {α β : Type} (f : α → β) (c : Array α) : (c.toList.map f).toArray = c.map f := by
  rw [← Array.toList_map]
theorem up_val {o : Oper} {a : Act} {next : Act → World → Prop} {Q : Exit → Act → World → Prop} {K : Value → World → Prop} {Kp : KP} {w : World} (s : Sem Value)
    (h : outOf P s w K Kp) (hK : ∀ v w', K v w' → next (a.put o.dst v) w') (hp : ∀ ch w', Kp ch w' → Q (.panic ch) a w') :
    o.upon P a next Q ((do pure (Next.value (← s)) : Sem Next).run P w) := by
  unfold outOf at h
  simp only [Sem.run_bind]
  cases hr : s.run P w with
  | ok v w' => rw [hr] at h; simpa [Oper.upon] using hK _ _ h
  | halt x w' => rw [hr] at h; cases x <;> simp_all [Oper.upon, Result.andThen]
theorem up_skip {o : Oper} {a : Act} {next : Act → World → Prop} {Q : Exit → Act → World → Prop} {K : Value → World → Prop} {Kp : KP} {w : World} (s : Sem Unit)
    (h : outOf P (do s; pure undef) w K Kp) (hK : ∀ v w', K v w' → next (a.put o.dst v) w') (hp : ∀ ch w', Kp ch w' → Q (.panic ch) a w') :
    o.upon P a next Q ((do s; pure Next.skip : Sem Next).run P w) := by
  unfold outOf at h
  simp only [Sem.run_bind] at h ⊢
  cases hr : s.run P w with
  | ok v w' => rw [hr] at h; simpa [Oper.upon] using hK _ _ h
  | halt x w' => rw [hr] at h; cases x <;> simp_all [Oper.upon, Result.andThen]
theorem up_call {o : Oper} {a : Act} {next : Act → World → Prop} {Q : Exit → Act → World → Prop} {K : Value → World → Prop} {Kp : KP} {w : World} (s : Sem Next)
    (h : callOut P s w K Kp) (hK : ∀ v w', K v w' → next (a.put o.dst v) w') (hp : ∀ ch w', Kp ch w' → Q (.panic ch) a w') :
    o.upon P a next Q (s.run P w) := by
  unfold callOut at h
  cases hr : s.run P w with
  | ok v w' =>
    rw [hr] at h
    cases v <;> simp_all [Oper.upon]
    exact h.mono fun e w'' he => by
      cases e with
      | returned v => exact hK _ _ he
      | panicked ch => exact hp _ _ he
      | outgrown => exact he.elim
  | halt x w' => rw [hr] at h; cases x <;> simp_all [Oper.upon]
theorem nilMeth_run {n : String} {f c : Array Value} {o : Oper} {ρ : Operand → Value} {y : Operand} (ho : o.op = .nilCheck y) (hy : ρ y = .func (.method n) f c) (w : World) :
    (execOp ρ o).run P w = (do pure (Next.value (← nilMeth (.func (.method n) f c))) : Sem Next).run P w := by
  unfold nilMeth execOp
  rw [ho]
  dsimp only
  rw [hy]
  dsimp only
  cases f[0]? with
  | none => simp
  | some u =>
    cases u with
    | nilIface => simp [runtimePanic]
    | iface t v =>
      dsimp only
      simp only [Sem.run_bind]
      cases (program.run P w) with
      | halt x w' => rfl
      | ok p w' =>
        simp only [Result.andThen_ok]
        cases ((nilAhead (p.types.size + Made.depth) t v n).run P w') with
        | halt x w'' => rfl
        | ok b w'' =>
          simp only [Result.andThen_ok]
          split <;> simp
    | _ => simp
theorem eqGuard_opd (op : BinOp) (t : TypeId) (x y : Operand) (a b : Value) : eqGuard op t x y a b = eqGuard op t (opd (isConst x)) (opd (isConst y)) a b := by
  cases x <;> cases y <;> rfl
theorem opV_sound {o : Oper} {a : Act} {next : Act → World → Prop} {Q : Exit → Act → World → Prop} {K : Value → World → Prop} {Kp : KP} {w : World} {x : VOp} {ρ : Operand → Value}
    (hρ : execOp a.eval o = execOp ρ o) (hx : toV ρ o.type o.op = some x) (h : outOf P x.sem w K Kp) (hK : ∀ v w', K v w' → next (a.put o.dst v) w') (hp : ∀ ch w', Kp ch w' → Q (.panic ch) a w') :
    o.wp P a w next Q := by
  unfold Oper.wp
  rw [hρ]
  clear hρ
  unfold execOp
  obtain ⟨dst, op, ty, pos, after, guard⟩ := o
  cases op with
  | nilCheck v =>
    simp only [toV, Option.some.injEq] at hx
    subst hx
    have key : ∀ y : Value, outOf P (nilSem y) w K Kp →
      Oper.upon P { dst := dst, op := .nilCheck v, type := ty, pos := pos, after := after, guard := guard } a next Q ((do pure (Next.value (← nilSem y)) : Sem Next).run P w) := fun y hy => up_val _ hy hK hp
    have := key _ h
    have hm : ∀ n f c, ρ v = .func (.method n) f c → (execOp ρ { dst := dst, op := .nilCheck v, type := ty, pos := pos, after := after, guard := guard }).run P w = (do pure (Next.value (← nilMeth (.func (.method n) f c))) : Sem Next).run P w := fun n f c hy => nilMeth_run rfl hy w
    unfold execOp at hm
    dsimp only at hm ⊢
    generalize ρ v = y at *
    cases y with
    | pointer p => cases p <;> exact this
    | func fn f c =>
      cases fn with
      | method n => rw [hm n f c rfl]; exact this
      | _ => exact this
    | _ => exact this
  | call c =>
    simp only [toV] at hx
    cases hc : c.callee with
    | builtin b =>
      rw [hc] at hx
      simp only [Option.some.injEq] at hx
      subst hx
      simp only [resolve, hc, invoke]
      simp only [VOp.sem] at h
      have e1 : (c.args.toList.map ρ).toArray = c.args.map ρ := mapTA _ _
      have e2 : c.argTypes.toList.toArray = c.argTypes := by simp
      rw [e1, e2] at h
      have h' := up_val (P := P) (o := { dst := dst, op := .call c, type := ty, pos := pos, after := after, guard := guard }) (a := a) (next := next) (Q := Q) _ h hK hp
      cases b <;> first | exact h' | (exfalso; simp [outOf, bltSem, stuck] at h)
    | value f => rw [hc] at hx; simp at hx
    | invoke r n => rw [hc] at hx; simp at hx
  | binOp op t x y yt =>
    simp only [toV, Option.some.injEq] at hx
    subst hx
    simp only [VOp.sem] at h
    rw [← eqGuard_opd] at h
    exact up_val _ h hK hp
  | build t ps =>
    simp only [toV, Option.some.injEq] at hx
    subst hx
    refine up_val _ ?_ hK hp
    have : (ps.toList.map fun p => (p.1, ρ p.2)).toArray = ps.map fun (i, x) => (i, ρ x) := mapTA _ _
    rw [← this]; exact h
  | buildSlice t n ps =>
    simp only [toV, Option.some.injEq] at hx
    subst hx
    refine up_val _ ?_ hK hp
    have : (ps.toList.map fun p => (p.1, ρ p.2)).toArray = ps.map fun (i, x) => (i, ρ x) := mapTA _ _
    rw [← this]; exact h
  | makeFunc fn first cap =>
    simp only [toV, Option.some.injEq] at hx
    subst hx
    refine up_val _ ?_ hK hp
    have e1 : (first.toList.map ρ).toArray = first.map ρ := mapTA _ _
    have e2 : (cap.toList.map ρ).toArray = cap.map ρ := mapTA _ _
    rw [← e1, ← e2]; exact h
  | _ =>
    first
    | (simp only [toV, Option.some.injEq] at hx; subst hx; first | exact up_val _ h hK hp | exact up_skip _ h hK hp)
    | (simp [toV] at hx)
theorem callV_sound {o : Oper} {a : Act} {next : Act → World → Prop} {Q : Exit → Act → World → Prop} {K : Value → World → Prop} {Kp : KP} {w : World} {ρ : Operand → Value} {c : Call}
    {f : VCallee} {args : List Value} (hρ : execOp a.eval o = execOp ρ o) (ho : o.op = .call c) (hx : toC ρ c = some (f, args)) (h : callOut P (f.deferred args.toArray >>= fun d => invoke d.target d.args) w K Kp)
    (hK : ∀ v w', K v w' → next (a.put o.dst v) w') (hp : ∀ ch w', Kp ch w' → Q (.panic ch) a w')
    (hf : ∀ f, ρ (.func f) = .func (.func f) #[] #[]) :
    o.wp P a w next Q := by
  unfold Oper.wp
  rw [hρ]
  unfold execOp
  rw [ho]
  refine up_call _ ?_ hK hp
  unfold toC at hx
  have e1 : (c.args.toList.map ρ).toArray = c.args.map ρ := mapTA _ _
  have key : ∀ g, f = g → args = c.args.toList.map ρ → resolve ρ c o.type = g.deferred (c.args.map ρ) → callOut P (do let d ← resolve ρ c o.type; invoke d.target d.args) w K Kp := by
    rintro g rfl rfl hg
    rw [hg, ← e1]; exact h
  split at hx
  · rename_i f' hc
    simp only [Option.some.injEq, Prod.mk.injEq] at hx
    refine key _ hx.1.symm hx.2.symm ?_
    simp only [resolve, hc, VCallee.deferred]
    rw [hf]
  · rename_i x _ hc
    simp only [Option.some.injEq, Prod.mk.injEq] at hx
    refine key _ hx.1.symm hx.2.symm ?_
    simp only [resolve, hc, VCallee.deferred]
  · rename_i r n hc
    simp only [Option.some.injEq, Prod.mk.injEq] at hx
    refine key _ hx.1.symm hx.2.symm ?_
    simp only [resolve, hc, VCallee.deferred]
  · cases hx
/-! ### frames -/
structure Agree (n : Nat) (e : Env) (k : Known) (a : Act) : Prop where
  size : n ≤ a.tmps.size
  env : ∀ t, a.tmps.getD t undef = e t
  kn1 : ∀ t b, k t = some (some b) → e t = .bool b
  kn0 : ∀ t, k t = some none → e t = undef
  defers : a.defers = []
theorem Agree.eval {n : Nat} {e : Env} {k : Known} {a : Act} (h : Agree n e k a) : a.eval = evalE e := by
  funext x
  cases x <;> simp only [Act.eval, evalE]
  exact h.env _
theorem beq_t {t d : Nat} : Nat.beq t d = decide (t = d) := by
  rw [Bool.eq_iff_iff]; simp
theorem Agree.put {n : Nat} {e : Env} {k : Known} {a : Act} (h : Agree n e k a) {d : Option Nat} (hd : ∀ x, d = some x → x < n) (v : Value) (q : Option (Option Bool))
    (hq1 : ∀ b, q = some (some b) → v = .bool b) (hq0 : q = some none → v = undef) : Agree n (Vc.put e d v) (putK k d q) (a.put d v) := by
  cases d with
  | none => exact h
  | some d =>
    have hd := hd d rfl
    have hs := h.size
    refine ⟨by simp [Act.put, h.size], fun t => ?_, fun t b => ?_, fun t => ?_, h.defers⟩
    · by_cases htd : t = d
      · subst htd
        have : t < a.tmps.size := by omega
        simp [Act.put, Vc.put, this]
      · have hb : Nat.beq t d = false := by rw [beq_t]; simpa using htd
        simp only [Vc.put, hb, cond_false, Act.put]
        rw [← h.env t]
        simp [Array.getElem?_setIfInBounds_ne (Ne.symm htd)]
    · by_cases htd : t = d
      · subst htd; simpa [putK, Vc.put] using hq1 b
      · have hb : Nat.beq t d = false := by rw [beq_t]; simpa using htd
        simpa [putK, Vc.put, hb] using h.kn1 t b
    · by_cases htd : t = d
      · subst htd; simpa [putK, Vc.put] using hq0
      · have hb : Nat.beq t d = false := by rw [beq_t]; simpa using htd
        simpa [putK, Vc.put, hb] using h.kn0 t
theorem kn_ok1 {n : Nat} {e : Env} {k : Known} {a : Act} (h : Agree n e k a) {x : Operand} {b : Bool} (hk : kn k x = some (some b)) : evalE e x = .bool b := by
  cases x with
  | tmp t => exact h.kn1 _ _ hk
  | const v => cases v <;> simp_all [kn, evalE]
  | _ => simp [kn] at hk
theorem kn_ok0 {n : Nat} {e : Env} {k : Known} {a : Act} (h : Agree n e k a) {x : Operand} (hk : kn k x = some none) : evalE e x = undef := by
  cases x with
  | tmp t => exact h.kn0 _ hk
  | const v => cases v <;> simp_all [kn]
  | _ => simp [kn] at hk
end Go.Vc
end
section
namespace Go.Vc
variable {P : Program} {S : Sig}
def Fr (W : List Nat) (e0 e : Env) : Prop := ∀ t, t ∉ W → e t = e0 t
theorem Fr.refl (W : List Nat) (e : Env) : Fr W e e := fun _ _ => rfl
theorem Fr.trans {W : List Nat} {a b c : Env} (h : Fr W a b) (h' : Fr W b c) : Fr W a c := fun t ht => (h' t ht).trans (h t ht)
theorem Fr.mono {W W' : List Nat} {a b : Env} (h : Fr W a b) (hs : ∀ t ∈ W, t ∈ W') : Fr W' a b := fun t ht => h t fun hm => ht (hs t hm)
theorem Fr.put {W : List Nat} {e0 e : Env} (h : Fr W e0 e) {d : Option Nat} (hd : ∀ x, d = some x → x ∈ W) (v : Value) : Fr W e0 (Vc.put e d v) := by
  intro t ht
  cases d with
  | none => exact h t ht
  | some d =>
    have htd : t ≠ d := fun he => ht (he ▸ hd d rfl)
    have hb : Nat.beq t d = false := by rw [beq_t]; simpa using htd
    simp only [Vc.put, hb, cond_false]
    exact h t ht
theorem opVC_sound {n : Nat} {o : Oper} {a : Act} {e : Env} {k : Known} {w : World} {K : KE} {Kp : KP} {next : Act → World → Prop} {Q : Exit → Act → World → Prop}
    (hS : Le S P) (ha : Agree n e k a) (hd : ∀ x, o.dst = some x → x < n) (h : opVC S o e k w K Kp)
    (hK : ∀ v q w' a', a' = a.put o.dst v → Agree n (put e o.dst v) (putK k o.dst q) a' → K (put e o.dst v) (putK k o.dst q) w' → next a' w')
    (hp : ∀ ch w', Kp ch w' → Q (.panic ch) a w') : o.wp P a w next Q := by
  have hev := ha.eval
  have hmv : ∀ x, (o.op = .move x ∨ o.op = .assign x) → K (put e o.dst (evalE e x)) (putK k o.dst (kn k x)) w → o.wp P a w next Q := by
    intro x ho hk
    have hn := hK (evalE e x) (kn k x) w _ rfl (ha.put hd _ _ (fun b hb => kn_ok1 ha hb) (fun hb => kn_ok0 ha hb)) hk
    unfold Oper.wp execOp
    rcases ho with ho | ho <;> rw [ho] <;> simpa [Oper.upon, hev] using hn
  have hpk : ∀ c x y (t : Bool), o.op = .pick c x y → evalE e c = .bool t →
      K (put e o.dst (evalE e (if t then x else y))) (putK k o.dst (kn k (if t then x else y))) w → o.wp P a w next Q := by
    intro c x y t ho hc hk
    have hn := hK _ _ w _ rfl (ha.put hd _ _ (fun b hb => kn_ok1 ha hb) (fun hb => kn_ok0 ha hb)) hk
    unfold Oper.wp execOp
    rw [ho]
    cases t <;> simpa [Oper.upon, hev, hc, asBool] using hn
  have hgen : (match toV (evalE e) o.type o.op with
      | some x => S.op x w (fun v w' => K (put e o.dst v) (putK k o.dst none) w') Kp
      | none => match o.op with
        | .call c => match toC (evalE e) c with
          | some (f, args) => S.call f args w (fun v w' => K (put e o.dst v) (putK k o.dst none) w') Kp
          | none => False
        | _ => False) → o.wp P a w next Q := by
    intro hg
    have hK' : ∀ v w', K (put e o.dst v) (putK k o.dst none) w' → next (a.put o.dst v) w' := fun v w' hk =>
      hK v none w' _ rfl (ha.put hd v none (fun _ hb => by cases hb) (fun hb => by cases hb)) hk
    split at hg
    · rename_i x hx
      exact opV_sound (by rw [hev]) hx (hS.op hg) hK' hp
    · split at hg
      · rename_i c ho
        split at hg
        · rename_i f args hc
          exact callV_sound (by rw [hev]) ho hc (hS.call hg) hK' hp (fun _ => rfl)
        · exact hg.elim
      · exact hg.elim
  unfold opVC at h
  split at h
  · rename_i x ho; exact hmv x (.inl ho) h
  · rename_i x ho; exact hmv x (.inr ho) h
  · rename_i c x y ho
    split at h
    · rename_i hk; exact hpk c x y true ho (kn_ok1 ha hk) h
    · rename_i hk; exact hpk c x y false ho (kn_ok1 ha hk) h
    · obtain ⟨t, hc, ht, hf⟩ := h
      cases t
      · exact hpk c x y false ho hc (hf rfl)
      · exact hpk c x y true ho hc (ht rfl)
  · exact hgen h
theorem nth_eq {α : Type} (l : List α) (i : Nat) : nth l i = l[i]? := by
  induction l generalizing i with
  | nil => simp [nth]
  | cons x l ih => cases i with
    | zero => simp [nth]
    | succ i => simpa [nth] using ih i
theorem yielded_of {n : Nat} {e : Env} {k : Known} {a : Act} {ops : Array Oper} {g s : Nat} (ha : Agree n e k a) (hs : (nth ops.toList g).bind (·.dst) = some s) :
    yielded ops a.tmps g = match e s with | .bool b => some b | _ => none := by
  have h1 : (ops[g]?).bind (·.dst) = some s := by rw [nth_eq] at hs; simpa using hs
  unfold yielded
  rw [h1]
  have := ha.env s
  simp only [Option.bind_some]
  rw [← this]
  cases hv : a.tmps[s]? with
  | none => simp [Array.getD_eq_getD_getElem?, hv, undef]
  | some v => simp only [Array.getD_eq_getD_getElem?, hv, Option.getD_some]; cases v <;> rfl
theorem mem_dsts {o : Oper} {l : List Oper} {d : Nat} (ho : o ∈ l) (hd : o.dst = some d) : d ∈ dsts l := by
  induction l with
  | nil => cases ho
  | cons x l ih =>
    unfold dsts
    cases ho with
    | head => rw [hd]; exact List.mem_cons_self
    | tail _ hm => cases x.dst with
      | none => exact ih hm
      | some y => exact List.mem_cons_of_mem _ (ih hm)
theorem Agree.know {n : Nat} {e : Env} {k : Known} {a : Act} (ha : Agree n e k a) {s : Nat} {b : Bool} (he : e s = .bool b) :
    Agree n (Vc.put e (some s) (.bool b)) (putK k (some s) (some (some b))) a := by
  refine ⟨ha.size, fun t => ?_, fun t c => ?_, fun t => ?_, ha.defers⟩
  · by_cases hts : t = s
    · subst hts; rw [ha.env, he]; simp [Vc.put]
    · have hb : Nat.beq t s = false := by rw [beq_t]; simpa using hts
      simp only [Vc.put, hb, cond_false]; exact ha.env t
  · by_cases hts : t = s
    · subst hts; simp only [Vc.put, putK]; rw [beq_t]; simp
    · have hb : Nat.beq t s = false := by rw [beq_t]; simpa using hts
      simpa [Vc.put, putK, hb] using ha.kn1 t c
  · by_cases hts : t = s
    · subst hts; simp only [Vc.put, putK]; rw [beq_t]; simp
    · have hb : Nat.beq t s = false := by rw [beq_t]; simpa using hts
      simpa [Vc.put, putK, hb] using ha.kn0 t
theorem put_same {e : Env} {s : Nat} {b : Bool} (he : e s = .bool b) : put e (some s) (.bool b) = e := by
  funext t
  by_cases hts : t = s
  · subst hts; simp [put, he]
  · have hb : Nat.beq t s = false := by rw [beq_t]; simpa using hts
    simp [put, hb]
theorem opsVC_sound {n : Nat} {ops : Array Oper} {Q : Exit → Act → World → Prop} {K : KE} {Kp : KP} {e0 : Env} (hS : Le S P)
    (hp : ∀ ch w' a, a.defers = [] → Kp ch w' → Q (.panic ch) a w')
    (hK : ∀ e k w a, Agree n e k a → Fr (dsts ops.toList) e0 e → K e k w → Q .normal a w) :
    ∀ (l : List Oper), (∀ o ∈ l, o ∈ ops.toList) → (∀ o ∈ l, ∀ x, o.dst = some x → x < n) → ∀ (a : Act) (e : Env) (k : Known) (w : World), Agree n e k a → Fr (dsts ops.toList) e0 e →
      opsVC S ops.toList l e k w K Kp → wpList P ops Q l a w := by
  intro l
  induction l with
  | nil => intro _ _ a e k w ha hf h; exact hK _ _ _ _ ha hf h
  | cons o rest ih =>
    intro hl hn a e k w ha hf h
    have ih' := ih (fun x hx => hl x (List.mem_cons_of_mem _ hx)) (fun x hx => hn x (List.mem_cons_of_mem _ hx))
    have hd := hn o List.mem_cons_self
    have hW : ∀ x, o.dst = some x → x ∈ dsts ops.toList := fun x hx => mem_dsts (hl o List.mem_cons_self) hx
    have run : ∀ (e : Env) (k : Known), Agree n e k a → Fr (dsts ops.toList) e0 e → Region.wanted o (yielded ops a.tmps) = true →
        opVC S o e k w (fun e k w => opsVC S ops.toList rest e k w K Kp) Kp → wpList P ops Q (o :: rest) a w := by
      intro e k ha hf hw h
      unfold wpList
      rw [if_pos hw]
      refine .inl (opVC_sound hS ha hd h (fun v q w' a' _ ha' hk => ?_) (fun ch w' h => hp ch w' a ha.defers h))
      exact ih' _ _ _ _ ha' (hf.put hW v) hk
    have skip : ∀ (e : Env) (k : Known), Agree n e k a → Fr (dsts ops.toList) e0 e → Region.wanted o (yielded ops a.tmps) = false →
        opsVC S ops.toList rest (put e o.dst undef) (putK k o.dst (some none)) w K Kp → wpList P ops Q (o :: rest) a w := by
      intro e k ha hf hw h
      unfold wpList
      rw [if_neg (by simp [hw])]
      exact ih' _ _ _ _ (ha.put hd undef (some none) (fun _ hb => by cases hb) (fun _ => rfl)) (hf.put hW undef) h
    unfold opsVC at h
    split at h
    · rename_i hg
      exact run e k ha hf (by simp [Region.wanted, hg]) h
    · rename_i g want hg
      have hwt : ∀ y, yielded ops a.tmps g = y → Region.wanted o (yielded ops a.tmps) = (y == some want) := fun y hy => by simp [Region.wanted, hg, hy]
      split at h
      · exact h.elim
      · rename_i s hs
        have hy := yielded_of ha hs
        split at h
        · rename_i b hk
          have he := ha.kn1 _ _ hk
          rw [he] at hy
          have hw := hwt _ hy
          cases b <;> cases want <;> simp only at h
          · exact run e k ha hf (by rw [hw]; rfl) h
          · exact skip e k ha hf (by rw [hw]; rfl) h
          · exact skip e k ha hf (by rw [hw]; rfl) h
          · exact run e k ha hf (by rw [hw]; rfl) h
        · rename_i hk
          have he := ha.kn0 _ hk
          rw [he] at hy
          exact skip e k ha hf (by rw [hwt _ hy]; rfl) h
        · obtain ⟨b, he, ht, hff⟩ := h
          rw [he] at hy
          have hw := hwt _ hy
          have ha2 := ha.know he
          have hf2 : Fr (dsts ops.toList) e0 (put e (some s) (.bool b)) := by rw [put_same he]; exact hf
          cases b
          · have h := hff rfl
            cases want <;> simp only at h
            · exact run _ _ ha2 hf2 (by rw [hw]; rfl) h
            · exact skip _ _ ha2 hf2 (by rw [hw]; rfl) h
          · have h := ht rfl
            cases want <;> simp only at h
            · exact skip _ _ ha2 hf2 (by rw [hw]; rfl) h
            · exact run _ _ ha2 hf2 (by rw [hw]; rfl) h
end Go.Vc
end
section
namespace Go.Vc
variable {P : Program}
theorem memN_eq {x : Nat} {l : List Nat} : memN x l = true ↔ x ∈ l := by
  induction l with
  | nil => simp [memN]
  | cons y l ih =>
    unfold memN
    rw [beq_t]
    by_cases h : x = y <;> simp [h, ih]
theorem memN_false {x : Nat} {l : List Nat} : memN x l = false ↔ x ∉ l := by
  rw [← memN_eq]; simp
theorem allIx_spec {α : Type} {f : Nat → α → Bool} : ∀ {i : Nat} {l : List α}, allIx f i l = true → ∀ j x, l[j]? = some x → f (i + j) x = true
  | _, [], _, j, x, h => by simp at h
  | i, y :: l, hf, j, x, h => by
    simp only [allIx, Bool.and_eq_true] at hf
    cases j with
    | zero => simp at h; subst h; exact hf.1
    | succ j =>
      have := allIx_spec hf.2 j x (by simpa using h)
      rwa [show i + (j + 1) = i + 1 + j from by omega]
theorem firstFl_spec {all : List Oper} {k : Known} {listed : List Nat} : ∀ {i : Nat} {l : List Oper} {p : Nat × Oper}, firstFl all k listed i l = some p →
    ∃ j, p.1 = i + j ∧ l[j]? = some p.2 ∧ (isFloat p.2.op = true ∨ left all k p.2 = some true) ∧ p.1 ∉ listed ∧ rdy p.2 listed = true
  | _, [], _, h => by simp [firstFl] at h
  | i, o :: l, p, h => by
    unfold firstFl at h
    cases hc : ((isFloat o.op || (left all k o == some true)) && !memN i listed && rdy o listed) with
    | true =>
      rw [hc] at h
      simp only [cond_true, Option.some.injEq] at h
      subst h
      simp only [Bool.and_eq_true, Bool.not_eq_true', memN_false, Bool.or_eq_true, beq_iff_eq] at hc
      exact ⟨0, by simp, by simp, hc.1.1, hc.1.2, hc.2⟩
    | false =>
      rw [hc] at h
      simp only [cond_false] at h
      obtain ⟨j, h1, h2, h3⟩ := firstFl_spec h
      exact ⟨j + 1, by omega, by simpa using h2, h3⟩
theorem firstFl_none {all : List Oper} {k : Known} {listed : List Nat} : ∀ {i : Nat} {l : List Oper}, firstFl all k listed i l = none → ∀ j o, l[j]? = some o → i + j ∉ listed → rdy o listed = true →
    isFloat o.op = false ∧ left all k o ≠ some true
  | _, [], _, j, o, h, _, _ => by simp at h
  | i, y :: l, hn, j, o, h, hm, hr => by
    unfold firstFl at hn
    cases hc : ((isFloat y.op || (left all k y == some true)) && !memN i listed && rdy y listed) with
    | true => rw [hc] at hn; simp at hn
    | false =>
      rw [hc] at hn
      cases j with
      | zero =>
        simp at h
        subst h
        have hm' : memN i listed = false := memN_false.2 (by simpa using hm)
        rw [hr, hm'] at hc
        simp at hc
        exact hc
      | succ j => exact firstFl_none hn j o (by simpa using h) (by rwa [show i + 1 + j = i + (j + 1) from by omega]) hr
theorem firstG_none {all : List Oper} {k : Known} {listed : List Nat} : ∀ {i : Nat} {l : List Oper}, firstG all k listed i l = none → ∀ j o, l[j]? = some o → i + j ∉ listed → rdy o listed = true → (left all k o).isNone = true → gslot all o = none
  | _, [], _, j, o, h, _, _, _ => by simp at h
  | i, y :: l, hn, j, o, h, hm, hr, hl => by
    unfold firstG at hn
    cases hc : (!memN i listed && rdy y listed && (left all k y).isNone) with
    | true =>
      rw [hc] at hn
      simp only [cond_true] at hn
      cases j with
      | zero => simp at h; subst h; exact hn
      | succ j =>
        exfalso
        simp only [Bool.and_eq_true] at hc
        unfold left at hc
        rw [hn] at hc
        cases hg : y.guard <;> rw [hg] at hc <;> simp at hc
    | false =>
      rw [hc] at hn
      cases j with
      | zero =>
        simp at h
        subst h
        have hm' : memN i listed = false := memN_false.2 (by simpa using hm)
        rw [hr, hm', hl] at hc
        cases hc
      | succ j => exact firstG_none hn j o (by simpa using h) (by rwa [show i + 1 + j = i + (j + 1) from by omega]) hr hl
theorem rdyAll_mem {listed : List Nat} : ∀ {i : Nat} {l : List Oper} (j : Nat) (o : Oper), l[j]? = some o → i + j ∉ listed → rdy o listed = true → (i + j, o) ∈ rdyAll listed i l
  | _, [], j, o, h, _, _ => by simp at h
  | i, y :: l, j, o, h, hm, hr => by
    unfold rdyAll
    cases j with
    | zero =>
      simp at h
      subst h
      have hm' : memN i listed = false := memN_false.2 (by simpa using hm)
      rw [hr, hm']
      simp
    | succ j =>
      have := rdyAll_mem (listed := listed) (i := i + 1) (l := l) j o (by simpa using h) (by rwa [show i + 1 + j = i + (j + 1) from by omega]) hr
      rw [show i + (j + 1) = i + 1 + j from by omega]
      cases (!memN i listed && rdy y listed) with
      | true => simp only [cond_true]; exact List.mem_cons_of_mem _ this
      | false => simpa using this
theorem allR_mem {f : Nat × Oper → Prop} : ∀ {l : List (Nat × Oper)}, allR f l → ∀ p ∈ l, f p
  | [], h, _, _ => h.elim
  | [x], h, p, hp => by simp at hp; subst hp; exact h
  | x :: y :: l, h, p, hp => by
    cases hp with
    | head => exact h.1
    | tail _ hm => exact allR_mem h.2 p hm
structure OkAt (all : List Oper) (tab : List (List Nat)) (i : Nat) (o : Oper) : Prop where
  sel : ∀ cs b, o.op ≠ .select cs b
  back : ∀ e ∈ o.after, Region.binds .any e = true → e.on < i
  anc : ∀ j ∈ (nth tab i).getD [], ∃ e ∈ o.after, Region.binds .any e = true ∧ (e.on = j ∨ j ∈ (nth tab e.on).getD [])
  flt : (isFloat o.op = true ∨ o.guard ≠ none) → ∃ d, o.dst = some d ∧ d ∉ reads all o ∧ ∀ m om, all[m]? = some om → m ≠ i →
    (d ∈ names all om → i ∈ (nth tab m).getD []) ∧ ∀ dm, om.dst = some dm → dm ∈ reads all o → m ∈ (nth tab i).getD [] ∨ i ∈ (nth tab m).getD []
theorem drawOk_spec {all : List Oper} {tab : List (List Nat)} (h : drawOk all tab = true) {i : Nat} {o : Oper} (hi : all[i]? = some o) : OkAt all tab i o := by
  have h := allIx_spec h i o hi
  rw [Nat.zero_add] at h
  simp only [Bool.and_eq_true] at h
  obtain ⟨⟨⟨h2, h3⟩, h4⟩, h5⟩ := h
  refine ⟨?_, ?_, ?_, ?_⟩
  · intro cs b hs; rw [hs] at h2; cases h2
  · intro e he hb
    have := List.all_eq_true.1 h3 e (by simpa using he)
    rw [hb, Bool.not_true, Bool.false_or, Nat.blt_eq] at this; exact this
  · intro j hj
    have := List.all_eq_true.1 h4 j hj
    obtain ⟨e, he, hb⟩ := List.any_eq_true.1 this
    simp only [Bool.and_eq_true, Bool.or_eq_true, memN_eq] at hb
    refine ⟨e, by simpa using he, hb.1, ?_⟩
    rcases hb.2 with hb2 | hb2
    · exact .inl (Nat.eq_of_beq_eq_true hb2)
    · exact .inr hb2
  · intro hf
    have hf' : (isFloat o.op || o.guard.isSome) = true := by
      rcases hf with hf | hf
      · rw [hf]; rfl
      · cases hg : o.guard with
        | none => exact absurd hg hf
        | some g => simp
    rw [hf'] at h5
    simp only [cond_true] at h5
    cases hd : o.dst with
    | none => rw [hd] at h5; cases h5
    | some d =>
      rw [hd] at h5
      simp only [floatOk, Bool.and_eq_true, Bool.not_eq_true', memN_false] at h5
      refine ⟨d, rfl, h5.1, fun m om hm hne => ?_⟩
      have := allIx_spec h5.2 m om hm
      rw [Nat.zero_add] at this
      have hne' : Nat.beq m i = false := by rw [beq_t]; simpa using hne
      rw [hne', Bool.false_or, Bool.and_eq_true] at this
      obtain ⟨ha, hb⟩ := this
      constructor
      · intro hn
        rw [memN_eq.2 hn] at ha
        exact memN_eq.1 (by simpa using ha)
      · intro dm hdm hr
        rw [hdm] at hb
        simp only [memN_eq.2 hr, cond_true, Bool.or_eq_true, memN_eq] at hb
        exact hb
def lst (l : Array Bool) (j : Nat) : Prop := l.getD j false = true
def wantedE (all : List Oper) (e : Env) (o : Oper) : Bool :=
  match o.guard with
  | none => true
  | some (_, want) => match gslot all o with
    | none => false
    | some s => (match e s with | .bool b => some b | _ => none) == some want
def Del (P : Program) (all : List Oper) (outs : List (Nat × VOp × Value)) (j : Nat) (o : Oper) (e : Env) (w : World) (v : Value) : Prop :=
  (wantedE all e o = false ∧ v = undef) ∨
  (wantedE all e o = true ∧ isFloat o.op = true ∧
    ((∃ x, o.op = .move x ∧ evalE e x = v) ∨
     (∃ c x y t, o.op = .pick c x y ∧ evalE e c = .bool t ∧ evalE e (if t then x else y) = v) ∨
     (∃ x, isMove o.op = false ∧ isPick o.op = false ∧ toV (evalE e) o.type o.op = some x ∧ ((isLoad o.op = false ∧ ∀ w, x.sem.run P w = .ok v w) ∨ (x.sem.run P w = .ok v w ∧ (j, x, v) ∈ outs)))))
structure Sim (P : Program) (n : Nat) (all : List Oper) (tab : List (List Nat)) (listed : List Nat) (outs : List (Nat × VOp × Value)) (e : Env) (w : World) (l' : Array Bool) (a : Act) : Prop where
  lsize : l'.size = all.length
  size : n ≤ a.tmps.size
  defers : a.defers = []
  sub : ∀ j, lst l' j → j ∈ listed
  down' : ∀ j o, all[j]? = some o → lst l' j → ∀ ed ∈ o.after, Region.binds .any ed = true → lst l' ed.on
  down : ∀ j o, all[j]? = some o → j ∈ listed → ∀ ed ∈ o.after, Region.binds .any ed = true → ed.on ∈ listed
  env : ∀ t, (∀ j o, all[j]? = some o → j ∈ listed → ¬ lst l' j → o.dst ≠ some t) → a.tmps.getD t undef = e t
  del : ∀ j o, all[j]? = some o → j ∈ listed → ¬ lst l' j → (isFloat o.op = true ∨ o.guard ≠ none) ∧ ∃ v d, o.dst = some d ∧ e d = v ∧ Del P all outs j o e w v
theorem tab_of_down {all : List Oper} {tab : List (List Nat)} (hok : drawOk all tab = true) {S : Nat → Prop}
    (hS : ∀ j o, all[j]? = some o → S j → ∀ ed ∈ o.after, Region.binds .any ed = true → S ed.on) :
    ∀ (m i : Nat), i ≤ m → ∀ o, all[i]? = some o → (∀ ed ∈ o.after, Region.binds .any ed = true → S ed.on) → ∀ j ∈ (nth tab i).getD [], S j := by
  intro m
  induction m with
  | zero =>
    intro i hi o ho hp j hj
    obtain ⟨ed, he, hb, hx⟩ := (drawOk_spec hok ho).anc j hj
    have := (drawOk_spec hok ho).back ed he hb
    omega
  | succ m ih =>
    intro i hi o ho hp j hj
    obtain ⟨ed, he, hb, hx⟩ := (drawOk_spec hok ho).anc j hj
    have hlt := (drawOk_spec hok ho).back ed he hb
    rcases hx with rfl | hx
    · exact hp ed he hb
    · have hlen : i < all.length := (List.getElem?_eq_some_iff.1 ho).1
      obtain ⟨o2, ho2⟩ : ∃ o2, all[ed.on]? = some o2 := ⟨_, List.getElem?_eq_getElem (by omega)⟩
      exact ih ed.on (by omega) o2 ho2 (fun ed2 h2 hb2 => hS _ o2 ho2 (hp ed he hb) ed2 h2 hb2) j hx
theorem eval_agree {e : Env} {a : Act} {o : Oper} {all : List Oper} (h : ∀ t ∈ reads all o, a.tmps.getD t undef = e t) : ∀ x ∈ o.op.operands, a.eval x = evalE e x := by
  intro x hx
  cases x with
  | tmp t => exact h t (List.mem_append_right _ (List.mem_filterMap.2 ⟨.tmp t, by simpa using hx, rfl⟩))
  | _ => rfl
theorem lst_set {l' : Array Bool} {i j : Nat} (hi : i < l'.size) : lst (l'.setIfInBounds i true) j ↔ lst l' j ∨ j = i := by
  unfold lst
  by_cases hij : i = j
  · subst hij; simp [hi]
  · rw [Array.getD_eq_getD_getElem?, Array.getElem?_setIfInBounds_ne hij, ← Array.getD_eq_getD_getElem?]
    constructor
    · exact .inl
    · rintro (h | h)
      · exact h
      · exact absurd h.symm hij
end Go.Vc
end
section
namespace Go.Vc
variable {P : Program}
theorem toV_congr {ρ ρ' : Operand → Value} {ty : TypeId} (op : Op) (h : ∀ x ∈ op.operands, ρ x = ρ' x) : toV ρ ty op = toV ρ' ty op := by
  have pairs : ∀ ps : Array (Nat × Operand), (∀ x ∈ (ps.toList.map (·.2)).toArray, ρ x = ρ' x) → (ps.toList.map fun p => (p.1, ρ p.2)) = (ps.toList.map fun p => (p.1, ρ' p.2)) := fun ps hp =>
    List.map_congr_left fun p hm => by
      simp only [hp p.2 (by simpa using ⟨p.1, by simpa using hm⟩)]
  have maps : ∀ ps : Array Operand, (∀ x ∈ ps, ρ x = ρ' x) → ps.toList.map ρ = ps.toList.map ρ' := fun ps hp =>
    List.map_congr_left fun p hm => hp p (by simpa using hm)
  cases op <;> simp only [Op.operands] at h <;> simp only [toV]
  case build t ps => rw [pairs ps h]
  case buildSlice t n ps => rw [pairs ps h]
  case makeFunc fn first cap => rw [maps first fun x hx => h x (by simp [hx]), maps cap fun x hx => h x (by simp [hx])]
  case call c =>
    cases hc : c.callee with
    | builtin b => simp only; rw [maps c.args fun x hx => h x (by simp [Call.operands, hx])]
    | _ => rfl
  case makeMap t r => cases r <;> simp_all
  case slice t x lo hi mx => cases lo <;> cases hi <;> cases mx <;> simp_all
  all_goals (first | rfl | (simp_all; done))
theorem run_val {s : Sem Value} {v : Value} {w w' : World} (h : s.run P w = .ok v w') : (do pure (Next.value (← s)) : Sem Next).run P w = .ok (.value v) w' := by
  simp [h]
theorem exec_of_toV {o : Oper} {ρ : Operand → Value} {x : VOp} {v : Value} {w w' : World} (hf : isLoad o.op = true ∨ isPure o.op = true) (hx : toV ρ o.type o.op = some x)
    (h : x.sem.run P w = .ok v w') : (execOp ρ o).run P w = .ok (.value v) w' := by
  obtain ⟨dst, op, ty, pos, after, guard⟩ := o
  unfold execOp
  cases op with
  | nilCheck y =>
    simp only [toV, Option.some.injEq] at hx
    subst hx
    simp only [VOp.sem] at h
    dsimp only
    have key : ∀ z : Value, (nilSem z).run P w = .ok v w' → z = ρ y → (do pure (Next.value (← nilSem z)) : Sem Next).run P w = .ok (.value v) w' := fun z hz _ => run_val hz
    have hk := key _ h rfl
    clear key
    have hm : ∀ n f c, ρ y = .func (.method n) f c → (execOp ρ { dst := dst, op := .nilCheck y, type := ty, pos := pos, after := after, guard := guard }).run P w = (do pure (Next.value (← nilMeth (.func (.method n) f c))) : Sem Next).run P w := fun n f c hy => nilMeth_run rfl hy w
    unfold execOp at hm
    dsimp only at hm
    generalize ρ y = z at *
    cases z with
    | pointer p => cases p <;> exact hk
    | func fn f c =>
      cases fn with
      | method n => rw [hm n f c rfl]; exact hk
      | _ => exact hk
    | _ => exact hk
  | call c =>
    simp only [toV] at hx
    cases hc : c.callee with
    | builtin b =>
      rw [hc] at hx
      simp only [Option.some.injEq] at hx
      subst hx
      simp only [resolve, hc, invoke]
      simp only [VOp.sem] at h
      rw [mapTA, show c.argTypes.toList.toArray = c.argTypes from by simp] at h
      have h' := run_val h
      cases b <;> first | exact h' | (exfalso; simp [bltSem, stuck] at h)
    | value f => rw [hc] at hx; simp at hx
    | invoke r n => rw [hc] at hx; simp at hx
  | binOp op t x y yt =>
    simp only [toV, Option.some.injEq] at hx
    subst hx
    simp only [VOp.sem] at h
    rw [← eqGuard_opd] at h
    exact run_val h
  | build t ps =>
    simp only [toV, Option.some.injEq] at hx
    subst hx
    simp only [VOp.sem, mapTA] at h
    exact run_val h
  | makeFunc fn first cap =>
    simp only [toV, Option.some.injEq] at hx
    subst hx
    simp only [VOp.sem, mapTA] at h
    exact run_val h
  | _ =>
    first
    | (simp only [toV, Option.some.injEq] at hx; subst hx; exact run_val h)
    | (simp [isLoad, isPure] at hf; done)
    | (simp [toV] at hx; done)
def cnt (l : Array Bool) : Nat := l.toList.countP (fun b => !b)
theorem cnt_set {l : Array Bool} {i : Nat} (hi : i < l.size) (hf : ¬ lst l i) : cnt (l.setIfInBounds i true) + 1 = cnt l := by
  unfold cnt
  have hli : i < l.toList.length := by simpa using hi
  rw [Array.toList_setIfInBounds, List.countP_set hli]
  have hv : l.toList[i] = false := by
    unfold lst at hf
    simp [hi] at hf
    simpa using hf
  have hm : 0 < l.toList.countP (fun b => !b) := List.countP_pos_iff.2 ⟨l.toList[i], List.getElem_mem hli, by simp [hv]⟩
  rw [hv]
  simp only [Bool.not_false, if_true, Bool.not_true, Bool.false_eq_true, if_false]
  omega
theorem cnt_zero {l : Array Bool} (h : cnt l = 0) (j : Nat) (hj : j < l.size) : lst l j := by
  unfold cnt at h
  have := List.countP_eq_zero.1 h l.toList[j] (List.getElem_mem (by simpa using hj))
  simpa [lst, hj] using this
theorem not_lst_getD {l : Array Bool} {j : Nat} (hj : j < l.size) : l.getD j true = false ↔ ¬ lst l j := by
  unfold lst
  simp [hj]
end Go.Vc
end
section
namespace Go.Vc
variable {P : Program}
section
variable {n : Nat} {ops : Array Oper} {tab : List (List Nat)} {listed : List Nat} {outs : List (Nat × VOp × Value)} {e : Env} {w : World} {l' : Array Bool} {a : Act}
theorem mem_ready' {j : Nat} : j ∈ Region.ready .any ops l' ↔ l'.getD j true = false ∧ ∃ o, ops.toList[j]? = some o ∧ ∀ ed ∈ o.after, Region.binds .any ed = true → lst l' ed.on := by
  rw [mem_ready]; simp [lst]
theorem Sim.reads (hok : drawOk ops.toList tab = true) (S : Sim P n ops.toList tab listed outs e w l' a) {i : Nat} {o : Oper} (hi : ops.toList[i]? = some o)
    (hr : ∀ ed ∈ o.after, Region.binds .any ed = true → lst l' ed.on) : ∀ t ∈ Vc.reads ops.toList o, a.tmps.getD t undef = e t := by
  intro t ht
  refine S.env t fun j oj hj hjl hjn hd => ?_
  obtain ⟨hf, v, d, hdst, _, _⟩ := S.del j oj hj hjl hjn
  rw [hd] at hdst
  obtain rfl := Option.some.inj hdst
  obtain ⟨d', hd', hself, hall⟩ := (drawOk_spec hok hj).flt hf
  rw [hd] at hd'
  obtain rfl := Option.some.inj hd'
  by_cases hij : i = j
  · subst hij
    have : o = oj := Option.some.inj (hi.symm.trans hj)
    subst this
    exact hself ht
  · have hm := (hall i o hi hij).1 (by unfold names; exact List.mem_append_right _ ht)
    exact hjn (tab_of_down hok (S := lst l') S.down' i i (Nat.le_refl _) o hi hr j hm)
theorem Sim.exec (hok : drawOk ops.toList tab = true) (S : Sim P n ops.toList tab listed outs e w l' a) {i : Nat} {o : Oper} (hi : ops.toList[i]? = some o)
    (hr : ∀ ed ∈ o.after, Region.binds .any ed = true → lst l' ed.on) : execOp a.eval o = execOp (evalE e) o :=
  execOp_congr o (drawOk_spec hok hi).sel (eval_agree (S.reads hok hi hr))
theorem Del.put {all : List Oper} {outs outs' : List (Nat × VOp × Value)} {j : Nat} {o : Oper} {e : Env} {w w' : World} {u : Value} {d : Nat} (hnd : d ∉ Vc.reads all o) (v : Value)
    (hsub : ∀ x ∈ outs, x ∈ outs') (hrun : ∀ x u, (j, x, u) ∈ outs → x.sem.run P w = .ok u w → x.sem.run P w' = .ok u w') (h : Del P all outs j o e w u) :
    Del P all outs' j o (Vc.put e (some d) v) w' u := by
  have hne : ∀ t ∈ Vc.reads all o, Vc.put e (some d) v t = e t := by
    intro t ht
    have htd : t ≠ d := fun h => hnd (h ▸ ht)
    have hb : Nat.beq t d = false := by rw [beq_t]; simpa using htd
    simp [Vc.put, hb]
  have hcg : ∀ x ∈ o.op.operands, evalE e x = evalE (Vc.put e (some d) v) x := by
    intro x hx
    cases x with
    | tmp t => exact (hne t (List.mem_append_right _ (List.mem_filterMap.2 ⟨.tmp t, by simpa using hx, rfl⟩))).symm
    | _ => rfl
  have hwt : wantedE all (Vc.put e (some d) v) o = wantedE all e o := by
    unfold wantedE
    cases hg : o.guard with
    | none => rfl
    | some gw =>
      cases hs : gslot all o with
      | none => rfl
      | some s => simp only [hne s (List.mem_append_left _ (by rw [hs]; simp))]
  rcases h with ⟨hw, hu⟩ | ⟨hw, hf, h⟩
  · exact .inl ⟨hwt.trans hw, hu⟩
  · refine .inr ⟨hwt.trans hw, hf, ?_⟩
    rcases h with ⟨x, hx, hv⟩ | ⟨c, x, y, t, hx, hc, hv⟩ | ⟨x, hnm, hnp, hx, hc⟩
    · exact .inl ⟨x, hx, by rw [← hcg x (by rw [hx]; simp [Op.operands])]; exact hv⟩
    · refine .inr (.inl ⟨c, x, y, t, hx, by rw [← hcg c (by rw [hx]; simp [Op.operands])]; exact hc, ?_⟩)
      cases t
      · simpa using (hcg y (by rw [hx]; simp [Op.operands])).symm.trans (by simpa using hv)
      · simpa using (hcg x (by rw [hx]; simp [Op.operands])).symm.trans (by simpa using hv)
    · refine .inr (.inr ⟨x, hnm, hnp, by rw [← toV_congr o.op hcg]; exact hx, ?_⟩)
      rcases hc with hc | ⟨hc, hm⟩
      · exact .inl hc
      · exact .inr ⟨hrun x u hm hc, hsub _ hm⟩
theorem Sim.wanted (hok : drawOk ops.toList tab = true) (S : Sim P n ops.toList tab listed outs e w l' a) {i : Nat} {o : Oper} (hi : ops.toList[i]? = some o)
    (hr : ∀ ed ∈ o.after, Region.binds .any ed = true → lst l' ed.on) : Region.wanted o (yielded ops a.tmps) = wantedE ops.toList e o := by
  have hrd := S.reads hok hi hr
  unfold Region.wanted wantedE
  cases hg : o.guard with
  | none => rfl
  | some gw =>
    obtain ⟨g, want⟩ := gw
    have hgs : gslot ops.toList o = (nth ops.toList g).bind (·.dst) := by unfold gslot; rw [hg]
    have hx : (ops[g]?).bind (·.dst) = gslot ops.toList o := by rw [hgs, nth_eq]; simp
    unfold yielded
    simp only [hx]
    cases hs : gslot ops.toList o with
    | none => rfl
    | some s =>
      have := hrd s (List.mem_append_left _ (by rw [hs]; simp))
      simp only [Option.bind_some]
      rw [← this]
      cases hv : a.tmps[s]? with
      | none => simp [Array.getD_eq_getD_getElem?, hv, undef]
      | some v => simp only [Array.getD_eq_getD_getElem?, hv, Option.getD_some]; cases v <;> rfl
theorem Sim.delayed (hok : drawOk ops.toList tab = true) (hn : ∀ o ∈ ops.toList, ∀ x, o.dst = some x → x < n) (S : Sim P n ops.toList tab listed outs e w l' a) {i : Nat} {o : Oper}
    (hi : ops.toList[i]? = some o) (hun : ¬ lst l' i) (hil : i ∈ listed) (hr : ∀ ed ∈ o.after, Region.binds .any ed = true → lst l' ed.on) :
    ∃ v, (∀ (Q : Exit → Act → World → Prop) (K2 : Act → World → Prop), K2 (a.put o.dst v) w → wpOp P ops Q i K2 a w) ∧ Sim P n ops.toList tab listed outs e w (l'.setIfInBounds i true) (a.put o.dst v) := by
  obtain ⟨hf, v, d, hdst, hev, hdel⟩ := S.del i o hi hil hun
  have hlen : i < l'.size := by rw [S.lsize]; exact (List.getElem?_eq_some_iff.1 hi).1
  have hi' : ops[i]? = some o := by simpa using hi
  have hw := S.wanted hok hi hr
  refine ⟨v, ?_, ?_⟩
  · intro Q K2 hK
    unfold wpOp
    simp only [hi']
    rw [hw]
    rcases hdel with ⟨hw0, rfl⟩ | ⟨hw1, hfl, hd⟩
    · rw [hw0]; simpa using hK
    · rw [hw1]
      simp only [if_true]
      refine .inl ?_
      have hrun : (execOp a.eval o).run P w = .ok (.value v) w := by
        rw [S.exec hok hi hr]
        rcases hd with ⟨x, hx, hv⟩ | ⟨c, x, y, t, hx, hc, hv⟩ | ⟨x, hnm, hnp, hx, hc⟩
        · unfold execOp; rw [hx]; simp [hv]
        · unfold execOp; rw [hx]; cases t <;> simp [hc, asBool] <;> simpa using hv
        · have hk : isLoad o.op = true ∨ isPure o.op = true := by
            unfold isFloat at hfl
            rw [hnm, hnp] at hfl
            simpa using hfl
          rcases hc with ⟨_, hc⟩ | ⟨hc, _⟩
          · exact exec_of_toV hk hx (hc w)
          · exact exec_of_toV hk hx hc
      unfold Oper.wp
      rw [hrun]
      exact hK
  · have hd : d < n := hn o (List.mem_of_getElem? hi) d hdst
    have hda : d < a.tmps.size := by have := S.size; omega
    refine ⟨by simp [S.lsize], by rw [hdst]; simpa [Act.put] using S.size, by rw [hdst]; exact S.defers, ?_, ?_, S.down, ?_, ?_⟩
    · intro j hj
      rcases (lst_set hlen).1 hj with h | rfl
      · exact S.sub j h
      · exact hil
    · intro j oj hj hl ed hed hb
      rw [lst_set hlen]
      rcases (lst_set hlen).1 hl with h | rfl
      · exact .inl (S.down' j oj hj h ed hed hb)
      · have : o = oj := Option.some.inj (hi.symm.trans hj)
        subst this
        exact .inl (hr ed hed hb)
    · intro t ht
      by_cases htd : t = d
      · subst htd
        rw [hdst, hev]
        simp [Act.put, hda]
      · have hne : (a.put o.dst v).tmps.getD t undef = a.tmps.getD t undef := by
          rw [hdst]
          simp [Act.put, Array.getElem?_setIfInBounds_ne (Ne.symm htd)]
        rw [hne]
        refine S.env t fun j oj hj hjl hjn => ?_
        by_cases hji : j = i
        · subst hji
          have : o = oj := Option.some.inj (hi.symm.trans hj)
          subst this
          rw [hdst]
          exact fun h => htd (Option.some.inj h).symm
        · exact ht j oj hj hjl (fun h => by rcases (lst_set hlen).1 h with h | h; exact hjn h; exact hji h)
    · intro j oj hj hjl hjn
      exact S.del j oj hj hjl (fun h => hjn ((lst_set hlen).2 (.inl h)))
theorem Sim.take (hok : drawOk ops.toList tab = true) (S : Sim P n ops.toList tab listed outs e w l' a) {i : Nat} {o : Oper} (hi : ops.toList[i]? = some o) (hf : isFloat o.op = true ∨ o.guard ≠ none)
    (hil : i ∉ listed) (hr : ∀ ed ∈ o.after, Region.binds .any ed = true → ed.on ∈ listed) {v : Value} {outs' : List (Nat × VOp × Value)} (ho : ∀ x ∈ outs, x ∈ outs') (hd : Del P ops.toList outs' i o e w v) :
    Sim P n ops.toList tab (i :: listed) outs' (put e o.dst v) w l' a := by
  obtain ⟨d, hdst, hself, hall⟩ := (drawOk_spec hok hi).flt hf
  have tabl : ∀ j oj, ops.toList[j]? = some oj → j ∈ listed → ∀ m ∈ (nth tab j).getD [], m ∈ listed := fun j oj hj hjl =>
    tab_of_down hok (S := (· ∈ listed)) S.down j j (Nat.le_refl _) oj hj (S.down j oj hj hjl)
  have hdel : ∀ (j : Nat) (oj : Oper) (u : Value) (outs1 : List (Nat × VOp × Value)), (∀ x ∈ outs1, x ∈ outs') → d ∉ Vc.reads ops.toList oj → Del P ops.toList outs1 j oj e w u → Del P ops.toList outs' j oj (put e o.dst v) w u := by
    intro j oj u outs1 hsub hnd hdl
    rw [hdst]
    exact Del.put hnd v hsub (fun _ _ _ h => h) hdl
  refine ⟨S.lsize, S.size, S.defers, fun j hj => List.mem_cons_of_mem _ (S.sub j hj), S.down', ?_, ?_, ?_⟩
  · intro j oj hj hjl ed hed hb
    rcases List.mem_cons.1 hjl with rfl | hjl
    · have : o = oj := Option.some.inj (hi.symm.trans hj)
      subst this
      exact List.mem_cons_of_mem _ (hr ed hed hb)
    · exact List.mem_cons_of_mem _ (S.down j oj hj hjl ed hed hb)
  · intro t ht
    have hil' : ¬ lst l' i := fun h => hil (S.sub i h)
    have htd : t ≠ d := fun h => ht i o hi List.mem_cons_self hil' (by rw [hdst, h])
    have hb : Nat.beq t d = false := by rw [beq_t]; simpa using htd
    rw [hdst]
    simp only [put, hb, cond_false]
    exact S.env t fun j oj hj hjl hjn => ht j oj hj (List.mem_cons_of_mem _ hjl) hjn
  · intro j oj hj hjl hjn
    rcases List.mem_cons.1 hjl with rfl | hjl
    · have : o = oj := Option.some.inj (hi.symm.trans hj)
      subst this
      refine ⟨hf, v, d, hdst, by rw [hdst]; simp [put], hdel _ _ _ outs' (fun _ h => h) hself hd⟩
    · obtain ⟨hfj, u, dj, hdj, heu, hdl⟩ := S.del j oj hj hjl hjn
      have hne : j ≠ i := fun h => hil (h ▸ hjl)
      have hdd : dj ≠ d := fun h => hil (tabl j oj hj hjl i ((hall j oj hj hne).1 (by rw [← h]; unfold names; rw [hdj]; simp)))
      have hb : Nat.beq dj d = false := by rw [beq_t]; simpa using hdd
      refine ⟨hfj, u, dj, hdj, by rw [hdst]; simp only [put, hb, cond_false]; exact heu, hdel _ _ _ outs ho (fun h => ?_) hdl⟩
      exact hil (tabl j oj hj hjl i ((hall j oj hj hne).1 (by unfold names; exact List.mem_append_right _ h)))
theorem keepOuts_mem {anc : List Nat} : ∀ {outs : List (Nat × VOp × Value)} {x}, x ∈ outs → x.1 ∉ anc → x ∈ keepOuts anc outs
  | [], _, h, _ => by cases h
  | y :: l, x, h, hn => by
    unfold keepOuts
    cases h with
    | head => rw [memN_false.2 hn]; simp
    | tail _ hm =>
      have := keepOuts_mem hm hn
      cases memN y.1 anc with
      | true => simpa using this
      | false => simpa using .inr this
theorem sames_mem {Sg : Sig} (hS : Le Sg P) {anc : List Nat} {w : World} {K : Prop} : ∀ {outs : List (Nat × VOp × Value)}, sames Sg anc w outs K → K ∧ ∀ j x v, (j, x, v) ∈ outs → j ∉ anc → x.sem.run P w = .ok v w
  | [], h => ⟨h, fun _ _ _ hm _ => by cases hm⟩
  | (j, x, v) :: l, h => by
    unfold sames at h
    cases hc : memN j anc with
    | true =>
      rw [hc] at h
      obtain ⟨hk, hr⟩ := sames_mem hS (by simpa using h)
      refine ⟨hk, fun j' x' v' hm hn => ?_⟩
      cases hm with
      | head => exact absurd (memN_eq.1 hc) hn
      | tail _ hm => exact hr _ _ _ hm hn
    | false =>
      rw [hc] at h
      simp only [cond_false] at h
      obtain ⟨hk, hr⟩ := sames_mem hS h.2
      refine ⟨hk, fun j' x' v' hm hn => ?_⟩
      cases hm with
      | head => exact hS.same h.1
      | tail _ hm => exact hr _ _ _ hm hn
theorem Sim.anchor (hok : drawOk ops.toList tab = true) (hn : ∀ o ∈ ops.toList, ∀ x, o.dst = some x → x < n) (S : Sim P n ops.toList tab listed outs e w l' a) {i : Nat} {o : Oper}
    (hi : ops.toList[i]? = some o) (hil : i ∉ listed) (hr : ∀ ed ∈ o.after, Region.binds .any ed = true → lst l' ed.on) {v : Value} {w' : World}
    (hs : ∀ j x u, (j, x, u) ∈ outs → j ∉ (nth tab i).getD [] → x.sem.run P w' = .ok u w') :
    Sim P n ops.toList tab (i :: listed) (keepOuts ((nth tab i).getD []) outs) (put e o.dst v) w' (l'.setIfInBounds i true) (a.put o.dst v) := by
  have hlen : i < l'.size := by rw [S.lsize]; exact (List.getElem?_eq_some_iff.1 hi).1
  have anci : ∀ m ∈ (nth tab i).getD [], lst l' m := tab_of_down hok (S := lst l') S.down' i i (Nat.le_refl _) o hi hr
  have tabl : ∀ j oj, ops.toList[j]? = some oj → j ∈ listed → ∀ m ∈ (nth tab j).getD [], m ∈ listed := fun j oj hj hjl =>
    tab_of_down hok (S := (· ∈ listed)) S.down j j (Nat.le_refl _) oj hj (S.down j oj hj hjl)
  refine ⟨by simp [S.lsize], ?_, ?_, ?_, ?_, ?_, ?_, ?_⟩
  · cases o.dst with
    | none => exact S.size
    | some d => simpa [Act.put] using S.size
  · cases o.dst with
    | none => exact S.defers
    | some d => exact S.defers
  · intro j hj
    rcases (lst_set hlen).1 hj with h | rfl
    · exact List.mem_cons_of_mem _ (S.sub j h)
    · exact List.mem_cons_self
  · intro j oj hj hl ed hed hb
    rw [lst_set hlen]
    rcases (lst_set hlen).1 hl with h | rfl
    · exact .inl (S.down' j oj hj h ed hed hb)
    · have : o = oj := Option.some.inj (hi.symm.trans hj)
      subst this
      exact .inl (hr ed hed hb)
  · intro j oj hj hjl ed hed hb
    rcases List.mem_cons.1 hjl with rfl | hjl
    · have : o = oj := Option.some.inj (hi.symm.trans hj)
      subst this
      exact List.mem_cons_of_mem _ (S.sub _ (hr ed hed hb))
    · exact List.mem_cons_of_mem _ (S.down j oj hj hjl ed hed hb)
  · intro t ht
    have henv : ∀ (hx : ∀ d, o.dst = some d → t ≠ d), a.tmps.getD t undef = e t := fun hx =>
      S.env t fun j oj hj hjl hjn => ht j oj hj (List.mem_cons_of_mem _ hjl) fun h => by
        rcases (lst_set hlen).1 h with h | rfl
        · exact hjn h
        · exact hil hjl
    cases hd : o.dst with
    | none => exact henv fun d h => by rw [hd] at h; cases h
    | some d =>
      have hdn : d < n := hn o (List.mem_of_getElem? hi) d hd
      have hda : d < a.tmps.size := Nat.lt_of_lt_of_le hdn S.size
      by_cases htd : t = d
      · subst htd; simp [Act.put, put, hda]
      · have hb : Nat.beq t d = false := by rw [beq_t]; simpa using htd
        simp only [put, hb, cond_false]
        rw [← henv fun d' h => by rw [hd] at h; exact fun hh => htd (hh.trans (Option.some.inj h).symm)]
        simp [Act.put, Array.getElem?_setIfInBounds_ne (Ne.symm htd)]
  · intro j oj hj hjl hjn
    have hjl' : ¬ lst l' j := fun h => hjn ((lst_set hlen).2 (.inl h))
    have hji : j ≠ i := fun h => hjn ((lst_set hlen).2 (.inr h))
    have hjl : j ∈ listed := by
      rcases List.mem_cons.1 hjl with h | h
      · exact absurd h hji
      · exact h
    obtain ⟨hfj, u, dj, hdj, heu, hdl⟩ := S.del j oj hj hjl hjl'
    obtain ⟨dj', hdj', hself, hall⟩ := (drawOk_spec hok hj).flt hfj
    rw [hdj] at hdj'
    obtain rfl := Option.some.inj hdj'
    have hnot : j ∉ (nth tab i).getD [] := fun h => hjl' (anci j h)
    have hne : ∀ d, o.dst = some d → dj ≠ d := fun d hd h => hnot ((hall i o hi (Ne.symm hji)).1 (by unfold names; rw [hd, h]; simp))
    have hnr : ∀ d, o.dst = some d → d ∉ Vc.reads ops.toList oj := fun d hd h => by
      rcases (hall i o hi (Ne.symm hji)).2 d hd h with h | h
      · exact hil (tabl j oj hj hjl i h)
      · exact hnot h
    have hrun : ∀ x u, (j, x, u) ∈ outs → x.sem.run P w = .ok u w → x.sem.run P w' = .ok u w' := fun x u hm _ => hs j x u hm hnot
    refine ⟨hfj, u, dj, hdj, ?_, ?_⟩
    · cases hd : o.dst with
      | none => exact heu
      | some d =>
        have hb : Nat.beq dj d = false := by rw [beq_t]; simpa using hne d hd
        simp only [put, hb, cond_false]
        exact heu
    · have hkeep : ∀ x, (j, x, u) ∈ outs → (j, x, u) ∈ keepOuts ((nth tab i).getD []) outs := fun x hm => keepOuts_mem hm hnot
      cases hd : o.dst with
      | none =>
        rcases hdl with h | ⟨hw, hf, h⟩
        · exact .inl h
        · refine .inr ⟨hw, hf, ?_⟩
          rcases h with h | h | ⟨x, hnm, hnp, hx, hc⟩
          · exact .inl h
          · exact .inr (.inl h)
          · refine .inr (.inr ⟨x, hnm, hnp, hx, ?_⟩)
            rcases hc with hc | ⟨hc, hm⟩
            · exact .inl hc
            · exact .inr ⟨hrun x u hm hc, hkeep x hm⟩
      | some d =>
        have h2 : Del P ops.toList (outs.filter fun x => x.1 = j) j oj e w u := by
          rcases hdl with h | ⟨hw, hf, h⟩
          · exact .inl h
          · refine .inr ⟨hw, hf, ?_⟩
            rcases h with h | h | ⟨x, hnm, hnp, hx, hc⟩
            · exact .inl h
            · exact .inr (.inl h)
            · refine .inr (.inr ⟨x, hnm, hnp, hx, ?_⟩)
              rcases hc with hc | ⟨hc, hm⟩
              · exact .inl hc
              · exact .inr ⟨hc, List.mem_filter.2 ⟨hm, by simp⟩⟩
        refine Del.put (hnr d hd) v (outs := outs.filter fun x => x.1 = j) (fun x hx => ?_) (fun x u hm hc => ?_) h2
        · obtain ⟨hm, he⟩ := List.mem_filter.1 hx
          exact keepOuts_mem hm (by have : x.1 = j := by simpa using he
                                    rw [this]; exact hnot)
        · exact hs j x u (List.mem_filter.1 hm).1 hnot
end
end Go.Vc
end
section
namespace Go.Vc
variable {P : Program} {Sg : Sig}
def KnOk' (e : Env) (k : Known) : Prop := (∀ t b, k t = some (some b) → e t = .bool b) ∧ ∀ t, k t = some none → e t = undef
theorem KnOk'.put {e : Env} {k : Known} (h : KnOk' e k) (d : Option Nat) (v : Value) : KnOk' (Vc.put e d v) (putK k d none) := by
  cases d with
  | none => exact h
  | some d =>
    refine ⟨fun t b => ?_, fun t => ?_⟩
    · by_cases htd : t = d
      · subst htd; simp [putK]
      · have hb : Nat.beq t d = false := by rw [beq_t]; simpa using htd
        simpa [putK, Vc.put, hb] using h.1 t b
    · by_cases htd : t = d
      · subst htd; simp [putK]
      · have hb : Nat.beq t d = false := by rw [beq_t]; simpa using htd
        simpa [putK, Vc.put, hb] using h.2 t
theorem rdy_spec {o : Oper} {listed : List Nat} (h : rdy o listed = true) : ∀ ed ∈ o.after, Region.binds .any ed = true → ed.on ∈ listed := by
  intro ed he hb
  have := List.all_eq_true.1 h ed (by simpa using he)
  simp only [hb, Bool.not_true, Bool.false_or] at this
  exact memN_eq.1 this
theorem rdy_mk {o : Oper} {listed : List Nat} (h : ∀ ed ∈ o.after, Region.binds .any ed = true → ed.on ∈ listed) : rdy o listed = true := by
  refine List.all_eq_true.2 fun ed he => ?_
  cases hb : Region.binds .any ed with
  | false => rfl
  | true => simpa using memN_eq.2 (h ed (by simpa using he) hb)
theorem ready_nil {ops : Array Oper} {tab : List (List Nat)} {l' : Array Bool} (hok : drawOk ops.toList tab = true) (hs : l'.size = ops.toList.length) (h : Region.ready .any ops l' = []) :
    ∀ j, j < ops.toList.length → lst l' j := by
  intro j
  induction j using Nat.strongRecOn with
  | _ j ih =>
    intro hj
    apply Classical.byContradiction
    intro hn
    obtain ⟨o, ho⟩ : ∃ o, ops.toList[j]? = some o := ⟨_, List.getElem?_eq_getElem hj⟩
    have : j ∈ Region.ready .any ops l' := mem_ready'.2 ⟨(not_lst_getD (by omega)).2 hn, o, ho, fun ed he hb => ih ed.on ((drawOk_spec hok ho).back ed he hb) (by have := (drawOk_spec hok ho).back ed he hb; omega)⟩
    rw [h] at this
    cases this
theorem left_spec {all : List Oper} {e : Env} {k : Known} (hk : KnOk' e k) {o : Oper} {b : Bool} (h : left all k o = some b) : wantedE all e o = !b := by
  unfold left at h
  unfold wantedE
  cases hg : o.guard with
  | none => rw [hg] at h; simp at h; subst h; rfl
  | some gw =>
    obtain ⟨g, want⟩ := gw
    rw [hg] at h
    cases hs : gslot all o with
    | none => rw [hs] at h; simp at h; subst h; rfl
    | some s =>
      rw [hs] at h
      simp only at h
      cases hq : k s with
      | none => rw [hq] at h; cases h
      | some q =>
        rw [hq] at h
        cases q with
        | none =>
          simp at h
          subst h
          have := hk.2 s hq
          simp only [this, undef]
          rfl
        | some c =>
          simp at h
          subst h
          have := hk.1 s c hq
          simp only [this]
          cases c <;> cases want <;> rfl
theorem left_none {all : List Oper} {k : Known} {o : Oper} (h : left all k o = none) : ∃ s, gslot all o = some s ∧ k s = none := by
  unfold left at h
  cases hg : o.guard with
  | none => rw [hg] at h; simp at h
  | some gw =>
    obtain ⟨g, want⟩ := gw
    rw [hg] at h
    cases hs : gslot all o with
    | none => rw [hs] at h; simp at h
    | some s =>
      rw [hs] at h
      simp only at h
      refine ⟨s, rfl, ?_⟩
      cases hq : k s with
      | none => rfl
      | some q => rw [hq] at h; cases q <;> simp at h
theorem left_true_guard {all : List Oper} {k : Known} {o : Oper} (h : left all k o = some true) : o.guard ≠ none := by
  intro hg
  unfold left at h
  rw [hg] at h
  simp at h
theorem KnOk'.put' {e : Env} {k : Known} (h : KnOk' e k) (d : Option Nat) (v : Value) (q : Option (Option Bool)) (h1 : ∀ b, q = some (some b) → v = .bool b) (h0 : q = some none → v = undef) : KnOk' (Vc.put e d v) (putK k d q) := by
  cases d with
  | none => exact h
  | some d =>
    refine ⟨fun t b => ?_, fun t => ?_⟩
    · by_cases htd : t = d
      · subst htd; simpa [putK, Vc.put] using h1 b
      · have hb : Nat.beq t d = false := by rw [beq_t]; simpa using htd
        simpa [putK, Vc.put, hb] using h.1 t b
    · by_cases htd : t = d
      · subst htd; simpa [putK, Vc.put] using h0
      · have hb : Nat.beq t d = false := by rw [beq_t]; simpa using htd
        simpa [putK, Vc.put, hb] using h.2 t
theorem KnOk'.know {e : Env} {k : Known} (h : KnOk' e k) {s : Nat} {b : Bool} (he : e s = .bool b) : KnOk' e (putK k (some s) (some (some b))) := by
  refine ⟨fun t c => ?_, fun t => ?_⟩
  · by_cases hts : t = s
    · subst hts; simp only [putK]; rw [beq_t]; simp; intro h; rw [he, h]
    · have hb : Nat.beq t s = false := by rw [beq_t]; simpa using hts
      simpa [putK, hb] using h.1 t c
  · by_cases hts : t = s
    · subst hts; simp only [putK]; rw [beq_t]; simp
    · have hb : Nat.beq t s = false := by rw [beq_t]; simpa using hts
      simpa [putK, hb] using h.2 t
theorem kn1' {e : Env} {k : Known} (h : KnOk' e k) {x : Operand} {b : Bool} (hk : kn k x = some (some b)) : evalE e x = .bool b := by
  cases x with
  | tmp t => exact h.1 _ _ hk
  | const v => cases v <;> simp_all [kn, evalE]
  | _ => simp [kn] at hk
theorem kn0' {e : Env} {k : Known} (h : KnOk' e k) {x : Operand} (hk : kn k x = some none) : evalE e x = undef := by
  cases x with
  | tmp t => exact h.2 _ hk
  | const v => cases v <;> simp_all [kn]
  | _ => simp [kn] at hk
theorem cnt_pos_of {l' : Array Bool} {m : Nat} (hs : l'.size = m) (hall : ∀ j, j < m → lst l' j) : cnt l' = 0 := by
  refine List.countP_eq_zero.2 fun b hb => ?_
  obtain ⟨j, hj, rfl⟩ := List.getElem_of_mem hb
  have hjs : j < l'.size := by simpa using hj
  have := hall j (by rw [← hs]; exact hjs)
  unfold lst at this
  simp [hjs] at this
  simpa using this
theorem sim_sound {n : Nat} {ops : Array Oper} {tab : List (List Nat)} {K : KE} {Kp : KP} {Q : Exit → Act → World → Prop} {e0 : Env} (hS : Le Sg P) (hok : drawOk ops.toList tab = true)
    (hn : ∀ o ∈ ops.toList, ∀ x, o.dst = some x → x < n)
    (hp : ∀ ch w' a, a.defers = [] → Kp ch w' → Q (.panic ch) a w')
    (hK : ∀ e k w a, Agree n e k a → Fr (dsts ops.toList) e0 e → K e k w → Q .normal a w) :
    ∀ (m f : Nat) (listed : List Nat) (outs : List (Nat × VOp × Value)) (e : Env) (k : Known) (w : World) (l' : Array Bool) (a : Act),
      Sim P n ops.toList tab listed outs e w l' a → KnOk' e k → Fr (dsts ops.toList) e0 e → cnt l' = f →
      drawVC Sg ops.toList tab m listed outs e k w K Kp → wpAny P .any ops Q f l' a w := by
  intro m
  induction m with
  | zero => intro f listed outs e k w l' a _ _ _ _ h; exact h.elim
  | succ m ihm =>
    intro f
    induction f with
    | zero =>
      intro listed outs e k w l' a S hk hf hc h
      have hall : ∀ j, j < ops.toList.length → lst l' j := fun j hj => cnt_zero hc j (by rw [S.lsize]; exact hj)
      have hin : ∀ j, j < ops.toList.length → j ∈ listed := fun j hj => S.sub j (hall j hj)
      have hready : Region.ready .any ops l' = [] := by
        apply List.eq_nil_iff_forall_not_mem.2
        intro j hj
        obtain ⟨h1, o, ho, _⟩ := mem_ready'.1 hj
        have hjl : j < ops.toList.length := (List.getElem?_eq_some_iff.1 ho).1
        exact (not_lst_getD (by rw [S.lsize]; exact hjl)).1 h1 (hall j hjl)
      unfold drawVC at h
      have hb : (List.range ops.toList.length).all (memN · listed) = true := List.all_eq_true.2 fun j hj => memN_eq.2 (hin j (List.mem_range.1 hj))
      rw [hb] at h
      exact ⟨hready, hK e k w a ⟨S.size, fun t => S.env t fun j o hj hjl hjn => absurd (hall j (List.getElem?_eq_some_iff.1 hj).1) hjn, hk.1, hk.2, S.defers⟩ hf h⟩
    | succ f ihf =>
      intro listed outs e k w l' a S hk hf hc h
      have h0 := h
      have hne : Region.ready .any ops l' = [] → False := fun hx => by
        have := cnt_pos_of S.lsize (ready_nil hok S.lsize hx)
        omega
      have delayed : ∀ i ∈ Region.ready .any ops l', i ∈ listed → wpOp P ops Q i (wpAny P .any ops Q f (l'.setIfInBounds i true)) a w := by
        intro i hi hmem
        obtain ⟨h1, o, ho, hr⟩ := mem_ready'.1 hi
        have hil : i < ops.toList.length := (List.getElem?_eq_some_iff.1 ho).1
        have hlen : i < l'.size := by rw [S.lsize]; exact hil
        have hun := (not_lst_getD hlen).1 h1
        have hcnt := cnt_set (l := l') hlen hun
        obtain ⟨v, hrun, S'⟩ := S.delayed hok hn ho hun hmem hr
        exact hrun Q _ (ihf listed outs e k w _ _ S' hk hf (by omega) h0)
      unfold drawVC at h
      cases hb : (List.range ops.toList.length).all (memN · listed) with
      | true =>
        refine ⟨fun hx => (hne hx).elim, fun i hi => delayed i hi ?_⟩
        obtain ⟨h1, o, ho, hr⟩ := mem_ready'.1 hi
        exact memN_eq.1 (List.all_eq_true.1 hb i (List.mem_range.2 (List.getElem?_eq_some_iff.1 ho).1))
      | false =>
      rw [hb] at h
      simp only [cond_false] at h
      split at h
      · -- a guard is decided
        rename_i s hs
        obtain ⟨b, he, ht, hff⟩ := h
        cases b
        · exact ihm (f + 1) listed outs e _ w l' a S (hk.know he) hf hc (hff rfl)
        · exact ihm (f + 1) listed outs e _ w l' a S (hk.know he) hf hc (ht rfl)
      rename_i hG
      split at h
      · -- a floating operation is taken ahead
        rename_i i o hfl
        obtain ⟨j, h1, h2, h3, h4, h5⟩ := firstFl_spec hfl
        simp only [Nat.zero_add] at h1 h2 h3 h4 h5
        subst h1
        have hd : ∀ x, o.dst = some x → x ∈ dsts ops.toList := fun x hx => mem_dsts (List.mem_of_getElem? h2) hx
        have hmay : isFloat o.op = true ∨ o.guard ≠ none := h3.imp id left_true_guard
        have go : ∀ v q outs', (∀ b, q = some (some b) → v = .bool b) → (q = some none → v = undef) → (∀ x ∈ outs, x ∈ outs') → Del P ops.toList outs' i o e w v →
            drawVC Sg ops.toList tab m (i :: listed) outs' (put e o.dst v) (putK k o.dst q) w K Kp → wpAny P .any ops Q (f + 1) l' a w :=
          fun v q outs' hq1 hq0 hs hdl hh => ihm (f + 1) (i :: listed) outs' _ _ w l' a (S.take hok h2 hmay h4 (rdy_spec h5) hs hdl) (hk.put' _ _ _ hq1 hq0) (hf.put hd v) hc hh
        cases hlt : (left ops.toList k o == some true) with
        | true =>
          rw [hlt] at h
          have hl : left ops.toList k o = some true := by simpa using hlt
          exact go undef (some none) outs (fun b hb => by cases hb) (fun _ => rfl) (fun _ h => h) (.inl ⟨left_spec hk hl, rfl⟩) h
        | false =>
          rw [hlt] at h
          have hl : left ops.toList k o ≠ some true := by simpa using hlt
          have hfo : isFloat o.op = true := h3.resolve_right hl
          have hwt : wantedE ops.toList e o = true := by
            cases hlo : left ops.toList k o with
            | none =>
              obtain ⟨s, hs, _⟩ := left_none hlo
              have := firstG_none hG i o h2 (by simpa using h4) h5 (by rw [hlo]; rfl)
              rw [hs] at this
              cases this
            | some b =>
              cases b with
              | true => exact absurd hlo hl
              | false => exact left_spec hk hlo
          simp only [cond_false] at h
          unfold floatVC at h
          split at h
          · rename_i x hx
            exact go _ _ outs (fun b hb => kn1' hk hb) (fun hb => kn0' hk hb) (fun _ h => h) (.inr ⟨hwt, hfo, .inl ⟨x, hx, rfl⟩⟩) h
          · rename_i c x y hx
            split at h
            · rename_i hkc
              exact go _ _ outs (fun b hb => kn1' hk hb) (fun hb => kn0' hk hb) (fun _ h => h) (.inr ⟨hwt, hfo, .inr (.inl ⟨c, x, y, true, hx, kn1' hk hkc, rfl⟩)⟩) h
            · rename_i hkc
              exact go _ _ outs (fun b hb => kn1' hk hb) (fun hb => kn0' hk hb) (fun _ h => h) (.inr ⟨hwt, hfo, .inr (.inl ⟨c, x, y, false, hx, kn1' hk hkc, rfl⟩)⟩) h
            · exact h.elim
          · rename_i hnm hnp
            have hmv : isMove o.op = false := by
              cases hop : o.op <;> first | rfl | exact absurd hop (hnm _)
            have hpk : isPick o.op = false := by
              cases hop : o.op <;> first | rfl | exact absurd hop (hnp _ _ _)
            split at h
            · exact h.elim
            · rename_i x hx
              cases hl : isLoad o.op with
              | true =>
                rw [hl] at h
                obtain ⟨v, hv, hh⟩ := hS.ld h
                exact go v none _ (fun b hb => by cases hb) (fun hb => by cases hb) (fun _ h => List.mem_cons_of_mem _ h) (.inr ⟨hwt, hfo, .inr (.inr ⟨x, hmv, hpk, hx, .inr ⟨hv, List.mem_cons_self⟩⟩)⟩) hh
              | false =>
                rw [hl] at h
                obtain ⟨v, hv, hh⟩ := hS.pur h
                exact go v none _ (fun b hb => by cases hb) (fun hb => by cases hb) (fun _ h => h) (.inr ⟨hwt, hfo, .inr (.inr ⟨x, hmv, hpk, hx, .inl ⟨hl, hv⟩⟩)⟩) hh
      · rename_i hfl
        refine ⟨fun hx => (hne hx).elim, fun i hi => ?_⟩
        by_cases hmem : i ∈ listed
        · exact delayed i hi hmem
        obtain ⟨h1, o, ho, hr⟩ := mem_ready'.1 hi
        have hil : i < ops.toList.length := (List.getElem?_eq_some_iff.1 ho).1
        have hlen : i < l'.size := by rw [S.lsize]; exact hil
        have hun := (not_lst_getD hlen).1 h1
        have ho' : ops[i]? = some o := by simpa using ho
        have hcnt := cnt_set (l := l') hlen hun
        have hrd := rdy_mk (o := o) (listed := listed) fun ed he hb => S.sub _ (hr ed he hb)
        have hA := allR_mem h (0 + i, o) (rdyAll_mem i o ho (by simpa using hmem) hrd)
        simp only [Nat.zero_add] at hA
        obtain ⟨hnf, hnl⟩ := firstFl_none hfl i o ho (by simpa using hmem) hrd
        have hwt : wantedE ops.toList e o = true := by
          cases hlo : left ops.toList k o with
          | none =>
            obtain ⟨s, hs, _⟩ := left_none hlo
            have := firstG_none hG i o ho (by simpa using hmem) hrd (by rw [hlo]; rfl)
            rw [hs] at this
            cases this
          | some b =>
            cases b with
            | true => exact absurd hlo hnl
            | false => exact left_spec hk hlo
        have hwa := (S.wanted hok ho hr).trans hwt
        have hex := S.exec hok ho hr
        have hd : ∀ x, o.dst = some x → x ∈ dsts ops.toList := fun x hx => mem_dsts (List.mem_of_getElem? ho) hx
        have go : ∀ v w', sames Sg ((nth tab i).getD []) w' outs (drawVC Sg ops.toList tab m (i :: listed) (keepOuts ((nth tab i).getD []) outs) (put e o.dst v) (putK k o.dst none) w' K Kp) →
            wpAny P .any ops Q f (l'.setIfInBounds i true) (a.put o.dst v) w' := by
          intro v w' hh
          obtain ⟨hh, hs⟩ := sames_mem hS hh
          exact ihm f _ _ _ _ w' _ _ (S.anchor hok hn ho hmem hr hs) (hk.put _ _) (hf.put hd v) (by omega) hh
        have hpp : ∀ ch w', Kp ch w' → Q (.panic ch) a w' := fun ch w' => hp ch w' a S.defers
        unfold wpOp
        simp only [ho', hwa, if_true]
        refine .inl ?_
        unfold anchorVC at hA
        split at hA
        · rename_i x hx
          have := go _ w hA
          unfold Oper.wp
          rw [hex]
          unfold execOp
          rw [hx]
          simpa [Oper.upon] using this
        · split at hA
          · rename_i x hx
            exact opV_sound hex hx (hS.op hA) go hpp
          · split at hA
            · rename_i c hop
              split at hA
              · rename_i fn args hc
                exact callV_sound hex hop hc (hS.call hA) go hpp (fun _ => rfl)
              · exact hA.elim
            · exact hA.elim
theorem draw_sound {n : Nat} {ops : Array Oper} {id : Nat} {a : Act} {e : Env} {k : Known} {w : World} {K : KE} {Kp : KP} {Q : Exit → Act → World → Prop} (hS : Le Sg P) (hm : P.follows .mixedOrders = true)
    (hn : ∀ o ∈ ops.toList, ∀ x, o.dst = some x → x < n) (ha : Agree n e k a)
    (hp : ∀ ch w' a, a.defers = [] → Kp ch w' → Q (.panic ch) a w')
    (hK : ∀ e' k w a, Agree n e' k a → Fr (dsts ops.toList) e e' → K e' k w → Q .normal a w)
    (hok : drawOk ops.toList (mkTab ops.toList []) = true)
    (h : drawVC Sg ops.toList (mkTab ops.toList []) (2 * ops.toList.length + 2) [] [] e k { w with drawn := w.drawn + 1 } K Kp) : (Code.region id ops true).wp P Q a w := by
  refine wp_region_any hm (sim_sound hS hok hn hp hK (2 * ops.toList.length + 2) ops.size [] [] e k _ _ a ?_ ⟨ha.kn1, ha.kn0⟩ (Fr.refl _ _) ?_ h)
  · have h0 : ∀ j, ¬ lst (Array.replicate ops.size false) j := by
      intro j hj
      unfold lst at hj
      by_cases hjl : j < ops.size <;> simp [hjl] at hj
    have hnil : ∀ {p : Prop} (j : Nat), j ∈ ([] : List Nat) → p := fun j hj => by simp at hj
    exact ⟨by simp, ha.size, ha.defers, fun j hj => absurd hj (h0 j), fun j o _ hj => absurd hj (h0 j), fun j o _ hj => hnil j hj, fun t _ => ha.env t, fun j o _ hj => hnil j hj⟩
  · unfold cnt
    rw [Array.toList_replicate, List.countP_replicate]
    simp
end Go.Vc
end
section
namespace Go.Vc
variable {P : Program} {S : Sig}
theorem allV_spec : ∀ {n : Nat} {f : List Value → Prop}, allV n f → ∀ xs, xs.length = n → f xs
  | 0, _, h, xs, hl => by cases xs with
    | nil => exact h
    | cons x xs => simp at hl
  | n + 1, _, h, xs, hl => by cases xs with
    | nil => simp at hl
    | cons x xs => exact allV_spec (h x) xs (by simpa using hl)
theorem reenv_eq {W : List Nat} {e e2 : Env} (hf : Fr W e e2) : ∀ L : List Nat, reenv W e2 e L (L.map e2) = e2
  | [] => by
    funext t
    unfold reenv
    cases h : memN t W with
    | true => rfl
    | false => exact (hf t (memN_false.1 h)).symm
  | s :: L => by
    funext t
    have := congrFun (reenv_eq hf L) t
    simp only [List.map_cons, reenv]
    rw [beq_t]
    by_cases h : t = s
    · simp [h]
    · simp [h, this]
theorem Agree.re {n : Nat} {W : List Nat} {L : List Nat} {e e2 : Env} {k k2 : Known} {a : Act} (hk : KnOk' e k) (h : Agree n e2 k2 a) (hf : Fr W e e2) :
    Agree n (reenv W e2 e L (L.map e2)) (reknown (L ++ W) k) a := by
  rw [reenv_eq hf]
  refine ⟨h.size, h.env, fun t b ht => ?_, fun t ht => ?_, h.defers⟩
  all_goals
    unfold reknown at ht
    cases hm : memN t (L ++ W) with
    | true => rw [hm] at ht; simp at ht
    | false =>
      rw [hm] at ht
      simp only [cond_false] at ht
      have hnw : t ∉ W := fun hw => memN_false.1 hm (List.mem_append_right _ hw)
      rw [hf t hnw]
      first | exact hk.1 t b ht | exact hk.2 t ht
def Post (n : Nat) (W : List Nat) (e0 : Env) (Q : QE) (Kp : KP) : Exit → Act → World → Prop
  | .panic ch, a, w => a.defers = [] ∧ Kp ch w
  | .outgrown, _, _ => False
  | ex, a, w => ∃ e k, Agree n e k a ∧ Fr W e0 e ∧ Q ex e k w
theorem Post.mono {n : Nat} {W W' : List Nat} {e0 : Env} {Q : QE} {Kp : KP} (hW : ∀ t ∈ W, t ∈ W') {ex : Exit} {a : Act} {w : World} (h : Post n W e0 Q Kp ex a w) : Post n W' e0 Q Kp ex a w := by
  cases ex <;> first | exact h | (obtain ⟨e, k, ha, hf, hq⟩ := h; exact ⟨e, k, ha, hf.mono hW, hq⟩)
theorem Post.seq {n : Nat} {W : List Nat} {e0 : Env} {K : KE} {Q : QE} {Kp : KP} {next : Act → World → Prop} {Q' : Exit → Act → World → Prop}
    (hK : ∀ e k w a, Agree n e k a → Fr W e0 e → K e k w → next a w) (hQ : ∀ ex a w, ex ≠ .normal → Post n W e0 Q Kp ex a w → Q' ex a w) :
    ∀ ex a w, Post n W e0 (thenQ K Q) Kp ex a w → Exit.then next Q' ex a w := by
  intro ex a w h
  cases ex with
  | normal => obtain ⟨e, k, ha, hf, hq⟩ := h; exact hK e k w a ha hf hq
  | exit id => obtain ⟨e, k, ha, hf, hq⟩ := h; exact hQ _ _ _ (by simp) ⟨e, k, ha, hf, hq⟩
  | goto l => obtain ⟨e, k, ha, hf, hq⟩ := h; exact hQ _ _ _ (by simp) ⟨e, k, ha, hf, hq⟩
  | ret => obtain ⟨e, k, ha, hf, hq⟩ := h; exact hQ _ _ _ (by simp) ⟨e, k, ha, hf, hq⟩
  | panic ch => exact hQ _ _ _ (by simp) h
  | outgrown => exact h.elim
theorem Post.base {n : Nat} {W W2 : List Nat} {e0 e1 : Env} {Q : QE} {Kp : KP} (hf : Fr W e0 e1) {ex : Exit} {a : Act} {w : World} (h : Post n W2 e1 Q Kp ex a w) : Post n (W ++ W2) e0 Q Kp ex a w := by
  cases ex <;> first
    | exact h
    | (obtain ⟨e, k, ha, hf2, hq⟩ := h
       exact ⟨e, k, ha, (hf.mono fun t ht => List.mem_append_left _ ht).trans (hf2.mono fun t ht => List.mem_append_right _ ht), hq⟩)
theorem fits_mem {l : List Oper} {n : Nat} (h : (dsts l).all (fun d => Nat.blt d n) = true) : ∀ o ∈ l, ∀ x, o.dst = some x → x < n := fun o ho x hx => by
  have := List.all_eq_true.1 h x (mem_dsts ho hx)
  rwa [Nat.blt_eq] at this
theorem codeVC_sound {n : Nat} (hS : Le S P) (hm : P.follows .mixedOrders = true) (aL aJ : List (Nat × List Nat)) :
    ∀ (c : Code) (e : Env) (k : Known) (w : World) (Q : QE) (Kp : KP) (a : Act), fits n c = true → Agree n e k a → codeVC S aL aJ c e k w Q Kp →
      c.wp P (Post n (writes c) e Q Kp) a w := by
  intro c
  induction c with
  | skip => intro e k w Q Kp a _ ha h; exact wp_skip ⟨e, k, ha, Fr.refl _ _, h⟩
  | region id ops d =>
    intro e k w Q Kp a hfit ha h
    have hn := fits_mem hfit
    unfold codeVC at h
    cases d with
    | false =>
      refine wp_region_list ?_
      exact opsVC_sound hS (n := n) (K := Q .normal) (Kp := Kp) (e0 := e) (fun ch w' a hd hk => ⟨hd, hk⟩) (fun e' k' w a ha' hf hk => ⟨e', k', ha', hf, hk⟩) ops.toList (fun _ h => h) hn a e k w ha (Fr.refl _ _) h
    | true =>
      simp only [cond_true] at h
      cases hok : drawOk ops.toList (mkTab ops.toList []) with
      | false => rw [hok] at h; exact h.elim
      | true =>
        rw [hok] at h
        exact draw_sound (n := n) (K := Q .normal) (Kp := Kp) hS hm hn ha (fun ch w' a hd hk => ⟨hd, hk⟩) (fun e' k' w a ha' hf hk => ⟨e', k', ha', hf, hk⟩) hok h
  | seq x y ihx ihy =>
    intro e k w Q Kp a hfit ha h
    simp only [fits, Bool.and_eq_true] at hfit
    unfold codeVC at h
    refine wp_seq ?_
    split at h
    · refine wp_mono (ihx _ _ _ _ _ _ hfit.1 ha h) (Post.seq (fun e1 k1 w1 a1 ha1 hf1 hk1 => ?_) fun ex a1 w1 _ hq => hq.mono fun t ht => List.mem_append_left _ ht)
      exact wp_mono (ihy _ _ _ _ _ _ hfit.2 ha1 hk1) fun ex a2 w2 hq => hq.base hf1
    · rename_i L hL
      obtain ⟨J, h1, h2⟩ := h
      refine wp_mono (ihx _ _ _ _ _ _ hfit.1 ha h1) (Post.seq (fun e1 k1 w1 a1 ha1 hf1 hk1 => ?_) fun ex a1 w1 _ hq => hq.mono fun t ht => List.mem_append_left _ ht)
      have h3 := allV_spec (h2 w1 e1) (L.map e1) (by simp) hk1
      have ha2 := Agree.re (L := L) ⟨ha.kn1, ha.kn0⟩ ha1 hf1
      refine wp_mono (ihy _ _ _ _ _ _ hfit.2 ha2 h3) fun ex a2 w2 hq => ?_
      rw [reenv_eq hf1] at hq
      exact hq.base hf1
  | cond c x y ihx ihy =>
    intro e k w Q Kp a hfit ha h
    simp only [fits, Bool.and_eq_true] at hfit
    unfold codeVC at h
    have hev := ha.eval
    have hx : ∀ (t : Bool), evalE e c = .bool t → codeVC S aL aJ (if t then x else y) e k w Q Kp → (Code.cond c x y).wp P (Post n (writes (.cond c x y)) e Q Kp) a w := by
      intro t hc hh
      refine wp_cond (t := t) (by rw [hev]; exact hc) ?_
      cases t with
      | true => exact wp_mono (ihx _ _ _ _ _ _ hfit.1 ha hh) fun ex a1 w1 hq => hq.mono fun t ht => List.mem_append_left _ ht
      | false => exact wp_mono (ihy _ _ _ _ _ _ hfit.2 ha hh) fun ex a1 w1 hq => hq.mono fun t ht => List.mem_append_right _ ht
    split at h
    · rename_i hk; exact hx true (kn_ok1 ha hk) h
    · rename_i hk; exact hx false (kn_ok1 ha hk) h
    · obtain ⟨t, hc, ht, hf⟩ := h
      cases t
      · exact hx false hc (hf rfl)
      · exact hx true hc (ht rfl)
  | block id c ih =>
    intro e k w Q Kp a hfit ha h
    unfold codeVC at h
    refine wp_block (wp_mono (ih _ _ _ _ _ _ hfit ha h) fun ex a1 w1 hq => ?_)
    cases ex with
    | exit id' =>
      obtain ⟨e1, k1, ha1, hf1, hq1⟩ := hq
      simp only [blockQ] at hq1
      rw [beq_t] at hq1
      by_cases hid : id' = id
      · simp only [hid, decide_true, cond_true] at hq1
        simp only [Exit.inBlock, hid, if_true]
        exact ⟨e1, k1, ha1, hf1, hq1⟩
      · simp only [hid, decide_false, cond_false] at hq1
        simp only [Exit.inBlock, hid, if_false]
        exact ⟨e1, k1, ha1, hf1, hq1⟩
    | normal => exact hq
    | goto l => exact hq
    | ret => exact hq
    | panic ch => exact hq
    | outgrown => exact hq
  | loop c ih =>
    intro e k w Q Kp a hfit ha h
    unfold codeVC at h
    split at h
    · exact h.elim
    · rename_i L hL
      obtain ⟨I, μ, h1, h2⟩ := h
      refine wp_loop (fun a' w' => ∃ e2 k2, Agree n e2 k2 a' ∧ Fr (writes c) e e2 ∧ I.app L.length (L.map e2) w')
        (fun a' w' => μ.app L.length (L.map fun t => a'.tmps.getD t undef) w') ⟨e, k, ha, Fr.refl _ _, h1⟩ ?_
      rintro a' w' ⟨e2, k2, ha2, hf2, hI⟩
      have h3 := allV_spec (h2 w' e2) (L.map e2) (by simp) hI
      have ha3 := Agree.re (L := L) ⟨ha.kn1, ha.kn0⟩ ha2 hf2
      have hmu : (L.map fun t => a'.tmps.getD t undef) = L.map e2 := List.map_congr_left fun t _ => ha2.env t
      refine wp_mono (ih _ _ _ _ _ _ hfit ha3 h3) ?_
      rw [reenv_eq hf2]
      refine Post.seq (fun e4 k4 w4 a4 ha4 hf4 hk4 => ?_) (fun ex a4 w4 _ hq => ?_)
      · refine ⟨⟨e4, k4, ha4, hf2.trans hf4, hk4.1⟩, ?_⟩
        have hmu4 : (L.map fun t => a4.tmps.getD t undef) = L.map e4 := List.map_congr_left fun t _ => ha4.env t
        rw [hmu, hmu4]
        exact hk4.2
      · have := Post.base hf2 hq
        exact this.mono fun t ht => by rcases List.mem_append.1 ht with h | h <;> exact h
  | exit id => intro e k w Q Kp a _ ha h; exact wp_exit ⟨e, k, ha, Fr.refl _ _, h⟩
  | ret => intro e k w Q Kp a _ ha h; exact wp_ret ⟨e, k, ha, Fr.refl _ _, h⟩
  | _ => intro e k w Q Kp a _ ha h; exact h.elim
theorem load_run {t : TypeId} {v u : Value} {w w' : World} (h : (Instr.loadAt t v).run P w = .ok u w') : w' = w ∧ ∃ p, v = .pointer (some p) ∧ (loadVar t p).run P w = .ok u w := by
  have hcells : ∀ (n : Nat) (p : Addr) (i : Nat) (acc : Array Value) (cs : Array Value) (w w' : World), (loadCellsFrom p i n acc).run P w = .ok cs w' → w' = w := by
    intro n
    induction n with
    | zero => intro p i acc cs w w' h; simp [loadCellsFrom] at h; exact h.2.symm
    | succ n ih =>
      intro p i acc cs w w' h
      simp only [loadCellsFrom, Sem.run_bind, load, Sem.run] at h
      split at h
      · simp only [Result.andThen_ok] at h; exact ih _ _ _ _ _ _ h
      · split at h
        · simp only [Result.andThen_ok] at h; exact ih _ _ _ _ _ _ h
        · simp at h
  cases v with
  | pointer p =>
    cases p with
    | none => simp [Instr.loadAt, Instr.sureAddr, stuck] at h
    | some p =>
      simp only [Instr.loadAt, Instr.sureAddr, Sem.run_bind, Sem.run_pure, Result.andThen_ok] at h
      have hw : w' = w := by
        simp only [loadVar, isAgg, Sem.run_bind] at h
        cases hu : (underlying t).run P w with
        | halt x y => rw [hu] at h; simp at h
        | ok d w1 =>
          have hw1 : w1 = w := by
            simp only [underlying, Sem.run_bind, program, Sem.run, Result.andThen_ok] at hu
            split at hu
            · simp at hu; exact hu.2.symm
            · simp [stuck] at hu
          subst hw1
          rw [hu] at h
          simp only [Result.andThen_ok] at h
          have hld : ∀ w2 : World, (load p).run P w1 = .ok u w2 → w2 = w1 := by
            intro w2 h2
            simp only [load, Sem.run] at h2
            split at h2
            · simp at h2; exact h2.2.symm
            · split at h2
              · simp at h2; exact h2.2.symm
              · simp at h2
          have hag : ∀ w2 : World, (do pure (Value.agg (← loadCells p (← sizeOf t))) : Sem Value).run P w1 = .ok u w2 → w2 = w1 := by
            intro w2 h2
            simp only [Sem.run_bind, sizeOf, typeInfo, program, Sem.run, Result.andThen_ok] at h2
            cases hi : P.info? t with
            | none => rw [hi] at h2; simp [stuck] at h2
            | some inf =>
              rw [hi] at h2
              simp only [Sem.run_pure, Result.andThen_ok] at h2
              cases hc : (loadCells p inf.size).run P w1 with
              | halt x y => rw [hc] at h2; simp at h2
              | ok cs w3 =>
                rw [hc] at h2
                simp at h2
                have := hcells _ _ _ _ _ _ _ hc
                rw [← this]; exact h2.2.symm
          cases d <;> simp only [Sem.run_pure, Result.andThen_ok, if_true, Bool.false_eq_true, if_false] at h <;> first | exact hld _ h | exact hag _ h
      subst hw
      exact ⟨rfl, p, rfl, h⟩
  | _ => simp [Instr.loadAt, Instr.sureAddr, stuck] at h
def rv (tmps : Array Value) : ResultVar → Sem Value
  | .tmp t => pure (tmps.getD t undef)
  | .cell a t => do loadVar t (← asAddr (tmps.getD a undef))
theorem resV_ok (hS : Le S P) (r : ResultVar) {e : Env} {k : Known} {n : Nat} {a : Act} (w : World) (K : Value → Prop) (ha : Agree n e k a) (h : resV S r e w K) :
    ∃ v, (rv a.tmps r).run P w = .ok v w ∧ K v := by
  cases r with
  | tmp t => exact ⟨e t, by simp only [rv, Sem.run_pure]; rw [ha.env], h⟩
  | cell b t =>
    obtain ⟨v, hv, hk⟩ := hS.ld h
    obtain ⟨_, p, hp, hl⟩ := load_run hv
    refine ⟨v, ?_, hk⟩
    have : a.tmps.getD b undef = .pointer (some p) := (ha.env b).trans hp
    simp only [rv, Sem.run_bind, this, asAddr, Sem.run_pure, Result.andThen_ok]
    exact hl
theorem results_rv (fn : Func) (tmps : Array Value) : results fn tmps = (do
    let vs ← fn.results.mapM (rv tmps)
    pure (if h : vs.size = 1 then vs[0] else .tuple vs)) := by
  unfold results
  congr 1
theorem resVC_ok (hS : Le S P) {fn : Func} {rs : List ResultVar} (hrs : fn.results = rs.toArray) {e : Env} {k : Known} {n : Nat} {a : Act} {w : World} {R : Value → World → Prop} (ha : Agree n e k a) (h : resVC S rs e w R) :
    ∃ v, (results fn a.tmps).run P w = .ok v w ∧ R v w := by
  rw [results_rv, hrs]
  match rs, h with
  | [], h => exact ⟨_, by simp, h⟩
  | [r], h =>
    simp only [resVC] at h
    obtain ⟨v, hv, h⟩ := resV_ok hS r w _ ha h
    exact ⟨v, by simp [hv], h⟩
  | [r, s], h =>
    simp only [resVC] at h
    obtain ⟨v, hv, h⟩ := resV_ok hS r w _ ha h
    obtain ⟨u, hu, h⟩ := resV_ok hS s w _ ha h
    exact ⟨.tuple #[v, u], by simp [hv, hu], h⟩
  | [r, s, t], h =>
    simp only [resVC] at h
    obtain ⟨v, hv, h⟩ := resV_ok hS r w _ ha h
    obtain ⟨u, hu, h⟩ := resV_ok hS s w _ ha h
    obtain ⟨x, hx, h⟩ := resV_ok hS t w _ ha h
    exact ⟨.tuple #[v, u, x], by simp [hv, hu, hx], h⟩
  | [r, s, t, q], h =>
    simp only [resVC] at h
    obtain ⟨v, hv, h⟩ := resV_ok hS r w _ ha h
    obtain ⟨u, hu, h⟩ := resV_ok hS s w _ ha h
    obtain ⟨x, hx, h⟩ := resV_ok hS t w _ ha h
    obtain ⟨y, hy, h⟩ := resV_ok hS q w _ ha h
    exact ⟨.tuple #[v, u, x, y], by simp [hv, hu, hx, hy], h⟩
  | [r, s, t, q, p], h =>
    simp only [resVC] at h
    obtain ⟨v, hv, h⟩ := resV_ok hS r w _ ha h
    obtain ⟨u, hu, h⟩ := resV_ok hS s w _ ha h
    obtain ⟨x, hx, h⟩ := resV_ok hS t w _ ha h
    obtain ⟨y, hy, h⟩ := resV_ok hS q w _ ha h
    obtain ⟨z, hz, h⟩ := resV_ok hS p w _ ha h
    exact ⟨.tuple #[v, u, x, y, z], by simp [hv, hu, hx, hy, hz], h⟩
theorem nthD_eq (l : List Value) (i : Nat) : nthD l i = l[i]?.getD undef := by
  induction l generalizing i with
  | nil => simp [nthD]
  | cons x l ih => cases i with
    | zero => simp [nthD]
    | succ i => simpa [nthD] using ih i
theorem fVC_sound {f : FuncId} {fn : Func} {aL aJ : List (Nat × List Nat)} {args : List Value} {w : World} {K : Value → World → Prop} {Kp : KP}
    (hS : Le S P) (hm : P.follows .mixedOrders = true) (hf : P.funcs[f]? = some fn) (hfit : fitsF fn = true) (h : fVC S aL aJ fn args w K Kp) :
    Calls P f args.toArray w (ret K Kp) := by
  unfold fVC at h
  unfold fitsF at hfit
  split at h
  · exact h.elim
  · rename_i c hc
    rw [hc] at hfit
    have ha : Agree fn.ntmps (nthD args) (fun _ => none) { tmps := args.toArray ++ Array.replicate (fn.ntmps - args.toArray.size) undef, defers := [] } := by
      refine ⟨by simp; omega, fun t => ?_, (fun t b h => by cases h), (fun t h => by cases h), rfl⟩
      rw [nthD_eq]
      by_cases ht : t < args.length
      · simp [Array.getElem?_append, ht]
      · by_cases ht2 : t - args.length < fn.ntmps - args.length <;> simp [Array.getElem?_append, ht, ht2]
    refine calls_of_wp hf hc (wp_mono (codeVC_sound hS hm aL aJ c _ _ w _ _ _ hfit ha h) fun ex a w' hq => ?_)
    cases ex with
    | normal =>
      obtain ⟨e, k, ha, _, hq⟩ := hq
      exact ⟨ha.defers, resVC_ok hS (by simp) ha hq⟩
    | ret =>
      obtain ⟨e, k, ha, _, hq⟩ := hq
      exact ⟨ha.defers, resVC_ok hS (by simp) ha hq⟩
    | panic ch => exact hq
    | exit id => obtain ⟨e, k, ha, _, hq⟩ := hq; exact hq.elim
    | goto l => obtain ⟨e, k, ha, _, hq⟩ := hq; exact hq.elim
    | outgrown => exact hq.elim
end Go.Vc
end
section
namespace Go.Vc
variable {P : Program}
/-! ### what the tables say -/
def szOf (P : Program) (t : TypeId) : Option Nat := (P.info? t).map (·.size)
inductive LdK where
  | one
  | agg (n : Nat)
  | unit
def ldk (P : Program) (t : TypeId) : Option LdK :=
  match P.underlying t with
  | some (.struct _) => (szOf P t).map fun | 0 => .unit | n + 1 => .agg (n + 1)
  | some (.array ..) => (szOf P t).map fun | 0 => .unit | n + 1 => .agg (n + 1)
  | some _ => match szOf P t with
    | some 1 => some .one
    | _ => none
  | none => none
def fieldOff (P : Program) (t : TypeId) (f : Nat) : Option (Nat × LdK) :=
  match P.underlying t with
  | some (.struct fs) => match fs[f]? with
    | some fd => match szOf P fd.type with
      | some (_ + 1) => (ldk P fd.type).map fun k => (fd.offset, k)
      | _ => none
    | none => none
  | _ => none
def arrOf (P : Program) (t : TypeId) : Option (Nat × Nat) :=
  match P.underlying t with
  | some (.array n e) => (szOf P e).map fun s => (n, s)
  | _ => none
def sliceOf (P : Program) (t : TypeId) : Option (TypeId × Nat) :=
  match P.underlying t with
  | some (.slice e) => (szOf P e).map fun s => (e, s)
  | _ => none
def zeroOf (P : Program) (t : TypeId) : Option Value := (P.info? t).bind (·.zero)
inductive Kd where
  | bool | int (k : IntKind) | string | pointer | iface | slice | map | func | other
def kd (P : Program) (t : TypeId) : Kd :=
  match P.underlying t with
  | some .bool => .bool
  | some (.int k) => .int k
  | some .string => .string
  | some (.pointer _) => .pointer
  | some (.interface _) => .iface
  | some (.slice _) => .slice
  | some (.map ..) => .map
  | some (.func ..) => .func
  | _ => .other
def hasT (P : Program) (t : TypeId) : Bool := (P.underlying t).isSome
/-! ### operations that only reckon -/
def bitsV (op : BinOp) (k : IntKind) (a b : Int) : Int :=
  match op with
  | .and => k.wrap ((BitVec.ofInt k.bits a &&& BitVec.ofInt k.bits b).toNat : Int)
  | .or => k.wrap ((BitVec.ofInt k.bits a ||| BitVec.ofInt k.bits b).toNat : Int)
  | .xor => k.wrap ((BitVec.ofInt k.bits a ^^^ BitVec.ofInt k.bits b).toNat : Int)
  | _ => k.wrap ((BitVec.ofInt k.bits a &&& ~~~ BitVec.ofInt k.bits b).toNat : Int)
def eqV (op : BinOp) (b : Bool) : Option (Prop × Value) :=
  match op with
  | .eql => some (True, .bool b)
  | .neq => some (True, .bool (!b))
  | _ => none
def intV (op : BinOp) (k : IntKind) (a b : Int) : Option (Prop × Value) :=
  match op with
  | .add => some (True, .int k (k.wrap (a + b)))
  | .sub => some (True, .int k (k.wrap (a - b)))
  | .mul => some (True, .int k (k.wrap (a * b)))
  | .quo => some (b ≠ 0, .int k (k.wrap (a.tdiv b)))
  | .rem => some (b ≠ 0, .int k (a.tmod b))
  | .and => some (True, .int k (bitsV .and k a b))
  | .or => some (True, .int k (bitsV .or k a b))
  | .xor => some (True, .int k (bitsV .xor k a b))
  | .andNot => some (True, .int k (bitsV .andNot k a b))
  | .eql => some (True, .bool (decide (a = b)))
  | .neq => some (True, .bool (!decide (a = b)))
  | .lss => some (True, .bool (decide (a < b)))
  | .leq => some (True, .bool (decide (a ≤ b)))
  | .gtr => some (True, .bool (decide (b < a)))
  | .geq => some (True, .bool (decide (b ≤ a)))
  | _ => none
def strV (op : BinOp) (a b : ByteArray) : Option (Prop × Value) :=
  match op with
  | .add => some (((a.size + b.size : Nat) : Int) ≤ 9223372036854775807, .string (a ++ b))
  | .eql => some (True, .bool (decide (a = b)))
  | .neq => some (True, .bool (!decide (a = b)))
  | .lss => some (True, .bool (Op.bytesLess a.toList b.toList))
  | .gtr => some (True, .bool (!(Op.bytesLess a.toList b.toList || decide (a = b))))
  | .leq => some (True, .bool (Op.bytesLess a.toList b.toList || decide (a = b)))
  | .geq => some (True, .bool (!Op.bytesLess a.toList b.toList))
  | _ => none
def binV (P : Program) (op : BinOp) (t : TypeId) (xc yc : Bool) (x y : Value) : Option (Prop × Value) :=
  match x, y with
  | .int k a, .int k' b => match op with
    | .shl => some (0 ≤ b, .int k (k.wrap (a * 2 ^ min b.toNat k.bits)))
    | .shr => some (0 ≤ b, .int k (a.fdiv (2 ^ min b.toNat k.bits)))
    | _ => if k = k' then intV op k a b else none
  | .string a, .string b => strV op a b
  | .bool a, .bool b => match kd P t with
    | .bool => eqV op (a == b)
    | _ => none
  | .iface _ _, .nilIface => match kd P t with
    | .iface => eqV op false
    | _ => none
  | .nilIface, .iface _ _ => match kd P t with
    | .iface => eqV op false
    | _ => none
  | .nilIface, .nilIface => match kd P t, xc || yc with
    | .iface, true => eqV op true
    | _, _ => none
  | .pointer a, .pointer none => match kd P t with
    | .pointer => eqV op a.isNone
    | _ => none
  | .pointer none, .pointer b => match kd P t with
    | .pointer => eqV op b.isNone
    | _ => none
  | .slice a _ _, .slice none _ _ => match kd P t with
    | .slice => eqV op a.isNone
    | _ => none
  | .map a, .map none => match kd P t with
    | .map => eqV op a.isNone
    | _ => none
  | .func _ _ _, .nilFunc => match kd P t with
    | .func => eqV op false
    | _ => none
  | .nilFunc, .nilFunc => match kd P t with
    | .func => eqV op true
    | _ => none
  | _, _ => none
def partV (k : LdK) (cs : Array Value) (off : Nat) : Option Value :=
  match k with
  | .one => cs[off]?
  | .agg n => some (.agg (cs.extract off (off + n)))
  | .unit => some (.agg #[])
def lowV : Option Value → Option Int
  | none => some 0
  | some (.int _ l) => some l
  | _ => none
def upV (n : Nat) : Option Value → Option Int
  | none => some n
  | some (.int _ h) => some h
  | _ => none
def cutV (len cap : Nat) (lo hi mx : Option Value) : Option (Prop × Nat × Nat × Nat) :=
  match mx with
  | none => match lowV lo, upV len hi with
    | some l, some h => some (0 ≤ l ∧ l ≤ h ∧ h ≤ (cap : Int), l.toNat, h.toNat, cap)
    | _, _ => none
  | some _ => match lowV lo, hi, upV cap mx with
    | some l, some (.int _ h), some m => some (0 ≤ l ∧ l ≤ h ∧ h ≤ m ∧ m ≤ (cap : Int), l.toNat, h.toNat, m.toNat)
    | _, _, _ => none
def pv (P : Program) : VOp → Option (Prop × Value)
  | .nilCheck v => match v with
    | .pointer (some _) => some (True, v)
    | .iface _ _ => some (True, v)
    | .func (.func _) _ _ => some (True, v)
    | _ => none
  | .fieldAddr t x f => match x with
    | .pointer (some p) => (fieldOff P t f).map fun o => (True, .pointer (some (p.add o.1)))
    | _ => none
  | .field t x f => match x, fieldOff P t f with
    | .agg cs, some (o, k) => (partV k cs o).map fun v => (True, v)
    | _, _ => none
  | .indexAddr t x i => match x, i with
    | .pointer (some p), .int _ j => (arrOf P t).map fun ns => (0 ≤ j ∧ j < (ns.1 : Int), .pointer (some (p.add (j.toNat * ns.2))))
    | .slice (some p) len _, .int _ j => (sliceOf P t).map fun es => (0 ≤ j ∧ j < (len : Int), .pointer (some (p.add (j.toNat * es.2))))
    | _, _ => none
  | .index t x i => match x, i with
    | .string s, .int _ j => match kd P t with
      | .string => some (0 ≤ j ∧ j < (s.size : Int), .int .u8 (((s[j.toNat]?).getD 0).toNat : Int))
      | _ => none
    | _, _ => none
  | .bin op t xc yc x y => binV P op t xc yc x y
  | .un op v => match op, v with
    | .not, .bool b => some (True, .bool (!b))
    | .neg, .int k n => some (True, .int k (k.wrap (0 - n)))
    | .xor, .int k n => some (True, .int k (bitsV .xor k (if k.signed then -1 else k.max) n))
    | _, _ => none
  | .conv s d v => match v, kd P d, hasT P s with
    | .int _ n, .int k, true => some (True, .int k (k.wrap n))
    | .string x, .string, true => some (True, .string x)
    | _, _, _ => none
  | .mkIface t v => match kd P t, hasT P t with
    | .iface, _ => none
    | _, true => some (True, .iface t v)
    | _, _ => none
  | .mkFunc fn a b => some (True, .func fn a.toArray b.toArray)
  | .extract x i => match x with
    | .tuple vs => (vs[i]?).map fun v => (True, v)
    | _ => none
  | .tassert x _ at' ok => match x, kd P at', hasT P at' with
    | .iface _ _, .iface, _ => none
    | .iface t v, _, true => if t = at' then some (True, if ok then .tuple #[v, .bool true] else v) else (if ok then (zeroOf P at').map fun z => (True, .tuple #[z, .bool false]) else none)
    | .nilIface, .iface, _ => none
    | .nilIface, _, true => if ok then (zeroOf P at').map fun z => (True, .tuple #[z, .bool false]) else none
    | _, _, _ => none
  | .blt b ts _ args => match b, ts, args with
    | .len, [t], [.slice _ n _] => match kd P t with
      | .slice => some (True, .int .i64 n)
      | _ => none
    | .len, [t], [.string s] => match kd P t with
      | .string => some (True, .int .i64 s.size)
      | _ => none
    | .cap, [t], [.slice _ _ c] => match kd P t with
      | .slice => some (True, .int .i64 c)
      | _ => none
    | _, _, _ => none
  | .slice t x lo hi mx => match x with
    | .slice a len cap => match sliceOf P t, cutV len cap lo hi mx with
      | some (_, s), some (c, l, h, m) => some (c, .slice (if m = l then a else a.map (·.add (l * s))) (h - l) (m - l))
      | _, _ => none
    | .pointer (some a) => match arrOf P t, (arrOf P t).bind fun ns => cutV ns.1 ns.1 lo hi mx with
      | some (_, s), some (c, l, h, m) => some (c, .slice (some (if m = l then a else a.add (l * s))) (h - l) (m - l))
      | _, _ => none
    | .string s => match kd P t, mx, cutV s.size s.size lo hi none with
      | .string, none, some (c, l, h, _) => some (c, .string (s.extract l h))
      | _, _, _ => none
    | _ => none
  | _ => none
end Go.Vc
end
section
namespace Go.Vc
variable {P : Program}
theorem kd_spec (t : TypeId) : match kd P t with
    | .bool => P.underlying t = some .bool
    | .int k => P.underlying t = some (.int k)
    | .string => P.underlying t = some .string
    | .pointer => ∃ e, P.underlying t = some (.pointer e)
    | .iface => ∃ ms, P.underlying t = some (.interface ms)
    | .slice => ∃ e, P.underlying t = some (.slice e)
    | .map => ∃ k e, P.underlying t = some (.map k e)
    | .func => ∃ a b c, P.underlying t = some (.func a b c)
    | .other => ∀ ms, P.underlying t ≠ some (.interface ms) := by
  unfold kd
  cases h : P.underlying t with
  | none => simp
  | some d => cases d <;> simp
theorem hasT_spec {t : TypeId} (h : hasT P t = true) : ∃ d, P.underlying t = some d := Option.isSome_iff_exists.1 h
theorem run_und {t : TypeId} {d : TypeDesc} (h : P.underlying t = some d) (w : World) : (underlying t).run P w = .ok d w := run_underlying h w
theorem run_sz {t : TypeId} {s : Nat} (h : szOf P t = some s) (w : World) : (sizeOf t).run P w = .ok s w := by
  unfold szOf at h
  cases hi : P.info? t with
  | none => simp [hi] at h
  | some i => simp [hi] at h; simp [sizeOf, typeInfo, program, Sem.run, hi, h]
def Good (P : Program) (s : Sem Value) (c : Prop) (v : Value) : Prop := c → ∀ w, s.run P w = .ok v w
theorem guard_pure {op : BinOp} {t : TypeId} {x y : Operand} {u v : Value} (h : eqGuard op t x y u v = pure ()) (s : Sem Value) (w : World) : (do eqGuard op t x y u v; s : Sem Value).run P w = s.run P w := by
  rw [h]; simp
theorem eqV_good {op : BinOp} {t : TypeId} {xc yc : Bool} {x y : Value} {b : Bool} {c : Prop} {v : Value} (he : eqGuard op t (opd xc) (opd yc) x y = pure ())
    (hb1 : binOp .eql t x y = do pure (.bool (← Op.equal t x y))) (hb2 : binOp .neq t x y = do pure (.bool (!(← Op.equal t x y))))
    (hq : ∀ w, (Op.equal t x y).run P w = .ok b w) (h : eqV op b = some (c, v)) : Good P (VOp.bin op t xc yc x y).sem c v := by
  intro _ w
  simp only [VOp.sem]
  rw [guard_pure he]
  cases op <;> simp only [eqV, Option.some.injEq, Prod.mk.injEq, reduceCtorEq] at h
  · rw [hb1]; obtain ⟨_, rfl⟩ := h; simp [hq]
  · rw [hb2]; obtain ⟨_, rfl⟩ := h; simp [hq]
theorem intV_good {op : BinOp} {t : TypeId} {xc yc : Bool} {k : IntKind} {a b : Int} {c : Prop} {v : Value} (hs : op ≠ .shl ∧ op ≠ .shr) (h : intV op k a b = some (c, v)) : Good P (VOp.bin op t xc yc (.int k a) (.int k b)).sem c v := by
  intro hc w
  simp only [VOp.sem]
  rw [guard_pure (eqGuard_at_int ..)]
  cases op <;> simp only [intV, Option.some.injEq, Prod.mk.injEq, reduceCtorEq] at h
  all_goals
    first
    | exact absurd rfl hs.1
    | exact absurd rfl hs.2
    | (obtain ⟨rfl, rfl⟩ := h
       first
       | (simp [binOp, Op.intArith]; done)
       | (simp [binOp, Op.intBits, bitsV]; done)
       | (simp [binOp, Op.intDiv, hc]; done)
       | (simp [binOp, Op.intCmp]; done)
       | (simp [binOp, Op.intCmp]; rfl))
theorem strV_good {op : BinOp} {t : TypeId} {xc yc : Bool} {a b : ByteArray} {c : Prop} {v : Value} (h : strV op a b = some (c, v)) : Good P (VOp.bin op t xc yc (.string a) (.string b)).sem c v := by
  intro hc w
  have he : (a.toList == b.toList) = decide (a = b) := by
    rw [Bool.eq_iff_iff]
    simp only [beq_iff_eq, decide_eq_true_eq]
    refine ⟨fun h => ?_, fun h => by rw [h]⟩
    rw [ByteArray.toList_eq, ByteArray.toList_eq] at h
    obtain ⟨⟨l⟩⟩ := a
    obtain ⟨⟨m⟩⟩ := b
    simp at h
    rw [h]
  simp only [VOp.sem]
  rw [guard_pure (eqGuard_at_string ..)]
  cases op <;> simp only [strV, Option.some.injEq, Prod.mk.injEq, reduceCtorEq] at h
  all_goals
    obtain ⟨rfl, rfl⟩ := h
    first
    | (have hh : (a.size : Int) + (b.size : Int) ≤ 9223372036854775807 := by have := hc; omega
       simp [binOp, Op.stringOp]; exact hh)
    | (simp [binOp, Op.stringOp, he]; done)
theorem equal_nil {t : TypeId} {x y : Value} {b : Bool} (h : ∀ d w, (Op.equalIn (d + 1) t x y).run P w = .ok b w) : ∀ w, (Op.equal t x y).run P w = .ok b w := fun w => h 9999 w
theorem binV_good {op : BinOp} {t : TypeId} {xc yc : Bool} {x y : Value} {c : Prop} {v : Value} (h : binV P op t xc yc x y = some (c, v)) : Good P (VOp.bin op t xc yc x y).sem c v := by
  have K := kd_spec (P := P) t
  unfold binV at h
  split at h
  · -- ints
    rename_i k a k' b
    split at h
    · simp only [Option.some.injEq, Prod.mk.injEq] at h
      obtain ⟨rfl, rfl⟩ := h
      intro hc w
      simp only [VOp.sem]
      rw [guard_pure (eqGuard_shl ..)]
      simp [binOp, Op.shift, Int.not_lt.2 hc]
    · simp only [Option.some.injEq, Prod.mk.injEq] at h
      obtain ⟨rfl, rfl⟩ := h
      intro hc w
      simp only [VOp.sem]
      rw [guard_pure (eqGuard_shr ..)]
      simp [binOp, Op.shift, Int.not_lt.2 hc]
    · rename_i h1 h2
      split at h
      · rename_i hk; subst hk; exact intV_good ⟨h1, h2⟩ h
      · cases h
  · exact strV_good h
  case h_3 =>
    split at h
    · rename_i hkd
      rw [hkd] at K
      refine eqV_good (eqGuard_at_bool ..) ?_ ?_ (equal_nil fun d w => ?_) h <;> simp [binOp, Op.equalIn, run_und K]
    · cases h
  case h_4 =>
    split at h
    · rename_i hkd
      rw [hkd] at K
      obtain ⟨ms, K⟩ := K
      refine eqV_good (eqGuard_at_iface ..) ?_ ?_ (equal_nil fun d w => ?_) h <;> simp [binOp, Op.equalIn, run_und K]
    · cases h
  case h_5 =>
    split at h
    · rename_i hkd
      rw [hkd] at K
      obtain ⟨ms, K⟩ := K
      refine eqV_good (eqGuard_nil_iface ..) ?_ ?_ (equal_nil fun d w => ?_) h <;> simp [binOp, Op.equalIn, run_und K]
    · cases h
  case h_6 =>
    split at h
    · rename_i hkd hc
      rw [hkd] at K
      obtain ⟨ms, K⟩ := K
      refine eqV_good ?_ ?_ ?_ (equal_nil fun d w => ?_) h
      · cases xc with
        | true => exact eqGuard_nil_constL ..
        | false =>
          cases yc with
          | true => exact eqGuard_nil_constR ..
          | false => cases hc
      all_goals simp [binOp, Op.equalIn, run_und K]
    · cases h
  case h_7 =>
    rename_i a
    split at h
    · rename_i hkd
      rw [hkd] at K
      obtain ⟨ms, K⟩ := K
      refine eqV_good (eqGuard_at_pointer ..) ?_ ?_ (equal_nil fun d w => ?_) h
      · cases a <;> simp [binOp]
      · cases a <;> simp [binOp]
      · cases a <;> simp [Op.equalIn, run_und K]
    · cases h
  case h_8 =>
    rename_i a _
    split at h
    · rename_i hkd
      rw [hkd] at K
      obtain ⟨ms, K⟩ := K
      refine eqV_good (eqGuard_at_pointer ..) ?_ ?_ (equal_nil fun d w => ?_) h
      · cases a <;> simp [binOp]
      · cases a <;> simp [binOp]
      · cases a <;> simp [Op.equalIn, run_und K]
    · cases h
  case h_9 =>
    rename_i a _ _ _ _
    split at h
    · rename_i hkd
      rw [hkd] at K
      obtain ⟨ms, K⟩ := K
      refine eqV_good (eqGuard_at_slice ..) ?_ ?_ (equal_nil fun d w => ?_) h
      · cases a <;> simp [binOp]
      · cases a <;> simp [binOp]
      · cases a <;> simp [Op.equalIn, run_und K]
    · cases h
  case h_10 =>
    rename_i a
    split at h
    · rename_i hkd
      rw [hkd] at K
      obtain ⟨ms, me, K⟩ := K
      refine eqV_good (eqGuard_at_map ..) ?_ ?_ (equal_nil fun d w => ?_) h
      · cases a <;> simp [binOp]
      · cases a <;> simp [binOp]
      · cases a <;> simp [Op.equalIn, run_und K]
    · cases h
  case h_11 =>
    split at h
    · rename_i hkd
      rw [hkd] at K
      obtain ⟨ms, me, mf, K⟩ := K
      refine eqV_good (eqGuard_at_func ..) ?_ ?_ (equal_nil fun d w => ?_) h <;> simp [binOp, Op.equalIn, run_und K]
    · cases h
  case h_12 =>
    split at h
    · rename_i hkd
      rw [hkd] at K
      obtain ⟨ms, me, mf, K⟩ := K
      refine eqV_good (eqGuard_at_nilFunc ..) ?_ ?_ (equal_nil fun d w => ?_) h <;> simp [binOp, Op.equalIn, run_und K]
    · cases h
  case h_13 => cases h
theorem ldk_part {t : TypeId} {k : LdK} (h : ldk P t = some k) {cs : Array Value} {off : Nat} {v : Value} (hv : partV k cs off = some v) (w : World) : (part t cs off).run P w = .ok v w := by
  unfold ldk at h
  cases hu : P.underlying t with
  | none => simp [hu] at h
  | some d =>
    rw [hu] at h
    cases d with
    | struct fs =>
      simp only [Option.map_eq_some_iff] at h
      obtain ⟨n, hn, rfl⟩ := h
      cases n with
      | zero =>
        simp only [partV, Option.some.injEq] at hv
        subst hv
        simp [part, isAgg, run_und hu, run_sz hn]
        try omega
      | succ n =>
        simp only [partV, Option.some.injEq] at hv
        subst hv
        simp [part, isAgg, run_und hu, run_sz hn]
    | array m e =>
      simp only [Option.map_eq_some_iff] at h
      obtain ⟨n, hn, rfl⟩ := h
      cases n with
      | zero =>
        simp only [partV, Option.some.injEq] at hv
        subst hv
        simp [part, isAgg, run_und hu, run_sz hn]
        try omega
      | succ n =>
        simp only [partV, Option.some.injEq] at hv
        subst hv
        simp [part, isAgg, run_und hu, run_sz hn]
    | _ =>
      simp only at h
      split at h
      · simp only [Option.some.injEq] at h
        subst h
        simp only [partV] at hv
        simp [part, isAgg, run_und hu, hv]
      · cases h
theorem run_bounds {x : Value} {k : IntKind} {i : Int} {y : Nat} {c : BoundsCode} (hx : x = .int k i) (h0 : 0 ≤ i) (h1 : i ≤ (y : Int)) (w : World) : (Instr.sliceBound x y c).run P w = .ok i.toNat w := by
  subst hx
  simp [Instr.sliceBound, asIntOf, h0, h1]
theorem lowV_spec {lo : Option Value} {l : Int} (h : lowV lo = some l) : (lo = none ∧ l = 0) ∨ ∃ k, lo = some (.int k l) := by
  unfold lowV at h
  split at h
  · exact .inl ⟨rfl, (Option.some.inj h).symm⟩
  · rename_i k l'; exact .inr ⟨k, by rw [Option.some.inj h]⟩
  · cases h
theorem upV_spec {n : Nat} {hi : Option Value} {l : Int} (h : upV n hi = some l) : (hi = none ∧ l = n) ∨ ∃ k, hi = some (.int k l) := by
  unfold upV at h
  split at h
  · exact .inl ⟨rfl, (Option.some.inj h).symm⟩
  · rename_i k l'; exact .inr ⟨k, by rw [Option.some.inj h]⟩
  · cases h
theorem run_cut {isS : Bool} {len cap : Nat} {lo hi mx : Option Value} {c : Prop} {l h m : Nat} (hc : cutV len cap lo hi mx = some (c, l, h, m)) (hcc : c) (w : World) :
    (Instr.sliceBounds isS len cap lo hi mx).run P w = .ok (l, h, m) w := by
  unfold cutV at hc
  cases mx with
  | none =>
    simp only at hc
    split at hc
    · rename_i li ui hl hh
      simp only [Option.some.injEq, Prod.mk.injEq] at hc
      obtain ⟨rfl, rfl, rfl, rfl⟩ := hc
      obtain ⟨h1, h2, h3⟩ := hcc
      have h4 : (0 : Int) ≤ ui := Int.le_trans h1 h2
      have h5 : li ≤ ((ui.toNat : Nat) : Int) := by omega
      unfold Instr.sliceBounds
      rcases upV_spec hh with ⟨rfl, rfl⟩ | ⟨k, rfl⟩ <;> rcases lowV_spec hl with ⟨rfl, rfl⟩ | ⟨k', rfl⟩
      · simp
      · simp only [Int.toNat_natCast] at h5 ⊢
        simp [run_bounds rfl h1 h5]
      · simp [run_bounds rfl h4 h3]
      · simp [run_bounds rfl h4 h3, run_bounds rfl h1 h5]
    · cases hc
  | some mv =>
    simp only at hc
    split at hc
    · rename_i li k ui mi hl hm
      simp only [Option.some.injEq, Prod.mk.injEq] at hc
      obtain ⟨rfl, rfl, rfl, rfl⟩ := hc
      obtain ⟨h1, h2, h3, h4⟩ := hcc
      unfold Instr.sliceBounds
      rcases upV_spec hm with ⟨hx, _⟩ | ⟨k2, hx⟩
      · cases hx
      · cases hx
        have h5 : (0 : Int) ≤ mi := Int.le_trans h1 (Int.le_trans h2 h3)
        have h6 : (0 : Int) ≤ ui := Int.le_trans h1 h2
        have h7 : ui ≤ ((mi.toNat : Nat) : Int) := by omega
        have h8 : li ≤ ((ui.toNat : Nat) : Int) := by omega
        rcases lowV_spec hl with ⟨rfl, rfl⟩ | ⟨k', rfl⟩
        · simp [run_bounds rfl h5 h4, run_bounds rfl h6 h7]
        · simp [run_bounds rfl h5 h4, run_bounds rfl h6 h7, run_bounds rfl h1 h8]
    · cases hc
theorem field_spec {t : TypeId} {f : Nat} {o : Nat} {k : LdK} (h : fieldOff P t f = some (o, k)) : ∃ fs fd s, P.underlying t = some (.struct fs) ∧ fs[f]? = some fd ∧ szOf P fd.type = some (s + 1) ∧ ldk P fd.type = some k ∧ fd.offset = o := by
  unfold fieldOff at h
  split at h
  · rename_i fs hu
    split at h
    · rename_i fd hf
      split at h
      · rename_i s hs
        simp only [Option.map_eq_some_iff, Prod.mk.injEq] at h
        obtain ⟨k', hk, ho, rfl⟩ := h
        exact ⟨fs, fd, s, hu, hf, hs, hk, ho⟩
      · cases h
    · cases h
  · cases h
theorem arr_spec {t : TypeId} {n s : Nat} (h : arrOf P t = some (n, s)) : ∃ e, P.underlying t = some (.array n e) ∧ szOf P e = some s := by
  unfold arrOf at h
  split at h
  · rename_i n' e hu
    simp only [Option.map_eq_some_iff, Prod.mk.injEq] at h
    obtain ⟨s', hs, rfl, rfl⟩ := h
    exact ⟨e, hu, hs⟩
  · cases h
theorem slice_spec {t e : TypeId} {s : Nat} (h : sliceOf P t = some (e, s)) : P.underlying t = some (.slice e) ∧ szOf P e = some s := by
  unfold sliceOf at h
  split at h
  · rename_i e' hu
    simp only [Option.map_eq_some_iff, Prod.mk.injEq] at h
    obtain ⟨s', hs, rfl, rfl⟩ := h
    exact ⟨hu, hs⟩
  · cases h
theorem pv_good {x : VOp} {c : Prop} {v : Value} (h : pv P x = some (c, v)) : Good P x.sem c v := by
  cases x with
  | nilCheck y =>
    simp only [pv] at h
    split at h <;> simp only [Option.some.injEq, Prod.mk.injEq, reduceCtorEq] at h <;> obtain ⟨_, rfl⟩ := h <;> intro _ w <;> simp [VOp.sem, nilSem]
  | fieldAddr t y f =>
    simp only [pv] at h
    split at h
    · rename_i p
      simp only [Option.map_eq_some_iff, Prod.mk.injEq] at h
      obtain ⟨⟨o, k⟩, ho, rfl, rfl⟩ := h
      obtain ⟨fs, fd, s, hu, hf, hs, hk, hoff⟩ := field_spec ho
      intro _ w
      simp [VOp.sem, Instr.fieldAt, run_und hu, hf, Instr.sureAddr, fieldPlace, run_sz hs, hoff]
    · cases h
  | field t y f =>
    simp only [pv] at h
    split at h
    · rename_i cs o k ho
      simp only [Option.map_eq_some_iff, Prod.mk.injEq] at h
      obtain ⟨u, hu', rfl, rfl⟩ := h
      obtain ⟨fs, fd, s, hu, hf, hs, hk, hoff⟩ := field_spec ho
      intro _ w
      simp [VOp.sem, Instr.field, run_und hu, hf, asAgg, hoff, ldk_part hk hu']
    · cases h
  | indexAddr t y i =>
    simp only [pv] at h
    split at h
    · rename_i p k j
      simp only [Option.map_eq_some_iff, Prod.mk.injEq] at h
      obtain ⟨⟨n, s⟩, hn, rfl, rfl⟩ := h
      obtain ⟨e, hu, hs⟩ := arr_spec hn
      intro hc w
      simp [VOp.sem, Instr.indexAt, asIntOf, run_und hu, Instr.sureAddr, hc.1, hc.2, run_sz hs]
    · rename_i p len cap k j
      simp only [Option.map_eq_some_iff, Prod.mk.injEq] at h
      obtain ⟨⟨e, s⟩, hn, rfl, rfl⟩ := h
      obtain ⟨hu, hs⟩ := slice_spec hn
      intro hc w
      simp [VOp.sem, Instr.indexAt, asIntOf, run_und hu, hc.1, hc.2, run_sz hs]
    · cases h
  | index t y i =>
    simp only [pv] at h
    split at h
    · rename_i s k j
      split at h
      · rename_i hk
        simp only [Option.some.injEq, Prod.mk.injEq] at h
        obtain ⟨rfl, rfl⟩ := h
        have K := kd_spec (P := P) t
        rw [hk] at K
        intro hc w
        have hlt : j.toNat < s.size := by omega
        have hg : s[j.toNat]? = some s[j.toNat] := by simp [hlt]
        simp [VOp.sem, Instr.index, asIntOf, run_und K, hc.1, hg]
      · cases h
    · cases h
  | bin op t xc yc a b => exact binV_good h
  | un op y =>
    simp only [pv] at h
    split at h <;> simp only [Option.some.injEq, Prod.mk.injEq, reduceCtorEq] at h <;> obtain ⟨_, rfl⟩ := h <;> intro _ w <;> simp [VOp.sem, Op.unary, Op.intArith, Op.intBits, bitsV]
  | conv s d y =>
    simp only [pv] at h
    have K := kd_spec (P := P) d
    split at h
    · rename_i k n k' hd hs
      rw [hd] at K
      obtain ⟨ds, hs⟩ := hasT_spec hs
      simp only [Option.some.injEq, Prod.mk.injEq] at h
      obtain ⟨_, rfl⟩ := h
      intro _ w
      cases ds <;> simp [VOp.sem, convert, run_und hs, run_und K, Conv.intToInt]
    · rename_i k hd hs
      rw [hd] at K
      obtain ⟨ds, hs⟩ := hasT_spec hs
      simp only [Option.some.injEq, Prod.mk.injEq] at h
      obtain ⟨_, rfl⟩ := h
      intro _ w
      cases ds <;> simp [VOp.sem, convert, run_und hs, run_und K]
    · cases h
  | mkIface t y =>
    simp only [pv] at h
    have K := kd_spec (P := P) t
    split at h
    · cases h
    · rename_i hs hk
      obtain ⟨ds, hs⟩ := hasT_spec hs
      simp only [Option.some.injEq, Prod.mk.injEq] at h
      obtain ⟨_, rfl⟩ := h
      intro _ w
      have hni : ∀ ms, ds ≠ .interface ms := by
        rintro ms rfl
        exact hk (by simp [kd, hs])
      cases ds <;> first | (exact absurd rfl (hni _)) | simp [VOp.sem, Instr.makeInterface, run_und hs]
    · cases h
  | mkFunc fn a b =>
    simp only [pv, Option.some.injEq, Prod.mk.injEq] at h
    obtain ⟨_, rfl⟩ := h
    intro _ w
    simp [VOp.sem, Instr.makeFunc]
  | extract y i =>
    simp only [pv] at h
    split at h
    · rename_i vs
      simp only [Option.map_eq_some_iff, Prod.mk.injEq] at h
      obtain ⟨u, hu, _, rfl⟩ := h
      intro _ w
      simp [VOp.sem, Instr.extract, hu]
    · cases h
  | tassert y xt at' ok =>
    simp only [pv] at h
    have hz : ∀ {z : Value}, zeroOf P at' = some z → ∀ w, (zeroValue at').run P w = .ok z w := by
      intro z hz w
      unfold zeroOf at hz
      cases hi : P.info? at' with
      | none => simp [hi] at hz
      | some i => simp [hi] at hz; simp [zeroValue, typeInfo, program, Sem.run, hi, hz]
    have hni : ∀ {ds}, kd P at' ≠ .iface → P.underlying at' = some ds → ∀ ms, ds ≠ .interface ms := by
      rintro ds hk hs ms rfl
      simp [kd, hs] at hk
    split at h
    · cases h
    · rename_i t u hs hk
      obtain ⟨ds, hs⟩ := hasT_spec hs
      have hn := hni hk hs
      split at h
      · rename_i ht
        simp only [Option.some.injEq, Prod.mk.injEq] at h
        obtain ⟨_, rfl⟩ := h
        intro _ w
        cases ds <;> first | (exact absurd rfl (hn _)) | (cases ok <;> simp [VOp.sem, Instr.typeAssert, run_und hs, ht])
      · rename_i ht
        split at h
        · rename_i hok
          simp only [Option.map_eq_some_iff, Prod.mk.injEq] at h
          obtain ⟨z, hz', _, rfl⟩ := h
          intro _ w
          cases ds <;> first | (exact absurd rfl (hn _)) | simp [VOp.sem, Instr.typeAssert, run_und hs, ht, hok, hz hz']
        · cases h
    · cases h
    · rename_i hs hk
      obtain ⟨ds, hs⟩ := hasT_spec hs
      have hn := hni hk hs
      split at h
      · rename_i hok
        simp only [Option.map_eq_some_iff, Prod.mk.injEq] at h
        obtain ⟨z, hz', _, rfl⟩ := h
        intro _ w
        cases ds <;> first | (exact absurd rfl (hn _)) | simp [VOp.sem, Instr.typeAssert, run_und hs, hok, hz hz']
      · cases h
    · cases h
  | blt b ts ty args =>
    simp only [pv] at h
    split at h
    · rename_i t a n cap
      have K := kd_spec (P := P) t
      split at h
      · rename_i hk
        rw [hk] at K
        obtain ⟨e, K⟩ := K
        simp only [Option.some.injEq, Prod.mk.injEq] at h
        obtain ⟨_, rfl⟩ := h
        intro _ w
        simp [VOp.sem, bltSem, Builtin.len_, run_und K, goInt]
      · cases h
    · rename_i t s
      have K := kd_spec (P := P) t
      split at h
      · rename_i hk
        rw [hk] at K
        simp only [Option.some.injEq, Prod.mk.injEq] at h
        obtain ⟨_, rfl⟩ := h
        intro _ w
        simp [VOp.sem, bltSem, Builtin.len_, run_und K, goInt]
      · cases h
    · rename_i t a n cap
      have K := kd_spec (P := P) t
      split at h
      · rename_i hk
        rw [hk] at K
        obtain ⟨e, K⟩ := K
        simp only [Option.some.injEq, Prod.mk.injEq] at h
        obtain ⟨_, rfl⟩ := h
        intro _ w
        simp [VOp.sem, bltSem, Builtin.cap_, run_und K, goInt]
      · cases h
    · cases h
  | slice t y lo hi mx =>
    simp only [pv] at h
    split at h
    · rename_i a len cap
      split at h
      · rename_i e s c' l hh m hs hc
        simp only [Option.some.injEq, Prod.mk.injEq] at h
        obtain ⟨rfl, rfl⟩ := h
        obtain ⟨hu, hsz⟩ := slice_spec hs
        intro hcc w
        simp [VOp.sem, Instr.sliceAt, Instr.slice, run_und hu, run_cut hc hcc, run_sz hsz]
      · cases h
    · rename_i a
      split at h
      · rename_i n s c' l hh m hs hc
        simp only [Option.some.injEq, Prod.mk.injEq] at h
        obtain ⟨rfl, rfl⟩ := h
        obtain ⟨e, hu, hsz⟩ := arr_spec hs
        rw [hs] at hc
        simp only [Option.bind_some] at hc
        intro hcc w
        simp [VOp.sem, Instr.sliceAt, run_und hu, Instr.sureAddr, run_cut hc hcc, run_sz hsz]
      · cases h
    · rename_i s
      have K := kd_spec (P := P) t
      split at h
      · rename_i c' l hh m hk hc
        rw [hk] at K
        simp only [Option.some.injEq, Prod.mk.injEq] at h
        obtain ⟨rfl, rfl⟩ := h
        intro hcc w
        simp [VOp.sem, Instr.sliceAt, Instr.slice, run_und K, run_cut hc hcc]
      · cases h
    · cases h
  | _ => simp [pv] at h
end Go.Vc
end
section
def Go.World.upd (w : Go.World) (b : Nat) (o : Go.Obj) : Go.World := { w with heap := w.heap.setIfInBounds b o }
namespace Go.Vc
variable {P : Program}
def ow (cs : Array Value) (off : Nat) : List Value → Array Value
  | [] => cs
  | v :: l => ow (cs.setIfInBounds off v) (off + 1) l
@[simp] theorem size_ow (l : List Value) : ∀ (cs : Array Value) (off : Nat), (ow cs off l).size = cs.size := by
  induction l with
  | nil => intro cs off; rfl
  | cons v l ih => intro cs off; simp [ow, ih]
def loadN (P : Program) (t : TypeId) (p : Addr) (w : World) (K : Value → Prop) : Prop :=
  match ldk P t with
  | some .one => ∃ cs e fz, w.heap[p.block]? = some (.cells cs e fz) ∧ p.spot = none ∧ ∃ v, cs[p.off]? = some v ∧ K v
  | some (.agg n) => ∃ cs e fz, w.heap[p.block]? = some (.cells cs e fz) ∧ p.spot = none ∧ p.off + n ≤ cs.size ∧ K (.agg (cs.extract p.off (p.off + n)))
  | some .unit => K (.agg #[])
  | none => False
def storeN (P : Program) (t : TypeId) (p : Addr) (v : Value) (w : World) (K : World → Prop) : Prop :=
  match ldk P t with
  | some .one => ∃ cs e, w.heap[p.block]? = some (.cells cs e (0, 0)) ∧ p.spot = none ∧ p.off < cs.size ∧ v.oneCell' = true ∧ K (w.upd p.block (.cells (cs.setIfInBounds p.off v) e (0, 0)))
  | some (.agg n) => ∃ vs, v = .agg vs ∧ vs.size = n ∧ (∀ u ∈ vs.toList, u.oneCell' = true) ∧
      ∃ cs e, w.heap[p.block]? = some (.cells cs e (0, 0)) ∧ p.spot = none ∧ p.off + n ≤ cs.size ∧ K (w.upd p.block (.cells (ow cs p.off vs.toList) e (0, 0)))
  | some .unit => v = .agg #[] ∧ K w
  | none => False
def placesOf (P : Program) (fs : Array Field) : Option (Array (Nat × Nat)) := fs.mapM fun f => (szOf P f.type).map fun s => (f.offset, s)
def buildV (P : Program) (t : TypeId) (ps : List (Nat × Value)) : Option Value :=
  match P.underlying t, zeroOf P t with
  | some (.struct fs), some z => match placesOf P fs with
    | some pl => (Instr.fill (pl[·]?) z.cells ps).map .agg
    | none => none
  | some (.array _ e), some z => match szOf P e with
    | some s => (Instr.fill (fun i => some (i * s, s)) z.cells ps).map .agg
    | none => none
  | _, _ => none
def sliceLit (P : Program) (t : TypeId) (n : Nat) (ps : List (Nat × Value)) : Option (TypeId × Array Value) :=
  match sliceOf P t with
  | some (e, s) => if n * s = 0 then (Instr.fill (fun i => some (i * s, s)) #[] ps).map (fun cs => (e, cs)) else if 16777216 < n * s then none else match zeroOf P e with
    | some z => (Instr.fill (fun i => some (i * s, s)) ((Array.range (n * s)).map (z.cells[· % z.cells.size]!)) ps).map fun cs => (e, cs)
    | none => none
  | none => none
def memOp (P : Program) (x : VOp) (w : World) (K : Value → World → Prop) (Kp : KP) : Prop :=
  match x with
  | .load t (.pointer (some p)) => loadN P t p w fun v => K v w
  | .store t (.pointer (some p)) v => storeN P t p v w fun w' => K undef w'
  | .alloc t => match zeroOf P t with
    | some z => K (.pointer (some ⟨w.heap.size, 0, none⟩)) (w.alloc (.cells z.cells t))
    | none => False
  | .box t v => K (.pointer (some ⟨w.heap.size, 0, none⟩)) (w.alloc (.cells v.cells t))
  | .build t ps => match buildV P t ps with
    | some v => K v w
    | none => False
  | .buildSlice t n ps => match sliceLit P t n ps with
    | some (e, cs) => K (.slice (some ⟨w.heap.size, 0, none⟩) n n) (w.alloc (.cells cs e))
    | none => False
  | .panic (.iface t v) => Kp [{ v := .iface t v, recovered := false }] w
  | x => outOf P x.sem w K Kp
def niceOp (P : Program) (x : VOp) (w : World) (K : Value → World → Prop) (Kp : KP) : Prop :=
  match pv P x with
  | some (c, v) => c ∧ K v w
  | none => memOp P x w K Kp
def nicePur (P : Program) (x : VOp) (K : Value → Prop) : Prop :=
  match pv P x with
  | some (c, v) => c ∧ K v
  | none => match x with
    | .build t ps => match buildV P t ps with
      | some v => K v
      | none => False
    | x => ∃ v, (∀ w, x.sem.run P w = .ok v w) ∧ K v
def niceLd (P : Program) (x : VOp) (w : World) (K : Value → Prop) : Prop :=
  match x with
  | .load t (.pointer (some p)) => loadN P t p w K
  | x => ∃ v, x.sem.run P w = .ok v w ∧ K v
def niceSame (P : Program) (x : VOp) (v : Value) (w : World) : Prop :=
  match x with
  | .load t (.pointer (some p)) => loadN P t p w fun u => u = v
  | x => x.sem.run P w = .ok v w
def nice (P : Program) : Sig where
  op := niceOp P
  call c args w K Kp := callOut P (c.deferred args.toArray >>= fun d => invoke d.target d.args) w K Kp
  pur := nicePur P
  ld := niceLd P
  same := niceSame P
theorem ldk_one {t : TypeId} (h : ldk P t = some .one) : szOf P t = some 1 ∧ ∀ w, (isAgg t).run P w = .ok false w := by
  unfold ldk at h
  cases hu : P.underlying t with
  | none => rw [hu] at h; cases h
  | some d =>
    rw [hu] at h
    have hr := fun w => run_und hu w
    cases d <;> simp only [Option.map_eq_some_iff] at h
    case struct fs =>
      obtain ⟨m, hm, he⟩ := h
      cases m <;> cases he
    case array k e =>
      obtain ⟨m, hm, he⟩ := h
      cases m <;> cases he
    all_goals
      split at h
      · rename_i hs; exact ⟨hs, fun w => by simp [isAgg, hr]⟩
      · cases h
theorem ldk_unit {t : TypeId} (h : ldk P t = some .unit) : szOf P t = some 0 ∧ ∀ w, (isAgg t).run P w = .ok true w := by
  unfold ldk at h
  cases hu : P.underlying t with
  | none => rw [hu] at h; cases h
  | some d =>
    rw [hu] at h
    have hr := fun w => run_und hu w
    cases d <;> simp only [Option.map_eq_some_iff] at h
    case struct fs =>
      obtain ⟨m, hm, he⟩ := h
      cases m with
      | zero => exact ⟨hm, fun w => by simp [isAgg, hr]⟩
      | succ m => cases he
    case array k e =>
      obtain ⟨m, hm, he⟩ := h
      cases m with
      | zero => exact ⟨hm, fun w => by simp [isAgg, hr]⟩
      | succ m => cases he
    all_goals
      split at h <;> cases h
theorem ldk_agg {t : TypeId} {n : Nat} (h : ldk P t = some (.agg n)) : szOf P t = some n ∧ ∀ w, (isAgg t).run P w = .ok true w := by
  unfold ldk at h
  cases hu : P.underlying t with
  | none => rw [hu] at h; cases h
  | some d =>
    rw [hu] at h
    have hr := fun w => run_und hu w
    cases d <;> simp only [Option.map_eq_some_iff] at h
    case struct fs =>
      obtain ⟨m, hm, he⟩ := h
      cases m with
      | zero => cases he
      | succ m =>
      injection he with he
      subst he
      exact ⟨hm, fun w => by simp [isAgg, hr]⟩
    case array k e =>
      obtain ⟨m, hm, he⟩ := h
      cases m with
      | zero => cases he
      | succ m =>
      injection he with he
      subst he
      exact ⟨hm, fun w => by simp [isAgg, hr]⟩
    all_goals
      split at h
      · cases h
      · cases h
theorem cell_of {w : World} {p : Addr} {cs : Array Value} {e : TypeId} {fz : Nat × Nat} (h : w.heap[p.block]? = some (.cells cs e fz)) (hs : p.spot = none) : w.cell? p = cs[p.off]? := by
  simp [World.cell?, h, hs]
@[simp] theorem add_spot {p : Addr} (hs : p.spot = none) (i : Nat) : p.add i = ⟨p.block, p.off + i, none⟩ := by
  obtain ⟨b, o, s⟩ := p
  simp only at hs
  subst hs
  unfold Addr.add
  split
  · subst_vars; rfl
  · rfl
theorem run_cells {w : World} {p : Addr} {cs : Array Value} {e : TypeId} {fz : Nat × Nat} (h : w.heap[p.block]? = some (.cells cs e fz)) (hs : p.spot = none) :
    ∀ (n i : Nat) (acc : Array Value), p.off + i + n ≤ cs.size → (loadCellsFrom p i n acc).run P w = .ok (acc ++ cs.extract (p.off + i) (p.off + i + n)) w := by
  intro n
  induction n with
  | zero => intro i acc _; simp [loadCellsFrom]; omega
  | succ n ih =>
    intro i acc hle
    have hc : w.cell? (p.add i) = some cs[p.off + i] := by
      rw [add_spot hs, cell_of (p := ⟨p.block, p.off + i, none⟩) h rfl]
      exact Array.getElem?_eq_getElem (show p.off + i < cs.size by omega)
    simp only [loadCellsFrom, Sem.run_bind, load, Sem.run, hc, Result.andThen_ok]
    rw [ih (i + 1) _ (by omega)]
    congr 1
    apply Array.toList_inj.1
    simp only [Array.toList_append, Array.toList_push, Array.toList_extract, List.append_assoc]
    congr 1
    have : p.off + (i + 1) = p.off + i + 1 := by omega
    rw [this, show p.off + i + 1 + n = p.off + i + (n + 1) from by omega]
    have hlt : p.off + i < cs.toList.length := by simp; omega
    rw [List.extract_eq_take_drop, List.extract_eq_take_drop, List.drop_eq_getElem_cons hlt, show p.off + i + (n + 1) - (p.off + i) = n + 1 from by omega,
      show p.off + i + (n + 1) - (p.off + i + 1) = n from by omega]
    simp
theorem loadN_run {t : TypeId} {p : Addr} {w : World} {K : Value → Prop} (h : loadN P t p w K) : ∃ v, (VOp.load t (.pointer (some p))).sem.run P w = .ok v w ∧ K v := by
  unfold loadN at h
  split at h
  · rename_i hk
    obtain ⟨cs, e, fz, hb, hs, v, hv, hK⟩ := h
    obtain ⟨hz, ha⟩ := ldk_one hk
    refine ⟨v, ?_, hK⟩
    have hc : w.cell? p = some v := by rw [cell_of hb hs, hv]
    simp [VOp.sem, Instr.loadAt, Instr.sureAddr, loadVar, ha, load, Sem.run, hc]
  · rename_i n hk
    obtain ⟨cs, e, fz, hb, hs, hle, hK⟩ := h
    obtain ⟨hz, ha⟩ := ldk_agg hk
    refine ⟨_, ?_, hK⟩
    have := run_cells (P := P) hb hs n 0 #[] (by omega)
    simp [VOp.sem, Instr.loadAt, Instr.sureAddr, loadVar, ha, run_sz hz, loadCells, this]
  · rename_i hk
    obtain ⟨hz, ha⟩ := ldk_unit hk
    refine ⟨_, ?_, h⟩
    simp [VOp.sem, Instr.loadAt, Instr.sureAddr, loadVar, ha, run_sz hz, loadCells, loadCellsFrom]
  · exact h.elim
theorem setCell_upd {w : World} {p : Addr} {cs : Array Value} {e : TypeId} {fz : Nat × Nat} (h : w.heap[p.block]? = some (.cells cs e fz)) (hs : p.spot = none) (v : Value) :
    w.setCell p v = w.upd p.block (.cells (cs.setIfInBounds p.off v) e fz) := by
  unfold World.setCell World.upd
  congr 1
  have hlt : p.block < w.heap.size := by
    rcases Nat.lt_or_ge p.block w.heap.size with h1 | h1
    · exact h1
    · rw [Array.getElem?_eq_none h1] at h; cases h
  apply Array.ext_getElem?
  intro i
  rw [Array.getElem?_modify, Array.getElem?_setIfInBounds]
  by_cases hi : p.block = i
  · subst hi
    have hg : w.heap[p.block] = .cells cs e fz := by
      have := h; rw [Array.getElem?_eq_getElem hlt] at this; exact Option.some.inj this
    simp [hlt, hg, hs]
  · simp [hi]
theorem upd_upd (w : World) (b : Nat) (o o' : Obj) : (w.upd b o).upd b o' = w.upd b o' := by
  unfold World.upd
  congr 1
  apply Array.ext_getElem?
  intro i
  simp only [Array.getElem?_setIfInBounds, Array.size_setIfInBounds]
  by_cases hi : b = i <;> simp [hi]
theorem heap_upd_same {w : World} {b : Nat} {o o' : Obj} (h : w.heap[b]? = some o') : (w.upd b o).heap[b]? = some o := by
  have hlt : b < w.heap.size := by
    rcases Nat.lt_or_ge b w.heap.size with h1 | h1
    · exact h1
    · rw [Array.getElem?_eq_none h1] at h; cases h
  simp [World.upd, hlt]
theorem heap_upd_ne {w : World} {b b' : Nat} {o : Obj} (h : b ≠ b') : (w.upd b o).heap[b']? = w.heap[b']? := by
  simp [World.upd, Array.getElem?_setIfInBounds_ne h]
@[simp] theorem size_upd (w : World) (b : Nat) (o : Obj) : (w.upd b o).heap.size = w.heap.size := by simp [World.upd]
theorem upd_id {w : World} {b : Nat} {o : Obj} (h : w.heap[b]? = some o) : w.upd b o = w := by
  unfold World.upd
  have : w.heap.setIfInBounds b o = w.heap := by
    apply Array.ext_getElem?
    intro i
    rw [Array.getElem?_setIfInBounds]
    by_cases hi : b = i
    · subst hi
      have hlt : b < w.heap.size := by
        rcases Nat.lt_or_ge b w.heap.size with h1 | h1
        · exact h1
        · rw [Array.getElem?_eq_none h1] at h; cases h
      have hg : w.heap[b] = o := by
        have := h; rw [Array.getElem?_eq_getElem hlt] at this; exact Option.some.inj this
      simp [hlt, hg]
    · simp [hi]
  rw [this]
theorem run_storeCells (l : List Value) : ∀ {w : World} {p : Addr} {cs : Array Value} {e : TypeId} (i : Nat), w.heap[p.block]? = some (.cells cs e (0, 0)) → p.spot = none → p.off + i + l.length ≤ cs.size → (∀ u ∈ l, u.oneCell' = true) →
    (storeCells p l i).run P w = .ok () (w.upd p.block (.cells (ow cs (p.off + i) l) e (0, 0))) := by
  induction l with
  | nil => intro w p cs e i h hs _ _; simp [storeCells, ow, upd_id h]
  | cons v l ih =>
    intro w p cs e i h hs hle h1
    have hv := h1 v List.mem_cons_self
    simp only [List.length_cons] at hle
    have hc : w.cell? (p.add i) = some cs[p.off + i] := by
      rw [add_spot hs, cell_of (p := ⟨p.block, p.off + i, none⟩) h rfl]
      exact Array.getElem?_eq_getElem (show p.off + i < cs.size by omega)
    have hf : w.frozen? (p.add i) = false := by
      rw [add_spot hs]
      simp [World.frozen?, h]
    have hst : (store (p.add i) v .plain).run P w = .ok () (w.upd p.block (.cells (cs.setIfInBounds (p.off + i) v) e (0, 0))) := by
      rw [run_store _ _ _ _ _ hv, hc, hf]
      simp only [Bool.false_eq_true, if_false]
      rw [add_spot hs, setCell_upd (p := ⟨p.block, p.off + i, none⟩) h rfl]
    simp only [storeCells, Sem.run_bind, hst, Result.andThen_ok]
    rw [ih (i + 1) (heap_upd_same h) hs (by simp; omega) (fun u hu => h1 u (List.mem_cons_of_mem _ hu)), upd_upd]
    rfl
theorem cells_of_one {v : Value} (h : v.oneCell' = true) : v.cells = #[v] := by cases v <;> first | rfl | cases h
theorem storeN_run {t : TypeId} {p : Addr} {v : Value} {w : World} {K : World → Prop} (h : storeN P t p v w K) : ∃ w', (VOp.store t (.pointer (some p)) v).sem.run P w = .ok undef w' ∧ K w' := by
  unfold storeN at h
  split at h
  · rename_i hk
    obtain ⟨cs, e, hb, hs, hlt, hv, hK⟩ := h
    obtain ⟨hz, ha⟩ := ldk_one hk
    refine ⟨_, ?_, hK⟩
    have := run_storeCells (P := P) [v] 0 hb hs (by simp; omega) (by simpa using hv)
    simp [VOp.sem, Instr.storeAt, Instr.sureAddr, storeVar, cells_of_one hv, run_sz hz, this, ow]
  · rename_i n hk
    obtain ⟨vs, rfl, hn, h1, cs, e, hb, hs, hle, hK⟩ := h
    obtain ⟨hz, ha⟩ := ldk_agg hk
    refine ⟨_, ?_, hK⟩
    have := run_storeCells (P := P) vs.toList 0 hb hs (by simpa [hn] using hle) h1
    simp [VOp.sem, Instr.storeAt, Instr.sureAddr, storeVar, Value.cells, run_sz hz, hn, this]
  · rename_i hk
    obtain ⟨hz, ha⟩ := ldk_unit hk
    obtain ⟨rfl, hK⟩ := h
    refine ⟨w, ?_, hK⟩
    simp [VOp.sem, Instr.storeAt, Instr.sureAddr, storeVar, Value.cells, run_sz hz, storeCells]
  · exact h.elim
theorem zero_run {t : TypeId} {z : Value} (h : zeroOf P t = some z) (w : World) : (zeroValue t).run P w = .ok z w := by
  unfold zeroOf at h
  cases hi : P.info? t with
  | none => simp [hi] at h
  | some i => simp [hi] at h; simp [zeroValue, typeInfo, program, Sem.run, hi, h]
theorem places_run {fs : Array Field} {pl : Array (Nat × Nat)} (h : placesOf P fs = some pl) (w : World) : (fs.mapM fun f => Prod.mk f.offset <$> sizeOf f.type : Sem (Array (Nat × Nat))).run P w = .ok pl w := by
  unfold placesOf at h
  rw [Array.mapM_eq_mapM_toList] at h ⊢
  have gen : ∀ (l : List Field) (r : List (Nat × Nat)), (l.mapM fun f => (szOf P f.type).map fun s => (f.offset, s)) = some r → (l.mapM fun f => Prod.mk f.offset <$> sizeOf f.type : Sem (List (Nat × Nat))).run P w = .ok r w := by
    intro l
    induction l with
    | nil => intro r hr; simp at hr; subst hr; simp
    | cons f l ih =>
      intro r hr
      rw [List.mapM_cons] at hr
      cases hs : szOf P f.type with
      | none => rw [hs] at hr; simp at hr
      | some s =>
        rw [hs] at hr
        simp only [Option.map_some, Option.pure_def, Option.bind_eq_bind, Option.bind_some] at hr
        cases hm : (l.mapM fun f => (szOf P f.type).map fun s => (f.offset, s)) with
        | none => rw [hm] at hr; simp at hr
        | some r' =>
          rw [hm] at hr
          simp at hr
          subst hr
          rw [List.mapM_cons]
          simp [run_sz hs, ih r' hm]
  cases hl : (fs.toList.mapM fun f => (szOf P f.type).map fun s => (f.offset, s)) with
  | none => rw [hl] at h; simp at h
  | some r =>
    rw [hl] at h
    simp at h
    subst h
    simp [gen _ _ hl]
theorem build_run {t : TypeId} {ps : List (Nat × Value)} {v : Value} (h : buildV P t ps = some v) (w : World) : (VOp.build t ps).sem.run P w = .ok v w := by
  unfold buildV at h
  split at h
  · rename_i fs z hu hz
    split at h
    · rename_i pl hpl
      simp only [Option.map_eq_some_iff] at h
      obtain ⟨cs, hcs, rfl⟩ := h
      simp [VOp.sem, Instr.build, zero_run hz, run_und hu, places_run hpl, hcs]
    · cases h
  · rename_i n e z hu hz
    split at h
    · rename_i s hs
      simp only [Option.map_eq_some_iff] at h
      obtain ⟨cs, hcs, rfl⟩ := h
      simp [VOp.sem, Instr.build, zero_run hz, run_und hu, run_sz hs, hcs]
    · cases h
  · cases h
theorem sliceLit_run {t e : TypeId} {n : Nat} {ps : List (Nat × Value)} {cs : Array Value} (h : sliceLit P t n ps = some (e, cs)) (w : World) :
    (VOp.buildSlice t n ps).sem.run P w = .ok (.slice (some ⟨w.heap.size, 0, none⟩) n n) (w.alloc (.cells cs e)) := by
  unfold sliceLit at h
  split at h
  · rename_i e' s hs
    obtain ⟨hu, hz⟩ := slice_spec hs
    split at h
    · rename_i hn
      simp only [Option.map_eq_some_iff, Prod.mk.injEq] at h
      obtain ⟨cs', hcs, rfl, rfl⟩ := h
      have e0 : ∀ f : Nat → Value, Array.map f (Array.range 0) = #[] := fun f => by simp
      simp [VOp.sem, Instr.buildSlice, run_und hu, run_sz hz, hn, e0, hcs, newRow]
    · rename_i hn1
      split at h
      · cases h
      · rename_i hn
        split at h
        · rename_i z hzz
          simp only [Option.map_eq_some_iff, Prod.mk.injEq] at h
          obtain ⟨cs', hcs, rfl, rfl⟩ := h
          have hn2 : ¬ n * s > 2 ^ 24 := fun h => hn (by omega)
          simp [VOp.sem, Instr.buildSlice, run_und hu, run_sz hz, hn2, zero_run hzz, hcs, newRow]
          exact fun h => absurd h hn1
        · cases h
  · cases h
theorem out_ok {s : Sem Value} {w w' : World} {v : Value} {K : Value → World → Prop} {Kp : KP} (h : s.run P w = .ok v w') (hK : K v w') : outOf P s w K Kp := by
  unfold outOf; rw [h]; exact hK
theorem memOp_run {x : VOp} {w : World} {K : Value → World → Prop} {Kp : KP} (h : memOp P x w K Kp) : outOf P x.sem w K Kp := by
  unfold memOp at h
  split at h
  · obtain ⟨v, hv, hK⟩ := loadN_run h; exact out_ok hv hK
  · obtain ⟨w', hw, hK⟩ := storeN_run h; exact out_ok hw hK
  · split at h
    · rename_i z hz; exact out_ok (by simp [VOp.sem, Instr.alloc, zero_run hz, newVar, newRow]) h
    · exact h.elim
  · exact out_ok (by simp [VOp.sem, Instr.box, newVar, newRow]) h
  · split at h
    · rename_i v hv; exact out_ok (build_run hv w) h
    · exact h.elim
  · split at h
    · rename_i e cs hcs; exact out_ok (sliceLit_run hcs w) h
    · exact h.elim
  · simpa [outOf, VOp.sem, Instr.panic, goPanic, Sem.run] using h
  · exact h
theorem nice_le : Le (nice P) P where
  op {x w K Kp} h := by
    simp only [nice, niceOp] at h
    split at h
    · rename_i c v hp; exact out_ok (pv_good hp h.1 w) h.2
    · exact memOp_run h
  call h := h
  pur {x K} h := by
    simp only [nice, nicePur] at h
    split at h
    · rename_i c v hp; exact ⟨v, pv_good hp h.1, h.2⟩
    · split at h
      · split at h
        · rename_i v hv; exact ⟨v, build_run hv, h⟩
        · exact h.elim
      · exact h
  ld {x w K} h := by
    simp only [nice, niceLd] at h
    split at h
    · exact loadN_run h
    · exact h
  same {x v w} h := by
    simp only [nice, niceSame] at h
    split at h
    · obtain ⟨u, hu, rfl⟩ := loadN_run h; exact hu
    · exact h
end Go.Vc
end
section
namespace Go.Vc
@[simp] theorem and_as {a b c : Prop} : ((a ∧ b) ∧ c) ↔ (a ∧ (b ∧ c)) := and_assoc
@[simp] theorem get_cons_zero {α : Type} {a : α} {l : List α} : (a :: l)[0]? = some a := List.getElem?_cons_zero
variable {P : Program} {w : World} {K : Value → World → Prop} {Kp : KP} {K1 : Value → Prop}
theorem op_of {x : VOp} {c : Prop} {v : Value} (h : pv P x = some (c, v)) : (nice P).op x w K Kp = (c ∧ K v w) := by
  simp only [nice, niceOp, h]
theorem pur_of {x : VOp} {c : Prop} {v : Value} (h : pv P x = some (c, v)) : (nice P).pur x K1 = (c ∧ K1 v) := by
  simp only [nice, nicePur, h]
theorem ld_of' {x : VOp} {v : Value} (hx : ∀ t a, x ≠ .load t a) (h : pv P x = some (True, v)) : (nice P).ld x w K1 = K1 v := by
  have hr : x.sem.run P w = .ok v w := pv_good h trivial w
  have : (nice P).ld x w K1 = ∃ u, x.sem.run P w = .ok u w ∧ K1 u := by
    simp only [nice, niceLd]
    split
    · rename_i t p; exact absurd rfl (hx t _)
    · rfl
  rw [this]
  apply propext
  constructor
  · rintro ⟨u, hu, hk⟩
    rw [hr] at hu
    simp only [Result.ok.injEq] at hu
    rw [hu.1]; exact hk
  · exact fun hk => ⟨v, hr, hk⟩
theorem same_of' {x : VOp} {v u : Value} (hx : ∀ t a, x ≠ .load t a) (h : pv P x = some (True, v)) : (nice P).same x u w = (v = u) := by
  have hr : x.sem.run P w = .ok v w := pv_good h trivial w
  have : (nice P).same x u w = (x.sem.run P w = .ok u w) := by
    simp only [nice, niceSame]
    split
    · rename_i t p; exact absurd rfl (hx t _)
    · rfl
  rw [this, hr]
  simp
theorem op_of' {x : VOp} {v : Value} (h : pv P x = some (True, v)) : (nice P).op x w K Kp = K v w := by rw [op_of h, true_and]
theorem pur_of' {x : VOp} {v : Value} (h : pv P x = some (True, v)) : (nice P).pur x K1 = K1 v := by rw [pur_of h, true_and]
section
variable {a b : Int} {k : IntKind} {t : TypeId} {xc yc : Bool} {p : Addr} {v : Value}
@[simp] theorem op_nil_ptr : (nice P).op (.nilCheck (.pointer (some p))) w K Kp = K (.pointer (some p)) w := op_of' rfl
@[simp] theorem pur_nil_ptr : (nice P).pur (.nilCheck (.pointer (some p))) K1 = K1 (.pointer (some p)) := pur_of' rfl
@[simp] theorem op_nil_iface : (nice P).op (.nilCheck (.iface t v)) w K Kp = K (.iface t v) w := op_of' rfl
@[simp] theorem pur_nil_iface : (nice P).pur (.nilCheck (.iface t v)) K1 = K1 (.iface t v) := pur_of' rfl
@[simp] theorem op_nil_func {f : FuncId} {x y : Array Value} : (nice P).op (.nilCheck (.func (.func f) x y)) w K Kp = K (.func (.func f) x y) w := op_of' rfl
@[simp] theorem pur_nil_func {f : FuncId} {x y : Array Value} : (nice P).pur (.nilCheck (.func (.func f) x y)) K1 = K1 (.func (.func f) x y) := pur_of' rfl
theorem binV_int {op : BinOp} (h1 : op ≠ .shl) (h2 : op ≠ .shr) : binV P op t xc yc (.int k a) (.int k b) = intV op k a b := by
  cases op <;> simp_all [binV]
theorem op_int {op : BinOp} (h1 : op ≠ .shl) (h2 : op ≠ .shr) {v : Value} (h : intV op k a b = some (True, v)) : (nice P).op (.bin op t xc yc (.int k a) (.int k b)) w K Kp = K v w :=
  op_of' (by simp only [pv]; rw [binV_int h1 h2, h])
theorem pur_int {op : BinOp} (h1 : op ≠ .shl) (h2 : op ≠ .shr) {v : Value} (h : intV op k a b = some (True, v)) : (nice P).pur (.bin op t xc yc (.int k a) (.int k b)) K1 = K1 v :=
  pur_of' (by simp only [pv]; rw [binV_int h1 h2, h])
@[simp] theorem op_add : (nice P).op (.bin .add t xc yc (.int k a) (.int k b)) w K Kp = K (.int k (k.wrap (a + b))) w := op_int (by simp) (by simp) rfl
@[simp] theorem op_sub : (nice P).op (.bin .sub t xc yc (.int k a) (.int k b)) w K Kp = K (.int k (k.wrap (a - b))) w := op_int (by simp) (by simp) rfl
@[simp] theorem op_mul : (nice P).op (.bin .mul t xc yc (.int k a) (.int k b)) w K Kp = K (.int k (k.wrap (a * b))) w := op_int (by simp) (by simp) rfl
@[simp] theorem op_and : (nice P).op (.bin .and t xc yc (.int k a) (.int k b)) w K Kp = K (.int k (bitsV .and k a b)) w := op_int (by simp) (by simp) rfl
@[simp] theorem op_or : (nice P).op (.bin .or t xc yc (.int k a) (.int k b)) w K Kp = K (.int k (bitsV .or k a b)) w := op_int (by simp) (by simp) rfl
@[simp] theorem op_xor : (nice P).op (.bin .xor t xc yc (.int k a) (.int k b)) w K Kp = K (.int k (bitsV .xor k a b)) w := op_int (by simp) (by simp) rfl
@[simp] theorem op_andNot : (nice P).op (.bin .andNot t xc yc (.int k a) (.int k b)) w K Kp = K (.int k (bitsV .andNot k a b)) w := op_int (by simp) (by simp) rfl
@[simp] theorem op_eql : (nice P).op (.bin .eql t xc yc (.int k a) (.int k b)) w K Kp = K (.bool (decide (a = b))) w := op_int (by simp) (by simp) rfl
@[simp] theorem op_neq : (nice P).op (.bin .neq t xc yc (.int k a) (.int k b)) w K Kp = K (.bool (!decide (a = b))) w := op_int (by simp) (by simp) rfl
@[simp] theorem op_lss : (nice P).op (.bin .lss t xc yc (.int k a) (.int k b)) w K Kp = K (.bool (decide (a < b))) w := op_int (by simp) (by simp) rfl
@[simp] theorem op_leq : (nice P).op (.bin .leq t xc yc (.int k a) (.int k b)) w K Kp = K (.bool (decide (a ≤ b))) w := op_int (by simp) (by simp) rfl
@[simp] theorem op_gtr : (nice P).op (.bin .gtr t xc yc (.int k a) (.int k b)) w K Kp = K (.bool (decide (b < a))) w := op_int (by simp) (by simp) rfl
@[simp] theorem op_geq : (nice P).op (.bin .geq t xc yc (.int k a) (.int k b)) w K Kp = K (.bool (decide (b ≤ a))) w := op_int (by simp) (by simp) rfl
@[simp] theorem pur_add : (nice P).pur (.bin .add t xc yc (.int k a) (.int k b)) K1 = K1 (.int k (k.wrap (a + b))) := pur_int (by simp) (by simp) rfl
@[simp] theorem pur_sub : (nice P).pur (.bin .sub t xc yc (.int k a) (.int k b)) K1 = K1 (.int k (k.wrap (a - b))) := pur_int (by simp) (by simp) rfl
@[simp] theorem pur_mul : (nice P).pur (.bin .mul t xc yc (.int k a) (.int k b)) K1 = K1 (.int k (k.wrap (a * b))) := pur_int (by simp) (by simp) rfl
@[simp] theorem pur_and : (nice P).pur (.bin .and t xc yc (.int k a) (.int k b)) K1 = K1 (.int k (bitsV .and k a b)) := pur_int (by simp) (by simp) rfl
@[simp] theorem pur_or : (nice P).pur (.bin .or t xc yc (.int k a) (.int k b)) K1 = K1 (.int k (bitsV .or k a b)) := pur_int (by simp) (by simp) rfl
@[simp] theorem pur_xor : (nice P).pur (.bin .xor t xc yc (.int k a) (.int k b)) K1 = K1 (.int k (bitsV .xor k a b)) := pur_int (by simp) (by simp) rfl
@[simp] theorem pur_eql : (nice P).pur (.bin .eql t xc yc (.int k a) (.int k b)) K1 = K1 (.bool (decide (a = b))) := pur_int (by simp) (by simp) rfl
@[simp] theorem pur_neq : (nice P).pur (.bin .neq t xc yc (.int k a) (.int k b)) K1 = K1 (.bool (!decide (a = b))) := pur_int (by simp) (by simp) rfl
@[simp] theorem pur_lss : (nice P).pur (.bin .lss t xc yc (.int k a) (.int k b)) K1 = K1 (.bool (decide (a < b))) := pur_int (by simp) (by simp) rfl
@[simp] theorem pur_leq : (nice P).pur (.bin .leq t xc yc (.int k a) (.int k b)) K1 = K1 (.bool (decide (a ≤ b))) := pur_int (by simp) (by simp) rfl
@[simp] theorem pur_gtr : (nice P).pur (.bin .gtr t xc yc (.int k a) (.int k b)) K1 = K1 (.bool (decide (b < a))) := pur_int (by simp) (by simp) rfl
@[simp] theorem pur_geq : (nice P).pur (.bin .geq t xc yc (.int k a) (.int k b)) K1 = K1 (.bool (decide (b ≤ a))) := pur_int (by simp) (by simp) rfl
@[simp] theorem op_shl {k' : IntKind} : (nice P).op (.bin .shl t xc yc (.int k a) (.int k' b)) w K Kp = (0 ≤ b ∧ K (.int k (k.wrap (a * 2 ^ min b.toNat k.bits))) w) := op_of rfl
@[simp] theorem op_shr {k' : IntKind} : (nice P).op (.bin .shr t xc yc (.int k a) (.int k' b)) w K Kp = (0 ≤ b ∧ K (.int k (a.fdiv (2 ^ min b.toNat k.bits))) w) := op_of rfl
@[simp] theorem pur_shl {k' : IntKind} : (nice P).pur (.bin .shl t xc yc (.int k a) (.int k' b)) K1 = (0 ≤ b ∧ K1 (.int k (k.wrap (a * 2 ^ min b.toNat k.bits)))) := pur_of rfl
@[simp] theorem pur_shr {k' : IntKind} : (nice P).pur (.bin .shr t xc yc (.int k a) (.int k' b)) K1 = (0 ≤ b ∧ K1 (.int k (a.fdiv (2 ^ min b.toNat k.bits)))) := pur_of rfl
@[simp] theorem op_quo : (nice P).op (.bin .quo t xc yc (.int k a) (.int k b)) w K Kp = (b ≠ 0 ∧ K (.int k (k.wrap (a.tdiv b))) w) := op_of (by simp only [pv]; rw [binV_int (by simp) (by simp)]; rfl)
@[simp] theorem op_rem : (nice P).op (.bin .rem t xc yc (.int k a) (.int k b)) w K Kp = (b ≠ 0 ∧ K (.int k (a.tmod b)) w) := op_of (by simp only [pv]; rw [binV_int (by simp) (by simp)]; rfl)
@[simp] theorem pur_quo : (nice P).pur (.bin .quo t xc yc (.int k a) (.int k b)) K1 = (b ≠ 0 ∧ K1 (.int k (k.wrap (a.tdiv b)))) := pur_of (by simp only [pv]; rw [binV_int (by simp) (by simp)]; rfl)
@[simp] theorem pur_rem : (nice P).pur (.bin .rem t xc yc (.int k a) (.int k b)) K1 = (b ≠ 0 ∧ K1 (.int k (a.tmod b))) := pur_of (by simp only [pv]; rw [binV_int (by simp) (by simp)]; rfl)
@[simp] theorem op_not {c : Bool} : (nice P).op (.un .not (.bool c)) w K Kp = K (.bool (!c)) w := op_of' rfl
@[simp] theorem pur_not {c : Bool} : (nice P).pur (.un .not (.bool c)) K1 = K1 (.bool (!c)) := pur_of' rfl
@[simp] theorem op_compl : (nice P).op (.un .xor (.int k a)) w K Kp = K (.int k (bitsV .xor k (if k.signed then -1 else k.max) a)) w := op_of' rfl
@[simp] theorem pur_compl : (nice P).pur (.un .xor (.int k a)) K1 = K1 (.int k (bitsV .xor k (if k.signed then -1 else k.max) a)) := pur_of' rfl
@[simp] theorem op_neg : (nice P).op (.un .neg (.int k a)) w K Kp = K (.int k (k.wrap (0 - a))) w := op_of' rfl
@[simp] theorem pur_neg : (nice P).pur (.un .neg (.int k a)) K1 = K1 (.int k (k.wrap (0 - a))) := pur_of' rfl
@[simp] theorem op_mkFunc {fn : Fn} {x y : List Value} : (nice P).op (.mkFunc fn x y) w K Kp = K (.func fn x.toArray y.toArray) w := op_of' rfl
@[simp] theorem pur_mkFunc {fn : Fn} {x y : List Value} : (nice P).pur (.mkFunc fn x y) K1 = K1 (.func fn x.toArray y.toArray) := pur_of' rfl
theorem op_box : (nice P).op (.box t v) w K Kp = K (.pointer (some ⟨w.heap.size, 0, none⟩)) (w.alloc (.cells v.cells t)) := rfl
@[simp] theorem op_panic : (nice P).op (.panic (.iface t v)) w K Kp = Kp [{ v := .iface t v, recovered := false }] w := rfl
@[simp] theorem op_ext {vs : Array Value} {i : Nat} {u : Value} (h : vs[i]? = some u) : (nice P).op (.extract (.tuple vs) i) w K Kp = K u w := op_of' (by simp [pv, h])
@[simp] theorem pur_ext {vs : Array Value} {i : Nat} {u : Value} (h : vs[i]? = some u) : (nice P).pur (.extract (.tuple vs) i) K1 = K1 u := pur_of' (by simp [pv, h])
end
@[simp] theorem op_ext2_0 {u v : Value} : (nice P).op (.extract (.tuple #[u, v]) 0) w K Kp = K u w := op_ext rfl
@[simp] theorem op_ext2_1 {u v : Value} : (nice P).op (.extract (.tuple #[u, v]) 1) w K Kp = K v w := op_ext rfl
@[simp] theorem pur_ext2_0 {u v : Value} : (nice P).pur (.extract (.tuple #[u, v]) 0) K1 = K1 u := pur_ext rfl
@[simp] theorem pur_ext2_1 {u v : Value} : (nice P).pur (.extract (.tuple #[u, v]) 1) K1 = K1 v := pur_ext rfl
@[simp] theorem op_ext3_0 {u v x : Value} : (nice P).op (.extract (.tuple #[u, v, x]) 0) w K Kp = K u w := op_ext rfl
@[simp] theorem op_ext3_1 {u v x : Value} : (nice P).op (.extract (.tuple #[u, v, x]) 1) w K Kp = K v w := op_ext rfl
@[simp] theorem op_ext3_2 {u v x : Value} : (nice P).op (.extract (.tuple #[u, v, x]) 2) w K Kp = K x w := op_ext rfl
@[simp] theorem pur_ext3_0 {u v x : Value} : (nice P).pur (.extract (.tuple #[u, v, x]) 0) K1 = K1 u := pur_ext rfl
@[simp] theorem pur_ext3_1 {u v x : Value} : (nice P).pur (.extract (.tuple #[u, v, x]) 1) K1 = K1 v := pur_ext rfl
@[simp] theorem pur_ext3_2 {u v x : Value} : (nice P).pur (.extract (.tuple #[u, v, x]) 2) K1 = K1 x := pur_ext rfl
/-! ### with a fact of the tables: a seat's own rules are instances of these -/
section
variable {t t' : TypeId} {p : Addr} {v : Value}
theorem op_fa {f o : Nat} {k : LdK} (h : fieldOff P t f = some (o, k)) : (nice P).op (.fieldAddr t (.pointer (some p)) f) w K Kp = K (.pointer (some (p.add o))) w := op_of' (by simp [pv, h])
theorem pur_fa {f o : Nat} {k : LdK} (h : fieldOff P t f = some (o, k)) : (nice P).pur (.fieldAddr t (.pointer (some p)) f) K1 = K1 (.pointer (some (p.add o))) := pur_of' (by simp [pv, h])
theorem op_ix_arr {n s : Nat} {k : IntKind} {j : Int} (h : arrOf P t = some (n, s)) : (nice P).op (.indexAddr t (.pointer (some p)) (.int k j)) w K Kp = ((0 ≤ j ∧ j < (n : Int)) ∧ K (.pointer (some (p.add (j.toNat * s)))) w) := op_of (by simp [pv, h])
theorem pur_ix_arr {n s : Nat} {k : IntKind} {j : Int} (h : arrOf P t = some (n, s)) : (nice P).pur (.indexAddr t (.pointer (some p)) (.int k j)) K1 = ((0 ≤ j ∧ j < (n : Int)) ∧ K1 (.pointer (some (p.add (j.toNat * s))))) := pur_of (by simp [pv, h])
theorem op_ix_slice {e : TypeId} {s len cap : Nat} {k : IntKind} {j : Int} (h : sliceOf P t = some (e, s)) : (nice P).op (.indexAddr t (.slice (some p) len cap) (.int k j)) w K Kp = ((0 ≤ j ∧ j < (len : Int)) ∧ K (.pointer (some (p.add (j.toNat * s)))) w) := op_of (by simp [pv, h])
theorem pur_ix_slice {e : TypeId} {s len cap : Nat} {k : IntKind} {j : Int} (h : sliceOf P t = some (e, s)) : (nice P).pur (.indexAddr t (.slice (some p) len cap) (.int k j)) K1 = ((0 ≤ j ∧ j < (len : Int)) ∧ K1 (.pointer (some (p.add (j.toNat * s))))) := pur_of (by simp [pv, h])
theorem op_conv {k k' : IntKind} {n : Int} {d : TypeId} (h : kd P d = .int k) (hs : hasT P t = true) : (nice P).op (.conv t d (.int k' n)) w K Kp = K (.int k (k.wrap n)) w := op_of' (by simp [pv, h, hs])
theorem pur_conv {k k' : IntKind} {n : Int} {d : TypeId} (h : kd P d = .int k) (hs : hasT P t = true) : (nice P).pur (.conv t d (.int k' n)) K1 = K1 (.int k (k.wrap n)) := pur_of' (by simp [pv, h, hs])
theorem op_mkIface (hs : hasT P t = true) (h : (match kd P t with | .iface => true | _ => false) = false) : (nice P).op (.mkIface t v) w K Kp = K (.iface t v) w := op_of' (by
  simp only [pv]; cases hk : kd P t <;> simp_all)
theorem pur_mkIface (hs : hasT P t = true) (h : (match kd P t with | .iface => true | _ => false) = false) : (nice P).pur (.mkIface t v) K1 = K1 (.iface t v) := pur_of' (by
  simp only [pv]; cases hk : kd P t <;> simp_all)
theorem op_len_slice {a : Option Addr} {n c : Nat} {ty : TypeId} (h : kd P t = .slice) : (nice P).op (.blt .len [t] ty [.slice a n c]) w K Kp = K (.int .i64 n) w := op_of' (by simp [pv, h])
theorem pur_len_slice {a : Option Addr} {n c : Nat} {ty : TypeId} (h : kd P t = .slice) : (nice P).pur (.blt .len [t] ty [.slice a n c]) K1 = K1 (.int .i64 n) := pur_of' (by simp [pv, h])
theorem op_len_str {s : ByteArray} {ty : TypeId} (h : kd P t = .string) : (nice P).op (.blt .len [t] ty [.string s]) w K Kp = K (.int .i64 s.size) w := op_of' (by simp [pv, h])
theorem pur_len_str {s : ByteArray} {ty : TypeId} (h : kd P t = .string) : (nice P).pur (.blt .len [t] ty [.string s]) K1 = K1 (.int .i64 s.size) := pur_of' (by simp [pv, h])
theorem ld_len_slice {a : Option Addr} {n c : Nat} {ty : TypeId} (h : kd P t = .slice) : (nice P).ld (.blt .len [t] ty [.slice a n c]) w K1 = K1 (.int .i64 n) := ld_of' (fun _ _ h => nomatch h) (by simp [pv, h])
theorem same_len_slice {a : Option Addr} {n c : Nat} {ty : TypeId} {u : Value} (h : kd P t = .slice) : (nice P).same (.blt .len [t] ty [.slice a n c]) u w = (.int .i64 n = u) := same_of' (fun _ _ h => nomatch h) (by simp [pv, h])
theorem ld_len_str {s : ByteArray} {ty : TypeId} (h : kd P t = .string) : (nice P).ld (.blt .len [t] ty [.string s]) w K1 = K1 (.int .i64 s.size) := ld_of' (fun _ _ h => nomatch h) (by simp [pv, h])
theorem same_len_str {s : ByteArray} {ty : TypeId} {u : Value} (h : kd P t = .string) : (nice P).same (.blt .len [t] ty [.string s]) u w = (.int .i64 s.size = u) := same_of' (fun _ _ h => nomatch h) (by simp [pv, h])
theorem op_tassert_yes {xt : TypeId} (h : hasT P t = true) (hk : (match kd P t with | .iface => true | _ => false) = false) : (nice P).op (.tassert (.iface t v) xt t false) w K Kp = K v w := op_of' (by
  simp only [pv]; cases hk' : kd P t <;> simp_all)
theorem pur_tassert_yes {xt : TypeId} (h : hasT P t = true) (hk : (match kd P t with | .iface => true | _ => false) = false) : (nice P).pur (.tassert (.iface t v) xt t false) K1 = K1 v := pur_of' (by
  simp only [pv]; cases hk' : kd P t <;> simp_all)
theorem op_tassert_ok {u xt : TypeId} {z : Value} (h : hasT P t = true) (hk : (match kd P t with | .iface => true | _ => false) = false) (hz : zeroOf P t = some z) :
    (nice P).op (.tassert (.iface u v) xt t true) w K Kp = if u = t then K (.tuple #[v, .bool true]) w else K (.tuple #[z, .bool false]) w := by
  by_cases hu : u = t
  · rw [if_pos hu]; exact op_of' (by simp only [pv]; cases hk' : kd P t <;> simp_all)
  · rw [if_neg hu]; exact op_of' (by simp only [pv]; cases hk' : kd P t <;> simp_all)
theorem op_tassert_ok_nil {xt : TypeId} {z : Value} (h : hasT P t = true) (hk : (match kd P t with | .iface => true | _ => false) = false) (hz : zeroOf P t = some z) :
    (nice P).op (.tassert .nilIface xt t true) w K Kp = K (.tuple #[z, .bool false]) w := op_of' (by simp only [pv]; cases hk' : kd P t <;> simp_all)
theorem op_eq_iface {op : BinOp} {xc yc : Bool} {b : Bool} {u : TypeId} (h : kd P t = .iface) (hb : eqV op false = some (True, .bool b)) : (nice P).op (.bin op t xc yc (.iface u v) .nilIface) w K Kp = K (.bool b) w := op_of' (by simp [pv, binV, h, hb])
theorem op_eq_niface {op : BinOp} {xc : Bool} {b : Bool} (h : kd P t = .iface) (hb : eqV op true = some (True, .bool b)) : (nice P).op (.bin op t xc true .nilIface .nilIface) w K Kp = K (.bool b) w := op_of' (by simp [pv, binV, h, hb])
theorem pur_eq_iface {op : BinOp} {xc yc : Bool} {b : Bool} {u : TypeId} (h : kd P t = .iface) (hb : eqV op false = some (True, .bool b)) : (nice P).pur (.bin op t xc yc (.iface u v) .nilIface) K1 = K1 (.bool b) := pur_of' (by simp [pv, binV, h, hb])
theorem pur_eq_niface {op : BinOp} {xc : Bool} {b : Bool} (h : kd P t = .iface) (hb : eqV op true = some (True, .bool b)) : (nice P).pur (.bin op t xc true .nilIface .nilIface) K1 = K1 (.bool b) := pur_of' (by simp [pv, binV, h, hb])
theorem op_eq_ptr {op : BinOp} {xc yc : Bool} {b : Bool} {a : Option Addr} (h : kd P t = .pointer) (hb : eqV op a.isNone = some (True, .bool b)) : (nice P).op (.bin op t xc yc (.pointer a) (.pointer none)) w K Kp = K (.bool b) w := op_of' (by simp [pv, binV, h, hb])
theorem pur_eq_ptr {op : BinOp} {xc yc : Bool} {b : Bool} {a : Option Addr} (h : kd P t = .pointer) (hb : eqV op a.isNone = some (True, .bool b)) : (nice P).pur (.bin op t xc yc (.pointer a) (.pointer none)) K1 = K1 (.bool b) := pur_of' (by simp [pv, binV, h, hb])
theorem op_eq_bool {op : BinOp} {xc yc : Bool} {b x y : Bool} (h : kd P t = .bool) (hb : eqV op (x == y) = some (True, .bool b)) : (nice P).op (.bin op t xc yc (.bool x) (.bool y)) w K Kp = K (.bool b) w := op_of' (by simp [pv, binV, h, hb])
theorem pur_eq_bool {op : BinOp} {xc yc : Bool} {b x y : Bool} (h : kd P t = .bool) (hb : eqV op (x == y) = some (True, .bool b)) : (nice P).pur (.bin op t xc yc (.bool x) (.bool y)) K1 = K1 (.bool b) := pur_of' (by simp [pv, binV, h, hb])
theorem op_ld (h : ldk P t = some .one) : (nice P).op (.load t (.pointer (some p))) w K Kp = ∃ cs e fz, w.heap[p.block]? = some (.cells cs e fz) ∧ p.spot = none ∧ ∃ v, cs[p.off]? = some v ∧ K v w := by
  simp only [nice, niceOp, pv, memOp, loadN, h]
theorem ld_ld (h : ldk P t = some .one) : (nice P).ld (.load t (.pointer (some p))) w K1 = ∃ cs e fz, w.heap[p.block]? = some (.cells cs e fz) ∧ p.spot = none ∧ ∃ v, cs[p.off]? = some v ∧ K1 v := by
  simp only [nice, niceLd, loadN, h]
theorem same_ld (h : ldk P t = some .one) : (nice P).same (.load t (.pointer (some p))) v w = ∃ cs e fz, w.heap[p.block]? = some (.cells cs e fz) ∧ p.spot = none ∧ cs[p.off]? = some v := by
  simp [nice, niceSame, loadN, h]
theorem op_ldn {n : Nat} (h : ldk P t = some (.agg n)) : (nice P).op (.load t (.pointer (some p))) w K Kp = ∃ cs e fz, w.heap[p.block]? = some (.cells cs e fz) ∧ p.spot = none ∧ p.off + n ≤ cs.size ∧ K (.agg (cs.extract p.off (p.off + n))) w := by
  simp only [nice, niceOp, pv, memOp, loadN, h]
theorem ld_ldn {n : Nat} (h : ldk P t = some (.agg n)) : (nice P).ld (.load t (.pointer (some p))) w K1 = ∃ cs e fz, w.heap[p.block]? = some (.cells cs e fz) ∧ p.spot = none ∧ p.off + n ≤ cs.size ∧ K1 (.agg (cs.extract p.off (p.off + n))) := by
  simp only [nice, niceLd, loadN, h]
theorem same_ldn {n : Nat} (h : ldk P t = some (.agg n)) : (nice P).same (.load t (.pointer (some p))) v w = ∃ cs e fz, w.heap[p.block]? = some (.cells cs e fz) ∧ p.spot = none ∧ p.off + n ≤ cs.size ∧ .agg (cs.extract p.off (p.off + n)) = v := by
  simp [nice, niceSame, loadN, h]
theorem op_st (h : ldk P t = some .one) : (nice P).op (.store t (.pointer (some p)) v) w K Kp =
    ∃ cs e, w.heap[p.block]? = some (.cells cs e (0, 0)) ∧ p.spot = none ∧ p.off < cs.size ∧ v.oneCell' = true ∧ K undef (w.upd p.block (.cells (cs.setIfInBounds p.off v) e (0, 0))) := by
  simp only [nice, niceOp, pv, memOp, storeN, h]
theorem op_stn {n : Nat} {vs : Array Value} (h : ldk P t = some (.agg n)) : (nice P).op (.store t (.pointer (some p)) (.agg vs)) w K Kp =
    (vs.size = n ∧ (∀ u ∈ vs.toList, u.oneCell' = true) ∧ ∃ cs e, w.heap[p.block]? = some (.cells cs e (0, 0)) ∧ p.spot = none ∧ p.off + n ≤ cs.size ∧ K undef (w.upd p.block (.cells (ow cs p.off vs.toList) e (0, 0)))) := by
  simp [nice, niceOp, pv, memOp, storeN, h]
theorem op_alloc {z : Value} (h : zeroOf P t = some z) : (nice P).op (.alloc t) w K Kp = K (.pointer (some ⟨w.heap.size, 0, none⟩)) (w.alloc (.cells z.cells t)) := by
  simp only [nice, niceOp, pv, memOp, h]
theorem op_build {ps : List (Nat × Value)} {v : Value} (h : buildV P t ps = some v) : (nice P).op (.build t ps) w K Kp = K v w := by
  simp only [nice, niceOp, pv, memOp, h]
theorem pur_build {ps : List (Nat × Value)} {v : Value} (h : buildV P t ps = some v) : (nice P).pur (.build t ps) K1 = K1 v := by
  simp only [nice, nicePur, pv, h]
theorem op_lit {e : TypeId} {n : Nat} {ps : List (Nat × Value)} {cs : Array Value} (h : sliceLit P t n ps = some (e, cs)) : (nice P).op (.buildSlice t n ps) w K Kp = K (.slice (some ⟨w.heap.size, 0, none⟩) n n) (w.alloc (.cells cs e)) := by
  simp only [nice, niceOp, pv, memOp, h]
end
/-! ### calls -/
def callFn (P : Program) (f : FuncId) : Bool := match P.funcs[f]? with
  | some fn => fn.body.isSome && fn.name != "runtime.NumGoroutine"
  | none => false
theorem callFunc_run {f : FuncId} (h : callFn P f = true) (args : Array Value) (w : World) : (callFunc f args).run P w = .ok (.enter f args) w := by
  unfold callFn at h
  cases hf : P.funcs[f]? with
  | none => rw [hf] at h; cases h
  | some fn =>
    rw [hf] at h
    simp only [Bool.and_eq_true, bne_iff_ne, ne_eq] at h
    cases hb : fn.body with
    | none => rw [hb] at h; simp at h
    | some c => simp [callFunc, program, Sem.run, hf, h.2, hb]
theorem call_fn {f : FuncId} {args : List Value} (h : callFn P f = true) : (nice P).call (.fn f) args w K Kp = Calls P f args.toArray w (ret K Kp) := by
  simp [nice, callOut, VCallee.deferred, Deferred.ofValue, invoke, callFunc_run h]
theorem call_val {f : FuncId} {args : List Value} {x y : Array Value} (h : callFn P f = true) : (nice P).call (.val (.func (.func f) x y)) args w K Kp = Calls P f (x ++ args.toArray ++ y) w (ret K Kp) := by
  simp [nice, callOut, VCallee.deferred, Deferred.ofValue, invoke, callFunc_run h]
theorem call_inv {t : TypeId} {v : Value} {name : String} {f : FuncId} {args : List Value} (hm : ∀ w, (method (P.types.size + Made.depth) t v name).run P w = .ok (f, v) w) (h : callFn P f = true) :
    (nice P).call (.inv (.iface t v) name) args w K Kp = Calls P f (v :: args).toArray w (ret K Kp) := by
  have h0 : (#[Value.iface t v] ++ args.toArray)[0]? = some (.iface t v) := by simp
  have h1 : (#[Value.iface t v] ++ args.toArray).extract 1 (#[Value.iface t v] ++ args.toArray).size = args.toArray := by simp
  have h2 : #[v] ++ args.toArray = (v :: args).toArray := by simp
  simp only [nice, callOut, VCallee.deferred, Sem.run_bind, Sem.run_pure, Result.andThen_ok, invoke, h0, h1, callMethod, program, Sem.run, hm, callFunc_run h, h2]
theorem calls_of {f : FuncId} {args : Array Value} {R : Ending → World → Prop} (h : Calls P f args w R) (hr : ∀ e w', R e w' → ret K Kp e w') : Calls P f args w (ret K Kp) := h.mono hr
@[simp] theorem ret_ret {v : Value} : ret K Kp (.returned v) w = K v w := rfl
@[simp] theorem ret_pan {ch : List PanicEntry} : ret K Kp (.panicked ch) w = Kp ch w := rfl
/-! ### branches, joins and loops, in a form that the simplifier leaves whole -/
def Br (v : Value) (A B : Prop) : Prop := ∃ b : Bool, v = .bool b ∧ (b = true → A) ∧ (b = false → B)
def Jn {α : Type} (f : α → Prop) : Prop := ∃ J, f J
def Lp {α β : Type} (f : α → β → Prop) : Prop := ∃ I μ, f I μ
theorem Jn.intro {α : Type} {f : α → Prop} (J : α) (h : f J) : Jn f := ⟨J, h⟩
theorem Lp.intro {α β : Type} {f : α → β → Prop} (I : α) (μ : β) (h : f I μ) : Lp f := ⟨I, μ, h⟩
section
variable {A B : Prop}
@[simp] theorem Br_bool {b : Bool} : Br (.bool b) A B = ((b = true → A) ∧ (b = false → B)) := by simp [Br]
@[simp] theorem Br_dec {p : Prop} [Decidable p] : Br (.bool (decide p)) A B = ((p → A) ∧ (¬ p → B)) := by simp [Br]
end
end Go.Vc
end
section
namespace Go.Vc
variable {P : Program} {w : World} {K : Value → World → Prop} {Kp : KP} {K1 : Value → Prop} {t : TypeId}
theorem op_slice_lo {len cap s b o : Nat} {e : TypeId} {k : IntKind} {x : Int} (h : sliceOf P t = some (e, s)) :
    (nice P).op (.slice t (.slice (some ⟨b, o, none⟩) len cap) (some (.int k x)) none none) w K Kp =
      ((0 ≤ x ∧ x ≤ (len : Int) ∧ (len : Int) ≤ (cap : Int)) ∧ K (.slice (some (if cap = x.toNat then ⟨b, o, none⟩ else ⟨b, o + x.toNat * s, none⟩)) (len - x.toNat) (cap - x.toNat)) w) := by
  rw [op_of (c := 0 ≤ x ∧ x ≤ (len : Int) ∧ (len : Int) ≤ (cap : Int)) (v := .slice (some (if cap = x.toNat then ⟨b, o, none⟩ else ⟨b, o + x.toNat * s, none⟩)) (len - x.toNat) (cap - x.toNat))]
  have : (⟨b, o, none⟩ : Addr).add (x.toNat * s) = ⟨b, o + x.toNat * s, none⟩ := add_spot rfl _
  simp only [pv, h, cutV, lowV, upV, Option.map_some, this, Int.toNat_natCast]
  split <;> rfl
theorem heap_alloc' (w : World) (o : Obj) : (w.alloc o).heap = w.heap.push o := rfl
/-! ### the frame of a walk: blocks outside M stay -/
structure Frm (M : Nat → Prop) (w w' : World) : Prop where
  os : w'.os = w.os
  tape : w'.tape = w.tape
  output : w'.output = w.output
  size : w.heap.size ≤ w'.heap.size
  block : ∀ k, k < w.heap.size → ¬ M k → w'.heap[k]? = w.heap[k]?
namespace Frm
variable {M M' : Nat → Prop} {w w' w'' : World}
theorem refl : Frm M w w := ⟨rfl, rfl, rfl, Nat.le_refl _, fun _ _ _ => rfl⟩
theorem trans (h : Frm M w w') (k : Frm M' w' w'') (hM : ∀ b, M' b → b < w.heap.size → M b) : Frm M w w'' :=
  ⟨k.os.trans h.os, k.tape.trans h.tape, k.output.trans h.output, Nat.le_trans h.size k.size, fun i hi hn => by
    rw [k.block i (Nat.lt_of_lt_of_le hi h.size) (fun hm => hn (hM i hm hi)), h.block i hi hn]⟩
theorem mono (h : Frm M w w') (hM : ∀ b, M b → b < w.heap.size → M' b) : Frm M' w w' :=
  ⟨h.os, h.tape, h.output, h.size, fun i hi hn => h.block i hi fun hm => hn (hM i hm hi)⟩
theorem alloc (w : World) (o : Obj) : Frm M w (w.alloc o) := ⟨rfl, rfl, rfl, by rw [heap_alloc']; simp, fun k hk _ => by rw [heap_alloc']; simp [Array.getElem?_push, Nat.ne_of_lt hk]⟩
theorem upd (w : World) {b : Nat} (o : Obj) (h : b < w.heap.size → M b) : Frm M w (w.upd b o) :=
  ⟨rfl, rfl, rfl, by simp, fun k hk hn => heap_upd_ne (fun e => hn (e ▸ h (e ▸ hk)))⟩
theorem drew (w : World) : Frm M w w.drew := ⟨rfl, rfl, rfl, Nat.le_refl _, fun _ _ _ => rfl⟩
theorem get (h : Frm M w w') {b : Nat} {o : Obj} (hb : w.heap[b]? = some o) (hn : ¬ M b) : w'.heap[b]? = some o := by
  rw [h.block b (Array.getElem?_eq_some_iff.1 hb).1 hn, hb]
end Frm
theorem hp_alloc_new {w : World} {o : Obj} : (w.alloc o).heap[w.heap.size]? = some o := by rw [heap_alloc']; simp
@[simp] theorem size_alloc {w : World} {o : Obj} : (w.alloc o).heap.size = w.heap.size + 1 := by rw [heap_alloc']; simp
@[simp] theorem heap_drew {w : World} : w.drew.heap = w.heap := by have h := rfl (a := w.heap); exact h
theorem lt_of_get {w : World} {b : Nat} {o : Obj} (h : w.heap[b]? = some o) : b < w.heap.size := (Array.getElem?_eq_some_iff.1 h).1
theorem getElem?_ow (l : List Value) : ∀ (cs : Array Value) (o : Nat), o + l.length ≤ cs.size → ∀ j : Nat, (ow cs o l)[j]? = if o ≤ j ∧ j < o + l.length then l[j - o]? else cs[j]? := by
  induction l with
  | nil => intro cs o _ j; rw [ow, if_neg (by simp only [List.length_nil]; omega)]
  | cons v l ih =>
    intro cs o h j
    simp only [List.length_cons] at h ⊢
    rw [ow, ih _ _ (by simp; omega), Array.getElem?_setIfInBounds]
    by_cases h1 : j = o
    · subst h1; rw [if_neg (by omega), if_pos rfl, if_pos (by omega), if_pos (by omega)]; simp
    · by_cases h2 : o ≤ j ∧ j < o + (l.length + 1)
      · rw [if_pos (by omega), if_pos h2, show j - o = (j - (o + 1)) + 1 from by omega]; simp
      · rw [if_neg (by omega), if_neg (by omega), if_neg h2]
theorem ow_all {cs : Array Value} {l : List Value} (h : l.length = cs.size) : ow cs 0 l = l.toArray := by
  apply Array.ext_getElem?
  intro j
  rw [getElem?_ow l cs 0 (by omega) j]
  by_cases hj : j < l.length
  · rw [if_pos (by omega)]; simp
  · rw [if_neg (by omega), Array.getElem?_eq_none (by omega), Array.getElem?_eq_none (by simp; omega)]
theorem extract_self {cs : Array Value} {n : Nat} (h : cs.size = n) : cs.extract 0 n = cs := by subst h; simp
@[simp] theorem cells_agg {cs : Array Value} : (Value.agg cs).cells = cs := rfl
@[simp] theorem drew_upd {w : World} {b : Nat} {o : Obj} : (w.upd b o).drew = w.drew.upd b o := rfl
@[simp] theorem drew_alloc {w : World} {o : Obj} : (w.alloc o).drew = w.drew.alloc o := rfl
section
variable {k : IntKind} {n : Int} {a : Option Addr} {t : TypeId} {v : Value} {l c : Nat} {b : Bool} {s : ByteArray}
@[simp] theorem one_int : (Value.int k n).oneCell' = true := by have h : (Value.int k n).oneCell' = true := rfl; exact h
@[simp] theorem one_ptr : (Value.pointer a).oneCell' = true := by have h : (Value.pointer a).oneCell' = true := rfl; exact h
@[simp] theorem one_iface : (Value.iface t v).oneCell' = true := by have h : (Value.iface t v).oneCell' = true := rfl; exact h
@[simp] theorem one_niface : Value.nilIface.oneCell' = true := by have h : Value.nilIface.oneCell' = true := rfl; exact h
@[simp] theorem one_slice : (Value.slice a l c).oneCell' = true := by have h : (Value.slice a l c).oneCell' = true := rfl; exact h
@[simp] theorem one_bool : (Value.bool b).oneCell' = true := by have h : (Value.bool b).oneCell' = true := rfl; exact h
@[simp] theorem one_str : (Value.string s).oneCell' = true := by have h : (Value.string s).oneCell' = true := rfl; exact h
end
end Go.Vc
end
section
namespace Go.Vc
variable {P : Program} {w w' : World} {K : Value → World → Prop} {Kp : KP} {t : TypeId}
def Row (w : World) (a : Option Addr) (vs : List Value) : Prop :=
  vs = [] ∨ ∃ b o cs e fz, a = some ⟨b, o, none⟩ ∧ w.heap[b]? = some (.cells cs e fz) ∧ ∀ j v, vs[j]? = some v → cs[o + j]? = some v
theorem Row.frame {M : Nat → Prop} {a : Option Addr} {vs : List Value} (h : Row w a vs) (hf : Frm M w w') (hM : ∀ p, a = some p → ¬ M p.block) : Row w' a vs := by
  rcases h with h | ⟨b, o, cs, e, fz, h1, h2, h3⟩
  · exact .inl h
  · exact .inr ⟨b, o, cs, e, fz, h1, hf.get h2 (hM _ h1), h3⟩
theorem Row.get {a : Option Addr} {vs : List Value} (h : Row w a vs) {j : Nat} (hj : j < vs.length) :
    ∃ b o cs e fz, a = some ⟨b, o, none⟩ ∧ w.heap[b]? = some (.cells cs e fz) ∧ cs[o + j]? = some vs[j] := by
  rcases h with h | ⟨b, o, cs, e, fz, h1, h2, h3⟩
  · subst h; simp at hj
  · exact ⟨b, o, cs, e, fz, h1, h2, h3 j _ (by simp [hj])⟩
def apOf (P : Program) (t : TypeId) : Option (TypeId × Nat × Nat) := match P.underlying t with
  | some (.slice e) => match P.info? e with
    | some i => match i.zero with
      | some z => if z.cells.size = i.size ∧ 0 < i.size then some (e, i.size, i.bytes) else none
      | none => none
    | none => none
  | _ => none
theorem apOf_spec {e : TypeId} {size bytes : Nat} (h : apOf P t = some (e, size, bytes)) :
    ∃ i z, P.underlying t = some (.slice e) ∧ P.info? e = some i ∧ i.zero = some z ∧ i.size = size ∧ i.bytes = bytes ∧ z.cells.size = size ∧ 0 < size := by
  unfold apOf at h
  cases hu : P.underlying t with
  | none => simp [hu] at h
  | some d =>
    rw [hu] at h
    cases d with
    | slice e' =>
      cases hi : P.info? e' with
      | none => simp [hi] at h
      | some i =>
        cases hz : i.zero with
        | none => simp [hi, hz] at h
        | some z =>
          simp only [hi, hz, Option.ite_none_right_eq_some, Option.some.injEq, Prod.mk.injEq] at h
          obtain ⟨⟨h1, h2⟩, rfl, rfl, rfl⟩ := h
          exact ⟨i, z, rfl, hi, hz, rfl, rfl, h1, h2⟩
    | _ => simp at h
theorem run_append_empty {base e size n c : Nat} {ty : TypeId} {i : TypeInfo} {v : Value} {xs : List Value} (ht : P.underlying t = some (.slice e)) (hi : P.info? e = some i)
    (h : w.ownsRow base e size v n xs) : (Builtin.append_ #[t, t] ty #[v, .slice none 0 c]).run P w = .ok v w := by
  obtain ⟨_, ⟨rfl, rfl⟩ | ⟨g, cap, cur, rfl, _, _, hle, _⟩⟩ := h <;>
    simp [Builtin.append_, run_underlying ht, sizeOf, typeInfo, hi, Builtin.lenOf, Builtin.firstCells, storeCells]
  omega
theorem op_append {base e size bytes n m c : Nat} {ty : TypeId} {v : Value} {a : Option Addr} {xs news : List Value} (ha : apOf P t = some (e, size, bytes))
    (hown : w.ownsRow base e size v n xs) (hr : Row w a news) (hm : news.length = m * size) (h1 : ∀ u ∈ news, u.oneCell' = true) (hnone : a = none → m = 0)
    (h63 : (n + m) * (bytes + 1) ≤ 140737488355328) (hbase : base ≤ w.heap.size)
    (hK : ∀ v' w', w'.ownsRow base e size v' (n + m) (xs ++ news) → Frm (fun b => some b = v.ownBlock) w w' → (v'.ownBlock = v.ownBlock ∨ v'.ownBlock = some w.heap.size) → K v' w') :
    (nice P).op (.blt .append [t, t] ty [v, .slice a m c]) w K Kp := by
  obtain ⟨i, z, ht, hi, hz, hsize, hby, hzs, hsz⟩ := apOf_spec ha
  have hb1 : (n + m) * bytes ≤ 140737488355328 := Nat.le_trans (Nat.mul_le_mul_left _ (by omega)) h63
  have hb2 : n + m ≤ 140737488355328 := Nat.le_trans (Nat.le_mul_of_pos_right _ (by omega)) h63
  show outOf P _ w K Kp
  cases a with
  | none =>
    have hm0 := hnone rfl
    subst hm0
    have hn : news = [] := List.eq_nil_of_length_eq_zero (by simpa using hm)
    subst hn
    exact out_ok (run_append_empty (ty := ty) ht hi hown) (hK _ _ (by simpa using hown) Frm.refl (.inl rfl))
  | some p =>
    have hcells : ∀ j u, news[j]? = some u → w.cell? (p.add j) = some u := fun j u hu => by
      rcases hr with rfl | ⟨b, o, cs, e', fz, h1, h2, h3⟩
      · simp at hu
      · obtain rfl := Option.some.inj h1
        rw [add_spot rfl, World.cell?, h2]
        exact h3 j u hu
    obtain ⟨v', w', hrun, h2, h3, _, h5⟩ := Go.run_append_own_at (P := P) w base t ty e i z size bytes ht hi hz hsize hby hzs hsz v n xs hown p m c news hm hcells h1 (by unfold maxLen; omega) hb1 hbase
    exact out_ok hrun (hK _ _ h2 ⟨h3.os, h3.tape, h3.output, h3.size, fun k hk hn => h3.block k hk hn⟩ h5)
theorem own_nil {base e size : Nat} : w.ownsRow base e size (.slice none 0 0) 0 [] := ⟨by simp, .inl ⟨rfl, rfl⟩⟩
theorem own_frame {base e size n : Nat} {v : Value} {xs : List Value} {M : Nat → Prop} (h : w.ownsRow base e size v n xs) (hf : Frm M w w') (hM : ∀ b, v.ownBlock = some b → ¬ M b) : w'.ownsRow base e size v n xs := by
  obtain ⟨h1, h2 | ⟨g, cap, cur, rfl, h3, h4, h5⟩⟩ := h
  · exact ⟨h1, .inl h2⟩
  · exact ⟨h1, .inr ⟨g, cap, cur, rfl, h3, hf.get h4 (hM g rfl), h5⟩⟩
theorem own_base {base base' e size n : Nat} {v : Value} {xs : List Value} (h : w.ownsRow base e size v n xs) (hb : base' ≤ base) : w.ownsRow base' e size v n xs := by
  obtain ⟨h1, h2 | ⟨g, cap, cur, rfl, h3, h4, h5⟩⟩ := h
  · exact ⟨h1, .inl h2⟩
  · exact ⟨h1, .inr ⟨g, cap, cur, rfl, by omega, h4, h5⟩⟩
theorem own_lt {base e size n : Nat} {v : Value} {xs : List Value} (h : w.ownsRow base e size v n xs) : ∀ b, v.ownBlock = some b → base ≤ b ∧ b < w.heap.size := by
  obtain ⟨h1, ⟨rfl, _⟩ | ⟨g, cap, cur, rfl, h3, h4, h5⟩⟩ := h
  · intro b hb; cases hb
  · intro b hb; cases hb; exact ⟨h3, lt_of_get h4⟩
theorem own_slice {base e size n : Nat} {v : Value} {xs : List Value} (h : w.ownsRow base e size v n xs) : ∃ a c, v = .slice a n c ∧ n ≤ c ∧ Row w a xs ∧ (a = none → n = 0) ∧ (∀ p, a = some p → v.ownBlock = some p.block) := by
  obtain ⟨h1, ⟨rfl, rfl⟩ | ⟨g, cap, cur, rfl, h3, h4, h5, h6, h7, h8⟩⟩ := h
  · exact ⟨none, 0, rfl, by omega, .inl (List.eq_nil_of_length_eq_zero (by simpa using h1)), fun _ => rfl, fun p hp => nomatch hp⟩
  · refine ⟨_, _, rfl, h5, .inr ⟨g, 0, cur, e, (0, 0), rfl, h4, fun j v hv => ?_⟩, (fun h => nomatch h), fun p hp => by cases hp; rfl⟩
    rw [← h8, List.getElem?_take] at hv
    split at hv
    · simpa using hv
    · cases hv
/-! ### rows of values of more than one cell -/
theorem flatMap_get {α : Type} {f : α → List Value} {k : Nat} (hk : ∀ x, (f x).length = k) : ∀ (xs : List α) (i r : Nat) (hi : i < xs.length), r < k → (xs.flatMap f)[i * k + r]? = (f xs[i])[r]?
  | [], i, r, hi, _ => by simp at hi
  | x :: xs, 0, r, hi, hr => by
    rw [List.flatMap_cons, List.getElem?_append_left (by rw [hk]; omega)]
    simp
  | x :: xs, i + 1, r, hi, hr => by
    have hi' : i < xs.length := by simpa using hi
    rw [List.flatMap_cons, List.getElem?_append_right (by rw [hk, Nat.add_mul]; omega), hk, show (i + 1) * k + r - k = i * k + r from by rw [Nat.add_mul]; omega]
    exact flatMap_get hk xs i r hi' hr
theorem flatMap_len {α : Type} {f : α → List Value} {k : Nat} (hk : ∀ x, (f x).length = k) (xs : List α) : (xs.flatMap f).length = xs.length * k := by
  induction xs with
  | nil => simp
  | cons x xs ih => simp [List.flatMap_cons, ih, hk, Nat.add_mul]; omega
theorem Row.part {α : Type} {f : α → List Value} {k : Nat} (hk : ∀ x, (f x).length = k) (hk0 : 0 < k) {a : Option Addr} {xs : List α} (h : Row w a (xs.flatMap f)) {i : Nat} (hi : i < xs.length) :
    ∃ b o cs e fz, a = some ⟨b, o, none⟩ ∧ w.heap[b]? = some (.cells cs e fz) ∧ o + i * k + k ≤ cs.size ∧ cs.extract (o + i * k) (o + i * k + k) = (f xs[i]).toArray := by
  rcases h with h | ⟨b, o, cs, e, fz, h1, h2, h3⟩
  · have := flatMap_len hk xs
    rw [h] at this
    have h4 : 0 < xs.length * k := Nat.mul_pos (by omega) hk0
    simp at this
    omega
  · have hget : ∀ r, r < k → cs[o + i * k + r]? = (f xs[i])[r]? := fun r hr => by
      have := flatMap_get hk xs i r hi hr
      have hl : r < (f xs[i]).length := by rw [hk]; exact hr
      rw [Nat.add_assoc, List.getElem?_eq_getElem hl]
      exact h3 _ _ (by rw [this, List.getElem?_eq_getElem hl])
    have hsz : o + i * k + k ≤ cs.size := by
      have := hget (k - 1) (by omega)
      rw [List.getElem?_eq_getElem (by rw [hk]; omega)] at this
      have := (Array.getElem?_eq_some_iff.1 this).1
      omega
    refine ⟨b, o, cs, e, fz, h1, h2, hsz, ?_⟩
    apply Array.ext_getElem?
    intro r
    rw [Array.getElem?_extract]
    by_cases hr : r < k
    · rw [if_pos (by omega), hget r hr]; simp
    · rw [if_neg (by omega), Array.getElem?_eq_none (by simp [hk]; omega)]
end Go.Vc
end
section
namespace Go.Vc
variable {P : Program} {w w' : World} {K : Value → World → Prop} {Kp : KP} {K1 : Value → Prop} {t : TypeId}
theorem pur_nil_meth {u : TypeId} {v : Value} {n : String} (h : ∀ w, (nilAhead (P.types.size + Made.depth) u v n).run P w = .ok (some false) w) :
    (nice P).pur (.nilCheck (.func (.method n) #[.iface u v] #[])) K1 = K1 (.func (.method n) #[.iface u v] #[]) := by
  have hr : ∀ w, (VOp.nilCheck (.func (.method n) #[.iface u v] #[])).sem.run P w = .ok (.func (.method n) #[.iface u v] #[]) w := fun w => by
    have hp : (program : Sem Program).run P w = .ok P w := rfl
    simp only [VOp.sem, nilSem, nilMeth, execOp]
    simp [hp, h]
  have : (nice P).pur (.nilCheck (.func (.method n) #[.iface u v] #[])) K1 = ∃ x, (∀ w, (VOp.nilCheck (.func (.method n) #[.iface u v] #[])).sem.run P w = .ok x w) ∧ K1 x := rfl
  rw [this]
  apply propext
  constructor
  · rintro ⟨x, hx, hk⟩
    have := (hx default).symm.trans (hr default)
    simp only [Result.ok.injEq] at this
    rw [← this.1]; exact hk
  · exact fun hk => ⟨_, hr, hk⟩
/-! ### slices of slices -/
theorem pur_cut_lo {len cap s b o : Nat} {e : TypeId} {k : IntKind} {x : Int} (h : sliceOf P t = some (e, s)) :
    (nice P).pur (.slice t (.slice (some ⟨b, o, none⟩) len cap) (some (.int k x)) none none) K1 =
      ((0 ≤ x ∧ x ≤ (len : Int) ∧ (len : Int) ≤ (cap : Int)) ∧ K1 (.slice (some (if cap = x.toNat then ⟨b, o, none⟩ else ⟨b, o + x.toNat * s, none⟩)) (len - x.toNat) (cap - x.toNat))) := by
  rw [pur_of (c := 0 ≤ x ∧ x ≤ (len : Int) ∧ (len : Int) ≤ (cap : Int)) (v := .slice (some (if cap = x.toNat then ⟨b, o, none⟩ else ⟨b, o + x.toNat * s, none⟩)) (len - x.toNat) (cap - x.toNat))]
  have : (⟨b, o, none⟩ : Addr).add (x.toNat * s) = ⟨b, o + x.toNat * s, none⟩ := add_spot rfl _
  simp only [pv, h, cutV, lowV, upV, Option.map_some, this, Int.toNat_natCast]
  split <;> rfl
theorem pur_cut_hi {len cap s b o : Nat} {e : TypeId} {k : IntKind} {x : Int} (h : sliceOf P t = some (e, s)) :
    (nice P).pur (.slice t (.slice (some ⟨b, o, none⟩) len cap) none (some (.int k x)) none) K1 =
      ((0 ≤ x ∧ x ≤ (cap : Int)) ∧ K1 (.slice (some ⟨b, o, none⟩) x.toNat cap)) := by
  rw [pur_of (c := (0 : Int) ≤ 0 ∧ 0 ≤ x ∧ x ≤ (cap : Int)) (v := .slice (some ⟨b, o, none⟩) x.toNat cap)]
  · simp
  · simp [pv, h, cutV, lowV, upV, Addr.add]
theorem op_cut_lo {len cap s b o : Nat} {e : TypeId} {k : IntKind} {x : Int} (h : sliceOf P t = some (e, s)) :
    (nice P).op (.slice t (.slice (some ⟨b, o, none⟩) len cap) (some (.int k x)) none none) w K Kp =
      ((0 ≤ x ∧ x ≤ (len : Int) ∧ (len : Int) ≤ (cap : Int)) ∧ K (.slice (some (if cap = x.toNat then ⟨b, o, none⟩ else ⟨b, o + x.toNat * s, none⟩)) (len - x.toNat) (cap - x.toNat)) w) := op_slice_lo h
theorem op_cut_hi {len cap s b o : Nat} {e : TypeId} {k : IntKind} {x : Int} (h : sliceOf P t = some (e, s)) :
    (nice P).op (.slice t (.slice (some ⟨b, o, none⟩) len cap) none (some (.int k x)) none) w K Kp =
      ((0 ≤ x ∧ x ≤ (cap : Int)) ∧ K (.slice (some ⟨b, o, none⟩) x.toNat cap) w) := by
  rw [op_of (c := (0 : Int) ≤ 0 ∧ 0 ≤ x ∧ x ≤ (cap : Int)) (v := .slice (some ⟨b, o, none⟩) x.toNat cap)]
  · simp
  · simp [pv, h, cutV, lowV, upV, Addr.add]
/-! ### rows -/
def lw (xs : List Value) (o : Nat) (l : List Value) : List Value := xs.take o ++ l ++ xs.drop (o + l.length)
theorem lw_len {xs l : List Value} {o : Nat} (h : o + l.length ≤ xs.length) : (lw xs o l).length = xs.length := by simp [lw]; omega
theorem ow_lw (l : List Value) : ∀ (cs : Array Value) (o : Nat), o + l.length ≤ cs.size → (ow cs o l).toList = lw cs.toList o l := fun cs o h => by
  apply List.ext_getElem?
  intro j
  rw [Array.getElem?_toList, getElem?_ow l cs o h j]
  simp only [lw, List.append_assoc]
  by_cases h1 : j < o
  · rw [if_neg (by omega), List.getElem?_append_left (by simp; omega), List.getElem?_take, if_pos h1]; simp
  · by_cases h2 : j < o + l.length
    · rw [if_pos (by omega), List.getElem?_append_right (by simp; omega), List.getElem?_append_left (by simp; omega)]
      simp only [List.length_take, Array.length_toList]
      congr 1; omega
    · rw [if_neg (by omega), List.getElem?_append_right (by simp; omega), List.getElem?_append_right (by simp; omega), List.getElem?_drop]
      simp only [List.length_take, Array.length_toList, Array.getElem?_toList]
      congr 1; omega
theorem lw_take {xs l : List Value} {o n : Nat} (h : o + l.length ≤ n) (hn : n ≤ xs.length) : (lw xs o l).take n = lw (xs.take n) o l := by
  apply List.ext_getElem?
  intro j
  simp only [lw, List.getElem?_take, List.getElem?_append, List.getElem?_drop, List.length_take, List.length_append, List.length_drop]
  repeat' split
  all_goals first | rfl | omega | (congr 1; omega) | (rw [List.getElem?_eq_none]; simp; omega) | (symm; rw [List.getElem?_eq_none]; simp; omega) | skip
def Rw (w : World) (e : TypeId) (s g cap : Nat) (xs : List Value) : Prop :=
  ∃ cur, w.heap[g]? = some (.cells cur e (0, 0)) ∧ cur.size = cap * s ∧ xs.length ≤ cap * s ∧ cur.toList.take xs.length = xs ∧ cap ≤ maxLen
variable {e : TypeId} {s g cap : Nat} {xs : List Value}
theorem Rw.frame {M : Nat → Prop} (h : Rw w e s g cap xs) (hf : Frm M w w') (hM : ¬ M g) : Rw w' e s g cap xs := by
  obtain ⟨cur, h1, h2⟩ := h
  exact ⟨cur, hf.get h1 hM, h2⟩
theorem Rw.keep (h : Rw w e s g cap xs) (hf : ∀ o, w.heap[g]? = some o → w'.heap[g]? = some o) : Rw w' e s g cap xs := by
  obtain ⟨cur, h1, h2⟩ := h
  exact ⟨cur, hf _ h1, h2⟩
theorem Rw.drew (h : Rw w e s g cap xs) : Rw w.drew e s g cap xs := h.keep fun _ h => by simpa using h
theorem Rw.lt (h : Rw w e s g cap xs) : g < w.heap.size := by obtain ⟨cur, h1, h2⟩ := h; exact lt_of_get h1
theorem Rw.cells (h : Rw w e s g cap xs) : ∃ cur, w.heap[g]? = some (.cells cur e (0, 0)) ∧ cur.size = cap * s ∧ ∀ j, j < xs.length → cur[j]? = xs[j]? := by
  obtain ⟨cur, h1, h2, h3, h4⟩ := h
  refine ⟨cur, h1, h2, fun j hj => ?_⟩
  have := congrArg (fun l => l[j]?) h4.1
  simp only [List.getElem?_take, if_pos hj] at this
  simpa using this
theorem Rw.part (h : Rw w e s g cap xs) : ∃ cur, w.heap[g]? = some (.cells cur e (0, 0)) ∧ cur.size = cap * s ∧ ∀ i n, i + n ≤ xs.length → i + n ≤ cur.size ∧ cur.extract i (i + n) = ((xs.drop i).take n).toArray := by
  obtain ⟨cur, h1, h2, h3, h4, h5⟩ := h
  refine ⟨cur, h1, h2, fun i n hin => ⟨by omega, ?_⟩⟩
  apply Array.ext'
  rw [Array.toList_extract, List.extract_eq_take_drop, ← h4, List.drop_take, List.take_take]
  simp only [List.length_take, Array.length_toList]
  congr 1; omega
theorem Rw.write {l : List Value} {o : Nat} {cur : Array Value} (h : Rw w e s g cap xs) (hb : w.heap[g]? = some (.cells cur e (0, 0))) (ho : o + l.length ≤ xs.length) :
    Rw (w.upd g (.cells (ow cur o l) e (0, 0))) e s g cap (lw xs o l) := by
  obtain ⟨cur', h1, h2, h3, h4, h5⟩ := h
  have : cur' = cur := by have := h1.symm.trans hb; simpa using this
  subst this
  refine ⟨_, heap_upd_same h1, by simp [h2], by rw [lw_len ho]; exact h3, ?_, h5⟩
  rw [ow_lw _ _ _ (by omega), lw_len ho, lw_take ho (by simp; omega), h4]
theorem Rw.own (h : Rw w e s g cap xs) {n : Nat} (hn : xs.length = n * s) (hc : n ≤ cap) : w.ownsRow 0 e s (.slice (some ⟨g, 0, none⟩) n cap) n xs := by
  obtain ⟨cur, h1, h2, h3, h4, h5⟩ := h
  exact ⟨hn, .inr ⟨g, cap, cur, rfl, by omega, h1, hc, h5, h2, by rw [← hn]; exact h4⟩⟩
theorem Rw.of_own {v : Value} {n : Nat} (h : w.ownsRow 0 e s v n xs) (h0 : 0 < n) : ∃ g cap, v = .slice (some ⟨g, 0, none⟩) n cap ∧ n ≤ cap ∧ Rw w e s g cap xs ∧ v.ownBlock = some g := by
  obtain ⟨h1, h2 | ⟨g, cap, cur, rfl, h3, h4, h5, h6, h7, h8⟩⟩ := h
  · omega
  · exact ⟨g, cap, rfl, h5, ⟨cur, h4, h7, by rw [h1]; exact Nat.mul_le_mul_right _ h5, by rw [h1]; exact h8, h6⟩, rfl⟩
theorem Rw.lit {xs : List Value} {n : Nat} (hn : xs.length = n * s) (h5 : n ≤ maxLen) (hg : w.heap[g]? = some (.cells xs.toArray e (0, 0))) : Rw w e s g n xs :=
  ⟨_, hg, by simp [hn], by omega, by simp, h5⟩
theorem op_make {k : IntKind} {n bytes : Nat} {m : Int} (ha : apOf P t = some (e, s, bytes)) (hm : m = n) (hb : n * (bytes + 1) ≤ 140737488355328)
    (hK : ∀ zs : List Value, zs.length = n * s → n ≤ maxLen → K (.slice (some ⟨w.heap.size, 0, none⟩) n n) (w.alloc (.cells zs.toArray e))) :
    (nice P).op (.mkSlice t (.int k m) (.int k m)) w K Kp := by
  obtain ⟨i, z, ht, hi, hz, hsize, hby, hzs, hsz⟩ := apOf_spec ha
  have h1 : n * bytes ≤ 140737488355328 := Nat.le_trans (Nat.mul_le_mul_left _ (by omega)) hb
  have h2 : n ≤ 140737488355328 := Nat.le_trans (Nat.le_mul_of_pos_right _ (by omega)) hb
  subst hm
  have hr := run_make (P := P) w t e i z ht hi hz k k n n (by omega) (Int.le_refl _) (by rw [hby]; have : ((bytes * n : Nat) : Int) ≤ 140737488355328 := by rw [Nat.mul_comm]; omega
                                                                                         rw [Int.natCast_mul] at this; omega) (by omega)
  simp only [Int.toNat_natCast] at hr
  show outOf P _ w K Kp
  refine out_ok hr ?_
  have := hK (madeCells z.cells (n * i.size)).toList (by rw [Array.length_toList, size_madeCells, hsize]) (by unfold maxLen; omega)
  simpa using this
theorem op_copyN {dT sT ty elem : TypeId} {g o dl dc b oo sl sc n : Nat} {cur cs : Array Value} {t e : TypeId} {fz : Nat × Nat}
    (hu : P.underlying dT = some (.slice elem)) (hs : szOf P elem = some s)
    (hg : w.heap[g]? = some (.cells cur t (0, 0))) (hb : w.heap[b]? = some (.cells cs e fz)) (hn : n = min sl dl)
    (hd : o + n * s ≤ cur.size) (hsr : oo + n * s ≤ cs.size) (h1 : ∀ v ∈ (cs.toList.drop oo).take (n * s), v.oneCell' = true)
    (hK : K (.int .i64 n) (w.upd g (.cells (ow cur o ((cs.toList.drop oo).take (n * s))) t (0, 0)))) :
    (nice P).op (.blt .copy [dT, sT] ty [.slice (some ⟨g, o, none⟩) dl dc, .slice (some ⟨b, oo, none⟩) sl sc]) w K Kp := by
  have hlen : ((cs.toList.drop oo).take (n * s)).length = n * s := by simp; omega
  have hl := run_loadCells_list (P := P) w ⟨b, oo, none⟩ ((cs.toList.drop oo).take (n * s)) (fun j v hj => by
      rw [add_spot rfl, World.cell?, hb]
      rw [List.getElem?_take] at hj
      split at hj
      · rw [List.getElem?_drop] at hj
        simpa using hj
      · cases hj)
  have hst := run_storeCells (P := P) ((cs.toList.drop oo).take (n * s)) (w := w) (p := ⟨g, o, none⟩) 0 hg rfl (by rw [hlen]; exact hd) h1
  rw [hlen] at hl
  show outOf P _ w K Kp
  have hn' : Nat.min sl dl = n := hn.symm
  cases hq : P.info? elem with
  | none => simp [szOf, hq] at hs
  | some i =>
    have hi : i.size = s := by simpa [szOf, hq] using hs
    refine out_ok (v := .int .i64 n) ?_ hK
    simp [VOp.sem, bltSem, Builtin.copy_, run_und hu, Builtin.lenOf, Builtin.firstCells, sizeOf, typeInfo, hq, hi, hn', hl, hst, goInt]
theorem op_copyR {dT sT ty e' : TypeId} {g o dl dc b oo sl sc n cap' : Nat} {ys : List Value} (hc : (sliceOf P dT).map (·.2) = some s)
    (hg : Rw w e s g cap xs) (hb : Rw w e' s b cap' ys) (hn : n = min sl dl) (hd : o + n * s ≤ xs.length) (hsr : oo + n * s ≤ ys.length) (h1 : ∀ v ∈ ys, v.oneCell' = true)
    (hK : ∀ w', Frm (· = g) w w' → w'.heap.size = w.heap.size → Rw w' e s g cap (lw xs o ((ys.drop oo).take (n * s))) → K (.int .i64 n) w') :
    (nice P).op (.blt .copy [dT, sT] ty [.slice (some ⟨g, o, none⟩) dl dc, .slice (some ⟨b, oo, none⟩) sl sc]) w K Kp := by
  cases hq : sliceOf P dT with
  | none => simp [hq] at hc
  | some es =>
    obtain ⟨el, s'⟩ := es
    have : s' = s := by simpa [hq] using hc
    subst this
    obtain ⟨hu, hs⟩ := slice_spec hq
    obtain ⟨cur, h2, h3, h4, h5, h6⟩ := id hg
    obtain ⟨cs, k2, k3, k4, k5, k6⟩ := id hb
    have hseg : (cs.toList.drop oo).take (n * s') = (ys.drop oo).take (n * s') := by
      rw [← k5, List.drop_take, List.take_take]; congr 1; omega
    have hlen : ((ys.drop oo).take (n * s')).length = n * s' := by simp; omega
    refine op_copyN hu hs h2 k2 hn (by omega) (by omega) (fun v hv => h1 v ?_) ?_
    · rw [hseg] at hv; exact List.mem_of_mem_drop (List.mem_of_mem_take hv)
    · rw [hseg]
      exact hK _ (Frm.upd _ _ fun _ => rfl) (by simp) (hg.write h2 (by rw [hlen]; exact hd))
end Go.Vc
end
section
namespace Go.Vc
variable {P : Program} {w w' : World} {K : Value → World → Prop} {Kp : KP} {t e : TypeId} {b o : Nat} {cs : Array Value} {v : Value} {s g cap : Nat} {xs : List Value}
theorem Frm.dr {M : Nat → Prop} {w w' : World} (h : Frm M w.drew w') : Frm M w w' := (Frm.drew w).trans h fun _ h _ => h
theorem Frm.no {w w' w'' : World} (h : Frm (fun _ => False) w w') (k : Frm (fun _ => False) w' w'') : Frm (fun _ => False) w w'' := h.trans k fun _ h _ => h
theorem Frm.tr {M M' : Nat → Prop} {w w' w'' : World} (h : Frm M w w') (k : Frm M' w' w'') : Frm (fun b => M b ∨ M' b) w w'' :=
  (h.mono fun b hb _ => .inl hb).trans k fun b hb _ => .inr hb
theorem Frm.old {M M' : Nat → Prop} {w w' w'' : World} (h : Frm M w w') (k : Frm M' w' w'') (hM : ∀ b, M' b → M b ∨ w.heap.size ≤ b) : Frm M w w'' :=
  h.trans k fun b hb hl => (hM b hb).elim id fun h => absurd hl (by omega)
theorem Frm.fst {M : Nat → Prop} {w w' w'' : World} (h : Frm (fun _ => False) w w') (k : Frm M w' w'') : Frm M w w'' := (h.mono fun _ h _ => h.elim).trans k fun _ h _ => h
theorem Frm.to {M M' : Nat → Prop} {w w' : World} (h : Frm M w w') (hM : ∀ b, M b → M' b) : Frm M' w w' := h.mono fun b hb _ => hM b hb
theorem op_box_ok (hK : ∀ w', Frm (fun _ => False) w w' → w'.heap.size = w.heap.size + 1 → w'.heap[w.heap.size]? = some (.cells v.cells t (0, 0)) → K (.pointer (some ⟨w.heap.size, 0, none⟩)) w') : (nice P).op (.box t v) w K Kp :=
  hK _ (Frm.alloc _ _) size_alloc hp_alloc_new
theorem op_alloc_ok {z : Value} (h : zeroOf P t = some z) (hK : ∀ w', Frm (fun _ => False) w w' → w'.heap.size = w.heap.size + 1 → w'.heap[w.heap.size]? = some (.cells z.cells t (0, 0)) → K (.pointer (some ⟨w.heap.size, 0, none⟩)) w') : (nice P).op (.alloc t) w K Kp := by
  rw [op_alloc h]
  exact hK _ (Frm.alloc _ _) size_alloc hp_alloc_new
theorem op_lit_ok {n : Nat} {ps : List (Nat × Value)} (h : sliceLit P t n ps = some (e, cs)) (hK : ∀ w', Frm (fun _ => False) w w' → w'.heap.size = w.heap.size + 1 → w'.heap[w.heap.size]? = some (.cells cs e (0, 0)) → K (.slice (some ⟨w.heap.size, 0, none⟩) n n) w') :
    (nice P).op (.buildSlice t n ps) w K Kp := by
  rw [op_lit h]
  exact hK _ (Frm.alloc _ _) size_alloc hp_alloc_new
theorem op_store_ok (h : ldk P t = some .one) (hb : w.heap[b]? = some (.cells cs e (0, 0))) (ho : o < cs.size) (h1 : v.oneCell' = true)
    (hK : ∀ w', Frm (· = b) w w' → w'.heap.size = w.heap.size → w'.heap[b]? = some (.cells (cs.setIfInBounds o v) e (0, 0)) → K undef w') : (nice P).op (.store t (.pointer (some ⟨b, o, none⟩)) v) w K Kp := by
  rw [op_st h]
  exact ⟨cs, e, hb, rfl, ho, h1, hK _ (Frm.upd _ _ fun _ => rfl) (by simp) (heap_upd_same hb)⟩
theorem op_make_ok {k : IntKind} {n bytes : Nat} {m : Int} (ha : apOf P t = some (e, s, bytes)) (hm : m = n) (hb : n * (bytes + 1) ≤ 140737488355328)
    (hK : ∀ w' zs, Frm (fun _ => False) w w' → w'.heap.size = w.heap.size + 1 → zs.length = n * s → Rw w' e s w.heap.size n zs → K (.slice (some ⟨w.heap.size, 0, none⟩) n n) w') :
    (nice P).op (.mkSlice t (.int k m) (.int k m)) w K Kp :=
  op_make ha hm hb fun zs hz hn => hK _ zs (Frm.alloc _ _) size_alloc hz (Rw.lit hz hn hp_alloc_new)
theorem op_storeRN {vs : Array Value} {n : Nat} (h : ldk P t = some (.agg n)) (hn : vs.size = n) (hr : Rw w e s g cap xs) (ho : o + n ≤ xs.length) (h1 : ∀ u ∈ vs, u.oneCell' = true)
    (hK : ∀ w', Frm (· = g) w w' → w'.heap.size = w.heap.size → Rw w' e s g cap (lw xs o vs.toList) → K undef w') : (nice P).op (.store t (.pointer (some ⟨g, o, none⟩)) (.agg vs)) w K Kp := by
  obtain ⟨cur, h2, h3, h4, h5, h6⟩ := id hr
  rw [op_stn h]
  exact ⟨hn, fun u hu => h1 u (by simpa using hu), cur, e, h2, rfl, by show o + n ≤ cur.size; omega, hK _ (Frm.upd w _ fun _ => rfl) (by simp) (hr.write h2 (by simpa [hn] using ho))⟩
theorem lw_nil {xs : List Value} {o : Nat} : lw xs o [] = xs := by simp [lw]
theorem op_copyX {dT sT ty e' : TypeId} {a1 a2 : Addr} {x1 x2 dl dc q sl sc n cap' : Nat} {ys : List Value} (hc : (sliceOf P dT).map (·.2) = some s)
    (hg : Rw w e s g cap xs) (hb : Rw w e' s q cap' ys) (h1 : a1 = ⟨g, x1 * s, none⟩ ∨ a1 = ⟨g, 0, none⟩ ∧ n = 0) (h2 : a2 = ⟨q, x2 * s, none⟩ ∨ a2 = ⟨q, 0, none⟩ ∧ n = 0) (hn : n = min sl dl)
    (hd : x1 * s + n * s ≤ xs.length) (hsr : x2 * s + n * s ≤ ys.length) (ho : ∀ v ∈ ys, v.oneCell' = true)
    (hK : ∀ w', Frm (· = g) w w' → w'.heap.size = w.heap.size → Rw w' e s g cap (lw xs (x1 * s) ((ys.drop (x2 * s)).take (n * s))) → K (.int .i64 n) w') :
    (nice P).op (.blt .copy [dT, sT] ty [.slice (some a1) dl dc, .slice (some a2) sl sc]) w K Kp := by
  by_cases h0 : n = 0
  · subst h0
    obtain ⟨o1, rfl⟩ : ∃ o1, a1 = ⟨g, o1, none⟩ := by rcases h1 with h | h; exact ⟨_, h⟩; exact ⟨_, h.1⟩
    obtain ⟨o2, rfl⟩ : ∃ o2, a2 = ⟨q, o2, none⟩ := by rcases h2 with h | h; exact ⟨_, h⟩; exact ⟨_, h.1⟩
    have e1 : o1 ≤ xs.length := by
      rcases h1 with h | h
      · simp only [Addr.mk.injEq] at h; omega
      · have := h.1; simp only [Addr.mk.injEq] at this; omega
    have e2 : o2 ≤ ys.length := by
      rcases h2 with h | h
      · simp only [Addr.mk.injEq] at h; omega
      · have := h.1; simp only [Addr.mk.injEq] at this; omega
    refine op_copyR hc hg hb hn (by omega) (by omega) ho fun w' k z r => hK w' k z ?_
    simpa [lw_nil] using r
  · obtain rfl : a1 = ⟨g, x1 * s, none⟩ := h1.resolve_right fun h => h0 h.2
    obtain rfl : a2 = ⟨q, x2 * s, none⟩ := h2.resolve_right fun h => h0 h.2
    exact op_copyR hc hg hb hn hd hsr ho hK
/-! ### looking up -/
theorem Rw.take {w : World} {e : TypeId} {s g cap : Nat} {xs : List Value} (h : Rw w e s g cap xs) (n : Nat) : Rw w e s g cap (xs.take n) := by
  obtain ⟨cur, h1, h2, h3, h4, h5⟩ := h
  refine ⟨cur, h1, h2, by simp; omega, ?_, h5⟩
  have := congrArg (List.take n) h4
  rw [List.take_take] at this
  rw [List.length_take, ← this]
end Go.Vc
end
section
namespace Go.Vc
variable {P : Program} {w w' : World} {K : Value → World → Prop} {Kp : KP} {t e : TypeId} {b o : Nat} {cs : Array Value} {v : Value} {s g cap : Nat} {xs : List Value}
theorem op_storeN_ok {vs : Array Value} {n : Nat} (h : ldk P t = some (.agg n)) (hb : w.heap[b]? = some (.cells cs e (0, 0))) (hn : vs.size = n) (ho : o + n ≤ cs.size) (h1 : ∀ u ∈ vs, u.oneCell' = true)
    (hK : ∀ w', Frm (· = b) w w' → w'.heap.size = w.heap.size → w'.heap[b]? = some (.cells (ow cs o vs.toList) e (0, 0)) → K undef w') : (nice P).op (.store t (.pointer (some ⟨b, o, none⟩)) (.agg vs)) w K Kp := by
  rw [op_stn h]
  exact ⟨hn, fun u hu => h1 u (by simpa using hu), cs, e, hb, rfl, ho, hK _ (Frm.upd _ _ fun _ => rfl) (by simp) (heap_upd_same hb)⟩
theorem ow_get {l : List Value} {cs : Array Value} {o j : Nat} (h : o + l.length ≤ cs.size) : (ow cs o l)[j]? = if o ≤ j ∧ j < o + l.length then l[j - o]? else cs[j]? := getElem?_ow l cs o h j
theorem ow_size (l : List Value) : ∀ (cs : Array Value) (o : Nat), (ow cs o l).size = cs.size := by
  induction l with
  | nil => intro cs o; rfl
  | cons v l ih => intro cs o; rw [ow, ih]; simp
end Go.Vc
end
section
namespace Go.Vc
variable {P : Program} {w w' : World} {K : Value → World → Prop} {Kp : KP} {K1 : Value → Prop} {t e e' : TypeId} {s g o n c cap : Nat} {xs ys : List Value}
def Sg (w : World) (e : TypeId) (s g o n c : Nat) (xs : List Value) : Prop :=
  ∃ cs, w.heap[g]? = some (.cells cs e (0, 0)) ∧ xs.length = n * s ∧ n ≤ c ∧ o + c * s ≤ cs.size ∧ (cs.toList.drop o).take (n * s) = xs ∧ c ≤ maxLen
theorem Sg.frame {M : Nat → Prop} (h : Sg w e s g o n c xs) (hf : Frm M w w') (hM : ¬ M g) : Sg w' e s g o n c xs := by
  obtain ⟨cs, h1, h2⟩ := h
  exact ⟨cs, hf.get h1 hM, h2⟩
theorem Sg.still (h : Sg w e s g o n c xs) (hf : Frm (fun _ => False) w w') : Sg w' e s g o n c xs := h.frame hf fun h => h
theorem Sg.lt (h : Sg w e s g o n c xs) : g < w.heap.size := by obtain ⟨cs, h1, h2⟩ := h; exact lt_of_get h1
theorem Sg.len (h : Sg w e s g o n c xs) : xs.length = n * s := by obtain ⟨cs, h1, h2, _⟩ := h; exact h2
theorem Sg.le (h : Sg w e s g o n c xs) : n ≤ c := by obtain ⟨cs, h1, h2, h3, _⟩ := h; exact h3
theorem Rw.sg (h : Rw w e s g cap xs) (hn : xs.length = n * s) (hc : n ≤ cap) : Sg w e s g 0 n cap xs := by
  obtain ⟨cur, h1, h2, h3, h4, h5⟩ := h
  exact ⟨cur, h1, hn, hc, by omega, by rw [List.drop_zero, ← hn]; exact h4, h5⟩
theorem Sg.cells (h : Sg w e s g o n c xs) : ∃ cs, w.heap[g]? = some (.cells cs e (0, 0)) ∧ o + c * s ≤ cs.size ∧ ∀ j, j < xs.length → cs[o + j]? = xs[j]? := by
  obtain ⟨cs, h1, h2, h3, h4, h5, h6⟩ := h
  refine ⟨cs, h1, h4, fun j hj => ?_⟩
  rw [← h5, List.getElem?_take, if_pos (by omega), List.getElem?_drop, Array.getElem?_toList]
theorem Sg.part (h : Sg w e s g o n c xs) : ∃ cs, w.heap[g]? = some (.cells cs e (0, 0)) ∧ o + c * s ≤ cs.size ∧ ∀ i m, i + m ≤ xs.length → o + i + m ≤ cs.size ∧ cs.extract (o + i) (o + i + m) = ((xs.drop i).take m).toArray := by
  obtain ⟨cs, h1, h2, h3, h4, h5, h6⟩ := h
  have hnc : n * s ≤ c * s := Nat.mul_le_mul_right _ h3
  refine ⟨cs, h1, h4, fun i m him => ⟨by omega, ?_⟩⟩
  apply Array.ext'
  rw [Array.toList_extract, List.extract_eq_take_drop, ← h5, List.drop_take, List.take_take, List.drop_drop]
  congr 1
  omega
theorem Sg.hi {i : Nat} (h : Sg w e s g o n c xs) (hi : i ≤ n) : Sg w e s g o i c (xs.take (i * s)) := by
  obtain ⟨cs, h1, h2, h3, h4, h5, h6⟩ := h
  have := Nat.mul_le_mul_right s hi
  exact ⟨cs, h1, by simp; omega, by omega, h4, by rw [← h5, List.take_take, Nat.min_eq_left this], h6⟩
theorem Sg.mx {i : Nat} (h : Sg w e s g o n c xs) (hi : i ≤ n) : Sg w e s g o i i (xs.take (i * s)) := by
  obtain ⟨cs, h1, h2, h3, h4, h5, h6⟩ := h
  have := Nat.mul_le_mul_right s hi
  have := Nat.mul_le_mul_right s h3
  exact ⟨cs, h1, by simp; omega, by omega, by omega, by rw [← h5, List.take_take, Nat.min_eq_left (by omega)], by omega⟩
theorem Sg.lo {i : Nat} (h : Sg w e s g o n c xs) (hi : i ≤ n) : Sg w e s g (o + i * s) (n - i) (c - i) (xs.drop (i * s)) := by
  obtain ⟨cs, h1, h2, h3, h4, h5, h6⟩ := h
  have e1 : (n - i) * s = n * s - i * s := Nat.sub_mul _ _ _
  have e2 : (c - i) * s = c * s - i * s := Nat.sub_mul _ _ _
  have := Nat.mul_le_mul_right s hi
  have := Nat.mul_le_mul_right s h3
  refine ⟨cs, h1, by simp; omega, by omega, by omega, ?_, by omega⟩
  rw [← h5, List.drop_take, List.drop_drop, e1]
theorem op_cut_mx {len cap s b o : Nat} {e : TypeId} {k k' : IntKind} {x y : Int} (h : sliceOf P t = some (e, s)) :
    (nice P).op (.slice t (.slice (some ⟨b, o, none⟩) len cap) none (some (.int k x)) (some (.int k' y))) w K Kp =
      ((0 ≤ x ∧ x ≤ y ∧ y ≤ (cap : Int)) ∧ K (.slice (some ⟨b, o, none⟩) x.toNat y.toNat) w) := by
  rw [op_of (c := (0 : Int) ≤ 0 ∧ 0 ≤ x ∧ x ≤ y ∧ y ≤ (cap : Int)) (v := .slice (some ⟨b, o, none⟩) x.toNat y.toNat)]
  · simp
  · simp [pv, h, cutV, lowV, upV, Addr.add]
theorem pur_cut_mx {len cap s b o : Nat} {e : TypeId} {k k' : IntKind} {x y : Int} (h : sliceOf P t = some (e, s)) :
    (nice P).pur (.slice t (.slice (some ⟨b, o, none⟩) len cap) none (some (.int k x)) (some (.int k' y))) K1 =
      ((0 ≤ x ∧ x ≤ y ∧ y ≤ (cap : Int)) ∧ K1 (.slice (some ⟨b, o, none⟩) x.toNat y.toNat)) := by
  rw [pur_of (c := (0 : Int) ≤ 0 ∧ 0 ≤ x ∧ x ≤ y ∧ y ≤ (cap : Int)) (v := .slice (some ⟨b, o, none⟩) x.toNat y.toNat)]
  · simp
  · simp [pv, h, cutV, lowV, upV, Addr.add]
theorem op_copyS {dT sT ty : TypeId} {a1 a2 : Addr} {x1 o2 dl dc q sl sc n : Nat} {cs : Array Value} {fz : Nat × Nat} {zs : List Value} (hc : (sliceOf P dT).map (·.2) = some s)
    (hg : Rw w e s g cap xs) (hq : w.heap[q]? = some (.cells cs e' fz)) (h1 : a1 = ⟨g, x1 * s, none⟩ ∨ a1 = ⟨g, 0, none⟩ ∧ n = 0) (h2 : a2 = ⟨q, o2, none⟩) (hn : n = min sl dl)
    (hd : x1 * s + n * s ≤ xs.length) (hz : (cs.toList.drop o2).take (n * s) = zs) (hzn : zs.length = n * s) (ho2 : o2 ≤ cs.size) (ho : ∀ v ∈ zs, v.oneCell' = true)
    (hK : ∀ w', Frm (· = g) w w' → w'.heap.size = w.heap.size → Rw w' e s g cap (lw xs (x1 * s) zs) → K (.int .i64 n) w') :
    (nice P).op (.blt .copy [dT, sT] ty [.slice (some a1) dl dc, .slice (some a2) sl sc]) w K Kp := by
  obtain ⟨o1, rfl, hd1, hlw⟩ : ∃ o1, a1 = ⟨g, o1, none⟩ ∧ o1 + n * s ≤ xs.length ∧ lw xs o1 zs = lw xs (x1 * s) zs := by
    rcases h1 with h | ⟨h, h0⟩
    · exact ⟨_, h, hd, rfl⟩
    · refine ⟨0, h, by rw [h0]; omega, ?_⟩
      have : zs = [] := List.eq_nil_of_length_eq_zero (by rw [hzn, h0]; omega)
      rw [this, lw_nil, lw_nil]
  subst h2
  cases hq' : sliceOf P dT with
  | none => simp [hq'] at hc
  | some es =>
    obtain ⟨el, s'⟩ := es
    have : s' = s := by simpa [hq'] using hc
    subst this
    obtain ⟨hu, hs⟩ := slice_spec hq'
    obtain ⟨cur, k2, k3, k4, k5, k6⟩ := id hg
    have hsr : o2 + n * s' ≤ cs.size := by
      have := congrArg List.length hz
      rw [hzn, List.length_take, List.length_drop, Array.length_toList] at this
      by_cases h0 : n * s' = 0
      · omega
      · omega
    refine op_copyN hu hs k2 hq hn (by omega) hsr (fun v hv => ho v (by rw [← hz]; exact hv)) ?_
    rw [hz]
    refine hK _ (Frm.upd _ _ fun _ => rfl) (by simp) ?_
    rw [← hlw]
    exact hg.write k2 (by rw [hzn]; exact hd1)
end Go.Vc
end
section
namespace Go.Vc.Bt
section
variable {κ ν : Type} [DecidableEq κ]
structure Lin (lt : κ → κ → Bool) : Prop where
  irr : ∀ a, lt a a = false
  tr : ∀ {a b c}, lt a b = true → lt b c = true → lt a c = true
  tri : ∀ {a b}, lt a b = false → lt b a = false → a = b
variable {lt : κ → κ → Bool}
theorem Lin.asym (h : Lin lt) {a b : κ} (hab : lt a b = true) : lt b a = false := by
  cases hb : lt b a with
  | false => rfl
  | true => have := h.tr hab hb; rw [h.irr] at this; cases this
theorem Lin.lt_le (h : Lin lt) {a b c : κ} (hab : lt a b = true) (hbc : lt c b = false) : lt a c = true := by
  cases hb : lt b c with
  | true => exact h.tr hab hb
  | false => rw [h.tri hbc hb]; exact hab
def cmp (lt : κ → κ → Bool) (a b : κ) : Int := if lt a b then -1 else if lt b a then 1 else 0
theorem cmp_zero (h : Lin lt) {a b : κ} : cmp lt a b = 0 ↔ a = b := by
  unfold cmp
  cases h1 : lt a b with
  | true =>
    simp
    intro e; subst e; rw [h.irr] at h1; cases h1
  | false =>
    cases h2 : lt b a with
    | true =>
      simp
      intro e; subst e; rw [h.irr] at h2; cases h2
    | false => simp; exact h.tri h1 h2
theorem cmp_one {a b : κ} (h : Lin lt) : cmp lt a b = 1 ↔ lt b a = true := by
  unfold cmp
  cases h1 : lt a b with
  | true => simp [h.asym h1]
  | false => cases h2 : lt b a <;> simp
theorem cmp_neg {a b : κ} : cmp lt a b = -1 ↔ lt a b = true := by
  unfold cmp
  cases h1 : lt a b with
  | true => simp
  | false => cases h2 : lt b a <;> simp
abbrev Sd (lt : κ → κ → Bool) (L : List (κ × ν)) : Prop := L.Pairwise fun a b => lt a.1 b.1 = true
def place (lt : κ → κ → Bool) (L : List (κ × ν)) (k : κ) : Nat := L.findIdx fun e => !lt e.1 k
def has (lt : κ → κ → Bool) (L : List (κ × ν)) (k : κ) : Bool := match L[place lt L k]? with
  | some e => decide (e.1 = k)
  | none => false
def put (lt : κ → κ → Bool) (L : List (κ × ν)) (k : κ) (v : ν) : List (κ × ν) :=
  if has lt L k then L.set (place lt L k) (k, v) else L.take (place lt L k) ++ (k, v) :: L.drop (place lt L k)
def rem (lt : κ → κ → Bool) (L : List (κ × ν)) (k : κ) : List (κ × ν) := if has lt L k then L.eraseIdx (place lt L k) else L
def got (lt : κ → κ → Bool) (L : List (κ × ν)) (k : κ) : Option ν := if has lt L k then L[place lt L k]?.map (·.2) else none
theorem place_le (L : List (κ × ν)) (k : κ) : place lt L k ≤ L.length := List.findIdx_le_length
theorem place_app {A B : List (κ × ν)} {k : κ} (hA : ∀ e ∈ A, lt e.1 k = true) : place lt (A ++ B) k = A.length + place lt B k := by
  induction A with
  | nil => simp
  | cons a A ih =>
    have h1 := hA a (by simp)
    have h2 := ih fun e he => hA e (by simp [he])
    unfold place at h2 ⊢
    rw [List.cons_append, List.findIdx_cons, h1, h2]
    simp only [Bool.not_true, cond_false, List.length_cons]; omega
theorem place_pre (h : Lin lt) {M B : List (κ × ν)} {k : κ} (hB : ∀ e ∈ B, lt k e.1 = true) : place lt (M ++ B) k = place lt M k := by
  induction M with
  | nil =>
    cases B with
    | nil => rfl
    | cons b B =>
      have := h.asym (hB b (by simp))
      simp [place, List.findIdx_cons, this]
  | cons a M ih =>
    unfold place at ih ⊢
    rw [List.cons_append, List.findIdx_cons, List.findIdx_cons, ih]
theorem has_mid (h : Lin lt) {A M B : List (κ × ν)} {k : κ} (hA : ∀ e ∈ A, lt e.1 k = true) (hB : ∀ e ∈ B, lt k e.1 = true) : has lt (A ++ (M ++ B)) k = has lt M k := by
  have hp := place_le (lt := lt) M k
  unfold has
  rw [place_app hA, place_pre h hB, List.getElem?_append_right (by omega), Nat.add_sub_cancel_left]
  by_cases hl : place lt M k < M.length
  · rw [List.getElem?_append_left hl]
  · rw [List.getElem?_append_right (by omega), List.getElem?_eq_none (l := M) (by omega)]
    cases hb : B[place lt M k - M.length]? with
    | none => rfl
    | some b =>
      have := hB b (List.mem_of_getElem? hb)
      simp only [decide_eq_false_iff_not]
      intro e
      rw [e, h.irr] at this; cases this
theorem has_lt {M : List (κ × ν)} {k : κ} (h : has lt M k = true) : place lt M k < M.length := by
  unfold has at h
  cases hm : M[place lt M k]? with
  | none => rw [hm] at h; cases h
  | some e => exact (List.getElem?_eq_some_iff.1 hm).1
theorem put_mid (h : Lin lt) {A M B : List (κ × ν)} {k : κ} {v : ν} (hA : ∀ e ∈ A, lt e.1 k = true) (hB : ∀ e ∈ B, lt k e.1 = true) : put lt (A ++ (M ++ B)) k v = A ++ (put lt M k v ++ B) := by
  have hp := place_le (lt := lt) M k
  unfold put
  rw [has_mid h hA hB, place_app hA, place_pre h hB]
  split
  · rename_i hh
    have := has_lt hh
    rw [List.set_append_right _ _ (by omega), Nat.add_sub_cancel_left, List.set_append_left _ _ this]
  · rw [List.take_append, List.drop_append, List.take_of_length_le (by omega), List.drop_of_length_le (by omega), Nat.add_sub_cancel_left, List.take_append_of_le_length hp, List.drop_append_of_le_length hp]
    simp
theorem rem_mid (h : Lin lt) {A M B : List (κ × ν)} {k : κ} (hA : ∀ e ∈ A, lt e.1 k = true) (hB : ∀ e ∈ B, lt k e.1 = true) : rem lt (A ++ (M ++ B)) k = A ++ (rem lt M k ++ B) := by
  unfold rem
  rw [has_mid h hA hB, place_app hA, place_pre h hB]
  split
  · rename_i hh
    have := has_lt hh
    rw [List.eraseIdx_append_of_length_le (by omega), Nat.add_sub_cancel_left, List.eraseIdx_append_of_lt_length this]
  · rfl
theorem got_mid (h : Lin lt) {A M B : List (κ × ν)} {k : κ} (hA : ∀ e ∈ A, lt e.1 k = true) (hB : ∀ e ∈ B, lt k e.1 = true) : got lt (A ++ (M ++ B)) k = got lt M k := by
  unfold got
  rw [has_mid h hA hB, place_app hA, place_pre h hB]
  split
  · rename_i hh
    have := has_lt hh
    rw [List.getElem?_append_right (by omega), Nat.add_sub_cancel_left, List.getElem?_append_left this]
  · rfl
theorem before {L : List (κ × ν)} {k : κ} : ∀ e ∈ L.take (place lt L k), lt e.1 k = true := fun e he => by
  obtain ⟨i, hi, rfl⟩ := List.mem_iff_getElem.1 he
  simp only [List.length_take] at hi
  have := List.not_of_lt_findIdx (xs := L) (p := fun e => !lt e.1 k) (i := i) (by unfold place at hi; omega)
  simpa using this
theorem findIdx_get {α : Type} (p : α → Bool) (xs : List α) (h : xs.findIdx p < xs.length) : p (xs[xs.findIdx p]'h) = true := List.findIdx_getElem (w := h)
theorem behind (h : Lin lt) {L : List (κ × ν)} (hs : Sd lt L) {k : κ} : ∀ e ∈ L.drop (place lt L k), lt e.1 k = false := fun e he => by
  obtain ⟨j, hj, rfl⟩ := List.mem_iff_getElem.1 he
  rw [List.length_drop] at hj
  have hp : place lt L k < L.length := by omega
  have h0 : lt (L[place lt L k]).1 k = false := by
    have : (!lt (L[place lt L k]).1 k) = true := findIdx_get (fun e : κ × ν => !lt e.1 k) L hp
    simpa using this
  rw [List.getElem_drop]
  cases j with
  | zero => exact h0
  | succ j =>
    have := List.pairwise_iff_getElem.1 hs (place lt L k) (place lt L k + (j + 1)) hp (by omega) (by omega)
    cases hx : lt (L[place lt L k + (j + 1)]).1 k with
    | false => rfl
    | true => have := h.tr this hx; rw [h0] at this; cases this
theorem has_iff (h : Lin lt) {L : List (κ × ν)} (hs : Sd lt L) {k : κ} : has lt L k = true ↔ k ∈ L.map (·.1) := by
  constructor
  · intro hh
    have hp := has_lt hh
    unfold has at hh
    rw [List.getElem?_eq_getElem hp] at hh
    simp only [decide_eq_true_eq] at hh
    exact List.mem_map.2 ⟨_, List.getElem_mem hp, hh⟩
  · intro hm
    obtain ⟨e, he, rfl⟩ := List.mem_map.1 hm
    rw [← List.take_append_drop (place lt L e.1) L] at he
    rcases List.mem_append.1 he with he | he
    · have := before e he; rw [h.irr] at this; cases this
    · have hb := behind h hs e he
      obtain ⟨j, hj, hje⟩ := List.mem_iff_getElem.1 he
      rw [List.length_drop] at hj
      have hp : place lt L e.1 < L.length := by omega
      unfold has
      rw [List.getElem?_eq_getElem hp]
      simp only [decide_eq_true_eq]
      rw [List.getElem_drop] at hje
      cases j with
      | zero => exact congrArg (·.1) hje
      | succ j =>
        have h1 := List.pairwise_iff_getElem.1 hs (place lt L e.1) (place lt L e.1 + (j + 1)) hp (by omega) (by omega)
        rw [hje] at h1
        have h2 := behind h hs (L[place lt L e.1]) (by
          rw [List.drop_eq_getElem_cons hp]; exact List.mem_cons_self)
        rw [h2] at h1; cases h1
theorem put_sd (h : Lin lt) {L : List (κ × ν)} (hs : Sd lt L) (k : κ) (v : ν) : Sd lt (put lt L k v) := by
  have hs' : Sd lt (L.take (place lt L k) ++ L.drop (place lt L k)) := by rw [List.take_append_drop]; exact hs
  obtain ⟨p1, p2, p3⟩ := List.pairwise_append.1 hs'
  unfold put
  split
  · rename_i hh
    have hp := has_lt hh
    have hk : (L[place lt L k]).1 = k := by
      unfold has at hh
      rw [List.getElem?_eq_getElem hp] at hh
      simpa using hh
    rw [List.set_eq_take_append_cons_drop, if_pos hp]
    rw [List.drop_eq_getElem_cons hp] at p2 p3
    obtain ⟨q1, q2⟩ := List.pairwise_cons.1 p2
    refine List.pairwise_append.2 ⟨p1, List.pairwise_cons.2 ⟨fun e he => ?_, q2⟩, fun a ha b hb => ?_⟩
    · have := q1 e he; rw [hk] at this; exact this
    · rcases List.mem_cons.1 hb with rfl | hb
      · exact before a ha
      · exact p3 a ha b (List.mem_cons_of_mem _ hb)
  · rename_i hh
    refine List.pairwise_append.2 ⟨p1, List.pairwise_cons.2 ⟨fun e he => ?_, p2⟩, fun a ha b hb => ?_⟩
    · have h1 := behind h hs e he
      cases h2 : lt k e.1 with
      | true => rfl
      | false =>
        have := h.tri h1 h2
        refine absurd ((has_iff h hs).2 (List.mem_map.2 ⟨e, List.mem_of_mem_drop he, this⟩)) hh
    · rcases List.mem_cons.1 hb with rfl | hb
      · exact before a ha
      · exact p3 a ha b hb
theorem rem_sub {L : List (κ × ν)} {k : κ} : (rem lt L k).Sublist L := by
  unfold rem
  split
  · exact List.eraseIdx_sublist _ _
  · exact List.Sublist.refl _
theorem rem_sd {L : List (κ × ν)} (hs : Sd lt L) (k : κ) : Sd lt (rem lt L k) := hs.sublist rem_sub
theorem put_len {L : List (κ × ν)} {k : κ} {v : ν} : (put lt L k v).length = L.length + if has lt L k then 0 else 1 := by
  unfold put
  have := place_le (lt := lt) L k
  split
  · simp
  · simp; omega
theorem put_ne {L : List (κ × ν)} {k : κ} {v : ν} : put lt L k v ≠ [] := by
  unfold put
  split
  · rename_i hh
    have := has_lt hh
    intro e
    have := congrArg List.length e
    simp at this
    subst this
    simp at *
  · simp
end
end Go.Vc.Bt
end
