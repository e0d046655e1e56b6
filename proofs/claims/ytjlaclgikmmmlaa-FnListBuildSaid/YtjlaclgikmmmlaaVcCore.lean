/- The verification conditions of Go code as plain propositions: a condition for each operation, region, branch and loop, with the proof that what meets the condition of a function's body meets the model's own triple of its call. -/
import Derived.WalkKit
namespace Go.Vc

/-! ### operations with their operands' values -/

inductive VOp where
  | load (t : TypeId) (a : Value)
  | store (t : TypeId) (a v : Value)
  | alloc (t : TypeId)
  | box (t : TypeId) (v : Value)
  | build (t : TypeId) (ps : List (Nat × Value))
  | buildSlice (t : TypeId) (n : Nat) (ps : List (Nat × Value))
  | nilCheck (v : Value)
  | bin (op : BinOp) (t : TypeId) (xc yc : Bool) (x y : Value)
  | un (op : UnOp) (v : Value)
  | conv (s d : TypeId) (v : Value)
  | mkIface (t : TypeId) (v : Value)
  | mkFunc (fn : Fn) (first cap : List Value)
  | mkMap (t : TypeId) (r : Option Value)
  | mkSlice (t : TypeId) (l c : Value)
  | slice (t : TypeId) (x : Value) (lo hi mx : Option Value)
  | fieldAddr (t : TypeId) (x : Value) (f : Nat)
  | field (t : TypeId) (x : Value) (f : Nat)
  | indexAddr (t : TypeId) (x i : Value)
  | index (t : TypeId) (x i : Value)
  | lookup (t : TypeId) (x i : Value) (ok : Bool)
  | mapUpdate (t : TypeId) (m k v : Value)
  | range (t : TypeId) (x : Value)
  | next (it : Value) (isStr : Bool) (ty : TypeId)
  | tassert (x : Value) (xt at' : TypeId) (ok : Bool)
  | extract (x : Value) (i : Nat)
  | blt (b : Builtin) (argTypes : List TypeId) (ty : TypeId) (args : List Value)
  | panic (x : Value)

def nilSem : Value → Sem Value
  | .pointer none | .nilIface | .nilFunc => runtimePanic .nilDeref
  | .func (.method _) _ _ => stuck ""
  | x => pure x

def opd (c : Bool) : Operand := if c then .const undef else .tmp 0

def bltSem (b : Builtin) (argTypes : Array TypeId) (ty : TypeId) (args : Array Value) : Sem Value :=
  match b with
  | .append => Builtin.append_ argTypes ty args
  | .cap => Builtin.cap_ argTypes ty args
  | .clear => Builtin.clear_ argTypes ty args
  | .copy => Builtin.copy_ argTypes ty args
  | .delete => Builtin.delete_ argTypes ty args
  | .len => Builtin.len_ argTypes ty args
  | .max => Builtin.max_ argTypes ty args
  | .min => Builtin.min_ argTypes ty args
  | _ => stuck ""

def VOp.sem : VOp → Sem Value
  | .load t a => Instr.loadAt t a
  | .store t a v => do Instr.storeAt t a v; pure undef
  | .alloc t => Instr.alloc t true (.tuple #[])
  | .box t v => Instr.box t v
  | .build t ps => Instr.build t ps.toArray
  | .buildSlice t n ps => Instr.buildSlice t n ps.toArray
  | .nilCheck v => nilSem v
  | .bin op t xc yc x y => do eqGuard op t (opd xc) (opd yc) x y; binOp op t x y
  | .un op v => Op.unary op v
  | .conv s d v => convert s d v
  | .mkIface t v => Instr.makeInterface t v
  | .mkFunc fn first cap => Instr.makeFunc fn first.toArray cap.toArray
  | .mkMap t r => Instr.makeMap t r
  | .mkSlice t l c => Instr.makeSlice t l c
  | .slice t x lo hi mx => Instr.sliceAt t x lo hi mx
  | .fieldAddr t x f => Instr.fieldAt t x f
  | .field t x f => Instr.field t x f
  | .indexAddr t x i => Instr.indexAt t x i
  | .index t x i => Instr.index t x i
  | .lookup t x i ok => Instr.lookup t x i ok
  | .mapUpdate t m k v => do Instr.mapUpdate t m k v; pure undef
  | .range t x => Instr.range t x
  | .next it isStr ty => Instr.next it isStr ty
  | .tassert x xt at' ok => Instr.typeAssert x xt at' ok
  | .extract x i => Instr.extract x i
  | .blt b argTypes ty args => bltSem b argTypes.toArray ty args.toArray
  | .panic x => Instr.panic x

inductive VCallee where
  | fn (f : FuncId)
  | val (v : Value)
  | inv (recv : Value) (name : String)

def VCallee.deferred (c : VCallee) (args : Array Value) : Sem Deferred :=
  match c with
  | .fn f => Deferred.ofValue (.func (.func f) #[] #[]) args
  | .val v => Deferred.ofValue v args
  | .inv r name => pure { target := .fn (.method name) #[], args := #[r] ++ args }

def isConst : Operand → Bool
  | .const _ => true
  | _ => false

def toV (ρ : Operand → Value) (ty : TypeId) : Op → Option VOp
  | .load t a => some (.load t (ρ a))
  | .store t a v => some (.store t (ρ a) (ρ v))
  | .alloc t => some (.alloc t)
  | .box t v => some (.box t (ρ v))
  | .build t ps => some (.build t (ps.toList.map fun p => (p.1, ρ p.2)))
  | .buildSlice t n ps => some (.buildSlice t n (ps.toList.map fun p => (p.1, ρ p.2)))
  | .nilCheck v => some (.nilCheck (ρ v))
  | .binOp op t x y _ => some (.bin op t (isConst x) (isConst y) (ρ x) (ρ y))
  | .unOp op _ v => some (.un op (ρ v))
  | .convert s d v => some (.conv s d (ρ v))
  | .makeInterface t v => some (.mkIface t (ρ v))
  | .makeFunc fn first cap => some (.mkFunc fn (first.toList.map ρ) (cap.toList.map ρ))
  | .makeMap t r => some (.mkMap t (r.map ρ))
  | .makeSlice t l c => some (.mkSlice t (ρ l) (ρ c))
  | .slice t x lo hi mx => some (.slice t (ρ x) (lo.map ρ) (hi.map ρ) (mx.map ρ))
  | .fieldAddr t x f => some (.fieldAddr t (ρ x) f)
  | .field t x f => some (.field t (ρ x) f)
  | .indexAddr t x i => some (.indexAddr t (ρ x) (ρ i))
  | .index t x i => some (.index t (ρ x) (ρ i))
  | .lookup t x i ok => some (.lookup t (ρ x) (ρ i) ok)
  | .mapUpdate t m k v => some (.mapUpdate t (ρ m) (ρ k) (ρ v))
  | .insert t m k v => some (.mapUpdate t (ρ m) (ρ k) (ρ v))
  | .range t x => some (.range t (ρ x))
  | .next it s => some (.next (ρ it) s ty)
  | .typeAssert x xt at' ok => some (.tassert (ρ x) xt at' ok)
  | .extract x i => some (.extract (ρ x) i)
  | .call c => match c.callee with
    | .builtin b => some (.blt b c.argTypes.toList ty (c.args.toList.map ρ))
    | _ => none
  | .panic x => some (.panic (ρ x))
  | _ => none

def toC (ρ : Operand → Value) (c : Call) : Option (VCallee × List Value) :=
  match c.callee with
  | .value (.func f) => some (.fn f, c.args.toList.map ρ)
  | .value x => some (.val (ρ x), c.args.toList.map ρ)
  | .invoke r name => some (.inv (ρ r) name, c.args.toList.map ρ)
  | .builtin _ => none

/-! ### what an operation and a call are asked for -/

structure Sig where
  op : VOp → World → (Value → World → Prop) → (List PanicEntry → World → Prop) → Prop
  call : VCallee → List Value → World → (Value → World → Prop) → (List PanicEntry → World → Prop) → Prop
  pur : VOp → (Value → Prop) → Prop
  ld : VOp → World → (Value → Prop) → Prop
  same : VOp → Value → World → Prop

def outOf (P : Program) (s : Sem Value) (w : World) (K : Value → World → Prop) (Kp : List PanicEntry → World → Prop) : Prop :=
  match s.run P w with
  | .ok v w' => K v w'
  | .halt (.panic v) w' => Kp [{ v, recovered := false }] w'
  | _ => False

def ret (K : Value → World → Prop) (Kp : List PanicEntry → World → Prop) : Ending → World → Prop
  | .returned v, w => K v w
  | .panicked ch, w => Kp ch w
  | .outgrown, _ => False

def callOut (P : Program) (s : Sem Next) (w : World) (K : Value → World → Prop) (Kp : List PanicEntry → World → Prop) : Prop :=
  match s.run P w with
  | .ok (.value v) w' => K v w'
  | .ok (.enter f args) w' => Calls P f args w' (ret K Kp)
  | .halt (.panic v) w' => Kp [{ v, recovered := false }] w'
  | _ => False

/-- What S asks is enough for the model's own run. -/
structure Le (S : Sig) (P : Program) : Prop where
  op : ∀ {x w K Kp}, S.op x w K Kp → outOf P x.sem w K Kp
  call : ∀ {c args w K Kp}, S.call c args w K Kp → callOut P (c.deferred args.toArray >>= fun d => invoke d.target d.args) w K Kp
  pur : ∀ {x K}, S.pur x K → ∃ v, (∀ w, x.sem.run P w = .ok v w) ∧ K v
  ld : ∀ {x w K}, S.ld x w K → ∃ v, x.sem.run P w = .ok v w ∧ K v
  same : ∀ {x v w}, S.same x v w → x.sem.run P w = .ok v w

/-! ### the frame as a function -/

abbrev Env := Nat → Value
abbrev Known := Nat → Option (Option Bool)

def put (e : Env) : Option Nat → Value → Env
  | none, _ => e
  | some d, v => fun t => bif Nat.beq t d then v else e t
def putK (k : Known) : Option Nat → Option (Option Bool) → Known
  | none, _ => k
  | some d, v => fun t => bif Nat.beq t d then v else k t

def evalE (e : Env) : Operand → Value
  | .tmp t => e t
  | .const v => v
  | .global g => .pointer (some ⟨g, 0, none⟩)
  | .func f => .func (.func f) #[] #[]
def kn (k : Known) : Operand → Option (Option Bool)
  | .tmp t => k t
  | .const (.bool b) => some (some b)
  | _ => none

def nth {α : Type} : List α → Nat → Option α
  | [], _ => none
  | x :: _, 0 => some x
  | _ :: l, n + 1 => nth l n

abbrev KE := Env → Known → World → Prop
abbrev KP := List PanicEntry → World → Prop

def opVC (S : Sig) (o : Oper) (e : Env) (k : Known) (w : World) (K : KE) (Kp : KP) : Prop :=
  match o.op with
  | .move x => K (put e o.dst (evalE e x)) (putK k o.dst (kn k x)) w
  | .assign x => K (put e o.dst (evalE e x)) (putK k o.dst (kn k x)) w
  | .pick c x y => match kn k c with
    | some (some true) => K (put e o.dst (evalE e x)) (putK k o.dst (kn k x)) w
    | some (some false) => K (put e o.dst (evalE e y)) (putK k o.dst (kn k y)) w
    | _ => ∃ t, evalE e c = .bool t ∧ (t = true → K (put e o.dst (evalE e x)) (putK k o.dst (kn k x)) w) ∧ (t = false → K (put e o.dst (evalE e y)) (putK k o.dst (kn k y)) w)
  | op => match toV (evalE e) o.type op with
    | some x => S.op x w (fun v w' => K (put e o.dst v) (putK k o.dst none) w') Kp
    | none => match op with
      | .call c => match toC (evalE e) c with
        | some (f, args) => S.call f args w (fun v w' => K (put e o.dst v) (putK k o.dst none) w') Kp
        | none => False
      | _ => False

/-- The operations of a region one behind the other, in the order of the text. -/
def opsVC (S : Sig) (all : List Oper) : List Oper → Env → Known → World → KE → KP → Prop
  | [], e, k, w, K, _ => K e k w
  | o :: rest, e, k, w, K, Kp => match o.guard with
    | none => opVC S o e k w (fun e k w => opsVC S all rest e k w K Kp) Kp
    | some (g, want) => match (nth all g).bind (·.dst) with
      | none => False
      | some s => match k s with
        | some (some b) => match b, want with
          | true, true | false, false => opVC S o e k w (fun e k w => opsVC S all rest e k w K Kp) Kp
          | _, _ => opsVC S all rest (put e o.dst undef) (putK k o.dst (some none)) w K Kp
        | some none => opsVC S all rest (put e o.dst undef) (putK k o.dst (some none)) w K Kp
        | none => ∃ b, e s = .bool b ∧
          (b = true → match want with
            | true => opVC S o (put e (some s) (.bool true)) (putK k (some s) (some (some true))) w (fun e k w => opsVC S all rest e k w K Kp) Kp
            | false => opsVC S all rest (put (put e (some s) (.bool true)) o.dst undef) (putK (putK k (some s) (some (some true))) o.dst (some none)) w K Kp) ∧
          (b = false → match want with
            | false => opVC S o (put e (some s) (.bool false)) (putK k (some s) (some (some false))) w (fun e k w => opsVC S all rest e k w K Kp) Kp
            | true => opsVC S all rest (put (put e (some s) (.bool false)) o.dst undef) (putK (putK k (some s) (some (some false))) o.dst (some none)) w K Kp)

/-! ### a region that draws its order -/

def isLoad : Op → Bool
  | .load .. | .lookup .. => true
  | _ => false
def isPure : Op → Bool
  | .nilCheck _ | .fieldAddr .. | .field .. | .indexAddr .. | .index .. | .binOp .. | .unOp .. | .convert .. | .makeInterface .. | .extract .. | .slice ..
  | .typeAssert .. | .makeFunc .. | .build .. => true
  | .call { callee := .builtin .len, .. } | .call { callee := .builtin .cap, .. } => true
  | _ => false
def isMove : Op → Bool
  | .move _ => true
  | _ => false
def isPick : Op → Bool
  | .pick .. => true
  | _ => false
def isFloat (o : Op) : Bool := isMove o || isLoad o || isPure o || isPick o

def memN (x : Nat) : List Nat → Bool
  | [] => false
  | y :: l => bif Nat.beq x y then true else memN x l

def rdy (o : Oper) (listed : List Nat) : Bool := o.after.toList.all fun e => !Region.binds .any e || memN e.on listed

/-- The slot on which a guarded operation's guard is read. -/
def gslot (all : List Oper) (o : Oper) : Option Nat :=
  match o.guard with
  | none => none
  | some (g, _) => (nth all g).bind (·.dst)
/-- Is it decided that the operation is left out (some true), that it is carried out (some false)? -/
def left (all : List Oper) (k : Known) (o : Oper) : Option Bool :=
  match o.guard with
  | none => some false
  | some (_, want) => match gslot all o with
    | none => some true
    | some s => match k s with
      | none => none
      | some none => some true
      | some (some b) => some (bif want then !b else b)
/-- The first operation, from number i on, that may come up and whose guard is not decided: its slot. -/
def firstG (all : List Oper) (k : Known) (listed : List Nat) : Nat → List Oper → Option Nat
  | _, [] => none
  | i, o :: l => bif !memN i listed && rdy o listed && (left all k o).isNone then gslot all o else firstG all k listed (i + 1) l
/-- The first operation, from number i on, that floats (or is left out), is not listed and may come up. -/
def firstFl (all : List Oper) (k : Known) (listed : List Nat) : Nat → List Oper → Option (Nat × Oper)
  | _, [] => none
  | i, o :: l => bif (isFloat o.op || (left all k o == some true)) && !memN i listed && rdy o listed then some (i, o) else firstFl all k listed (i + 1) l
/-- Those that may come up. -/
def rdyAll (listed : List Nat) : Nat → List Oper → List (Nat × Oper)
  | _, [] => []
  | i, o :: l => bif !memN i listed && rdy o listed then (i, o) :: rdyAll listed (i + 1) l else rdyAll listed (i + 1) l

def floatVC (S : Sig) (i : Nat) (o : Oper) (e : Env) (k : Known) (w : World) (outs : List (Nat × VOp × Value)) (K : Value → Option (Option Bool) → List (Nat × VOp × Value) → Prop) : Prop :=
  match o.op with
  | .move x => K (evalE e x) (kn k x) outs
  | .pick c x y => match kn k c with
    | some (some true) => K (evalE e x) (kn k x) outs
    | some (some false) => K (evalE e y) (kn k y) outs
    | _ => False
  | op => match toV (evalE e) o.type op with
    | none => False
    | some x => bif isLoad op then S.ld x w (fun v => K v none ((i, x, v) :: outs)) else S.pur x (fun v => K v none outs)

def sames (S : Sig) (anc : List Nat) (w : World) : List (Nat × VOp × Value) → Prop → Prop
  | [], K => K
  | (j, x, v) :: l, K => bif memN j anc then sames S anc w l K else S.same x v w ∧ sames S anc w l K
def keepOuts (anc : List Nat) : List (Nat × VOp × Value) → List (Nat × VOp × Value)
  | [] => []
  | x :: l => bif memN x.1 anc then keepOuts anc l else x :: keepOuts anc l

def anchorVC (S : Sig) (o : Oper) (e : Env) (k : Known) (w : World) (K : Env → Known → World → Prop) (Kp : KP) : Prop :=
  match o.op with
  | .assign x => K (put e o.dst (evalE e x)) (putK k o.dst none) w
  | op => match toV (evalE e) o.type op with
    | some x => S.op x w (fun v w' => K (put e o.dst v) (putK k o.dst none) w') Kp
    | none => match op with
      | .call c => match toC (evalE e) c with
        | some (f, args) => S.call f args w (fun v w' => K (put e o.dst v) (putK k o.dst none) w') Kp
        | none => False
      | _ => False

def allR (f : Nat × Oper → Prop) : List (Nat × Oper) → Prop
  | [] => False
  | [x] => f x
  | x :: y :: l => f x ∧ allR f (y :: l)

def drawVC (S : Sig) (all : List Oper) (tab : List (List Nat)) : Nat → List Nat → List (Nat × VOp × Value) → Env → Known → World → KE → KP → Prop
  | 0, _, _, _, _, _, _, _ => False
  | n + 1, listed, outs, e, k, w, K, Kp =>
    bif (List.range all.length).all (memN · listed) then K e k w else
    match firstG all k listed 0 all with
    | some s => ∃ b, e s = .bool b ∧ (b = true → drawVC S all tab n listed outs e (putK k (some s) (some (some true))) w K Kp) ∧
        (b = false → drawVC S all tab n listed outs e (putK k (some s) (some (some false))) w K Kp)
    | none => match firstFl all k listed 0 all with
      | some (i, o) => bif (left all k o == some true) then drawVC S all tab n (i :: listed) outs (put e o.dst undef) (putK k o.dst (some none)) w K Kp
        else floatVC S i o e k w outs fun v q outs => drawVC S all tab n (i :: listed) outs (put e o.dst v) (putK k o.dst q) w K Kp
      | none => allR (fun p => anchorVC S p.2 e k w (fun e k w => sames S ((nth tab p.1).getD []) w outs (drawVC S all tab n (p.1 :: listed) (keepOuts ((nth tab p.1).getD []) outs) e k w K Kp)) Kp) (rdyAll listed 0 all)

/-- Who must have come up before each operation. -/
def uni : List Nat → List Nat → List Nat
  | [], l => l
  | x :: xs, l => bif memN x l then uni xs l else uni xs (x :: l)
def mkTab : List Oper → List (List Nat) → List (List Nat)
  | [], acc => acc
  | o :: l, acc => mkTab l (acc ++ [o.after.toList.foldl (fun s e => bif Region.binds .any e then uni (e.on :: (nth acc e.on).getD []) s else s) []])

def reads (all : List Oper) (o : Oper) : List Nat := (gslot all o).toList ++ o.op.operands.toList.filterMap fun | .tmp t => some t | _ => none
def names (all : List Oper) (o : Oper) : List Nat := o.dst.toList ++ reads all o

def allIx {α : Type} (f : Nat → α → Bool) : Nat → List α → Bool
  | _, [] => true
  | i, x :: l => f i x && allIx f (i + 1) l

/-- Number i, which floats and writes the slot d: who names d waits for it; who writes what it reads is ordered with it. -/
def floatOk (all : List Oper) (tab : List (List Nat)) (i : Nat) (o : Oper) (d : Nat) : Bool :=
  !memN d (reads all o) && allIx (fun m om => Nat.beq m i ||
    ((bif memN d (names all om) then memN i ((nth tab m).getD []) else true) &&
     (match om.dst with
      | none => true
      | some dm => bif memN dm (reads all o) then memN m ((nth tab i).getD []) || memN i ((nth tab m).getD []) else true))) 0 all

/-- The closed check of a region that draws. -/
def drawOk (all : List Oper) (tab : List (List Nat)) : Bool :=
  allIx (fun i o =>
    (match o.op with | .select .. => false | _ => true) &&
    (o.after.toList.all fun e => !Region.binds .any e || Nat.blt e.on i) &&
    (((nth tab i).getD []).all fun j => o.after.toList.any fun e => Region.binds .any e && (Nat.beq e.on j || memN j ((nth tab e.on).getD []))) &&
    (bif isFloat o.op || o.guard.isSome then (match o.dst with | none => false | some d => floatOk all tab i o d) else true)) 0 all

/-! ### code -/

def dsts : List Oper → List Nat
  | [] => []
  | o :: l => match o.dst with | some d => d :: dsts l | none => dsts l
def writes : Code → List Nat
  | .region _ ops _ => dsts ops.toList
  | .seq a b => writes a ++ writes b
  | .cond _ a b => writes a ++ writes b
  | .block _ c => writes c
  | .loop c => writes c
  | _ => []
def firstRegion : Code → Option Nat
  | .region id _ _ => some id
  | .seq a b => match firstRegion a with | some i => some i | none => firstRegion b
  | .cond _ a b => match firstRegion a with | some i => some i | none => firstRegion b
  | .block _ c => firstRegion c
  | .loop c => firstRegion c
  | _ => none
def lk (n : Nat) : List (Nat × List Nat) → Option (List Nat)
  | [] => none
  | x :: l => bif Nat.beq n x.1 then some x.2 else lk n l

def Cur : Nat → Type
  | 0 => World → Prop
  | n + 1 => Value → Cur n
def CurN : Nat → Type
  | 0 => World → Nat
  | n + 1 => Value → CurN n
def Cur.app : (n : Nat) → Cur n → List Value → World → Prop
  | 0, I, _, w => I w
  | n + 1, I, x :: xs, w => Cur.app n (I x) xs w
  | _ + 1, _, [], _ => False
def CurN.app : (n : Nat) → CurN n → List Value → World → Nat
  | 0, I, _, w => I w
  | n + 1, I, x :: xs, w => CurN.app n (I x) xs w
  | _ + 1, _, [], _ => 0
def allV : Nat → (List Value → Prop) → Prop
  | 0, f => f []
  | n + 1, f => ∀ x : Value, allV n fun xs => f (x :: xs)

/-- The frame at a loop's head, or where ways meet: the slots L hold xs, the others of W whatever they hold. -/
def reenv (W : List Nat) (junk e : Env) : List Nat → List Value → Env
  | s :: L, x :: xs => fun t => bif Nat.beq t s then x else reenv W junk e L xs t
  | _, _ => fun t => bif memN t W then junk t else e t
def reknown (W : List Nat) (k : Known) : Known := fun t => bif memN t W then none else k t

abbrev QE := Exit → Env → Known → World → Prop

def thenQ (K : KE) (Q : QE) : QE := fun ex e k w => match ex with
  | .normal => K e k w
  | .exit id => Q (.exit id) e k w
  | .goto l => Q (.goto l) e k w
  | .ret => Q .ret e k w
  | .panic ch => Q (.panic ch) e k w
  | .outgrown => Q .outgrown e k w
def blockQ (id : Nat) (Q : QE) : QE := fun ex e k w => match ex with
  | .normal => Q .normal e k w
  | .exit id' => bif Nat.beq id' id then Q .normal e k w else Q (.exit id') e k w
  | .goto l => Q (.goto l) e k w
  | .ret => Q .ret e k w
  | .panic ch => Q (.panic ch) e k w
  | .outgrown => Q .outgrown e k w

def codeVC (S : Sig) (aL aJ : List (Nat × List Nat)) : Code → Env → Known → World → QE → KP → Prop
  | .skip, e, k, w, Q, _ => Q .normal e k w
  | .region _ ops d, e, k, w, Q, Kp => bif d then
      (bif drawOk ops.toList (mkTab ops.toList []) then drawVC S ops.toList (mkTab ops.toList []) (2 * ops.toList.length + 2) [] [] e k { w with drawn := w.drawn + 1 } (Q .normal) Kp else False)
    else opsVC S ops.toList ops.toList e k w (Q .normal) Kp
  | .seq a b, e, k, w, Q, Kp =>
    (match (firstRegion b).bind (lk · aJ) with
    | none => codeVC S aL aJ a e k w (thenQ (fun e k w => codeVC S aL aJ b e k w Q Kp) Q) Kp
    | some L => ∃ J : Cur L.length,
        codeVC S aL aJ a e k w (thenQ (fun e _ w => J.app L.length (L.map e) w) Q) Kp ∧
        (∀ (w' : World) (junk : Nat → Value), allV L.length fun xs => J.app L.length xs w' →
          codeVC S aL aJ b (reenv (writes a) junk e L xs) (reknown (L ++ writes a) k) w' Q Kp))
  | .cond c a b, e, k, w, Q, Kp => (match kn k c with
    | some (some true) => codeVC S aL aJ a e k w Q Kp
    | some (some false) => codeVC S aL aJ b e k w Q Kp
    | _ => ∃ t, evalE e c = .bool t ∧ (t = true → codeVC S aL aJ a e k w Q Kp) ∧ (t = false → codeVC S aL aJ b e k w Q Kp))
  | .block id c, e, k, w, Q, Kp => codeVC S aL aJ c e k w (blockQ id Q) Kp
  | .loop c, e, k, w, Q, Kp =>
    (match (firstRegion c).bind (lk · aL) with
    | none => False
    | some L => ∃ (I : Cur L.length) (μ : CurN L.length), I.app L.length (L.map e) w ∧
        ∀ (w' : World) (junk : Nat → Value), allV L.length fun xs => I.app L.length xs w' →
          codeVC S aL aJ c (reenv (writes c) junk e L xs) (reknown (L ++ writes c) k) w'
            (thenQ (fun e2 _ w2 => I.app L.length (L.map e2) w2 ∧ μ.app L.length (L.map e2) w2 < μ.app L.length xs w') Q) Kp)
  | .exit id, e, k, w, Q, _ => Q (.exit id) e k w
  | .ret, e, k, w, Q, _ => Q .ret e k w
  | _, _, _, _, _, _ => False

/-! ### a function -/

def resV (S : Sig) (r : ResultVar) (e : Env) (w : World) (K : Value → Prop) : Prop :=
  match r with
  | .tmp t => K (e t)
  | .cell a t => S.ld (.load t (e a)) w K
def resVC (S : Sig) (rs : List ResultVar) (e : Env) (w : World) (R : Value → World → Prop) : Prop :=
  match rs with
  | [] => R (.tuple #[]) w
  | [r] => resV S r e w fun v => R v w
  | [r, s] => resV S r e w fun v => resV S s e w fun u => R (.tuple #[v, u]) w
  | [r, s, t] => resV S r e w fun v => resV S s e w fun u => resV S t e w fun x => R (.tuple #[v, u, x]) w
  | [r, s, t, q] => resV S r e w fun v => resV S s e w fun u => resV S t e w fun x => resV S q e w fun y => R (.tuple #[v, u, x, y]) w
  | [r, s, t, q, p] => resV S r e w fun v => resV S s e w fun u => resV S t e w fun x => resV S q e w fun y => resV S p e w fun z => R (.tuple #[v, u, x, y, z]) w
  | _ => False

def nthD : List Value → Nat → Value
  | [], _ => undef
  | x :: _, 0 => x
  | _ :: l, n + 1 => nthD l n

def fVC (S : Sig) (aL aJ : List (Nat × List Nat)) (fn : Func) (args : List Value) (w : World) (K : Value → World → Prop) (Kp : KP) : Prop :=
  match fn.body with
  | none => False
  | some c => codeVC S aL aJ c (nthD args) (fun _ => none) w (fun ex e _ w => match ex with
    | .normal => resVC S fn.results.toList e w K
    | .ret => resVC S fn.results.toList e w K
    | _ => False) Kp

/-- Every slot that is written is one of the frame's. -/
def fits (n : Nat) : Code → Bool
  | .region _ ops _ => (dsts ops.toList).all fun d => Nat.blt d n
  | .seq a b => fits n a && fits n b
  | .cond _ a b => fits n a && fits n b
  | .block _ c => fits n c
  | .loop c => fits n c
  | _ => true
def fitsF (fn : Func) : Bool := match fn.body with | some c => fits fn.ntmps c | none => false

end Go.Vc
