/- The conditions of the single operations in handy form, and that they are enough for the model's run. -/
import Derived.Test.YtjlaclgikmmmlaaVcMain
namespace Go.Vc
variable {P : Program}

/-! ### what the tables say -/
def szOf (P : Program) (t : TypeId) : Option Nat := (P.info? t).map (·.size)
inductive LdK where
  | one
  | agg (n : Nat)
def ldk (P : Program) (t : TypeId) : Option LdK :=
  match P.underlying t with
  | some (.struct _) => (szOf P t).map .agg
  | some (.array ..) => (szOf P t).map .agg
  | some _ => match szOf P t with
    | some 1 => some .one
    | _ => none
  | none => none
def fieldOff (P : Program) (t : TypeId) (f : Nat) : Option (Nat × LdK) :=
  match P.underlying t with
  | some (.struct fs) => match fs[f]? with
    | some fd => match szOf P fd.type with
      | some (_ + 1) => (ldk P fd.type).map fun k => (fd.offset, k)
      | _ => none
    | none => none
  | _ => none
def arrOf (P : Program) (t : TypeId) : Option (Nat × Nat) :=
  match P.underlying t with
  | some (.array n e) => (szOf P e).map fun s => (n, s)
  | _ => none
def sliceOf (P : Program) (t : TypeId) : Option (TypeId × Nat) :=
  match P.underlying t with
  | some (.slice e) => (szOf P e).map fun s => (e, s)
  | _ => none
def zeroOf (P : Program) (t : TypeId) : Option Value := (P.info? t).bind (·.zero)
inductive Kd where
  | bool | int (k : IntKind) | string | pointer | iface | slice | map | func | other
def kd (P : Program) (t : TypeId) : Kd :=
  match P.underlying t with
  | some .bool => .bool
  | some (.int k) => .int k
  | some .string => .string
  | some (.pointer _) => .pointer
  | some (.interface _) => .iface
  | some (.slice _) => .slice
  | some (.map ..) => .map
  | some (.func ..) => .func
  | _ => .other
def hasT (P : Program) (t : TypeId) : Bool := (P.underlying t).isSome

/-! ### operations that only reckon -/
def bitsV (op : BinOp) (k : IntKind) (a b : Int) : Int :=
  match op with
  | .and => k.wrap ((BitVec.ofInt k.bits a &&& BitVec.ofInt k.bits b).toNat : Int)
  | .or => k.wrap ((BitVec.ofInt k.bits a ||| BitVec.ofInt k.bits b).toNat : Int)
  | .xor => k.wrap ((BitVec.ofInt k.bits a ^^^ BitVec.ofInt k.bits b).toNat : Int)
  | _ => k.wrap ((BitVec.ofInt k.bits a &&& ~~~ BitVec.ofInt k.bits b).toNat : Int)

def eqV (op : BinOp) (b : Bool) : Option (Prop × Value) :=
  match op with
  | .eql => some (True, .bool b)
  | .neq => some (True, .bool (!b))
  | _ => none

def intV (op : BinOp) (k : IntKind) (a b : Int) : Option (Prop × Value) :=
  match op with
  | .add => some (True, .int k (k.wrap (a + b)))
  | .sub => some (True, .int k (k.wrap (a - b)))
  | .mul => some (True, .int k (k.wrap (a * b)))
  | .quo => some (b ≠ 0, .int k (k.wrap (a.tdiv b)))
  | .rem => some (b ≠ 0, .int k (a.tmod b))
  | .and => some (True, .int k (bitsV .and k a b))
  | .or => some (True, .int k (bitsV .or k a b))
  | .xor => some (True, .int k (bitsV .xor k a b))
  | .andNot => some (True, .int k (bitsV .andNot k a b))
  | .eql => some (True, .bool (decide (a = b)))
  | .neq => some (True, .bool (!decide (a = b)))
  | .lss => some (True, .bool (decide (a < b)))
  | .leq => some (True, .bool (decide (a ≤ b)))
  | .gtr => some (True, .bool (decide (b < a)))
  | .geq => some (True, .bool (decide (b ≤ a)))
  | _ => none
def strV (op : BinOp) (a b : ByteArray) : Option (Prop × Value) :=
  match op with
  | .add => some (((a.size + b.size : Nat) : Int) ≤ 9223372036854775807, .string (a ++ b))
  | .eql => some (True, .bool (decide (a = b)))
  | .neq => some (True, .bool (!decide (a = b)))
  | .lss => some (True, .bool (Op.bytesLess a.toList b.toList))
  | .gtr => some (True, .bool (!(Op.bytesLess a.toList b.toList || decide (a = b))))
  | .leq => some (True, .bool (Op.bytesLess a.toList b.toList || decide (a = b)))
  | .geq => some (True, .bool (!Op.bytesLess a.toList b.toList))
  | _ => none

def binV (P : Program) (op : BinOp) (t : TypeId) (xc yc : Bool) (x y : Value) : Option (Prop × Value) :=
  match x, y with
  | .int k a, .int k' b => match op with
    | .shl => some (0 ≤ b, .int k (k.wrap (a * 2 ^ min b.toNat k.bits)))
    | .shr => some (0 ≤ b, .int k (a.fdiv (2 ^ min b.toNat k.bits)))
    | _ => if k = k' then intV op k a b else none
  | .string a, .string b => strV op a b
  | .bool a, .bool b => match kd P t with
    | .bool => eqV op (a == b)
    | _ => none
  | .iface _ _, .nilIface => match kd P t with
    | .iface => eqV op false
    | _ => none
  | .nilIface, .iface _ _ => match kd P t with
    | .iface => eqV op false
    | _ => none
  | .nilIface, .nilIface => match kd P t, xc || yc with
    | .iface, true => eqV op true
    | _, _ => none
  | .pointer a, .pointer none => match kd P t with
    | .pointer => eqV op a.isNone
    | _ => none
  | .pointer none, .pointer b => match kd P t with
    | .pointer => eqV op b.isNone
    | _ => none
  | .slice a _ _, .slice none _ _ => match kd P t with
    | .slice => eqV op a.isNone
    | _ => none
  | .map a, .map none => match kd P t with
    | .map => eqV op a.isNone
    | _ => none
  | .func _ _ _, .nilFunc => match kd P t with
    | .func => eqV op false
    | _ => none
  | .nilFunc, .nilFunc => match kd P t with
    | .func => eqV op true
    | _ => none
  | _, _ => none

def partV (k : LdK) (cs : Array Value) (off : Nat) : Option Value :=
  match k with
  | .one => cs[off]?
  | .agg n => some (.agg (cs.extract off (off + n)))

def lowV : Option Value → Option Int
  | none => some 0
  | some (.int _ l) => some l
  | _ => none
def upV (n : Nat) : Option Value → Option Int
  | none => some n
  | some (.int _ h) => some h
  | _ => none
/-- A slice expression: its condition, and from, to, most. -/
def cutV (len cap : Nat) (lo hi mx : Option Value) : Option (Prop × Nat × Nat × Nat) :=
  match mx with
  | none => match lowV lo, upV len hi with
    | some l, some h => some (0 ≤ l ∧ l ≤ h ∧ h ≤ (cap : Int), l.toNat, h.toNat, cap)
    | _, _ => none
  | some _ => match lowV lo, hi, upV cap mx with
    | some l, some (.int _ h), some m => some (0 ≤ l ∧ l ≤ h ∧ h ≤ m ∧ m ≤ (cap : Int), l.toNat, h.toNat, m.toNat)
    | _, _, _ => none

def pv (P : Program) : VOp → Option (Prop × Value)
  | .nilCheck v => match v with
    | .pointer (some _) => some (True, v)
    | .iface _ _ => some (True, v)
    | .func (.func _) _ _ => some (True, v)
    | _ => none
  | .fieldAddr t x f => match x with
    | .pointer (some p) => (fieldOff P t f).map fun o => (True, .pointer (some (p.add o.1)))
    | _ => none
  | .field t x f => match x, fieldOff P t f with
    | .agg cs, some (o, k) => (partV k cs o).map fun v => (True, v)
    | _, _ => none
  | .indexAddr t x i => match x, i with
    | .pointer (some p), .int _ j => (arrOf P t).map fun ns => (0 ≤ j ∧ j < (ns.1 : Int), .pointer (some (p.add (j.toNat * ns.2))))
    | .slice (some p) len _, .int _ j => (sliceOf P t).map fun es => (0 ≤ j ∧ j < (len : Int), .pointer (some (p.add (j.toNat * es.2))))
    | _, _ => none
  | .index t x i => match x, i with
    | .string s, .int _ j => match kd P t with
      | .string => some (0 ≤ j ∧ j < (s.size : Int), .int .u8 (((s[j.toNat]?).getD 0).toNat : Int))
      | _ => none
    | _, _ => none
  | .bin op t xc yc x y => binV P op t xc yc x y
  | .un op v => match op, v with
    | .not, .bool b => some (True, .bool (!b))
    | .neg, .int k n => some (True, .int k (k.wrap (0 - n)))
    | .xor, .int k n => some (True, .int k (bitsV .xor k (if k.signed then -1 else k.max) n))
    | _, _ => none
  | .conv s d v => match v, kd P d, hasT P s with
    | .int _ n, .int k, true => some (True, .int k (k.wrap n))
    | .string x, .string, true => some (True, .string x)
    | _, _, _ => none
  | .mkIface t v => match kd P t, hasT P t with
    | .iface, _ => none
    | _, true => some (True, .iface t v)
    | _, _ => none
  | .mkFunc fn a b => some (True, .func fn a.toArray b.toArray)
  | .extract x i => match x with
    | .tuple vs => (vs[i]?).map fun v => (True, v)
    | _ => none
  | .tassert x _ at' ok => match x, kd P at', hasT P at' with
    | .iface _ _, .iface, _ => none
    | .iface t v, _, true => if t = at' then some (True, if ok then .tuple #[v, .bool true] else v) else (if ok then (zeroOf P at').map fun z => (True, .tuple #[z, .bool false]) else none)
    | .nilIface, .iface, _ => none
    | .nilIface, _, true => if ok then (zeroOf P at').map fun z => (True, .tuple #[z, .bool false]) else none
    | _, _, _ => none
  | .blt b ts _ args => match b, ts, args with
    | .len, [t], [.slice _ n _] => match kd P t with
      | .slice => some (True, .int .i64 n)
      | _ => none
    | .len, [t], [.string s] => match kd P t with
      | .string => some (True, .int .i64 s.size)
      | _ => none
    | .cap, [t], [.slice _ _ c] => match kd P t with
      | .slice => some (True, .int .i64 c)
      | _ => none
    | _, _, _ => none
  | .slice t x lo hi mx => match x with
    | .slice a len cap => match sliceOf P t, cutV len cap lo hi mx with
      | some (_, s), some (c, l, h, m) => some (c, .slice (if m = l then a else a.map (·.add (l * s))) (h - l) (m - l))
      | _, _ => none
    | .pointer (some a) => match arrOf P t, (arrOf P t).bind fun ns => cutV ns.1 ns.1 lo hi mx with
      | some (_, s), some (c, l, h, m) => some (c, .slice (some (if m = l then a else a.add (l * s))) (h - l) (m - l))
      | _, _ => none
    | .string s => match kd P t, mx, cutV s.size s.size lo hi none with
      | .string, none, some (c, l, h, _) => some (c, .string (s.extract l h))
      | _, _, _ => none
    | _ => none
  | _ => none

end Go.Vc
