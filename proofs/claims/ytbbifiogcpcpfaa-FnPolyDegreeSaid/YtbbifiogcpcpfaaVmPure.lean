/-
  A small symbolic machine, part 4: what an operation that touches no memory yields, and that the model's does.
-/
import Derived.Test.YtbbifiogcpcpfaaVmOps
namespace Go.Proofs.Ytbbifiogcpcpfaa
namespace Vm

def vcells (v : Value) : List Value := v.cells.toList
def isInt : Value → Bool
  | .int _ _ => true
  | _ => false

/-- Parts laid into a row of cells. -/
def fillL (place : Nat → Option (Nat × Nat)) : List Value → List (Nat × Value) → Option (List Value)
  | cs, [] => some cs
  | cs, (i, v) :: rest =>
    match place i with
    | none => none
    | some (off, size) =>
      if storable v && Nat.beq (vcells v).length size && Nat.ble (off + (vcells v).length) cs.length then fillL place (splice cs off (vcells v)) rest else none

def placesS (P : Program) (fs : Array Field) (i : Nat) : Option (Nat × Nat) :=
  match fs[i]? with
  | some f => match szT P f.type with
    | some n => some (f.offset, n)
    | none => none
  | none => none
def allSz (P : Program) : List Field → Bool
  | [] => true
  | f :: fs => (szT P f.type).isSome && allSz P fs

def zeroL (P : Program) (t : TypeId) : Option (List Value) :=
  match (P.info? t).bind (·.zero) with
  | some z => if storable z then some (vcells z) else none
  | none => none

/-- A value in which no address stands, and whose integers fit: a constant. -/
def plain0 : Value → Bool
  | .int k n => decide (k.min ≤ n) && decide (n ≤ k.max)
  | .bool _ => true
  | .string _ => true
  | .pointer none => true
  | .slice none _ _ => true
  | .nilFunc => true
  | .nilIface => true
  | .func _ x c => x.toList.isEmpty && c.toList.isEmpty
  | _ => false
def plain : Value → Bool
  | .agg cs => cs.toList.all plain0
  | .tuple vs => vs.toList.isEmpty
  | v => plain0 v

def buildSem (P : Program) (t : TypeId) (parts : List (Nat × Value)) : Option Value :=
  match zeroL P t with
  | none => none
  | some zs =>
    if zs.all plain0 then
      match P.underlying t with
      | some (.struct fs) => if allSz P fs.toList then (match fillL (placesS P fs) zs parts with | some cs => some (.agg cs.toArray) | none => none) else none
      | some (.array _ e) => match szT P e with
        | some n => (match fillL (fun i => some (i * n, n)) zs parts with | some cs => some (.agg cs.toArray) | none => none)
        | none => none
      | _ => none
    else none

def binSem (P : Program) (op : BinOp) (t : TypeId) (x y : Value) : Option Value :=
  match x, y with
  | .int k a, .int k' b => binInt op k a k' b
  | .bool a, .bool b => match P.underlying t with
    | some .bool => (match op with
      | .eql => some (.bool (a == b))
      | .neq => some (.bool (!(a == b)))
      | _ => none)
    | _ => none
  | .agg xs, .agg ys =>
    if xs.toList.all isInt && ys.toList.all isInt && !P.eqGuardType P.depth t then
      match aggT P t with
      | some true => (match eqSem P 10000 t xs.toList ys.toList with
        | some b => (match op with
          | .eql => some (.bool b)
          | .neq => some (.bool (!b))
          | _ => none)
        | none => none)
      | _ => none
    else none
  | .slice a _ _, .slice none _ _ => match P.underlying t with
    | some (.slice _) => (match op with
      | .eql => some (.bool a.isNone)
      | .neq => some (.bool (!a.isNone))
      | _ => none)
    | _ => none
  | .pointer a, .pointer none => match P.underlying t with
    | some (.pointer _) => (match op with
      | .eql => some (.bool a.isNone)
      | .neq => some (.bool (!a.isNone))
      | _ => none)
    | _ => none
  | _, _ => none

def unSem (op : UnOp) (x : Value) : Option Value :=
  match op, x with
  | .neg, .int k n => some (.int k (k.wrap (0 - n)))
  | .xor, .int k n => some (.int k (bits .xor k (if k.signed then -1 else k.max) n))
  | .not, .bool b => some (.bool (!b))
  | _, _ => none

/-- A bound of a slice expression, if it is there and fits. -/
def boundSem (x : Option Value) (y dflt : Nat) : Option Nat :=
  match x with
  | none => some dflt
  | some (.int _ i) => if 0 ≤ i ∧ i ≤ y then some i.toNat else none
  | _ => none

def cutSem (a : Option Addr) (l h m size : Nat) : Value :=
  .slice (if m = l then a else a.map (·.add (l * size))) (h - l) (m - l)

def sliceSem (P : Program) (t : TypeId) (x : Value) (lo hi : Option Value) : Option Value :=
  match P.underlying t, x with
  | some (.array n e), .pointer (some a) =>
    match szT P e, boundSem hi n n with
    | some size, some h => match boundSem lo h 0 with
      | some l => some (cutSem (some a) l h n size)
      | none => none
    | _, _ => none
  | some (.slice e), .slice a len cap =>
    match szT P e, boundSem hi cap len with
    | some size, some h => match boundSem lo h 0 with
      | some l => some (cutSem a l h cap size)
      | none => none
    | _, _ => none
  | _, _ => none

def partSem (P : Program) (t : TypeId) (cs : List Value) (off : Nat) : Option Value :=
  match szT P t, aggT P t with
  | some n, some true => some (.agg ((cs.drop off).take n).toArray)
  | some _, some false => cs[off]?
  | _, _ => none

def idxAddrSem (P : Program) (t : TypeId) (x : Value) (i : Int) : Option Value :=
  match P.underlying t, x with
  | some (.array len e), .pointer (some a) =>
    match szT P e with
    | some n => if 0 ≤ i ∧ i < len then some (.pointer (some (a.add (i.toNat * n)))) else none
    | none => none
  | some (.slice e), .slice (some a) len _ =>
    match szT P e with
    | some n => if 0 ≤ i ∧ i < len then some (.pointer (some (a.add (i.toNat * n)))) else none
    | none => none
  | _, _ => none

def fieldAddrSem (P : Program) (s : TypeId) (a : Addr) (f : Nat) : Option Value :=
  match P.underlying s with
  | some (.struct fs) => match fs[f]? with
    | some fl => match szT P fl.type with
      | some (_ + 1) => some (.pointer (some (a.add fl.offset)))
      | _ => none
    | none => none
  | _ => none

/-- The parts' values, by place. -/
def zipParts (ps : List (Nat × Operand)) (vs : List Value) : List (Nat × Value) := (ps.map (·.1)).zip vs

def lenSem (P : Program) (ts : List TypeId) (vs : List Value) : Option Value :=
  match ts, vs with
  | [t], [.slice _ n _] => (match P.underlying t with
    | some (.slice _) => if Nat.ble n 9223372036854775807 then some (.int .i64 n) else none
    | _ => none)
  | _, _ => none

def pickV (c : Bool) (a b : Value) : Value :=
  match c with
  | true => a
  | false => b

/-- What a closure may hold. -/
def capOK : Value → Bool
  | .tuple _ => false
  | .agg _ => false
  | .func _ x c => x.size == 0 && c.size == 0
  | _ => true

/-- What an operation yields that neither reads nor writes memory. -/
def pureSem (P : Program) (op : Op) (vs : List Value) : Option Value :=
  match op with
  | .move _ => (match vs with
    | [v] => some v
    | _ => none)
  | .assign _ => (match vs with
    | [v] => some v
    | _ => none)
  | .pick _ _ _ => (match vs with
    | [.bool c, a, b] => some (pickV c a b)
    | _ => none)
  | .nilCheck _ => (match vs with
    | [.pointer (some a)] => some (.pointer (some a))
    | _ => none)
  | .extract _ ix => (match vs with
    | [.tuple us] => us.toList[ix]?
    | _ => none)
  | .build t ps => buildSem P t (zipParts ps.toList vs)
  | .binOp op t _ _ _ => (match vs with
    | [x, y] => binSem P op t x y
    | _ => none)
  | .unOp op _ _ => (match vs with
    | [x] => unSem op x
    | _ => none)
  | .convert src dst _ => (match vs with
    | [.int _ n] => (match P.underlying src, P.underlying dst with
      | some _, some (.int k) => some (.int k (k.wrap n))
      | _, _ => none)
    | _ => none)
  | .slice t _ lo hi mx => (match mx, lo, hi, vs with
    | none, none, none, [x] => sliceSem P t x none none
    | none, some _, none, [x, l] => sliceSem P t x (some l) none
    | none, none, some _, [x, h] => sliceSem P t x none (some h)
    | none, some _, some _, [x, l, h] => sliceSem P t x (some l) (some h)
    | _, _, _, _ => none)
  | .fieldAddr s _ f => (match vs with
    | [.pointer (some a)] => fieldAddrSem P s a f
    | _ => none)
  | .field s _ f => (match vs with
    | [.agg cs] => (match P.underlying s with
      | some (.struct fs) => (match fs[f]? with
        | some fl => partSem P fl.type cs.toList fl.offset
        | none => none)
      | _ => none)
    | _ => none)
  | .indexAddr t _ _ => (match vs with
    | [x, .int _ i] => idxAddrSem P t x i
    | _ => none)
  | .index t _ _ => (match vs with
    | [.agg cs, .int _ i] => (match P.underlying t with
      | some (.array len e) => (match szT P e with
        | some n => if 0 ≤ i ∧ i < len then partSem P e cs.toList (i.toNat * n) else none
        | none => none)
      | _ => none)
    | _ => none)
  | .makeFunc fn first _ => if first.toList.isEmpty && vs.all capOK then some (.func fn #[] vs.toArray) else none
  | .call c => (match c.callee with
    | .builtin .len => lenSem P c.argTypes.toList vs
    | _ => none)
  | _ => none

end Vm
end Go.Proofs.Ytbbifiogcpcpfaa
