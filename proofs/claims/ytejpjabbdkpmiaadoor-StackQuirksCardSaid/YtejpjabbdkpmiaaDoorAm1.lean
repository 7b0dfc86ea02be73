/-
  The abstract machine: values without addresses, capacities and draws; what one operation does to a frame of slots; the tree that a function's code becomes; and how such a tree runs. No law is claimed here.
-/
import GoSem.Step
set_option linter.unusedSimpArgs false
set_option linter.unusedVariables false
namespace Go.Am

abbrev Bytes := List UInt8

inductive AVal where
  | bool (b : Bool)
  | int (k : IntKind) (n : Int)
  | str (s : Bytes)
  | ptr (p : Option (Nat × Nat))
  | rptr (cells : List AVal)
  | sl (size : Nat) (rows : List (List AVal))
  | slnil
  | msl (id off len size : Nat)
  | map (m : Option Nat)
  | func (fn : Fn) (first captured : List AVal)
  | nilFunc
  | iface (t : TypeId) (v : AVal)
  | nilIface
  | agg (cells : List AVal)
  | tuple (vs : List AVal)
  deriving Inhabited

mutual
def AVal.beq : AVal → AVal → Bool
  | .bool a, .bool b => a == b
  | .int k a, .int l b => k == l && a == b
  | .str a, .str b => a == b
  | .ptr a, .ptr b => a == b
  | .rptr a, .rptr b => AVal.beqL a b
  | .sl n a, .sl m b => n == m && AVal.beqLL a b
  | .slnil, .slnil => true
  | .msl a b c d, .msl a' b' c' d' => a == a' && b == b' && c == c' && d == d'
  | .map a, .map b => a == b
  | .func f a b, .func f' a' b' => f == f' && AVal.beqL a a' && AVal.beqL b b'
  | .nilFunc, .nilFunc => true
  | .iface t a, .iface t' a' => t == t' && AVal.beq a a'
  | .nilIface, .nilIface => true
  | .agg a, .agg b => AVal.beqL a b
  | .tuple a, .tuple b => AVal.beqL a b
  | _, _ => false
def AVal.beqL : List AVal → List AVal → Bool
  | [], [] => true
  | a :: x, b :: y => AVal.beq a b && AVal.beqL x y
  | _, _ => false
def AVal.beqLL : List (List AVal) → List (List AVal) → Bool
  | [], [] => true
  | a :: x, b :: y => AVal.beqL a b && AVal.beqLL x y
  | _, _ => false
end

def AVal.scalar : AVal → Bool
  | .agg _ | .tuple _ => false
  | _ => true

def AVal.cells : AVal → List AVal
  | .agg cs => cs
  | .tuple _ => []
  | v => [v]

inductive AObj where
  | cells (cs : List AVal)
  | map (es : List (AVal × AVal))
  | dead
  deriving Inhabited

abbrev AHeap := List AObj

/-- A slot of a frame: not known; a passed-over operation's; a value; a known bool; a slice whose spare places this slot owns; a private variable (with a count of its writes); an address in a private variable. -/
inductive Slot where
  | undef
  | skip
  | val (v : AVal)
  | cst (b : Bool)
  | own (v : AVal)
  | box (ver : Nat) (cells : List AVal) (own : List Nat)
  | lref (s off : Nat)
  deriving Inhabited

abbrev Env := List Slot

def Env.at (σ : Env) (s : Nat) : Slot := σ.getD s .undef

def Slot.shape : Slot → Slot
  | .box _ _ _ => .box 0 [] []
  | x => x

def Slot.value? : Slot → Option AVal
  | .val v | .own v => some v
  | .cst b => some (.bool b)
  | _ => none

/-- The kinds of flat scalars. -/
inductive FK where
  | b | i | s
  deriving DecidableEq, Inhabited

/-- The kinds of types whose values can be held against nil alone. -/
inductive NK where
  | sl | fn | mp
  deriving DecidableEq, Inhabited

/-- The pure operations. -/
inductive POp where
  | int (op : BinOp)
  | str (op : BinOp)
  | beq (neg : Bool)
  | geq (neg : Bool) (ks : List FK)
  | peq (neg : Bool)
  | nileq (neg : Bool) (k : NK)
  | un (op : UnOp)
  | conv (k : IntKind)
  | pick
  | part (off : Nat) (n : Option Nat)
  | aidx (len size : Nat) (n : Option Nat)
  | sidx
  | faddr (off : Nat)
  | eaddr (size : Nat)
  | aaddr (len size : Nat)
  | len (isStr : Bool)
  | append (size bytes : Nat)
  | slc (size : Nat) (isStr lo hi : Bool)
  | ext (i : Nat)
  | nonnil
  | mksl (size : Nat)
  | mkagg (zero : List AVal) (places : List (Nat × Nat))
  | minmax (isMax : Bool)
  | b2s
  | s2b
  deriving Inhabited

def ofScalar : Value → Option AVal
  | .bool b => some (.bool b)
  | .int k n => some (.int k n)
  | .string s => some (.str s.data.toList)
  | .pointer none => some (.ptr none)
  | .slice none 0 0 => some .slnil
  | .map none => some (.map none)
  | .func fn f c => if f.size = 0 ∧ c.size = 0 then some (.func fn [] []) else none
  | .nilFunc => some .nilFunc
  | .nilIface => some .nilIface
  | _ => none

def ofScalars : List Value → Option (List AVal)
  | [] => some []
  | v :: vs => match ofScalar v, ofScalars vs with
    | some a, some as => some (a :: as)
    | _, _ => none

def ofConst : Value → Option AVal
  | .agg cs => (ofScalars cs.toList).map .agg
  | v => ofScalar v

def semPure : Sem Value → Option Value
  | .pure v => some v
  | _ => none

def toValue : AVal → Value
  | .bool b => .bool b
  | .int k n => .int k n
  | _ => .nilIface

def maxBytes : Nat := 140737488355328

def intOp (op : BinOp) (k : IntKind) (a : Int) (l : IntKind) (b : Int) : Option AVal :=
  (semPure (binOp op 0 (.int k a) (.int l b))).bind fun v => match v with
    | .int k n => some (.int k n)
    | .bool b => some (.bool b)
    | _ => none

def strOp (op : BinOp) (a b : Bytes) : Option AVal :=
  match op with
  | .add => if a.length + b.length ≤ 9223372036854775807 then some (.str (a ++ b)) else none
  | .eql => some (.bool (a == b))
  | .neq => some (.bool (!(a == b)))
  | .lss => some (.bool (Op.bytesLess a b))
  | .leq => some (.bool (Op.bytesLess a b || a == b))
  | .gtr => some (.bool (!(Op.bytesLess a b || a == b)))
  | .geq => some (.bool (!(Op.bytesLess a b)))
  | _ => none

/-- Equality of two flat scalars, and of two rows of them. -/
def flatEq : FK → AVal → AVal → Option Bool
  | .b, .bool a, .bool b => some (a == b)
  | .i, .int k a, .int l b => if k = l then some (a == b) else none
  | .s, .str a, .str b => some (a == b)
  | _, _, _ => none

def flatEqs : List FK → List AVal → List AVal → Option Bool
  | [], [], [] => some true
  | k :: ks, a :: x, b :: y => match flatEq k a b, flatEqs ks x y with
    | some e, some es => some (e && es)
    | _, _ => none
  | _, _, _ => none

def ptrEq : AVal → AVal → Option Bool
  | .ptr none, .ptr b => some b.isNone
  | .ptr (some _), .ptr none => some false
  | .ptr (some a), .ptr (some b) => if a = b then some true else none
  | .ptr none, .rptr _ => some false
  | .rptr _, .ptr none => some false
  | _, _ => none

def nilEq : NK → AVal → AVal → Option Bool
  | .sl, .slnil, .slnil => some true
  | .sl, .slnil, .sl _ _ => some false
  | .sl, .sl _ _, .slnil => some false
  | .sl, .slnil, .msl _ _ _ _ => some false
  | .sl, .msl _ _ _ _, .slnil => some false
  | .fn, .nilFunc, .nilFunc => some true
  | .fn, .nilFunc, .func _ _ _ => some false
  | .fn, .func _ _ _, .nilFunc => some false
  | .mp, .map none, .map b => some b.isNone
  | .mp, .map (some _), .map none => some false
  | _, _, _ => none

def partOf (cs : List AVal) (off : Nat) : Option Nat → Option AVal
  | none => cs[off]?
  | some n => if off + n ≤ cs.length then some (.agg ((cs.drop off).take n)) else none

def idxOf (n : Int) (len : Nat) : Option Nat := if 0 ≤ n ∧ n < len then some n.toNat else none

def bound (n : Int) (top : Nat) : Option Nat := if 0 ≤ n ∧ n ≤ top then some n.toNat else none

def boundsOf (lo hi : Bool) (len : Nat) (as : List AVal) : Option (Nat × Nat) :=
  match lo, hi with
  | false, false => match as with
    | [] => some (0, len)
    | _ => none
  | false, true => match as with
    | [.int _ h] => (bound h len).map fun h => (0, h)
    | _ => none
  | true, false => match as with
    | [.int _ l] => (bound l len).map fun l => (l, len)
    | _ => none
  | true, true => match as with
    | [.int _ l, .int _ h] => (bound h len).bind fun h => (bound l h).map fun l => (l, h)
    | _ => none

def bytesOf : List (List AVal) → Option Bytes
  | [] => some []
  | [.int .u8 n] :: rs => (bytesOf rs).map fun l => n.toNat.toUInt8 :: l
  | _ => none

def rowsOf (s : Bytes) : List (List AVal) := s.map fun b => [.int .u8 b.toNat]

def appendTo (size bytes : Nat) (s : AVal) (rows : List (List AVal)) : Option AVal :=
  match rows with
  | [] => match s with
    | .slnil => some .slnil
    | .sl z r => if z = size then some (.sl z r) else none
    | _ => none
  | rows => match s with
    | .slnil => if rows.length * bytes ≤ maxBytes then some (.sl size rows) else none
    | .sl z r => if z = size ∧ (r.length + rows.length) * bytes ≤ maxBytes then some (.sl size (r ++ rows)) else none
    | _ => none

def fillAt (cs : List AVal) : List ((Nat × Nat) × AVal) → Option (List AVal)
  | [] => some cs
  | ((off, size), v) :: rest => if 0 < size ∧ v.cells.length = size ∧ off + size ≤ cs.length then fillAt (cs.take off ++ v.cells ++ cs.drop (off + size)) rest else none

def xorOf (k : IntKind) (n : Int) : Option AVal :=
  (semPure (Op.unary .xor (.int k n))).bind fun v => match v with
    | .int k n => some (.int k n)
    | _ => none

def unOf : UnOp → AVal → Option AVal
  | .not, .bool b => some (.bool (!b))
  | .neg, .int k n => some (.int k (k.wrap (0 - n)))
  | .xor, .int k n => xorOf k n
  | _, _ => none

def offOf (p : AVal) (off : Nat) : Option AVal :=
  match p with
  | .rptr cs => some (.rptr (cs.drop off))
  | .ptr (some (id, o)) => some (.ptr (some (id, o + off)))
  | _ => none

def elemOf (size : Nat) (s : AVal) (i : Int) : Option AVal :=
  match s with
  | .sl z rows => if z = size then (if 0 ≤ i then (rows[i.toNat]?).map .rptr else none) else none
  | .msl id off len z => if z = size then (idxOf i len).map fun i => .ptr (some (id, off + i * size)) else none
  | _ => none

def lenOf (isStr : Bool) (s : AVal) : Option AVal :=
  match s with
  | .sl _ rows => if isStr then none else some (.int .i64 rows.length)
  | .msl _ _ n _ => if isStr then none else some (.int .i64 n)
  | .slnil => if isStr then none else some (.int .i64 0)
  | .str s => if isStr then some (.int .i64 s.length) else none
  | _ => none

def appendOf (size bytes : Nat) (s x : AVal) : Option AVal :=
  match x with
  | .slnil => appendTo size bytes s []
  | .sl z rows => if z = size then appendTo size bytes s rows else none
  | .str x => if size = 1 then appendTo size bytes s (rowsOf x) else none
  | _ => none

def sliceOf (size : Nat) (isStr lo hi : Bool) (s : AVal) (as : List AVal) : Option AVal :=
  match s with
  | .str s => if isStr then (boundsOf lo hi s.length as).map fun (l, h) => .str ((s.take h).drop l) else none
  | .sl z rows => if isStr = false ∧ z = size then (boundsOf lo hi rows.length as).map fun (l, h) => .sl z ((rows.take h).drop l) else none
  | .msl id off n z => if isStr = false ∧ z = size then (boundsOf lo hi n as).bind fun (l, h) => if l < n then some (.msl id (off + l * z) (h - l) z) else none else none
  | .slnil => if isStr then none else (boundsOf lo hi 0 as).map fun _ => .slnil
  | _ => none

def nonnilOf : AVal → Option AVal
  | .ptr (some p) => some (.ptr (some p))
  | .rptr cs => some (.rptr cs)
  | .func (.func f) a b => some (.func (.func f) a b)
  | _ => none

def textOf : AVal → Option AVal
  | .sl 1 rows => (bytesOf rows).map .str
  | .slnil => some (.str [])
  | _ => none

def peval (p : POp) (args : List AVal) : Option AVal :=
  match p with
  | .int op => match args with
    | [.int k a, .int l b] => intOp op k a l b
    | _ => none
  | .str op => match args with
    | [.str a, .str b] => strOp op a b
    | _ => none
  | .beq neg => match args with
    | [.bool a, .bool b] => some (.bool ((a == b) != neg))
    | _ => none
  | .geq neg ks => match args with
    | [.agg a, .agg b] => (flatEqs ks a b).map fun e => .bool (e != neg)
    | _ => none
  | .peq neg => match args with
    | [a, b] => (ptrEq a b).map fun e => .bool (e != neg)
    | _ => none
  | .nileq neg k => match args with
    | [a, b] => (nilEq k a b).map fun e => .bool (e != neg)
    | _ => none
  | .un op => match args with
    | [v] => unOf op v
    | _ => none
  | .conv k => match args with
    | [.int _ n] => some (.int k (k.wrap n))
    | _ => none
  | .pick => match args with
    | [.bool c, a, b] => some (if c then a else b)
    | _ => none
  | .part off n => match args with
    | [.agg cs] => partOf cs off n
    | _ => none
  | .aidx len size n => match args with
    | [.agg cs, .int _ i] => (idxOf i len).bind fun i => partOf cs (i * size) n
    | _ => none
  | .sidx => match args with
    | [.str s, .int _ i] => if 0 ≤ i then (s[i.toNat]?).map fun b => .int .u8 b.toNat else none
    | _ => none
  | .faddr off => match args with
    | [p] => offOf p off
    | _ => none
  | .eaddr size => match args with
    | [s, .int _ i] => elemOf size s i
    | _ => none
  | .aaddr len size => match args with
    | [p, .int _ i] => (idxOf i len).bind fun i => offOf p (i * size)
    | _ => none
  | .len isStr => match args with
    | [s] => lenOf isStr s
    | _ => none
  | .append size bytes => match args with
    | [s, x] => appendOf size bytes s x
    | _ => none
  | .slc size isStr lo hi => match args with
    | s :: as => sliceOf size isStr lo hi s as
    | _ => none
  | .ext i => match args with
    | [.tuple vs] => vs[i]?
    | _ => none
  | .nonnil => match args with
    | [v] => nonnilOf v
    | _ => none
  | .mksl size => if args.all (fun a => a.cells.length == size) && decide (args.length * size ≤ 16777216) then some (.sl size (args.map (·.cells))) else none
  | .mkagg zero places => if places.length = args.length then (fillAt zero (places.zip args)).map .agg else none
  | .minmax isMax => match args with
    | [.int k a, .int l b] => if k = l then some (.int k (if isMax then (if b > a then b else a) else (if b < a then b else a))) else none
    | _ => none
  | .b2s => match args with
    | [v] => textOf v
    | _ => none
  | .s2b => match args with
    | [.str s] => if s.length ≤ maxBytes then some (.sl 1 (rowsOf s)) else none
    | _ => none

inductive AExit where
  | normal
  | exit (id : Nat)
  | ret
  deriving DecidableEq, Inhabited

/-- What code becomes: a tree whose data are values, not slots. -/
inductive IT where
  | ret (x : AExit) (vs : List AVal)
  | fail
  | op (o : POp) (args : List AVal) (k : AVal → IT)
  | cells (n : Nat) (v : AVal) (k : List AVal → IT)
  | cnd (c : AVal) (t e : IT)
  | load (n : Option Nat) (p : AVal) (k : AVal → IT)
  | store (n : Nat) (p v : AVal) (k : IT)
  | alloc (n : Nat) (v : AVal) (k : AVal → IT)
  | call (f : FuncId) (args : List AVal) (k : AVal → IT)
  | callv (fn : AVal) (args : List AVal) (k : AVal → IT)
  | pcall (f : FuncId) (args : List AVal) (k : AVal → IT)
  | loop (key : Nat) (init : List AVal) (body : List AVal → IT) (k : AExit → List AVal → IT)
  | join (key : Nat) (t : IT) (k : AExit → List AVal → IT)
  | same (a b : AVal) (k : IT)
  | mnew (k : AVal → IT)
  | mset (m key v : AVal) (k : IT)
  | mget (zero : AVal) (ok : Bool) (m key : AVal) (k : AVal → IT)
  | make (size bytes : Nat) (zero : List AVal) (len cap : AVal) (k : AVal → IT)
  | objOf (size bytes : Nat) (s x : AVal) (k : AVal → IT)
  | bytesObj (s : AVal) (k : AVal → IT)
  | frz (v : AVal) (k : AVal → IT)
  | frzAt (p : AVal) (k : IT)
  deriving Inhabited

/-- A value without addresses. -/
def AVal.flat : AVal → Bool
  | .bool _ | .int _ _ | .str _ => true
  | _ => false

def hload (h : AHeap) (n : Option Nat) : AVal → Option AVal
  | .rptr cs => partOf cs 0 n
  | .ptr (some (id, off)) => match h[id]? with
    | some (.cells cs) => partOf cs off n
    | _ => none
  | _ => none

def hstore (h : AHeap) (n : Nat) (p v : AVal) : Option AHeap :=
  match p with
  | .ptr (some (id, off)) => match h[id]? with
    | some (.cells cs) => if v.cells.length = n ∧ off + n ≤ cs.length then some (h.set id (.cells (cs.take off ++ v.cells ++ cs.drop (off + n)))) else none
    | _ => none
  | _ => none

def halloc (h : AHeap) (n : Nat) (v : AVal) : Option (AHeap × AVal) :=
  if v.cells.length = n then some (h ++ [.cells v.cells], .ptr (some (h.length, 0))) else none

def mfind (s : Bytes) : List (AVal × AVal) → Option (Option AVal)
  | [] => some none
  | (.str t, v) :: es => if s = t then some (some v) else mfind s es
  | _ => none

def mput (s : Bytes) (v : AVal) : List (AVal × AVal) → Option (List (AVal × AVal))
  | [] => some [(.str s, v)]
  | (.str t, v') :: es => if s = t then some ((.str s, v) :: es) else (mput s v es).map fun es => (.str t, v') :: es
  | _ => none

def hmset (h : AHeap) (m k v : AVal) : Option AHeap :=
  match m, k with
  | .map (some id), .str s => match h[id]? with
    | some (.map es) => (mput s v es).map fun es => h.set id (.map es)
    | _ => none
  | _, _ => none

def hmfind (h : AHeap) (m k : AVal) : Option (Option AVal) :=
  match m, k with
  | .map none, .str _ => some none
  | .map (some id), .str s => match h[id]? with
    | some (.map es) => mfind s es
    | _ => none
  | _, _ => none

def hmget (h : AHeap) (zero : AVal) (ok : Bool) (m k : AVal) : Option AVal :=
  (hmfind h m k).map fun r => match r with
    | some v => if ok then .tuple [v, .bool true] else v
    | none => if ok then .tuple [zero, .bool false] else zero

def hmake (h : AHeap) (size bytes : Nat) (zero : List AVal) : AVal → AVal → Option (AHeap × AVal)
  | .int .i64 n, .int .i64 c => if 0 ≤ n ∧ n ≤ c ∧ c.toNat * bytes ≤ maxBytes ∧ zero.length = size then
      some (h ++ [.cells (List.replicate c.toNat zero).flatten], .msl h.length 0 n.toNat size) else none
  | _, _ => none

def noRows (size : Nat) : AVal → Bool
  | .slnil => true
  | .sl z [] => z == size
  | _ => false

/-- An append to nothing whose result is an object. -/
def hobjOf (h : AHeap) (size bytes : Nat) (s : AVal) : AVal → Option (AHeap × AVal)
  | .sl z rows => if noRows size s then (match rows with
      | [] => some (h, s)
      | rows => if z = size ∧ rows.length * bytes ≤ maxBytes then some (h ++ [.cells rows.flatten], .msl h.length 0 rows.length size) else none)
    else none
  | .slnil => if noRows size s then some (h, s) else none
  | _ => none

def hbytesObj (h : AHeap) : AVal → Option (AHeap × AVal)
  | .str s => if s.length ≤ maxBytes then some (h ++ [.cells (s.map fun b => .int .u8 b.toNat)], .msl h.length 0 s.length 1) else none
  | _ => none

def rowsFrom (cs : List AVal) (z : Nat) : Nat → Nat → List (List AVal)
  | _, 0 => []
  | off, n + 1 => (cs.drop off).take z :: rowsFrom cs z (off + z) n

/-- A slice of an object becomes a plain one; nobody writes the object any more. -/
def hfrz (h : AHeap) : AVal → Option (AHeap × AVal)
  | .msl id off n z => match h[id]? with
    | some (.cells cs) => if off + n * z ≤ cs.length then some (h.set id .dead, .sl z (rowsFrom cs z off n)) else none
    | _ => none
  | v => some (h, v)

def hfrzAt (h : AHeap) (p : AVal) : Option AHeap :=
  match p with
  | .ptr (some (id, o)) => match h[id]? with
    | some (.cells cs) => match cs[o]? with
      | some v => (hfrz h v).bind fun (h', v') => match h'[id]? with
        | some (.cells cs') => some (h'.set id (.cells (cs'.set o v')))
        | _ => none
      | none => none
    | _ => none
  | _ => none

def targetOf : AVal → List AVal → Option (FuncId × List AVal)
  | .func (.func f) first captured, args => some (f, first ++ args ++ captured)
  | _, _ => none

abbrev Res := AExit × List AVal × AHeap

/-- One level of a run: calls and further rounds of a loop are left to 'rec'. -/
def IT.step (fn : FuncId → List AVal → IT) (rec : IT → AHeap → Option Res) : IT → AHeap → Option Res
  | .ret x vs, h => some (x, vs, h)
  | .fail, _ => none
  | .op o args k, h => match peval o args with
    | some v => IT.step fn rec (k v) h
    | none => none
  | .cells n v k, h => if v.cells.length = n then IT.step fn rec (k v.cells) h else none
  | .cnd c t e, h => match c with
    | .bool true => IT.step fn rec t h
    | .bool false => IT.step fn rec e h
    | _ => none
  | .load n p k, h => match hload h n p with
    | some v => IT.step fn rec (k v) h
    | none => none
  | .store n p v k, h => match hstore h n p v with
    | some h' => IT.step fn rec k h'
    | none => none
  | .alloc n v k, h => match halloc h n v with
    | some (h', p) => IT.step fn rec (k p) h'
    | none => none
  | .call f args k, h => match rec (fn f args) h with
    | some (.ret, [r], h') => IT.step fn rec (k r) h'
    | _ => none
  | .callv g args k, h => match targetOf g args with
    | some (f, args) => match rec (fn f args) h with
      | some (.ret, [r], h') => IT.step fn rec (k r) h'
      | _ => none
    | none => none
  | .pcall f args k, h => if args.all AVal.flat then match rec (fn f args) [] with
      | some (.ret, [r], _) => if r.flat then IT.step fn rec (k r) h else none
      | _ => none
    else none
  | .loop key init body k, h => match IT.step fn rec (body init) h with
    | some (.normal, vs, h') => rec (.loop key vs body k) h'
    | some (x, vs, h') => IT.step fn rec (k x vs) h'
    | none => none
  | .join _ t k, h => match IT.step fn rec t h with
    | some (x, vs, h') => IT.step fn rec (k x vs) h'
    | none => none
  | .same a b k, h => if AVal.beq a b then IT.step fn rec k h else none
  | .mnew k, h => IT.step fn rec (k (.map (some h.length))) (h ++ [.map []])
  | .mset m key v k, h => match hmset h m key v with
    | some h' => IT.step fn rec k h'
    | none => none
  | .mget zero ok m key k, h => match hmget h zero ok m key with
    | some v => IT.step fn rec (k v) h
    | none => none
  | .make size bytes zero len cap k, h => match hmake h size bytes zero len cap with
    | some (h', v) => IT.step fn rec (k v) h'
    | none => none
  | .objOf size bytes s x k, h => match hobjOf h size bytes s x with
    | some (h', v) => IT.step fn rec (k v) h'
    | none => none
  | .bytesObj s k, h => match hbytesObj h s with
    | some (h', v) => IT.step fn rec (k v) h'
    | none => none
  | .frz v k, h => match hfrz h v with
    | some (h', v') => IT.step fn rec (k v') h'
    | none => none
  | .frzAt p k, h => match hfrzAt h p with
    | some h' => IT.step fn rec k h'
    | none => none

def IT.run (fn : FuncId → List AVal → IT) : Nat → IT → AHeap → Option Res
  | 0 => fun _ _ => none
  | n + 1 => IT.step fn (IT.run fn n)

end Go.Am
