/-
  The abstract machine, second part: what one operation of the model's code becomes over a frame of slots, and the tree of a function. No law is claimed here.
-/
import Derived.Test.YtejpjabbdkpmiaaDoorAm1
set_option linter.unusedSimpArgs false
set_option linter.unusedVariables false
namespace Go.Am

inductive Sh where
  | val
  | own
  | box (n : Nat) (own : List Nat)
  deriving Inhabited

inductive BoxKind where
  | priv | heap
  deriving DecidableEq, Inhabited

/-- What the tree of a program is made with: the program, and choices that bear no trust (a bad choice makes a tree that fails). -/
structure Ctx where
  P : Program
  live : FuncId → Nat → List (Nat × Sh)
  joins : FuncId → Nat → Option (List (Nat × Sh))
  joinR : FuncId → Nat → Option (List (Nat × Sh))
  kind : FuncId → Nat → BoxKind
  ownRet : FuncId → Bool
  pureF : FuncId → Bool
  objs : FuncId → Nat → Bool
  frzRet : FuncId → Bool
  frzEnd : FuncId → List (Nat × Nat)
  glob : Nat → Option (List AVal)

inductive OpR where
  | pure (ws : List (Nat × Slot))
  | op (p : POp) (args : List AVal) (dst : Option Nat) (own : Bool) (demote : Option (Nat × AVal))
  | box (n : Nat) (v : AVal) (dst : Nat)
  | closure (fn : Fn) (first captured : List AVal) (froze : List (Nat × List AVal)) (dst : Nat)
  | bstore (s off n : Nat) (v : AVal) (own : Bool) (demote : Option (Nat × AVal)) (ver : Nat) (cells : List AVal) (owned : List Nat)
  | load (n : Option Nat) (p : AVal) (dst : Option Nat)
  | store (n : Nat) (p v : AVal)
  | alloc (n : Nat) (v : AVal) (dst : Option Nat)
  | call (f : FuncId) (args : List AVal) (dst : Option Nat)
  | callv (g : AVal) (args : List AVal) (dst : Option Nat)
  | pcall (f : FuncId) (args : List AVal) (dst : Option Nat)
  | mnew (dst : Option Nat)
  | mset (m k v : AVal)
  | mget (zero : AVal) (ok : Bool) (m k : AVal) (dst : Option Nat)
  | make (size bytes : Nat) (zero : List AVal) (len cap : AVal) (dst : Option Nat)
  | objOf (size bytes : Nat) (s x : AVal) (dst : Option Nat) (demote : Option (Nat × AVal))
  | bytesObj (s : AVal) (dst : Option Nat)
  | b2s (v : AVal) (dst : Option Nat)

def tySize (P : Program) (t : TypeId) : Option Nat := (P.info? t).map (·.size)

def tyBytes (P : Program) (t : TypeId) : Option Nat := (P.info? t).map (·.bytes)

def tyShape (P : Program) (t : TypeId) : Option (Option Nat) :=
  match P.underlying t with
  | some (.struct _) | some (.array _ _) => (tySize P t).map some
  | some _ => some none
  | none => none

def tyZero (P : Program) (t : TypeId) : Option AVal := ((P.info? t).bind (·.zero)).bind ofConst

/-- The kinds of the cells of a type whose values are flat scalars that are compared cell by cell. -/
def flatFs (rec : TypeId → Option (List FK)) : List Field → Nat → Option (List FK)
  | [], _ => some []
  | f :: fs, off => if f.name ≠ "_" ∧ f.offset = off then match rec f.type with
      | some ks => (flatFs rec fs (off + ks.length)).map (ks ++ ·)
      | none => none
    else none

def flatK (P : Program) : Nat → TypeId → Option (List FK)
  | 0, _ => none
  | d + 1, t =>
    let one (k : FK) : Option (List FK) := if tySize P t = some 1 then some [k] else none
    match P.underlying t with
    | some .bool => one .b
    | some (.int _) => one .i
    | some .string => one .s
    | some (.struct fs) => match flatFs (flatK P d) fs.toList 0 with
      | some ks => if tySize P t = some ks.length ∧ P.stoodInHeld t = false then some ks else none
      | none => none
    | _ => none

def fieldOff (P : Program) (s : TypeId) (f : Nat) : Option (Nat × Option Nat) :=
  match P.underlying s with
  | some (.struct fs) => match fs[f]? with
    | some fd => match tySize P fd.type, tyShape P fd.type with
      | some (_ + 1), some sh => some (fd.offset, sh)
      | _, _ => none
    | none => none
  | _ => none

def opSlot (C : Ctx) (σ : Env) : Operand → Option Slot
  | .tmp t => some (σ.at t)
  | .const (.bool b) => some (.cst b)
  | .const (.slice none 0 0) => some (.own .slnil)
  | .const v => (ofConst v).map .val
  | .global g => (C.glob g).map fun cs => .val (.rptr cs)
  | .func f => some (.val (.func (.func f) [] []))

def opVal (C : Ctx) (σ : Env) (x : Operand) : Option AVal := (opSlot C σ x).bind Slot.value?

def opVals (C : Ctx) (σ : Env) : List Operand → Option (List AVal)
  | [] => some []
  | x :: xs => match opVal C σ x, opVals C σ xs with
    | some v, some vs => some (v :: vs)
    | _, _ => none

/-- Is the slot the first operand of an append of this region? -/
def feeds (ops : List Oper) (d : Nat) : Bool :=
  ops.any fun o => match o.op with
    | .call c => (match c.callee with | .builtin .append => true | _ => false) && (match (c.args[0]? : Option Operand) with | some (.tmp t) => t == d | _ => false)
    | _ => false

def copySlot : Slot → Option Slot
  | .val v => some (.val v)
  | .cst b => some (.cst b)
  | .own v => some (.val v)
  | .lref s o => some (.lref s o)
  | _ => none

def takeFrom (x : Operand) (v : AVal) : List (Nat × Slot) :=
  match x with
  | .tmp s => [(s, .val v)]
  | _ => []

def moveOp (C : Ctx) (σ : Env) (x : Operand) (d : Nat) (take : Bool) : Option OpR :=
  match x, opSlot C σ x with
  | .tmp s, some (.box _ _ _) => some (.pure [(d, .lref s 0)])
  | .const _, some sl => some (.pure [(d, sl)])
  | x, some (.own v) => if take then some (.pure (takeFrom x v ++ [(d, .own v)])) else (copySlot (.own v)).map fun s => .pure [(d, s)]
  | _, some s => (copySlot s).map fun s => .pure [(d, s)]
  | _, none => none

def ownNil (cs : List AVal) : List Nat := (List.range cs.length).filter fun i => match cs.getD i .nilIface with | .slnil => true | _ => false

def noLref (σ : Env) (ds : List Nat) : Bool := σ.all fun s => match s with | .lref s _ => !ds.contains s | _ => true

def Env.drop (σ : Env) (ds : List Nat) : Env := match ds with | [] => σ | ds => σ.map fun s => match s with | .lref s o => if ds.contains s then .undef else .lref s o | s => s

def boxOp (C : Ctx) (fid : FuncId) (t : TypeId) (v : AVal) (d : Nat) : Option OpR :=
  match tySize C.P t with
  | none => none
  | some n => if n = 0 then none else match C.kind fid d with
    | .priv => some (.box n v d)
    | .heap => some (.alloc n v (some d))

/-- An address operand: in a private variable, or a pointer value. -/
inductive APlace where
  | priv (s off ver : Nat) (cells : List AVal) (own : List Nat)
  | ptr (p : AVal)

def addrOf (C : Ctx) (σ : Env) (x : Operand) : Option APlace :=
  match x, opSlot C σ x with
  | .tmp s, some (.box ver cs ow) => some (.priv s 0 ver cs ow)
  | _, some (.lref s o) => match σ.at s with
    | .box ver cs ow => some (.priv s o ver cs ow)
    | _ => none
  | _, some s => s.value?.map .ptr
  | _, none => none

def demoteOf (σ : Env) : Operand → Option (Nat × AVal)
  | .tmp s => match σ.at s with
    | .own v => some (s, v)
    | _ => none
  | _ => none

def isOwn (C : Ctx) (σ : Env) (x : Operand) : Bool := match opSlot C σ x with | some (.own _) => true | _ => false

def loadOp (C : Ctx) (σ : Env) (t : TypeId) (x : Operand) (d : Nat) (take : Bool) : Option OpR :=
  match tyShape C.P t, addrOf C σ x with
  | some n, some (.ptr p) => some (.load n p (some d))
  | some none, some (.priv s o ver cs ow) =>
    if o < cs.length then
      let v := cs.getD o .nilIface
      if ow.contains o && !(ow.erase o).contains o && take then some (.pure [(s, .box (ver + 1) cs (ow.erase o)), (d, .own v)])
      else some (.pure [(d, .val v)])
    else none
  | some (some n), some (.priv _ o _ cs _) => if o + n ≤ cs.length then some (.pure [(d, .val (.agg ((cs.drop o).take n)))]) else none
  | _, _ => none

def storeOp (C : Ctx) (σ : Env) (t : TypeId) (x y : Operand) : Option OpR :=
  match tySize C.P t, tyShape C.P t, addrOf C σ x, opVal C σ y with
  | some (n + 1), _, some (.ptr p), some v => some (.store (n + 1) p v)
  | some (n + 1), some sh, some (.priv s o ver cs ow), some v =>
    if o + (n + 1) ≤ cs.length then
      let own := sh.isNone && isOwn C σ y
      some (.bstore s o (n + 1) v own (if own then demoteOf σ y else none) ver cs ow)
    else none
  | _, _, _, _ => none

def eqKind (P : Program) (t : TypeId) (neg : Bool) (u : TypeDesc) : Option POp :=
  match u with
  | .bool => some (.beq neg)
  | .struct _ => if P.eqGuardType P.depth t = false then (flatK P 20 t).map (.geq neg) else none
  | .pointer e => if (tySize P e).getD 0 = 0 then none else some (.peq neg)
  | .slice _ => some (.nileq neg .sl)
  | .func _ _ _ => some (.nileq neg .fn)
  | .map _ _ => some (.nileq neg .mp)
  | _ => none

def binKind (P : Program) (op : BinOp) (t : TypeId) : Option POp :=
  match P.underlying t with
  | some (.int _) => some (.int op)
  | some .string => some (.str op)
  | some u => match op with
    | .eql => eqKind P t false u
    | .neq => eqKind P t true u
    | _ => none
  | none => none

def aop (p : POp) (dst : Option Nat) : Option (List AVal) → Option OpR
  | some args => some (.op p args dst false none)
  | none => none

def placesOf (P : Program) (t : TypeId) : List (Nat × Operand) → Option (List (Nat × Nat))
  | [] => some []
  | (i, _) :: rest => match P.underlying t with
    | some (.struct fs) => match fs[i]? with
      | some f => match tySize P f.type, placesOf P t rest with
        | some n, some r => some ((f.offset, n) :: r)
        | _, _ => none
      | none => none
    | some (.array len e) => if i < len then match tySize P e, placesOf P t rest with
        | some n, some r => some ((i * n, n) :: r)
        | _, _ => none
      else none
    | _ => none

/-- A type's zero value is known and fills its cells. -/
def zeroOk (P : Program) (t : TypeId) : Bool :=
  match P.info? t with
  | some i => match i.zero with
    | some z => z.cells.size == i.size
    | none => false
  | none => false

def buildOk (P : Program) (t : TypeId) : Bool :=
  match P.underlying t with
  | some (.struct fs) => fs.toList.all fun f => (tySize P f.type).isSome
  | some (.array _ e) => (tySize P e).isSome
  | _ => false

def callOp (C : Ctx) (fid : FuncId) (σ : Env) (c : Call) (dst : Option Nat) : Option OpR :=
  match c.callee with
  | .builtin .len => match c.argTypes[0]? with
    | some t => match C.P.underlying t with
      | some .string => aop (.len true) dst (opVals C σ c.args.toList)
      | some (.slice _) => aop (.len false) dst (opVals C σ c.args.toList)
      | _ => none
    | none => none
  | .builtin .append => match c.argTypes[0]?, c.argTypes[1]?, c.args.toList with
    | some t, some t', [s, x] => match C.P.underlying t, C.P.underlying t' with
      | some (.slice e), some (.slice _) | some (.slice e), some .string => match tySize C.P e, tyBytes C.P e with
        | some (n + 1), some (b + 1) => if isOwn C σ s && zeroOk C.P e then match opVals C σ [s, x] with
            | some [v, u] => if (dst.map (C.objs fid)).getD false then some (.objOf (n + 1) (b + 1) v u dst (demoteOf σ s))
              else some (.op (.append (n + 1) (b + 1)) [v, u] dst true (demoteOf σ s))
            | _ => none
          else none
        | _, _ => none
      | _, _ => none
    | _, _, _ => none
  | .builtin .max => if c.args.size = 2 then aop (.minmax true) dst (opVals C σ c.args.toList) else none
  | .builtin .min => if c.args.size = 2 then aop (.minmax false) dst (opVals C σ c.args.toList) else none
  | .value (.func f) => (opVals C σ c.args.toList).map fun args => if C.pureF f then .pcall f args dst else .call f args dst
  | .value g => match opVal C σ g, opVals C σ c.args.toList with
    | some g, some args => some (.callv g args dst)
    | _, _ => none
  | _ => none

def convOp (C : Ctx) (src dst : TypeId) : Option (Option POp) :=
  match C.P.underlying src, C.P.underlying dst with
  | some (.int _), some (.int k) => some (some (.conv k))
  | some .string, some .string => some none
  | some (.slice e), some .string => match C.P.underlying e with
    | some (.int .u8) => some (some .b2s)
    | _ => none
  | some .string, some (.slice e) => match C.P.underlying e, tySize C.P e, tyBytes C.P e with
    | some (.int .u8), some 1, some 1 => some (some .s2b)
    | _, _, _ => none
  | _, _ => none

/-- What a closure captures: values, and private variables, which nobody may write from then on. -/
def captures (C : Ctx) (σ : Env) : List Operand → Option (List AVal × List (Nat × List AVal))
  | [] => some ([], [])
  | x :: xs => match captures C σ xs with
    | none => none
    | some (vs, fz) => match x, opSlot C σ x with
      | .tmp s, some (.box _ cs _) => if (fz.map (·.1)).contains s then none else some (.rptr cs :: vs, (s, cs) :: fz)
      | _, some sl => match sl.value? with
        | some v => some (v :: vs, fz)
        | none => none
      | _, none => none

/-- What one operation does in a frame. -/
def classify (C : Ctx) (fid : FuncId) (ops : List Oper) (σ : Env) (o : Oper) : Option OpR :=
  match o.op with
  | .move x => match o.dst with
    | some d => moveOp C σ x d (feeds ops d)
    | none => none
  | .assign x => match o.dst with
    | some d => moveOp C σ x d true
    | none => none
  | .pick c a b => match opSlot C σ c, o.dst with
    | some (.cst true), some d => moveOp C σ a d false
    | some (.cst false), some d => moveOp C σ b d false
    | _, dst => aop .pick dst (opVals C σ [c, a, b])
  | .alloc t => match o.dst, tyZero C.P t with
    | some d, some z => match C.kind fid d with
      | .priv => if tySize C.P t = some z.cells.length ∧ z.cells ≠ [] then some (.pure [(d, .box 0 z.cells (ownNil z.cells))]) else none
      | _ => boxOp C fid t z d
    | _, _ => none
  | .box t x => match o.dst, opVal C σ x with
    | some d, some v => boxOp C fid t v d
    | _, _ => none
  | .build t parts => match tyZero C.P t, placesOf C.P t parts.toList with
    | some z, some ps => if buildOk C.P t then aop (.mkagg z.cells ps) o.dst (opVals C σ (parts.toList.map (·.2))) else none
    | _, _ => none
  | .buildSlice t len parts => match C.P.underlying t with
    | some (.slice e) => match tySize C.P e with
      | some (n + 1) => if parts.toList.map (·.1) = List.range len ∧ zeroOk C.P e = true then (opVals C σ (parts.toList.map (·.2))).map fun args => .op (.mksl (n + 1)) args o.dst true none else none
      | _ => none
    | _ => none
  | .load t x => match o.dst with
    | some d => loadOp C σ t x d (feeds ops d)
    | none => none
  | .store t x y => match o.dst with
    | none => storeOp C σ t x y
    | some _ => none
  | .nilCheck x => match x, opSlot C σ x, o.dst with
    | .tmp s, some (.box _ _ _), some d => some (.pure [(d, .lref s 0)])
    | _, some (.lref s k), some d => some (.pure [(d, .lref s k)])
    | x, _, dst => aop .nonnil dst (opVals C σ [x])
  | .binOp op t x y _ => match binKind C.P op t with
    | some p => aop p o.dst (opVals C σ [x, y])
    | none => none
  | .unOp op _ x => aop (.un op) o.dst (opVals C σ [x])
  | .convert src dst x => match convOp C src dst with
    | some (some .b2s) => (opVal C σ x).map fun v => .b2s v o.dst
    | some (some .s2b) => if (o.dst.map (C.objs fid)).getD false then (opVal C σ x).map fun v => .bytesObj v o.dst else aop .s2b o.dst (opVals C σ [x])
    | some (some p) => aop p o.dst (opVals C σ [x])
    | _ => none
  | .makeFunc fn first captured => match o.dst, opVals C σ first.toList, captures C σ captured.toList with
    | some d, some a, some (b, fz) => some (.closure fn a b fz d)
    | _, _, _ => none
  | .makeMap _ none => some (.mnew o.dst)
  | .makeSlice t l c => match C.P.underlying t with
    | some (.slice e) => match tySize C.P e, tyBytes C.P e, tyZero C.P e, opVal C σ l, opVal C σ c with
      | some (n + 1), some (b + 1), some z, some l, some c => some (.make (n + 1) (b + 1) z.cells l c o.dst)
      | _, _, _, _, _ => none
    | _ => none
  | .insert t m k v | .mapUpdate t m k v => match C.P.underlying t with
    | some (.map kt _) => match o.dst, C.P.underlying kt, opVals C σ [m, k, v] with
      | none, some .string, some [m, k, v] => some (.mset m k v)
      | _, _, _ => none
    | _ => none
  | .lookup t m k ok => match C.P.underlying t with
    | some (.map kt e) => match C.P.underlying kt, tyZero C.P e, opVals C σ [m, k] with
      | some .string, some z, some [m, k] => some (.mget z ok m k o.dst)
      | _, _, _ => none
    | _ => none
  | .slice t x lo hi none => match C.P.underlying t with
    | some .string => aop (.slc 0 true lo.isSome hi.isSome) o.dst (opVals C σ (x :: (lo.toList ++ hi.toList)))
    | some (.slice e) => match tySize C.P e with
      | some (n + 1) => aop (.slc (n + 1) false lo.isSome hi.isSome) o.dst (opVals C σ (x :: (lo.toList ++ hi.toList)))
      | _ => none
    | _ => none
  | .fieldAddr t x f => match fieldOff C.P t f, o.dst with
    | some (off, _), some d => match x, opSlot C σ x with
      | .tmp s, some (.box _ _ _) => some (.pure [(d, .lref s off)])
      | _, some (.lref s k) => some (.pure [(d, .lref s (k + off))])
      | x, _ => aop (.faddr off) (some d) (opVals C σ [x])
    | _, _ => none
  | .field t x f => match fieldOff C.P t f with
    | some (off, sh) => aop (.part off sh) o.dst (opVals C σ [x])
    | none => none
  | .indexAddr t x i => match C.P.underlying t with
    | some (.slice e) => match tySize C.P e with
      | some (n + 1) => aop (.eaddr (n + 1)) o.dst (opVals C σ [x, i])
      | _ => none
    | some (.array len e) => match tySize C.P e with
      | some (n + 1) => if len ≤ 1 then none else aop (.aaddr len (n + 1)) o.dst (opVals C σ [x, i])
      | _ => none
    | _ => none
  | .index t x i => match C.P.underlying t with
    | some .string => aop .sidx o.dst (opVals C σ [x, i])
    | some (.array len e) => match tySize C.P e, tyShape C.P e with
      | some (n + 1), some sh => aop (.aidx len (n + 1) sh) o.dst (opVals C σ [x, i])
      | _, _ => none
    | _ => none
  | .extract x i => aop (.ext i) o.dst (opVals C σ [x])
  | .call c => callOp C fid σ c o.dst
  | _ => none

def Env.puts (σ : Env) : List (Nat × Slot) → Env
  | [] => σ
  | (s, x) :: ws => Env.puts (σ.set s x) ws

def Env.put (σ : Env) (dst : Option Nat) (x : Slot) : Env :=
  match dst with
  | some d => σ.set d x
  | none => σ

def Env.demote (σ : Env) : Option (Nat × AVal) → Env
  | some (s, v) => σ.set s (.val v)
  | none => σ

def unpack (n : Nat) (cs : List AVal) : List AVal := (List.range n).map fun i => cs.getD i .nilIface

def splice (cs : List AVal) (off n : Nat) (vs : List AVal) : List AVal := cs.take off ++ vs ++ cs.drop (off + n)

def ownAfter (owned : List Nat) (off n : Nat) (own : Bool) : List Nat :=
  let rest := owned.filter fun o => !(off ≤ o && o < off + n)
  if own then off :: rest else rest

def OpR.tree (C : Ctx) (σ : Env) (K : Env → IT) : OpR → IT
  | .pure ws => K (σ.puts ws)
  | .op p args dst own dem => .op p args fun v => K ((σ.demote dem).put dst (if own then .own v else .val v))
  | .box n v d => .cells n v fun cs => K (σ.set d (.box 0 (unpack n cs) []))
  | .closure fn a b fz d => K ((σ.puts (fz.map fun (s, cs) => (s, .val (.rptr cs)))).set d (.val (.func fn a b)))
  | .bstore s off n v own dem ver cells owned => .cells n v fun vs => K ((σ.demote dem).set s (.box (ver + 1) (splice cells off n (unpack n vs)) (ownAfter owned off n own)))
  | .load n p dst => .load n p fun v => K (σ.put dst (.val v))
  | .store n p v => .store n p v (K σ)
  | .alloc n v dst => .alloc n v fun p => K (σ.put dst (.val p))
  | .call f args dst => .call f args fun r => K (σ.put dst (if C.ownRet f then .own r else .val r))
  | .callv g args dst => .callv g args fun r => K (σ.put dst (.val r))
  | .pcall f args dst => .pcall f args fun r => K (σ.put dst (.val r))
  | .mnew dst => .mnew fun m => K (σ.put dst (.val m))
  | .mset m k v => .mset m k v (K σ)
  | .mget z ok m k dst => .mget z ok m k fun v => K (σ.put dst (.val v))
  | .make z b zero l c dst => .make z b zero l c fun v => K (σ.put dst (.val v))
  | .objOf z b s x dst dem => .objOf z b s x fun v => K ((σ.demote dem).put dst (.val v))
  | .bytesObj s dst => .bytesObj s fun v => K (σ.put dst (.val v))
  | .b2s v dst => .frz v fun v => .op .b2s [v] fun u => K (σ.put dst (.val u))

/-- The private variables that an operation lays anew, or that nobody may write from then on: old addresses in them are forgotten. -/
def OpR.news : OpR → List Nat
  | .pure ws => ws.filterMap fun (s, x) => match x with | .box 0 _ _ => some s | _ => none
  | .box _ _ d => [d]
  | .closure _ _ _ fz _ => fz.map (·.1)
  | _ => []

/-- The guard of an operation: nothing to ask; known; or a value to branch on. -/
inductive Guard where
  | known (run : Bool)
  | ask (slot : Nat) (v : AVal) (want : Bool)
  | bad

def guardOf (ops : List Oper) (σ : Env) (o : Oper) : Guard :=
  match o.guard with
  | none => .known true
  | some (j, want) => match (ops[j]?).bind (·.dst) with
    | some s => match σ.at s with
      | .cst b => .known (b == want)
      | .val v => .ask s v want
      | .skip => .known false
      | _ => .bad
    | none => .bad

def sxOp (C : Ctx) (fid : FuncId) (ops : List Oper) (σ : Env) (o : Oper) (K : Env → IT) : IT :=
  match classify C fid ops σ o with
  | some r => r.tree C (σ.drop r.news) K
  | none => .fail

def sxGuarded (C : Ctx) (fid : FuncId) (ops : List Oper) (σ : Env) (o : Oper) (K : Env → IT) : IT :=
  match guardOf ops σ o with
  | .known true => sxOp C fid ops σ o K
  | .known false => K (σ.put o.dst .skip)
  | .ask s v want =>
    let t := if want then sxOp C fid ops (σ.set s (.cst true)) o K else K (Env.put (σ.set s (.cst true)) o.dst .skip)
    let e := if want then K (Env.put (σ.set s (.cst false)) o.dst .skip) else sxOp C fid ops (σ.set s (.cst false)) o K
    .cnd v t e
  | .bad => .fail

def sxOps (C : Ctx) (fid : FuncId) (ops : List Oper) : List Oper → Env → (Env → IT) → IT
  | [], σ, K => K σ
  | o :: rest, σ, K => sxGuarded C fid ops σ o fun σ => sxOps C fid ops rest σ K

end Go.Am
