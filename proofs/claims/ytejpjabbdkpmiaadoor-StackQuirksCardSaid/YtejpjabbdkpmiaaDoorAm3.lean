/-
  The abstract machine, third part: regions whose order is open, code, functions. No law is claimed here.
-/
import Derived.Test.YtejpjabbdkpmiaaDoorAm2
set_option linter.unusedSimpArgs false
set_option linter.unusedVariables false
namespace Go.Am

def Oper.deps (o : Oper) : List Nat := o.after.toList.filterMap fun e => if Region.binds .any e then some e.on else none

def bit (i : Nat) : Nat := 2 ^ i

/-- For each operation the set (as a bit mask) of those that must come before it. -/
def ancsFrom (acc : List Nat) : List Oper → List Nat
  | [] => acc
  | o :: rest => ancsFrom (acc ++ [(Oper.deps o).foldl (fun m e => m ||| bit e ||| acc.getD e 0) 0]) rest

def ancs (ops : List Oper) : List Nat := ancsFrom [] ops

def isBefore (an : List Nat) (i j : Nat) : Bool := (an.getD j 0).testBit i

def effOp (o : Oper) : Bool :=
  match o.op with
  | .call c => (match c.callee with | .builtin _ => false | _ => true)
  | .store _ _ _ | .insert _ _ _ _ | .mapUpdate _ _ _ _ | .makeMap _ _ | .makeSlice _ _ _ => true
  | _ => false

def stagesFrom (all : List Oper) (acc : List Nat) : List Oper → List Nat
  | [] => acc
  | o :: rest => stagesFrom all (acc ++ [(Oper.deps o).foldl (fun m e => Nat.max m (acc.getD e 0 + (match all[e]? with | some x => if effOp x then 1 else 0 | none => 0))) 0]) rest

def orderOf (ops : List Oper) : List Nat :=
  let st := stagesFrom ops [] ops
  let idx := List.range ops.length
  let eff := fun i => match ops[i]? with | some o => effOp o | none => false
  (List.range (ops.length + 1)).flatMap fun s => (idx.filter fun i => st.getD i 0 == s && !eff i) ++ (idx.filter fun i => st.getD i 0 == s && eff i)

/-- What an operation looks at and writes: slots; whether it reads the heap, whether it may change it; private variables that it lays anew, and those of which an address goes or comes; may it change places with others? -/
structure FP where
  rs : List Nat
  wf : List Nat
  hl : Bool
  eff : Bool
  news : List Nat
  lr : List Nat
  free : Bool
  deriving Inhabited

def tmpsOf (xs : List Operand) : List Nat := xs.filterMap fun | .tmp t => some t | _ => none

def baseOf (C : Ctx) (σ : Env) (x : Operand) : Option Nat :=
  match addrOf C σ x with
  | some (.priv s _ _ _ _) => some s
  | _ => none

def contentOf (C : Ctx) (σ : Env) (o : Oper) : List Nat :=
  match o.op with
  | .load _ x => (baseOf C σ x).toList
  | .store _ x _ => (baseOf C σ x).toList
  | .makeFunc _ _ captured => tmpsOf captured.toList
  | _ => []

def OpR.wf : OpR → List Nat
  | .pure ws => ws.map (·.1)
  | .op _ _ dst _ dem => dst.toList ++ (dem.map (·.1)).toList
  | .box _ _ d => [d]
  | .closure _ _ _ fz d => d :: fz.map (·.1)
  | .bstore s _ _ _ _ dem _ _ _ => s :: (dem.map (·.1)).toList
  | .load _ _ dst | .alloc _ _ dst | .call _ _ dst | .callv _ _ dst | .pcall _ _ dst | .mnew dst | .mget _ _ _ _ dst | .make _ _ _ _ _ dst | .bytesObj _ dst | .b2s _ dst => dst.toList
  | .objOf _ _ _ _ dst dem => dst.toList ++ (dem.map (·.1)).toList
  | .store _ _ _ | .mset _ _ _ => []

def OpR.hl : OpR → Bool
  | .load _ _ _ | .mget _ _ _ _ _ => true
  | _ => false

def OpR.eff : OpR → Bool
  | .store _ _ _ | .alloc _ _ _ | .call _ _ _ | .callv _ _ _ | .mnew _ | .mset _ _ _ | .make _ _ _ _ _ _ | .objOf _ _ _ _ _ _ | .bytesObj _ _ | .b2s _ _ => true
  | _ => false

def guardSlot (ops : List Oper) (o : Oper) : List Nat :=
  match o.guard with
  | none => []
  | some (j, _) => ((ops[j]?).bind (·.dst)).toList

def lrefsOf (xs : List Slot) : List Nat := xs.filterMap fun | .lref t _ => some t | _ => none

def OpR.lrefs : OpR → List Nat
  | .pure ws => lrefsOf (ws.map (·.2))
  | _ => []

def OpR.free (σ : Env) (r : OpR) : Bool :=
  noLref σ r.news && match r with
    | .load _ _ (some d) => decide (d < σ.length)
    | .load _ _ none | .mget _ _ _ _ _ | .closure _ _ _ (_ :: _) _ => false
    | _ => true

def fpOf (C : Ctx) (ops : List Oper) (σ : Env) (o : Oper) (r : Option OpR) : FP :=
  match r with
  | none => { rs := guardSlot ops o, wf := o.dst.toList, hl := false, eff := false, news := [], lr := lrefsOf (o.dst.toList.map σ.at), free := true }
  | some r => { rs := guardSlot ops o ++ tmpsOf o.op.operands.toList ++ contentOf C σ o, wf := r.wf ++ o.dst.toList, hl := r.hl, eff := r.eff, news := r.news, lr := lrefsOf ((r.wf ++ o.dst.toList).map σ.at) ++ r.lrefs, free := r.free σ }

def meets (a b : List Nat) : Bool := a.any fun x => b.contains x

def FP.apart (x y : FP) : Bool := !meets x.wf (y.rs ++ y.wf) && !meets y.wf x.rs && !meets x.lr y.news && !meets y.lr x.news

/-- May two operations, of which the first stands first in our order, come in the other order? -/
def pairOk (x y : FP) : Bool := x.free && y.free && x.apart y && !(x.eff && y.eff) && !(x.eff && y.hl)

def drawOk (n : Nat) (an : List Nat) (ann : List (Nat × FP)) : Bool :=
  go ann && (List.range n).all (fun i => (ann.map (·.1)).contains i)
where
  go : List (Nat × FP) → Bool
    | [] => true
    | (i, f) :: rest => rest.all (fun (j, g) => i != j && !isBefore an j i && (isBefore an i j || pairOk f g)) && go rest

structure Float where
  idx : Nat
  n : Option Nat
  p : AVal
  v : AVal

def recheck (an : List Nat) (i : Nat) : List Float → IT → IT
  | [], t => t
  | f :: fs, t => if isBefore an f.idx i then recheck an i fs t else .load f.n f.p fun v => .same f.v v (recheck an i fs t)

def floatsAfter (i : Nat) (r : OpR) (σ : Env) (fl : List Float) : List Float :=
  match r with
  | .load n p (some d) => match σ.at d with
    | .val v => { idx := i, n, p, v } :: fl
    | _ => fl
  | _ => fl

/-- Is the operation's result a guard of others? -/
def isGuard (ops : List Oper) (i : Nat) : Bool := ops.any fun o => match o.guard with | some (j, _) => j == i | none => false

/-- A guard is looked at as soon as it is known. -/
def askAt (d : Option Nat) (σ : Env) (K : Env → IT) : IT :=
  match d with
  | none => K σ
  | some d => match σ.at d with
    | .val v => .cnd v (K (σ.set d (.cst true))) (K (σ.set d (.cst false)))
    | _ => K σ

def sxDraw (C : Ctx) (fid : FuncId) (ops : List Oper) (an : List Nat) : List Nat → List (Nat × FP) → List Float → Env → (Env → IT) → IT
  | [], ann, _, σ, K => if drawOk ops.length an ann.reverse then K σ else .fail
  | i :: rest, ann, fl, σ, K =>
    match ops[i]? with
    | none => .fail
    | some o => match guardOf ops σ o with
      | .known true => match classify C fid ops σ o with
        | none => .fail
        | some r => r.tree C (σ.drop r.news) fun σ' =>
            let next := askAt (if isGuard ops i then o.dst else none) σ' fun σ'' => sxDraw C fid ops an rest ((i, fpOf C ops σ o (some r)) :: ann) (floatsAfter i r σ' fl) σ'' K
            if r.eff then recheck an i fl next else next
      | .known false => sxDraw C fid ops an rest ((i, fpOf C ops σ o none) :: ann) fl (σ.put o.dst .skip) K
      | _ => .fail

/-- The slots that code may write whole. -/
def opWrites (ops : List Oper) (o : Oper) : List Nat :=
  o.dst.toList ++ match o.op with
    | .move (.tmp s) => (match o.dst with | some d => if feeds ops d then [s] else [] | none => [])
    | .assign (.tmp s) => [s]
    | .store _ _ (.tmp s) => [s]
    | .call c => (match c.callee with | .builtin .append => tmpsOf c.args.toList | _ => [])
    | .makeFunc _ _ captured => tmpsOf captured.toList
    | _ => []

def writesOf : Code → List Nat
  | .region _ ops _ => ops.toList.flatMap (opWrites ops.toList)
  | .seq a b => writesOf a ++ writesOf b
  | .cond _ a b => writesOf a ++ writesOf b
  | .block _ b => writesOf b
  | .loop b => writesOf b
  | .scope b => writesOf b
  | _ => []

def guardSlots : Code → List Nat
  | .region _ ops _ => ops.toList.flatMap (guardSlot ops.toList)
  | .seq a b => guardSlots a ++ guardSlots b
  | .cond (.tmp s) a b => s :: (guardSlots a ++ guardSlots b)
  | .cond _ a b => guardSlots a ++ guardSlots b
  | .block _ b => guardSlots b
  | .loop b => guardSlots b
  | .scope b => guardSlots b
  | _ => []

def Env.clear (σ : Env) : List Nat → Env
  | [] => σ
  | s :: ss => Env.clear (σ.set s .undef) ss

def firstRegion : Code → Option Nat
  | .region id _ _ => some id
  | .seq a b => (firstRegion a).orElse fun _ => firstRegion b
  | .cond _ a b => (firstRegion a).orElse fun _ => firstRegion b
  | .block _ b | .loop b | .scope b => firstRegion b
  | _ => none

def vecOf (σ : Env) : List (Nat × Sh) → Option (List AVal)
  | [] => some []
  | (s, sh) :: l =>
    let v := match sh, σ.at s with
      | .val, x => x.value?
      | .own, .own v => some v
      | .box n ow, .box _ cs ow' => if cs.length = n ∧ ow.all (ow'.contains ·) then some (.agg cs) else none
      | _, _ => none
    match v, vecOf σ l with
    | some v, some vs => some (v :: vs)
    | _, _ => none

/-- The count of a private variable's writes. -/
def verOf : Slot → Nat
  | .box ver _ _ => ver
  | _ => 0

def setVec (vs : List AVal) : List (Nat × Sh) → Nat → Env → (Env → IT) → IT
  | [], _, σ, K => K σ
  | (s, .val) :: l, i, σ, K => setVec vs l (i + 1) (σ.set s (.val (vs.getD i .nilIface))) K
  | (s, .own) :: l, i, σ, K => setVec vs l (i + 1) (σ.set s (.own (vs.getD i .nilIface))) K
  | (s, .box n ow) :: l, i, σ, K => .cells n (vs.getD i .nilIface) fun cs => setVec vs l (i + 1) (σ.set s (.box (verOf (σ.at s) + 1) (unpack n cs) ow)) K

/-- Private variables that are not handed on by the vector must not have been written. -/
def keptOk (σ : Env) (σ' : Env) (l : List (Nat × Sh)) : Bool :=
  (List.range σ.length).all fun s => match σ.at s with
    | .box ver _ _ => (l.map (·.1)).contains s || (match σ'.at s with | .box ver' _ _ => ver' == ver | _ => false)
    | .lref _ _ => (l.map (·.1)).contains s || (match σ'.at s with | .lref _ _ => true | _ => false)
    | _ => true

def finish (σ0 : Env) (l : List (Nat × Sh)) (x : AExit) (σ' : Env) : IT :=
  if keptOk σ0 σ' l then match vecOf σ' l with
    | some vs => .ret x vs
    | none => .fail
  else .fail

/-- Slots of the vector are slots that are cleared. -/
def vecIn (l : List (Nat × Sh)) (ws : List Nat) (σ : Env) : Bool := l.all fun (s, _) => ws.contains s || (match σ.at s with | .box _ _ _ => true | _ => false)

def depsOk (ops : List Oper) : Bool := ops.zipIdx.all fun (o, i) => (Oper.deps o).all fun e => decide (e < i)

def sxRegion (C : Ctx) (fid : FuncId) (ops : List Oper) (draw : Bool) (σ : Env) (K : Env → IT) : IT :=
  if draw then (if depsOk ops then sxDraw C fid ops (ancs ops) (orderOf ops) [] [] σ K else .fail) else sxOps C fid ops ops σ K

def sxJoin (key : Nat) (σ : Env) (ws : List Nat) (l : List (Nat × Sh)) (t : (AExit → Env → IT) → IT) (K : AExit → Env → IT) : IT :=
  let σ0 := σ.clear ws
  if vecIn l ws σ then   .join key (t fun x σ' => finish σ0 l x σ') fun x vs => setVec vs l 0 σ0 fun σ' => K x σ' else .fail

def sxCode (C : Ctx) (fid : FuncId) : Code → Env → (AExit → Env → IT) → IT
  | .skip, σ, K => K .normal σ
  | .region id ops draw, σ, K => match C.joinR fid id with
    | none => sxRegion C fid ops.toList draw σ (K .normal)
    | some l => sxJoin id σ (ops.toList.flatMap (opWrites ops.toList) ++ ops.toList.flatMap (guardSlot ops.toList)) l (fun K => sxRegion C fid ops.toList draw σ (K .normal)) K
  | .seq a b, σ, K => sxCode C fid a σ fun x σ' => match x with
    | .normal => sxCode C fid b σ' K
    | .exit i => K (.exit i) σ'
    | .ret => K .ret σ'
  | .cond c a b, σ, K => match c, opSlot C σ c with
    | _, some (.cst true) => sxCode C fid a σ K
    | _, some (.cst false) => sxCode C fid b σ K
    | .tmp s, some (.val v) => match C.joins fid s with
      | none => .cnd v (sxCode C fid a (σ.set s (.cst true)) K) (sxCode C fid b (σ.set s (.cst false)) K)
      | some l => sxJoin (100000 + s) σ (s :: (writesOf a ++ writesOf b ++ guardSlots a ++ guardSlots b)) l (fun K => .cnd v (sxCode C fid a (σ.set s (.cst true)) K) (sxCode C fid b (σ.set s (.cst false)) K)) K
    | _, _ => .fail
  | .block id b, σ, K => sxCode C fid b σ fun x σ' => match x with
    | .normal => K .normal σ'
    | .exit i => if i = id then K .normal σ' else K (.exit i) σ'
    | .ret => K .ret σ'
  | .loop b, σ, K =>
    let l := C.live fid ((firstRegion b).getD 0)
    let ws := writesOf b ++ guardSlots b
    let σ0 := σ.clear ws
    if vecIn l ws σ then match vecOf σ l with
      | none => .fail
      | some init => .loop ((firstRegion b).getD 0) init (fun vs => setVec vs l 0 σ0 fun σh => sxCode C fid b σh fun x σ' => finish σ0 l x σ') fun x vs => setVec vs l 0 σ0 fun σ' => K x σ'
    else .fail
  | .exit id, σ, K => K (.exit id) σ
  | .ret, σ, K => K .ret σ
  | _, _, _ => .fail

def sxResults (C : Ctx) (σ : Env) : List ResultVar → List AVal → (List AVal → IT) → IT
  | [], acc, K => K acc.reverse
  | .tmp t :: rs, acc, K => match (σ.at t).value? with
    | some v => sxResults C σ rs (v :: acc) K
    | none => .fail
  | .cell a t :: rs, acc, K => match tyShape C.P t, addrOf C σ (.tmp a) with
    | some none, some (.priv _ o _ cs _) => if o < cs.length then sxResults C σ rs (cs.getD o .nilIface :: acc) K else .fail
    | some (some n), some (.priv _ o _ cs _) => if o + n ≤ cs.length then sxResults C σ rs (.agg ((cs.drop o).take n) :: acc) K else .fail
    | some n, some (.ptr p) => .load n p fun v => sxResults C σ rs (v :: acc) K
    | _, _ => .fail

def ownResult (σ : Env) : List ResultVar → Bool
  | [.tmp t] => match σ.at t with | .own _ => true | _ => false
  | _ => false

/-- Slices of objects that fields behind a pointer in a slot hold become plain ones. -/
def sxFrz (C : Ctx) (σ : Env) : List (Nat × Nat) → IT → IT
  | [], t => t
  | (s, off) :: l, t => match (σ.at s).value? with
    | some p => .op (.faddr off) [p] fun q => .frzAt q (sxFrz C σ l t)
    | none => .fail

def sxEnd (C : Ctx) (fid : FuncId) (fn : Func) (σ : Env) : IT :=
  if C.ownRet fid && !ownResult σ fn.results.toList then .fail
  else sxFrz C σ (C.frzEnd fid) (sxResults C σ fn.results.toList [] fun vs => match vs with
    | [v] => if C.frzRet fid then .frz v fun v => .ret .ret [v] else .ret .ret [v]
    | vs => .ret .ret [.tuple vs])

def sxFunc (C : Ctx) (fid : FuncId) (fn : Func) (args : List AVal) : IT :=
  match fn.body with
  | none => .fail
  | some c => sxCode C fid c (args.map .val ++ List.replicate (fn.ntmps - args.length) .undef) fun x σ => match x with
    | .normal => sxEnd C fid fn σ
    | .exit _ => .fail
    | .ret => sxEnd C fid fn σ

def afun (C : Ctx) (fid : FuncId) (args : List AVal) : IT :=
  match C.P.funcs[fid]? with
  | some fn => if fn.name == "runtime.NumGoroutine" then .fail else sxFunc C fid fn args
  | none => .fail

abbrev g (l : List AVal) (i : Nat) : AVal := l.getD i .nilIface
abbrev I (n : Int) : AVal := .int .i64 n
abbrev S (s : Bytes) : AVal := .str s
abbrev tt : AVal := .bool true
abbrev ff : AVal := .bool false

abbrev Ctx.run (C : Ctx) : Nat → IT → AHeap → Option Res := IT.run (afun C)

end Go.Am
