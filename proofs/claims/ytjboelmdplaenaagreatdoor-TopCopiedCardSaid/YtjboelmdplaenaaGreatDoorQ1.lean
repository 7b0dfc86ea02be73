/- Lemmas -/
import GoSem.Step
set_option linter.unusedVariables false
set_option linter.unusedSimpArgs false
section
section
namespace Go.Am
abbrev Bytes:=List UInt8
inductive AVal where
 |bool (b:Bool)
 |int (k:IntKind) (n:Int)
 |str (s:Bytes)
 |ptr (p:Option (Nat×Nat))
 |rptr (cells:List AVal)
 |sl (size:Nat) (rows:List (List AVal))
 |slnil
 |nosl (size:Nat)
 |msl (id off len size:Nat)
 |map (m:Option Nat)
 |func (fn:Fn) (first captured:List AVal)
 |nilFunc
 |iface (t:TypeId) (v:AVal)
 |nilIface
 |agg (cells:List AVal)
 |tuple (vs:List AVal)
 deriving Inhabited
mutual
def AVal.beq:AVal→AVal→Bool
 | .bool a,.bool b=>a==b
 | .int k a,.int l b=>k==l&&a==b
 | .str a,.str b=>a==b
 | .ptr a,.ptr b=>a==b
 | .rptr a,.rptr b=>AVal.beqL a b
 | .sl n a,.sl m b=>n==m&&AVal.beqLL a b
 | .slnil,.slnil=>true
 | .nosl a,.nosl b=>a==b
 | .msl a b c d,.msl a' b' c' d'=>a==a'&&b==b'&&c==c'&&d==d'
 | .map a,.map b=>a==b
 | .func f a b,.func f' a' b'=>f==f'&&AVal.beqL a a'&&AVal.beqL b b'
 | .nilFunc,.nilFunc=>true
 | .iface t a,.iface t' a'=>t==t'&&AVal.beq a a'
 | .nilIface,.nilIface=>true
 | .agg a,.agg b=>AVal.beqL a b
 | .tuple a,.tuple b=>AVal.beqL a b
 |_,_=>false
def AVal.beqL:List AVal→List AVal→Bool
 |[],[]=>true
 |a::x,b::y=>AVal.beq a b&&AVal.beqL x y
 |_,_=>false
def AVal.beqLL:List (List AVal)→List (List AVal)→Bool
 |[],[]=>true
 |a::x,b::y=>AVal.beqL a b&&AVal.beqLL x y
 |_,_=>false
end
def AVal.cells:AVal→List AVal
 | .agg cs=>cs
 | .tuple _=>[]
 |v=>[v]
inductive AObj where
 |cells (cs:List AVal)
 |map (es:List (AVal×AVal))
 |dead
 deriving Inhabited
abbrev AHeap:=List AObj
inductive MOp where
 |copy (size:Nat)
 |clear (size:Nat) (zero:List AVal)
 |deep (size:Nat) (lo hi:Bool)
 |chk3 (size:Nat)
 |mkif (t:TypeId)
 |getI (zero:AVal) (ok:Bool)
 |entryI (zero:AVal)
 |entryS (zero:AVal)
 |storeI
 |putI
 |insI
 |custom (g:AHeap→List AVal→Option (AHeap×AVal))
def MOp.void:MOp→Bool
 | .chk3 _| .clear _ _| .storeI| .putI=>true
 |_=>false
inductive Slot where
 |undef
 |skip
 |val (v:AVal)
 |cst (b:Bool)
 |own (v:AVal)
 |box (ver:Nat) (cells:List AVal) (own:List Nat)
 |lref (s off:Nat)
 deriving Inhabited
abbrev Env:=List Slot
def Env.at (σ:Env) (s:Nat):Slot:=σ.getD s .undef
def Slot.value?:Slot→Option AVal
 | .val v| .own v=>some v
 | .cst b=>some (.bool b)
 |_=>none
inductive FK where
 |b|i|s
 deriving DecidableEq,Inhabited
inductive NK where
 |sl|fn|mp
 deriving DecidableEq,Inhabited
inductive POp where
 |int (op:BinOp)
 |str (op:BinOp)
 |beq (neg:Bool)
 |geq (neg:Bool) (ks:List FK)
 |peq (neg:Bool)
 |nileq (neg:Bool) (k:NK)
 |un (op:UnOp)
 |conv(k:IntKind)
 |pick
 |part (off:Nat) (n:Option Nat)
 |aidx (len size:Nat) (n:Option Nat)
 |sidx
 |faddr (off:Nat)
 |eaddr (size:Nat)
 |aaddr (len size:Nat)
 |len (isStr:Bool)
 |append (size bytes:Nat)
 |slc (size:Nat) (isStr lo hi:Bool)
 |ext (i:Nat)
 |nonnil
 |mksl (size:Nat)
 |nosl (size:Nat)
 |mkagg (zero:List AVal) (places:List (Nat×Nat))
 |minmax (isMax:Bool)
 |b2s
 |s2b
 |i2s
 deriving Inhabited
def ofScalar:Value→Option AVal
 | .bool b=>some (.bool b)
 | .int k n=>some (.int k n)
 | .string s=>some (.str s.data.toList)
 | .pointer none=>some (.ptr none)
 | .slice none 0 0=>some .slnil
 | .map none=>some (.map none)
 | .func fn f c=>if f.size=0∧c.size=0 then some (.func fn [] []) else none
 | .nilFunc=>some .nilFunc
 | .nilIface=>some .nilIface
 |_=>none
def ofScalars:List Value→Option (List AVal)
 |[]=>some []
 |v::vs=>match ofScalar v,ofScalars vs with
  |some a,some as=>some (a::as)
  |_,_=>none
def ofConst:Value→Option AVal
 | .agg cs=>(ofScalars cs.toList).map .agg
 |v=>ofScalar v
def semPure:Sem Value→Option Value
 | .pure v=>some v
 |_=>none
def maxBytes:Nat:=140737488355328
def intOp (op:BinOp) (k:IntKind) (a:Int) (l:IntKind) (b:Int):Option AVal:=
 (semPure (binOp op 0 (.int k a) (.int l b))).bind λv=>match v with
  | .int k n=>some (.int k n)
  | .bool b=>some (.bool b)
  |_=>none
def strOp (op:BinOp) (a b:Bytes):Option AVal:=
 match op with
 | .add=>if a.length+b.length≤9223372036854775807 then some (.str (a++b)) else none
 | .eql=>some (.bool (a==b))
 | .neq=>some (.bool (!(a==b)))
 | .lss=>some (.bool (Op.bytesLess a b))
 | .leq=>some (.bool (Op.bytesLess a b||a==b))
 | .gtr=>some (.bool (!(Op.bytesLess a b||a==b)))
 | .geq=>some (.bool (!(Op.bytesLess a b)))
 |_=>none
def flatEq:FK→AVal→AVal→Option Bool
 | .b,.bool a,.bool b=>some (a==b)
 | .i,.int k a,.int l b=>if k=l then some (a==b) else none
 | .s,.str a,.str b=>some (a==b)
 |_,_,_=>none
def flatEqs:List FK→List AVal→List AVal→Option Bool
 |[],[],[]=>some true
 |k::ks,a::x,b::y=>match flatEq k a b,flatEqs ks x y with
  |some e,some es=>some (e&&es)
  |_,_=>none
 |_,_,_=>none
def ptrEq:AVal→AVal→Option Bool
 | .ptr none,.ptr b=>some b.isNone
 | .ptr (some _),.ptr none=>some false
 | .ptr (some a),.ptr (some b)=>if a=b then some true else none
 | .ptr none,.rptr _=>some false
 | .rptr _,.ptr none=>some false
 |_,_=>none
def nilEq:NK→AVal→AVal→Option Bool
 | .sl,.slnil,.slnil=>some true
 | .sl,.slnil,.sl _ _=>some false
 | .sl,.sl _ _,.slnil=>some false
 | .sl,.slnil,.nosl _=>some false
 | .sl,.nosl _,.slnil=>some false
 | .sl,.slnil,.msl _ _ _ _=>some false
 | .sl,.msl _ _ _ _,.slnil=>some false
 | .fn,.nilFunc,.nilFunc=>some true
 | .fn,.nilFunc,.func _ _ _=>some false
 | .fn,.func _ _ _,.nilFunc=>some false
 | .mp,.map none,.map b=>some b.isNone
 | .mp,.map (some _),.map none=>some false
 |_,_,_=>none
def partOf (cs:List AVal) (off:Nat):Option Nat→Option AVal
 |none=>cs[off]?
 |some n=>if off+n≤cs.length then some (.agg ((cs.drop off).take n)) else none
def idxOf (n:Int) (len:Nat):Option Nat:=if 0≤n∧n<len then some n.toNat else none
def bound (n:Int) (top:Nat):Option Nat:=if 0≤n∧n≤top then some n.toNat else none
def boundsOf (lo hi:Bool) (len:Nat) (as:List AVal):Option (Nat×Nat):=
 match lo,hi with
 |false,false=>match as with
  |[]=>some (0,len)
  |_=>none
 |false,true=>match as with
  |[.int _ h]=>(bound h len).map λh=>(0,h)
  |_=>none
 |true,false=>match as with
  |[.int _ l]=>(bound l len).map λl=>(l,len)
  |_=>none
 |true,true=>match as with
  |[.int _ l,.int _ h]=>(bound h len).bind λh=>(bound l h).map λl=>(l,h)
  |_=>none
def bytesOf:List (List AVal)→Option Bytes
 |[]=>some []
 |[.int .u8 n]::rs=>(bytesOf rs).map λl=>n.toNat.toUInt8::l
 |_=>none
def rowsOf (s:Bytes):List (List AVal):=s.map λb=>[.int .u8 b.toNat]
def appendTo (size bytes:Nat) (s:AVal) (rows:List (List AVal)):Option AVal:=
 match rows with
 |[]=>match s with
  | .slnil=>some .slnil
  | .nosl z=>if z=size then some (.nosl z) else none
  | .sl z r=>if z=size then some (.sl z r) else none
  |_=>none
 |rows=>match s with
  | .slnil=>if rows.length*bytes≤maxBytes then some (.sl size rows) else none
  | .nosl z=>if z=size∧rows.length*bytes≤maxBytes then some (.sl size rows) else none
  | .sl z r=>if z=size∧(r.length+rows.length)*bytes≤maxBytes then some (.sl size (r++rows)) else none
  |_=>none
def fillAt (cs:List AVal):List ((Nat×Nat)×AVal)→Option (List AVal)
 |[]=>some cs
 |((off,size),v)::rest=>if 0<size∧v.cells.length=size∧off+size≤cs.length then fillAt (cs.take off++v.cells++cs.drop (off+size)) rest else none
def xorOf (k:IntKind) (n:Int):Option AVal:=
 (semPure (Op.unary .xor (.int k n))).bind λv=>match v with
  | .int k n=>some (.int k n)
  |_=>none
def unOf:UnOp→AVal→Option AVal
 | .not,.bool b=>some (.bool (!b))
 | .neg,.int k n=>some (.int k (k.wrap (0 -n)))
 | .xor,.int k n=>xorOf k n
 |_,_=>none
def offOf (p:AVal) (off:Nat):Option AVal:=
 match p with
 | .rptr cs=>some (.rptr (cs.drop off))
 | .ptr (some (id,o))=>some (.ptr (some (id,o+off)))
 |_=>none
def elemOf (size:Nat) (s:AVal) (i:Int):Option AVal:=
 match s with
 | .sl z rows=>if z=size then(if 0≤i then(rows[i.toNat]?).map .rptr else none) else none
 | .msl id off len z=>if z=size then(idxOf i len).map λi=> .ptr (some (id,off+i*size)) else none
 |_=>none
def lenOf (isStr:Bool) (s:AVal):Option AVal:=
 match s with
 | .sl _ rows=>if isStr then none else some (.int .i64 rows.length)
 | .msl _ _ n _=>if isStr then none else some (.int .i64 n)
 | .slnil=>if isStr then none else some (.int .i64 0)
 | .nosl _=>if isStr then none else some (.int .i64 0)
 | .str s=>if isStr then some (.int .i64 s.length) else none
 |_=>none
def appendOf (size bytes:Nat) (s x:AVal):Option AVal:=
 match x with
 | .slnil=>appendTo size bytes s []
 | .nosl z=>if z=size then appendTo size bytes s [] else none
 | .sl z rows=>if z=size then appendTo size bytes s rows else none
 | .str x=>if size=1 then appendTo size bytes s (rowsOf x) else none
 |_=>none
def sliceOf (size:Nat) (isStr lo hi:Bool) (s:AVal) (as:List AVal):Option AVal:=
 match s with
 | .str s=>if isStr then(boundsOf lo hi s.length as).map λ(l,h)=> .str ((s.take h).drop l) else none
 | .sl z rows=>if isStr=false∧z=size then(boundsOf lo hi rows.length as).map λ(l,h)=> .sl z ((rows.take h).drop l) else none
 | .msl id off n z=>if isStr=false∧z=size then(boundsOf lo hi n as).bind λ(l,h)=>if l<n then some (.msl id (off+l*z) (h-l) z) else some (.sl z []) else none
 | .slnil=>if isStr then none else(boundsOf lo hi 0 as).map λ_=> .slnil
 |_=>none
def nonnilOf:AVal→Option AVal
 | .ptr (some p)=>some (.ptr (some p))
 | .rptr cs=>some (.rptr cs)
 | .func (.func f) a b=>some (.func (.func f) a b)
 |_=>none
def textOf:AVal→Option AVal
 | .sl 1 rows=>(bytesOf rows).map .str
 | .slnil=>some (.str [])
 |_=>none
def peval (p:POp) (args:List AVal):Option AVal:=
 match p with
 | .int op=>match args with
  |[.int k a,.int l b]=>intOp op k a l b
  |_=>none
 | .str op=>match args with
  |[.str a,.str b]=>strOp op a b
  |_=>none
 | .beq neg=>match args with
  |[.bool a,.bool b]=>some (.bool ((a==b) != neg))
  |_=>none
 | .geq neg ks=>match args with
  |[.agg a,.agg b]=>(flatEqs ks a b).map λe=> .bool (e != neg)
  |_=>none
 | .peq neg=>match args with
  |[a,b]=>(ptrEq a b).map λe=> .bool (e != neg)
  |_=>none
 | .nileq neg k=>match args with
  |[a,b]=>(nilEq k a b).map λe=> .bool (e != neg)
  |_=>none
 | .un op=>match args with
  |[v]=>unOf op v
  |_=>none
 | .conv k=>match args with
  |[.int _ n]=>some (.int k (k.wrap n))
  |_=>none
 | .i2s=>match args with
  |[.int _ n]=>some (.str (Utf8.encode n).data.toList)
  |_=>none
 | .pick=>match args with
  |[.bool c,a,b]=>some (if c then a else b)
  |_=>none
 | .part off n=>match args with
  |[.agg cs]=>partOf cs off n
  |_=>none
 | .aidx len size n=>match args with
  |[.agg cs,.int _ i]=>(idxOf i len).bind λi=>partOf cs (i*size) n
  |_=>none
 | .sidx=>match args with
  |[.str s,.int _ i]=>if 0≤i then(s[i.toNat]?).map λb=> .int .u8 b.toNat else none
  |_=>none
 | .faddr off=>match args with
  |[p]=>offOf p off
  |_=>none
 | .eaddr size=>match args with
  |[s,.int _ i]=>elemOf size s i
  |_=>none
 | .aaddr len size=>match args with
  |[p,.int _ i]=>(idxOf i len).bind λi=>offOf p (i*size)
  |_=>none
 | .len isStr=>match args with
  |[s]=>lenOf isStr s
  |_=>none
 | .append size bytes=>match args with
  |[s,x]=>appendOf size bytes s x
  |_=>none
 | .slc size isStr lo hi=>match args with
  |s::as=>sliceOf size isStr lo hi s as
  |_=>none
 | .ext i=>match args with
  |[.tuple vs]=>vs[i]?
  |_=>none
 | .nonnil=>match args with
  |[v]=>nonnilOf v
  |_=>none
 | .mksl size=>if args.all (λa=>a.cells.length==size)&&decide (args.length*size≤16777216) then some (.sl size (args.map (·.cells))) else none
 | .nosl size=>if args.isEmpty then some (.nosl size) else none
 | .mkagg zero places=>if places.length=args.length then(fillAt zero (places.zip args)).map .agg else none
 | .minmax isMax=>match args with
  |[.int k a,.int l b]=>if k=l then some (.int k (if isMax then(if b>a then b else a) else(if b<a then b else a))) else none
  |_=>none
 | .b2s=>match args with
  |[v]=>textOf v
  |_=>none
 | .s2b=>match args with
  |[.str s]=>if s.length≤maxBytes then some (.sl 1 (rowsOf s)) else none
  |_=>none
inductive AExit where
 |normal
 |exit (id:Nat)
 |ret
 deriving DecidableEq,Inhabited
inductive IT where
 |ret (x:AExit) (vs:List AVal)
 |fail
 |op (o:POp) (args:List AVal) (k:AVal→IT)
 |cells (n:Nat) (v:AVal) (k:List AVal→IT)
 |cnd (c:AVal) (t e:IT)
 |load (n:Option Nat) (p:AVal) (k:AVal→IT)
 |store (n:Nat) (p v:AVal) (k:IT)
 |alloc (n:Nat) (v:AVal) (k:AVal→IT)
 |call (f:FuncId) (args:List AVal) (k:AVal→IT)
 |callv (fn:AVal) (args:List AVal) (k:AVal→IT)
 |pcall (f:FuncId) (args:List AVal) (k:AVal→IT)
 |loop (key:Nat) (init:List AVal) (body:List AVal→IT) (k:AExit→List AVal→IT)
 |join (key:Nat) (t:IT) (k:AExit→List AVal→IT)
 |same (a b:AVal) (k:IT)
 |mnew (k:AVal→IT)
 |mset (m key v:AVal) (k:IT)
 |mget (zero:AVal) (ok:Bool) (m key:AVal) (k:AVal→IT)
 |make (size bytes:Nat) (zero:List AVal) (len cap:AVal) (k:AVal→IT)
 |objOf (size bytes:Nat) (s x:AVal) (k:AVal→IT)
 |bytesObj (s:AVal) (k:AVal→IT)
 |frz (v:AVal) (k:AVal→IT)
 |frzAt (off:Nat) (p:AVal) (k:IT)
 |grow (size bytes:Nat) (s x:AVal) (k:AVal→IT)
 |appendM (size bytes:Nat) (s x:AVal) (k:AVal→IT)
 |mem (o:MOp) (args:List AVal) (k:AVal→IT)
 |qcall (f:FuncId) (args:List AVal) (k:AVal→IT)
 deriving Inhabited
def AVal.flat:AVal→Bool
 | .bool _| .int _ _| .str _=>true
 |_=>false
def hload (h:AHeap) (n:Option Nat):AVal→Option AVal
 | .rptr cs=>partOf cs 0 n
 | .ptr (some (id,off))=>match h[id]? with
  |some (.cells cs)=>partOf cs off n
  |_=>none
 |_=>none
def hstore (h:AHeap) (n:Nat) (p v:AVal):Option AHeap:=
 match p with
 | .ptr (some (id,off))=>match h[id]? with
  |some (.cells cs)=>if v.cells.length=n∧off+n≤cs.length then some (h.set id (.cells (cs.take off++v.cells++cs.drop (off+n)))) else none
  |_=>none
 |_=>none
def halloc (h:AHeap) (n:Nat) (v:AVal):Option (AHeap×AVal):=
 if v.cells.length=n then some (h++[.cells v.cells],.ptr (some (h.length,0))) else none
def mfind (s:Bytes):List (AVal×AVal)→Option (Option AVal)
 |[]=>some none
 |(.str t,v)::es=>if s=t then some (some v) else mfind s es
 |_=>none
def mput (s:Bytes) (v:AVal):List (AVal×AVal)→Option (List (AVal×AVal))
 |[]=>some [(.str s,v)]
 |(.str t,v')::es=>if s=t then some ((.str s,v)::es) else(mput s v es).map λes=>(.str t,v')::es
 |_=>none
def hmset (h:AHeap) (m k v:AVal):Option AHeap:=
 match m,k with
 | .map (some id),.str s=>match h[id]? with
  |some (.map es)=>(mput s v es).map λes=>h.set id (.map es)
  |_=>none
 |_,_=>none
def hmfind (h:AHeap) (m k:AVal):Option (Option AVal):=
 match m,k with
 | .map none,.str _=>some none
 | .map (some id),.str s=>match h[id]? with
  |some (.map es)=>mfind s es
  |_=>none
 |_,_=>none
def hmget (h:AHeap) (zero:AVal) (ok:Bool) (m k:AVal):Option AVal:=
 (hmfind h m k).map λr=>match r with
  |some v=>if ok then .tuple [v,.bool true] else v
  |none=>if ok then .tuple [zero,.bool false] else zero
def hmake (h:AHeap) (size bytes:Nat) (zero:List AVal):AVal→AVal→Option (AHeap×AVal)
 | .int .i64 n,.int .i64 c=>if 0≤n∧n≤c∧c.toNat*bytes≤maxBytes∧zero.length=size then
  some (h++[.cells (List.replicate c.toNat zero).flatten],.msl h.length 0 n.toNat size) else none
 |_,_=>none
def noRows (size:Nat):AVal→Bool
 | .slnil=>true
 | .nosl z=>z==size
 | .sl z []=>z==size
 |_=>false
def hobjOf (h:AHeap) (size bytes:Nat) (s:AVal):AVal→Option (AHeap×AVal)
 | .sl z rows=>if noRows size s then(match rows with
   |[]=>some (h,s)
   |rows=>if z=size∧rows.length*bytes≤maxBytes then some (h++[.cells rows.flatten],.msl h.length 0 rows.length size) else none)
  else none
 | .slnil=>if noRows size s then some (h,s) else none
 | .nosl z=>if noRows size s&&z==size then some (h,s) else none
 |_=>none
def hbytesObj (h:AHeap):AVal→Option (AHeap×AVal)
 | .str s=>if s.length≤maxBytes then some (h++[.cells (s.map λb=> .int .u8 b.toNat)],.msl h.length 0 s.length 1) else none
 |_=>none
def rowsFrom (cs:List AVal) (z:Nat):Nat→Nat→List (List AVal)
 |_,0=>[]
 |off,n+1=>(cs.drop off).take z::rowsFrom cs z (off+z) n
def hfrz (h:AHeap):AVal→Option (AHeap×AVal)
 | .msl id off n z=>match h[id]? with
  |some (.cells cs)=>if off+n*z≤cs.length then some (h.set id .dead,.sl z (rowsFrom cs z off n)) else none
  |_=>none
 |v=>some (h,v)
def hfrzAt (h:AHeap) (off:Nat) (p:AVal):Option AHeap:=
 match p with
 | .ptr none=>some h
 | .ptr (some (id,o))=>match h[id]? with
  |some (.cells cs)=>match cs[o+off]? with
   |some v=>(hfrz h v).bind λ(h',v')=>match h'[id]? with
    |some (.cells cs')=>some (h'.set id (.cells (cs'.set (o+off) v')))
    |_=>none
   |none=>none
  |_=>none
 |_=>none
def rowsAt (h:AHeap) (size:Nat):AVal→Option (List (List AVal))
 | .slnil=>some []
 | .nosl z=>if z=size then some [] else none
 | .sl z rows=>if z=size then some rows else none
 | .str s=>if size=1 then some (rowsOf s) else none
 | .msl id off n z=>if z=size then match h[id]? with
   |some (.cells cs)=>if off+n*z≤cs.length then some (rowsFrom cs z off n) else none
   |_=>none
  else none
 |_=>none
def hgrow (h:AHeap) (size bytes:Nat) (s x:AVal):Option (AHeap×AVal):=
 match rowsAt h size x with
 |none=>none
 |some []=>match s with
  | .slnil=>some (h,s)
  | .nosl z=>if z=size then some (h,s) else none
  | .msl _ _ _ z=>if z=size then some (h,s) else none
  |_=>none
 |some rows=>match s with
  | .slnil=>if rows.length*bytes≤maxBytes then some (h++[.cells rows.flatten],.msl h.length 0 rows.length size) else none
  | .nosl z=>if z=size∧rows.length*bytes≤maxBytes then some (h++[.cells rows.flatten],.msl h.length 0 rows.length size) else none
  | .msl id off n z=>match h[id]? with
   |some (.cells cs)=>if z=size then
     (if off+(n+rows.length)*z≤cs.length then some (h.set id (.cells (cs.take (off+n*z)++rows.flatten++cs.drop (off+(n+rows.length)*z))),.msl id off (n+rows.length) z)
     else if off=0∧n*z≤cs.length∧(n+rows.length)*bytes≤maxBytes then some (h.set id .dead++[.cells (cs.take (n*z)++rows.flatten)],.msl h.length 0 (n+rows.length) z) else none)
    else none
   |_=>none
  |_=>none
def happM (h:AHeap) (size bytes:Nat) (s x:AVal):Option AVal:=(rowsAt h size x).bind (appendTo size bytes s)
def hcopy (h:AHeap) (size:Nat) (d x:AVal):Option (AHeap×AVal):=
 match rowsAt h size x with
 |none=>none
 |some rows=>match d with
  | .slnil=>if rows.length=0 then some (h,.int .i64 0) else none
  | .msl id off n z=>match h[id]? with
   |some (.cells cs)=>if z=size∧rows.length≤n∧off+n*z≤cs.length then some (h.set id (.cells (cs.take off++rows.flatten++cs.drop (off+rows.length*z))),.int .i64 rows.length) else none
   |_=>none
  |_=>none
def hclear (h:AHeap) (size:Nat) (zero:List AVal):AVal→Option (AHeap×AVal)
 | .slnil=>some (h,.bool true)
 | .msl id off n z=>match h[id]? with
  |some (.cells cs)=>if z=size∧zero.length=size∧off+n*z≤cs.length then some (h.set id (.cells (cs.take off++(List.replicate n zero).flatten++cs.drop (off+n*z))),.bool true) else none
  |_=>none
 |_=>none
def hdeep (h:AHeap) (size:Nat) (lo hi:Bool) (s:AVal) (as:List AVal):Option (AHeap×AVal):=
 match s with
 | .msl id off n z=>match h[id]? with
  |some (.cells cs)=>if z=size∧hi=true∧off≤cs.length then(boundsOf lo hi ((cs.length-off)/z) as).bind λ(l,r)=>if l<(cs.length-off)/z then some (h,.msl id (off+l*z) (r-l) z) else none else none
  |_=>none
 |_=>none
def chk3Of (size:Nat):List AVal→Bool
 |[s,.int _ l,.int _ r,.int _ m]=>match s with
  | .msl _ _ n z=>z=size&&decide (0≤l)&&decide (l≤r)&&decide (r≤m)&&decide (m≤n)
  | .sl z rows=>z=size&&decide (0≤l)&&decide (l≤r)&&decide (r≤m)&&decide (m≤rows.length)
  |_=>false
 |_=>false
def mfindI (k:Int):List (AVal×AVal)→Nat→Option (Option (Nat×AVal))
 |[],_=>some none
 |(.int .i64 t,v)::es,i=>if k=t then some (some (i,v)) else mfindI k es (i+1)
 |_,_=>none
def getFin (zero:AVal) (ok:Bool):Option (Nat×AVal)→AVal
 |some (_,v)=>if ok then .tuple [v,.bool true] else v
 |none=>if ok then .tuple [zero,.bool false] else zero
def hgetI (h:AHeap) (zero:AVal) (ok:Bool) (m k:AVal):Option (AHeap×AVal):=
 match m,k with
 | .map none,.int .i64 _=>some (h,getFin zero ok none)
 | .map (some id),.int .i64 n=>match h[id]? with
  |some (.map es)=>(mfindI n es 0).map λr=>(h,getFin zero ok r)
  |_=>none
 |_,_=>none
def hentryI (h:AHeap) (zero m k:AVal):Option (AHeap×AVal):=
 match m,k with
 | .map (some id),.int .i64 n=>match h[id]? with
  |some (.map es)=>(mfindI n es 0).map λr=>match r with
   |some (i,v)=>(h,.tuple [v,.int .i64 i])
   |none=>(h.set id (.map (es++[(k,zero)])),.tuple [zero,.int .i64 es.length])
  |_=>none
 |_,_=>none
def mfindS (k:Bytes):List (AVal×AVal)→Nat→Option (Option (Nat×AVal))
 |[],_=>some none
 |(.str t,v)::es,i=>if k=t then some (some (i,v)) else mfindS k es (i+1)
 |_,_=>none
def hentryS (h:AHeap) (zero m k:AVal):Option (AHeap×AVal):=
 match m,k with
 | .map (some id),.str n=>match h[id]? with
  |some (.map es)=>(mfindS n es 0).map λr=>match r with
   |some (i,v)=>(h,.tuple [v,.int .i64 i])
   |none=>(h.set id (.map (es++[(k,zero)])),.tuple [zero,.int .i64 es.length])
  |_=>none
 |_,_=>none
def hstoreI (h:AHeap) (m i v:AVal):Option (AHeap×AVal):=
 match m,i with
 | .map (some id),.int .i64 n=>match h[id]? with
  |some (.map es)=>if 0≤n then match es[n.toNat]? with
   |some (k,_)=>some (h.set id (.map (es.set n.toNat (k,v))),.bool true)
   |none=>none
   else none
  |_=>none
 |_,_=>none
def hputI (h:AHeap) (m k v:AVal):Option (AHeap×AVal):=
 match m,k with
 | .map (some id),.int .i64 n=>match h[id]? with
  |some (.map es)=>match mfindI n es 0 with
   |some none=>some (h.set id (.map (es++[(.int .i64 n,v)])),.bool true)
   |_=>none
  |_=>none
 |_,_=>none
def gInsert (h:AHeap):List AVal→Option (AHeap×AVal)
 |[.slnil,.int .i64 i,.sl 1 [[.int .i64 x]]]=>if i=0 then some (h++[.cells [.int .i64 x]],.msl h.length 0 1 1) else none
 |[.msl id 0 n 1,.int .i64 i,.sl 1 [[.int .i64 x]]]=>match h[id]? with
  |some (.cells cs)=>if 0≤i∧i.toNat≤n∧n≤cs.length∧(n+1)*8≤maxBytes then some (h.set id .dead++[.cells (cs.take i.toNat++[.int .i64 x]++(cs.take n).drop i.toNat)],.msl h.length 0 (n+1) 1) else none
  |_=>none
 |_=>none
def meval (o:MOp) (h:AHeap) (args:List AVal):Option (AHeap×AVal):=
 match o with
 | .copy size=>match args with
  |[d,x]=>hcopy h size d x
  |_=>none
 | .clear size zero=>match args with
  |[s]=>hclear h size zero s
  |_=>none
 | .deep size lo hi=>match args with
  |s::as=>hdeep h size lo hi s as
  |_=>none
 | .chk3 size=>if chk3Of size args then some (h,.bool true) else none
 | .mkif t=>match args with
  |[v]=>some (h,.iface t v)
  |_=>none
 | .getI zero ok=>match args with
  |[m,k]=>hgetI h zero ok m k
  |_=>none
 | .entryI zero=>match args with
  |[m,k]=>hentryI h zero m k
  |_=>none
 | .entryS zero=>match args with
  |[m,k]=>hentryS h zero m k
  |_=>none
 | .storeI=>match args with
  |[m,i,v]=>hstoreI h m i v
  |_=>none
 | .putI=>match args with
  |[m,k,v]=>hputI h m k v
  |_=>none
 | .insI=>gInsert h args
 | .custom g=>g h args
def realOf (f:FuncId):FuncId:=if f≤99999 then f else f%100000
def targetOf:AVal→List AVal→Option (FuncId×List AVal)
 | .func (.func f) first captured,args=>if f≤99999 then some (f,first++args++captured) else none
 |_,_=>none
abbrev Res:=AExit×List AVal×AHeap
def IT.step (fn:FuncId→List AVal→IT) (rec:IT→AHeap→Option Res):IT→AHeap→Option Res
 | .ret x vs,h=>some (x,vs,h)
 | .fail,_=>none
 | .op o args k,h=>match peval o args with
  |some v=>IT.step fn rec (k v) h
  |none=>none
 | .cells n v k,h=>if v.cells.length=n then IT.step fn rec (k v.cells) h else none
 | .cnd c t e,h=>match c with
  | .bool true=>IT.step fn rec t h
  | .bool false=>IT.step fn rec e h
  |_=>none
 | .load n p k,h=>match hload h n p with
  |some v=>IT.step fn rec (k v) h
  |none=>none
 | .store n p v k,h=>match hstore h n p v with
  |some h'=>IT.step fn rec k h'
  |none=>none
 | .alloc n v k,h=>match halloc h n v with
  |some (h',p)=>IT.step fn rec (k p) h'
  |none=>none
 | .call f args k,h=>match rec (fn f args) h with
  |some (.ret,[r],h')=>IT.step fn rec (k r) h'
  |_=>none
 | .callv g args k,h=>match targetOf g args with
  |some (f,args)=>match rec (fn f args) h with
   |some (.ret,[r],h')=>IT.step fn rec (k r) h'
   |_=>none
  |none=>none
 | .pcall f args k,h=>if args.all AVal.flat then match rec (fn f args) [] with
   |some (.ret,[r],_)=>if r.flat then IT.step fn rec (k r) h else none
   |_=>none
  else none
 | .loop key init body k,h=>match IT.step fn rec (body init) h with
  |some (.normal,vs,h')=>rec (.loop key vs body k) h'
  |some (x,vs,h')=>IT.step fn rec (k x vs) h'
  |none=>none
 | .join _ t k,h=>match IT.step fn rec t h with
  |some (x,vs,h')=>IT.step fn rec (k x vs) h'
  |none=>none
 | .same a b k,h=>if AVal.beq a b then IT.step fn rec k h else none
 | .mnew k,h=>IT.step fn rec (k (.map (some h.length))) (h++[.map []])
 | .mset m key v k,h=>match hmset h m key v with
  |some h'=>IT.step fn rec k h'
  |none=>none
 | .mget zero ok m key k,h=>match hmget h zero ok m key with
  |some v=>IT.step fn rec (k v) h
  |none=>none
 | .make size bytes zero len cap k,h=>match hmake h size bytes zero len cap with
  |some (h',v)=>IT.step fn rec (k v) h'
  |none=>none
 | .objOf size bytes s x k,h=>match hobjOf h size bytes s x with
  |some (h',v)=>IT.step fn rec (k v) h'
  |none=>none
 | .bytesObj s k,h=>match hbytesObj h s with
  |some (h',v)=>IT.step fn rec (k v) h'
  |none=>none
 | .frz v k,h=>match hfrz h v with
  |some (h',v')=>IT.step fn rec (k v') h'
  |none=>none
 | .frzAt off p k,h=>match hfrzAt h off p with
  |some h'=>IT.step fn rec k h'
  |none=>none
 | .grow size bytes s x k,h=>match hgrow h size bytes s x with
  |some (h',v)=>IT.step fn rec (k v) h'
  |none=>none
 | .appendM size bytes s x k,h=>match happM h size bytes s x with
  |some v=>IT.step fn rec (k v) h
  |none=>none
 | .mem o args k,h=>match meval o h args with
  |some (h',v)=>IT.step fn rec (k v) h'
  |none=>none
 | .qcall f args k,h=>match rec (fn f args) [] with
  |some (.ret,[r],_)=>if r.flat then IT.step fn rec (k r) h else none
  |_=>none
def IT.run (fn:FuncId→List AVal→IT):Nat→IT→AHeap→Option Res
 |0=>λ_ _=>none
 |n+1=>IT.step fn (IT.run fn n)
end Go.Am
end
section
namespace Go.Am
inductive Sh where
 |val
 |own
 |box (n:Nat) (own:List Nat)
 deriving Inhabited
inductive BoxKind where
 |priv|heap
 deriving DecidableEq,Inhabited
structure Ctx where
 P:Program
 live:FuncId→Nat→List (Nat×Sh)
 joins:FuncId→Nat→Option (List (Nat×Sh))
 joinR:FuncId→Nat→Option (List (Nat×Sh))
 kind:FuncId→Nat→BoxKind
 ownRet:FuncId→Bool
 pureF:FuncId→Bool
 objs:FuncId→Nat→Bool
 snap:FuncId→Nat→Bool
 frzRet:FuncId→Bool
 frzEnd:FuncId→List (Nat×Nat)
 glob:Nat→Option (List AVal)
 prim:FuncId→Option (List AVal→IT)
 alt:FuncId→FuncId→FuncId
 ins:FuncId→Bool
inductive OpR where
 |pure (ws:List (Nat×Slot))
 |op (p:POp) (args:List AVal) (dst:Option Nat) (own:Bool) (demote:Option (Nat×AVal))
 |box (n:Nat) (v:AVal) (dst:Nat)
 |closure (fn:Fn) (first captured:List AVal) (froze:List (Nat×List AVal)) (dst:Nat)
 |bstore (s off n:Nat) (v:AVal) (own:Bool) (demote:Option (Nat×AVal)) (ver:Nat) (cells:List AVal) (owned:List Nat)
 |load (n:Option Nat) (p:AVal) (dst:Option Nat)
 |store (n:Nat) (p v:AVal)
 |alloc (n:Nat) (v:AVal) (dst:Option Nat)
 |call (f:FuncId) (args:List AVal) (dst:Option Nat)
 |callv (g:AVal) (args:List AVal) (dst:Option Nat)
 |pcall (f:FuncId) (args:List AVal) (dst:Option Nat)
 |mnew (dst:Option Nat)
 |mset (m k v:AVal)
 |mget (zero:AVal) (ok:Bool) (m k:AVal) (dst:Option Nat)
 |make (size bytes:Nat) (zero:List AVal) (len cap:AVal) (dst:Option Nat)
 |objOf (size bytes:Nat) (s x:AVal) (dst:Option Nat) (demote:Option (Nat×AVal))
 |grow (size bytes:Nat) (s x:AVal) (dst:Option Nat)
 |appendM (size bytes:Nat) (s x:AVal) (dst:Option Nat) (demote:Option (Nat×AVal))
 |bytesObj (s:AVal) (dst:Option Nat)
 |b2s (v:AVal) (dst:Option Nat)
 |mem (o:MOp) (args:List AVal) (dst:Option Nat)
def tySize (P:Program) (t:TypeId):Option Nat:=(P.info? t).map (·.size)
def tyBytes (P:Program) (t:TypeId):Option Nat:=(P.info? t).map (·.bytes)
def tyShape (P:Program) (t:TypeId):Option (Option Nat):=
 match P.underlying t with
 |some (.struct _)|some (.array _ _)=>(tySize P t).map some
 |some _=>some none
 |none=>none
def tyZero (P:Program) (t:TypeId):Option AVal:=((P.info? t).bind (·.zero)).bind ofConst
def flatFs (rec:TypeId→Option (List FK)):List Field→Nat→Option (List FK)
 |[],_=>some []
 |f::fs,off=>if f.name≠ "_"∧f.offset=off then match rec f.type with
   |some ks=>(flatFs rec fs (off+ks.length)).map (ks++·)
   |none=>none
  else none
def flatK (P:Program):Nat→TypeId→Option (List FK)
 |0,_=>none
 |d+1,t=>
  let one (k:FK):Option (List FK):=if tySize P t=some 1 then some [k] else none
  match P.underlying t with
  |some .bool=>one .b
  |some (.int _)=>one .i
  |some .string=>one .s
  |some (.struct fs)=>match flatFs (flatK P d) fs.toList 0 with
   |some ks=>if tySize P t=some ks.length∧P.stoodInHeld t=false then some ks else none
   |none=>none
  |_=>none
def fieldOff (P:Program) (s:TypeId) (f:Nat):Option (Nat×Option Nat):=
 match P.underlying s with
 |some (.struct fs)=>match fs[f]? with
  |some fd=>match tySize P fd.type,tyShape P fd.type with
   |some (_+1),some sh=>some (fd.offset,sh)
   |_,_=>none
  |none=>none
 |_=>none
def opSlot (C:Ctx) (σ:Env):Operand→Option Slot
 | .tmp t=>some (σ.at t)
 | .const (.bool b)=>some (.cst b)
 | .const (.slice none 0 0)=>some (.own .slnil)
 | .const v=>(ofConst v).map .val
 | .global g=>(C.glob g).map λcs=> .val (.rptr cs)
 | .func f=>some (.val (.func (.func f) [] []))
def opVal (C:Ctx) (σ:Env) (x:Operand):Option AVal:=(opSlot C σ x).bind Slot.value?
def opVals (C:Ctx) (σ:Env):List Operand→Option (List AVal)
 |[]=>some []
 |x::xs=>match opVal C σ x,opVals C σ xs with
  |some v,some vs=>some (v::vs)
  |_,_=>none
def feeds (ops:List Oper) (d:Nat):Bool:=
 ops.any λo=>match o.op with
  | .call c=>(match c.callee with| .builtin .append=>true|_=>false)&&(match(c.args[0]?:Option Operand) with|some (.tmp t)=>t==d|_=>false)
  |_=>false
def copySlot:Slot→Option Slot
 | .val v=>some (.val v)
 | .cst b=>some (.cst b)
 | .own v=>some (.val v)
 | .lref s o=>some (.lref s o)
 |_=>none
def takeFrom (x:Operand) (v:AVal):List (Nat×Slot):=
 match x with
 | .tmp s=>[(s,.val v)]
 |_=>[]
def moveOp (C:Ctx) (σ:Env) (x:Operand) (d:Nat) (take:Bool):Option OpR:=
 match x,opSlot C σ x with
 | .tmp s,some (.box _ _ _)=>some (.pure [(d,.lref s 0)])
 | .const _,some sl=>some (.pure [(d,sl)])
 |x,some (.own v)=>if take then some (.pure (takeFrom x v++[(d,.own v)])) else(copySlot (.own v)).map λs=> .pure [(d,s)]
 |_,some s=>(copySlot s).map λs=> .pure [(d,s)]
 |_,none=>none
def ownNil (cs:List AVal):List Nat:=(List.range cs.length).filter λi=>match cs.getD i .nilIface with| .slnil=>true|_=>false
def noLref (σ:Env) (ds:List Nat):Bool:=σ.all λs=>match s with| .lref s _=> !ds.contains s|_=>true
def Env.drop (σ:Env) (ds:List Nat):Env:=match ds with|[]=>σ|ds=>σ.map λs=>match s with| .lref s o=>if ds.contains s then .undef else .lref s o|s=>s
def boxOp (C:Ctx) (fid:FuncId) (t:TypeId) (v:AVal) (d:Nat):Option OpR:=
 match tySize C.P t with
 |none=>none
 |some n=>if n=0 then none else match C.kind fid d with
  | .priv=>some (.box n v d)
  | .heap=>some (.alloc n v (some d))
inductive APlace where
 |priv (s off ver:Nat) (cells:List AVal) (own:List Nat)
 |ptr (p:AVal)
def addrOf (C:Ctx) (σ:Env) (x:Operand):Option APlace:=
 match x,opSlot C σ x with
 | .tmp s,some (.box ver cs ow)=>some (.priv s 0 ver cs ow)
 |_,some (.lref s o)=>match σ.at s with
  | .box ver cs ow=>some (.priv s o ver cs ow)
  |_=>none
 |_,some s=>s.value?.map .ptr
 |_,none=>none
def demoteOf (σ:Env):Operand→Option (Nat×AVal)
 | .tmp s=>match σ.at s with
  | .own v=>some (s,v)
  |_=>none
 |_=>none
def isOwn (C:Ctx) (σ:Env) (x:Operand):Bool:=match opSlot C σ x with|some (.own _)=>true|_=>false
def loadOp (C:Ctx) (σ:Env) (t:TypeId) (x:Operand) (d:Nat) (take:Bool):Option OpR:=
 match tyShape C.P t,addrOf C σ x with
 |some n,some (.ptr p)=>some (.load n p (some d))
 |some none,some (.priv s o ver cs ow)=>
  if o<cs.length then
   let v:=cs.getD o .nilIface
   if ow.contains o&& !(ow.erase o).contains o&&take then some (.pure [(s,.box (ver+1) cs (ow.erase o)),(d,.own v)])
   else some (.pure [(d,.val v)])
  else none
 |some (some n),some (.priv _ o _ cs _)=>if o+n≤cs.length then some (.pure [(d,.val (.agg ((cs.drop o).take n)))]) else none
 |_,_=>none
def storeOp (C:Ctx) (σ:Env) (t:TypeId) (x y:Operand):Option OpR:=
 match tySize C.P t,tyShape C.P t,addrOf C σ x,opVal C σ y with
 |some (n+1),_,some (.ptr p),some v=>some (.store (n+1) p v)
 |some (n+1),some sh,some (.priv s o ver cs ow),some v=>
  if o+(n+1)≤cs.length then
   let own:=sh.isNone&&isOwn C σ y
   some (.bstore s o (n+1) v own (if own then demoteOf σ y else none) ver cs ow)
  else none
 |_,_,_,_=>none
def eqKind (P:Program) (t:TypeId) (neg:Bool) (u:TypeDesc):Option POp:=
 match u with
 | .bool=>some (.beq neg)
 | .struct _=>if P.eqGuardType P.depth t=false then(flatK P 20 t).map (.geq neg) else none
 | .pointer e=>if(tySize P e).getD 0=0 then none else some (.peq neg)
 | .slice _=>some (.nileq neg .sl)
 | .func _ _ _=>some (.nileq neg .fn)
 | .map _ _=>some (.nileq neg .mp)
 |_=>none
def binKind (P:Program) (op:BinOp) (t:TypeId):Option POp:=
 match P.underlying t with
 |some (.int _)=>some (.int op)
 |some .string=>some (.str op)
 |some u=>match op with
  | .eql=>eqKind P t false u
  | .neq=>eqKind P t true u
  |_=>none
 |none=>none
def aop (p:POp) (dst:Option Nat):Option (List AVal)→Option OpR
 |some args=>some (.op p args dst false none)
 |none=>none
def placesOf (P:Program) (t:TypeId):List (Nat×Operand)→Option (List (Nat×Nat))
 |[]=>some []
 |(i,_)::rest=>match P.underlying t with
  |some (.struct fs)=>match fs[i]? with
   |some f=>match tySize P f.type,placesOf P t rest with
    |some n,some r=>some ((f.offset,n)::r)
    |_,_=>none
   |none=>none
  |some (.array len e)=>if i<len then match tySize P e,placesOf P t rest with
    |some n,some r=>some ((i*n,n)::r)
    |_,_=>none
   else none
  |_=>none
def zeroOk (P:Program) (t:TypeId):Bool:=
 match P.info? t with
 |some i=>match i.zero with
  |some z=>z.cells.size==i.size
  |none=>false
 |none=>false
def buildOk (P:Program) (t:TypeId):Bool:=
 match P.underlying t with
 |some (.struct fs)=>fs.toList.all λf=>(tySize P f.type).isSome
 |some (.array _ e)=>(tySize P e).isSome
 |_=>false
def amem (o:MOp) (dst:Option Nat):Option (List AVal)→Option OpR
 |some args=>some (.mem o args dst)
 |none=>none
def callOp (C:Ctx) (fid:FuncId) (σ:Env) (c:Call) (dst:Option Nat):Option OpR:=
 match c.callee with
 | .builtin .len=>match c.argTypes[0]? with
  |some t=>match C.P.underlying t with
   |some .string=>aop (.len true) dst (opVals C σ c.args.toList)
   |some (.slice _)=>aop (.len false) dst (opVals C σ c.args.toList)
   |_=>none
  |none=>none
 | .builtin .append=>match c.argTypes[0]?,c.argTypes[1]?,c.args.toList with
  |some t,some t',[s,x]=>match C.P.underlying t,C.P.underlying t' with
   |some (.slice e),some (.slice _)|some (.slice e),some .string=>match tySize C.P e,tyBytes C.P e with
    |some (n+1),some (b+1)=>if zeroOk C.P e then match opVals C σ [s,x] with
      |some [v,u]=>if isOwn C σ s then
        (if(dst.map (C.objs fid)).getD false then some (.objOf (n+1) (b+1) v u dst (demoteOf σ s))
        else if(dst.map (C.snap fid)).getD false then some (.appendM (n+1) (b+1) v u dst (demoteOf σ s))
        else some (.op (.append (n+1) (b+1)) [v,u] dst true (demoteOf σ s)))
       else if(dst.map (C.objs fid)).getD false then some (.grow (n+1) (b+1) v u dst) else none
      |_=>none
     else none
    |_,_=>none
   |_,_=>none
  |_,_,_=>none
 | .builtin .copy=>match c.argTypes[0]?,c.argTypes[1]?,c.args.toList with
  |some t,some t',[s,x]=>match C.P.underlying t,C.P.underlying t' with
   |some (.slice e),some (.slice _)|some (.slice e),some .string=>match tySize C.P e with
    |some (n+1)=>amem (.copy (n+1)) dst (opVals C σ [s,x])
    |_=>none
   |_,_=>none
  |_,_,_=>none
 | .builtin .clear=>match c.argTypes[0]?,c.args.toList with
  |some t,[s]=>match C.P.underlying t with
   |some (.slice e)=>match tySize C.P e,tyZero C.P e with
    |some (n+1),some z=>amem (.clear (n+1) z.cells) dst (opVals C σ [s])
    |_,_=>none
   |_=>none
  |_,_=>none
 | .builtin .max=>if c.args.size=2 then aop (.minmax true) dst (opVals C σ c.args.toList) else none
 | .builtin .min=>if c.args.size=2 then aop (.minmax false) dst (opVals C σ c.args.toList) else none
 | .value (.func f)=>if C.ins f then(match c.args.toList with
  |[s,i,v]=>if isOwn C σ v then amem .insI dst (opVals C σ [s,i,v]) else none
  |_=>none) else if realOf (C.alt fid f)=f then(opVals C σ c.args.toList).map λargs=>if C.pureF (C.alt fid f) then .pcall (C.alt fid f) args dst else .call (C.alt fid f) args dst else none
 | .value g=>match opVal C σ g,opVals C σ c.args.toList with
  |some g,some args=>some (.callv g args dst)
  |_,_=>none
 |_=>none
def convOp (C:Ctx) (src dst:TypeId):Option (Option POp):=
 match C.P.underlying src,C.P.underlying dst with
 |some (.int _),some (.int k)=>some (some (.conv k))
 |some (.int _),some .string=>some (some .i2s)
 |some .string,some .string=>some none
 |some (.slice e),some .string=>match C.P.underlying e with
  |some (.int .u8)=>some (some .b2s)
  |_=>none
 |some .string,some (.slice e)=>match C.P.underlying e,tySize C.P e,tyBytes C.P e with
  |some (.int .u8),some 1,some 1=>some (some .s2b)
  |_,_,_=>none
 |_,_=>none
def captures (C:Ctx) (σ:Env):List Operand→Option (List AVal×List (Nat×List AVal))
 |[]=>some ([],[])
 |x::xs=>match captures C σ xs with
  |none=>none
  |some (vs,fz)=>match x,opSlot C σ x with
   | .tmp s,some (.box _ cs _)=>if(fz.map (·.1)).contains s then none else some (.rptr cs::vs,(s,cs)::fz)
   |_,some sl=>match sl.value? with
    |some v=>some (v::vs,fz)
    |none=>none
   |_,none=>none
def classify (C:Ctx) (fid:FuncId) (ops:List Oper) (σ:Env) (o:Oper):Option OpR:=
 match o.op with
 | .move x=>match o.dst with
  |some d=>moveOp C σ x d (feeds ops d)
  |none=>none
 | .assign x=>match o.dst with
  |some d=>moveOp C σ x d true
  |none=>none
 | .pick c a b=>match opSlot C σ c,o.dst with
  |some (.cst true),some d=>moveOp C σ a d false
  |some (.cst false),some d=>moveOp C σ b d false
  |_,dst=>aop .pick dst (opVals C σ [c,a,b])
 | .alloc t=>match o.dst,tyZero C.P t with
  |some d,some z=>match C.kind fid d with
   | .priv=>if tySize C.P t=some z.cells.length∧z.cells≠[] then some (.pure [(d,.box 0 z.cells (ownNil z.cells))]) else none
   |_=>boxOp C fid t z d
  |_,_=>none
 | .box t x=>match o.dst,opVal C σ x with
  |some d,some v=>boxOp C fid t v d
  |_,_=>none
 | .build t parts=>match tyZero C.P t,placesOf C.P t parts.toList with
  |some z,some ps=>if buildOk C.P t then aop (.mkagg z.cells ps) o.dst (opVals C σ (parts.toList.map (·.2))) else none
  |_,_=>none
 | .buildSlice t len parts=>match C.P.underlying t with
  |some (.slice e)=>match tySize C.P e with
   |some (n+1)=>if parts.toList.map (·.1)=List.range len∧zeroOk C.P e=true then if len=0∧(o.dst.map (C.objs fid)).getD false=true then some (.op (.nosl (n+1)) [] o.dst true none) else(opVals C σ (parts.toList.map (·.2))).map λargs=> .op (.mksl (n+1)) args o.dst true none else none
   |_=>none
  |_=>none
 | .load t x=>match o.dst with
  |some d=>loadOp C σ t x d (feeds ops d)
  |none=>none
 | .store t x y=>match o.dst with
  |none=>storeOp C σ t x y
  |some _=>none
 | .nilCheck x=>match x,opSlot C σ x,o.dst with
  | .tmp s,some (.box _ _ _),some d=>some (.pure [(d,.lref s 0)])
  |_,some (.lref s k),some d=>some (.pure [(d,.lref s k)])
  |x,_,dst=>aop .nonnil dst (opVals C σ [x])
 | .binOp op t x y _=>match binKind C.P op t with
  |some p=>aop p o.dst (opVals C σ [x,y])
  |none=>none
 | .unOp op _ x=>aop (.un op) o.dst (opVals C σ [x])
 | .convert src dst x=>match convOp C src dst with
  |some (some .b2s)=>(opVal C σ x).map λv=> .b2s v o.dst
  |some (some .s2b)=>if(o.dst.map (C.objs fid)).getD false then(opVal C σ x).map λv=> .bytesObj v o.dst else aop .s2b o.dst (opVals C σ [x])
  |some (some p)=>aop p o.dst (opVals C σ [x])
  |_=>none
 | .makeFunc fn first captured=>match o.dst,opVals C σ first.toList,captures C σ captured.toList with
  |some d,some a,some (b,fz)=>some (.closure fn a b fz d)
  |_,_,_=>none
 | .makeMap _ none=>some (.mnew o.dst)
 | .makeSlice t l c=>match C.P.underlying t with
  |some (.slice e)=>match tySize C.P e,tyBytes C.P e,tyZero C.P e,opVal C σ l,opVal C σ c with
   |some (n+1),some (b+1),some z,some l,some c=>some (.make (n+1) (b+1) z.cells l c o.dst)
   |_,_,_,_,_=>none
  |_=>none
 | .insert t m k v| .mapUpdate t m k v=>match C.P.underlying t with
  |some (.map kt _)=>match o.dst,C.P.underlying kt,opVals C σ [m,k,v] with
   |none,some .string,some [m,k,v]=>some (.mset m k v)
   |none,some (.int .i64),some [m,k,v]=>some (.mem .putI [m,k,v] none)
   |_,_,_=>none
  |_=>none
 | .lookup t m k ok=>match C.P.underlying t with
  |some (.map kt e)=>match C.P.underlying kt,tyZero C.P e,opVals C σ [m,k] with
   |some .string,some z,some [m,k]=>some (.mget z ok m k o.dst)
   |some (.int .i64),some z,some [m,k]=>some (.mem (.getI z ok) [m,k] o.dst)
   |_,_,_=>none
  |_=>none
 | .slice t x (some lo) (some hi) (some mx)=>match C.P.underlying t with
  |some (.slice e)=>match tySize C.P e with
   |some (n+1)=>amem (.chk3 (n+1)) o.dst (opVals C σ [x,lo,hi,mx])
   |_=>none
  |_=>none
 | .makeInterface t x=>match C.P.underlying t with
  |some (.interface _)=>none
  |some _=>amem (.mkif t) o.dst (opVals C σ [x])
  |none=>none
 | .mapEntry t m k=>match C.P.underlying t with
  |some (.map kt e)=>match C.P.underlying kt,tyZero C.P e with
   |some (.int .i64),some z=>amem (.entryI z) o.dst (opVals C σ [m,k])
   |some .string,some z=>amem (.entryS z) o.dst (opVals C σ [m,k])
   |_,_=>none
  |_=>none
 | .entryStore _ m s v=>match o.dst with
  |none=>amem .storeI none (opVals C σ [m,s,v])
  |some _=>none
 | .slice t x lo hi none=>match C.P.underlying t with
  |some .string=>aop (.slc 0 true lo.isSome hi.isSome) o.dst (opVals C σ (x::(lo.toList++hi.toList)))
  |some (.slice e)=>match tySize C.P e with
   |some (n+1)=>if(o.dst.map (C.objs fid)).getD false then amem (.deep (n+1) lo.isSome hi.isSome) o.dst (opVals C σ (x::(lo.toList++hi.toList)))
    else aop (.slc (n+1) false lo.isSome hi.isSome) o.dst (opVals C σ (x::(lo.toList++hi.toList)))
   |_=>none
  |_=>none
 | .fieldAddr t x f=>match fieldOff C.P t f,o.dst with
  |some (off,_),some d=>match x,opSlot C σ x with
   | .tmp s,some (.box _ _ _)=>some (.pure [(d,.lref s off)])
   |_,some (.lref s k)=>some (.pure [(d,.lref s (k+off))])
   |x,_=>aop (.faddr off) (some d) (opVals C σ [x])
  |_,_=>none
 | .field t x f=>match fieldOff C.P t f with
  |some (off,sh)=>aop (.part off sh) o.dst (opVals C σ [x])
  |none=>none
 | .indexAddr t x i=>match C.P.underlying t with
  |some (.slice e)=>match tySize C.P e with
   |some (n+1)=>aop (.eaddr (n+1)) o.dst (opVals C σ [x,i])
   |_=>none
  |some (.array len e)=>match tySize C.P e with
   |some (n+1)=>if len≤1 then none else aop (.aaddr len (n+1)) o.dst (opVals C σ [x,i])
   |_=>none
  |_=>none
 | .index t x i=>match C.P.underlying t with
  |some .string=>aop .sidx o.dst (opVals C σ [x,i])
  |some (.array len e)=>match tySize C.P e,tyShape C.P e with
   |some (n+1),some sh=>aop (.aidx len (n+1) sh) o.dst (opVals C σ [x,i])
   |_,_=>none
  |_=>none
 | .extract x i=>aop (.ext i) o.dst (opVals C σ [x])
 | .call c=>callOp C fid σ c o.dst
 |_=>none
def Env.puts (σ:Env):List (Nat×Slot)→Env
 |[]=>σ
 |(s,x)::ws=>Env.puts (σ.set s x) ws
def Env.put (σ:Env) (dst:Option Nat) (x:Slot):Env:=
 match dst with
 |some d=>σ.set d x
 |none=>σ
def Env.demote (σ:Env):Option (Nat×AVal)→Env
 |some (s,v)=>σ.set s (.val v)
 |none=>σ
def unpack (n:Nat) (cs:List AVal):List AVal:=(List.range n).map λi=>cs.getD i .nilIface
def splice (cs:List AVal) (off n:Nat) (vs:List AVal):List AVal:=cs.take off++vs++cs.drop (off+n)
def ownAfter (owned:List Nat) (off n:Nat) (own:Bool):List Nat:=
 let rest:=owned.filter λo=> !(off≤o&&o<off+n)
 if own then off::rest else rest
def OpR.tree (C:Ctx) (σ:Env) (K:Env→IT):OpR→IT
 | .pure ws=>K (σ.puts ws)
 | .op p args dst own dem=> .op p args λv=>K ((σ.demote dem).put dst (if own then .own v else .val v))
 | .box n v d=> .cells n v λcs=>K (σ.set d (.box 0 (unpack n cs) []))
 | .closure fn a b fz d=>K ((σ.puts (fz.map λ(s,cs)=>(s,.val (.rptr cs)))).set d (.val (.func fn a b)))
 | .bstore s off n v own dem ver cells owned=> .cells n v λvs=>K ((σ.demote dem).set s (.box (ver+1) (splice cells off n (unpack n vs)) (ownAfter owned off n own)))
 | .load n p dst=> .load n p λv=>K (σ.put dst (.val v))
 | .store n p v=> .store n p v (K σ)
 | .alloc n v dst=> .alloc n v λp=>K (σ.put dst (.val p))
 | .call f args dst=> .call f args λr=>K (σ.put dst (if C.ownRet f then .own r else .val r))
 | .callv g args dst=> .callv g args λr=>K (σ.put dst (.val r))
 | .pcall f args dst=> .pcall f args λr=>K (σ.put dst (.val r))
 | .mnew dst=> .mnew λm=>K (σ.put dst (.val m))
 | .mset m k v=> .mset m k v (K σ)
 | .mget z ok m k dst=> .mget z ok m k λv=>K (σ.put dst (.val v))
 | .make z b zero l c dst=> .make z b zero l c λv=>K (σ.put dst (.val v))
 | .objOf z b s x dst dem=> .objOf z b s x λv=>K ((σ.demote dem).put dst (.val v))
 | .grow z b s x dst=> .grow z b s x λv=>K (σ.put dst (.val v))
 | .appendM z b s x dst dem=> .appendM z b s x λv=>K ((σ.demote dem).put dst (.own v))
 | .bytesObj s dst=> .bytesObj s λv=>K (σ.put dst (.val v))
 | .b2s v dst=> .frz v λv=> .op .b2s [v] λu=>K (σ.put dst (.val u))
 | .mem o args dst=> .mem o args λv=>K (σ.put dst (if o.void then .undef else .val v))
def OpR.news:OpR→List Nat
 | .pure ws=>ws.filterMap λ(s,x)=>match x with| .box 0 _ _=>some s|_=>none
 | .box _ _ d=>[d]
 | .closure _ _ _ fz _=>fz.map (·.1)
 |_=>[]
inductive Guard where
 |known (run:Bool)
 |ask (slot:Nat) (v:AVal) (want:Bool)
 |bad
def guardOf (ops:List Oper) (σ:Env) (o:Oper):Guard:=
 match o.guard with
 |none=> .known true
 |some (j,want)=>match(ops[j]?).bind (·.dst) with
  |some s=>match σ.at s with
   | .cst b=> .known (b==want)
   | .val v=> .ask s v want
   | .skip=> .known false
   |_=> .bad
  |none=> .bad
def sxOp (C:Ctx) (fid:FuncId) (ops:List Oper) (σ:Env) (o:Oper) (K:Env→IT):IT:=
 match classify C fid ops σ o with
 |some r=>r.tree C (σ.drop r.news) K
 |none=> .fail
def sxGuarded (C:Ctx) (fid:FuncId) (ops:List Oper) (σ:Env) (o:Oper) (K:Env→IT):IT:=
 match guardOf ops σ o with
 | .known true=>sxOp C fid ops σ o K
 | .known false=>K (σ.put o.dst .skip)
 | .ask s v want=>
  let t:=if want then sxOp C fid ops (σ.set s (.cst true)) o K else K (Env.put (σ.set s (.cst true)) o.dst .skip)
  let e:=if want then K (Env.put (σ.set s (.cst false)) o.dst .skip) else sxOp C fid ops (σ.set s (.cst false)) o K
  .cnd v t e
 | .bad=> .fail
def frzCallee:FuncId→Bool
 |33=>true
 |_=>false
def lent (C:Ctx) (σ:Env) (o:Oper):List (Nat×List AVal):=
 match o.op with
 | .call c=>(match c.callee with
  | .value (.func f)=>if frzCallee f then(match captures C σ c.args.toList with|some (_,fz)=>fz|none=>[]) else[]
  |_=>[])
 |_=>[]
def lend (C:Ctx) (σ:Env) (o:Oper):Env:=(σ.drop ((lent C σ o).map (·.1))).puts ((lent C σ o).map λ(s,cs)=>(s,.val (.rptr cs)))
def sxOps (C:Ctx) (fid:FuncId) (ops:List Oper):List Oper→Env→(Env→IT)→IT
 |[],σ,K=>K σ
 |o::rest,σ,K=>sxGuarded C fid ops (lend C σ o) o λσ=>sxOps C fid ops rest σ K
end Go.Am
end
section
namespace Go.Am
def Oper.deps (o:Oper):List Nat:=o.after.toList.filterMap λe=>if Region.binds .any e then some e.on else none
def bit (i:Nat):Nat:=2^i
def ancsFrom (acc:List Nat):List Oper→List Nat
 |[]=>acc
 |o::rest=>ancsFrom (acc++[(Oper.deps o).foldl (λm e=>m|||bit e|||acc.getD e 0) 0]) rest
def ancs (ops:List Oper):List Nat:=ancsFrom [] ops
def isBefore (an:List Nat) (i j:Nat):Bool:=(an.getD j 0).testBit i
def effOp (o:Oper):Bool:=
 match o.op with
 | .call c=>(match c.callee with| .builtin .copy| .builtin .clear=>true| .builtin _=>false|_=>true)
 | .store _ _ _| .insert _ _ _ _| .mapUpdate _ _ _ _| .makeMap _ _| .makeSlice _ _ _| .mapEntry _ _ _| .entryStore _ _ _ _=>true
 |_=>false
def stagesFrom (all:List Oper) (acc:List Nat):List Oper→List Nat
 |[]=>acc
 |o::rest=>stagesFrom all (acc++[(Oper.deps o).foldl (λm e=>Nat.max m (acc.getD e 0+(match all[e]? with|some x=>if effOp x then 1 else 0|none=>0))) 0]) rest
def orderOf (ops:List Oper):List Nat:=
 let st:=stagesFrom ops [] ops
 let idx:=List.range ops.length
 let eff:=λi=>match ops[i]? with|some o=>effOp o|none=>false
 (List.range (ops.length+1)).flatMap λs=>(idx.filter λi=>st.getD i 0==s&& !eff i)++(idx.filter λi=>st.getD i 0==s&&eff i)
structure FP where
 rs:List Nat
 wf:List Nat
 hl:Bool
 eff:Bool
 news:List Nat
 lr:List Nat
 free:Bool
 deriving Inhabited
def tmpsOf (xs:List Operand):List Nat:=xs.filterMap λ| .tmp t=>some t|_=>none
def baseOf (C:Ctx) (σ:Env) (x:Operand):Option Nat:=
 match addrOf C σ x with
 |some (.priv s _ _ _ _)=>some s
 |_=>none
def contentOf (C:Ctx) (σ:Env) (o:Oper):List Nat:=
 match o.op with
 | .load _ x=>(baseOf C σ x).toList
 | .store _ x _=>(baseOf C σ x).toList
 | .makeFunc _ _ captured=>tmpsOf captured.toList
 |_=>[]
def OpR.wf:OpR→List Nat
 | .pure ws=>ws.map (·.1)
 | .op _ _ dst _ dem=>dst.toList++(dem.map (·.1)).toList
 | .box _ _ d=>[d]
 | .closure _ _ _ fz d=>d::fz.map (·.1)
 | .bstore s _ _ _ _ dem _ _ _=>s::(dem.map (·.1)).toList
 | .load _ _ dst| .alloc _ _ dst| .call _ _ dst| .callv _ _ dst| .pcall _ _ dst| .mnew dst| .mget _ _ _ _ dst| .make _ _ _ _ _ dst| .bytesObj _ dst| .b2s _ dst| .grow _ _ _ _ dst| .mem _ _ dst=>dst.toList
 | .objOf _ _ _ _ dst dem| .appendM _ _ _ _ dst dem=>dst.toList++(dem.map (·.1)).toList
 | .store _ _ _| .mset _ _ _=>[]
def OpR.hl:OpR→Bool
 | .load _ _ _| .mget _ _ _ _ _=>true
 |_=>false
def OpR.eff:OpR→Bool
 | .store _ _ _| .alloc _ _ _| .call _ _ _| .callv _ _ _| .mnew _| .mset _ _ _| .make _ _ _ _ _ _| .objOf _ _ _ _ _ _| .bytesObj _ _| .b2s _ _| .grow _ _ _ _ _| .appendM _ _ _ _ _ _| .mem _ _ _=>true
 |_=>false
def guardSlot (ops:List Oper) (o:Oper):List Nat:=
 match o.guard with
 |none=>[]
 |some (j,_)=>((ops[j]?).bind (·.dst)).toList
def lrefsOf (xs:List Slot):List Nat:=xs.filterMap λ| .lref t _=>some t|_=>none
def OpR.lrefs:OpR→List Nat
 | .pure ws=>lrefsOf (ws.map (·.2))
 |_=>[]
def OpR.free (σ:Env) (r:OpR):Bool:=
 noLref σ r.news&&match r with
  | .load _ _ (some d)=>decide (d<σ.length)
  | .load _ _ none| .mget _ _ _ _ _| .closure _ _ _ (_::_) _=>false
  |_=>true
def fpOf (C:Ctx) (ops:List Oper) (σ:Env) (o:Oper) (r:Option OpR):FP:=
 match r with
 |none=>{rs:=guardSlot ops o,wf:=o.dst.toList,hl:=false,eff:=false,news:=[],lr:=lrefsOf (o.dst.toList.map σ.at),free:=true}
 |some r=>{rs:=guardSlot ops o++tmpsOf o.op.operands.toList++contentOf C σ o,wf:=r.wf++o.dst.toList,hl:=r.hl,eff:=r.eff,news:=r.news,lr:=lrefsOf ((r.wf++o.dst.toList).map σ.at)++r.lrefs,free:=r.free σ}
def meets (a b:List Nat):Bool:=a.any λx=>b.contains x
def FP.apart (x y:FP):Bool:= !meets x.wf (y.rs++y.wf)&& !meets y.wf x.rs&& !meets x.lr y.news&& !meets y.lr x.news
def pairOk (x y:FP):Bool:=x.free&&y.free&&x.apart y&& !(x.eff&&y.eff)&& !(x.eff&&y.hl)
def drawOk (n:Nat) (an:List Nat) (ann:List (Nat×FP)):Bool:=
 go ann&&(List.range n).all (λi=>(ann.map (·.1)).contains i)
where
 go:List (Nat×FP)→Bool
  |[]=>true
  |(i,f)::rest=>rest.all (λ(j,g)=>i != j&& !isBefore an j i&&(isBefore an i j||pairOk f g))&&go rest
structure Float where
 idx:Nat
 n:Option Nat
 p:AVal
 v:AVal
def recheck (an:List Nat) (i:Nat):List Float→IT→IT
 |[],t=>t
 |f::fs,t=>if isBefore an f.idx i then recheck an i fs t else .load f.n f.p λv=> .same f.v v (recheck an i fs t)
def floatsAfter (i:Nat) (r:OpR) (σ:Env) (fl:List Float):List Float:=
 match r with
 | .load n p (some d)=>match σ.at d with
  | .val v=>{idx:=i,n,p,v}::fl
  |_=>fl
 |_=>fl
def isGuard (ops:List Oper) (i:Nat):Bool:=ops.any λo=>match o.guard with|some (j,_)=>j==i|none=>false
def askAt (d:Option Nat) (σ:Env) (K:Env→IT):IT:=
 match d with
 |none=>K σ
 |some d=>match σ.at d with
  | .val v=> .cnd v (K (σ.set d (.cst true))) (K (σ.set d (.cst false)))
  |_=>K σ
def sxDraw (C:Ctx) (fid:FuncId) (ops:List Oper) (an:List Nat):List Nat→List (Nat×FP)→List Float→Env→(Env→IT)→IT
 |[],ann,_,σ,K=>if drawOk ops.length an ann.reverse then K σ else .fail
 |i::rest,ann,fl,σ,K=>
  match ops[i]? with
  |none=> .fail
  |some o=>match guardOf ops σ o with
   | .known true=>match classify C fid ops σ o with
    |none=> .fail
    |some r=>r.tree C (σ.drop r.news) λσ'=>
     let next:=askAt (if isGuard ops i then o.dst else none) σ' λσ''=>sxDraw C fid ops an rest ((i,fpOf C ops σ o (some r))::ann) (floatsAfter i r σ' fl) σ'' K
     if r.eff then recheck an i fl next else next
   | .known false=>sxDraw C fid ops an rest ((i,fpOf C ops σ o none)::ann) fl (σ.put o.dst .skip) K
   |_=> .fail
def opWrites (ops:List Oper) (o:Oper):List Nat:=
 o.dst.toList++match o.op with
  | .move (.tmp s)=>(match o.dst with|some d=>if feeds ops d then[s] else[]|none=>[])
  | .assign (.tmp s)=>[s]
  | .store _ _ (.tmp s)=>[s]
  | .call c=>(match c.callee with| .builtin .append=>tmpsOf c.args.toList| .value (.func f)=>if frzCallee f then tmpsOf c.args.toList else[]|_=>[])
  | .makeFunc _ _ captured=>tmpsOf captured.toList
  |_=>[]
def writesOf:Code→List Nat
 | .region _ ops _=>ops.toList.flatMap (opWrites ops.toList)
 | .seq a b=>writesOf a++writesOf b
 | .cond _ a b=>writesOf a++writesOf b
 | .block _ b=>writesOf b
 | .loop b=>writesOf b
 | .scope b=>writesOf b
 |_=>[]
def guardSlots:Code→List Nat
 | .region _ ops _=>ops.toList.flatMap (guardSlot ops.toList)
 | .seq a b=>guardSlots a++guardSlots b
 | .cond (.tmp s) a b=>s::(guardSlots a++guardSlots b)
 | .cond _ a b=>guardSlots a++guardSlots b
 | .block _ b=>guardSlots b
 | .loop b=>guardSlots b
 | .scope b=>guardSlots b
 |_=>[]
def Env.clear (σ:Env):List Nat→Env
 |[]=>σ
 |s::ss=>Env.clear (σ.set s .undef) ss
def firstRegion:Code→Option Nat
 | .region id _ _=>some id
 | .seq a b=>(firstRegion a).orElse λ_=>firstRegion b
 | .cond _ a b=>(firstRegion a).orElse λ_=>firstRegion b
 | .block _ b| .loop b| .scope b=>firstRegion b
 |_=>none
def vecOf (σ:Env):List (Nat×Sh)→Option (List AVal)
 |[]=>some []
 |(s,sh)::l=>
  let v:=match sh,σ.at s with
   | .val,x=>x.value?
   | .own,.own v=>some v
   | .box n ow,.box _ cs ow'=>if cs.length=n∧ow.all (ow'.contains ·) then some (.agg cs) else none
   |_,_=>none
  match v,vecOf σ l with
  |some v,some vs=>some (v::vs)
  |_,_=>none
def verOf:Slot→Nat
 | .box ver _ _=>ver
 |_=>0
def setVec (vs:List AVal):List (Nat×Sh)→Nat→Env→(Env→IT)→IT
 |[],_,σ,K=>K σ
 |(s,.val)::l,i,σ,K=>setVec vs l (i+1) (σ.set s (.val (vs.getD i .nilIface))) K
 |(s,.own)::l,i,σ,K=>setVec vs l (i+1) (σ.set s (.own (vs.getD i .nilIface))) K
 |(s,.box n ow)::l,i,σ,K=> .cells n (vs.getD i .nilIface) λcs=>setVec vs l (i+1) (σ.set s (.box (verOf (σ.at s)+1) (unpack n cs) ow)) K
def keptOk (σ:Env) (σ':Env) (l:List (Nat×Sh)):Bool:=
 (List.range σ.length).all λs=>match σ.at s with
  | .box ver _ _=>(l.map (·.1)).contains s||(match σ'.at s with| .box ver' _ _=>ver'==ver|_=>false)
  | .lref _ _=>(l.map (·.1)).contains s||(match σ'.at s with| .lref _ _=>true|_=>false)
  |_=>true
def finish (σ0:Env) (l:List (Nat×Sh)) (x:AExit) (σ':Env):IT:=
 if keptOk σ0 σ' l then match vecOf σ' l with
  |some vs=> .ret x vs
  |none=> .fail
 else .fail
def vecIn (l:List (Nat×Sh)) (ws:List Nat) (σ:Env):Bool:=l.all λ(s,_)=>ws.contains s||(match σ.at s with| .box _ _ _=>true|_=>false)
def depsOk (ops:List Oper):Bool:=ops.zipIdx.all λ(o,i)=>(Oper.deps o).all λe=>decide (e<i)
def sxRegion (C:Ctx) (fid:FuncId) (ops:List Oper) (draw:Bool) (σ:Env) (K:Env→IT):IT:=
 if draw then(if depsOk ops then sxDraw C fid ops (ancs ops) (orderOf ops) [] [] σ K else .fail) else sxOps C fid ops ops σ K
def sxJoin (key:Nat) (σ:Env) (ws:List Nat) (l:List (Nat×Sh)) (t:(AExit→Env→IT)→IT) (K:AExit→Env→IT):IT:=
 let σ0:=σ.clear ws
 if vecIn l ws σ then .join key (t λx σ'=>finish σ0 l x σ') λx vs=>setVec vs l 0 σ0 λσ'=>K x σ' else .fail
def exitK (K:AExit→Env→IT):AExit→Env→IT
 | .normal,_=> .fail
 | .exit i,σ=>K (.exit i) σ
 | .ret,σ=>K .ret σ
def sxCode (C:Ctx) (fid:FuncId):Code→Env→(AExit→Env→IT)→IT
 | .skip,σ,K=>K .normal σ
 | .region id ops draw,σ,K=>match C.joinR fid id with
  |none=>sxRegion C fid ops.toList draw σ (K .normal)
  |some l=>sxJoin (200000+id) σ (ops.toList.flatMap (opWrites ops.toList)++ops.toList.flatMap (guardSlot ops.toList)) l (λK=>sxRegion C fid ops.toList draw σ (K .normal)) K
 | .seq a b,σ,K=>sxCode C fid a σ λx σ'=>match x with
  | .normal=>sxCode C fid b σ' K
  | .exit i=>K (.exit i) σ'
  | .ret=>K .ret σ'
 | .cond c a b,σ,K=>match c,opSlot C σ c with
  |_,some (.cst true)=>sxCode C fid a σ K
  |_,some (.cst false)=>sxCode C fid b σ K
  | .tmp s,some (.val v)=>match C.joins fid s with
   |none=> .cnd v (sxCode C fid a (σ.set s (.cst true)) K) (sxCode C fid b (σ.set s (.cst false)) K)
   |some l=>sxJoin (100000+s) σ (s::(writesOf a++writesOf b++guardSlots a++guardSlots b)) l (λK=> .cnd v (sxCode C fid a (σ.set s (.cst true)) K) (sxCode C fid b (σ.set s (.cst false)) K)) K
  |_,_=> .fail
 | .block id b,σ,K=>sxCode C fid b σ λx σ'=>match x with
  | .normal=>K .normal σ'
  | .exit i=>if i=id then K .normal σ' else K (.exit i) σ'
  | .ret=>K .ret σ'
 | .loop b,σ,K=>
  let l:=C.live fid ((firstRegion b).getD 0)
  let ws:=writesOf b++guardSlots b
  let σ0:=σ.clear ws
  if vecIn l ws σ then match vecOf σ l with
   |none=> .fail
   |some init=> .loop ((firstRegion b).getD 0) init (λvs=>setVec vs l 0 σ0 λσh=>sxCode C fid b σh λx σ'=>finish σ0 l x σ') λx vs=>setVec vs l 0 σ0 λσ'=>exitK K x σ'
  else .fail
 | .exit id,σ,K=>K (.exit id) σ
 | .ret,σ,K=>K .ret σ
 | .scope b,σ,K=>sxCode C fid b σ K
 | .label _,σ,K=>K .normal σ
 |_,_,_=> .fail
def sxResults (C:Ctx) (σ:Env):List ResultVar→List AVal→(List AVal→IT)→IT
 |[],acc,K=>K acc.reverse
 | .tmp t::rs,acc,K=>match(σ.at t).value? with
  |some v=>sxResults C σ rs (v::acc) K
  |none=> .fail
 | .cell a t::rs,acc,K=>match tyShape C.P t,addrOf C σ (.tmp a) with
  |some none,some (.priv _ o _ cs _)=>if o<cs.length then sxResults C σ rs (cs.getD o .nilIface::acc) K else .fail
  |some (some n),some (.priv _ o _ cs _)=>if o+n≤cs.length then sxResults C σ rs (.agg ((cs.drop o).take n)::acc) K else .fail
  |some n,some (.ptr p)=> .load n p λv=>sxResults C σ rs (v::acc) K
  |_,_=> .fail
def ownResult (σ:Env):List ResultVar→Bool
 |[.tmp t]=>match σ.at t with| .own _=>true|_=>false
 |_=>false
def sxFrz (C:Ctx) (σ:Env):List (Nat×Nat)→IT→IT
 |[],t=>t
 |(s,off)::l,t=>match(σ.at s).value? with
  |some p=> .frzAt off p (sxFrz C σ l t)
  |none=> .fail
def sxFrzAll:List AVal→List AVal→(List AVal→IT)→IT
 |[],acc,K=>K acc.reverse
 |v::vs,acc,K=> .frz v λv=>sxFrzAll vs (v::acc) K
def retOf:List AVal→IT
 |[v]=> .ret .ret [v]
 |vs=> .ret .ret [.tuple vs]
def sxEnd (C:Ctx) (fid:FuncId) (fn:Func) (σ:Env):IT:=
 if C.ownRet fid&& !ownResult σ fn.results.toList then .fail
 else sxFrz C σ (C.frzEnd fid) (sxResults C σ fn.results.toList [] λvs=>if C.frzRet fid then sxFrzAll vs [] retOf else retOf vs)
def sxFunc (C:Ctx) (fid:FuncId) (fn:Func) (args:List AVal):IT:=
 match fn.body with
 |none=> .fail
 |some c=>sxCode C fid c (args.map .val++List.replicate (fn.ntmps-args.length) .undef) λx σ=>match x with
  | .normal=>sxEnd C fid fn σ
  | .exit _=> .fail
  | .ret=>sxEnd C fid fn σ
def cfun (C:Ctx) (fid:FuncId) (args:List AVal):IT:=
 match C.P.funcs[realOf fid]? with
 |some fn=>if fn.name== "runtime.NumGoroutine" then .fail else sxFunc C fid fn args
 |none=> .fail
def afun (C:Ctx) (fid:FuncId) (args:List AVal):IT:=
 match C.prim fid with
 |some p=>p args
 |none=>cfun C fid args
abbrev g (l:List AVal) (i:Nat):AVal:=l.getD i .nilIface
abbrev I (n:Int):AVal:= .int .i64 n
abbrev S (s:Bytes):AVal:= .str s
abbrev tt:AVal:= .bool true
abbrev ff:AVal:= .bool false
abbrev Ctx.run (C:Ctx):Nat→IT→AHeap→Option Res:=IT.run (afun C)
end Go.Am
end
end
section
namespace Go.Am
theorem IT.step_mono {fn:FuncId→List AVal→IT} {rec rec':IT→AHeap→Option Res} (hr:∀t h r,rec t h=some r→rec' t h=some r):
  ∀(t:IT) (h:AHeap) (r:Res),IT.step fn rec t h=some r→IT.step fn rec' t h=some r:=by
 intro t
 induction t with
 |ret x vs=>intro h r hh;simpa[IT.step] using hh
 |fail=>intro h r hh;simp[IT.step] at hh
 |op o args k ih=>
  intro h r hh;simp only[IT.step] at hh⊢;split at hh
  ·exact ih _ _ _ hh
  ·cases hh
 |cells n v k ih=>
  intro h r hh;simp only[IT.step] at hh⊢;split at hh
  ·rename_i hc;rw[if_pos hc];exact ih _ _ _ hh
  ·cases hh
 |cnd c t e iht ihe=>
  intro h r hh;simp only[IT.step] at hh⊢;split at hh
  ·exact iht _ _ hh
  ·exact ihe _ _ hh
  ·cases hh
 |load n p k ih=>
  intro h r hh;simp only[IT.step] at hh⊢;split at hh
  ·exact ih _ _ _ hh
  ·cases hh
 |store n p v k ih=>
  intro h r hh;simp only[IT.step] at hh⊢;split at hh
  ·exact ih _ _ hh
  ·cases hh
 |alloc n v k ih=>
  intro h r hh;simp only[IT.step] at hh⊢;split at hh
  ·exact ih _ _ _ hh
  ·cases hh
 |call f args k ih=>
  intro h r hh;simp only[IT.step] at hh⊢;split at hh
  ·rename_i h1;rw[hr _ _ _ h1];exact ih _ _ _ hh
  ·cases hh
 |callv g args k ih=>
  intro h r hh;simp only[IT.step] at hh⊢;split at hh
  ·rename_i f a ht;split at hh
   ·rename_i h1;simp only[hr _ _ _ h1];exact ih _ _ _ hh
   ·cases hh
  ·cases hh
 |pcall f args k ih=>
  intro h r hh;simp only[IT.step] at hh⊢;split at hh
  ·rename_i hfl;rw[if_pos hfl];split at hh
   ·rename_i h1;rw[hr _ _ _ h1];split at hh
    ·rename_i hf2;simp only[hf2,if_true];exact ih _ _ _ hh
    ·cases hh
   ·cases hh
  ·cases hh
 |loop key init body k ihb ihk=>
  intro h r hh;simp only[IT.step] at hh⊢;split at hh
  ·rename_i h1;rw[ihb _ _ _ h1];exact hr _ _ _ hh
  ·rename_i x vs h1 hne hx;rw[ihb _ _ _ hx];cases x<;>first|exact ihk _ _ _ _ hh|exact absurd rfl hne
  ·cases hh
 |join key t k iht ihk=>
  intro h r hh;simp only[IT.step] at hh⊢;split at hh
  ·rename_i h1;rw[iht _ _ h1];exact ihk _ _ _ _ hh
  ·cases hh
 |same a b k ih=>
  intro h r hh;simp only[IT.step] at hh⊢;split at hh
  ·rename_i hc;rw[if_pos hc];exact ih _ _ hh
  ·cases hh
 |mnew k ih=>intro h r hh;simp only[IT.step] at hh⊢;exact ih _ _ _ hh
 |mset m key v k ih=>
  intro h r hh;simp only[IT.step] at hh⊢;split at hh
  ·exact ih _ _ hh
  ·cases hh
 |mget z ok m key k ih=>
  intro h r hh;simp only[IT.step] at hh⊢;split at hh
  ·exact ih _ _ _ hh
  ·cases hh
 |make size bytes zero len cap k ih=>
  intro h r hh;simp only[IT.step] at hh⊢;split at hh
  ·exact ih _ _ _ hh
  ·cases hh
 |objOf size bytes s x k ih=>
  intro h r hh;simp only[IT.step] at hh⊢;split at hh
  ·exact ih _ _ _ hh
  ·cases hh
 |bytesObj s k ih=>
  intro h r hh;simp only[IT.step] at hh⊢;split at hh
  ·exact ih _ _ _ hh
  ·cases hh
 |frz v k ih=>
  intro h r hh;simp only[IT.step] at hh⊢;split at hh
  ·exact ih _ _ _ hh
  ·cases hh
 |frzAt off p k ih=>
  intro h r hh;simp only[IT.step] at hh⊢;split at hh
  ·exact ih _ _ hh
  ·cases hh
 |grow size bytes s x k ih=>
  intro h r hh;simp only[IT.step] at hh⊢;split at hh
  ·exact ih _ _ _ hh
  ·cases hh
 |appendM size bytes s x k ih=>
  intro h r hh;simp only[IT.step] at hh⊢;split at hh
  ·exact ih _ _ _ hh
  ·cases hh
 |mem o args k ih=>
  intro h r hh;simp only[IT.step] at hh⊢;split at hh
  ·exact ih _ _ _ hh
  ·cases hh
 |qcall f args k ih=>
  intro h r hh;simp only[IT.step] at hh⊢;split at hh
  ·rename_i h1;rw[hr _ _ _ h1];split at hh
   ·rename_i hf2;simp only[hf2,if_true];exact ih _ _ _ hh
   ·cases hh
  ·cases hh
theorem IT.run_succ {fn:FuncId→List AVal→IT}:∀(n:Nat) (t:IT) (h:AHeap) (r:Res),IT.run fn n t h=some r→IT.run fn (n+1) t h=some r:=by
 intro n
 induction n with
 |zero=>intro t h r hh;simp[IT.run] at hh
 |succ n ih=>intro t h r hh;exact IT.step_mono (λt h r=>ih t h r) t h r hh
theorem IT.run_le {fn:FuncId→List AVal→IT} {n m:Nat} (hnm:n≤m) {t:IT} {h:AHeap} {r:Res} (hh:IT.run fn n t h=some r):IT.run fn m t h=some r:=by
 induction hnm with
 |refl=>exact hh
 |step _ ih=>exact IT.run_succ _ _ _ _ ih
abbrev Post:=AExit→List AVal→AHeap→Prop
def W (C:Ctx) (t:IT) (Q:Post) (h:AHeap):Prop:=∃n x vs h',C.run n t h=some (x,vs,h')∧Q x vs h'
section
variable {C:Ctx} {Q:Post} {h:AHeap}
theorem W.mono {t:IT} {Q':Post} (hw:W C t Q h) (hq:∀x vs h',Q x vs h'→Q' x vs h'):W C t Q' h:=
 let⟨n,x,vs,h',hr,q⟩:=hw;⟨n,x,vs,h',hr,hq _ _ _ q⟩
theorem W_ret {x:AExit} {vs:List AVal} (hq:Q x vs h):W C (.ret x vs) Q h:=⟨1,x,vs,h,rfl,hq⟩
theorem W_succ {t:IT} (hh:∃n x vs h',IT.step (afun C) (C.run n) t h=some (x,vs,h')∧Q x vs h'):W C t Q h:=
 let⟨n,x,vs,h',hr,q⟩:=hh;⟨n+1,x,vs,h',hr,q⟩
theorem W.succ {t:IT} (hh:W C t Q h):∃n x vs h',IT.step (afun C) (C.run n) t h=some (x,vs,h')∧Q x vs h':=by
 obtain⟨n,x,vs,h',hr,q⟩:=hh
 cases n with
 |zero=>simp[Ctx.run,IT.run] at hr
 |succ n=>exact⟨n,x,vs,h',hr,q⟩
theorem W_op {o:POp} {args:List AVal} {k:AVal→IT} {v:AVal} (hv:peval o args=some v) (hw:W C (k v) Q h):W C (.op o args k) Q h:=by obtain⟨n,x,vs,h',hr,q⟩:=hw.succ;exact W_succ ⟨n,x,vs,h',by simp only[IT.step,hv];exact hr,q⟩
theorem W_cells {n:Nat} {v:AVal} {k:List AVal→IT} (hv:v.cells.length=n) (hw:W C (k v.cells) Q h):W C (.cells n v k) Q h:=by obtain⟨m,x,vs,h',hr,q⟩:=hw.succ;exact W_succ ⟨m,x,vs,h',by simp only[IT.step,hv,if_true];exact hr,q⟩
theorem W_cnd {b:Bool} {t e:IT} (ht:b=true→W C t Q h) (he:b=false→W C e Q h):W C (.cnd (.bool b) t e) Q h:=by
 cases b with
 |true=>obtain⟨m,x,vs,h',hr,q⟩:=(ht rfl).succ;exact W_succ ⟨m,x,vs,h',by simp only[IT.step];exact hr,q⟩
 |false=>obtain⟨m,x,vs,h',hr,q⟩:=(he rfl).succ;exact W_succ ⟨m,x,vs,h',by simp only[IT.step];exact hr,q⟩
theorem W_load {n:Option Nat} {p v:AVal} {k:AVal→IT} (hv:hload h n p=some v) (hw:W C (k v) Q h):W C (.load n p k) Q h:=by obtain⟨m,x,vs,h',hr,q⟩:=hw.succ;exact W_succ ⟨m,x,vs,h',by simp only[IT.step,hv];exact hr,q⟩
theorem W_store {n:Nat} {p v:AVal} {k:IT} {h1:AHeap} (hv:hstore h n p v=some h1) (hw:W C k Q h1):W C (.store n p v k) Q h:=by obtain⟨m,x,vs,h',hr,q⟩:=hw.succ;exact W_succ ⟨m,x,vs,h',by simp only[IT.step,hv];exact hr,q⟩
theorem W_alloc {n:Nat} {v:AVal} {k:AVal→IT} (hv:v.cells.length=n) (hw:W C (k (.ptr (some (h.length,0)))) Q (h++[.cells v.cells])):W C (.alloc n v k) Q h:=by obtain⟨m,x,vs,h',hr,q⟩:=hw.succ;exact W_succ ⟨m,x,vs,h',by simp only[IT.step,halloc,hv,if_true];exact hr,q⟩
theorem W_same {a b:AVal} {k:IT} (hv:AVal.beq a b=true) (hw:W C k Q h):W C (.same a b k) Q h:=by obtain⟨m,x,vs,h',hr,q⟩:=hw.succ;exact W_succ ⟨m,x,vs,h',by simp only[IT.step,hv,if_true];exact hr,q⟩
theorem W_mnew {k:AVal→IT} (hw:W C (k (.map (some h.length))) Q (h++[.map []])):W C (.mnew k) Q h:=by obtain⟨m,x,vs,h',hr,q⟩:=hw.succ;exact W_succ ⟨m,x,vs,h',by simp only[IT.step];exact hr,q⟩
theorem W_mset {m key v:AVal} {k:IT} {h1:AHeap} (hv:hmset h m key v=some h1) (hw:W C k Q h1):W C (.mset m key v k) Q h:=by obtain⟨n,x,vs,h',hr,q⟩:=hw.succ;exact W_succ ⟨n,x,vs,h',by simp only[IT.step,hv];exact hr,q⟩
theorem W_mget {z:AVal} {ok:Bool} {m key v:AVal} {k:AVal→IT} (hv:hmget h z ok m key=some v) (hw:W C (k v) Q h):W C (.mget z ok m key k) Q h:=by obtain⟨n,x,vs,h',hr,q⟩:=hw.succ;exact W_succ ⟨n,x,vs,h',by simp only[IT.step,hv];exact hr,q⟩
theorem W_make {size bytes:Nat} {zero:List AVal} {len cap v:AVal} {k:AVal→IT} {h1:AHeap} (hv:hmake h size bytes zero len cap=some (h1,v)) (hw:W C (k v) Q h1):W C (.make size bytes zero len cap k) Q h:=by obtain⟨n,x,vs,h',hr,q⟩:=hw.succ;exact W_succ ⟨n,x,vs,h',by simp only[IT.step,hv];exact hr,q⟩
theorem W_objOf {size bytes:Nat} {s x v:AVal} {k:AVal→IT} {h1:AHeap} (hv:hobjOf h size bytes s x=some (h1,v)) (hw:W C (k v) Q h1):W C (.objOf size bytes s x k) Q h:=by obtain⟨n,x,vs,h',hr,q⟩:=hw.succ;exact W_succ ⟨n,x,vs,h',by simp only[IT.step,hv];exact hr,q⟩
theorem W_bytesObj {s v:AVal} {k:AVal→IT} {h1:AHeap} (hv:hbytesObj h s=some (h1,v)) (hw:W C (k v) Q h1):W C (.bytesObj s k) Q h:=by obtain⟨n,x,vs,h',hr,q⟩:=hw.succ;exact W_succ ⟨n,x,vs,h',by simp only[IT.step,hv];exact hr,q⟩
theorem W_frz {u v:AVal} {k:AVal→IT} {h1:AHeap} (hv:hfrz h u=some (h1,v)) (hw:W C (k v) Q h1):W C (.frz u k) Q h:=by obtain⟨n,x,vs,h',hr,q⟩:=hw.succ;exact W_succ ⟨n,x,vs,h',by simp only[IT.step,hv];exact hr,q⟩
theorem W_frzAt {off:Nat} {p:AVal} {k:IT} {h1:AHeap} (hv:hfrzAt h off p=some h1) (hw:W C k Q h1):W C (.frzAt off p k) Q h:=by obtain⟨n,x,vs,h',hr,q⟩:=hw.succ;exact W_succ ⟨n,x,vs,h',by simp only[IT.step,hv];exact hr,q⟩
theorem W_grow {size bytes:Nat} {s x v:AVal} {k:AVal→IT} {h1:AHeap} (hv:hgrow h size bytes s x=some (h1,v)) (hw:W C (k v) Q h1):W C (.grow size bytes s x k) Q h:=by obtain⟨n,x,vs,h',hr,q⟩:=hw.succ;exact W_succ ⟨n,x,vs,h',by simp only[IT.step,hv];exact hr,q⟩
theorem W_appendM {size bytes:Nat} {s x v:AVal} {k:AVal→IT} (hv:happM h size bytes s x=some v) (hw:W C (k v) Q h):W C (.appendM size bytes s x k) Q h:=by obtain⟨n,x,vs,h',hr,q⟩:=hw.succ;exact W_succ ⟨n,x,vs,h',by simp only[IT.step,hv];exact hr,q⟩
theorem W_mem {o:MOp} {args:List AVal} {v:AVal} {k:AVal→IT} {h1:AHeap} (hv:meval o h args=some (h1,v)) (hw:W C (k v) Q h1):W C (.mem o args k) Q h:=by obtain⟨n,x,vs,h',hr,q⟩:=hw.succ;exact W_succ ⟨n,x,vs,h',by simp only[IT.step,hv];exact hr,q⟩
def Ev (C:Ctx) (f:FuncId) (args:List AVal) (h:AHeap) (R:AVal→AHeap→Prop):Prop:=
 W C (afun C f args) (λx vs h'=>x= .ret∧∃r,vs=[r]∧R r h') h
theorem Ev.mono {f:FuncId} {args:List AVal} {R R':AVal→AHeap→Prop} (hw:Ev C f args h R) (hr:∀r h',R r h'→R' r h'):Ev C f args h R':=
 W.mono hw λ_ _ _ ⟨hx,r,hv,hR⟩=>⟨hx,r,hv,hr _ _ hR⟩
theorem W_call {f:FuncId} {args:List AVal} {k:AVal→IT} (hc:Ev C f args h λr h1=>W C (k r) Q h1):W C (.call f args k) Q h:=by obtain⟨n,x,vs,h1,hr,hx,r,hv,m,x',vs',h',hr',q⟩:=hc;subst hx;subst hv;refine W_succ ⟨max n m,x',vs',h',?_,q⟩;have h1':=IT.run_le (Nat.le_max_left n m) hr;have h2:=IT.run_le (Nat.le_trans (Nat.le_max_right n m) (Nat.le_succ _)) hr';simp only[IT.step];simp only[Ctx.run] at*;rw[h1'];exact h2
theorem W_pcall {f:FuncId} {args:List AVal} {k:AVal→IT} (ha:args.all AVal.flat=true) (hc:Ev C f args [] λr _=>r.flat=true∧W C (k r) Q h):W C (.pcall f args k) Q h:=by obtain⟨n,x,vs,h1,hr,hx,r,hv,hfl,m,x',vs',h',hr',q⟩:=hc;subst hx;subst hv;refine W_succ ⟨max n m,x',vs',h',?_,q⟩;have h1':=IT.run_le (Nat.le_max_left n m) hr;have h2:=IT.run_le (Nat.le_trans (Nat.le_max_right n m) (Nat.le_succ _)) hr';simp only[IT.step,ha,if_true];simp only[Ctx.run] at*;rw[h1'];simp only[hfl,if_true];exact h2
theorem W_join {key:Nat} {t:IT} {k:AExit→List AVal→IT} (hw:W C t (λx vs h1=>W C (k x vs) Q h1) h):W C (.join key t k) Q h:=by obtain⟨n,x,vs,h1,hr,hw'⟩:=hw.succ;obtain⟨m,x',vs',h',hr',q⟩:=hw'.succ;refine W_succ ⟨max n m,x',vs',h',?_,q⟩;have e1:=IT.step_mono (λt h r=>IT.run_le (fn:=afun C) (Nat.le_max_left n m)) _ _ _ hr;have e2:=IT.step_mono (λt h r=>IT.run_le (fn:=afun C) (Nat.le_max_right n m)) _ _ _ hr';simp only[IT.step];simp only[Ctx.run] at*;rw[e1];exact e2
end
end Go.Am
end
