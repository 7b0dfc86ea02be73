/- Lemmas -/
import Derived.Test.YtdbnpiefklklhaaGreatDoorH16
import Derived.Shelf.SlMaps.Equal
set_option linter.all false
section
namespace Go.Am
set_option maxRecDepth 100000
open Go Go.RowKit Go.Shelf Go.Maps
end Go.Am
namespace Go.Proofs
open Go.Shelf
def Tryz.zm:Go.Shelf.Ren:=⟨λ|6=>92|n=>n,λ|23=>129|24=>129|26=>3|27=>3|36=>203|n=>n,λn=>n⟩
def Tryz.eqM:SlLaysEq.n6 Tryz.prog Tryz.zm:={
 mixed:=AA
 f6:=⟨ "maps.Equal[map[int]int,map[int]int,int,int]",by decide,Tryz.func92.trans (B2 some (by kernel_rfl))⟩
 t0:=Tryz.underlying0
 a0:=Tryz.isAgg0
 z0:=Tryz.sizeOf0
 v0:=Tryz.zeroValue0
 t3:=Tryz.underlying3
 a3:=Tryz.isAgg3
 z3:=Tryz.sizeOf3
 v3:=Tryz.zeroValue3
 t4:=Tryz.underlying4
 a4:=Tryz.isAgg4
 z4:=Tryz.sizeOf4
 v4:=Tryz.zeroValue4
 t23:=Tryz.underlying129
 a23:=Tryz.isAgg129
 z23:=Tryz.sizeOf129
 v23:=Tryz.zeroValue129
 t24:=Tryz.underlying129
 a24:=Tryz.isAgg129
 z24:=Tryz.sizeOf129
 v24:=Tryz.zeroValue129
 a26:=Tryz.isAgg3
 z26:=Tryz.sizeOf3
 a27:=Tryz.isAgg3
 z27:=Tryz.sizeOf3
 t36:=Tryz.underlying203
 a36:=Tryz.isAgg203
 z36:=Tryz.sizeOf203}
end Go.Proofs
namespace Go.Am
open Go Go.RowKit Go.Shelf Go.Maps
section
variable{H:Type}{U:Gh}{h:Ai}{w:World}{l m:List (Int×Int)}{a b:Option Nat}{es:List (Aa×Aa)}
def gY(H:Type)(l:List (Int×Int)):List (Lit×DataW H):=l.map λp=>(.int .i64 p.1,.lit (.int .i64 p.2))
def aw(H:Type):Option Nat->List (Int×Int)->DataW H
 |none,_=> .nil
 |some _,l=> .map ((gY H l).foldr DataW.insert [])
def gZ:∀{es:List (Aa×Aa)} {l:List (Int×Int)},NN es=some l->es=l.map λp=>(.int .i64 p.1,.int .i64 p.2)
 |[],l,e=>by cases e;rfl
 |(k,v)::es,l,e=>by
  unfold NN at e;split at e;.rename_i h1;cases h1
  .rename_i h1;obtain⟨d,c,rfl⟩:=GN.1 e;cases h1;rw[gZ c];rfl
  .cases e
def nL(hn:(l.map (·.1)).Nodup):(gY H l).Pairwise λp q=>p.1≠q.1:=by unfold gY;rw[HC];rw[E7,HC] at hn;exact hn.imp λc e=>c (by injection e)
def Zj(ha:a=none->l=[]):Maps.size (aw H a l)=l.length:=by
 cases a with
 |none=>rw[ha rfl];rfl
 |some a=>show((gY H l).foldr DataW.insert []).length=_;rw[length_sorted];unfold gY;simp
def ax(hn:(l.map (·.1)).Nodup)(ha:a=none->l=[]){p:Int×Int}(hp:p∈l):Maps.has (aw H a l) (.int .i64 p.1)=true/\(aw H a l).atKey (.int .i64 p.1) .nil= .lit (.int .i64 p.2):=by
 cases a with
 |none=>rw[ha rfl] at hp;cases hp
 |some a=>have hm:((Lit.int .i64 p.1,DataW.lit (.int .i64 p.2)):Lit×DataW H)∈(gY H l).foldr DataW.insert []:=mem_sorted.2 (A4.2 ⟨p,hp,rfl⟩);have hap:((gY H l).foldr DataW.insert []).Pairwise λp q=>p.1≠q.1:=((WideShapes.sorted_perm _).pairwise_iff (λ{_ _} hne=>Dx hne)).2 (nL hn);exact⟨J0.2 ⟨_,hm,WideAt.sameKey_self trivial⟩,WideAt.atKey_mem .nil trivial hap hm⟩
def nM(ha:a=none->l=[])(hb:b=none->m=[])(hm:(m.map (·.1)).Nodup)(hs:O7 l m=true)(eqd:DataW H->DataW H->Bool)(he:∀v,eqd (.lit (.int .i64 v)) (.lit (.int .i64 v))=true):Lib.equalFuncD eqd (aw H a l) (aw H b m)=true:=by
 unfold O7 at hs;rw[AN] at hs;have h1:=Cq hs.1;unfold Lib.equalFuncD;rw[Zj ha,Zj hb,Al h1,Z5,Cg];intro p hp;cases a with
 |none=>cases hp
 |some a=>obtain⟨q,hq,rfl⟩:=A4.1 (mem_sorted.1 hp);obtain⟨g1,g2⟩:=ax (H:=H) hm hb (Cq (Cg.1 hs.2 q hq));unfold Lib.goodD;simp only[g1,g2,he,Bool.and_true]
def Zk:∀{l:List (Int×Int)} {es:List MapEntry},J8 U (l.map λp=>(.int .i64 p.1,.int .i64 p.2)) es->es.map (λe=>(e.key,e.val))=l.map λp=>(Value.int .i64 p.1,Value.int .i64 p.2)
 |[],es,e=>by rw[show es=[] from e];rfl
 |p::l,es,e=>by obtain⟨e0,T5,rfl,h1,h2,c⟩:=e;rw[A9,A9,Zk c,show e0.key=_ from h1,show e0.val=_ from h2]
def aFb{x:Int}(h:Yj x=true):(Lit.int .i64 x).wf=true:=by unfold Yj at h;simp only[AN,B0] at h;have d:IntKind.i64.min= -9223372036854775808:=rfl;have c:IntKind.i64.max=9223372036854775807:=rfl;simp[Lit.wf,d,c];omega
def hC{T:TypeId}(j:Proofs.Tryz.prog.underlying T=some (.int .i64))(hi:Hj U h w)(e:Wq h a=some l)(ok:Q0 l=true){v:Value}(hv:BF U (.map a) v):
  ∃p,v= .map p/\Proofs.SrcOf Proofs.Tryz.prog T (plainElem (H:=H) Proofs.Tryz.prog T) w p (aw H a l)/\(a=none->l=[]):=by
 cases a with
 |none=>cases e;exact⟨none,hv,.inl ⟨rfl,rfl⟩,λ_=>rfl⟩
 |some id=>
  obtain⟨b,hb,rfl⟩:=hv;refine⟨_,rfl,.inr ⟨b,l.length,rfl,?_⟩,λh=>nomatch h⟩;have e:(match h[id]? with|some (.map es)=>NN es|_=>none)=some l:=e;split at e
  .rename_i es QX;obtain⟨C7,clock,hw,hr,hc,c⟩:=hi.map id es QX b hb;have k:=gZ e;subst k;have g:=Zk hr;unfold Q0 at ok;simp only[AN,B0,Cg] at ok;have hlen:C7.size=l.length:=by have:=B2 List.length g;simpa using this
   have rdE:∀{x:MapEntry} {p:Int×Int},p∈l->x.key= .int .i64 p.1->x.val= .int .i64 p.2->WideElems.rd Proofs.Tryz.prog T (plainElem (H:=H) Proofs.Tryz.prog T) x=some (.int .i64 p.1,.lit (.int .i64 p.2)):=λ{x p} hp h1 h2=>by have hk:=Maps.keyOf_int_mk j (aFb (ok.2 p hp).1);have hd:=plainElem_int (H:=H) j (aFb (ok.2 p hp).2);unfold WideElems.rd;rw[h1,h2,hk,hd];rfl
   have at_:∀(i:Nat) (h:i<l.length),∃x,C7.toList[i]?=some x/\x.key= .int .i64 l[i].1/\x.val= .int .i64 l[i].2:=λi h=>by
    have h1:=B2 (λz=>z[i]?) g;simp only[Cd,As h,By] at h1;obtain⟨x,hx,Yl⟩:=GN.1 h1;injection Yl with f d
    exact⟨x,hx,f,d⟩
   have mem:∀x∈C7.toList,∃p∈l,x.key= .int .i64 p.1/\x.val= .int .i64 p.2:=λx hx=>by
    obtain⟨i,Uc,rfl⟩:=OB hx;have sL:i<l.length:=by simpa[hlen] using Uc
    obtain⟨y,hy,f,d⟩:=at_ i sL;rw[As Uc] at hy;cases hy;exact⟨_,AY sL,f,d⟩
   refine⟨C7,clock,hw,⟨by rw[hlen];have:=ok.1.1;unfold maxLen;omega,⟨λx hx=>?_,?_,?_⟩,λx hx=>?_⟩,Ab,?_⟩;.obtain⟨i,Uc,rfl⟩:=OB hx;have:=c i C7[i] (Ci (by simpa using Uc));simp only[aHQ];rw[this,hc];simpa using Uc
   .have:C7.toList.map (·.born)=List.range C7.size:=List.ext_getElem Ax λi h1 h2=>by simp only[ET,aHQ,List.getElem_range];exact c i _ (Ci (by simpa using h2))
    rw[this];exact List.nodup_range
   .have:C7.toList.map (·.key)=(l.map (·.1)).map (Value.int .i64):=by have h1:=B2 (List.map Prod.fst) g;simpa[aDF,Function.comp_def] using h1
    rw[this];exact List.Pairwise.map _ (λx y hne e=>hne (by injection e)) ok.1.2
   .obtain⟨p,hp,h1,h2⟩:=mem x hx;exact⟨_,rdE hp h1 h2⟩
   .refine B2 (λz:List (Lit×DataW H)=>DataW.map (z.foldr DataW.insert [])) (Eq.symm ?_);refine L7 λi=>?_;unfold gY;rw[Cd,Cd];rcases Bi i l.length with sL|sL
    .obtain⟨x,hx,f,d⟩:=at_ i sL;rw[hx,As sL,By,By,WideElems.rg_of (rdE (AY sL) f d)]
    .rw[C5 sL,C5 (by simp[hlen,sL])];rfl
  .cases e
def mr{H:Type}:DataW H->DataW H->Bool
 | .lit (.int _ x),.lit (.int _ y)=>x==y
 |_,_=>false
def zn{H:Type}(W:World)(x y:Value)(xd yd:DataW H)(xp c:List MemPlace)(hx:plainElem Proofs.Tryz.prog 3 x=some (xd,xp))(hy:plainElem Proofs.Tryz.prog 3 y=some (yd,c)):
  (binOp .neq 3 x y).run Proofs.Tryz.prog W= .ok (.bool (!mr xd yd)) W/\∀(a b:Operand),(eqGuard .neq 3 a b x y).run Proofs.Tryz.prog W= .ok () W:=by
 obtain⟨a,rfl,h1,_⟩:=plainElem_int_inv Proofs.Tryz.underlying3 hx;obtain⟨b,rfl,h2,_⟩:=plainElem_int_inv Proofs.Tryz.underlying3 hy;obtain rfl:xd= .lit (.int .i64 a):=by simpa using(B2 Prod.fst h1)
 obtain rfl:yd= .lit (.int .i64 b):=by simpa using(B2 Prod.fst h2)
 refine⟨?_,λ_ _=>by rw[eqGuard_at_int];rfl⟩;simp[go_sem,mr,binOp];rfl
def zo(n:Nat)(args:List Aa)(r:Aa)(h':Ai)(AI:IT.step (B4 cx) (IT.run (B4 cx) n) (Wt args) h=some (.ret,[r],h')):
  (∃fn c,cx.P.funcs[Ea 92]?=some fn/\(fn.name== "runtime.NumGoroutine")=false/\fn.body=some c)/\
  ∀(U:Gh) (w:World) (cargs:Array Value),Hj U h w->(∀g cs,cx.GC g=some cs->CQ U cs g 0)->AW U args cargs.toList->
   Calls cx.P (Ea 92) cargs w λe w'=>match e with
    | .returned v=>∃f,Hj f h' w'/\Lx U w f w'/\BF f r v/\(cx.I3 92=true->∃s c,IE f w.heap.size w' s c v r)
    |_=>False:=by
 refine⟨⟨_,_,Proofs.Tryz.func92,rfl,rfl⟩,λU w cargs hi hg ha=>?_⟩;simp only[Wt,IT.step,DS] at AI;cases e0:Ws h args with
 |none=>simp[e0] at AI
 |some q=>
 obtain⟨h1,u⟩:=q;simp only[e0] at AI;cases AI;unfold Ws at e0;split at e0
 .rename_i a b;split at e0
  .rename_i l m p em;split at e0
   .rename_i HW;cases e0;rw[AN,AN] at HW;obtain⟨t,Š,xe,jr,v2,lO,rfl,Qi,hnil⟩:=ha;cases hnil;obtain⟨p1,rfl,o,i⟩:=hC (H:=Unit) Proofs.Tryz.underlying3 hi p HW.1.1 jr;obtain⟨p2,rfl,j,z2⟩:=hC (H:=Unit) Proofs.Tryz.underlying3 hi em HW.1.2 Qi;have d:cargs=#[.map p1,.map p2]:=by apply Ge;simpa using xe
    subst d;have gV:=Proofs.AnyEq.maps_Equal_opt Proofs.Tryz.eqM (Maps.int_keyed Proofs.Tryz.underlying3) (plainElem Proofs.Tryz.prog 3) (plainElem Proofs.Tryz.prog 3) mr p1 p2 _ _ w o j (.int .i64 0) Proofs.Tryz.zeroValue3 (.lit (.int .i64 0)) [] (plainElem_int Proofs.Tryz.underlying3 AM) zn;have UQ:(m.map (·.1)).Nodup:=by have:=HW.1.2;unfold Q0 at this;simp only[AN,B0] at this;exact this.1.2
    rw[nM i z2 UQ HW.2 mr (λv=>by simp[mr])] at gV;refine gV.mono λe w' he=>?_;obtain⟨rfl,hb⟩:=he;obtain⟨Uc,RV⟩:=hi.KG ((Below.refl _ w).grown hb (Ae _) (λk hk=>nomatch hk));exact⟨U,Uc,RV,rfl,λe=>by cases e⟩
   .cases e0
  .cases e0
 .cases e0
end
end Go.Am
end
section
namespace Go.Am
open Go
def sM:aV cx:=by
 refine⟨λf hf=>?_,λf p hp n hs args h r h' AI=>?_⟩
 .simp only[cx,aET] at hf;split at hf;.exact aq
  .cases hf
 .simp only[cx,Ĝ] at hp;split at hp;.cases hp;exact aAa n hs args r h' AI
  .cases hp;exact zo n args r h' AI
  .cases hp;exact zj n args r h' AI
  .cases hp;exact zh n hs args r h' AI
  .cases hp
end Go.Am
end
