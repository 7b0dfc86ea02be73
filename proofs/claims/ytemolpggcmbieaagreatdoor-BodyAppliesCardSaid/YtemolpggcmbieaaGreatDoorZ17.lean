/- Lemmas -/
import Derived.Test.YtemolpggcmbieaaGreatDoorZ16
import Derived.Shelf.SlMaps.Equal
set_option linter.all false
section
namespace Go.Am
set_option maxRecDepth 100000
open Go Go.RowKit Go.Shelf Go.Maps
end Go.Am
namespace Go.Proofs
open Go.Shelf
def Tryz.zn:Go.Shelf.Ren:=⟨λ|6=>88|n=>n,λ|23=>125|24=>125|26=>3|27=>3|36=>200|n=>n,λn=>n⟩
def Tryz.eqM:SlLaysEq.n6 Tryz.prog Tryz.zn:={
 mixed:=AF
 f6:=⟨ "maps.Equal[map[int]int,map[int]int,int,int]",by decide,Tryz.func88.trans (B5 some (by kernel_rfl))⟩
 t0:=Tryz.underlying0
 a0:=Tryz.isAgg0
 z0:=Tryz.sizeOf0
 v0:=Tryz.zeroValue0
 t3:=Tryz.underlying3
 a3:=Tryz.isAgg3
 z3:=Tryz.sizeOf3
 v3:=Tryz.zeroValue3
 t4:=Tryz.underlying4
 a4:=Tryz.isAgg4
 z4:=Tryz.sizeOf4
 v4:=Tryz.zeroValue4
 t23:=Tryz.underlying125
 a23:=Tryz.isAgg125
 z23:=Tryz.sizeOf125
 v23:=Tryz.zeroValue125
 t24:=Tryz.underlying125
 a24:=Tryz.isAgg125
 z24:=Tryz.sizeOf125
 v24:=Tryz.zeroValue125
 a26:=Tryz.isAgg3
 z26:=Tryz.sizeOf3
 a27:=Tryz.isAgg3
 z27:=Tryz.sizeOf3
 t36:=Tryz.underlying200
 a36:=Tryz.isAgg200
 z36:=Tryz.sizeOf200}
end Go.Proofs
namespace Go.Am
open Go Go.RowKit Go.Shelf Go.Maps
section
variable{H:Type}{U:Gh}{h:Ah}{w:World}{l m:List (Int×Int)}{a b:Option Nat}{es:List (Aa×Aa)}
def hC(H:Type)(l:List (Int×Int)):List (Lit×DataW H):=l.map λp=>(.int .i64 p.1,.lit (.int .i64 p.2))
def ay(H:Type):Option Nat->List (Int×Int)->DataW H
 |none,_=> .nil
 |some _,l=> .map ((hC H l).foldr DataW.insert [])
def hZ:∀{es:List (Aa×Aa)} {l:List (Int×Int)},NV es=some l->es=l.map λp=>(.int .i64 p.1,.int .i64 p.2)
 |[],l,e=>by cases e;rfl
 |(k,v)::es,l,e=>by
  unfold NV at e;split at e;.rename_i h1;cases h1
  .rename_i h1;obtain⟨d,c,rfl⟩:=IL.1 e;cases h1;rw[hZ c];rfl
  .cases e
def nC(hn:(l.map (·.1)).Nodup):(hC H l).Pairwise λp q=>p.1≠q.1:=by unfold hC;rw[HC];rw[Fb,HC] at hn;exact hn.imp λc e=>c (by injection e)
def Zj(ha:a=none->l=[]):Maps.size (ay H a l)=l.length:=by
 cases a with
 |none=>rw[ha rfl];rfl
 |some a=>show((hC H l).foldr DataW.insert []).length=_;rw[length_sorted];unfold hC;simp
def az(hn:(l.map (·.1)).Nodup)(ha:a=none->l=[]){p:Int×Int}(hp:p∈l):Maps.has (ay H a l) (.int .i64 p.1)=true/\(ay H a l).atKey (.int .i64 p.1) .nil= .lit (.int .i64 p.2):=by
 cases a with
 |none=>rw[ha rfl] at hp;cases hp
 |some a=>have hm:((Lit.int .i64 p.1,DataW.lit (.int .i64 p.2)):Lit×DataW H)∈(hC H l).foldr DataW.insert []:=mem_sorted.2 (AZ.2 ⟨p,hp,rfl⟩);have hap:((hC H l).foldr DataW.insert []).Pairwise λp q=>p.1≠q.1:=((WideShapes.sorted_perm _).pairwise_iff (λ{_ _} hne=>Dr hne)).2 (nC hn);exact⟨Ka.2 ⟨_,hm,WideAt.sameKey_self trivial⟩,WideAt.atKey_mem .nil trivial hap hm⟩
def nD(ha:a=none->l=[])(hb:b=none->m=[])(hm:(m.map (·.1)).Nodup)(hs:Pe l m=true)(eqd:DataW H->DataW H->Bool)(he:∀v,eqd (.lit (.int .i64 v)) (.lit (.int .i64 v))=true):Lib.equalFuncD eqd (ay H a l) (ay H b m)=true:=by
 unfold Pe at hs;rw[AO] at hs;have h1:=HE hs.1;unfold Lib.equalFuncD;rw[Zj ha,Zj hb,Al h1,Z0,CK];intro p hp;cases a with
 |none=>cases hp
 |some a=>obtain⟨q,hq,rfl⟩:=AZ.1 (mem_sorted.1 hp);obtain⟨g1,g2⟩:=az (H:=H) hm hb (HE (CK.1 hs.2 q hq));unfold Lib.goodD;simp only[g1,g2,he,Bool.and_true]
def Zk:∀{l:List (Int×Int)} {es:List MapEntry},Kk U (l.map λp=>(.int .i64 p.1,.int .i64 p.2)) es->es.map (λe=>(e.key,e.val))=l.map λp=>(Value.int .i64 p.1,Value.int .i64 p.2)
 |[],es,e=>by rw[show es=[] from e];rfl
 |p::l,es,e=>by obtain⟨e0,T2,rfl,h1,h2,c⟩:=e;rw[A0,A0,Zk c,show e0.key=_ from h1,show e0.val=_ from h2]
def aFd{x:Int}(h:Yo x=true):(Lit.int .i64 x).wf=true:=by unfold Yo at h;simp only[AO,B4] at h;have d:IntKind.i64.min= -9223372036854775808:=rfl;have c:IntKind.i64.max=9223372036854775807:=rfl;simp[Lit.wf,d,c];omega
def iA{T:TypeId}(j:Proofs.Tryz.prog.underlying T=some (.int .i64))(hi:Hi U h w)(e:Wu h a=some l)(ok:Q0 l=true){v:Value}(hv:BI U (.map a) v):
  ∃p,v= .map p/\Proofs.SrcOf Proofs.Tryz.prog T (plainElem (H:=H) Proofs.Tryz.prog T) w p (ay H a l)/\(a=none->l=[]):=by
 cases a with
 |none=>cases e;exact⟨none,hv,.inl ⟨rfl,rfl⟩,λ_=>rfl⟩
 |some id=>
  obtain⟨b,hb,rfl⟩:=hv;refine⟨_,rfl,.inr ⟨b,l.length,rfl,?_⟩,λh=>nomatch h⟩;have e:(match h[id]? with|some (.map es)=>NV es|_=>none)=some l:=e;split at e
  .rename_i es QX;obtain⟨C5,clock,hw,hr,hc,c⟩:=hi.map id es QX b hb;have k:=hZ e;subst k;have g:=Zk hr;unfold Q0 at ok;simp only[AO,B4,CK] at ok;have hlen:C5.size=l.length:=by have:=B5 List.length g;simpa using this
   have rdE:∀{x:MapEntry} {p:Int×Int},p∈l->x.key= .int .i64 p.1->x.val= .int .i64 p.2->WideElems.rd Proofs.Tryz.prog T (plainElem (H:=H) Proofs.Tryz.prog T) x=some (.int .i64 p.1,.lit (.int .i64 p.2)):=λ{x p} hp h1 h2=>by have hk:=Maps.keyOf_int_mk j (aFd (ok.2 p hp).1);have hd:=plainElem_int (H:=H) j (aFd (ok.2 p hp).2);unfold WideElems.rd;rw[h1,h2,hk,hd];rfl
   have at_:∀(i:Nat) (h:i<l.length),∃x,C5.toList[i]?=some x/\x.key= .int .i64 l[i].1/\x.val= .int .i64 l[i].2:=λi h=>by
    have h1:=B5 (λz=>z[i]?) g;simp only[Cg,Au h,Bt] at h1;obtain⟨x,hx,Yq⟩:=IL.1 h1;injection Yq with f d
    exact⟨x,hx,f,d⟩
   have mem:∀x∈C5.toList,∃p∈l,x.key= .int .i64 p.1/\x.val= .int .i64 p.2:=λx hx=>by
    obtain⟨i,T9,rfl⟩:=OJ hx;have sE:i<l.length:=by simpa[hlen] using T9
    obtain⟨y,hy,f,d⟩:=at_ i sE;rw[Au T9] at hy;cases hy;exact⟨_,A5 sE,f,d⟩
   refine⟨C5,clock,hw,⟨by rw[hlen];have:=ok.1.1;unfold maxLen;omega,⟨λx hx=>?_,?_,?_⟩,λx hx=>?_⟩,Ac,?_⟩;.obtain⟨i,T9,rfl⟩:=OJ hx;have:=c i C5[i] (Cm (by simpa using T9));simp only[aHV];rw[this,hc];simpa using T9
   .have:C5.toList.map (·.born)=List.range C5.size:=List.ext_getElem Ax λi h1 h2=>by simp only[EV,aHV,List.getElem_range];exact c i _ (Cm (by simpa using h2))
    rw[this];exact List.nodup_range
   .have:C5.toList.map (·.key)=(l.map (·.1)).map (Value.int .i64):=by have h1:=B5 (List.map Prod.fst) g;simpa[aDI,Function.comp_def] using h1
    rw[this];exact List.Pairwise.map _ (λx y hne e=>hne (by injection e)) ok.1.2
   .obtain⟨p,hp,h1,h2⟩:=mem x hx;exact⟨_,rdE hp h1 h2⟩
   .refine B5 (λz:List (Lit×DataW H)=>DataW.map (z.foldr DataW.insert [])) (Eq.symm ?_);refine L7 λi=>?_;unfold hC;rw[Cg,Cg];rcases Bk i l.length with sE|sE
    .obtain⟨x,hx,f,d⟩:=at_ i sE;rw[hx,Au sE,Bt,Bt,WideElems.rg_of (rdE (A5 sE) f d)]
    .rw[C4 sE,C4 (by simp[hlen,sE])];rfl
  .cases e
def mq{H:Type}:DataW H->DataW H->Bool
 | .lit (.int _ x),.lit (.int _ y)=>x==y
 |_,_=>false
def zo{H:Type}(W:World)(x y:Value)(xd yd:DataW H)(xp c:List MemPlace)(hx:plainElem Proofs.Tryz.prog 3 x=some (xd,xp))(hy:plainElem Proofs.Tryz.prog 3 y=some (yd,c)):
  (binOp .neq 3 x y).run Proofs.Tryz.prog W= .ok (.bool (!mq xd yd)) W/\∀(a b:Operand),(eqGuard .neq 3 a b x y).run Proofs.Tryz.prog W= .ok () W:=by
 obtain⟨a,rfl,h1,_⟩:=plainElem_int_inv Proofs.Tryz.underlying3 hx;obtain⟨b,rfl,h2,_⟩:=plainElem_int_inv Proofs.Tryz.underlying3 hy;obtain rfl:xd= .lit (.int .i64 a):=by simpa using(B5 Prod.fst h1)
 obtain rfl:yd= .lit (.int .i64 b):=by simpa using(B5 Prod.fst h2)
 refine⟨?_,λ_ _=>by rw[eqGuard_at_int];rfl⟩;simp[go_sem,mq,binOp];rfl
def zq(n:Nat)(args:List Aa)(r:Aa)(h':Ah)(AG:IT.step (B7 cx) (IT.run (B7 cx) n) (Ww args) h=some (.ret,[r],h')):
  (∃fn c,cx.P.funcs[Ec 88]?=some fn/\(fn.name== "runtime.NumGoroutine")=false/\fn.body=some c)/\
  ∀(U:Gh) (w:World) (cargs:Array Value),Hi U h w->(∀g cs,cx.Gy g=some cs->CP U cs g 0)->AV U args cargs.toList->
   Calls cx.P (Ec 88) cargs w λe w'=>match e with
    | .returned v=>∃f,Hi f h' w'/\LB U w f w'/\BI f r v/\(cx.I9 88=true->∃s c,IF f w.heap.size w' s c v r)
    |_=>False:=by
 refine⟨⟨_,_,Proofs.Tryz.func88,rfl,rfl⟩,λU w cargs hi hg ha=>?_⟩;simp only[Ww,IT.step,DC] at AG;cases e0:Wv h args with
 |none=>simp[e0] at AG
 |some q=>
 obtain⟨h1,u⟩:=q;simp only[e0] at AG;cases AG;unfold Wv at e0;split at e0
 .rename_i a b;split at e0
  .rename_i l m p em;split at e0
   .rename_i Kd;cases e0;rw[AO,AO] at Kd;obtain⟨t,Ţ,xe,jq,v2,lF,rfl,Qv,hnil⟩:=ha;cases hnil;obtain⟨p1,rfl,o,i⟩:=iA (H:=Unit) Proofs.Tryz.underlying3 hi p Kd.1.1 jq;obtain⟨p2,rfl,j,z2⟩:=iA (H:=Unit) Proofs.Tryz.underlying3 hi em Kd.1.2 Qv;have d:cargs=#[.map p1,.map p2]:=by apply Gf;simpa using xe
    subst d;have gX:=Proofs.AnyEq.maps_Equal_opt Proofs.Tryz.eqM (Maps.int_keyed Proofs.Tryz.underlying3) (plainElem Proofs.Tryz.prog 3) (plainElem Proofs.Tryz.prog 3) mq p1 p2 _ _ w o j (.int .i64 0) Proofs.Tryz.zeroValue3 (.lit (.int .i64 0)) [] (plainElem_int Proofs.Tryz.underlying3 AI) zo;have UQ:(m.map (·.1)).Nodup:=by have:=Kd.1.2;unfold Q0 at this;simp only[AO,B4] at this;exact this.1.2
    rw[nD i z2 UQ Kd.2 mq (λv=>by simp[mq])] at gX;refine gX.mono λe w' he=>?_;obtain⟨rfl,hb⟩:=he;obtain⟨T9,RT⟩:=hi.KU ((Below.refl _ w).grown hb (Ab _) (λk hk=>nomatch hk));exact⟨U,T9,RT,rfl,λe=>by cases e⟩
   .cases e0
  .cases e0
 .cases e0
end
end Go.Am
end
section
namespace Go.Am
open Go
def zr:aS cx:=by
 refine⟨λf hf=>?_,λf p hp n hs args h r h' AG=>?_⟩
 .simp only[cx,aEV] at hf;split at hf;.exact aw
  .cases hf
 .simp only[cx,ğ] at hp;split at hp;.cases hp;exact aAb n hs args r h' AG
  .cases hp;exact zq n args r h' AG
  .cases hp;exact zj n args r h' AG
  .cases hp;exact zh n hs args r h' AG
  .cases hp
end Go.Am
end
