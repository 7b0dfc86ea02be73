/- Lemmas -/
import Derived.Test.YtgmhlaiafgkmeaaGreatDoorN18
set_option linter.all false
section
namespace Go.Am
open Go
set_option maxRecDepth 100000
section
section
variable{U:Type}{z:Nat}
def O1{Ac:List (List U)}(h:∀r∈Ac,r.length=z):Ac.flatten.length=Ac.length*z:=by
 induction Ac with
 |nil=>simp
 |cons q Ac ih=>rw[BT,An,h q (by simp),ih λr hr=>h r (by simp[hr]),AF,AI];omega
def M9{Ac:List (List U)}(h:∀r∈Ac,r.length=z):∀{k:Nat},Ac.flatten.drop (k*z)=(Ac.drop k).flatten:=by
 induction Ac with
 |nil=>intro k;simp
 |cons q Ac ih=>
  intro k;have hq:=h q (by simp);cases k with
  |zero=>simp
  |succ k=>rw[BT,AI,Fo,Kr,Qy,Bv (by omega),hq,Nat.add_sub_cancel_left,ih λr hr=>h r (by simp[hr])];simp
def SF{Ac:List (List Aa)}(h:∀r∈Ac,r.length=z):∀{n off:Nat},off+n<=Ac.length->A8 Ac.flatten z (off*z) n=(Ac.drop off).take n:=by
 intro n;induction n with
 |zero=>intro off _;simp[A8]
 |succ n ih=>
  intro off hl;rw[A8];have e:off*z+z=(off+1)*z:=by rw[AI,Fo]
  rw[e,ih (by omega),M9 h];have hlt:off<Ac.length:=by omega
  rw[Bs hlt,BT,RT (by rw[h _ (Gp hlt)];exact Ap _),AS (by rw[h _ (Gp hlt)];exact Ap _),Hk]
def UA{Ac:List (List Aa)}(h:∀r∈Ac,r.length=z):A8 Ac.flatten z 0 Ac.length=Ac:=by have:=SF h (n:=Ac.length) (off:=0) (by omega);simpa using this
end
section
variable{h:Ab}{id z n:Nat}{Ac:List (List Aa)}
def SG(hr:∀r∈Ac,r.length=z)(hc:h[id]?=some (.cells Ac.flatten)):IB h (.EG id 0 Ac.length z)=some (h.set id .Ec,.sl z Ac):=by unfold IB;simp only[hc,AL];rw[if_pos (by rw[O1 hr];exact Ap _),UA hr]
def Na{k:IntKind}{i:Nat}(hi:i<n):AA (.Hn z) [.EG id 0 n z,.int k (i:Int)]=some (.ptr (some (id,i*z))):=by
 have:F0 (i:Int) n=some i:=by unfold F0;rw[if_pos (by omega)];rfl
 simp[AA,elemOf,this]
def UB{U:Type}{f:U->List Aa}(hf:∀a,(f a).length=z)(l:List U):∀r∈l.map f,r.length=z:=by intro r h;obtain⟨a,_,rfl⟩:=Ay.1 h;exact hf a
end
end
section
section
end
def GF:List Ag:=[[100,100],[100,116],[108,105],mb,mh,[112],[114,98],[114,112],[114,116],oc]
def Kl:List Ag:=[ma,mz,mq,[116,100],mo,[116,104],mr,[116,114]]
def G9:List Ag:=[[109,105],[109,110],[109,111],[109,115],[109,116,101,120,116]]
def Nb:List Ag:=[nu,lf,mf]
section
end
def DW(k:Int)(s:Ag):Bool:=
 if k=3 then decide (s=kx\/s∈G9) else if k=2 then decide (s∈Nb) else if k=1 then decide (s∈JI) else false
def sw(s:Ag)(t e:IT):List Ag->IT
 |[]=>e
 |c::cs=> .op (.str .eql) [.str s,.str c] λv=> .Ah v t (sw s t e cs)
def UC{C:CB}{Q:FB}{h:Ab}{s:Ag}{t e:IT}:∀{cs:List Ag},W C (sw s t e cs) Q h↔(s∈cs->W C t Q h)/\(s∉cs->W C e Q h)
 |[]=>by simp[sw]
 |c::cs=>by
  simp only[sw,JC,N0,HK,Ib,JD,AP,not_or];rw[UC];by_cases hc:s=c;.simp[hc]
  .simp[hc]
def We{C:CB}{f:FuncId}{args:List Aa}{r:Aa}:Mc C f args r↔W C (AH C f args) (λx vs _=>x= .ret/\vs=[r]) []:=by
 unfold Mc Ev;constructor;.exact λh=>W.mono h λ_ _ _ ⟨h1,r,h2,h3⟩=>⟨h1,by rw[h2,h3]⟩
 .exact λh=>W.mono h λ_ _ _ ⟨h1,h2⟩=>⟨h1,r,h2,rfl⟩
section
variable{Q:FB}{h:Ab}{k:Aa->IT}{s:Ag}
end
section
variable{Q:FB}{h:Ab}{k:Aa->IT}{s:Ag}{n:Int}
end
section
variable{Q:FB}{h:Ab}{k:Aa->IT}{s:Ag}{n:Int}
end
end
section
def UD{s:Ag}{a n:Nat}(ha:a<=n)(hn:n<s.length):(s.take (n+1)).drop a=(s.take n).drop a++[s[n]]:=by rw[Pf hn,List.drop_append_of_le_length (by simp;omega)]
end
section
section
variable{Q:FB}{h:Ab}{k:Aa->IT}{s:Ag}
def SH:List Ag:=GD [] kj
def SI:List Ag:=GD [] ki
def Wf:List Ag:=[kz,lj,ku]
def UE:List Ag:=[mb,mh]
def cH:List Ag:=[[111,108],[117,108]]
def Wg:List Ag:=[[97,112,112,108,101,116],ma,kz,nz,[111,98,106,101,99,116],lj,[116,100],ku,[116,104]]
end
section
variable{Q:FB}{h:Ab}{k:Aa->IT}{s:Ag}{n:Int}
end
end
section
def SJ(c:UInt8):UInt8:=if 65<=c.toNat/\c.toNat<=90 then c+32 else c
def UF(s:Ag):Ag:=s.map SJ
end
section
def I3(name:Ag):List Ag->Ag
 |[]=>name
 |w::ws=>if UF w=name then w else I3 name ws
def FJ(w:Ag):List Aa:=[.str w]
end
section
structure Ce where
 ED:Int
 name:Ag
 value:Ag
 deriving DecidableEq
def Ce.row(a:Ce):List Aa:=[.int .i64 a.ED,.str a.name,.str a.value]
structure Item where
 node:Int
 ED:Int
 name:Ag
 Z4:Bool
 deriving DecidableEq
def Item.row(a:Item):List Aa:=[.int .i64 a.node,.int .i64 a.ED,.str a.name,.bool a.Z4]
def Mf(ns:List Ag)(v:Aa):Prop:=CY 1 (ns.map FJ) v
def Ea(l:List Ce)(v:Aa):Prop:=CY 3 (l.map Ce.row) v
def Ie(l:List Item)(v:Aa):Prop:=CY 4 (l.map Item.row) v
def Rk(l:List Ce):Prop:=l.length<=12/\∀x∈l,x.name.length<=60/\x.value.length<=200
instance(l:List Ce):Decidable (Rk l):=by unfold Rk;infer_instance
def UG(l:List Ag):Prop:=l.length<=12/\∀x∈l,x.length<=60
instance(l:List Ag):Decidable (UG l):=by unfold UG;infer_instance
def Rl(l:List Item):Prop:=l.length<=60/\∀x∈l,x.name.length<=60
instance(l:List Item):Decidable (Rl l):=by unfold Rl;infer_instance
end
section
def E3{U:Type}(p:U->Bool)(n:Nat):List U->Int
 |[]=> -1
 |a::l=>if p a then(n:Int) else E3 p (n+1) l
def JJ{U:Type}{p:U->Bool}:∀{l:List U} {k:Nat},(E3 p k l= -1/\l.find? p=none)\/∃(n:Nat) (a:U),E3 p k l=((k+n:Nat):Int)/\l[n]?=some a/\l.find? p=some a
 |[],k=> .inl ⟨rfl,rfl⟩
 |a::l,k=>by
  unfold E3;by_cases h:p a=true;.exact .inr ⟨0,a,by rw[if_pos h];rfl,rfl,by simp[h]⟩
  .rw[if_neg h];rcases JJ (p:=p) (l:=l) (k:=k+1) with⟨h1,h2⟩|⟨n,b,h1,h2,h3⟩
   .exact .inl ⟨h1,by simp[h,h2]⟩
   .exact .inr ⟨n+1,b,by rw[h1];congr 1;omega,by simpa using h2,by simp[h,h3]⟩
def jI(a:Ce):Bool:=decide (a.ED=0/\a.name=nv)
abbrev jJ:Ag:=kx
abbrev jK:Ag:=np
abbrev cI:Ag:=lp
def SK(n:Int)(s:Ag)(l:List Ce):Bool:=
 if n=2 then DW 2 s else if n≠3 then false else if s≠jJ then false else match l.find? jI with
  |none=>false
  |some a=>decide (UF a.value=jK\/UF a.value=cI)
end
section
section
variable{U:Type}{f:U->List Aa}{l l2:List U}{v v2:Aa}{z b:Nat}{k k2:IntKind}
def CY.Wh(hv:CY z (l.map f) v):AA (.len false) [v]=some (.int .i64 (l.length:Int)):=by have:=CY.len hv;rwa [Ds] at this
def CY.Qk(hv:CY z (l.map f) v){n:Nat}(hn:n<l.length):AA (.Hn z) [v,.int k (n:Int)]=some (.A9 (f l[n])):=by have:=CY.Hn hv (k:=k) (n:=n) (by simpa using hn);simpa using this
def CY.uD(hv:CY z (l.map f) v)(VF:CY z (l2.map f) v2)(hb:(l.length+l2.length)*b<=AO):∃u,AA (.append z b) [v,v2]=some u/\CY z ((l++l2).map f) u:=by obtain⟨u,e,hu⟩:=CY.fm hv VF (b:=b) (by simpa using hb);exact⟨u,e,by rwa [KQ]⟩
end
def Wi{a b:Int}(h1: -9223372036854775808<=a+b)(h2:a+b<9223372036854775808):AA (.int .add) [.int .i64 a,.int .i64 b]=some (.int .i64 (a+b)):=by rw[Uw,wrap_i64 h1 h2]
def Item.zero:Item:=⟨0,0,[],false⟩
def Item.JK{a:Item}:a.row.length=4:=rfl
def Mg(l:List Item)(i:Int):Item:=if 0<=i then l.getD i.toNat Item.zero else Item.zero
def jL(l:List Item):Item:=Mg l ((l.length:Int)-1)
def Eb{U:Type}(q:U->Bool)(l:List U):Int:=match l.reverse.findIdx? q with
 |some k=>(l.length:Int)-1 -k
 |none=> -1
def At(h:Ab)(id o:Nat)(v:Aa):Prop:=∃cs,h[id]?=some (.cells cs)/\cs[o]?=some v
def put(h:Ab)(id o:Nat)(u:Aa):Ab:=match h[id]? with
 |some (.cells cs)=>h.set id (.cells (cs.set o u))
 |_=>h
section
variable{h t:Ab}{id o:Nat}{u v w:Aa}
def Ql{cs:List Aa}(hc:h[id]?=some (.cells cs)):put h id o u=h.set id (.cells (cs.set o u)):=by unfold put;rw[hc]
def At.lt(ha:At h id o v):id<h.length:=by obtain⟨cs,hc,_⟩:=ha;exact(Af.1 hc).1
def At.load(ha:At h id o v):Ck h none (.ptr (some (id,o)))=some v:=by obtain⟨cs,hc,e⟩:=ha;simp only[Ck,hc,F9,e]
def At.store(ha:At h id o v)(hu:u.cells=[u]):Dy h 1 (.ptr (some (id,o))) u=some (put h id o u):=by
 obtain⟨cs,hc,e⟩:=ha;have hl:=(Af.1 e).1;rw[Ql hc];simp only[Dy,hc,hu,Gb,Pd];have e2:cs.set o u=cs.take o++[u]++cs.drop (o+1):=by rw[N9,if_pos hl];simp
 rw[if_pos (show o+1<=cs.length by omega),e2]
def At.put(ha:At h id o v):At (put h id o u) id o u:=by obtain⟨cs,hc,e⟩:=ha;have hl:=(Af.1 e).1;have hi:=(Af.1 hc).1;rw[Ql hc];exact⟨cs.set o u,by simp[hi],by simp[hl]⟩
def SL{i:Nat}(hn:i≠id):(Am.put h id o u)[i]?=h[i]?:=by
 unfold Am.put;split;.rw[AB (Ne.symm hn)]
 .rfl
end
def uE(h:Ab)(p:Aa)(l:List Item):Prop:=(p= .ptr none/\l=[])\/∃id o v,p= .ptr (some (id,o))/\At h id o v/\Ie l v
def Mh{h:Ab}{id off:Nat}{cs:List Aa}(hc:h[id]?=some (.cells cs)){n:Option Nat}:Ck h n (.ptr (some (id,off)))=Cj cs off n:=by simp only[Ck,hc]
section
variable{h:Ab}{p:Aa}{l:List Item}
def Wj{s:Ag}{ws:List Ag}:decide (0<=E3 (λw=>decide (s=w)) 0 ws)=decide (s∈ws):=by
 rcases JJ (p:=λw=>decide (s=w)) (l:=ws) (k:=0) with⟨h1,h2⟩|⟨n,a,h1,h2,h3⟩
 .rw[h1,JR];have:=List.find?_eq_none.1 h2;exact⟨λh=>by omega,λh=>absurd (show s=s from rfl) (by simpa using this s h)⟩
 .rw[h1,JR];have e:s=a:=by simpa using List.find?_some h3
  have:a∈ws:=AT h2;refine⟨λ_=>e▸this,λ_=>by omega⟩
def Iy(ws:List Ag)(a:Item):Bool:=decide (a.ED=1/\a.name∈ws)
def SM{ws:List Ag}:Mf ws (.sl 1 (ws.map FJ)):= .mk
def uF(n:Int)(a:Item):Bool:=
 if n=4 then Iy Wf a else if n=5 then !Iy UE a else if a.ED=3\/a.ED=2 then DW a.ED a.name
 else Iy Wg a||(decide (n=2)&&Iy cH a)||(decide (n=3)&&Iy [l_] a)
def jM{U:Type}(q e:U->Bool):List U->Bool
 |[]=>false
 |a::r=>if q a then true else if e a then false else jM q e r
def Mf.cells{v:Aa}{ws:List Ag}(hv:Mf ws v):v.cells=[v]:=CY.cells hv
def Gm(node:Int)(a:Item):Bool:=decide (a.node=node)
end
end
section
section
variable{h:Ab}{p v:Aa}{l:List Item}
def Wk(h:Ab)(id o:Nat)(l:List Item):Prop:=∃v,At h id o v/\Ie l v
def Wk.at{id o:Nat}(hs:Wk h id o l):uE h (.ptr (some (id,o))) l:=let⟨v,h1,h2⟩:=hs; .inr ⟨id,o,v,rfl,h1,h2⟩
def Ie.cells(hv:Ie l v):v.cells=[v]:=CY.cells hv
def Rm(a:Item):Bool:=DW a.ED a.name
def UH(node:Int)(l:List Item):Int:=if Eb (Gm node) l<0 then -1 else match(l.drop ((Eb (Gm node) l).toNat+1)).findIdx? Rm with
 |some k=>Eb (Gm node) l+1+k
 |none=> -1
end
end
section
def Ev.ret{C:CB}{f:FuncId}{args:List Aa}{h:Ab}{R:Aa->Ab->Prop}(hw:Ev C f args h R):∃r h',Fu C f args h r h'/\R r h':=by obtain⟨n,x,vs,h',e,hx,r,hv,hR⟩:=hw;exact⟨r,h',⟨n,x,vs,h',e,hx,hv,rfl⟩,hR⟩
def Z5(b a:Item->Bool):List Item->List Item
 |x::y::r=>if b x then x::y::r else if a x then y::r else Z5 b a (y::r)
 |r=>r
def jN(b a:Item->Bool)(l:List Item):List Item:=(Z5 b a l.reverse).reverse
section
variable{h:Ab}{p v:Aa}{l:List Item}
def Wk.lt{id o:Nat}(hs:Wk h id o l):∃v,At h id o v:=let⟨u,hc,_⟩:=hs;⟨u,hc⟩
def Z6(_:Item):Bool:=false
def SN(s:Ag)(a:Item):Bool:=decide (a.ED≠1\/a.name∉GF\/a.name=s)
def Rn(node:Int)(l:List Item):List Item:=if Eb (Gm node) l<0 then l else jN Z6 (Gm node) l
end
end
section
section
variable{h:Ab}{p v:Aa}{l:List Item}
def I4{U:Type}(l:List U)(k:Nat):List U:=l.take k++l.drop (k+1)
def Wl(node:Int)(l:List Item):List Item:=if Eb (Gm node) l<1 then l else I4 l (Eb (Gm node) l).toNat
def SO(i:Int)(n:Nat):Nat:=min (max i 1).toNat n
end
end
section
end
section
section
variable{h:Ab}{p v w:Aa}{l:List Item}{ws:List Ag}
end
end
section
def fT:List (Ag×Int×Ag):=[(my,4,[97,99,116,117,97,116,101]),(mv,4,[97,114,99,114,111,108,101]),(ni,4,[104,114,101,102]),(nj,4,[114,111,108,101]),(nk,4,[115,104,111,119]),(nf,4,mf),(nl,4,ob),(ny,5,[108,97,110,103]),(nr,5,[115,112,97,99,101]),(nh,6,nh),(ng,6,[120,108,105,110,107])]
def SP(n:Ag):Option (Int×Ag):=(fT.find? λx=>decide (n=x.1)).map (·.2)
abbrev uG:Ag:=mn
abbrev uH:Ag:=mw
def Ro(sp:Int)(n:Ag):Ag:=if sp=2 then I3 n SI else if sp=3/\n=uG then uH else n
def Rp(sp:Int)(a:Ce):Ce:=
 if sp=2\/sp=3 then match SP (Ro sp a.name) with
  |some (s,m)=>⟨s,m,a.value⟩
  |none=>⟨0,Ro sp a.name,a.value⟩
 else⟨0,a.name,a.value⟩
def Ce.JK{a:Ce}:a.row.length=3:=rfl
section
variable{v:Aa}{l:List Ce}{h:Ab}
def SQ{k:IntKind}{s:Ag}{a z:Nat}(ha:a<=s.length):AA (.Ku z true true false) [.str s,.int k (a:Int)]=some (.str (s.drop a)):=by
 have e1:Fl (a:Int) s.length=some a:=by unfold Fl;rw[if_pos (by omega)];rfl
 simp[AA,Jc,CT,e1]
end
end
section
structure K7 where
 node:Int
 name:Ag
 CZ:List Ce
deriving DecidableEq
structure Rq where
 c:K7
 v:Aa
 ok:Ea c.CZ v
def Rq.row(e:Rq):List Aa:=[.int .i64 e.c.node,.str e.c.name,e.v]
def Qm(l:List Rq)(v:Aa):Prop:=CY 3 (l.map Rq.row) v
section
variable{e:Rq}{d:Aa}
def Rq.JK:e.row.length=3:=rfl
end
section
variable{h:Ab}{v:Aa}{l:List Rq}{id:Nat}
end
section
variable{h:Ab}{v:Aa}{l:List Ce}
end
end
section
def jO(h:Ab)(id o:Nat)(l:List Rq):Prop:=∃u,At h id o u/\Qm l u
def Qm.cells{l:List Rq}{v:Aa}(hv:Qm l v):v.cells=[v]:=CY.cells hv
def jO.lt{h:Ab}{id o:Nat}{l:List Rq}(hs:jO h id o l):∃v,At h id o v:=let⟨u,hc,_⟩:=hs;⟨u,hc⟩
section
variable{h:Ab}{v:Aa}{l:List Rq}{id:Nat}
def O2(i:Int)(n:Nat):Nat:=min (max i 0).toNat n
end
end
section
section
variable{e:K7}{l:List Rq}{n s:Nat}
end
section
variable{h:Ab}{v:Aa}{l:List Rq}{id:Nat}
end
end
section
section
variable{h:Ab}{v:Aa}{l:List Rq}{id:Nat}
end
end
end Go.Am
end
section
namespace Go.Am
set_option maxRecDepth 100000
structure HV where
 kind:Int:=0
 Wm:Int:=0
 Co:List Int:=[]
 SR:Int:=0
 ED:Int:=0
 name:Ag:=[]
 CZ:List Ce:=[]
 data:Ag:=[]
 cJ:Ag:=[]
 sys:Ag:=[]
 UI:Bool:=false
 cont:Int:=0
 cK:Int:=0
deriving DecidableEq
structure Ar where
 n:List HV
 i:List Int
abbrev Km:Ag:=ku
def uI(x:HV):Prop:=x.kind=4/\x.ED=1/\x.name=Km
instance(x:HV):Decidable (uI x):=by unfold uI;infer_instance
namespace Ar
def len(A:Ar):Int:=A.n.length
def has(A:Ar)(h:Int):Prop:=1<=h/\h<=A.n.length
instance(A:Ar)(h:Int):Decidable (A.has h):=by unfold has;infer_instance
def nd(A:Ar)(h:Int):HV:=if A.has h then A.n.getD (h.toNat-1) {} else{}
def inr(A:Ar)(h:Int):Int:=if A.has h then A.i.getD (h.toNat-1) 0 else 0
def set(A:Ar)(h:Int)(x:HV):Ar:={n:=if A.has h then A.n.set (h.toNat-1) x else A.n,i:=A.i}
def jP(A:Ar)(h:Int)(x:Int):Ar:={n:=A.n,i:=if A.has h then A.i.set (h.toNat-1) x else A.i}
def add(A:Ar)(x:HV):Ar:={n:=A.n++[x],i:=A.i++[0]}
def up(A:Ar)(h:Int):Int:=if(A.nd h).Wm≠0 then(A.nd h).Wm else(A.nd h).cK
end Ar
section
variable{A:Ar}{h k:Int}{x y:HV}
def O3:(A.set h x).n.length=A.n.length:=by simp only[Ar.set];split<;>simp
def Wn:(A.set h x).has k↔A.has k:=by unfold Ar.has;rw[O3]
def cL:(A.set h x).nd k=if k=h/\A.has h then x else A.nd k:=by
 unfold Ar.nd;simp only[Wn];by_cases hk:A.has k
 .rw[if_pos hk,if_pos hk];simp only[Ar.set];by_cases hh:A.has h
  .rw[if_pos hh];have h1:=hh;have h2:=hk;unfold Ar.has at h1 h2;by_cases e:k=h;.subst e;rw[if_pos ⟨rfl,hh⟩,Di,AD (by omega)];rfl
   .rw[if_neg (by simp[e]),Di,AB (by omega),Di]
  .rw[if_neg hh,if_neg (by simp[hh])]
 .rw[if_neg hk,if_neg hk,if_neg];rintro⟨rfl,h2⟩;exact hk h2
end
def Z7(a:Ce):Int×Ag:=(a.ED,a.name)
def UJ(out:List Ce):List Ce->List Ce
 |[]=>out
 |x::l=>if out.any (λy=>decide (Z7 x=Z7 y)) then UJ out l else UJ (out++[x]) l
def uJ(l:List Ce):List Ce:=UJ [] l
section
variable{A:Ar}{e h k:Int}{x y:HV}
inductive Reach(A:Ar)(t:Int):Int->Prop
 |refl:Reach A t t
 |step {h:Int}:A.up h≠0->Reach A t (A.up h)->Reach A t h
def jQ(l:List Int)(b n:Int):List Int:=if b=0 then l++[n] else l.takeWhile (λk=>decide (k≠b))++n::l.dropWhile (λk=>decide (k≠b))
def Ar.cut(A:Ar)(n:Int):Ar:=
 let q:=(A.nd n).Wm
 if q=0 then A else
  let A1:=A.set q {A.nd q with Co:=(A.nd q).Co.filter λk=>decide (k≠n)}
  A1.set n {A1.nd n with Wm:=0}
def Ar.aJ(A:Ar)(p n b:Int):Ar:=
 let A1:=A.set p {A.nd p with Co:=jQ (A.nd p).Co b n}
 A1.set n {A1.nd n with Wm:=p}
def UK(k:Int):Prop:=k=1\/k=2\/k=4
instance(k:Int):Decidable (UK k):=by unfold UK;infer_instance
structure uK(A:Ar)(p n b:Int):Prop where
 hp:A.has p
 hn:A.has n
 hb:b≠0->A.has b/\b≠n/\(A.nd b).Wm=p
 kp:UK (A.nd p).kind
 kn:(A.nd n).kind≠1/\(A.nd n).kind≠2
 re:¬Reach A n p
open Classical in
noncomputable def Ar.Wo(A:Ar)(p n b:Int):Ar:=if uK A p n b then(A.cut n).aJ p n b else A
def Ar.cM(A:Ar)(d:Int):Int:=if A.inr d≠0 then A.inr d else A.len+1
def Ar.cN(A:Ar)(d:Int):Ar:=if A.inr d≠0 then A else((A.add {kind:=1,SR:=A.len+1}).jP d (A.len+1)).jP (A.len+1) (A.len+1)
def Ar.elem(A:Ar)(d sp:Int)(nm:Ag)(at_:List Ce):Ar:=
 let x:HV:={kind:=4,SR:=d,ED:=sp,name:=nm,CZ:=uJ at_}
 if uI x then
  let A1:=A.add x
  let A2:=A1.cN d
  (A2.add {kind:=2,cK:=A.len+1,SR:=A1.cM d}).set (A.len+1) {x with cont:=A2.len+1}
 else A.add x
end
def jR(n:Int)(e:K7):Bool:=decide (e.node=n)
def jS(n:Int)(l:List K7):Int:=if n=0 then -1 else Eb (jR n) l
def UL(name:Ag):List K7->Int
 |[]=> -1
 |x::t=>if x.node=0 then -1 else if x.name=name then(t.length:Int) else UL name t
def jT(name:Ag)(l:List K7):Int:=UL name l.reverse
structure BS where
 a:Ar
 SR:Int
 Ja:List Item
 Qn:List K7
 mode:Int
 uL:Int
 tm:List Int
 head:Int
 jU:Int
 jV:Bool
 ctx:Item
 fs:Bool
 UM:Bool
 uM:Ag
 skip:Bool
 sw:Int
 stop:Bool
def uN(s:List Ag)(A:Ar)(h:Int):Prop:=(A.nd h).kind=4/\(A.nd h).ED=1/\(A.nd h).name∈s
instance(s:List Ag)(A:Ar)(h:Int):Decidable (uN s A h):=by unfold uN;infer_instance
abbrev UN:Ag:=lj
abbrev cO:Ag:=mq
abbrev cP:Ag:=mo
abbrev cQ:Ag:=mr
abbrev fo:Ag:=[116,114]
def cR:List Ag:=[UN,cO,cP,cQ,fo]
namespace BS
def uO(b:BS):Int×Int:=
 let tp:=Eb (Iy [Km]) b.Ja
 let tb:=Eb (Iy [UN]) b.Ja
 if tb<tp then((Mg b.Ja tp).node,0) else if tb<0 then((Mg b.Ja 0).node,0) else
 let t:=(Mg b.Ja tb).node
 if(b.a.nd t).Wm≠0 then((b.a.nd t).Wm,t) else((Mg b.Ja (max (tb-1) 0)).node,0)
def place(b:BS)(t:Int):Int×Int:=
 if t=0/\b.Ja=[] then(b.SR,0) else
 let t':=if t=0 then(jL b.Ja).node else t
 let pb:=if b.UM=true/\uN cR b.a t' then b.uO else(t',0)
 if(b.a.nd pb.1).cont≠0 then((b.a.nd pb.1).cont,0) else pb
end BS
open Classical in
noncomputable def Ar.uP(A:Ar)(h p bf:Int):Ar:=if(A.nd p).kind=1/\(A.nd h).kind=4/\(∃k∈(A.nd p).Co,(A.nd k).kind=4) then A else A.Wo p h bf
namespace BS
def cS(b:BS)(p:Int):Int:=if(b.a.nd p).cont≠0 then(if(b.a.nd (b.a.nd p).cont).SR≠0 then(b.a.nd (b.a.nd p).cont).SR else b.SR) else if(b.a.nd p).SR≠0 then(b.a.nd p).SR else b.SR
def Wp(sp:Int):Prop:=0<=sp/\sp<=7
instance(sp:Int):Decidable (Wp sp):=by unfold Wp;infer_instance
def cT(sp:Int)(nm:Ag):Ag:=if sp=2 then I3 nm SH else nm
def xL(b:BS)(nm:Ag)(at_:List Ce)(sp:Int):Item:=if Wp sp then⟨b.a.len+1,sp,cT sp nm,SK sp (cT sp nm) (at_.map (Rp sp))⟩ else Item.zero
def xM(b:BS)(nm:Ag)(at_:List Ce)(sp p:Int):BS:=if Wp sp then{b with a:=b.a.elem (b.cS p) sp (cT sp nm) (at_.map (Rp sp))} else b
end BS
namespace BS
def cU(b:BS)(nm:Ag):BS:=match b.Ja.reverse.find? λi=>Iy [nm] i||Rm i with
 |some i=>if Iy [nm] i then{b with Ja:=Rn i.node (jN (SN nm) Z6 b.Ja)} else b
 |none=>b
end BS
namespace BS
def plain(l:List Ce):List Ce:=l.map λa=>⟨0,a.name,a.value⟩
end BS
def K7.zero:K7:=⟨0,[],[]⟩
namespace BS
noncomputable def jW(blk anc:Int)(far i:Nat)(b:BS)(l:Int)(m:Nat):BS×Int×Nat:=
 let x:=b.Ja.getD i Item.zero
 let e:=jS x.node b.Qn
 if e<0 then({b with Ja:=I4 b.Ja i},l,m)
 else if i+3<far then({b with Qn:=I4 b.Qn e.toNat,Ja:=I4 b.Ja i},l,if e.toNat<m then m-1 else m)
 else
  let en:=b.Qn.getD e.toNat K7.zero
  let n:=b.xL en.name en.CZ 1
  let b1:=b.xM en.name en.CZ 1 anc
  ({b1 with a:=b1.a.Wo n.node l 0,Ja:=b1.Ja.set i n,Qn:=b1.Qn.set e.toNat {en with node:=n.node}},n.node,if l=blk then e.toNat+1 else m)
noncomputable def jX(blk anc:Int)(far k:Nat):Nat->BS×Int×Nat->BS×Int×Nat
 |0,s=>s
 |c+1,s=>jX blk anc far k c (jW blk anc far (k+(c+1)) s.1 s.2.1 s.2.2)
noncomputable def UO(A:Ar)(n:Int)(l:List Int):Ar:=l.foldl (λA x=>A.Wo n x 0) A
noncomputable def cV(fe:K7)(blk anc:Int)(s:BS×Int×Nat):BS:=
 let b1:=s.1
 let pb:=b1.place anc
 let b2:={b1 with a:=b1.a.uP s.2.1 pb.1 pb.2}
 let n:=b2.xL fe.name fe.CZ 1
 let b3:=b2.xM fe.name fe.CZ 1 blk
 let ef:=jS fe.node b3.Qn
 let mk:=if ef.toNat<s.2.2 then s.2.2 -1 else s.2.2
 let ac:=I4 b3.Qn ef.toNat
 let op:=Wl fe.node b3.Ja
 let ip:=SO (Eb (Gm blk) op+1) op.length
 {b3 with a:=(UO b3.a n.node (b3.a.nd blk).Co).Wo blk n.node 0,Qn:=ac.take (O2 mk ac.length)++{fe with node:=n.node}::ac.drop (O2 mk ac.length),Ja:=op.take ip++n::op.drop ip}
noncomputable def round(b:BS)(nm:Ag):Bool×BS:=
 let f:=jT nm b.Qn
 if f<0 then(false,b.cU nm) else
 let fe:=b.Qn.getD f.toNat K7.zero
 let k:=Eb (Gm fe.node) b.Ja
 if k<0 then(false,{b with Qn:=I4 b.Qn f.toNat}) else
 if k=0\/jM (Gm fe.node) (uF 1) b.Ja.reverse=false then(false,b) else
 let far:=UH fe.node b.Ja
 if far<0 then(false,{b with Ja:=Rn fe.node b.Ja,Qn:=I4 b.Qn f.toNat}) else
 let blk:=(b.Ja.getD far.toNat Item.zero).node
 let anc:=(b.Ja.getD (k.toNat-1) Item.zero).node
 (true,cV fe blk anc (jX blk anc far.toNat k.toNat (far.toNat-1 -k.toNat) (b,blk,f.toNat)))
end BS
end Go.Am
end
section
end
section
namespace Go.Am
set_option maxRecDepth 100000
structure uQ(A:Ar):Prop where
 n:A.n.length<=1000000000
 at_:∀x,(A.nd x).CZ.length<=1000000000
 data:∀x,(A.nd x).data.length<=1000000000
section
variable{A A' A'':Ar}{x p bf:Int}{b:BS}{m:Nat}
variable{nm:Ag}{l:List Ce}{sp:Int}
end
end Go.Am
end
