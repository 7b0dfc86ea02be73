/- Lemmas -/
import Derived.Test.YtkaolmlpcamojaaGreatDoorC17
set_option linter.all false
noncomputable section
set_option maxRecDepth 100000
section
namespace Go.Am
open Go
section
section
variable{U:Type}{z:Nat}
def FQ{AE:List (List U)}(h:∀r∈AE,r.length=z):AE.flatten.length=AE.length*z:=by
 induction AE with
 |nil=>simp
 |cons q AE ih=>rw[CZ,Au,h q AH,ih λr hr=>h r (by simp[hr]),A9,BH];omega
def aX{AE:List (List U)}(h:∀r∈AE,r.length=z):∀{k:Nat},AE.flatten.take (k*z)=(AE.take k).flatten:=by
 induction AE with
 |nil=>intro k;simp
 |cons q AE ih=>
  intro k;have hq:=h q AH;cases k with
  |zero=>simp
  |succ k=>rw[CZ,BH,D7,Ph,wN,AF Ab,hq,TE,ih λr hr=>h r (by simp[hr])];simp
def I3{AE:List (List U)}(h:∀r∈AE,r.length=z):∀{k:Nat},AE.flatten.drop (k*z)=(AE.drop k).flatten:=by
 induction AE with
 |nil=>intro k;simp
 |cons q AE ih=>
  intro k;have hq:=h q AH;cases k with
  |zero=>simp
  |succ k=>rw[CZ,BH,D7,Ph,TB,AW Ab,hq,TE,ih λr hr=>h r (by simp[hr])];simp
def nO{AE:List (List U)}(h:∀r∈AE,r.length=z){k:Nat}(hk:k<AE.length)(q:List U):AE.flatten.take (k*z)++q++AE.flatten.drop (k*z+z)=(AE.set k q).flatten:=by
 have e:k*z+z=(k+1)*z:=by rw[BH,D7]
 rw[e,aX h,I3 h,BZ,Af hk];simp
def aY{AE:List (List Aa)}(h:∀r∈AE,r.length=z):∀{n off:Nat},off+n<=AE.length->CA AE.flatten z (off*z) n=(AE.drop off).take n:=by
 intro n;induction n with
 |zero=>intro off _;simp[CA]
 |succ n ih=>
  intro off hl;rw[CA];have e:off*z+z=(off+1)*z:=by rw[BH,D7]
  rw[e,ih Ab,I3 h];have hlt:off<AE.length:=Ab;rw[AG hlt,CZ,CL (by rw[h _ (AL hlt)];exact Ag _),AF (by rw[h _ (AL hlt)];exact Ag _),ZT]
def tz{AE:List (List Aa)}(h:∀r∈AE,r.length=z):CA AE.flatten z 0 AE.length=AE:=by have:=aY h (n:=AE.length) (off:=0) Ab;simpa using this
end
section
variable{h:Ah}{id z n:Nat}{AE:List (List Aa)}
def J0(hr:∀r∈AE,r.length=z)(hc:h[id]?=some (.cells AE.flatten)):KA h (.CF id 0 AE.length z)=some (h.set id .CR,.sl z AE):=by unfold KA;simp only[hc,BV];rw[Af (by rw[FQ hr];exact Ag _),tz hr]
def EY{k:IntKind}{i:Nat}(hi:i<n):AD (.Fl z) [.CF id 0 n z,.int k (i:Int)]=some (.ptr (some (id,i*z))):=by
 have:Me (i:Int) n=some i:=by unfold Me;rw[Af Ab];rfl
 simp[AD,elemOf,this]
def Vb(hr:∀r∈AE,r.length=z)(hc:h[id]?=some (.cells AE.flatten)){i:Nat}(hi:i<AE.length){q:List Aa}(hq:q.length=z):Cv h z (.ptr (some (id,i*z))) (.agg q)=some (h.set id (.cells (AE.set i q).flatten)):=by
 simp only[Cv,hc,T2];have:i*z+z<=AE.flatten.length:=by rw[FQ hr];have:=DY z (Ab:i+1<=AE.length);rwa [BH,D7] at this
 rw[<-nO hr hi];exact Af ⟨hq,this⟩
def nQ(hr:∀r∈AE,r.length=z){i:Nat}{q:List Aa}(hq:q.length=z):∀r∈AE.set i q,r.length=z:=by
 intro r h;rcases Dg h with h|rfl
 .exact hr r h
 .exact hq
def Mq{U:Type}{f:U->List Aa}(hf:∀a,(f a).length=z)(l:List U):∀r∈l.map f,r.length=z:=by intro r h;obtain⟨a,_,rfl⟩:=Bk.1 h;exact hf a
def Lr{s v:Aa}{b:Nat}(hs:s= .slnil\/s= .sl z [])(hv:AU z AE v)(hne:AE≠[])(hb:AE.length*b<=AX):KK h z b s v=some (h++[.cells AE.flatten],.CF h.length 0 AE.length z):=by
 rcases hv with rfl|⟨rfl,hv⟩
 .cases AE with
  |nil=>exact absurd rfl hne
  |cons r AE=>rw[A9] at hb;rcases hs with rfl|rfl<;>simp[KK,Pr,hb]
 .exact absurd hv hne
def PS{s v:Aa}{b:Nat}(hs:s= .slnil\/s= .sl z [])(hv:AU z [] v):KK h z b s v=some (h,s):=by rcases hv with rfl|⟨rfl,hv⟩<;>rcases hs with rfl|rfl<;>simp[KK,Pr]
def tK{v:Aa}{b:Nat}(hv:AU z [] v):Gb h z b (.CF id 0 n z) v=some (h,.CF id 0 n z):=by rcases hv with rfl|⟨rfl,hv⟩<;>simp[Gb,GZ]
def JN{v:Aa}{b:Nat}{r2:List (List Aa)}(hr:∀r∈AE,r.length=z)(hz:0<z)(hc:h[id]?=some (.cells AE.flatten))(hv:AU z r2 v)(hne:r2≠[])(hb:(AE.length+r2.length)*b<=AX):
  Gb h z b (.CF id 0 AE.length z) v=some (h.set id .CR++[.cells (AE++r2).flatten],.CF h.length 0 (AE.length+r2.length) z):=by
 rcases hv with rfl|⟨rfl,hv⟩
 .cases r2 with
  |nil=>exact absurd rfl hne
  |cons r r2=>
   have hl:=FQ hr;have h1:¬(0+(AE.length+(r::r2).length)*z<=AE.flatten.length):=by rw[hl,A9,BV,BH,BH];omega
   have h2:AE.flatten.take (AE.length*z)=AE.flatten:=AF (by rw[hl];exact Ag _);unfold Gb;simp only[GZ,BN,hc];rw[Ad h1,Af ⟨trivial,by rw[hl];exact Ag _,hb⟩,h2,KW]
 .exact absurd hv hne
end
end
section
section
end
def Gx:List Ai:=[[100,100],[100,116],[108,105],aUO,aUY,[112],[114,98],[114,112],[114,116],[114,116,99]]
def J1:List Ai:=[aUE,aUQ,aU3,[116,100],aU1,[116,104],aU4,[116,114]]
def KQ:List Ai:=[[109,105],[109,110],[109,111],[109,115],[109,116,101,120,116]]
def Qv:List Ai:=[aVn,aUG,aUz]
section
end
def DP:List Ai:=[[104,49],[104,50],[104,51],[104,52],[104,53],[104,54]]
def Ew(k:Int)(s:Ai):Bool:=
 if k=3 then decide (s=aUn\/s∈KQ) else if k=2 then decide (s∈Qv) else if k=1 then decide (s∈NS) else false
def sw(s:Ai)(t e:IT):List Ai->IT
 |[]=>e
 |c::cs=> .op (.str .eql) [.str s,.str c] λv=> .Gg v t (sw s t e cs)
def t_{C:FY}{Q:HG}{h:Ah}{s:Ai}{t e:IT}:∀{cs:List Ai},W C (sw s t e cs) Q h↔(s∈cs->W C t Q h)/\(s∉cs->W C e Q h)
 |[]=>by simp[sw]
 |c::cs=>by
  simp only[sw,XS,yF,NQ,NR,XT,AS,MN];rw[t_];by_cases hc:s=c;.simp[hc]
  .simp[hc]
def L0{C:FY}{f:FuncId}{args:List Aa}{r:Aa}:JM C f args r↔W C (B9 C f args) (λx vs _=>x= .ret/\vs=[r]) []:=by
 unfold JM Ev;constructor;.exact λh=>W.mono h λ_ _ _ ⟨h1,r,h2,a⟩=>⟨h1,by rw[h2,a]⟩
 .exact λh=>W.mono h λ_ _ _ ⟨h1,h2⟩=>⟨h1,r,h2,rfl⟩
section
variable{Q:HG}{h:Ah}{k:Aa->IT}{s:Ai}
end
section
variable{Q:HG}{h:Ah}{k:Aa->IT}{s:Ai}{n:Int}
end
end
section
def Re{cur:Ai}:Du cur []=[cur]:=by unfold Du;rfl
def PT{cur r:Ai}{c:UInt8}:Du cur (c::r)=if c=32 then cur::Du [] r else Du (cur++[c]) r:=by rw[Du]
def F0(l s:Ai):Bool:=decide (s≠[]/\(32:UInt8)∉s/\s∈Du [] l)
def X5{s:Ai}{a n:Nat}(ha:a<=n)(hn:n<s.length):(s.take (n+1)).drop a=(s.take n).drop a++[s[n]]:=by rw[AB hn,Jk Ei]
end
section
def D9{l:Ai}{ws:List Ai}{s:Ai}(h1:Du [] l=ws)(h2:ws.all (λw=> !w.isEmpty&& !w.contains 32)=true):F0 l s=decide (s∈ws):=by
 unfold F0;rw[h1,Dd];refine⟨λh=>h.2.2,λh=>⟨?_,?_,h⟩⟩;.have:=Db.1 h2 s h;rintro rfl;simp at this
 .have:=Db.1 h2 s h;intro a;simp[a] at this
section
variable{Q:HG}{h:Ah}{k:Aa->IT}{s:Ai}
def tL:F0 aUb s=decide (s∈NS):=D9 C4 C4
def eD:F0 aUJ s=decide (s∈KQ):=D9 C4 C4
def nS:F0 aUt s=decide (s∈Qv):=D9 C4 C4
def tM:F0 aUk s=decide (s∈Gx):=D9 C4 C4
def nT:F0 aUm s=decide (s∈J1):=D9 C4 C4
def I4:List Ai:=Du [] aUc
def Ig:List Ai:=Du [] aUa
def Oz:List Ai:=[aUi,aUw,aUd]
def jf:F0 aUF s=decide (s∈Oz):=D9 C4 C4
def Mr:List Ai:=[aUO,aUY]
def tN:F0 aUA s=decide (s∈Mr):=D9 C4 C4
def RK:List Ai:=[[111,108],[117,108]]
def ua:F0 aVq s=decide (s∈RK):=D9 C4 C4
def Qw:List Ai:=[aVc,aUE,aUi,aU9,aVe,aUw,[116,100],aUd,[116,104]]
def jg:F0 aUj s=decide (s∈Qw):=D9 C4 C4
end
section
variable{Q:HG}{h:Ah}{k:Aa->IT}{s:Ai}{n:Int}
end
end
section
def I5(c:UInt8):UInt8:=if 65<=c.toNat/\c.toNat<=90 then c+32 else c
def Fo(s:Ai):Ai:=s.map I5
def SL{c:UInt8}(h:65<=c.toNat/\c.toNat<=90):((I5 c).toNat:Int)=(c.toNat:Int)+32:=by unfold I5;rw[Af h,UInt8.toNat_add];have:UInt8.toNat 32=32:=AM;rw[this];omega
def OA{c:UInt8}(h:¬(65<=c.toNat/\c.toNat<=90)):I5 c=c:=by unfold I5;rw[Ad h]
def RL{s:Ai}{n:Nat}(hn:n<s.length):Fo (s.take (n+1))=Fo (s.take n)++[I5 s[n]]:=by rw[AB hn];unfold Fo;rw[BF];rfl
def O1(b:UInt8):Aa:= .int .u8 (b.toNat:Int)
def HO(s:Ai)(n:Nat):Ai:=Fo (s.take n)++s.drop n
def X6(s:Ai)(n:Nat):(HO s n).length=s.length:=by simp[HO,Fo];omega
def X7{s:Ai}{n:Nat}(hn:n<s.length):(HO s n)[n]?=some s[n]:=by unfold HO Fo;rw[Bm Ei];simp only[An,Aw,Cs (MR hn),De];rw[AG hn];rfl
def SM{s:Ai}{n:Nat}(hn:n<s.length):HO s (n+1)=(HO s n).set n (I5 s[n]):=by
 unfold HO;rw[RL hn,BO _ _ (by simp[Fo];omega)];have e:n-(Fo (s.take n)).length=0:=by simp[Fo];omega
 rw[e,AG hn,Qf,AI];rfl
def nU(s:Ai):HO s s.length=Fo s:=by simp[HO,Fo]
def ub{U:Type}{l:List U}{i:Nat}{v:U}(h:l[i]?=some v):l.set i v=l:=by
 apply Ro;intro j;rw[aP5];split
 .rename_i e;subst e;split;.exact h.symm
  .rename_i hl;rw[Ec Ab]
 .rfl
def tO{cs:List Aa}{i:Nat}{v:Aa}(h:cs[i]?=some v):A8 [.cells cs] none (.ptr (some (0,i)))=some v:=by simpa[A8] using h
def ZJ{U:Type}{l:List U}{i:Nat}{v:U}(h:i<l.length):l.take i++v::l.drop (i+1)=l.set i v:=by rw[BZ,Af h]
def nV{cs:List Aa}{i:Nat}{v:Aa}(h:i<cs.length)(hv:v.cells=[v]):Cv [.cells cs] 1 (.ptr (some (0,i))) v=some [.cells (cs.set i v)]:=by simp only[Cv,hv,IS,Be];rw[Af ⟨trivial,Ab⟩,<-ZJ h];simp
def PU(s:Ai):∀(n o:Nat),o+n=s.length->CA (s.map O1) 1 o n=Cf (s.drop o)
 |0,o,h=>by rw[AW Ab];rfl
 |n+1,o,h=>by
  have ho:o<s.length:=Ab;have e:(s.map O1).drop o=O1 s[o]::(s.map O1).drop (o+1):=by rw[AG (by simpa using ho)];simp
  rw[CA,PU s n (o+1) Ab,AG ho,e];rfl
end
section
def Cq(name:Ai):List Ai->Ai
 |[]=>name
 |w::ws=>if Fo w=name then w else Cq name ws
def Cr(w:Ai):List Aa:=[.str w]
def Mb:Ai:=aUc
def NT:Ai:=aUa
def X8:Du [] Mb=I4:=C4
def X9:Du [] NT=Ig:=C4
end
section
structure A5 where
 Bc:Int
 name:Ai
 value:Ai
 deriving DecidableEq
def A5.row(a:A5):List Aa:=[.int .i64 a.Bc,.str a.name,.str a.value]
structure Item where
 node:Int
 Bc:Int
 name:Ai
 O2:Bool
 deriving DecidableEq
def Item.row(a:Item):List Aa:=[.int .i64 a.node,.int .i64 a.Bc,.str a.name,.bool a.O2]
def Im(ns:List Ai)(v:Aa):Prop:=AU 1 (ns.map Cr) v
def Bt(l:List A5)(v:Aa):Prop:=AU 3 (l.map A5.row) v
def BY(l:List Item)(v:Aa):Prop:=AU 4 (l.map Item.row) v
def yH(l:List A5):Prop:=l.length<=12/\∀x∈l,x.name.length<=60/\x.value.length<=200
instance(l:List A5):Decidable (yH l):=by unfold yH;infer_instance
def uc(l:List Ai):Prop:=l.length<=12/\∀x∈l,x.length<=60
instance(l:List Ai):Decidable (uc l):=by unfold uc;infer_instance
def yI(l:List Item):Prop:=l.length<=60/\∀x∈l,x.name.length<=60
instance(l:List Item):Decidable (yI l):=by unfold yI;infer_instance
end
section
def Cn{U:Type}(p:U->Bool)(n:Nat):List U->Int
 |[]=> -1
 |a::l=>if p a then(n:Int) else Cn p (n+1) l
def HP{U:Type}{p:U->Bool}:∀{l:List U} {k:Nat},(Cn p k l= -1/\l.find? p=none)\/∃(n:Nat) (a:U),Cn p k l=((k+n:Nat):Int)/\l[n]?=some a/\l.find? p=some a
 |[],k=> .inl ⟨rfl,rfl⟩
 |a::l,k=>by
  unfold Cn;by_cases h:p a=true;.exact .inr ⟨0,a,by rw[Af h];rfl,rfl,by simp[h]⟩
  .rw[Ad h];rcases HP (p:=p) (l:=l) (k:=k+1) with⟨h1,h2⟩|⟨n,b,h1,h2,c⟩
   .exact .inl ⟨h1,by simp[h,h2]⟩
   .exact .inr ⟨n+1,b,by rw[h1];congr 1;omega,by simpa using h2,by simp[h,c]⟩
def O3(a:A5):Bool:=decide (a.Bc=0/\a.name=aVd)
def PV{s:Ai}(h:s.all (λc=> !(65<=c.toNat&&c.toNat<=90))=true):Fo s=s:=by
 unfold Fo;conv=>rhs;rw[<-List.map_id s]
 apply ZW;intro c hc;have:=Db.1 h c hc;refine OA λh2=>?_;simp[h2.1,h2.2] at this
abbrev aGk:Ai:=aUn
abbrev yJ:Ai:=aVa
abbrev eE:Ai:=aUB
def Fj(n:Int)(s:Ai)(l:List A5):Bool:=
 if n=2 then Ew 2 s else if n≠3 then false else if s≠aGk then false else match l.find? O3 with
  |none=>false
  |some a=>decide (Fo a.value=yJ\/Fo a.value=eE)
end
section
section
variable{U:Type}{f:U->List Aa}{l l2:List U}{v v2:Aa}{z b:Nat}{k k2:IntKind}
def AU.CN(hv:AU z (l.map f) v):AD (.len false) [v]=some (.int .i64 (l.length:Int)):=by have:=AU.len hv;rwa [An] at this
def AU.BK(hv:AU z (l.map f) v){n:Nat}(hn:n<l.length):AD (.Fl z) [v,.int k (n:Int)]=some (.CH (f l[n])):=by have:=AU.Fl hv (k:=k) (n:=n) (by simpa using hn);simpa using this
def AU.Ms(hv:AU z (l.map f) v){n:Nat}(hn:n<=l.length):∃u,AD (.K0 z false false true) [v,.int k (n:Int)]=some u/\AU z ((l.take n).map f) u:=by
 rcases hv with rfl|⟨rfl,h⟩
 .have a:Fm (n:Int) (l.map f).length=some n:=by unfold Fm;rw[An,Af Ab];rfl
  refine⟨.sl z ((l.map f).take n),?_,.inl (by rw[Gk])⟩;simp only[AD,Kd,Ed,a,B0,qM,BN,MH]
 .have:l=[]:=by simpa using h
  subst this;have:n=0:=by simpa using hn
  subst this;exact⟨.slnil,rfl,.inr ⟨rfl,rfl⟩⟩
def AU.SN(hv:AU z (l.map f) v){n:Nat}(hn:n<=l.length):∃u,AD (.K0 z false true false) [v,.int k (n:Int)]=some u/\AU z ((l.drop n).map f) u:=by
 rcases hv with rfl|⟨rfl,h⟩
 .have a:Fm (n:Int) (l.map f).length=some n:=by unfold Fm;rw[An,Af Ab];rfl
  refine⟨.sl z ((l.map f).drop n),?_,.inl (by rw[JG])⟩;simp only[AD,Kd,Ed,a,B0,qM,BN,Bx]
 .have:l=[]:=by simpa using h
  subst this;have:n=0:=by simpa using hn
  subst this;exact⟨.slnil,rfl,.inr ⟨rfl,rfl⟩⟩
def AU.eF(hv:AU z (l.map f) v)(Sx:AU z (l2.map f) v2)(hb:(l.length+l2.length)*b<=AX):∃u,AD (.append z b) [v,v2]=some u/\AU z ((l++l2).map f) u:=by obtain⟨u,e,hu⟩:=AU.HJ hv Sx (b:=b) (by simpa using hb);exact⟨u,e,by rwa [BF]⟩
def AU.Gy(Sx:AU z (l2.map f) v2)(hb:l2.length*b<=AX):∃u,AD (.append z b) [.slnil,v2]=some u/\AU z (l2.map f) u:=by obtain⟨u,e,hu⟩:=AU.HJ (v:= .slnil) (r:=[]) .nil Sx (b:=b) (by simpa using hb);exact⟨u,e,by simpa using hu⟩
def AU.J2{a:U}(hv:AU z (l.map f) v)(hb:(l.length+1)*b<=AX):AD (.append z b) [v,.sl z [f a]]=some (.sl z ((l++[a]).map f)):=by rw[AU.tJ hv (by simpa using hb)];simp
end
def Da{a b:Int}(h1: -9223372036854775808<=a-b)(h2:a-b<9223372036854775808):AD (.int .sub) [.int .i64 a,.int .i64 b]=some (.int .i64 (a-b)):=by rw[tI,wrap_i64 h1 h2]
def OB{a b:Int}(h1: -9223372036854775808<=a+b)(h2:a+b<9223372036854775808):AD (.int .add) [.int .i64 a,.int .i64 b]=some (.int .i64 (a+b)):=by rw[dW,wrap_i64 h1 h2]
def Item.zero:Item:=⟨0,0,[],false⟩
def Item.CP{a:Item}:a.row.length=4:=rfl
def Item.g0{a:Item}{d:Aa}:a.row.getD 0 d= .int .i64 a.node:=rfl
def Item.g1{a:Item}{d:Aa}:a.row.getD 1 d= .int .i64 a.Bc:=rfl
def Item.g2{a:Item}{d:Aa}:a.row.getD 2 d= .str a.name:=rfl
def Item.g3{a:Item}{d:Aa}:a.row.getD 3 d= .bool a.O2:=rfl
def Item.at0{a:Item}:a.row[0]?=some (.int .i64 a.node):=rfl
def Item.H7{a:Item}:a.row.take 4=a.row:=rfl
def Item.yK{a:Item}:a.row.drop 1=[.int .i64 a.Bc,.str a.name,.bool a.O2]:=rfl
def Item.aGl{a:Item}:a.row.drop 2=[.str a.name,.bool a.O2]:=rfl
def Item.aGm{a:Item}:a.row.drop 3=[.bool a.O2]:=rfl
def Item.PX{a:Item}:[Aa.int .i64 a.node,.int .i64 a.Bc,.str a.name,.bool a.O2]=a.row:=rfl
def Item.fill{a:Item}:AR [.int .i64 0,.int .i64 0,.str [],.bool false] ([(0,1),(1,1),(2,1),(3,1)].zip a.row)=some a.row:=rfl
def E9:=ai @Item.fill (ai @Item.CP (ai @Item.g0 (ai @Item.g1 (ai @Item.g2 (ai @Item.g3 (ai @Item.at0 (ai @Item.H7 (ai @Item.yK (ai @Item.aGl (ai @Item.aGm (ai @Item.PX (ai @Cd (@By.{0})))))))))))))
def Hh(l:List Item)(i:Int):Item:=if 0<=i then l.getD i.toNat Item.zero else Item.zero
def Fx(l:List Item):Item:=Hh l ((l.length:Int)-1)
def AT{U:Type}(q:U->Bool)(l:List U):Int:=match l.reverse.findIdx? q with
 |some k=>(l.length:Int)-1 -k
 |none=> -1
def J3{U:Type}{q:U->Bool}:AT q []= -1:=rfl
def I6{U:Type}{q:U->Bool}{l:List U}{a:U}:AT q (l++[a])=if q a then(l.length:Int) else AT q l:=by
 unfold AT;rw[Iz,Jr,JQ,aOI];by_cases h:q a=true;.simp only[h,BN,Au,Be];omega
 .simp only[h,DQ,Cj,Au,Be];cases List.findIdx? q l.reverse with
  |none=>rfl
  |some k=>simp only[B0];omega
def GR{U:Type}{q:U->Bool}{l:List U}{n:Nat}(hn:n<l.length):AT q (l.take (n+1))=if q l[n] then(n:Int) else AT q (l.take n):=by rw[AB hn,I6,Aw,Cs (MR hn)]
def Dl{U:Type}{q:U->Bool}{l:List U}:(AT q l= -1/\∀a∈l,q a=false)\/∃(n:Nat) (hn:n<l.length),AT q l=(n:Int)/\q l[n]=true/\∀m (hm:m<l.length),n<m->q l[m]=false:=by
 have key:∀r:List U,(AT q r.reverse= -1/\∀a∈r.reverse,q a=false)\/∃(n:Nat) (hn:n<r.reverse.length),AT q r.reverse=(n:Int)/\q r.reverse[n]=true/\∀m (hm:m<r.reverse.length),n<m->q r.reverse[m]=false:=by
  intro r;induction r with
  |nil=>exact .inl ⟨rfl,AH⟩
  |cons a r ih=>
   rw[Ee,I6];by_cases h:q a=true;.refine .inr ⟨r.reverse.length,AH,by rw[Af h],by simp[h],λm hm hlt=>?_⟩;simp at hm hlt;omega
   .rw[Ad h];rcases ih with⟨h1,h2⟩|⟨n,hn,h1,h2,c⟩
    .exact .inl ⟨h1,λb hb=>by
      rcases Ax.1 hb with hb|hb
      .exact h2 b hb
      .simp at hb;subst hb;simpa using h⟩
    .refine .inr ⟨n,by simp at hn⊢;omega,h1,by rw[Gl hn];exact h2,λm hm hlt=>?_⟩;by_cases VC:m<r.reverse.length;.rw[Gl VC];exact c m VC hlt
     .have:m=r.reverse.length:=by simp at hm VC⊢;omega
      subst this;simpa using h
 have:=key l.reverse;rwa [Fh] at this
def At(h:Ah)(id o:Nat)(v:Aa):Prop:=∃cs,h[id]?=some (.cells cs)/\cs[o]?=some v
def put(h:Ah)(id o:Nat)(u:Aa):Ah:=match h[id]? with
 |some (.cells cs)=>h.set id (.cells (cs.set o u))
 |_=>h
section
variable{h t:Ah}{id o:Nat}{u v w:Aa}
def Io{cs:List Aa}(hc:h[id]?=some (.cells cs)):put h id o u=h.set id (.cells (cs.set o u)):=by unfold put;rw[hc]
def I7:(put h id o u).length=h.length:=by unfold put;split<;>simp
def At.lt(ha:At h id o v):id<h.length:=by obtain⟨cs,hc,_⟩:=ha;exact(Ak.1 hc).1
def At.load(ha:At h id o v):A8 h none (.ptr (some (id,o)))=some v:=by obtain⟨cs,hc,e⟩:=ha;simp only[A8,hc,E6,e]
def At.store(ha:At h id o v)(hu:u.cells=[u]):Cv h 1 (.ptr (some (id,o))) u=some (put h id o u):=by
 obtain⟨cs,hc,e⟩:=ha;have hl:=(Ak.1 e).1;rw[Io hc];simp only[Cv,hc,hu,Be,MO];have a:cs.set o u=cs.take o++[u]++cs.drop (o+1):=by rw[BZ,Af hl];simp
 rw[Af (Ab:o+1<=cs.length),a]
def At.put(ha:At h id o v):At (put h id o u) id o u:=by obtain⟨cs,hc,e⟩:=ha;have hl:=(Ak.1 e).1;have hi:=(Ak.1 hc).1;rw[Io hc];exact⟨cs.set o u,by simp[hi],by simp[hl]⟩
def At.same(ha:At h id o v):Am.put h id o v=h:=by obtain⟨cs,hc,e⟩:=ha;obtain⟨hl,e⟩:=Ak.1 e;obtain⟨hi,a⟩:=Ak.1 hc;rw[Io hc,<-e,JR,<-a,JR]
def eH:Am.put (Am.put h id o u) id o w=Am.put h id o w:=by
 cases hc:h[id]? with
 |none=>
  have e:∀u,Am.put h id o u=h:=λu=>by unfold Am.put;rw[hc]
  rw[e,e]
 |some x=>cases x with
  |cells cs=>have hi:=(Ak.1 hc).1;rw[Io hc,Io hc,Io (cs:=cs.set o u) (by simp[hi])];simp
  |_=>
   have e:∀u,Am.put h id o u=h:=λu=>by unfold Am.put;rw[hc]
   rw[e,e]
def At.HJ(ha:At h id o v):At (h++t) id o v:=by obtain⟨cs,hc,e⟩:=ha;exact⟨cs,by rw[Aj (Ak.1 hc).1];exact hc,e⟩
def eI(ha:At h id o v):Am.put (h++t) id o u=Am.put h id o u++t:=by have hi:=ha.lt;obtain⟨cs,hc,e⟩:=ha;rw[Io hc,Io (by rw[Aj hi];exact hc),List.set_append_left _ _ hi]
def Cb{i:Nat}(hn:i≠id):(Am.put h id o u)[i]?=h[i]?:=by
 unfold Am.put;split;.rw[Ao (DG hn)]
 .rfl
end
def jh(h:Ah)(p:Aa)(l:List Item):Prop:=(p= .ptr none/\l=[])\/∃id o v,p= .ptr (some (id,o))/\At h id o v/\BY l v
def Ih{l:List Item}{n:Nat}(hn:n<l.length):Hh l (n:Int)=l[n]:=by have:(0:Int)<=(n:Int):=Ab;simp[Hh,this,hn]
def OC{l:List Item}{i:Int}(h:i<0\/(l.length:Int)<=i):Hh l i=Item.zero:=by
 unfold Hh;rcases h with h|h
 .rw[Ad Ab]
 .rw[Af Ab,AJ,Ec Ab];rfl
section
variable{h:Ah}{p:Aa}{l:List Item}
def ã{s:Ai}{ws:List Ai}:decide (0<=Cn (λw=>decide (s=w)) 0 ws)=decide (s∈ws):=by
 rcases HP (p:=λw=>decide (s=w)) (l:=ws) (k:=0) with⟨h1,h2⟩|⟨n,a,h1,h2,c⟩
 .rw[h1,Dd];have:=Js.1 h2;exact⟨λh=>Ab,λh=>absurd (show s=s from rfl) (by simpa using this s h)⟩
 .rw[h1,Dd];have e:s=a:=by simpa using Vr c
  have:a∈ws:=CD h2;refine⟨λ_=>e▸this,λ_=>Ab⟩
def Bn(ws:List Ai)(a:Item):Bool:=decide (a.Bc=1/\a.name∈ws)
def Cc{ws:List Ai}:Im ws (.sl 1 (ws.map Cr)):= .mk
def Hw(n:Int)(a:Item):Bool:=
 if n=4 then Bn Oz a else if n=5 then !Bn Mr a else if a.Bc=3\/a.Bc=2 then Ew a.Bc a.name
 else Bn Qw a||(decide (n=2)&&Bn RK a)||(decide (n=3)&&Bn [aUx] a)
def DR{ws:List Ai}{args:List Aa}(e:args=ws.map Aa.str)(h:ws.length<=16777216):AD (.Dm 1) args=some (.sl 1 (ws.map Cr)):=by
 subst e;have g:(ws.map Aa.str).all (λa=>a.cells.length==1)=true:=AH;have c:(ws.map Aa.str).map (·.cells)=ws.map Cr:=by simp[Cr]
 rw[yG,g,c];simp[h]
def tP:AD (.Dm 1) [S aUi,S aUw,S aUd]=some (.sl 1 (Oz.map Cr)):=DR (ws:=Oz) rfl AM
def nW:AD (.Dm 1) [S aUO,S aUY]=some (.sl 1 (Mr.map Cr)):=DR (ws:=Mr) rfl AM
def ji:AD (.Dm 1) [S [111,108],S [117,108]]=some (.sl 1 (RK.map Cr)):=DR (ws:=RK) rfl AM
def tQ:AD (.Dm 1) [S aVc,S aUE,S aUi,S aU9,S aVe,S aUw,S [116,100],S aUd,S [116,104]]=some (.sl 1 (Qw.map Cr)):=DR (ws:=Qw) rfl AM
def jj:AD (.Dm 1) [S aUx]=some (.sl 1 ([aUx].map Cr)):=DR (ws:=[aUx]) rfl AM
def HI{U:Type}(q e:U->Bool):List U->Bool
 |[]=>false
 |a::r=>if q a then true else if e a then false else HI q e r
def tR{U:Type}{q e:U->Bool}(l:List U)(b:Bool):(if h:0<=AT (λa=>q a||e a) l/\(AT (λa=>q a||e a) l).toNat<l.length then q (l[(AT (λa=>q a||e a) l).toNat]'h.2) else false)=HI q e l.reverse:=by
 have key:∀r:List U,(if h:0<=AT (λa=>q a||e a) r.reverse/\(AT (λa=>q a||e a) r.reverse).toNat<r.reverse.length then q (r.reverse[(AT (λa=>q a||e a) r.reverse).toNat]'h.2) else false)=HI q e r:=by
  intro r;induction r with
  |nil=>simp[HI,J3]
  |cons a r ih=>
   simp only[Ee,HI];have e0:=I6 (q:=λa=>q a||e a) (l:=r.reverse) (a:=a);by_cases hq:q a=true
   .rw[Af (by simp[hq])] at e0;have c:(AT (λa=>q a||e a) (r.reverse++[a])).toNat=r.reverse.length:=by rw[e0];omega
    simp only[c];rw[qN ⟨by rw[e0];omega,AH⟩];simp[hq]
   .by_cases he:e a=true
    .rw[Af (by simp[he])] at e0;have c:(AT (λa=>q a||e a) (r.reverse++[a])).toNat=r.reverse.length:=by rw[e0];omega
     simp only[c];rw[qN ⟨by rw[e0];omega,AH⟩];simp[hq,he]
    .rw[Ad (by simp[hq,he])] at e0;simp only[hq,he,DQ,Cj,<-ih,e0];rcases Dl (q:=λa=>q a||e a) (l:=r.reverse) with⟨h1,h2⟩|⟨n,hn,h1,h2,j⟩
     .simp[h1]
     .have g:(0:Int)<=(n:Int)/\(n:Int).toNat<r.reverse.length:=⟨Ab,by simpa using hn⟩;have i:(0:Int)<=(n:Int)/\(n:Int).toNat<(r.reverse++[a]).length:=⟨Ab,by simp at hn⊢;omega⟩;simp only[h1];rw[qN g,qN i,Gl g.2]
 have:=key l.reverse;rwa [Fh] at this
def Im.cells{v:Aa}{ws:List Ai}(hv:Im ws v):v.cells=[v]:=AU.cells hv
def Br(node:Int)(a:Item):Bool:=decide (a.node=node)
end
end
section
section
variable{h:Ah}{p v:Aa}{l:List Item}
def aZ{n s:Int}{t:Ai}{b:Bool}:AD (.Co [I 0,I 0,S [],ff] [(0,1),(1,1),(2,1),(3,1)]) [.int .i64 n,.int .i64 s,.str t,.bool b]=some (.agg (Item.row ⟨n,s,t,b⟩)):=by simp only[BD];rfl
def Mt{a:Item}:AD (.Dm 4) [.agg a.row]=some (.sl 4 [a.row]):=Mp rfl AM
def L1(h:Ah)(id o:Nat)(l:List Item):Prop:=∃v,At h id o v/\BY l v
def L1.at{id o:Nat}(hs:L1 h id o l):jh h (.ptr (some (id,o))) l:=let⟨v,h1,h2⟩:=hs; .inr ⟨id,o,v,rfl,h1,h2⟩
def BY.cells(hv:BY l v):v.cells=[v]:=AU.cells hv
def GS(a:Item):Bool:=Ew a.Bc a.name
def D3(node:Int)(l:List Item):Int:=if AT (Br node) l<0 then -1 else match(l.drop ((AT (Br node) l).toNat+1)).findIdx? GS with
 |some k=>AT (Br node) l+1+k
 |none=> -1
def EZ{U:Type}(q:U->Bool)(l:List U)(n:Nat):Int:=match(l.drop n).findIdx? q with
 |some k=>(n:Int)+k
 |none=> -1
def Rf{U:Type}{q:U->Bool}{l:List U}{n:Nat}(h:l.length<=n):EZ q l n= -1:=by unfold EZ;rw[AW h];rfl
def SO{U:Type}{q:U->Bool}{l:List U}{n:Nat}(h:n<l.length):EZ q l n=if q l[n] then(n:Int) else EZ q l (n+1):=by
 unfold EZ;rw[AG h,aOI];by_cases hq:q l[n]=true;.simp only[hq,BN];omega
 .simp only[hq,Cj,DQ];cases List.findIdx? q (l.drop (n+1)) with
  |none=>rfl
  |some k=>simp only[B0];omega
def IH{node:Int}:D3 node l=if AT (Br node) l<0 then -1 else EZ GS l ((AT (Br node) l).toNat+1):=by
 unfold D3 EZ;by_cases h:AT (Br node) l<0;.simp only[h,BN]
 .simp only[h,DQ];cases(l.drop ((AT (Br node) l).toNat+1)).findIdx? GS with
  |none=>rfl
  |some k=>simp only;omega
def Ya{U:Type}(q e:U->Bool):List U->Bool
 |[]=>false
 |a::r=>(q a&& !(r.any e))||Ya q e r
def Vd{U:Type}{q e:U->Bool}{a:U}:∀{r:List U},HI q e (r++[a])=((q a&& !(r.any e))||HI q e r)
 |[]=>by by_cases h:q a=true<;>simp[HI,h]
 |b::r=>by
  simp only[CC,HI,Vd (r:=r)];by_cases h1:q b=true;.simp[h1]
  .by_cases h2:e b=true<;>simp[h1,h2]
def nX{U:Type}{q e:U->Bool}:∀{l:List U},Ya q e l=HI q e l.reverse
 |[]=>rfl
 |a::l=>by rw[Ee,Vd,Ya,nX];simp
def aCI{U:Type}{q e:U->Bool}(l:List U):(if AT q l<0 then false else !((l.drop ((AT q l).toNat+1)).any e))=HI q e l.reverse:=by
 have key:∀r:List U,(if AT q r.reverse<0 then false else !((r.reverse.drop ((AT q r.reverse).toNat+1)).any e))=HI q e r:=by
  intro r;induction r with
  |nil=>rfl
  |cons a r ih=>
   simp only[Ee,HI,I6];by_cases hq:q a=true;.simp only[hq,BN];rw[Ad Ab,AY,AW AH];rfl
   .simp only[hq,DQ,Cj,<-ih];rcases Dl (q:=q) (l:=r.reverse) with⟨h1,h2⟩|⟨n,hn,h1,h2,c⟩
    .simp[h1]
    .have i0:¬(n:Int)<0:=by omega
     rw[h1,Ad i0,Ad i0,AY,Jk Ab,Vs];cases he:e a<;>simp only[Nx,UA,he,JF,aEG,Cj,DQ,BN,R2]
 have:=key l.reverse;rwa [Fh] at this
end
end
section
def Ev.ret{C:FY}{f:FuncId}{args:List Aa}{h:Ah}{R:Aa->Ah->Prop}(hw:Ev C f args h R):∃r h',BL C f args h r h'/\R r h':=by obtain⟨n,x,vs,h',e,hx,r,hv,hR⟩:=hw;exact⟨r,h',⟨n,x,vs,h',e,hx,hv,rfl⟩,hR⟩
def PY(b a:Item->Bool):List Item->List Item
 |x::y::r=>if b x then x::y::r else if a x then y::r else PY b a (y::r)
 |r=>r
def Dq(b a:Item->Bool)(l:List Item):List Item:=(PY b a l.reverse).reverse
def jk{b a:Item->Bool}{l:List Item}(h:l.length<=1):PY b a l=l:=by
 match l with
 |[]=>rfl
 |[x]=>rfl
 |x::y::r=>simp at h
def Yb{b a:Item->Bool}{l:List Item}(h:l.length<=1):Dq b a l=l:=by unfold Dq;rw[jk (by simpa using h),Fh]
def bA{b a:Item->Bool}{l:List Item}{x:Item}(h:1<=l.length):Dq b a (l++[x])=if b x then l++[x] else if a x then l else Dq b a l:=by
 unfold Dq;rw[Iz,Jr,JQ];cases hr:l.reverse with
 |nil=>
  have:l=[]:=by simpa using hr
  subst this;simp at h
 |cons y r=>
  have hl:l=r.reverse++[y]:=by rw[<-Fh l,hr,Ee]
  rw[PY];by_cases h1:b x=true;.rw[Af h1,Af h1];rw[hl];simp
  .rw[Ad h1,Ad h1];by_cases h2:a x=true;.rw[Af h2,Af h2];rw[hl];simp
   .rw[Ad h2,Ad h2]
def bB{b a:Item->Bool}{l:List Item}{n:Nat}(hn:n+1<l.length):Dq b a (l.take (n+2))=if b l[n+1] then l.take (n+2) else if a l[n+1] then l.take (n+1) else Dq b a (l.take (n+1)):=by have e:l.take (n+2)=l.take (n+1)++[l[n+1]]:=AB hn;rw[e,bA (by rw[Aw];omega)]
def Qx{b a:Item->Bool}:∀{l:List Item},(Dq b a l).length<=l.length:=by
 have key:∀r:List Item,(PY b a r).length<=r.length:=by
  intro r;induction r with
  |nil=>simp[PY]
  |cons x r ih=>
   cases r with
   |nil=>simp[PY]
   |cons y r=>
    rw[PY];split;.simp
    .split;.simp
     .exact Bs ih AH
 intro l;have:=key l.reverse;simpa[Dq] using this
section
variable{h:Ah}{p v:Aa}{l:List Item}
def Yc{n:Nat}(hn:n<l.length):Fx (l.take (n+1))=l[n]:=by
 have e:((l.take (n+1)).length:Int)-1=(n:Int):=by rw[Aw];omega
 unfold Fx;rw[e,Ih (by rw[Aw];omega)];simp
def L1.eJ{id o:Nat}(hs:L1 h id o l):∃u,h=put h id o u/\BY l u:=by obtain⟨u,hc,hu⟩:=hs;exact⟨u,hc.same.symm,hu⟩
def L1.lt{id o:Nat}(hs:L1 h id o l):∃v,At h id o v:=let⟨u,hc,_⟩:=hs;⟨u,hc⟩
def L1.aCJ{id o:Nat}{u:Aa}(hlt:∃v,At h id o v)(hu:BY l u):L1 (put h id o u) id o l:=let⟨_,ha⟩:=hlt;⟨u,ha.put,hu⟩
def Cu(_:Item):Bool:=false
def C2(s:Ai)(a:Item):Bool:=decide (a.Bc≠1\/a.name∉Gx\/a.name=s)
def CJ(a:Item):Bool:=decide (a.Bc≠1\/¬(a.name∈J1\/a.name∈Gx))
def GU(node:Int)(l:List Item):List Item:=if AT (Br node) l<0 then l else Dq Cu (Br node) l
def Km(l:List Item)(i:Int):List Item:=l.take (max 1 i.toNat)
def KR{q:Item->Bool}(l:List Item):Dq Cu q l=Km l (AT q l):=by
 have key:∀r:List Item,Dq Cu q r.reverse=Km r.reverse (AT q r.reverse):=by
  intro r;induction r with
  |nil=>rfl
  |cons x r ih=>
   rw[Ee,I6];rcases Jq r.length with h0|h0
   .have:r=[]:=LV.1 h0;subst this;by_cases hq:q x=true<;>simp[hq,Km,Dq,PY,J3]
   .have h1:1<=r.reverse.length:=by rw[KZ];omega
    rw[bA h1];by_cases hq:q x=true;.rw[Ad (by simp[Cu]),Af hq,Af hq];unfold Km;rw[AY,wR h1,CL (Ag _),Bx]
    .rw[Ad (by simp[Cu]),Ad hq,Ad hq,ih];unfold Km;rw[CL];rcases Dl (q:=q) (l:=r.reverse) with⟨a,_⟩|⟨n,hn,a,_⟩<;>rw[a]<;>omega
 have:=key l.reverse;rwa [Fh] at this
def Ve{node:Int}(l:List Item):GU node l=if AT (Br node) l<0 then l else Km l (AT (Br node) l):=by unfold GU;rw[KR]
end
end
section
section
variable{h:Ah}{p v:Aa}{l:List Item}
def ud(l:List Item):∀r∈l.map Item.row,r.length=4:=Mq (f:=Item.row) (λa=>Item.CP) l
def Rg{n:Nat}(h:n<=2000000000):n*40<=AX:=by have:AX=140737488355328:=rfl;omega
def Bf{U:Type}(l:List U)(k:Nat):List U:=l.take k++l.drop (k+1)
def CW(node:Int)(l:List Item):List Item:=if AT (Br node) l<1 then l else Bf l (AT (Br node) l).toNat
def E0(i:Int)(n:Nat):Nat:=min (max i 1).toNat n
def PZ(node:Int)(a:Item)(l:List Item):List Item:=if AT (Br node) l<1 then l else l.set (AT (Br node) l).toNat a
def eK(h:Ah)(l:List Item)(r:Aa)(h':Ah):Prop:=(l=[]/\r= .slnil/\h'=h)\/(l≠[]/\r= .CF h.length 0 l.length 4/\h'=h++[.cells (l.map Item.row).flatten])
def ä(hv:BY l v)(hb:l.length<=1000000000):∃r h',KK h 4 40 .slnil v=some (h',r)/\eK h l r h':=by
 by_cases hne:l=[];.subst hne;exact⟨_,_,PS (.inl rfl) hv,.inl ⟨rfl,rfl,rfl⟩⟩
 .have a:=Lr (h:=h) (s:= .slnil) (z:=4) (b:=40) (.inl rfl) hv (by simpa using hne) (by rw[An];exact Rg Ab);rw[An] at a;exact⟨_,_,a,.inr ⟨hne,rfl,rfl⟩⟩
def eK.Pk{r:Aa}{h':Ah}(hc:eK h l r h'):∃u t,KA h' r=some (h++t,u)/\BY l u:=by
 rcases hc with⟨rfl,rfl,rfl⟩|⟨hne,rfl,rfl⟩
 .exact⟨.slnil,[],by rw[By];rfl,.nil⟩
 .have a:(h++[DA.cells (l.map Item.row).flatten])[h.length]?=some (.cells (l.map Item.row).flatten):=by simp
  have f1:=J0 (ud l) a;rw[An] at f1;refine⟨.sl 4 (l.map Item.row),[.CR],?_,.mk⟩;rw[f1];congr 2
  rw[BO _ _ (Ag _)];simp
end
end
section
end
section
section
variable{h:Ah}{p v w:Aa}{l:List Item}{ws:List Ai}
def ue:Km l (-1)=Km l 1:=rfl
def EA(s:Ai)(all:Bool)(a:Item):Bool:=if all then CJ a else C2 s a
end
end
section
def fT:List (Ai×Int×Ai):=[(aUI,4,aVg),(aUH,4,aVf),(aUR,4,aVD),(aUS,4,aVE),(aUT,4,aVF),(aUL,4,aUz),(aUU,4,aU8),(aUX,5,[108,97,110,103]),(aUM,5,aVu),(aUN,6,aUN),(aUD,6,aVb)]
def Yd(x:Ai×Int×Ai):Aa×Aa:=(.str x.1,.agg [.int .i64 x.2.1,.str x.2.2,.str []])
def ft(n:Nat):List (Aa×Aa):=(fT.take n).map Yd
def aGn:Ny aUI (.agg [.int .i64 4,.str aVg,.str []]) (ft 0)=some (ft 1):=by kernel_rfl
def aGo:Ny aUH (.agg [.int .i64 4,.str aVf,.str []]) (ft 1)=some (ft 2):=by kernel_rfl
def aGp:Ny aUR (.agg [.int .i64 4,.str aVD,.str []]) (ft 2)=some (ft 3):=by kernel_rfl
def aGq:Ny aUS (.agg [.int .i64 4,.str aVE,.str []]) (ft 3)=some (ft 4):=by kernel_rfl
def aGr:Ny aUT (.agg [.int .i64 4,.str aVF,.str []]) (ft 4)=some (ft 5):=by kernel_rfl
def aGs:Ny aUL (.agg [.int .i64 4,.str aUz,.str []]) (ft 5)=some (ft 6):=by kernel_rfl
def aGt:Ny aUU (.agg [.int .i64 4,.str aU8,.str []]) (ft 6)=some (ft 7):=by kernel_rfl
def aGu:Ny aUX (.agg [.int .i64 5,.str [108,97,110,103],.str []]) (ft 7)=some (ft 8):=by kernel_rfl
def aGv:Ny aUM (.agg [.int .i64 5,.str aVu,.str []]) (ft 8)=some (ft 9):=by kernel_rfl
def aGw:Ny aUN (.agg [.int .i64 6,.str aUN,.str []]) (ft 9)=some (ft 10):=by kernel_rfl
def aCK:Ny aUD (.agg [.int .i64 6,.str aVb,.str []]) (ft 10)=some (ft 11):=by kernel_rfl
def tS{h:Ah}{es:List (Aa×Aa)}{s:Ai}{v:Aa}:Q2 (h++[.map es]) (.map (some h.length)) (.str s) v=(Ny s v es).map λes=>h++[.map es]:=by simp[Q2]
def Ea(n:Ai):Option (Int×Ai):=(fT.find? λx=>decide (n=x.1)).map (·.2)
def Ye(n:Ai):∀l:List (Ai×Int×Ai),Sf n (l.map Yd)=some ((l.find? λx=>decide (n=x.1)).map λx=>(Yd x).2)
 |[]=>rfl
 |x::l=>by
  rw[Bl,FF,Yd,Sf];by_cases e:n=x.1;.rw[Af e,As e];rfl
  .rw[Ad e,Ap e];exact Ye n l
def Mu{h:Ah}{n:Ai}:Pq (h++[.map (ft 11)]) (.agg [.int .i64 0,.str [],.str []]) true (.map (some h.length)) (.str n)=
  some (match Ea n with|some (s,m)=> .tuple [.agg [.int .i64 s,.str m,.str []],.bool true]|none=> .tuple [.agg [.int .i64 0,.str [],.str []],.bool false]):=by
 have e:TM (h++[.map (ft 11)]) (.map (some h.length)) (.str n)=Sf n (fT.map Yd):=by simp[TM,ft,fT]
 rw[Pq,e,Ye,Ea];cases fT.find? λx=>decide (n=x.1)<;>rfl
abbrev aCL:Ai:=aUW
abbrev VK:Ai:=aUZ
def Kn(sp:Int)(n:Ai):Ai:=if sp=2 then Cq n Ig else if sp=3/\n=aCL then VK else n
def C5(sp:Int)(a:A5):A5:=
 if sp=2\/sp=3 then match Ea (Kn sp a.name) with
  |some (s,m)=>⟨s,m,a.value⟩
  |none=>⟨0,Kn sp a.name,a.value⟩
 else⟨0,a.name,a.value⟩
def SP(s:Ai):(Fo s).length=s.length:=by simp[Fo]
def LI(n:Ai):∀ws,Cq n ws=n\/(Cq n ws∈ws/\Fo (Cq n ws)=n)
 |[]=> .inl rfl
 |w::ws=>by
  rw[Cq];split;.rename_i e;exact .inr ⟨List.mem_cons_self,e⟩
  .rcases LI n ws with h|⟨h1,h2⟩
   .exact .inl h
   .exact .inr ⟨Zf _ h1,h2⟩
def SQ(n:Ai)(ws:List Ai):(Cq n ws).length=n.length:=by
 rcases LI n ws with h|⟨_,h⟩
 .rw[h]
 .rw[<-SP,h]
def Ej{a b c:Aa}:AD (.Dm 3) [.agg [a,b,c]]=some (.sl 3 [[a,b,c]]):=rfl
def A5.CP{a:A5}:a.row.length=3:=rfl
def A5.H7{a:A5}:a.row.take 3=a.row:=rfl
section
variable{v:Aa}{l:List A5}{h:Ah}
def nY{a b:A5}{neg:Bool}:AD (.geq neg [.i,.s,.s]) [.agg a.row,.agg b.row]=some (.bool (decide (a=b) != neg)):=by
 rw[RI];have:D8 [.i,.s,.s] a.row b.row=some (decide (a=b)):=by simp only[D8,LC,A5.row,BN,BB];cases a;cases b;simp only[A5.mk.injEq];rw[OU];simp
 rw[this];rfl
def L2:List Ai:=[aUI,aUH,aUR,aUS,aUT,aUL,aUU]
def å{s:Ai}:F0 aUh s=decide (s∈L2):=D9 C4 C4
def T3{k:IntKind}{s:Ai}{a z:Nat}(ha:a<=s.length):AD (.K0 z true true false) [.str s,.int k (a:Int)]=some (.str (s.drop a)):=by
 have c:Fm (a:Int) s.length=some a:=by unfold Fm;rw[Af Ab];rfl
 simp[AD,Kd,Ed,c]
abbrev nZ:Ai:=aUX
abbrev Yf:Ai:=aUM
abbrev oA:Ai:=aUN
abbrev Yg:Ai:=aUD
def ZK:∀s∈L2,6<=s.length/\Ea s=some (4,s.drop 6):=AM
def eL{s:Ai}(h1:s∉L2)(h2:s≠nZ)(g:s≠Yf)(c:s≠oA)(a:s≠Yg):Ea s=none:=by simp only[L2,AS,KF,qO,MN] at h1;obtain⟨a1,a2,a3,a4,a5,a6,a7⟩:=h1;simp only[Ea,fT,FF,List.find?_nil,Ap a1,Ap a2,Ap a3,Ap a4,Ap a5,Ap a6,Ap a7,Ap h2,Ap g,Ap c,Ap a,Option.map_none]
abbrev tT:Ai:=aVb
def Rh(s:Ai):(s∈L2/\6<=s.length/\Ea s=some (4,s.drop 6))\/(s∉L2/\((s=nZ/\4<=s.length/\Ea s=some (5,s.drop 4))\/(¬s=nZ/\((s=Yf/\4<=s.length/\Ea s=some (5,s.drop 4))\/(¬s=Yf/\((s=oA/\Ea s=some (6,s))\/(¬s=oA/\((s=Yg/\Ea s=some (6,tT))\/(¬s=Yg/\Ea s=none))))))))):=by
 by_cases a:s∈L2;.exact .inl ⟨a,ZK s a⟩
 refine .inr ⟨a,?_⟩;by_cases j:s=nZ;.subst j;decide
 refine .inr ⟨j,?_⟩;by_cases i:s=Yf;.subst i;decide
 refine .inr ⟨i,?_⟩;by_cases g:s=oA;.subst g;decide
 refine .inr ⟨g,?_⟩;by_cases c:s=Yg;.subst c;decide
 exact .inr ⟨c,eL a j i g c⟩
def sl6{s:Ai}(h:6<=s.length):AD (.K0 0 true true false) [.str s,.int .i64 6]=some (.str (s.drop 6)):=T3 h
def sl4{s:Ai}(h:4<=s.length):AD (.K0 0 true true false) [.str s,.int .i64 4]=some (.str (s.drop 4)):=T3 h
end
end
section
structure Cp where
 node:Int
 name:Ai
 Ay:List A5
deriving DecidableEq
structure Cl where
 c:Cp
 v:Aa
 ok:Bt c.Ay v
def Cl.row(e:Cl):List Aa:=[.int .i64 e.c.node,.str e.c.name,e.v]
def Dw(l:List Cl)(v:Aa):Prop:=AU 3 (l.map Cl.row) v
section
variable{e:Cl}{d:Aa}
def Cl.CP:e.row.length=3:=rfl
def Cl.g0:e.row.getD 0 d= .int .i64 e.c.node:=rfl
def Cl.g1:e.row.getD 1 d= .str e.c.name:=rfl
def Cl.g2:e.row.getD 2 d=e.v:=rfl
def Cl.at0:e.row[0]?=some (.int .i64 e.c.node):=rfl
def Cl.H7:e.row.take 3=e.row:=rfl
def Cl.yK:e.row.drop 1=[.str e.c.name,e.v]:=rfl
def Cl.PX:[Aa.int .i64 e.c.node,.str e.c.name,e.v]=e.row:=rfl
def Cl.æ:AD (.len false) [e.v]=some (.int .i64 (e.c.Ay.length:Int)):=AU.CN e.ok
end
def A5.g0{a:A5}{d:Aa}:a.row.getD 0 d= .int .i64 a.Bc:=rfl
def A5.g1{a:A5}{d:Aa}:a.row.getD 1 d= .str a.name:=rfl
def A5.g2{a:A5}{d:Aa}:a.row.getD 2 d= .str a.value:=rfl
def A5.PX{a:A5}:[Aa.int .i64 a.Bc,.str a.name,.str a.value]=a.row:=rfl
def P0{n:Nat}(h:n<=2000000000):n*48<=AX:=by have:AX=140737488355328:=rfl;omega
def T4(e:Cl):Bool:=decide (e.c.node=0)
def P1(n:Int)(e:Cl):Bool:=decide (e.c.node=n)
def since(l:List Cl):Int:=AT T4 l+1
def jl:since []=0:=rfl
def tU{l:List Cl}{e:Cl}:since (l++[e])=if e.c.node=0 then(l.length:Int)+1 else since l:=by unfold since;rw[I6];by_cases h:e.c.node=0<;>simp[T4,h]
def Yh{l:List Cl}{n:Nat}(hn:n<l.length):since (l.take (n+1))=if l[n].c.node=0 then(n:Int)+1 else since (l.take n):=by rw[AB hn,tU,Aw,Cs (MR hn)]
def JO(l:List Cl):∃s:Nat,since l=(s:Int)/\s<=l.length/\(∀m (hm:m<l.length),s<=m->l[m].c.node≠0)/\(∀t,s=t+1->∃ht:t<l.length,l[t].c.node=0):=by
 rcases Dl (q:=T4) (l:=l) with⟨h1,h2⟩|⟨n,hn,h1,h2,a⟩
 .refine⟨0,by unfold since;rw[h1];rfl,AV _,λm hm _=>?_,λt ht=>by omega⟩;have:=h2 _ (AL hm);simpa[T4] using this
 .refine⟨n+1,by unfold since;rw[h1];rfl,hn,λm hm En=>?_,λt ht=>?_⟩;.have:=a m hm Ab;simpa[T4] using this
  .obtain rfl:t=n:=by omega
   exact⟨hn,by simpa[T4] using h2⟩
section
variable{h:Ah}{v:Aa}{l:List Cl}{id:Nat}
def yL(name:Ai):List Cl->Int
 |[]=> -1
 |e::t=>if e.c.node=0 then -1 else if e.c.name=name then(t.length:Int) else yL name t
def NU(name:Ai)(l:List Cl):Int:=yL name l.reverse
def RM{name:Ai}{n:Nat}(hn:n<l.length):NU name (l.take (n+1))=if l[n].c.node=0 then -1 else if l[n].c.name=name then(n:Int) else NU name (l.take n):=by rw[AB hn,NU,Iz,Jr,JQ,yL,KZ,Aw,Cs (MR hn),NU]
def jm{name:Ai}:NU name []= -1:=rfl
def oB{name:Ai}{s:Nat}(hs:since l=(s:Int)):NU name (l.take s)= -1:=by
 obtain⟨s',e,h1,h2,a⟩:=JO l;obtain rfl:s=s':=Ab;cases s with
 |zero=>rfl
 |succ t=>obtain⟨ht,h0⟩:=a t rfl;rw[RM ht,Af h0]
def Hy(node:Int)(l:List Cl):Int:=if node=0 then -1 else AT (P1 node) l
end
section
variable{h:Ah}{v:Aa}{l:List A5}
def GG(a b:Cp):Bool:=decide (a.name=b.name/\a.Ay.length=b.Ay.length/\(∀x∈a.Ay,x∈b.Ay)/\∀x∈b.Ay,x∈a.Ay)
def ZL(e:Cl):Prop:=e.c.Ay.length<=1000000000
end
end
section
mutual
def Aa.SR:∀a:Aa,Aa.beq a a=true
 | .bool a=>by simp[Aa.beq]
 | .int k a=>by simp[Aa.beq]
 | .str a=>by simp[Aa.beq]
 | .ptr a=>by simp[Aa.beq]
 | .CH a=>by simp[Aa.beq,Aa.KS a]
 | .sl n a=>by simp[Aa.beq,Aa.Yi a]
 | .Gf _=>by simp[Aa.beq]
 | .slnil=>by simp[Aa.beq]
 | .CF a c d e=>by simp[Aa.beq]
 | .map a=>by simp[Aa.beq]
 | .func f a c=>by simp[Aa.beq,Aa.KS a,Aa.KS c]
 | .nilFunc=>by simp[Aa.beq]
 | .iface t a=>by simp[Aa.beq,Aa.SR a]
 | .nilIface=>by simp[Aa.beq]
 | .agg a=>by simp[Aa.beq,Aa.KS a]
 | .tuple a=>by simp[Aa.beq,Aa.KS a]
def Aa.KS:∀a:List Aa,Aa.Sc a a=true
 |[]=>by simp[Aa.Sc]
 |a::x=>by simp[Aa.Sc,Aa.SR a,Aa.KS x]
def Aa.Yi:∀a:List (List Aa),Aa.Sd a a=true
 |[]=>by simp[Aa.Sd]
 |a::x=>by simp[Aa.Sd,Aa.KS a,Aa.Yi x]
end
def T5(h:Ah)(id o:Nat)(l:List Cl):Prop:=∃u,At h id o u/\Dw l u
def Dw.cells{l:List Cl}{v:Aa}(hv:Dw l v):v.cells=[v]:=AU.cells hv
def T5.lt{h:Ah}{id o:Nat}{l:List Cl}(hs:T5 h id o l):∃v,At h id o v:=let⟨u,hc,_⟩:=hs;⟨u,hc⟩
def OD(l:List Cl):∀r∈l.map Cl.row,r.length=3:=Mq (f:=Cl.row) (λa=>Cl.CP) l
section
variable{h:Ah}{v:Aa}{l:List Cl}{id:Nat}
def Mc{r:List Aa}(h:r.length=3):AD (.Dm 3) [.agg r]=some (.sl 3 [r]):=Mp (a:= .agg r) h AM
def oC(n:Int)(l:List Cl):Hy n l= -1\/∃k:Nat,k<l.length/\Hy n l=(k:Int):=by
 unfold Hy;split;.exact .inl rfl
 .rcases Dl (q:=P1 n) (l:=l) with⟨h1,_⟩|⟨k,hk,h1,_⟩
  .exact .inl h1
  .exact .inr ⟨k,hk,h1⟩
def eM:Cl:=⟨⟨0,[],[]⟩,.slnil,.nil⟩
def uf:[I 0,S [],Aa.slnil]=eM.row:=rfl
def CI(i:Int)(n:Nat):Nat:=min (max i 0).toNat n
def ER(l:List Cl):Nat:=(since l-1).toNat
end
end
section
def ç(e:Cp):List Cl->Nat
 |[]=>0
 |x::t=>if x.c.node=0 then 0 else ç e t+(if GG x.c e=true then 1 else 0)
def tV(e:Cp):List Cl->Int
 |[]=> -1
 |x::t=>if x.c.node=0 then -1 else if 0<=tV e t then tV e t else if GG x.c e=true then(t.length:Int) else -1
def SU(e:Cp)(l:List Cl):Nat:=ç e l.reverse
def NV(e:Cp)(l:List Cl):Int:=tV e l.reverse
section
variable{e:Cp}{l:List Cl}{n s:Nat}
def T6(hn:n<l.length):SU e (l.take (n+1))=if l[n].c.node=0 then 0 else SU e (l.take n)+(if GG l[n].c e=true then 1 else 0):=by rw[AB hn,SU,Iz,Jr,JQ,ç,SU]
def T7(hn:n<l.length):NV e (l.take (n+1))=if l[n].c.node=0 then -1 else if 0<=NV e (l.take n) then NV e (l.take n) else if GG l[n].c e=true then(n:Int) else -1:=by rw[AB hn,NV,Iz,Jr,JQ,tV,NV,KZ,Aw,Cs (MR hn)]
def Yj(hs:since l=(s:Int)):SU e (l.take s)=0/\NV e (l.take s)= -1:=by
 obtain⟨s',e,h1,h2,a⟩:=JO l;obtain rfl:s=s':=Ab;cases s with
 |zero=>exact⟨rfl,rfl⟩
 |succ t=>obtain⟨ht,h0⟩:=a t rfl;exact⟨by rw[T6 ht,Af h0],by rw[T7 ht,Af h0]⟩
end
def LJ(e:Cp)(l:List Cl):List Cl:=if e.node≠0/\3<=SU e l then Bf l (NV e l).toNat else l
section
variable{h:Ah}{v:Aa}{l:List Cl}{id:Nat}
end
end
section
section
variable{h:Ah}{v:Aa}{l:List Cl}{id:Nat}
end
end
end Go.Am
end
section
namespace Go.Am
structure ES where
 kind:Int:=0
 FM:Int:=0
 Bb:List Int:=[]
 CQ:Int:=0
 Bc:Int:=0
 name:Ai:=[]
 Ay:List A5:=[]
 data:Ai:=[]
 pub:Ai:=[]
 sys:Ai:=[]
 CK:Bool:=false
 cont:Int:=0
 Em:Int:=0
deriving DecidableEq
structure Ar where
 n:List ES
 i:List Int
abbrev AZ:Ai:=aUd
def eO(x:ES):Prop:=x.kind=4/\x.Bc=1/\x.name=AZ
instance(x:ES):Decidable (eO x):=by unfold eO;infer_instance
namespace Ar
def len(A:Ar):Int:=A.n.length
def has(A:Ar)(h:Int):Prop:=1<=h/\h<=A.n.length
instance(A:Ar)(h:Int):Decidable (A.has h):=by unfold has;infer_instance
def nd(A:Ar)(h:Int):ES:=if A.has h then A.n.getD (h.toNat-1) {} else{}
def inr(A:Ar)(h:Int):Int:=if A.has h then A.i.getD (h.toNat-1) 0 else 0
def set(A:Ar)(h:Int)(x:ES):Ar:={n:=if A.has h then A.n.set (h.toNat-1) x else A.n,i:=A.i}
def I8(A:Ar)(h:Int)(x:Int):Ar:={n:=A.n,i:=if A.has h then A.i.set (h.toNat-1) x else A.i}
def add(A:Ar)(x:ES):Ar:={n:=A.n++[x],i:=A.i++[0]}
def up(A:Ar)(h:Int):Int:=if(A.nd h).FM≠0 then(A.nd h).FM else(A.nd h).Em
end Ar
section
variable{A:Ar}{h k:Int}{x y:ES}
def HK(a:¬A.has h):A.nd h={}:=by unfold Ar.nd;rw[Ad a]
def Jw:(A.set h x).n.length=A.n.length:=by simp only[Ar.set];split<;>simp
def è:(A.set h x).len=A.len:=by unfold Ar.len;rw[Jw]
def Iv:(A.set h x).has k↔A.has k:=by unfold Ar.has;rw[Jw]
def JP:(A.set h x).nd k=if k=h/\A.has h then x else A.nd k:=by
 unfold Ar.nd;simp only[Iv];by_cases hk:A.has k
 .rw[Af hk,Af hk];simp only[Ar.set];by_cases a:A.has h
  .rw[Af a];have h1:=a;have h2:=hk;unfold Ar.has at h1 h2;by_cases e:k=h;.subst e;rw[Af ⟨rfl,a⟩,AJ,AO Ab];rfl
   .rw[Ad (by simp[e]),AJ,Ao Ab,AJ]
  .rw[Ad a,Ad (by simp[a])]
 .rw[Ad hk,Ad hk,Ad];rintro⟨rfl,h2⟩;exact hk h2
def SV:(A.set h x).inr k=A.inr k:=by unfold Ar.inr;simp only[Iv];rfl
def OE:(A.add x).len=A.len+1:=by simp[Ar.len,Ar.add]
def DS:(A.add x).has k↔A.has k\/k=A.len+1:=by simp[Ar.has,Ar.add,Ar.len];omega
def II:(A.add x).nd k=if k=A.len+1 then x else A.nd k:=by
 unfold Ar.nd;simp only[DS];by_cases e:k=A.len+1;.subst e;simp[Ar.add,Ar.len]
 .by_cases hk:A.has k;.rw[Af (.inl hk),Ad e,Af hk];unfold Ar.has at hk;simp only[Ar.add,AJ];rw[Aj Ab]
  .rw[Ad (by simp[hk,e]),Ad e,Ad hk]
def Wm(hl:A.i.length=A.n.length):(A.add x).inr k=A.inr k:=by
 unfold Ar.inr;simp only[DS];by_cases e:k=A.len+1
 .subst e;have:¬A.has (A.len+1):=by unfold Ar.has Ar.len;omega
  rw[Af (.inr rfl),Ad this];simp[Ar.add,Ar.len,<-hl]
 .by_cases hk:A.has k;.rw[Af (.inl hk),Af hk];unfold Ar.has at hk;simp only[Ar.add,AJ];rw[Aj Ab]
  .rw[Ad (by simp[hk,e]),Ad hk]
def SX:(A.I8 h k).len=A.len:=rfl
def NW{m:Int}:(A.I8 h m).has k↔A.has k:=aEF
def SY{m:Int}:(A.I8 h m).nd k=A.nd k:=by rfl
def P2{m:Int}(hl:A.i.length=A.n.length):(A.I8 h m).inr k=if k=h/\A.has h then m else A.inr k:=by
 unfold Ar.inr;simp only[NW];by_cases hk:A.has k
 .rw[Af hk,Af hk];simp only[Ar.I8];by_cases a:A.has h
  .rw[Af a];have h1:=a;have h2:=hk;unfold Ar.has at h1 h2;by_cases e:k=h;.subst e;rw[Af ⟨rfl,a⟩,AJ,AO Ab];rfl
   .rw[Ad (by simp[e]),AJ,Ao Ab,AJ]
  .rw[Ad a,Ad (by simp[a])]
 .rw[Ad hk,Ad hk,Ad];rintro⟨rfl,h2⟩;exact hk h2
end
def DF(a:A5):Int×Ai:=(a.Bc,a.name)
def Hz(out:List A5):List A5->List A5
 |[]=>out
 |x::l=>if out.any (λy=>decide (DF x=DF y)) then Hz out l else Hz (out++[x]) l
def Cz(l:List A5):List A5:=Hz [] l
def RO:∀{l out:List A5},(out.map DF).Nodup->((Hz out l).map DF).Nodup
 |[],_,h=>h
 |x::l,out,h=>by
  rw[Hz];split;.exact RO h
  .rename_i hn;refine RO ?_;rw[BF,B3];refine⟨h,AH,?_⟩;rintro a ha b hb rfl;simp at hb;subst hb;simp at ha hn;obtain⟨y,hy,e⟩:=ha;exact hn y hy e.symm
def oD:∀{l out:List A5},((out++l).map DF).Nodup->Hz out l=out++l
 |[],out,_=>by simp[Hz]
 |x::l,out,h=>by
  rw[Hz,Ad,oD (by simpa using h)];.simp
  .intro ha;rw[BF,B3] at h;simp at ha;obtain⟨y,hy,e⟩:=ha;exact h.2.2 _ (Bk.2 ⟨y,hy,e.symm⟩) _ AH rfl
def jn(l:List A5):((Cz l).map DF).Nodup:=RO AH
def é{l:List A5}(h:(l.map DF).Nodup):Cz l=l:=by have:=oD (out:=[]) (l:=l) (by simpa using h);simpa[Cz] using this
def bC(l:List A5):Cz (Cz l)=Cz l:=é (jn l)
def T8:∀{l out:List A5} {a:A5},a∈Hz out l->a∈out\/a∈l
 |[],_,_,h=> .inl h
 |x::l,out,a,h=>by
  rw[Hz] at h;split at h
  .rcases T8 h with h|h
   .exact .inl h
   .exact .inr (by simp[h])
  .rcases T8 h with h|h
   .simp at h;rcases h with h|rfl
    .exact .inl h
    .exact .inr AH
   .exact .inr (by simp[h])
def oE{l:List A5}{a:A5}(h:a∈Cz l):a∈l:=by simpa using T8 h
def Yk:∀{l out:List A5},(Hz out l).length<=out.length+l.length
 |[],out=>by simp[Hz]
 |x::l,out=>by
  rw[Hz];split;.have:=Yk (l:=l) (out:=out);simp;omega
  .have:=Yk (l:=l) (out:=out++[x]);simp at this⊢;omega
def Qy{l:List A5}:(Cz l).length<=l.length:=by have:=Yk (l:=l) (out:=[]);simpa[Cz] using this
structure np(x:ES):Prop where
 k:1<=x.kind/\x.kind<=6
 Bb:x.Bb≠[]->x.kind=1\/x.kind=2\/x.kind=4
 elem:x.kind≠4->x.Bc=0/\x.Ay=[]
 nm:x.kind≠4->x.kind≠3->x.name=[]
 dt:x.kind≠3->x.pub=[]/\x.sys=[]
 data:x.kind≠5->x.kind≠6->x.data=[]
 CK:x.kind≠1->x.CK=false
 sp:0<=x.Bc/\x.Bc<=7
 C_:∀a∈x.Ay,0<=a.Bc/\a.Bc<=7
 Cz:Cz x.Ay=x.Ay
 Vf:x.cont≠0->eO x
 P3:x.Em≠0->x.kind=2
 root:x.FM≠0->x.kind≠1/\x.kind≠2
 jo:x.Bb.Nodup
structure EJ(A:Ar)(e:Int):Prop where
 il:A.i.length=A.n.length
 SZ:∀h,A.has h->np (A.nd h)
 CQ:∀h,A.has h->A.has (A.nd h).CQ/\(A.nd (A.nd h).CQ).kind=1
 eP:∀h,A.has h->(A.nd h).kind=1->(A.nd h).CQ=h
 FM:∀h,A.has h->(A.nd h).FM≠0->A.has (A.nd h).FM/\h∈(A.nd (A.nd h).FM).Bb
 M4:∀h,A.has h->∀k∈(A.nd h).Bb,A.has k/\(A.nd k).FM=h
 eQ:∀h,A.has h->h≠e->eO (A.nd h)->(A.nd h).cont≠0
 cont:∀h,A.has h->(A.nd h).cont≠0->A.has (A.nd h).cont/\(A.nd (A.nd h).cont).kind=2/\(A.nd (A.nd h).cont).Em=h
 Em:∀h,A.has h->(A.nd h).Em≠0->A.has (A.nd h).Em/\(A.nd (A.nd h).Em).cont=h
 ine:∀h,A.has h->A.inr h≠0->A.has (A.inr h)/\(A.nd (A.inr h)).kind=1
 eR:∃r:Int->Nat,∀h,A.has h->A.up h≠0->r (A.up h)<r h
section
variable{A:Ar}{e h k:Int}{x y:ES}
def RP:¬A.has (A.len+1):=by unfold Ar.has Ar.len;omega
def Yl(a:¬A.has h):A.up h=0:=by unfold Ar.up;rw[HK a];simp
def tW(ok:EJ A e)(a:A.has h)(hu:A.up h≠0):A.has (A.up h):=by
 unfold Ar.up at hu⊢;split;.rename_i h1;exact(ok.FM h a h1).1
 .rename_i h1;rw[Ad h1] at hu;exact(ok.Em h a hu).1
def Ym(ok:EJ A e)(hx:np x)(hd:(x.kind=1/\x.CQ=A.len+1)\/(x.kind≠1/\A.has x.CQ/\(A.nd x.CQ).kind=1))(hp:x.FM=0)(hk:x.Bb=[])(hc:x.cont=0)(a:x.Em=0)(b:eO x->e=A.len+1):EJ (A.add x) e:=by
 have no:=RP (A:=A);obtain⟨r,hr⟩:=ok.eR;have ne:∀{k},A.has k->k≠A.len+1:=λhk e=>no (e▸hk);refine⟨by simp[Ar.add,ok.il],?_,?_,?_,?_,?_,?_,?_,?_,?_,r,?_⟩<;>intro m hm<;>rw[DS] at hm<;>(try rw[Wm ok.il])<;>simp only[Ar.up,II,DS]<;>rcases hm with hm|rfl
 all_goals first|(rw[Ad (ne hm)])|(rw[Af rfl])|skip
 .exact ok.SZ m hm
 .exact hx
 .have:=ok.CQ m hm;rw[Ad (ne this.1)];exact⟨.inl this.1,this.2⟩
 .rcases hd with⟨h1,h2⟩|⟨h1,h2,c⟩
  .rw[Af h2];exact⟨.inr h2,h1⟩
  .rw[Ad (ne h2)];exact⟨.inl h2,c⟩
 .exact ok.eP m hm
 .intro h1;rcases hd with⟨_,h2⟩|⟨h2,_⟩
  .exact h2
  .exact absurd h1 h2
 .intro h1;have:=ok.FM m hm h1;rw[Ad (ne this.1)];exact⟨.inl this.1,this.2⟩
 .intro h1;exact absurd hp h1
 .intro q hq;have:=ok.M4 m hm q hq;rw[Ad (ne this.1)];exact⟨.inl this.1,this.2⟩
 .intro q hq;rw[hk] at hq;cases hq
 .exact ok.eQ m hm
 .intro h1 h2;exact absurd (b h2).symm h1
 .intro h1;have:=ok.cont m hm h1;rw[Ad (ne this.1)];exact⟨.inl this.1,this.2⟩
 .intro h1;exact absurd hc h1
 .intro h1;have:=ok.Em m hm h1;rw[Ad (ne this.1)];exact⟨.inl this.1,this.2⟩
 .intro h1;exact absurd a h1
 .intro h1;have:=ok.ine m hm h1;rw[Ad (ne this.1)];exact⟨.inl this.1,this.2⟩
 .intro h1;exfalso;apply h1;unfold Ar.inr;rw[Ad no]
 .have:=hr m hm;unfold Ar.up at this;exact this
 .rw[hp,a];simp
inductive Reach(A:Ar)(t:Int):Int->Prop
 |refl:Reach A t t
 |step {h:Int}:A.up h≠0->Reach A t (A.up h)->Reach A t h
def Ji(l:List Int)(b n:Int):List Int:=if b=0 then l++[n] else l.takeWhile (λk=>decide (k≠b))++n::l.dropWhile (λk=>decide (k≠b))
def Ar.cut(A:Ar)(n:Int):Ar:=
 let q:=(A.nd n).FM
 if q=0 then A else
  let a:=A.set q {A.nd q with Bb:=(A.nd q).Bb.filter λk=>decide (k≠n)}
  a.set n {a.nd n with FM:=0}
def Ar.L8(A:Ar)(p n b:Int):Ar:=
 let a:=A.set p {A.nd p with Bb:=Ji (A.nd p).Bb b n}
 a.set n {a.nd n with FM:=p}
def Ls(k:Int):Prop:=k=1\/k=2\/k=4
instance(k:Int):Decidable (Ls k):=by unfold Ls;infer_instance
structure ug(A:Ar)(p n b:Int):Prop where
 hp:A.has p
 hn:A.has n
 hb:b≠0->A.has b/\b≠n/\(A.nd b).FM=p
 kp:Ls (A.nd p).kind
 kn:(A.nd n).kind≠1/\(A.nd n).kind≠2
 re:¬Reach A n p
open Classical in
def Ar.FT(A:Ar)(p n b:Int):Ar:=if ug A p n b then(A.cut n).L8 p n b else A
def T9{l:List Int}{b n k:Int}:k∈Ji l b n↔k=n\/k∈l:=by
 unfold Ji;split;.simp;exact Or.comm
 .have e:=rA (p:=λk=>decide (k≠b)) (l:=l);constructor
  .intro h;rw[Ax,AS] at h;rcases h with h|h|h
   .exact .inr (by rw[<-e];simp only[Ax];exact .inl h)
   .exact .inl h
   .exact .inr (by rw[<-e];simp only[Ax];exact .inr h)
  .intro h;rw[Ax,AS];rcases h with h|h
   .exact .inr (.inl h)
   .rw[<-e,Ax] at h;rcases h with h|h
    .exact .inl h
    .exact .inr (.inr h)
def oF{l:List Int}{b n:Int}(h:l.Nodup)(hn:n∉l):(Ji l b n).Nodup:=by
 unfold Ji;split;.rw[B3];refine⟨h,AH,?_⟩;rintro a ha c hc rfl;simp at hc;subst hc;exact hn ha
 .have e:=rA (p:=λk=>decide (k≠b)) (l:=l);generalize List.takeWhile _ l=u at e⊢;generalize List.dropWhile _ l=w at e⊢;subst e;rw[B3] at h⊢;simp at hn;refine⟨h.1,by simp[h.2.1,hn.2],?_⟩;rintro a ha c hc rfl;simp at hc;rcases hc with rfl|hc
  .exact hn.1 ha
  .exact h.2.2 _ ha _ hc rfl
def oG:(A.cut h).n.length=A.n.length:=by unfold Ar.cut;simp only;split<;>simp[Jw]
def Lc:(A.cut h).has k↔A.has k:=by unfold Ar.has;rw[oG]
def oH{p n b:Int}:(A.L8 p n b).n.length=A.n.length:=by unfold Ar.L8;simp[Jw]
def yM{p n b:Int}:(A.L8 p n b).has k↔A.has k:=by unfold Ar.has;rw[oH]
def ê:(A.cut h).inr k=A.inr k:=by unfold Ar.cut;simp only;split<;>simp[SV]
def ë{p n b:Int}:(A.L8 p n b).inr k=A.inr k:=by unfold Ar.L8;simp[SV]
def aAO(ok:EJ A e)(a:A.has h)(hu:A.up h≠0):A.up h≠h:=by obtain⟨r,hr⟩:=ok.eR;intro e;have:=hr h a hu;rw[e] at this;exact Dr _ this
def tX(ok:EJ A e)(a:A.has h)(hu:(A.nd h).FM≠0):(A.nd h).FM≠h:=by
 have:A.up h=(A.nd h).FM:=by unfold Ar.up;rw[Af hu]
 have h2:=aAO ok a (by rw[this];exact hu);rwa [this] at h2
def RQ(ok:EJ A e)(a:A.has h):(A.cut h).nd k=if k=h then{A.nd h with FM:=0} else if(A.nd h).FM≠0/\k=(A.nd h).FM then{A.nd k with Bb:=(A.nd k).Bb.filter λm=>decide (m≠h)} else A.nd k:=by
 unfold Ar.cut;simp only
 by_cases hp:(A.nd h).FM=0
 .rw[Af hp];by_cases e:k=h;.subst e;rw[Af rfl];have:A.nd k={A.nd k with FM:=(A.nd k).FM}:=rfl;rw[hp] at this;exact this
  .rw[Ad e,Ad (by simp[hp])]
 .have hn:=tX ok a hp;have hq:=(ok.FM h a hp).1;rw[Ad hp];simp only[JP,Iv,a,hq,ML];by_cases e:k=h;.subst e;simp[DG hn]
  .simp[e,hp];split;.rename_i e;simp[e]
   .rfl
def oI{x:ES}(hx:np x){l:List Int}(h1:l.Nodup)(h2:l≠[]->Ls x.kind):np {x with Bb:=l}:=
 {k:=hx.k,Bb:=h2,elem:=hx.elem,nm:=hx.nm,dt:=hx.dt,data:=hx.data,CK:=hx.CK,sp:=hx.sp,C_:=hx.C_,Cz:=hx.Cz,Vf:=hx.Vf,P3:=hx.P3,root:=hx.root,jo:=h1}
def yN{x:ES}(hx:np x){p:Int}(h2:p≠0->x.kind≠1/\x.kind≠2):np {x with FM:=p}:=
 {k:=hx.k,Bb:=hx.Bb,elem:=hx.elem,nm:=hx.nm,dt:=hx.dt,data:=hx.data,CK:=hx.CK,sp:=hx.sp,C_:=hx.C_,Cz:=hx.Cz,Vf:=hx.Vf,P3:=hx.P3,root:=h2,jo:=hx.jo}
def aCN(ok:A.i.length=A.n.length):(A.cut h).i.length=(A.cut h).n.length:=by rw[oG];unfold Ar.cut;simp only;split<;>exact ok
def aCO{p n b:Int}(ok:A.i.length=A.n.length):(A.L8 p n b).i.length=(A.L8 p n b).n.length:=by rw[oH];exact ok
def ì(ok:EJ A e)(a:A.has h)(hk:k∈(A.nd h).Bb):k≠h/\(A.nd k).FM=h/\A.has k:=by have:=ok.M4 h a k hk;refine⟨?_,this.2,this.1⟩;rintro rfl;have h0:=this.1.1;exact tX ok a (by rw[this.2];omega) this.2
def uh(ok:EJ A e)(a:A.has h):(A.cut h).up k=if k=h then(A.nd h).Em else A.up k:=by
 unfold Ar.up;rw[RQ ok a];by_cases e:k=h;.simp[e]
 .simp only[e,DQ];split<;>rfl
def tY(ok:EJ A e)(c:A.has h)(Zk:(A.nd h).kind≠2):EJ (A.cut h) e:=by
 obtain⟨r,hr⟩:=ok.eR;have a:=λm=>RQ (k:=m) ok c;have kd:∀m,((A.cut h).nd m).kind=(A.nd m).kind:=λm=>by rw[a];grind
 have l:∀m,((A.cut h).nd m).CQ=(A.nd m).CQ:=λm=>by rw[a];grind
 have n:∀m,((A.cut h).nd m).cont=(A.nd m).cont:=λm=>by rw[a];grind
 have ho:∀m,((A.cut h).nd m).Em=(A.nd m).Em:=λm=>by rw[a];grind
 have d:(A.nd h).Em=0:=by
  by_cases h0:(A.nd h).Em=0;.exact h0
  .exact absurd ((ok.SZ h c).P3 h0) Zk
 refine⟨aCN ok.il,?_,?_,?_,?_,?_,?_,?_,?_,?_,r,?_⟩<;>intro m hm<;>rw[Lc] at hm<;>(try simp only[kd,l,n,ho,Lc,ê])
 .rw[a];split;.exact yN (ok.SZ h c) AH
  .split;.exact oI (ok.SZ m hm) ((ok.SZ m hm).jo.filter _) λh1=>(ok.SZ m hm).Bb (by intro h2;rw[h2] at h1;simp at h1)
   .exact ok.SZ m hm
 .exact ok.CQ m hm
 .exact ok.eP m hm
 .intro h1;have b:m≠h:=by rintro rfl;rw[a] at h1;simp at h1
  have j:((A.cut h).nd m).FM=(A.nd m).FM:=by rw[a,Ad b];split<;>rfl
  rw[j] at h1⊢;have h2:=ok.FM m hm h1;refine⟨h2.1,?_⟩;rw[a];split;.rename_i i;rw[<-i];exact h2.2
  .split;.simp only[DN,C0];exact⟨h2.2,b⟩
   .exact h2.2
 .intro q hq;have h1:q∈(A.nd m).Bb/\(m=(A.nd h).FM->q≠h):=by
   rw[a] at hq;split at hq;.rename_i b;subst b;have:=ì ok hm hq;exact⟨hq,λ_=>this.1⟩
   .split at hq;.simp only[DN,C0] at hq;exact⟨hq.1,λ_=>hq.2⟩
    .rename_i g;refine⟨hq,λf o=>g ⟨?_,f⟩⟩;rw[<-f];have:=hm.1;omega
  have h2:=ok.M4 m hm q h1.1;refine⟨h2.1,?_⟩;have b:q≠h:=by rintro rfl;exact h1.2 h2.2.symm rfl
  rw[a,Ad b,<-h2.2];split<;>rfl
 .intro h1 h2;refine ok.eQ m hm h1 ?_;rw[a] at h2;unfold eO at h2⊢;grind
 .exact ok.cont m hm
 .exact ok.Em m hm
 .exact ok.ine m hm
 .rw[uh ok c];split;.rw[d];simp
  .exact hr m hm
def ui{p n b:Int}(hp:A.has p)(hn:A.has n)(hne:n≠p):(A.L8 p n b).nd k=if k=n then{A.nd n with FM:=p} else if k=p then{A.nd p with Bb:=Ji (A.nd p).Bb b n} else A.nd k:=by
 unfold Ar.L8;simp only[JP,Iv,hp,hn,ML];by_cases e:k=n;.subst e;simp[hne]
 .simp[e]
def jq{p n b:Int}(hp:A.has p)(hn:A.has n)(hne:n≠p)(h0:(A.nd n).FM=0)(a:(A.nd n).Em=0)(hr:¬Reach A n p):∀{m},¬Reach A n m->(A.L8 p n b).up m=A.up m:=by
 intro m hm;have e:m≠n:=by rintro rfl;exact hm .refl
 unfold Ar.up;rw[ui hp hn hne,Ad e];split;.rename_i e;subst e;rfl
 .rfl
open Classical in
def aCP(ok:EJ A e){p n b:Int}(hp:A.has p)(hn:A.has n)(kp:Ls (A.nd p).kind)(kn:(A.nd n).kind≠1/\(A.nd n).kind≠2)(re:¬Reach A n p)(h0:(A.nd n).FM=0):EJ (A.L8 p n b) e:=by
 obtain⟨r,hr⟩:=ok.eR;have hne:n≠p:=by rintro rfl;exact re .refl
 have a:=λm=>ui (k:=m) (b:=b) hp hn hne;have kd:∀m,((A.L8 p n b).nd m).kind=(A.nd m).kind:=λm=>by rw[a];grind
 have l:∀m,((A.L8 p n b).nd m).CQ=(A.nd m).CQ:=λm=>by rw[a];grind
 have o:∀m,((A.L8 p n b).nd m).cont=(A.nd m).cont:=λm=>by rw[a];grind
 have ho:∀m,((A.L8 p n b).nd m).Em=(A.nd m).Em:=λm=>by rw[a];grind
 have i:(A.nd n).Em=0:=by
  by_cases h0:(A.nd n).Em=0;.exact h0
  .exact absurd ((ok.SZ n hn).P3 h0) kn.2
 have g:∀m,A.has m->n∉(A.nd m).Bb:=by intro m hm h1;have:=ok.M4 m hm n h1;rw[h0] at this;have:=hm.1;omega
 refine⟨aCO ok.il,?_,?_,?_,?_,?_,?_,?_,?_,?_,λm=>if Reach A n m then r m+r p+1 else r m,?_⟩<;>intro m hm<;>rw[yM] at hm<;>(try simp only[kd,l,o,ho,yM,ë])
 .rw[a];split;.exact yN (ok.SZ n hn) λ_=>kn
  .split;.exact oI (ok.SZ p hp) (oF (ok.SZ p hp).jo (g p hp)) λ_=>kp
   .exact ok.SZ m hm
 .exact ok.CQ m hm
 .exact ok.eP m hm
 .intro h1;by_cases c:m=n
  .subst c;rw[a,Af rfl];refine⟨hp,?_⟩;simp only
   rw[a,Ad (DG hne),Af rfl];exact T9.2 (.inl rfl)
  .have f:((A.L8 p n b).nd m).FM=(A.nd m).FM:=by rw[a,Ad c];split;rename_i e;rw[e];rfl
   rw[f] at h1⊢;have h2:=ok.FM m hm h1;refine⟨h2.1,?_⟩;rw[a];split;.rename_i j;rw[<-j];exact h2.2
   .split;.rename_i j;rw[<-j];exact T9.2 (.inr h2.2)
    .exact h2.2
 .intro q hq;by_cases c:q=n
  .subst c;refine⟨hn,?_⟩;rw[a,Af rfl];rw[a] at hq;split at hq;.exact absurd hq (g q hn)
   .split at hq;.rename_i e;exact e.symm
    .exact absurd hq (g m hm)
  .have h1:q∈(A.nd m).Bb:=by
    rw[a] at hq;split at hq;.rename_i e;rw[e];exact hq
    .split at hq;.rename_i e;rw[e];exact(T9.1 hq).resolve_left c
     .exact hq
   have h2:=ok.M4 m hm q h1;refine⟨h2.1,?_⟩;rw[a,Ad c,<-h2.2];split;.rename_i e;rw[e]
   .rfl
 .intro h1 h2;refine ok.eQ m hm h1 ?_;rw[a] at h2;unfold eO at h2⊢;grind
 .exact ok.cont m hm
 .exact ok.Em m hm
 .exact ok.ine m hm
 .intro hu;by_cases hR:Reach A n m
  .by_cases c:m=n
   .subst c;have f:(A.L8 p m b).up m=p:=by unfold Ar.up;rw[a,Af rfl];simp only;rw[Af];have:=hp.1;omega
    rw[f,Ad re,Af hR];omega
   .have f:(A.L8 p n b).up m=A.up m:=by
     unfold Ar.up;rw[a,Ad c];split;.rename_i e;rw[e]
     .rfl
    rw[f] at hu⊢;have d:Reach A n (A.up m):=by
     cases hR with
     |refl=>exact absurd rfl c
     |step _ hx=>exact hx
    rw[Af d,Af hR];have:=hr m hm hu;omega
  .have f:=jq (b:=b) hp hn hne h0 i re hR;rw[f] at hu⊢;have d:¬Reach A n (A.up m):=λh=>hR (.step hu h);rw[Ad d,Ad hR];exact hr m hm hu
def jr(ok:EJ A e)(b:A.has h){m:Int}(hr:¬Reach A h m):¬Reach (A.cut h) h m:=by
 intro LW;have key:∀m,Reach (A.cut h) h m->Reach A h m:=by
  intro m hm;induction hm with
  |refl=>exact .refl
  |@step q h1 _ ih=>
   by_cases a:q=h;.rw[a];exact .refl
   .rw[uh ok b,Ad a] at h1 ih;exact .step h1 ih
 exact hr (key m LW)
def Qz(ok:EJ A e){p n b:Int}:EJ (A.FT p n b) e:=by
 unfold Ar.FT;split
 .rename_i f;have a:=tY ok f.hn f.kn.2;have kd:∀m,((A.cut n).nd m).kind=(A.nd m).kind:=λm=>by rw[RQ ok f.hn];grind
  refine aCP a (Lc.2 f.hp) (Lc.2 f.hn) ?_ ?_ (jr ok f.hn f.re) ?_;.rw[kd];exact f.kp
  .rw[kd];exact f.kn
  .rw[RQ ok f.hn,Af rfl]
 .exact ok
def uj(ok:EJ A e)(g:A.has h)(hx:np x)(h1:x.kind=(A.nd h).kind)(h2:x.FM=(A.nd h).FM)(o:x.Bb=(A.nd h).Bb)(d:A.has x.CQ/\(A.nd x.CQ).kind=1/\(x.kind=1->x.CQ=h))(n:x.cont=(A.nd h).cont)(l:x.Em=(A.nd h).Em)(i:eO x->eO (A.nd h)):EJ (A.set h x) e:=by
 obtain⟨r,hr⟩:=ok.eR;have a:∀m,(A.set h x).nd m=if m=h then x else A.nd m:=λm=>by rw[JP];simp[g]
 have kd:∀m,((A.set h x).nd m).kind=(A.nd m).kind:=λm=>by rw[a];grind
 have f:∀m,((A.set h x).nd m).FM=(A.nd m).FM:=λm=>by rw[a];grind
 have ks:∀m,((A.set h x).nd m).Bb=(A.nd m).Bb:=λm=>by rw[a];grind
 have j:∀m,((A.set h x).nd m).cont=(A.nd m).cont:=λm=>by rw[a];grind
 have ho:∀m,((A.set h x).nd m).Em=(A.nd m).Em:=λm=>by rw[a];grind
 have u:∀m,(A.set h x).up m=A.up m:=λm=>by unfold Ar.up;rw[f,ho]
 refine⟨by rw[Jw];exact ok.il,?_,?_,?_,?_,?_,?_,?_,?_,?_,r,?_⟩<;>intro m hm<;>rw[Iv] at hm<;>(try simp only[kd,f,ks,j,ho,u,Iv,SV])
 .rw[a];split;.exact hx
  .exact ok.SZ m hm
 .rw[a];split;.exact⟨d.1,d.2.1⟩
  .exact ok.CQ m hm
 .rw[a];split;.rename_i e;intro c;rw[e,d.2.2 (by rw[h1,<-e];exact c)]
  .exact ok.eP m hm
 .exact ok.FM m hm
 .exact ok.M4 m hm
 .intro c b;refine ok.eQ m hm c ?_;rw[a] at b;split at b;.rename_i e;rw[e];exact i b
  .exact b
 .exact ok.cont m hm
 .exact ok.Em m hm
 .exact ok.ine m hm
 .exact hr m hm
def Ar.Fy(A:Ar)(d:Int):Int:=if A.inr d≠0 then A.inr d else A.len+1
def Ar.Ds(A:Ar)(d:Int):Ar:=if A.inr d≠0 then A else((A.add {kind:=1,CQ:=A.len+1}).I8 d (A.len+1)).I8 (A.len+1) (A.len+1)
def í:np {kind:=1,CQ:=k}:=by constructor<;>simp[Cz,Hz]
def yO(ok:EJ A e)(hk:A.has k/\(A.nd k).kind=1):EJ (A.I8 h k) e:=by
 refine⟨?_,ok.SZ,ok.CQ,ok.eP,ok.FM,ok.M4,ok.eQ,ok.cont,ok.Em,?_,ok.eR⟩;.simp only[Ar.I8];split<;>simp[ok.il]
 .intro m hm h1;rw[NW] at hm;rw[P2 ok.il] at h1⊢;split at h1;.rename_i h2;rw[Af h2];exact hk
  .rename_i h2;rw[Ad h2];exact ok.ine m hm h1
def uk(ok:EJ A e)(b:A.has h)(he:e≠A.len+1):EJ (A.Ds h) e/\(A.Ds h).has (A.Fy h)/\((A.Ds h).nd (A.Fy h)).kind=1:=by
 unfold Ar.Ds Ar.Fy;split;.rename_i h1;exact⟨ok,ok.ine h b h1⟩
 .have a:=Ym ok (x:={kind:=1,CQ:=A.len+1}) í (.inl ⟨rfl,rfl⟩) rfl rfl rfl rfl (by simp[eO]);have h2:(A.add {kind:=1,CQ:=A.len+1}).has (A.len+1)/\((A.add {kind:=1,CQ:=A.len+1}).nd (A.len+1)).kind=1:=by rw[DS,II,Af rfl];exact⟨.inr rfl,rfl⟩
  exact⟨yO (yO a h2) h2,h2⟩
def Yn(hk:k≠A.len+1\/A.inr h≠0):(A.Ds h).nd k=A.nd k:=by
 unfold Ar.Ds;split;.rfl
 .rename_i h1;rw[SY,SY,II,Ad (hk.resolve_right h1)]
def js:(A.Ds h).len=if A.inr h≠0 then A.len else A.len+1:=by
 unfold Ar.Ds;split;.rfl
 .rw[SX,SX,OE]
def NX:A.has k->(A.Ds h).has k:=by
 unfold Ar.Ds;split;.exact id
 .intro hk;rw[NW,NW,DS];exact .inl hk
def î{d:Int}(ok:EJ A e)(he:A.has e)(n:eO (A.nd e))(hc:(A.nd e).cont=0)(hd:A.has d/\(A.nd d).kind=1):EJ ((A.add {kind:=2,Em:=e,CQ:=d}).set e {A.nd e with cont:=A.len+1}) 0:=by
 have no:=RP (A:=A);obtain⟨r,hr⟩:=ok.eR;have ne:∀{k},A.has k->k≠A.len+1:=λhk e=>no (e▸hk);have l0:A.len+1≠0:=by have:=he.1;have:=he.2;unfold Ar.len;omega
 have b:∀m,(((A.add {kind:=2,Em:=e,CQ:=d}).set e {A.nd e with cont:=A.len+1}).nd m)=if m=e then{A.nd e with cont:=A.len+1} else if m=A.len+1 then{kind:=2,Em:=e,CQ:=d} else A.nd m:=λm=>by rw[JP,II];simp[he,DS]
 have hk:(A.nd e).kind=4:=n.1;have h0:(A.nd e).Em=0:=by
  by_cases h0:(A.nd e).Em=0;.exact h0
  .have:=(ok.SZ e he).P3 h0;omega
 have e0:e≠0:=by have:=he.1;omega
 have i:np {kind:=2,Em:=e,CQ:=d}:=by constructor<;>simp[Cz,Hz]
 have SZ:=ok.SZ;have c:=SZ e he;have hne:np {A.nd e with cont:=A.len+1}:={k:=c.k,Bb:=c.Bb,elem:=c.elem,nm:=c.nm,dt:=c.dt,data:=c.data,CK:=c.CK,sp:=c.sp,C_:=c.C_,Cz:=c.Cz,Vf:=λ_=>n,P3:=c.P3,root:=c.root,jo:=c.jo};have hs:∀m,((A.add {kind:=2,Em:=e,CQ:=d}).set e {A.nd e with cont:=A.len+1}).has m↔A.has m\/m=A.len+1:=λm=>by rw[Iv,DS]
 have hi:∀m,((A.add {kind:=2,Em:=e,CQ:=d}).set e {A.nd e with cont:=A.len+1}).inr m=A.inr m:=λm=>by rw[SV,Wm ok.il]
 have g:e≠A.len+1:=ne he;refine⟨by rw[Jw];simp[Ar.add,Ar.set,ok.il],?_,?_,?_,?_,?_,?_,?_,?_,?_,λm=>if m=A.len+1 then r e+1 else r m,?_⟩<;>intro m hm<;>rw[hs] at hm<;>(try simp only[hs,hi])
 .rw[b];split;.exact hne
  .split;.exact i
   .rename_i h1 h2;exact SZ m (hm.resolve_right h2)
 .have key:∀q,A.has q/\(A.nd q).kind=1->(A.has q\/q=A.len+1)/\(((A.add {kind:=2,Em:=e,CQ:=d}).set e {A.nd e with cont:=A.len+1}).nd q).kind=1:=by
   intro q hq;refine⟨.inl hq.1,?_⟩;rw[b,Ad (ne hq.1)];split;.rename_i a;rw[a] at hq;exact hq.2
   .exact hq.2
  rw[b m];split;.exact key _ (ok.CQ e he)
  .split;.exact key _ hd
   .rename_i h1 h2;exact key _ (ok.CQ m (hm.resolve_right h2))
 .rw[b m];split;.rename_i a;intro h1;rw[a];exact ok.eP e he h1
  .split;.intro h1;simp at h1
   .rename_i h1 h2;exact ok.eP m (hm.resolve_right h2)
 .have key:∀q,A.has q->(A.nd q).FM≠0->(A.has (A.nd q).FM\/(A.nd q).FM=A.len+1)/\q∈(((A.add {kind:=2,Em:=e,CQ:=d}).set e {A.nd e with cont:=A.len+1}).nd (A.nd q).FM).Bb:=by
   intro q hq hp;have h1:=ok.FM q hq hp;refine⟨.inl h1.1,?_⟩;rw[b,Ad (ne h1.1)];split;.rename_i a;rw[a] at h1;exact h1.2
   .exact h1.2
  rw[b m];split;.rename_i a;rw[a];exact key e he
  .split;.intro h1;simp at h1
   .rename_i h1 h2;exact key m (hm.resolve_right h2)
 .have key:∀q,A.has q->∀k∈(A.nd q).Bb,(A.has k\/k=A.len+1)/\(((A.add {kind:=2,Em:=e,CQ:=d}).set e {A.nd e with cont:=A.len+1}).nd k).FM=q:=by
   intro q hq k hk;have h1:=ok.M4 q hq k hk;refine⟨.inl h1.1,?_⟩;rw[b,Ad (ne h1.1)];split;.rename_i a;rw[a] at h1;exact h1.2
   .exact h1.2
  rw[b m];split;.rename_i a;rw[a];exact key e he
  .split;.intro k hk;simp at hk
   .rename_i h1 h2;exact key m (hm.resolve_right h2)
 .intro _;rw[b m];split;.intro _;exact l0
  .split;.intro h1;simp[eO] at h1
   .rename_i h1 h2;exact ok.eQ m (hm.resolve_right h2) h1
 .rw[b m];split
  .rename_i a;intro _;simp only
   rw[b,Ad (DG g),Af rfl,a];exact⟨.inr trivial,rfl,rfl⟩
  .split;.intro h1;simp at h1
   .rename_i h1 h2;intro j;have f:=ok.cont m (hm.resolve_right h2) j;refine⟨.inl f.1,?_⟩;rw[b,Ad (ne f.1)];split;.rename_i a;rw[a,hk] at f;exact absurd f.2.1 AM
    .exact f.2
 .rw[b m];split;.intro h1;exact absurd h0 h1
  .split;.rename_i a;intro _;simp only;refine⟨.inl he,?_⟩;rw[b,Af rfl,a]
   .rename_i h1 h2;intro j;have f:=ok.Em m (hm.resolve_right h2) j;refine⟨.inl f.1,?_⟩;rw[b,Ad (ne f.1)];split;.rename_i a;rw[a,hc] at f;have:=(hm.resolve_right h2).1;omega
    .exact f.2
 .intro h1;rcases hm with hm|rfl
  .have h2:=ok.ine m hm h1;refine⟨.inl h2.1,?_⟩;rw[b,Ad (ne h2.1)];split;.rename_i a;rw[a] at h2;exact h2.2
   .exact h2.2
  .exfalso;apply h1;unfold Ar.inr;rw[Ad no]
 .by_cases a:m=A.len+1
  .have l:((A.add {kind:=2,Em:=e,CQ:=d}).set e {A.nd e with cont:=A.len+1}).up m=e:=by
    have o:m≠e:=by rw[a];exact DG g
    unfold Ar.up;rw[b m];simp[a,DG g]
   rw[l,Ad g,Af a];intro _;omega
  .have hm:=hm.resolve_right a;have l:((A.add {kind:=2,Em:=e,CQ:=d}).set e {A.nd e with cont:=A.len+1}).up m=A.up m:=by
    unfold Ar.up;rw[b];split;.rename_i o;rw[o]
    .rfl
   rw[l,Ad a];intro h1;rw[Ad (ne (tW ok hm h1))];exact hr m hm h1
def Ar.elem(A:Ar)(d sp:Int)(nm:Ai)(at_:List A5):Ar:=
 let x:ES:={kind:=4,CQ:=d,Bc:=sp,name:=nm,Ay:=Cz at_}
 if eO x then
  let b:=A.add x
  let a:=b.Ds d
  (a.add {kind:=2,Em:=A.len+1,CQ:=b.Fy d}).set (A.len+1) {x with cont:=a.len+1}
 else A.add x
def yP{d sp:Int}{nm:Ai}{l:List A5}(ok:EJ A 0)(hd:A.has d/\(A.nd d).kind=1)(hs:0<=sp/\sp<=7)(hl:∀a∈l,0<=a.Bc/\a.Bc<=7):EJ (A.elem d sp nm l) 0:=by
 have hx:np {kind:=4,CQ:=d,Bc:=sp,name:=nm,Ay:=Cz l}:=by constructor<;>simp[bC,hs];exact λa ha=>hl a (oE ha)
 unfold Ar.elem;simp only
 split
 .rename_i c;have b:EJ A (A.len+1):={ok with eQ:=λh g _=>ok.eQ h g (by have:=g.1;omega)};have j:=Ym b hx (.inr ⟨AH,hd⟩) rfl rfl rfl rfl λ_=>rfl;have eS:(A.add {kind:=4,CQ:=d,Bc:=sp,name:=nm,Ay:=Cz l}).has d:=DS.2 (.inl hd.1);obtain⟨i,h2,m⟩:=uk j eS (by rw[OE];omega);have f:((A.add {kind:=4,CQ:=d,Bc:=sp,name:=nm,Ay:=Cz l}).Ds d).nd (A.len+1)={kind:=4,CQ:=d,Bc:=sp,name:=nm,Ay:=Cz l}:=by rw[Yn (.inl (by rw[OE];omega)),II,Af rfl]
  have:=î i (NX (DS.2 (.inr rfl))) (by rw[f];exact c) (by rw[f]) ⟨h2,m⟩;rw[f] at this;exact this
 .rename_i c;exact Ym ok hx (.inr ⟨AH,hd⟩) rfl rfl rfl rfl λh=>absurd h c
end
def aLJ(e:Cp):Bool:=decide (e.node=0)
def Yo(n:Int)(e:Cp):Bool:=decide (e.node=n)
def tZ(l:List Cp):Int:=AT aLJ l+1
def Fe(n:Int)(l:List Cp):Int:=if n=0 then -1 else AT (Yo n) l
def P4(name:Ai):List Cp->Int
 |[]=> -1
 |x::t=>if x.node=0 then -1 else if x.name=name then(t.length:Int) else P4 name t
def GF(name:Ai)(l:List Cp):Int:=P4 name l.reverse
def yQ(e:Cp):List Cp->Nat
 |[]=>0
 |x::t=>if x.node=0 then 0 else yQ e t+(if GG x e=true then 1 else 0)
def oJ(e:Cp):List Cp->Int
 |[]=> -1
 |x::t=>if x.node=0 then -1 else if 0<=oJ e t then oJ e t else if GG x e=true then(t.length:Int) else -1
def oK(e:Cp)(l:List Cp):List Cp:=(if e.node≠0/\3<=yQ e l.reverse then Bf l (oJ e l.reverse).toNat else l)++[e]
def EE(l:List Cp):List Cp:=l.take (tZ l-1).toNat
structure BS where
 a:Ar
 CQ:Int
 AN:List Item
 A6:List Cp
 mode:Int
 S0:Int
 tm:List Int
 head:Int
 Fk:Int
 L3:Bool
 ctx:Item
 fs:Bool
 ET:Bool
 oL:Ai
 skip:Bool
 sw:Int
 stop:Bool
def S1(s:List Ai)(A:Ar)(h:Int):Prop:=(A.nd h).kind=4/\(A.nd h).Bc=1/\(A.nd h).name∈s
instance(s:List Ai)(A:Ar)(h:Int):Decidable (S1 s A h):=by unfold S1;infer_instance
abbrev E7:Ai:=aUw
abbrev Ua:Ai:=aU3
abbrev Ub:Ai:=aU1
abbrev Uc:Ai:=aU4
abbrev wTr:Ai:=[116,114]
abbrev wP:Ai:=[112]
def HQ:List Ai:=[E7,Ua,Ub,Uc,wTr]
namespace BS
def Kb(b:BS):Int×Int:=
 let d:=AT (Bn [AZ]) b.AN
 let c:=AT (Bn [E7]) b.AN
 if c<d then((Hh b.AN d).node,0) else if c<0 then((Hh b.AN 0).node,0) else
 let t:=(Hh b.AN c).node
 if(b.a.nd t).FM≠0 then((b.a.nd t).FM,t) else((Hh b.AN (max (c-1) 0)).node,0)
def place(b:BS)(t:Int):Int×Int:=
 if t=0/\b.AN=[] then(b.CQ,0) else
 let t':=if t=0 then(Fx b.AN).node else t
 let pb:=if b.ET=true/\S1 HQ b.a t' then b.Kb else(t',0)
 if(b.a.nd pb.1).cont≠0 then((b.a.nd pb.1).cont,0) else pb
end BS
open Classical in
def Ar.Ex(A:Ar)(h p bf:Int):Ar:=if(A.nd p).kind=1/\(A.nd h).kind=4/\(∃k∈(A.nd p).Bb,(A.nd k).kind=4) then A else A.FT p h bf
namespace BS
def IJ(b:BS)(p:Int):Int:=if(b.a.nd p).cont≠0 then(if(b.a.nd (b.a.nd p).cont).CQ≠0 then(b.a.nd (b.a.nd p).cont).CQ else b.CQ) else if(b.a.nd p).CQ≠0 then(b.a.nd p).CQ else b.CQ
def H8(sp:Int):Prop:=0<=sp/\sp<=7
instance(sp:Int):Decidable (H8 sp):=by unfold H8;infer_instance
def IK(sp:Int)(nm:Ai):Ai:=if sp=2 then Cq nm I4 else nm
def GA(b:BS)(nm:Ai)(at_:List A5)(sp:Int):Item:=if H8 sp then⟨b.a.len+1,sp,IK sp nm,Fj sp (IK sp nm) (at_.map (C5 sp))⟩ else Item.zero
def Er(b:BS)(nm:Ai)(at_:List A5)(sp p:Int):BS:=if H8 sp then{b with a:=b.a.elem (b.IJ p) sp (IK sp nm) (at_.map (C5 sp))} else b
def Pe(b:BS)(sp:Int):Int:=if H8 sp then b.a.len+1 else 0
def EF(b:BS)(nm:Ai)(at_:List A5)(sp:Int):BS:=
 if H8 sp then
  let pb:=b.place 0
  let b1:=b.Er nm at_ sp pb.1
  {b1 with a:=b1.a.Ex (b.a.len+1) pb.1 pb.2,AN:=b1.AN++[b.GA nm at_ sp]}
 else b
def Ko(b:BS)(nm:Ai)(at_:List A5):BS:=
 let b1:=b.EF nm at_ 1
 {b1 with A6:=oK ⟨b.a.len+1,nm,at_⟩ b1.A6}
end BS
def HR(r:Int):Ai:=
 if 0<=r/\r<128 then[UInt8.ofNat r.toNat]
 else if 128<=r/\r<2048 then[UInt8.ofNat (192+r.toNat/64),UInt8.ofNat (128+r.toNat%64)]
 else if 2048<=r/\r<65536/\¬(55296<=r/\r<57344) then[UInt8.ofNat (224+r.toNat/4096),UInt8.ofNat (128+r.toNat/64%64),UInt8.ofNat (128+r.toNat%64)]
 else if 65536<=r/\r<=1114111 then[UInt8.ofNat (240+r.toNat/262144),UInt8.ofNat (128+r.toNat/4096%64),UInt8.ofNat (128+r.toNat/64%64),UInt8.ofNat (128+r.toNat%64)]
 else[239,191,189]
def Ud(l:List Int)(bf:Int):Option Int:=if bf=0 then l.getLast? else(l.takeWhile λk=>decide (k≠bf)).getLast?
def Ar.S2(A:Ar)(h:Int)(s:Ai):Ar:=A.set h {A.nd h with data:=s}
def Ar.Jy(A:Ar)(h:Int)(l:List A5):Ar:=A.set h {A.nd h with Ay:=Cz l}
namespace BS
def LK(A:Ar)(s:Ai)(p bf:Int):Ar:=
 if(A.nd p).kind=4\/(A.nd p).kind=2 then
  match Ud (A.nd p).Bb bf with
  |some t=>if(A.nd t).kind=5 then A.S2 t ((A.nd t).data++s) else(A.add {kind:=5,CQ:=(A.nd p).CQ,data:=s}).Ex (A.len+1) p bf
  |none=>(A.add {kind:=5,CQ:=(A.nd p).CQ,data:=s}).Ex (A.len+1) p bf
 else A
def VL(b:BS)(r:Int):BS:={b with a:=LK b.a (HR r) (b.place 0).1 (b.place 0).2}
def E1(A:Ar)(s:Ai)(p bf:Int):Ar:=
 if Ls (A.nd p).kind then(A.add {kind:=6,CQ:=(A.nd p).CQ,data:=s}).Ex (A.len+1) p bf else A
def Hq(b:BS)(s:Ai)(p:Int):BS:={b with a:=if p=0 then E1 b.a s (b.place 0).1 (b.place 0).2 else E1 b.a s p 0}
def HS(b:BS)(nm:Ai)(at_:List A5)(st:Int):BS:=let b1:=b.EF nm at_ 1;{b1 with sw:=st,S0:=b1.mode,mode:=8}
def F7(b:BS):BS:=if HI (Bn [wP]) (Hw 3) b.AN.reverse then{b with AN:=Dq Cu (Bn [wP]) (Dq (C2 wP) Cu b.AN)} else b
def settled(b:BS)(e:Cp):Bool:=decide (e.node=0\/0<=AT (Br e.node) b.AN)
def Jn:List Cp->BS->List Cp×BS
 |[],b=>([],b)
 |e::l,b=>let r:=Jn l (b.EF e.name e.Ay 1);({e with node:=b.a.len+1}::r.1,r.2)
def Lt(b:BS):Nat:=(AT b.settled b.A6+1).toNat
def CM(b:BS):BS:=let r:=Jn (b.A6.drop b.Lt) b;{r.2 with A6:=b.A6.take b.Lt++r.1}
def CO(b:BS)(nm:Ai):BS:=match b.AN.reverse.find? λi=>Bn [nm] i||GS i with
 |some i=>if Bn [nm] i then{b with AN:=GU i.node (Dq (C2 nm) Cu b.AN)} else b
 |none=>b
def JE(l:List Item):Int:=match l.reverse.find? λi=>Bn [AZ] i||Bn [E7] i with
 |some i=>if Bn [AZ] i then 16 else 17
 |none=>16
end BS
abbrev S3:Ai:=aUE
abbrev QA:Ai:=aUQ
abbrev yR:Ai:=aUo
abbrev QB:Ai:=aUV
abbrev Ld:Ai:=aU7
abbrev um:Ai:=[116,100]
abbrev uo:Ai:=[116,104]
abbrev Ri:Ai:=aUv
abbrev DI:Ai:=aUi
def Jz:List (Ai×Int):=[(wTr,14),(Ua,13),(Uc,13),(Ub,13),(S3,11),(QA,12),(E7,9),(yR,7),(QB,20)]
namespace BS
def Hi(b:BS)(x:Item)(k:Nat):Option Int:=
 if x.Bc=1 then
  match Jz.find? λr=>decide (r.1=x.name) with
  |some r=>some r.2
  |none=>
   if x.name=Ld then some (JE (b.AN.take k))
   else if(x.name=um\/x.name=uo)/\0<k then some 15
   else if x.name=AZ then some (b.tm.getLast?.getD 7)
   else if x.name=Ri/\0<k then some 4
   else if x.name=DI then some (if b.head=0 then 3 else 6)
   else if k=0 then some 7 else none
 else if k=0 then some 7 else none
def EB(b:BS)(k:Nat):Item:=if k=0/\b.L3=true then b.ctx else b.AN.getD k Item.zero
def LL(b:BS):Nat->Int
 |0=>7
 |k+1=>match b.Hi (b.EB k) k with
  |some m=>m
  |none=>b.LL k
def HL(b:BS):BS:={b with mode:=b.LL b.AN.length}
def plain(l:List A5):List A5:=l.map λa=>⟨0,a.name,a.value⟩
def Ge(b:BS)(l:List A5)(h:Int):BS:=if(b.a.nd h).kind=4 then{b with a:=b.a.Jy h ((b.a.nd h).Ay++plain l)} else b
def Cx(b:BS):BS:=
 if AT (Bn [AZ]) b.AN<0 then b
 else HL {b with AN:=Dq Cu (Bn [AZ]) (Dq CJ Cu b.AN),A6:=EE b.A6,tm:=b.tm.dropLast}
def LR(b:BS):BS:=if b.AN.length<2 then b else{b with AN:=b.AN.take (b.AN.length-1)}
def oM(b:BS):Item:=if b.AN.length<2 then Item.zero else Fx b.AN
end BS
def Cp.zero:Cp:=⟨0,[],[]⟩
namespace BS
def Fp(blk anc:Int)(far i:Nat)(b:BS)(l:Int)(m:Nat):BS×Int×Nat:=
 let x:=b.AN.getD i Item.zero
 let e:=Fe x.node b.A6
 if e<0 then({b with AN:=Bf b.AN i},l,m)
 else if i+3<far then({b with A6:=Bf b.A6 e.toNat,AN:=Bf b.AN i},l,if e.toNat<m then m-1 else m)
 else
  let en:=b.A6.getD e.toNat Cp.zero
  let n:=b.GA en.name en.Ay 1
  let b1:=b.Er en.name en.Ay 1 anc
  ({b1 with a:=b1.a.FT n.node l 0,AN:=b1.AN.set i n,A6:=b1.A6.set e.toNat {en with node:=n.node}},n.node,if l=blk then e.toNat+1 else m)
def KC(blk anc:Int)(far k:Nat):Nat->BS×Int×Nat->BS×Int×Nat
 |0,s=>s
 |c+1,s=>KC blk anc far k c (Fp blk anc far (k+(c+1)) s.1 s.2.1 s.2.2)
def CB(A:Ar)(n:Int)(l:List Int):Ar:=l.foldl (λA x=>A.FT n x 0) A
def GH(fe:Cp)(blk anc:Int)(s:BS×Int×Nat):BS:=
 let b1:=s.1
 let pb:=b1.place anc
 let b2:={b1 with a:=b1.a.Ex s.2.1 pb.1 pb.2}
 let n:=b2.GA fe.name fe.Ay 1
 let b3:=b2.Er fe.name fe.Ay 1 blk
 let b:=Fe fe.node b3.A6
 let mk:=if b.toNat<s.2.2 then s.2.2 -1 else s.2.2
 let ac:=Bf b3.A6 b.toNat
 let op:=CW fe.node b3.AN
 let ip:=E0 (AT (Br blk) op+1) op.length
 {b3 with a:=(CB b3.a n.node (b3.a.nd blk).Bb).FT blk n.node 0,A6:=ac.take (CI mk ac.length)++{fe with node:=n.node}::ac.drop (CI mk ac.length),AN:=op.take ip++n::op.drop ip}
def round(b:BS)(nm:Ai):Bool×BS:=
 let f:=GF nm b.A6
 if f<0 then(false,b.CO nm) else
 let fe:=b.A6.getD f.toNat Cp.zero
 let k:=AT (Br fe.node) b.AN
 if k<0 then(false,{b with A6:=Bf b.A6 f.toNat}) else
 if k=0\/HI (Br fe.node) (Hw 1) b.AN.reverse=false then(false,b) else
 let far:=D3 fe.node b.AN
 if far<0 then(false,{b with AN:=GU fe.node b.AN,A6:=Bf b.A6 f.toNat}) else
 let blk:=(b.AN.getD far.toNat Item.zero).node
 let anc:=(b.AN.getD (k.toNat-1) Item.zero).node
 (true,GH fe blk anc (KC blk anc far.toNat k.toNat (far.toNat-1 -k.toNat) (b,blk,f.toNat)))
def Eh:Nat->BS->Ai->BS
 |0,b,_=>b
 |n+1,b,nm=>let r:=b.round nm;if r.1 then Eh n r.2 nm else r.2
def Fz(b:BS)(nm:Ai):BS:=
 if Bn [nm] (Fx b.AN)/\Fe (Fx b.AN).node b.A6<0 then b.LR else Eh 8 b nm
end BS
structure Le(A A':Ar):Prop where
 has:∀h,A.has h->A'.has h
 kind:∀h,A.has h->(A'.nd h).kind=(A.nd h).kind
 Bc:∀h,A.has h->(A'.nd h).Bc=(A.nd h).Bc
 name:∀h,A.has h->(A'.nd h).name=(A.nd h).name
section
variable{A A' A'':Ar}{h k e p n b:Int}{x:ES}
def Le.refl:Le A A:=⟨λ_ h=>h,λ_ _=>rfl,λ_ _=>rfl,λ_ _=>rfl⟩
def Le.trans(h1:Le A A')(h2:Le A' A''):Le A A'':=⟨λh a=>h2.has h (h1.has h a),λh a=>by rw[h2.kind h (h1.has h a),h1.kind h a],λh a=>by rw[h2.Bc h (h1.has h a),h1.Bc h a],λh a=>by rw[h2.name h (h1.has h a),h1.name h a]⟩
def Le.aAP(h1:∀h,A.has h->A'.has h)(h2:∀h,A.has h->A'.nd h=A.nd h):Le A A':=⟨h1,λh a=>by rw[h2 h a],λh a=>by rw[h2 h a],λh a=>by rw[h2 h a]⟩
def Yp(a:A.has h):h≠A.len+1:=λe=>RP (A:=A) (e▸a)
def Mv(a:A.has h):(A.add x).nd h=A.nd h:=by rw[II,Ad (Yp a)]
def uA:Le A (A.add x):= .aAP (λh a=>DS.2 (.inl a)) λh a=>Mv a
def eT(h1:x.kind=(A.nd h).kind)(h2:x.Bc=(A.nd h).Bc)(a:x.name=(A.nd h).name):Le A (A.set h x):=by
 refine⟨λk hk=>Iv.2 hk,?_,?_,?_⟩<;>intro k hk<;>rw[JP]<;>split;.rename_i e;rw[e.1,h1]
 .rfl
 .rename_i e;rw[e.1,h2]
 .rfl
 .rename_i e;rw[e.1,a]
 .rfl
def yS{l:List Int}:Le A (A.set h {A.nd h with Bb:=l}):=eT rfl rfl rfl
def yT:Le A (A.set h {A.nd h with FM:=p}):=eT rfl rfl rfl
def aCQ:Le A (A.cut n):=by
 unfold Ar.cut;simp only;split;.exact .refl
 .exact Le.trans yS yT
def aCR:Le A (A.L8 p n b):=Le.trans yS yT
def OF:Le A (A.FT p n b):=by unfold Ar.FT;split;exact aCQ.trans aCR;exact .refl
def I9:Le A (A.Ex n p b):=by unfold Ar.Ex;split;exact .refl;exact OF
def OG(ok:EJ A e):EJ (A.Ex n p b) e:=by unfold Ar.Ex;split;exact ok;exact Qz ok
def oN{d sp:Int}{nm:Ai}{l:List A5}(a:A.has h):(A.elem d sp nm l).has h/\(A.elem d sp nm l).nd h=A.nd h:=by
 have hne:=Yp a;unfold Ar.elem;simp only
 split;.have h1:(A.add {kind:=4,CQ:=d,Bc:=sp,name:=nm,Ay:=Cz l}).has h:=DS.2 (.inl a);refine⟨Iv.2 (DS.2 (.inl (NX h1))),?_⟩;rw[JP,Ad (λe=>hne e.1),Mv (NX h1),Yn (.inl (Yp h1)),Mv a]
 .exact⟨DS.2 (.inl a),Mv a⟩
def oO{d sp:Int}{nm:Ai}{l:List A5}:(A.elem d sp nm l).has (A.len+1)/\((A.elem d sp nm l).nd (A.len+1)).kind=4/\((A.elem d sp nm l).nd (A.len+1)).Bc=sp/\((A.elem d sp nm l).nd (A.len+1)).name=nm/\((A.elem d sp nm l).nd (A.len+1)).Bb=[]/\((A.elem d sp nm l).nd (A.len+1)).FM=0/\((A.elem d sp nm l).nd (A.len+1)).CQ=d/\((A.elem d sp nm l).nd (A.len+1)).Ay=Cz l:=by
 unfold Ar.elem;simp only
 split;.have h1:(A.add {kind:=4,CQ:=d,Bc:=sp,name:=nm,Ay:=Cz l}).has (A.len+1):=DS.2 (.inr rfl);have h2:=DS (x:={kind:=2,Em:=A.len+1,CQ:=(A.add {kind:=4,CQ:=d,Bc:=sp,name:=nm,Ay:=Cz l}).Fy d}).2 (.inl (NX (h:=d) h1));rw[Iv,JP,Af ⟨rfl,h2⟩];exact⟨h2,rfl,rfl,rfl,rfl,rfl,rfl,rfl⟩
 .rw[II,Af rfl];exact⟨DS.2 (.inr rfl),rfl,rfl,rfl,rfl,rfl,rfl,rfl⟩
def Wn{d sp:Int}{nm:Ai}{l:List A5}:Le A (A.elem d sp nm l):= .aAP (λ_ h=>(oN h).1) λ_ h=>(oN h).2
def oP{l:List A5}(ok:EJ A e)(c:A.has h)(hk:(A.nd h).kind=4)(hl:∀a∈l,0<=a.Bc/\a.Bc<=7):EJ (A.Jy h l) e:=by have hx:=ok.SZ h c;refine uj ok c ⟨hx.k,hx.Bb,λh=>absurd hk h,hx.nm,hx.dt,hx.data,hx.CK,hx.sp,λa ha=>hl a (oE ha),bC l,hx.Vf,hx.P3,hx.root,hx.jo⟩ rfl rfl rfl ⟨(ok.CQ h c).1,(ok.CQ h c).2,ok.eP h c⟩ rfl rfl λd=>d
def uB{s:Ai}(ok:EJ A e)(a:A.has h)(hk:(A.nd h).kind=5\/(A.nd h).kind=6):EJ (A.S2 h s) e:=by have hx:=ok.SZ h a;refine uj ok a ⟨hx.k,hx.Bb,hx.elem,hx.nm,hx.dt,λf d=>by have:(A.nd h).kind≠5:=f;have:(A.nd h).kind≠6:=d;omega,hx.CK,hx.sp,hx.C_,hx.Cz,hx.Vf,hx.P3,hx.root,hx.jo⟩ rfl rfl rfl ⟨(ok.CQ h a).1,(ok.CQ h a).2,ok.eP h a⟩ rfl rfl λc=>c
def eU{kd d:Int}{s:Ai}(ok:EJ A e)(he:e≠A.len+1)(hd:A.has d/\(A.nd d).kind=1)(hk:kd=5\/kd=6):EJ (A.add {kind:=kd,CQ:=d,data:=s}) e:=by
 refine Ym ok ?_ (.inr ⟨Ei,hd⟩) rfl rfl rfl rfl (λh=>?_);.constructor<;>simp[Cz,Hz]<;>omega
 .have:=h.1;simp at this;omega
def uC{s:Ai}:Le A (A.S2 h s):=eT rfl rfl rfl
def oQ{l:List A5}:Le A (A.Jy h l):=eT rfl rfl rfl
def eV{sp:Int}{a:A5}:0<=(C5 sp a).Bc/\(C5 sp a).Bc<=7:=by
 unfold C5;split
 .split
  .rename_i s m he;have:∀x∈fT,0<=x.2.1/\x.2.1<=7:=AM;unfold Ea at he;cases hf:fT.find? λx=>decide (Kn sp a.name=x.1) with
   |none=>rw[hf] at he;cases he
   |some y=>rw[hf] at he;have:=this y (Q1 hf);simp at he;rw[he] at this;exact this
  .exact⟨GB 0,AH⟩
 .exact⟨GB 0,AH⟩
end
structure Ey(b:BS):Prop where
 ok:EJ b.a 0
 CQ:b.a.has b.CQ/\(b.a.nd b.CQ).kind=1
 op:∀i∈b.AN,b.a.has i.node/\(b.a.nd i.node).kind=4/\(b.a.nd i.node).Bc=i.Bc/\(b.a.nd i.node).name=i.name
 D_:(b.AN.map Item.node).Nodup
 ac:∀e∈b.A6,e.node=0\/(b.a.has e.node/\(b.a.nd e.node).kind=4)
 jt:((b.A6.map Cp.node).filter λn=>decide (n≠0)).Nodup
structure BA(b:BS):Prop where
 ok:EJ b.a 0
 CQ:b.a.has b.CQ/\(b.a.nd b.CQ).kind=1
def Ey.ba{b:BS}(o:Ey b):BA b:=⟨o.ok,o.CQ⟩
instance{b:BS}:Coe (Ey b) (BA b):=⟨Ey.ba⟩
section
variable{b:BS}{t:Int}
def ï{A A':Ar}{l:List Item}(hl:Le A A')(h:∀i∈l,A.has i.node/\(A.nd i.node).kind=4/\(A.nd i.node).Bc=i.Bc/\(A.nd i.node).name=i.name):∀i∈l,A'.has i.node/\(A'.nd i.node).kind=4/\(A'.nd i.node).Bc=i.Bc/\(A'.nd i.node).name=i.name:=by intro i hi;have:=h i hi;rw[hl.kind _ this.1,hl.Bc _ this.1,hl.name _ this.1];exact⟨hl.has _ this.1,this.2⟩
def yU{A A':Ar}{l:List Cp}(hl:Le A A')(h:∀e∈l,e.node=0\/(A.has e.node/\(A.nd e.node).kind=4)):∀e∈l,e.node=0\/(A'.has e.node/\(A'.nd e.node).kind=4):=by
 intro e he;rcases h e he with h|h
 .exact .inl h
 .rw[hl.kind _ h.1];exact .inr ⟨hl.has _ h.1,h.2⟩
def Ey.KD(o:Ey b){A:Ar}(ok:EJ A 0)(hl:Le b.a A):Ey {b with a:=A}:=
 ⟨ok,by rw[hl.kind _ o.CQ.1];exact⟨hl.has _ o.CQ.1,o.CQ.2⟩,ï hl o.op,o.D_,yU hl o.ac,o.jt⟩
def Ey.aLK(o:Ey b){l:List Item}(h1:∀i∈l,i∈b.AN)(h2:(l.map Item.node).Nodup):Ey {b with AN:=l}:=
 ⟨o.ok,o.CQ,λi hi=>o.op i (h1 i hi),h2,o.ac,o.jt⟩
def Ey.LM(o:Ey b){l:List Item}(h1:List.Sublist l b.AN):Ey {b with AN:=l}:=o.aLK (λ_ hi=>h1.subset hi) (o.D_.sublist (h1.map _))
def Ey.oR(o:Ey b){l:List Cp}(h1:List.Sublist l b.A6):Ey {b with A6:=l}:=
 ⟨o.ok,o.CQ,o.op,o.D_,λe he=>o.ac e (h1.subset he),o.jt.sublist ((h1.map _).filter _)⟩
def CT{p q:Item->Bool}{l:List Item}:List.Sublist (Dq p q l) l:=by
 have key:∀r:List Item,List.Sublist (PY p q r) r:=by
  intro r;induction r with
  |nil=>exact A4 _
  |cons x r ih=>
   cases r with
   |nil=>exact A4 _
   |cons y r=>
    rw[PY];split;.exact A4 _
    .split;.exact Uy _ _
     .exact ih.trans (Uy _ _)
 have:=(key l.reverse).reverse;rwa [Fh] at this
def HM{n:Int}{l:List Item}:List.Sublist (GU n l) l:=by unfold GU;split;exact A4 _;exact CT
def Dt{U:Type}{l:List U}{k:Nat}:List.Sublist (Bf l k) l:=by
 unfold Bf;conv=>rhs;rw[<-CG k l]
 refine List.Sublist.append (A4 _) ?_;rw[<-Ek];exact aP9 _ _
def J4{n:Int}{l:List Item}:List.Sublist (CW n l) l:=by unfold CW;split;exact A4 _;exact Dt
def Mw{l:List Item}{i:Int}(h0:0<=i)(h1:i<l.length):Hh l i∈l:=by unfold Hh;rw[Af h0,AJ,Al Ab];exact AL _
def KT{U:Type}{q:U->Bool}{l:List U}:AT q l<l.length∧-1<=AT q l:=by rcases Dl (q:=q) (l:=l) with⟨h1,_⟩|⟨n,hn,h1,_⟩<;>rw[h1]<;>omega
def ju{l:List Item}(h:l≠[]):Fx l∈l:=by have:0<l.length:=EH.2 h;exact Mw Ab Ab
def ð(o:Ey b)(hn:b.AN≠[]):b.a.has b.Kb.1/\(b.Kb.2≠0->b.a.has b.Kb.2/\(b.a.nd b.Kb.2).FM=b.Kb.1):=by
 have hl:0<b.AN.length:=EH.2 hn;have h1:=KT (q:=Bn [AZ]) (l:=b.AN);have h2:=KT (q:=Bn [E7]) (l:=b.AN);unfold BS.Kb;simp only
 split;.exact⟨(o.op _ (Mw Ab Ab)).1,λh=>absurd rfl h⟩
 .split;.exact⟨(o.op _ (Mw Ab Ab)).1,λh=>absurd rfl h⟩
  .have c:=o.op _ (Mw (l:=b.AN) (i:=AT (Bn [E7]) b.AN) Ab Ab);split;.rename_i hp;exact⟨(o.ok.FM _ c.1 hp).1,λ_=>⟨c.1,rfl⟩⟩
   .exact⟨(o.op _ (Mw Ab Ab)).1,λh=>absurd rfl h⟩
def Yq(o:Ey b)(ht:t=0\/(b.a.has t/\b.AN≠[])):b.a.has (b.place t).1/\((b.place t).2≠0->b.a.has (b.place t).2/\(b.a.nd (b.place t).2).FM=(b.place t).1):=by
 unfold BS.place;simp only
 split;.exact⟨o.CQ.1,λh=>absurd rfl h⟩
 .rename_i h0;have hn:b.AN≠[]:=by
   rcases ht with h|h
   .intro h2;exact h0 ⟨h,h2⟩
   .exact h.2
  have h1:b.a.has (if t=0 then(Fx b.AN).node else t):=by
   split;.exact(o.op _ (ju hn)).1
   .rename_i h2;exact(ht.resolve_left h2).1
  generalize(if t=0 then(Fx b.AN).node else t)=t' at h1;have h2:b.a.has (if b.ET=true/\S1 HQ b.a t' then b.Kb else(t',0)).1/\((if b.ET=true/\S1 HQ b.a t' then b.Kb else(t',0)).2≠0->b.a.has (if b.ET=true/\S1 HQ b.a t' then b.Kb else(t',0)).2/\(b.a.nd (if b.ET=true/\S1 HQ b.a t' then b.Kb else(t',0)).2).FM=(if b.ET=true/\S1 HQ b.a t' then b.Kb else(t',0)).1):=by
   split;.exact ð o hn
   .exact⟨h1,λh=>absurd rfl h⟩
  generalize(if b.ET=true/\S1 HQ b.a t' then b.Kb else(t',0))=pb at h2;split;.rename_i hc;exact⟨(o.ok.cont _ h2.1 hc).1,λh=>absurd rfl h⟩
  .exact h2
def QC(o:BA b){p:Int}:b.a.has (b.IJ p)/\(b.a.nd (b.IJ p)).kind=1:=by
 unfold BS.IJ;by_cases hp:b.a.has p
 .have key:∀q,b.a.has q->b.a.has (if(b.a.nd q).CQ≠0 then(b.a.nd q).CQ else b.CQ)/\(b.a.nd (if(b.a.nd q).CQ≠0 then(b.a.nd q).CQ else b.CQ)).kind=1:=by
   intro q hq;split;.exact o.ok.CQ q hq
   .exact o.CQ
  split;.rename_i hc;exact key _ (o.ok.cont p hp hc).1
  .exact key p hp
 .rw[HK hp];exact o.CQ
variable{nm:Ai}{at_:List A5}{sp p:Int}
structure uq(b b1:BS)(i:Item):Prop where
 has:b1.a.has i.node
 kind:(b1.a.nd i.node).kind=4
 Bc:(b1.a.nd i.node).Bc=i.Bc
 name:(b1.a.nd i.node).name=i.name
 new:¬b.a.has i.node
def P5(o:Ey b)(hs:BS.H8 sp):Ey (b.Er nm at_ sp p)/\uq b (b.Er nm at_ sp p) (b.GA nm at_ sp)/\Le b.a (b.Er nm at_ sp p).a:=by
 have hd:=QC o.ba (p:=p);unfold BS.Er BS.GA;rw[Af hs,Af hs];have ok:=yP (sp:=sp) (nm:=BS.IK sp nm) (l:=at_.map (C5 sp)) o.ok hd hs (by intro a ha;obtain⟨c,_,rfl⟩:=Bk.1 ha;exact eV)
 have hn:=oO (A:=b.a) (d:=b.IJ p) (sp:=sp) (nm:=BS.IK sp nm) (l:=at_.map (C5 sp));exact⟨o.KD ok Wn,⟨hn.1,hn.2.1,hn.2.2.1,hn.2.2.2.1,RP⟩,Wn⟩
def ur(o:BA b)(hs:BS.H8 sp):BA (b.Er nm at_ sp p):=by
 have hd:=QC o (p:=p);unfold BS.Er;rw[Af hs];have ok:=yP (sp:=sp) (nm:=BS.IK sp nm) (l:=at_.map (C5 sp)) o.ok hd hs (by intro a ha;obtain⟨c,_,rfl⟩:=Bk.1 ha;exact eV)
 have l:Le b.a _:=Wn (A:=b.a) (d:=b.IJ p) (sp:=sp) (nm:=BS.IK sp nm) (l:=at_.map (C5 sp));exact⟨ok,by rw[l.kind _ o.CQ.1];exact⟨l.has _ o.CQ.1,o.CQ.2⟩⟩
def NY(o:Ey b){b1:BS}{i:Item}(f:uq b b1 i):i.node∉b.AN.map Item.node:=by intro h;obtain⟨j,hj,e⟩:=Bk.1 h;exact f.new (e▸(o.op j hj).1)
def QD(o:Ey b){b1:BS}{i:Item}(f:uq b b1 i):i.node∉b.A6.map Cp.node:=by
 intro h;obtain⟨j,hj,e⟩:=Bk.1 h;rcases o.ac j hj with h1|h1
 .have:=f.has.1;omega
 .exact f.new (e▸h1.1)
def jv{U:Type}[DecidableEq U]{l:List U}{k:Nat}{x:U}(h:l.Nodup)(hx:x∉l):(l.take k++x::l.drop k).Nodup:=by
 have e:=CG k l;rw[B3];rw[<-e,B3] at h;refine⟨h.1,B5.2 ⟨λh1=>hx (Bw h1),h.2.1⟩,?_⟩;rintro a ha c hc rfl;rcases AS.1 hc with rfl|hc
 .exact hx (Bp ha)
 .exact h.2.2 _ ha _ hc rfl
def uD{U:Type}[DecidableEq U]{l:List U}{k:Nat}{x:U}(h:l.Nodup)(hx:x∉l):(l.set k x).Nodup:=by
 rw[BZ];split
 .have e:=CG k l;rw[B3];rw[<-e,B3] at h;have hd:List.Sublist (l.drop (k+1)) (l.drop k):=by rw[<-Ek];exact aP9 _ _
  refine⟨h.1,B5.2 ⟨λh1=>hx (Bw h1),h.2.1.sublist hd⟩,?_⟩;rintro a ha c hc rfl;rcases AS.1 hc with rfl|hc
  .exact hx (Bp ha)
  .exact h.2.2 _ ha _ (hd.subset hc) rfl
 .exact h
def bD{U Z:Type}(f:U->Z)(l:List U)(k:Nat)(x:U):(l.take k++x::l.drop k).map f=(l.map f).take k++f x::(l.map f).drop k:=AH
def Ey.aCS(o:Ey b){i:Item}{k:Nat}(h1:b.a.has i.node/\(b.a.nd i.node).kind=4/\(b.a.nd i.node).Bc=i.Bc/\(b.a.nd i.node).name=i.name)(h2:i.node∉b.AN.map Item.node):Ey {b with AN:=b.AN.take k++i::b.AN.drop k}:=by
 refine⟨o.ok,o.CQ,?_,by show((b.AN.take k++i::b.AN.drop k).map Item.node).Nodup;rw[bD];exact jv o.D_ h2,o.ac,o.jt⟩;intro j hj;rcases Ax.1 hj with hj|hj
 .exact o.op j (Bp hj)
 .rcases AS.1 hj with rfl|hj
  .exact h1
  .exact o.op j (Bw hj)
def Ey.uE(o:Ey b){i:Item}{k:Nat}(h1:b.a.has i.node/\(b.a.nd i.node).kind=4/\(b.a.nd i.node).Bc=i.Bc/\(b.a.nd i.node).name=i.name)(h2:i.node∉b.AN.map Item.node):Ey {b with AN:=b.AN.set k i}:=by
 refine⟨o.ok,o.CQ,?_,by show((b.AN.set k i).map Item.node).Nodup;rw[Eo];exact uD o.D_ h2,o.ac,o.jt⟩;intro j hj;rcases Dg hj with hj|rfl
 .exact o.op j hj
 .exact h1
def uv{l:List Int}{k:Nat}{x:Int}(h:(l.filter λn=>decide (n≠0)).Nodup)(hx:x∉l):((l.take k++x::l.drop k).filter λn=>decide (n≠0)).Nodup:=by
 have e:=CG k l;rw[<-e,DZ,B3] at h;rw[DZ,B3];by_cases h0:x=0;.subst h0;simpa using h
 .rw[aBz (by simpa using h0)];refine⟨h.1,B5.2 ⟨λh1=>hx (Bw ((DN.1 h1).1)),h.2.1⟩,?_⟩;rintro a ha c hc rfl;rcases AS.1 hc with rfl|hc
  .exact hx (Bp (DN.1 ha).1)
  .exact h.2.2 _ ha _ hc rfl
def uw{l:List Int}{k:Nat}{x:Int}(h:(l.filter λn=>decide (n≠0)).Nodup)(hx:x∉l):((l.set k x).filter λn=>decide (n≠0)).Nodup:=by
 rw[BZ];split
 .have h2:(((l.take k++l.drop (k+1))).filter λn=>decide (n≠0)).Nodup:=h.sublist ((show List.Sublist (Bf l k) l from Dt).filter _);rw[DZ,B3] at h2⊢;by_cases h0:x=0;.subst h0;simpa using h2
  .rw[aBz (by simpa using h0)];refine⟨h2.1,B5.2 ⟨λh1=>hx (Bw ((DN.1 h1).1)),h2.2.1⟩,?_⟩;rintro a ha c hc rfl;rcases AS.1 hc with rfl|hc
   .exact hx (Bp (DN.1 ha).1)
   .exact h2.2.2 _ ha _ hc rfl
 .exact h
def Ey.aCT(o:Ey b){e:Cp}{k:Nat}(h1:e.node=0\/(b.a.has e.node/\(b.a.nd e.node).kind=4))(h2:e.node=0\/e.node∉b.A6.map Cp.node):Ey {b with A6:=b.A6.take k++e::b.A6.drop k}:=by
 refine⟨o.ok,o.CQ,o.op,o.D_,?_,?_⟩
 .intro j hj;rcases Ax.1 hj with hj|hj
  .exact o.ac j (Bp hj)
  .rcases AS.1 hj with rfl|hj
   .exact h1
   .exact o.ac j (Bw hj)
 .show(((b.A6.take k++e::b.A6.drop k).map Cp.node).filter _).Nodup;rw[bD];rcases h2 with h2|h2
  .have:=o.jt;conv at this=>rw[<-CG k (b.A6.map Cp.node),DZ]
   rw[DZ,List.filter_cons_of_neg (by simp[h2])];exact this
  .exact uv o.jt h2
def Ey.uF(o:Ey b){e:Cp}{k:Nat}(h1:b.a.has e.node/\(b.a.nd e.node).kind=4)(h2:e.node∉b.A6.map Cp.node):Ey {b with A6:=b.A6.set k e}:=by
 refine⟨o.ok,o.CQ,o.op,o.D_,?_,?_⟩
 .intro j hj;rcases Dg hj with hj|rfl
  .exact o.ac j hj
  .exact .inr h1
 .show(((b.A6.set k e).map Cp.node).filter _).Nodup;rw[Eo];exact uw o.jt h2
def P6(o:Ey b):Ey (b.EF nm at_ sp):=by
 unfold BS.EF;split
 .rename_i hs;obtain⟨d,f,hl⟩:=P5 (nm:=nm) (at_:=at_) (p:=(b.place 0).1) o hs;have g:=d.KD (OG (n:=b.a.len+1) (p:=(b.place 0).1) (b:=(b.place 0).2) d.ok) I9;have hn:(b.GA nm at_ sp).node=b.a.len+1:=by unfold BS.GA;rw[Af hs]
  have c:Le (b.Er nm at_ sp (b.place 0).1).a ((b.Er nm at_ sp (b.place 0).1).a.Ex (b.a.len+1) (b.place 0).1 (b.place 0).2):=I9;have ho:(b.Er nm at_ sp (b.place 0).1).AN=b.AN:=by unfold BS.Er;rw[Af hs]
  have:=g.aCS (i:=b.GA nm at_ sp) (k:=b.AN.length) ⟨c.has _ f.has,by rw[c.kind _ f.has];exact f.kind,by rw[c.Bc _ f.has];exact f.Bc,by rw[c.name _ f.has];exact f.name⟩ (by simp only[ho];exact NY o f);simp only[ho,Bx,Ep] at this;simp only[ho];exact this
 .exact o
def Yr{l:List Cp}{e:Cp}:∃l',List.Sublist l' l/\oK e l=l'++[e]:=by
 unfold oK;split;.exact⟨_,Dt,rfl⟩
 .exact⟨_,A4 _,rfl⟩
def ñ:Le b.a (b.EF nm at_ sp).a:=by
 unfold BS.EF BS.Er;split;.exact Le.trans Wn I9
 .exact .refl
def oS(hs:BS.H8 sp):(b.EF nm at_ sp).a.has (b.a.len+1)/\((b.EF nm at_ sp).a.nd (b.a.len+1)).kind=4:=by
 unfold BS.EF BS.Er;rw[Af hs];simp only
 rw[Af hs];have hn:=oO (A:=b.a) (d:=b.IJ (b.place 0).1) (sp:=sp) (nm:=BS.IK sp nm) (l:=at_.map (C5 sp));exact⟨I9.has _ hn.1,by rw[I9.kind _ hn.1];exact hn.2.1⟩
def EU:(b.EF nm at_ sp).A6=b.A6:=by unfold BS.EF BS.Er;split<;>rfl
def JV:BS.H8 1:=⟨AM,AM⟩
def ò(o:Ey b):b.a.len+1∉b.A6.map Cp.node:=by
 intro h;obtain⟨j,hj,e⟩:=Bk.1 h;rcases o.ac j hj with h1|h1
 .unfold Ar.len at e;omega
 .exact RP (e▸h1.1)
def jw(o:Ey b):Ey (b.Ko nm at_):=by
 have d:=P6 (nm:=nm) (at_:=at_) (sp:=1) o;unfold BS.Ko;simp only
 obtain⟨l',h1,h2⟩:=Yr (l:=(b.EF nm at_ 1).A6) (e:=⟨b.a.len+1,nm,at_⟩);rw[h2];have c:=d.oR h1;have:=c.aCT (e:=⟨b.a.len+1,nm,at_⟩) (k:=l'.length) (.inr (oS JV)) (.inr (by intro h;rw[EU] at h1;exact ò o ((h1.map Cp.node).subset h)))
 simpa using this
def Ey.of_eq{c:BS}(o:Ey b)(h1:c.a=b.a)(h2:c.CQ=b.CQ)(f:c.AN=b.AN)(d:c.A6=b.A6):Ey c:=
 ⟨h1▸o.ok,by rw[h1,h2];exact o.CQ,by rw[h1,f];exact o.op,by rw[f];exact o.D_,by rw[h1,d];exact o.ac,by rw[d];exact o.jt⟩
def uG{l:List Int}{bf t:Int}(h:Ud l bf=some t):t∈l:=by
 unfold Ud at h;split at h;.exact aJJ h
 .exact(List.takeWhile_sublist _).subset (aJJ h)
def jx{A:Ar}{s:Ai}{p bf:Int}(ok:EJ A 0)(hp:A.has p):EJ (BS.LK A s p bf) 0/\Le A (BS.LK A s p bf):=by
 have h0:(0:Int)≠A.len+1:=by unfold Ar.len;omega
 have ha:=OG (n:=A.len+1) (p:=p) (b:=bf) (eU (s:=s) (kd:=5) ok h0 (ok.CQ p hp) (.inl rfl));have hl:Le A ((A.add {kind:=5,CQ:=(A.nd p).CQ,data:=s}).Ex (A.len+1) p bf):=Le.trans uA I9;unfold BS.LK;split
 .split
  .rename_i t ht;split;.rename_i hk;exact⟨uB ok (ok.M4 p hp _ (uG ht)).1 (.inl hk),uC⟩
   .exact⟨ha,hl⟩
  .exact⟨ha,hl⟩
 .exact⟨ok,.refl⟩
def yV(o:Ey b){r:Int}:Ey (b.VL r):=by have h:=jx (s:=HR r) (bf:=(b.place 0).2) o.ok (Yq o (.inl rfl)).1;exact o.KD h.1 h.2
def S4{A:Ar}{s:Ai}{p bf:Int}(ok:EJ A 0):EJ (BS.E1 A s p bf) 0/\Le A (BS.E1 A s p bf):=by
 unfold BS.E1;split
 .rename_i hk;have hp:A.has p:=by
   by_cases hp:A.has p;.exact hp
   .rw[HK hp] at hk;unfold Ls at hk;simp at hk
  have h0:(0:Int)≠A.len+1:=by unfold Ar.len;omega
  exact⟨OG (eU (s:=s) (kd:=6) ok h0 (ok.CQ p hp) (.inr rfl)),Le.trans uA I9⟩
 .exact⟨ok,.refl⟩
def Ys(o:Ey b){s:Ai}{p:Int}:Ey (b.Hq s p):=by
 unfold BS.Hq;split;.have h:=S4 (s:=s) (p:=(b.place 0).1) (bf:=(b.place 0).2) o.ok;exact o.KD h.1 h.2
 .have h:=S4 (s:=s) (p:=p) (bf:=0) o.ok;exact o.KD h.1 h.2
def uH(o:Ey b){st:Int}:Ey (b.HS nm at_ st):=(P6 o).of_eq rfl rfl rfl rfl
def jy(o:Ey b):Ey b.F7:=by
 unfold BS.F7;split;.exact o.LM (CT.trans CT)
 .exact o
def bE(o:Ey b):Ey (b.CO nm):=by
 unfold BS.CO;split
 .split;.exact o.LM (HM.trans CT)
  .exact o
 .exact o
def S5(o:Ey b):Ey b.HL:=o.of_eq rfl rfl rfl rfl
def oT(o:Ey b){l:List A5}{h:Int}:Ey (b.Ge l h):=by
 unfold BS.Ge;split
 .rename_i hk;have d:b.a.has h:=by
   by_cases hp:b.a.has h;.exact hp
   .rw[HK hp] at hk;simp at hk
  refine o.KD (oP o.ok d hk ?_) oQ;intro a ha;rcases Ax.1 ha with ha|ha
  .exact(o.ok.SZ h d).C_ a ha
  .obtain⟨c,_,rfl⟩:=Bk.1 ha;simp
 .exact o
def Yt(o:Ey b):Ey b.Cx:=by
 unfold BS.Cx;split;.exact o
 .have a:=(o.LM (CT (p:=Cu) (q:=Bn [AZ]) (l:=Dq CJ Cu b.AN) |>.trans CT)).oR (l:=EE b.A6) (Df _ _);exact(S5 (b:={b with AN:=Dq Cu (Bn [AZ]) (Dq CJ Cu b.AN),A6:=EE b.A6,tm:=b.tm.dropLast}) (a.of_eq rfl rfl rfl rfl))
def ux(o:Ey b):Ey b.LR:=by
 unfold BS.LR;split;.exact o
 .exact o.LM (Df _ _)
structure aGx(b:BS)(l:List Cp)(r:List Cp×BS):Prop where
 ok:Ey r.2
 le:Le b.a r.2.a
 A6:r.2.A6=b.A6
 len:r.1.length=l.length
 nodes:∀e∈r.1,r.2.a.has e.node/\(r.2.a.nd e.node).kind=4/\¬b.a.has e.node
 aAQ:(r.1.map Cp.node).Nodup
 aGy:r.1.map Cp.name=l.map Cp.name
def yW:∀{l:List Cp} {b:BS},Ey b->aGx b l (BS.Jn l b)
 |[],b,o=>by
  refine⟨o,.refl,rfl,rfl,?_,?_,rfl⟩;.intro e he;cases he
  .exact MM
 |e::l,b,o=>by
  have d:=P6 (nm:=e.name) (at_:=e.Ay) (sp:=1) o;have r:=yW (l:=l) d;have hl:Le b.a (b.EF e.name e.Ay 1).a:=ñ;have hn:=oS (b:=b) (nm:=e.name) (at_:=e.Ay) JV;refine⟨r.ok,hl.trans r.le,r.A6.trans EU,by simp[BS.Jn,r.len],?_,?_,by simp[BS.Jn,r.aGy]⟩
  .intro c hc;rcases AS.1 hc with rfl|hc
   .exact⟨r.le.has _ hn.1,(r.le.kind _ hn.1).trans hn.2,RP⟩
   .have:=r.nodes c hc;exact⟨this.1,this.2.1,λh=>this.2.2 (hl.has _ h)⟩
  .simp only[BS.Jn,Bl,B5];refine⟨λh=>?_,r.aAQ⟩;obtain⟨c,hc,f⟩:=Bk.1 h;exact(r.nodes c hc).2.2 (f▸hn.1)
def Yu(o:Ey b):Ey b.CM:=by
 have r:=yW (l:=b.A6.drop b.Lt) o;unfold BS.CM;simp only
 have hc:=yU r.le o.ac;refine⟨r.ok.ok,r.ok.CQ,r.ok.op,r.ok.D_,?_,?_⟩
 .intro e he;rcases Ax.1 he with he|he
  .exact hc e (Bp he)
  .exact .inr ⟨(r.nodes e he).1,(r.nodes e he).2.1⟩
 .show(((b.A6.take b.Lt++(BS.Jn (b.A6.drop b.Lt) b).1).map Cp.node).filter _).Nodup;rw[BF,DZ,B3];refine⟨o.jt.sublist (((Df _ _).map _).filter _),r.aAQ.filter _,?_⟩;rintro a ha c I0 rfl;obtain⟨j,h1,rfl⟩:=Bk.1 (DN.1 ha).1;obtain⟨i,h2,g⟩:=Bk.1 (DN.1 I0).1;have d:=(r.nodes i h2);rw[g] at d;rcases o.ac j (Bp h1) with f|f
  .have:=d.1.1;omega
  .exact d.2.2 f.1
def Yv(o:Ey b){blk anc:Int}{far i:Nat}{l:Int}{m:Nat}(hl:b.a.has l):Ey (BS.Fp blk anc far i b l m).1/\(BS.Fp blk anc far i b l m).1.a.has (BS.Fp blk anc far i b l m).2.1/\Le b.a (BS.Fp blk anc far i b l m).1.a:=by
 unfold BS.Fp;simp only
 split;.exact⟨o.LM Dt,hl,.refl⟩
 .split;.exact⟨(o.oR Dt).LM Dt,hl,.refl⟩
  .generalize KE:b.A6.getD (Fe (b.AN.getD i Item.zero).node b.A6).toNat Cp.zero=en;obtain⟨d,f,En⟩:=P5 (nm:=en.name) (at_:=en.Ay) (p:=anc) o JV;have c:Le (b.Er en.name en.Ay 1 anc).a ((b.Er en.name en.Ay 1 anc).a.FT (b.GA en.name en.Ay 1).node l 0):=OF;have Oc:(b.Er en.name en.Ay 1 anc).AN=b.AN:=by unfold BS.Er;rw[Af JV]
   have QE:(b.Er en.name en.Ay 1 anc).A6=b.A6:=by unfold BS.Er;rw[Af JV]
   have q:=d.KD (Qz (p:=(b.GA en.name en.Ay 1).node) (n:=l) (b:=0) d.ok) c;have j:=q.uE (i:=b.GA en.name en.Ay 1) (k:=i) ⟨c.has _ f.has,by rw[c.kind _ f.has];exact f.kind,by rw[c.Bc _ f.has];exact f.Bc,by rw[c.name _ f.has];exact f.name⟩ (by simp only[Oc];exact NY o f);have g:=j.uF (e:={en with node:=(b.GA en.name en.Ay 1).node}) (k:=(Fe (b.AN.getD i Item.zero).node b.A6).toNat) ⟨c.has _ f.has,by rw[c.kind _ f.has];exact f.kind⟩ (by simp only[QE];exact QD o f);exact⟨g,c.has _ f.has,En.trans c⟩
def Wo{blk anc:Int}{far k:Nat}:∀{c:Nat} {s:BS×Int×Nat},Ey s.1->s.1.a.has s.2.1->Ey (BS.KC blk anc far k c s).1/\(BS.KC blk anc far k c s).1.a.has (BS.KC blk anc far k c s).2.1/\Le s.1.a (BS.KC blk anc far k c s).1.a
 |0,s,o,h=>⟨o,h,.refl⟩
 |c+1,s,o,h=>by obtain⟨f,h1,l1⟩:=Yv (blk:=blk) (anc:=anc) (far:=far) (i:=k+(c+1)) (m:=s.2.2) o h;obtain⟨d,h2,g⟩:=Wo (blk:=blk) (anc:=anc) (far:=far) (k:=k) (c:=c) f h1;exact⟨d,h2,l1.trans g⟩
def M7{n:Int}:∀{l:List Int} {A:Ar},EJ A 0->EJ (BS.CB A n l) 0/\Le A (BS.CB A n l)
 |[],A,ok=>⟨ok,.refl⟩
 |x::l,A,ok=>by have h:=M7 (n:=n) (l:=l) (Qz (p:=n) (n:=x) (b:=0) ok);exact⟨h.1,Le.trans OF h.2⟩
def jz{fe:Cp}{blk anc:Int}{s:BS×Int×Nat}(o:Ey s.1):Ey (BS.GH fe blk anc s)/\Le s.1.a (BS.GH fe blk anc s).a:=by
 unfold BS.GH;simp only
 generalize bF:s.1.place anc=pb;have l1:Le s.1.a (s.1.a.Ex s.2.1 pb.1 pb.2):=I9;have d:=o.KD (OG (n:=s.2.1) (p:=pb.1) (b:=pb.2) o.ok) l1;generalize Od:({s.1 with a:=s.1.a.Ex s.2.1 pb.1 pb.2}:BS)=b2 at d;have Pb:b2.a=s.1.a.Ex s.2.1 pb.1 pb.2:=by rw[<-Od]
 have Zh:b2.AN=s.1.AN:=by rw[<-Od]
 have I0:b2.A6=s.1.A6:=by rw[<-Od]
 obtain⟨j,f,l3⟩:=P5 (nm:=fe.name) (at_:=fe.Ay) (p:=blk) d JV;have Oc:(b2.Er fe.name fe.Ay 1 blk).AN=b2.AN:=by unfold BS.Er;rw[Af JV]
 have QE:(b2.Er fe.name fe.Ay 1 blk).A6=b2.A6:=by unfold BS.Er;rw[Af JV]
 generalize nl:b2.Er fe.name fe.Ay 1 blk=b3 at*;generalize hn:b2.GA fe.name fe.Ay 1=n at*;obtain⟨nr,l4⟩:=M7 (n:=n.node) (l:=(b3.a.nd blk).Bb) j.ok;have g:=Qz (p:=blk) (n:=n.node) (b:=0) nr;have c:Le b3.a ((BS.CB b3.a n.node (b3.a.nd blk).Bb).FT blk n.node 0):=l4.trans OF;have q:=j.KD g c;have fr:((BS.CB b3.a n.node (b3.a.nd blk).Bb).FT blk n.node 0).has n.node/\(((BS.CB b3.a n.node (b3.a.nd blk).Bb).FT blk n.node 0).nd n.node).kind=4/\(((BS.CB b3.a n.node (b3.a.nd blk).Bb).FT blk n.node 0).nd n.node).Bc=n.Bc/\(((BS.CB b3.a n.node (b3.a.nd blk).Bb).FT blk n.node 0).nd n.node).name=n.name:=
  ⟨c.has _ f.has,by rw[c.kind _ f.has];exact f.kind,by rw[c.Bc _ f.has];exact f.Bc,by rw[c.name _ f.has];exact f.name⟩
 have m:=(q.oR (l:=Bf b3.A6 (Fe fe.node b3.A6).toNat) Dt).LM (l:=CW fe.node b3.AN) J4;have u:n.node∉(CW fe.node b3.AN).map Item.node:=λh=>NY d f ((J4.map Item.node).subset (by rw[Oc] at h;exact h));have r:n.node∉(Bf b3.A6 (Fe fe.node b3.A6).toNat).map Cp.node:=λh=>QD d f ((Dt.map Cp.node).subset (by rw[QE] at h;exact h));refine⟨(m.aCS (i:=n) fr u).aCT (e:={fe with node:=n.node}) (.inr ⟨fr.1,fr.2.1⟩) (.inr r),?_⟩;rw[Pb] at l3;exact l1.trans (l3.trans c)
def Yw(o:Ey b):Ey (b.round nm).2/\Le b.a (b.round nm).2.a:=by
 have d:Le b.a (b.CO nm).a:=by
  unfold BS.CO;split;.split<;>exact .refl
  .exact .refl
 unfold BS.round;simp only
 split;.exact⟨bE o,d⟩
 .split;.exact⟨o.oR Dt,.refl⟩
  .split;.exact⟨o,.refl⟩
   .split;.exact⟨(o.LM HM).oR Dt,.refl⟩
    .rename_i hf;have aRY:D3 (b.A6.getD (GF nm b.A6).toNat Cp.zero).node b.AN<b.AN.length:=by
      rw[IH];split;.omega
      .unfold EZ;split;.rename_i k hk;have:=(EI.1 hk).1;rw[Bd] at this;omega
       .omega
     have hb:b.a.has (b.AN.getD (D3 (b.A6.getD (GF nm b.A6).toNat Cp.zero).node b.AN).toNat Item.zero).node:=by rw[AJ,Al Ab];exact(o.op _ (AL _)).1
     obtain⟨f,h1,l1⟩:=Wo (blk:=(b.AN.getD (D3 (b.A6.getD (GF nm b.A6).toNat Cp.zero).node b.AN).toNat Item.zero).node) (anc:=(b.AN.getD ((AT (Br (b.A6.getD (GF nm b.A6).toNat Cp.zero).node) b.AN).toNat-1) Item.zero).node) (far:=(D3 (b.A6.getD (GF nm b.A6).toNat Cp.zero).node b.AN).toNat) (k:=(AT (Br (b.A6.getD (GF nm b.A6).toNat Cp.zero).node) b.AN).toNat) (c:=(D3 (b.A6.getD (GF nm b.A6).toNat Cp.zero).node b.AN).toNat-1 -(AT (Br (b.A6.getD (GF nm b.A6).toNat Cp.zero).node) b.AN).toNat) (s:=(b,(b.AN.getD (D3 (b.A6.getD (GF nm b.A6).toNat Cp.zero).node b.AN).toNat Item.zero).node,(GF nm b.A6).toNat)) o hb;have r:=jz (fe:=b.A6.getD (GF nm b.A6).toNat Cp.zero) (blk:=(b.AN.getD (D3 (b.A6.getD (GF nm b.A6).toNat Cp.zero).node b.AN).toNat Item.zero).node) (anc:=(b.AN.getD ((AT (Br (b.A6.getD (GF nm b.A6).toNat Cp.zero).node) b.AN).toNat-1) Item.zero).node) f;exact⟨r.1,l1.trans r.2⟩
def bG:∀{n:Nat} {b:BS},Ey b->Ey (BS.Eh n b nm)/\Le b.a (BS.Eh n b nm).a
 |0,b,o=>⟨o,.refl⟩
 |n+1,b,o=>by
  obtain⟨c,l1⟩:=Yw (nm:=nm) o;unfold BS.Eh;simp only
  split;.have r:=bG (n:=n) c;exact⟨r.1,l1.trans r.2⟩
  .exact⟨c,l1⟩
def bH(o:Ey b):Ey (b.Fz nm):=by
 unfold BS.Fz;split;.exact ux o
 .exact(bG o).1
end
structure Nw(A:Ar):Prop where
 n:A.n.length<=1000000000
 at_:∀x,(A.nd x).Ay.length<=1000000000
 data:∀x,(A.nd x).data.length<=1000000000
def DL(l:List A5):Prop:=l.length<=1000/\∀a∈l,a.name.length<=1000/\a.value.length<=1000
structure B6(b:BS)(m:Nat):Prop where
 n:b.a.n.length+m<=900000000
 at_:∀x,(b.a.nd x).Ay.length+m<=1000000000
 data:∀x,(b.a.nd x).data.length+m<=1000000000
 AN:b.AN.length+m<=900000000
 A6:b.A6.length+m<=900000000
 tm:b.tm.length+m<=900000000
 DE:∀e∈b.A6,e.name.length<=1000/\DL e.Ay
 VM:∀i∈b.AN,i.name.length<=1000
def B6.Zm{b:BS}{m:Nat}(r:B6 b m):Nw b.a:=⟨by have:=r.n;omega,λx=>by have:=r.at_ x;omega,λx=>by have:=r.data x;omega⟩
def B6.le{b:BS}{m m':Nat}(r:B6 b m)(hm:m'<=m):B6 b m':=⟨by have:=r.n;omega,λx=>by have:=r.at_ x;omega,λx=>by have:=r.data x;omega,by have:=r.AN;omega,by have:=r.A6;omega,by have:=r.tm;omega,r.DE,r.VM⟩
def bI{sp:Int}{y:A5}:(C5 sp y).value=y.value:=by
 unfold C5;split;.split<;>rfl
 .rfl
structure OH(A A':Ar):Prop where
 n:A'.n.length=A.n.length
 at_:∀x,(A'.nd x).Ay=(A.nd x).Ay
 data:∀x,(A'.nd x).data=(A.nd x).data
section
variable{A A' A'':Ar}{x p bf:Int}{b:BS}{m:Nat}
def OH.refl:OH A A:=⟨rfl,λ_=>rfl,λ_=>rfl⟩
def OH.trans(h:OH A A')(k:OH A' A''):OH A A'':=⟨k.n.trans h.n,λx=>(k.at_ x).trans (h.at_ x),λx=>(k.data x).trans (h.data x)⟩
def oU{y:ES}(h1:y.Ay=(A.nd x).Ay)(h2:y.data=(A.nd x).data):OH A (A.set x y):=by
 refine⟨Jw,λk=>?_,λk=>?_⟩<;>rw[JP]<;>split;.rename_i e;rw[h1,e.1]
 .rfl
 .rename_i e;rw[h2,e.1]
 .rfl
def bJ{l:List Int}:OH A (A.set x {A.nd x with Bb:=l}):=oU rfl rfl
def bK:OH A (A.set x {A.nd x with FM:=p}):=oU rfl rfl
def J5:OH A (A.FT p x bf):=by
 unfold Ar.FT;split
 .refine OH.trans ?_ (OH.trans bJ bK);unfold Ar.cut;simp only;split;.exact .refl
  .exact OH.trans bJ bK
 .exact .refl
def J6:OH A (A.Ex x p bf):=by unfold Ar.Ex;split;exact .refl;exact J5
def Rj{n:Int}:∀{l:List Int} {A:Ar},OH A (BS.CB A n l)
 |[],A=> .refl
 |y::l,A=>OH.trans J5 (Rj (l:=l))
def B6.same{c:BS}(r:B6 b m)(h:OH b.a c.a)(h1:c.AN.length<=b.AN.length)(h2:c.A6.length<=b.A6.length)(g:c.tm.length<=b.tm.length)(f:∀e∈c.A6,e.name.length<=1000/\DL e.Ay)(d:∀i∈c.AN,i.name.length<=1000):B6 c m:=
 ⟨by rw[h.n];exact r.n,λx=>by rw[h.at_];exact r.at_ x,λx=>by rw[h.data];exact r.data x,by have:=r.AN;omega,by have:=r.A6;omega,by have:=r.tm;omega,f,d⟩
def B6.KD{A':Ar}(r:B6 b m)(h:OH b.a A'):B6 {b with a:=A'} m:=r.same h (Ag _) (Ag _) (Ag _) r.DE r.VM
def B6.LM{l:List Item}(r:B6 b m)(h:List.Sublist l b.AN):B6 {b with AN:=l} m:=r.same .refl h.length_le (Ag _) (Ag _) r.DE λi hi=>r.VM i (h.subset hi)
def B6.eq{c:BS}(r:B6 b m)(h1:c.a=b.a)(h2:c.AN=b.AN)(d:c.A6=b.A6)(e:c.tm=b.tm):B6 c m:=⟨by rw[h1];exact r.n,by rw[h1];exact r.at_,by rw[h1];exact r.data,by rw[h2];exact r.AN,by rw[d];exact r.A6,by rw[e];exact r.tm,by rw[d];exact r.DE,by rw[h2];exact r.VM⟩
structure Ue(A A':Ar)(k:Nat):Prop where
 n:A'.n.length<=A.n.length+k
 at_:∀x,(A'.nd x).Ay.length<=max (A.nd x).Ay.length 1000
 data:∀x,(A'.nd x).data.length<=max (A.nd x).data.length 100000
def NZ{y:ES}(h1:y.Ay.length<=1000)(h2:y.data.length<=100000):Ue A (A.add y) 1:=by refine⟨by simp[Ar.add],λx=>?_,λx=>?_⟩<;>rw[II]<;>split<;>omega
def Ue.trans{k k':Nat}(h:Ue A A' k)(g:Ue A' A'' k'):Ue A A'' (k+k'):=
 ⟨by have:=h.n;have:=g.n;omega,λx=>by have:=h.at_ x;have:=g.at_ x;omega,λx=>by have:=h.data x;have:=g.data x;omega⟩
def Ue.le{k k':Nat}(h:Ue A A' k)(hk:k<=k'):Ue A A' k':=⟨by have:=h.n;omega,h.at_,h.data⟩
def j_(h:OH A A'):Ue A A' 0:=⟨by rw[h.n];exact Ag _,λx=>by rw[h.at_];omega,λx=>by rw[h.data];omega⟩
def uI:Ue A (A.Ds x) 1:=by
 unfold Ar.Ds;split;.exact(j_ .refl).le Ab
 .have:=NZ (A:=A) (y:={kind:=1,CQ:=A.len+1}) (AV _) (AV _);exact⟨this.n,this.at_,this.data⟩
def uy{y:ES}(h1:y.Ay.length<=1000)(h2:y.data.length<=100000):Ue A (A.set x y) 0:=by refine⟨by rw[Jw];exact Ag _,λx=>?_,λx=>?_⟩<;>rw[JP]<;>split<;>omega
def ka{d sp:Int}{nm:Ai}{l:List A5}(hl:l.length<=1000):Ue A (A.elem d sp nm l) 3:=by
 have ho:=Bs (Qy (l:=l)) hl;have g1:=NZ (A:=A) (y:={kind:=4,CQ:=d,Bc:=sp,name:=nm,Ay:=Cz l}) ho (AV _);unfold Ar.elem;simp only
 split;.have g2:=uI (A:=A.add {kind:=4,CQ:=d,Bc:=sp,name:=nm,Ay:=Cz l}) (x:=d);have g3:=NZ (A:=(A.add {kind:=4,CQ:=d,Bc:=sp,name:=nm,Ay:=Cz l}).Ds d) (y:={kind:=2,Em:=A.len+1,CQ:=(A.add {kind:=4,CQ:=d,Bc:=sp,name:=nm,Ay:=Cz l}).Fy d}) (AV _) (AV _);exact g1.trans (k':=2) (g2.trans (k':=1) (g3.trans (k':=0) (uy ho (AV _))))
 .exact g1.le Ab
def B6.JI{A':Ar}{k:Nat}(r:B6 b (m+k))(h:Ue b.a A' k):B6 {b with a:=A'} m:=
 ⟨by have:=r.n;have:=h.n;simp only;omega,λx=>by have:=r.at_ x;have:=h.at_ x;have:=r.n;simp only;omega,λx=>by have:=r.data x;have:=h.data x;have:=r.n;simp only;omega,by have:=r.AN;simp only;omega,by have:=r.A6;simp only;omega,by have:=r.tm;simp only;omega,r.DE,r.VM⟩
def Yx{sp:Int}{nm:Ai}:(BS.IK sp nm).length=nm.length:=by
 unfold BS.IK;split
 .rcases LI nm I4 with h|h
  .rw[h]
  .conv=>rhs;rw[<-h.2,SP]
 .rfl
variable{nm:Ai}{l:List A5}{sp:Int}
def Ja(r:B6 b (m+3))(hl:DL l):B6 (b.Er nm l sp p) m:=by
 unfold BS.Er;split;.exact r.JI (ka (by rw[An];exact hl.1))
 .exact r.le Ab
def N0(hn:nm.length<=1000):(b.GA nm l sp).name.length<=1000:=by
 unfold BS.GA;split;.show(BS.IK sp nm).length<=1000;rw[Yx];exact hn
 .exact AV _
def B6.aAR{i:Item}{l':List Item}(r:B6 b (m+1))(h1:l'.length<=b.AN.length+1)(h2:∀j∈l',j∈b.AN\/j=i)(hi:i.name.length<=1000):B6 {b with AN:=l'} m:=
 ⟨by have:=r.n;simp only;omega,λx=>by have:=r.at_ x;simp only;omega,λx=>by have:=r.data x;simp only;omega,by have:=r.AN;simp only;omega,by have:=r.A6;simp only;omega,by have:=r.tm;simp only;omega,r.DE,λj hj=>by
  rcases h2 j hj with h|rfl
  .exact r.VM j h
  .exact hi⟩
def B6.uz{e:Cp}{l':List Cp}(r:B6 b (m+1))(h1:l'.length<=b.A6.length+1)(h2:∀j∈l',j∈b.A6\/j=e)(hi:e.name.length<=1000/\DL e.Ay):B6 {b with A6:=l'} m:=
 ⟨by have:=r.n;simp only;omega,λx=>by have:=r.at_ x;simp only;omega,λx=>by have:=r.data x;simp only;omega,by have:=r.AN;simp only;omega,by have:=r.A6;simp only;omega,by have:=r.tm;simp only;omega,λj hj=>by
  rcases h2 j hj with h|rfl
  .exact r.DE j h
  .exact hi,r.VM⟩
def Lu(r:B6 b (m+4))(hl:DL l)(hn:nm.length<=1000):B6 (b.EF nm l sp) m:=by
 unfold BS.EF;split
 .rename_i hs;have c:=Ja (m:=m+1) (nm:=nm) (sp:=sp) (p:=(b.place 0).1) (r.le Ab) hl;have r2:=c.KD (J6 (x:=b.a.len+1) (p:=(b.place 0).1) (bf:=(b.place 0).2));have ho:(b.Er nm l sp (b.place 0).1).AN=b.AN:=by unfold BS.Er;rw[Af hs]
  refine r2.aAR (i:=b.GA nm l sp) (by simp only[Au,Be];exact Ag _) (λj hj=>?_) (N0 hn);rcases Ax.1 hj with h|h
  .exact .inl h
  .exact .inr (by simpa using h)
 .exact r.le Ab
def oV(r:B6 b (m+5))(hl:DL l)(hn:nm.length<=1000):B6 (b.Ko nm l) m:=by
 have c:=Lu (m:=m+1) (sp:=1) (nm:=nm) (r.le Ab) hl hn;unfold BS.Ko;simp only
 obtain⟨l',h1,h2⟩:=Yr (l:=(b.EF nm l 1).A6) (e:=⟨b.a.len+1,nm,l⟩);rw[h2];refine c.uz (e:=⟨b.a.len+1,nm,l⟩) (by have:=h1.length_le;simp;omega) (λj hj=>?_) ⟨hn,hl⟩;rcases Ax.1 hj with h|h
 .exact .inl (h1.subset h)
 .exact .inr (by simpa using h)
end
end Go.Am
end
