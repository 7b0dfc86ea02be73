/- Lemmas -/
import Derived.Test.YtlcmmpgfafpoiaaGreatDoorT17
set_option linter.all false
noncomputable section
set_option maxRecDepth 100000
section
namespace Go.Am
open Go
section
section
variable{U:Type}{z:Nat}
def FV{AD:List (List U)}(h:∀r∈AD,r.length=z):AD.flatten.length=AD.length*z:=by
 induction AD with
 |nil=>simp
 |cons q AD ih=>rw[CK,Av,h q AH,ih λr hr=>h r (by simp[hr]),Bf,BJ];omega
def bB{AD:List (List U)}(h:∀r∈AD,r.length=z):∀{k:Nat},AD.flatten.take (k*z)=(AD.take k).flatten:=by
 induction AD with
 |nil=>intro k;simp
 |cons q AD ih=>
  intro k;have hq:=h q AH;cases k with
  |zero=>simp
  |succ k=>rw[CK,BJ,Ea,Pe,v8,AF Ab,hq,Tr,ih λr hr=>h r (by simp[hr])];simp
def I1{AD:List (List U)}(h:∀r∈AD,r.length=z):∀{k:Nat},AD.flatten.drop (k*z)=(AD.drop k).flatten:=by
 induction AD with
 |nil=>intro k;simp
 |cons q AD ih=>
  intro k;have hq:=h q AH;cases k with
  |zero=>simp
  |succ k=>rw[CK,BJ,Ea,Pe,To,A0 Ab,hq,Tr,ih λr hr=>h r (by simp[hr])];simp
def nN{AD:List (List U)}(h:∀r∈AD,r.length=z){k:Nat}(hk:k<AD.length)(q:List U):AD.flatten.take (k*z)++q++AD.flatten.drop (k*z+z)=(AD.set k q).flatten:=by
 have e:k*z+z=(k+1)*z:=by rw[BJ,Ea]
 rw[e,bB h,I1 h,BQ,Af hk];simp
def bC{AD:List (List Aa)}(h:∀r∈AD,r.length=z):∀{n off:Nat},off+n<=AD.length->Cw AD.flatten z (off*z) n=(AD.drop off).take n:=by
 intro n;induction n with
 |zero=>intro off _;simp[Cw]
 |succ n ih=>
  intro off hl;rw[Cw];have e:off*z+z=(off+1)*z:=by rw[BJ,Ea]
  rw[e,ih Ab,I1 h];have hlt:off<AD.length:=Ab;rw[AG hlt,CK,CI (by rw[h _ (AN hlt)];exact Ag _),AF (by rw[h _ (AN hlt)];exact Ag _),ZV]
def ud{AD:List (List Aa)}(h:∀r∈AD,r.length=z):Cw AD.flatten z 0 AD.length=AD:=by have:=bC h (n:=AD.length) (off:=0) Ab;simpa using this
end
section
variable{h:Ah}{id z n:Nat}{AD:List (List Aa)}
def I2(hr:∀r∈AD,r.length=z)(hc:h[id]?=some (.cells AD.flatten)):Kd h (.Cs id 0 AD.length z)=some (h.set id .CF,.sl z AD):=by unfold Kd;simp only[hc,BL];rw[Af (by rw[FV hr];exact Ag _),ud hr]
def E0{k:IntKind}{i:Nat}(hi:i<n):AB (.Fu z) [.Cs id 0 n z,.int k (i:Int)]=some (.ptr (some (id,i*z))):=by
 have:Mi (i:Int) n=some i:=by unfold Mi;rw[Af Ab];rfl
 simp[AB,elemOf,this]
def UX(hr:∀r∈AD,r.length=z)(hc:h[id]?=some (.cells AD.flatten)){i:Nat}(hi:i<AD.length){q:List Aa}(hq:q.length=z):Co h z (.ptr (some (id,i*z))) (.agg q)=some (h.set id (.cells (AD.set i q).flatten)):=by
 simp only[Co,hc,TP];have:i*z+z<=AD.flatten.length:=by rw[FV hr];have:=DY z (Ab:i+1<=AD.length);rwa [BJ,Ea] at this
 rw[<-nN hr hi];exact Af ⟨hq,this⟩
def nO(hr:∀r∈AD,r.length=z){i:Nat}{q:List Aa}(hq:q.length=z):∀r∈AD.set i q,r.length=z:=by
 intro r h;rcases Dd h with h|rfl
 .exact hr r h
 .exact hq
def Kq{U:Type}{f:U->List Aa}(hf:∀a,(f a).length=z)(l:List U):∀r∈l.map f,r.length=z:=by intro r h;obtain⟨a,_,rfl⟩:=Bm.1 h;exact hf a
def Lv{s v:Aa}{b:Nat}(hs:s= .slnil\/s= .sl z [])(hv:AV z AD v)(hne:AD≠[])(hb:AD.length*b<=AS):Jj h z b s v=some (h++[.cells AD.flatten],.Cs h.length 0 AD.length z):=by
 rcases hv with rfl|⟨rfl,hv⟩
 .cases AD with
  |nil=>exact absurd rfl hne
  |cons r AD=>rw[Bf] at hb;rcases hs with rfl|rfl<;>simp[Jj,Od,hb]
 .exact absurd hv hne
def PO{s v:Aa}{b:Nat}(hs:s= .slnil\/s= .sl z [])(hv:AV z [] v):Jj h z b s v=some (h,s):=by rcases hv with rfl|⟨rfl,hv⟩<;>rcases hs with rfl|rfl<;>simp[Jj,Od]
def tC{v:Aa}{b:Nat}(hv:AV z [] v):Fw h z b (.Cs id 0 n z) v=some (h,.Cs id 0 n z):=by rcases hv with rfl|⟨rfl,hv⟩<;>simp[Fw,Gp]
def IF{v:Aa}{b:Nat}{r2:List (List Aa)}(hr:∀r∈AD,r.length=z)(hz:0<z)(hc:h[id]?=some (.cells AD.flatten))(hv:AV z r2 v)(hne:r2≠[])(hb:(AD.length+r2.length)*b<=AS):
  Fw h z b (.Cs id 0 AD.length z) v=some (h.set id .CF++[.cells (AD++r2).flatten],.Cs h.length 0 (AD.length+r2.length) z):=by
 rcases hv with rfl|⟨rfl,hv⟩
 .cases r2 with
  |nil=>exact absurd rfl hne
  |cons r r2=>
   have hl:=FV hr;have h1:¬(0+(AD.length+(r::r2).length)*z<=AD.flatten.length):=by rw[hl,Bf,BL,BJ,BJ];omega
   have h2:AD.flatten.take (AD.length*z)=AD.flatten:=AF (by rw[hl];exact Ag _);unfold Fw;simp only[Gp,BI,hc];rw[Ad h1,Af ⟨trivial,by rw[hl];exact Ag _,hb⟩,h2,K5]
 .exact absurd hv hne
end
end
section
section
end
def GA:List An:=[[100,100],[100,116],[108,105],aUq,aUB,[112],[114,98],[114,112],[114,116],[114,116,99]]
def J5:List An:=[aT7,aUk,aUr,[116,100],aUo,[116,104],aUs,[116,114]]
def KW:List An:=[[109,105],[109,110],[109,111],[109,115],[109,116,101,120,116]]
def Qs:List An:=[aUR,aUf,aT2]
section
end
def Ey(k:Int)(s:An):Bool:=
 if k=3 then decide (s=aT1\/s∈KW) else if k=2 then decide (s∈Qs) else if k=1 then decide (s∈NR) else false
def sw(s:An)(t e:IT):List An->IT
 |[]=>e
 |c::cs=> .op (.str .eql) [.str s,.str c] λv=> .Gg v t (sw s t e cs)
def ue{C:F8}{Q:HF}{h:Ah}{s:An}{t e:IT}:∀{cs:List An},W C (sw s t e cs) Q h↔(s∈cs->W C t Q h)/\(s∉cs->W C e Q h)
 |[]=>by simp[sw]
 |c::cs=>by
  simp only[sw,XM,xP,NP,NQ,XN,AX,Ns];rw[ue];by_cases hc:s=c;.simp[hc]
  .simp[hc]
def L4{C:F8}{f:FuncId}{args:List Aa}{r:Aa}:JQ C f args r↔W C (B9 C f args) (λx vs _=>x= .ret/\vs=[r]) []:=by
 unfold JQ Ev;constructor;.exact λh=>W.mono h λ_ _ _ ⟨h1,r,h2,a⟩=>⟨h1,by rw[h2,a]⟩
 .exact λh=>W.mono h λ_ _ _ ⟨h1,h2⟩=>⟨h1,r,h2,rfl⟩
section
variable{Q:HF}{h:Ah}{k:Aa->IT}{s:An}
end
section
variable{Q:HF}{h:Ah}{k:Aa->IT}{s:An}{n:Int}
end
end
section
def Q3{cur:An}:Dp cur []=[cur]:=by unfold Dp;rfl
def PQ{cur r:An}{c:UInt8}:Dp cur (c::r)=if c=32 then cur::Dp [] r else Dp (cur++[c]) r:=by rw[Dp]
def Ga(l s:An):Bool:=decide (s≠[]/\(32:UInt8)∉s/\s∈Dp [] l)
def XZ{s:An}{a n:Nat}(ha:a<=n)(hn:n<s.length):(s.take (n+1)).drop a=(s.take n).drop a++[s[n]]:=by rw[AE hn,Ji D9]
end
section
def Ec{l:An}{ws:List An}{s:An}(h1:Dp [] l=ws)(h2:ws.all (λw=> !w.isEmpty&& !w.contains 32)=true):Ga l s=decide (s∈ws):=by
 unfold Ga;rw[h1,Db];refine⟨λh=>h.2.2,λh=>⟨?_,?_,h⟩⟩;.have:=C9.1 h2 s h;rintro rfl;simp at this
 .have:=C9.1 h2 s h;intro a;simp[a] at this
section
variable{Q:HF}{h:Ah}{k:Aa->IT}{s:An}
def tD:Ga aTO s=decide (s∈NR):=Ec Di Di
def eK:Ga aUi s=decide (s∈KW):=Ec Di Di
def nQ:Ga aT4 s=decide (s∈Qs):=Ec Di Di
def tE:Ga aTV s=decide (s∈GA):=Ec Di Di
def nS:Ga aTX s=decide (s∈J5):=Ec Di Di
def I3:List An:=Dp [] aTP
def Ic:List An:=Dp [] aTN
def Ox:List An:=[aTT,aT6,aTR]
def jd:Ga aUe s=decide (s∈Ox):=Ec Di Di
def Mt:List An:=[aUq,aUB]
def tF:Ga aT8 s=decide (s∈Mt):=Ec Di Di
def Rz:List An:=[[111,108],[117,108]]
def uf:Ga aUU s=decide (s∈Rz):=Ec Di Di
def Qt:List An:=[aUO,aT7,aTT,aUK,aUP,aT6,[116,100],aTR,[116,104]]
def je:Ga aTU s=decide (s∈Qt):=Ec Di Di
end
section
variable{Q:HF}{h:Ah}{k:Aa->IT}{s:An}{n:Int}
end
end
section
def I4(c:UInt8):UInt8:=if 65<=c.toNat/\c.toNat<=90 then c+32 else c
def FW(s:An):An:=s.map I4
def SA{c:UInt8}(h:65<=c.toNat/\c.toNat<=90):((I4 c).toNat:Int)=(c.toNat:Int)+32:=by unfold I4;rw[Af h,UInt8.toNat_add];have:UInt8.toNat 32=32:=AU;rw[this];omega
def Oy{c:UInt8}(h:¬(65<=c.toNat/\c.toNat<=90)):I4 c=c:=by unfold I4;rw[Ad h]
def RC{s:An}{n:Nat}(hn:n<s.length):FW (s.take (n+1))=FW (s.take n)++[I4 s[n]]:=by rw[AE hn];unfold FW;rw[BE];rfl
def OZ(b:UInt8):Aa:= .int .u8 (b.toNat:Int)
def HJ(s:An)(n:Nat):An:=FW (s.take n)++s.drop n
def X0(s:An)(n:Nat):(HJ s n).length=s.length:=by simp[HJ,FW];omega
def X1{s:An}{n:Nat}(hn:n<s.length):(HJ s n)[n]?=some s[n]:=by unfold HJ FW;rw[Bd D9];simp only[Aj,Aw,Cq (MO hn),Dc];rw[AG hn];rfl
def SB{s:An}{n:Nat}(hn:n<s.length):HJ s (n+1)=(HJ s n).set n (I4 s[n]):=by
 unfold HJ;rw[RC hn,BB _ _ (by simp[FW];omega)];have e:n-(FW (s.take n)).length=0:=by simp[FW];omega
 rw[e,AG hn,Qb,AI];rfl
def nT(s:An):HJ s s.length=FW s:=by simp[HJ,FW]
def SC{U:Type}{l:List U}{i:Nat}{v:U}(h:l[i]?=some v):l.set i v=l:=by
 apply Rf;intro j;rw[aPC];split
 .rename_i e;subst e;split;.exact h.symm
  .rename_i hl;rw[Ef Ab]
 .rfl
def tG{cs:List Aa}{i:Nat}{v:Aa}(h:cs[i]?=some v):A7 [.cells cs] none (.ptr (some (0,i)))=some v:=by simpa[A7] using h
def ZM{U:Type}{l:List U}{i:Nat}{v:U}(h:i<l.length):l.take i++v::l.drop (i+1)=l.set i v:=by rw[BQ,Af h]
def nU{cs:List Aa}{i:Nat}{v:Aa}(h:i<cs.length)(hv:v.cells=[v]):Co [.cells cs] 1 (.ptr (some (0,i))) v=some [.cells (cs.set i v)]:=by simp only[Co,hv,IP,A9];rw[Af ⟨trivial,Ab⟩,<-ZM h];simp
def PR(s:An):∀(n o:Nat),o+n=s.length->Cw (s.map OZ) 1 o n=Cd (s.drop o)
 |0,o,h=>by rw[A0 Ab];rfl
 |n+1,o,h=>by
  have ho:o<s.length:=Ab;have e:(s.map OZ).drop o=OZ s[o]::(s.map OZ).drop (o+1):=by rw[AG (by simpa using ho)];simp
  rw[Cw,PR s n (o+1) Ab,AG ho,e];rfl
end
section
def Cp(name:An):List An->An
 |[]=>name
 |w::ws=>if FW w=name then w else Cp name ws
def CC(w:An):List Aa:=[.str w]
def Mf:An:=aTP
def NS:An:=aTN
def X2:Dp [] Mf=I3:=Di
def X3:Dp [] NS=Ic:=Di
end
section
structure A6 where
 Bc:Int
 name:An
 value:An
 deriving DecidableEq
def A6.row(a:A6):List Aa:=[.int .i64 a.Bc,.str a.name,.str a.value]
structure Item where
 node:Int
 Bc:Int
 name:An
 O0:Bool
 deriving DecidableEq
def Item.row(a:Item):List Aa:=[.int .i64 a.node,.int .i64 a.Bc,.str a.name,.bool a.O0]
def Jm(ns:List An)(v:Aa):Prop:=AV 1 (ns.map CC) v
def Bq(l:List A6)(v:Aa):Prop:=AV 3 (l.map A6.row) v
def BY(l:List Item)(v:Aa):Prop:=AV 4 (l.map Item.row) v
def xR(l:List A6):Prop:=l.length<=12/\∀x∈l,x.name.length<=60/\x.value.length<=200
instance(l:List A6):Decidable (xR l):=by unfold xR;infer_instance
def ug(l:List An):Prop:=l.length<=12/\∀x∈l,x.length<=60
instance(l:List An):Decidable (ug l):=by unfold ug;infer_instance
def xS(l:List Item):Prop:=l.length<=60/\∀x∈l,x.name.length<=60
instance(l:List Item):Decidable (xS l):=by unfold xS;infer_instance
end
section
def Cl{U:Type}(p:U->Bool)(n:Nat):List U->Int
 |[]=> -1
 |a::l=>if p a then(n:Int) else Cl p (n+1) l
def HK{U:Type}{p:U->Bool}:∀{l:List U} {k:Nat},(Cl p k l= -1/\l.find? p=none)\/∃(n:Nat) (a:U),Cl p k l=((k+n:Nat):Int)/\l[n]?=some a/\l.find? p=some a
 |[],k=> .inl ⟨rfl,rfl⟩
 |a::l,k=>by
  unfold Cl;by_cases h:p a=true;.exact .inr ⟨0,a,by rw[Af h];rfl,rfl,by simp[h]⟩
  .rw[Ad h];rcases HK (p:=p) (l:=l) (k:=k+1) with⟨h1,h2⟩|⟨n,b,h1,h2,c⟩
   .exact .inl ⟨h1,by simp[h,h2]⟩
   .exact .inr ⟨n+1,b,by rw[h1];congr 1;omega,by simpa using h2,by simp[h,c]⟩
def O1(a:A6):Bool:=decide (a.Bc=0/\a.name=aUI)
def UY{s:An}(h:s.all (λc=> !(65<=c.toNat&&c.toNat<=90))=true):FW s=s:=by
 unfold FW;conv=>rhs;rw[<-List.map_id s]
 apply ZY;intro c hc;have:=C9.1 h c hc;refine Oy λh2=>?_;simp[h2.1,h2.2] at this
abbrev aGb:An:=aT1
abbrev xT:An:=aUG
abbrev eL:An:=aT9
def Fm(n:Int)(s:An)(l:List A6):Bool:=
 if n=2 then Ey 2 s else if n≠3 then false else if s≠aGb then false else match l.find? O1 with
  |none=>false
  |some a=>decide (FW a.value=xT\/FW a.value=eL)
end
section
section
variable{U:Type}{f:U->List Aa}{l l2:List U}{v v2:Aa}{z b:Nat}{k k2:IntKind}
def AV.CN(hv:AV z (l.map f) v):AB (.len false) [v]=some (.int .i64 (l.length:Int)):=by have:=AV.len hv;rwa [Aj] at this
def AV.BM(hv:AV z (l.map f) v){n:Nat}(hn:n<l.length):AB (.Fu z) [v,.int k (n:Int)]=some (.CJ (f l[n])):=by have:=AV.Fu hv (k:=k) (n:=n) (by simpa using hn);simpa using this
def AV.Lw(hv:AV z (l.map f) v){n:Nat}(hn:n<=l.length):∃u,AB (.KK z false false true) [v,.int k (n:Int)]=some u/\AV z ((l.take n).map f) u:=by
 rcases hv with rfl|⟨rfl,h⟩
 .have a:E6 (n:Int) (l.map f).length=some n:=by unfold E6;rw[Aj,Af Ab];rfl
  refine⟨.sl z ((l.map f).take n),?_,.inl (by rw[Ft])⟩;simp only[AB,JE,D3,a,B5,Zf,BI,Ky]
 .have:l=[]:=by simpa using h
  subst this;have:n=0:=by simpa using hn
  subst this;exact⟨.slnil,rfl,.inr ⟨rfl,rfl⟩⟩
def AV.SD(hv:AV z (l.map f) v){n:Nat}(hn:n<=l.length):∃u,AB (.KK z false true false) [v,.int k (n:Int)]=some u/\AV z ((l.drop n).map f) u:=by
 rcases hv with rfl|⟨rfl,h⟩
 .have a:E6 (n:Int) (l.map f).length=some n:=by unfold E6;rw[Aj,Af Ab];rfl
  refine⟨.sl z ((l.map f).drop n),?_,.inl (by rw[JJ])⟩;simp only[AB,JE,D3,a,B5,Zf,BI,Bx]
 .have:l=[]:=by simpa using h
  subst this;have:n=0:=by simpa using hn
  subst this;exact⟨.slnil,rfl,.inr ⟨rfl,rfl⟩⟩
def AV.eM(hv:AV z (l.map f) v)(Sk:AV z (l2.map f) v2)(hb:(l.length+l2.length)*b<=AS):∃u,AB (.append z b) [v,v2]=some u/\AV z ((l++l2).map f) u:=by obtain⟨u,e,hu⟩:=AV.Ib hv Sk (b:=b) (by simpa using hb);exact⟨u,e,by rwa [BE]⟩
def AV.FJ(Sk:AV z (l2.map f) v2)(hb:l2.length*b<=AS):∃u,AB (.append z b) [.slnil,v2]=some u/\AV z (l2.map f) u:=by obtain⟨u,e,hu⟩:=AV.Ib (v:= .slnil) (r:=[]) .nil Sk (b:=b) (by simpa using hb);exact⟨u,e,by simpa using hu⟩
def AV.Jv{a:U}(hv:AV z (l.map f) v)(hb:(l.length+1)*b<=AS):AB (.append z b) [v,.sl z [f a]]=some (.sl z ((l++[a]).map f)):=by rw[AV.sZ hv (by simpa using hb)];simp
end
def C3{a b:Int}(h1: -9223372036854775808<=a-b)(h2:a-b<9223372036854775808):AB (.int .sub) [.int .i64 a,.int .i64 b]=some (.int .i64 (a-b)):=by rw[sY,wrap_i64 h1 h2]
def Oz{a b:Int}(h1: -9223372036854775808<=a+b)(h2:a+b<9223372036854775808):AB (.int .add) [.int .i64 a,.int .i64 b]=some (.int .i64 (a+b)):=by rw[eD,wrap_i64 h1 h2]
def Item.zero:Item:=⟨0,0,[],false⟩
def Item.CP{a:Item}:a.row.length=4:=rfl
def Item.g0{a:Item}{d:Aa}:a.row.getD 0 d= .int .i64 a.node:=rfl
def Item.g1{a:Item}{d:Aa}:a.row.getD 1 d= .int .i64 a.Bc:=rfl
def Item.g2{a:Item}{d:Aa}:a.row.getD 2 d= .str a.name:=rfl
def Item.g3{a:Item}{d:Aa}:a.row.getD 3 d= .bool a.O0:=rfl
def Item.at0{a:Item}:a.row[0]?=some (.int .i64 a.node):=rfl
def Item.HW{a:Item}:a.row.take 4=a.row:=rfl
def Item.xU{a:Item}:a.row.drop 1=[.int .i64 a.Bc,.str a.name,.bool a.O0]:=rfl
def Item.aGc{a:Item}:a.row.drop 2=[.str a.name,.bool a.O0]:=rfl
def Item.aGd{a:Item}:a.row.drop 3=[.bool a.O0]:=rfl
def Item.PS{a:Item}:[Aa.int .i64 a.node,.int .i64 a.Bc,.str a.name,.bool a.O0]=a.row:=rfl
def Item.fill{a:Item}:AT [.int .i64 0,.int .i64 0,.str [],.bool false] ([(0,1),(1,1),(2,1),(3,1)].zip a.row)=some a.row:=rfl
def Fc:=ai @Item.fill (ai @Item.CP (ai @Item.g0 (ai @Item.g1 (ai @Item.g2 (ai @Item.g3 (ai @Item.at0 (ai @Item.HW (ai @Item.xU (ai @Item.aGc (ai @Item.aGd (ai @Item.PS (ai @Cb (@By.{0})))))))))))))
def Hh(l:List Item)(i:Int):Item:=if 0<=i then l.getD i.toNat Item.zero else Item.zero
def FA(l:List Item):Item:=Hh l ((l.length:Int)-1)
def AR{U:Type}(q:U->Bool)(l:List U):Int:=match l.reverse.findIdx? q with
 |some k=>(l.length:Int)-1 -k
 |none=> -1
def J6{U:Type}{q:U->Bool}:AR q []= -1:=rfl
def I5{U:Type}{q:U->Bool}{l:List U}{a:U}:AR q (l++[a])=if q a then(l.length:Int) else AR q l:=by
 unfold AR;rw[Iv,Jq,JW,aOc];by_cases h:q a=true;.simp only[h,BI,Av,A9];omega
 .simp only[h,DG,Cu,Av,A9];cases List.findIdx? q l.reverse with
  |none=>rfl
  |some k=>simp only[B5];omega
def GV{U:Type}{q:U->Bool}{l:List U}{n:Nat}(hn:n<l.length):AR q (l.take (n+1))=if q l[n] then(n:Int) else AR q (l.take n):=by rw[AE hn,I5,Aw,Cq (MO hn)]
def Dh{U:Type}{q:U->Bool}{l:List U}:(AR q l= -1/\∀a∈l,q a=false)\/∃(n:Nat) (hn:n<l.length),AR q l=(n:Int)/\q l[n]=true/\∀m (hm:m<l.length),n<m->q l[m]=false:=by
 have key:∀r:List U,(AR q r.reverse= -1/\∀a∈r.reverse,q a=false)\/∃(n:Nat) (hn:n<r.reverse.length),AR q r.reverse=(n:Int)/\q r.reverse[n]=true/\∀m (hm:m<r.reverse.length),n<m->q r.reverse[m]=false:=by
  intro r;induction r with
  |nil=>exact .inl ⟨rfl,AH⟩
  |cons a r ih=>
   rw[EJ,I5];by_cases h:q a=true;.refine .inr ⟨r.reverse.length,AH,by rw[Af h],by simp[h],λm hm hlt=>?_⟩;simp at hm hlt;omega
   .rw[Ad h];rcases ih with⟨h1,h2⟩|⟨n,hn,h1,h2,c⟩
    .exact .inl ⟨h1,λb hb=>by
      rcases Ax.1 hb with hb|hb
      .exact h2 b hb
      .simp at hb;subst hb;simpa using h⟩
    .refine .inr ⟨n,by simp at hn⊢;omega,h1,by rw[Gl hn];exact h2,λm hm hlt=>?_⟩;by_cases Vv:m<r.reverse.length;.rw[Gl Vv];exact c m Vv hlt
     .have:m=r.reverse.length:=by simp at hm Vv⊢;omega
      subst this;simpa using h
 have:=key l.reverse;rwa [Fk] at this
def At(h:Ah)(id o:Nat)(v:Aa):Prop:=∃cs,h[id]?=some (.cells cs)/\cs[o]?=some v
def put(h:Ah)(id o:Nat)(u:Aa):Ah:=match h[id]? with
 |some (.cells cs)=>h.set id (.cells (cs.set o u))
 |_=>h
section
variable{h t:Ah}{id o:Nat}{u v w:Aa}
def Hy{cs:List Aa}(hc:h[id]?=some (.cells cs)):put h id o u=h.set id (.cells (cs.set o u)):=by unfold put;rw[hc]
def JG:(put h id o u).length=h.length:=by unfold put;split<;>simp
def At.lt(ha:At h id o v):id<h.length:=by obtain⟨cs,hc,_⟩:=ha;exact(Al.1 hc).1
def At.load(ha:At h id o v):A7 h none (.ptr (some (id,o)))=some v:=by obtain⟨cs,hc,e⟩:=ha;simp only[A7,hc,Ex,e]
def At.store(ha:At h id o v)(hu:u.cells=[u]):Co h 1 (.ptr (some (id,o))) u=some (put h id o u):=by
 obtain⟨cs,hc,e⟩:=ha;have hl:=(Al.1 e).1;rw[Hy hc];simp only[Co,hc,hu,A9,ML];have a:cs.set o u=cs.take o++[u]++cs.drop (o+1):=by rw[BQ,Af hl];simp
 rw[Af (Ab:o+1<=cs.length),a]
def At.put(ha:At h id o v):At (put h id o u) id o u:=by obtain⟨cs,hc,e⟩:=ha;have hl:=(Al.1 e).1;have hi:=(Al.1 hc).1;rw[Hy hc];exact⟨cs.set o u,by simp[hi],by simp[hl]⟩
def At.same(ha:At h id o v):Am.put h id o v=h:=by obtain⟨cs,hc,e⟩:=ha;obtain⟨hl,e⟩:=Al.1 e;obtain⟨hi,a⟩:=Al.1 hc;rw[Hy hc,<-e,HE,<-a,HE]
def eO:Am.put (Am.put h id o u) id o w=Am.put h id o w:=by
 cases hc:h[id]? with
 |none=>
  have e:∀u,Am.put h id o u=h:=λu=>by unfold Am.put;rw[hc]
  rw[e,e]
 |some x=>cases x with
  |cells cs=>have hi:=(Al.1 hc).1;rw[Hy hc,Hy hc,Hy (cs:=cs.set o u) (by simp[hi])];simp
  |_=>
   have e:∀u,Am.put h id o u=h:=λu=>by unfold Am.put;rw[hc]
   rw[e,e]
def At.Ib(ha:At h id o v):At (h++t) id o v:=by obtain⟨cs,hc,e⟩:=ha;exact⟨cs,by rw[Ai (Al.1 hc).1];exact hc,e⟩
def eP(ha:At h id o v):Am.put (h++t) id o u=Am.put h id o u++t:=by have hi:=ha.lt;obtain⟨cs,hc,e⟩:=ha;rw[Hy hc,Hy (by rw[Ai hi];exact hc),aJx _ _ hi]
def Cj{i:Nat}(hn:i≠id):(Am.put h id o u)[i]?=h[i]?:=by
 unfold Am.put;split;.rw[Ap (DJ hn)]
 .rfl
end
def jf(h:Ah)(p:Aa)(l:List Item):Prop:=(p= .ptr none/\l=[])\/∃id o v,p= .ptr (some (id,o))/\At h id o v/\BY l v
def Ie{l:List Item}{n:Nat}(hn:n<l.length):Hh l (n:Int)=l[n]:=by have:(0:Int)<=(n:Int):=Ab;simp[Hh,this,hn]
def OA{l:List Item}{i:Int}(h:i<0\/(l.length:Int)<=i):Hh l i=Item.zero:=by
 unfold Hh;rcases h with h|h
 .rw[Ad Ab]
 .rw[Af Ab,AJ,Ef Ab];rfl
section
variable{h:Ah}{p:Aa}{l:List Item}
def í{s:An}{ws:List An}:decide (0<=Cl (λw=>decide (s=w)) 0 ws)=decide (s∈ws):=by
 rcases HK (p:=λw=>decide (s=w)) (l:=ws) (k:=0) with⟨h1,h2⟩|⟨n,a,h1,h2,c⟩
 .rw[h1,Db];have:=Jr.1 h2;exact⟨λh=>Ab,λh=>absurd (show s=s from rfl) (by simpa using this s h)⟩
 .rw[h1,Db];have e:s=a:=by simpa using Vk c
  have:a∈ws:=Cz h2;refine⟨λ_=>e▸this,λ_=>Ab⟩
def Bs(ws:List An)(a:Item):Bool:=decide (a.Bc=1/\a.name∈ws)
def CX{ws:List An}:Jm ws (.sl 1 (ws.map CC)):= .mk
def JR(n:Int)(a:Item):Bool:=
 if n=4 then Bs Ox a else if n=5 then !Bs Mt a else if a.Bc=3\/a.Bc=2 then Ey a.Bc a.name
 else Bs Qt a||(decide (n=2)&&Bs Rz a)||(decide (n=3)&&Bs [aUa] a)
def D1{ws:List An}{args:List Aa}(e:args=ws.map Aa.str)(h:ws.length<=16777216):AB (.C8 1) args=some (.sl 1 (ws.map CC)):=by
 subst e;have g:(ws.map Aa.str).all (λa=>a.cells.length==1)=true:=AH;have c:(ws.map Aa.str).map (·.cells)=ws.map CC:=by simp[CC]
 rw[xQ,g,c];simp[h]
def tH:AB (.C8 1) [S aTT,S aT6,S aTR]=some (.sl 1 (Ox.map CC)):=D1 (ws:=Ox) rfl AU
def nV:AB (.C8 1) [S aUq,S aUB]=some (.sl 1 (Mt.map CC)):=D1 (ws:=Mt) rfl AU
def jg:AB (.C8 1) [S [111,108],S [117,108]]=some (.sl 1 (Rz.map CC)):=D1 (ws:=Rz) rfl AU
def tI:AB (.C8 1) [S aUO,S aT7,S aTT,S aUK,S aUP,S aT6,S [116,100],S aTR,S [116,104]]=some (.sl 1 (Qt.map CC)):=D1 (ws:=Qt) rfl AU
def jh:AB (.C8 1) [S aUa]=some (.sl 1 ([aUa].map CC)):=D1 (ws:=[aUa]) rfl AU
def Kf{U:Type}(q e:U->Bool):List U->Bool
 |[]=>false
 |a::r=>if q a then true else if e a then false else Kf q e r
def tJ{U:Type}{q e:U->Bool}(l:List U)(b:Bool):(if h:0<=AR (λa=>q a||e a) l/\(AR (λa=>q a||e a) l).toNat<l.length then q (l[(AR (λa=>q a||e a) l).toNat]'h.2) else false)=Kf q e l.reverse:=by
 have key:∀r:List U,(if h:0<=AR (λa=>q a||e a) r.reverse/\(AR (λa=>q a||e a) r.reverse).toNat<r.reverse.length then q (r.reverse[(AR (λa=>q a||e a) r.reverse).toNat]'h.2) else false)=Kf q e r:=by
  intro r;induction r with
  |nil=>simp[Kf,J6]
  |cons a r ih=>
   simp only[EJ,Kf];have e0:=I5 (q:=λa=>q a||e a) (l:=r.reverse) (a:=a);by_cases hq:q a=true
   .rw[Af (by simp[hq])] at e0;have c:(AR (λa=>q a||e a) (r.reverse++[a])).toNat=r.reverse.length:=by rw[e0];omega
    simp only[c];rw[qC ⟨by rw[e0];omega,AH⟩];simp[hq]
   .by_cases he:e a=true
    .rw[Af (by simp[he])] at e0;have c:(AR (λa=>q a||e a) (r.reverse++[a])).toNat=r.reverse.length:=by rw[e0];omega
     simp only[c];rw[qC ⟨by rw[e0];omega,AH⟩];simp[hq,he]
    .rw[Ad (by simp[hq,he])] at e0;simp only[hq,he,DG,Cu,<-ih,e0];rcases Dh (q:=λa=>q a||e a) (l:=r.reverse) with⟨h1,h2⟩|⟨n,hn,h1,h2,j⟩
     .simp[h1]
     .have g:(0:Int)<=(n:Int)/\(n:Int).toNat<r.reverse.length:=⟨Ab,by simpa using hn⟩;have i:(0:Int)<=(n:Int)/\(n:Int).toNat<(r.reverse++[a]).length:=⟨Ab,by simp at hn⊢;omega⟩;simp only[h1];rw[qC g,qC i,Gl g.2]
 have:=key l.reverse;rwa [Fk] at this
def Jm.cells{v:Aa}{ws:List An}(hv:Jm ws v):v.cells=[v]:=AV.cells hv
def Bz(node:Int)(a:Item):Bool:=decide (a.node=node)
end
end
section
section
variable{h:Ah}{p v:Aa}{l:List Item}
def bD{n s:Int}{t:An}{b:Bool}:AB (.Cn [I 0,I 0,S [],ff] [(0,1),(1,1),(2,1),(3,1)]) [.int .i64 n,.int .i64 s,.str t,.bool b]=some (.agg (Item.row ⟨n,s,t,b⟩)):=by simp only[BF];rfl
def Mu{a:Item}:AB (.C8 4) [.agg a.row]=some (.sl 4 [a.row]):=Ms rfl AU
def L5(h:Ah)(id o:Nat)(l:List Item):Prop:=∃v,At h id o v/\BY l v
def L5.at{id o:Nat}(hs:L5 h id o l):jf h (.ptr (some (id,o))) l:=let⟨v,h1,h2⟩:=hs; .inr ⟨id,o,v,rfl,h1,h2⟩
def BY.cells(hv:BY l v):v.cells=[v]:=AV.cells hv
def GW(a:Item):Bool:=Ey a.Bc a.name
def D6(node:Int)(l:List Item):Int:=if AR (Bz node) l<0 then -1 else match(l.drop ((AR (Bz node) l).toNat+1)).findIdx? GW with
 |some k=>AR (Bz node) l+1+k
 |none=> -1
def E1{U:Type}(q:U->Bool)(l:List U)(n:Nat):Int:=match(l.drop n).findIdx? q with
 |some k=>(n:Int)+k
 |none=> -1
def Q4{U:Type}{q:U->Bool}{l:List U}{n:Nat}(h:l.length<=n):E1 q l n= -1:=by unfold E1;rw[A0 h];rfl
def SE{U:Type}{q:U->Bool}{l:List U}{n:Nat}(h:n<l.length):E1 q l n=if q l[n] then(n:Int) else E1 q l (n+1):=by
 unfold E1;rw[AG h,aOc];by_cases hq:q l[n]=true;.simp only[hq,BI];omega
 .simp only[hq,Cu,DG];cases List.findIdx? q (l.drop (n+1)) with
  |none=>rfl
  |some k=>simp only[B5];omega
def IG{node:Int}:D6 node l=if AR (Bz node) l<0 then -1 else E1 GW l ((AR (Bz node) l).toNat+1):=by
 unfold D6 E1;by_cases h:AR (Bz node) l<0;.simp only[h,BI]
 .simp only[h,DG];cases(l.drop ((AR (Bz node) l).toNat+1)).findIdx? GW with
  |none=>rfl
  |some k=>simp only;omega
def X4{U:Type}(q e:U->Bool):List U->Bool
 |[]=>false
 |a::r=>(q a&& !(r.any e))||X4 q e r
def UZ{U:Type}{q e:U->Bool}{a:U}:∀{r:List U},Kf q e (r++[a])=((q a&& !(r.any e))||Kf q e r)
 |[]=>by by_cases h:q a=true<;>simp[Kf,h]
 |b::r=>by
  simp only[CO,Kf,UZ (r:=r)];by_cases h1:q b=true;.simp[h1]
  .by_cases h2:e b=true<;>simp[h1,h2]
def nW{U:Type}{q e:U->Bool}:∀{l:List U},X4 q e l=Kf q e l.reverse
 |[]=>rfl
 |a::l=>by rw[EJ,UZ,X4,nW];simp
def aCP{U:Type}{q e:U->Bool}(l:List U):(if AR q l<0 then false else !((l.drop ((AR q l).toNat+1)).any e))=Kf q e l.reverse:=by
 have key:∀r:List U,(if AR q r.reverse<0 then false else !((r.reverse.drop ((AR q r.reverse).toNat+1)).any e))=Kf q e r:=by
  intro r;induction r with
  |nil=>rfl
  |cons a r ih=>
   simp only[EJ,Kf,I5];by_cases hq:q a=true;.simp only[hq,BI];rw[Ad Ab,AY,A0 AH];rfl
   .simp only[hq,DG,Cu,<-ih];rcases Dh (q:=q) (l:=r.reverse) with⟨h1,h2⟩|⟨n,hn,h1,h2,c⟩
    .simp[h1]
    .have i0:¬(n:Int)<0:=by omega
     rw[h1,Ad i0,Ad i0,AY,Ji Ab,Vl];cases he:e a<;>simp only[Nx,Uo,he,JI,aEy,Cu,DG,BI,RO]
 have:=key l.reverse;rwa [Fk] at this
end
end
section
def Ev.ret{C:F8}{f:FuncId}{args:List Aa}{h:Ah}{R:Aa->Ah->Prop}(hw:Ev C f args h R):∃r h',BK C f args h r h'/\R r h':=by obtain⟨n,x,vs,h',e,hx,r,hv,hR⟩:=hw;exact⟨r,h',⟨n,x,vs,h',e,hx,hv,rfl⟩,hR⟩
def PT(b a:Item->Bool):List Item->List Item
 |x::y::r=>if b x then x::y::r else if a x then y::r else PT b a (y::r)
 |r=>r
def DA(b a:Item->Bool)(l:List Item):List Item:=(PT b a l.reverse).reverse
def ji{b a:Item->Bool}{l:List Item}(h:l.length<=1):PT b a l=l:=by
 match l with
 |[]=>rfl
 |[x]=>rfl
 |x::y::r=>simp at h
def X5{b a:Item->Bool}{l:List Item}(h:l.length<=1):DA b a l=l:=by unfold DA;rw[ji (by simpa using h),Fk]
def bE{b a:Item->Bool}{l:List Item}{x:Item}(h:1<=l.length):DA b a (l++[x])=if b x then l++[x] else if a x then l else DA b a l:=by
 unfold DA;rw[Iv,Jq,JW];cases hr:l.reverse with
 |nil=>
  have:l=[]:=by simpa using hr
  subst this;simp at h
 |cons y r=>
  have hl:l=r.reverse++[y]:=by rw[<-Fk l,hr,EJ]
  rw[PT];by_cases h1:b x=true;.rw[Af h1,Af h1];rw[hl];simp
  .rw[Ad h1,Ad h1];by_cases h2:a x=true;.rw[Af h2,Af h2];rw[hl];simp
   .rw[Ad h2,Ad h2]
def bF{b a:Item->Bool}{l:List Item}{n:Nat}(hn:n+1<l.length):DA b a (l.take (n+2))=if b l[n+1] then l.take (n+2) else if a l[n+1] then l.take (n+1) else DA b a (l.take (n+1)):=by have e:l.take (n+2)=l.take (n+1)++[l[n+1]]:=AE hn;rw[e,bE (by rw[Aw];omega)]
def Qu{b a:Item->Bool}:∀{l:List Item},(DA b a l).length<=l.length:=by
 have key:∀r:List Item,(PT b a r).length<=r.length:=by
  intro r;induction r with
  |nil=>simp[PT]
  |cons x r ih=>
   cases r with
   |nil=>simp[PT]
   |cons y r=>
    rw[PT];split;.simp
    .split;.simp
     .exact Br ih AH
 intro l;have:=key l.reverse;simpa[DA] using this
section
variable{h:Ah}{p v:Aa}{l:List Item}
def X6{n:Nat}(hn:n<l.length):FA (l.take (n+1))=l[n]:=by
 have e:((l.take (n+1)).length:Int)-1=(n:Int):=by rw[Aw];omega
 unfold FA;rw[e,Ie (by rw[Aw];omega)];simp
def L5.eQ{id o:Nat}(hs:L5 h id o l):∃u,h=put h id o u/\BY l u:=by obtain⟨u,hc,hu⟩:=hs;exact⟨u,hc.same.symm,hu⟩
def L5.lt{id o:Nat}(hs:L5 h id o l):∃v,At h id o v:=let⟨u,hc,_⟩:=hs;⟨u,hc⟩
def L5.aCQ{id o:Nat}{u:Aa}(hlt:∃v,At h id o v)(hu:BY l u):L5 (put h id o u) id o l:=let⟨_,ha⟩:=hlt;⟨u,ha.put,hu⟩
def Cx(_:Item):Bool:=false
def Ez(s:An)(a:Item):Bool:=decide (a.Bc≠1\/a.name∉GA\/a.name=s)
def CG(a:Item):Bool:=decide (a.Bc≠1\/¬(a.name∈J5\/a.name∈GA))
def GX(node:Int)(l:List Item):List Item:=if AR (Bz node) l<0 then l else DA Cx (Bz node) l
def JS(l:List Item)(i:Int):List Item:=l.take (max 1 i.toNat)
def Mv{q:Item->Bool}(l:List Item):DA Cx q l=JS l (AR q l):=by
 have key:∀r:List Item,DA Cx q r.reverse=JS r.reverse (AR q r.reverse):=by
  intro r;induction r with
  |nil=>rfl
  |cons x r ih=>
   rw[EJ,I5];rcases Jp r.length with h0|h0
   .have:r=[]:=LZ.1 h0;subst this;by_cases hq:q x=true<;>simp[hq,JS,DA,PT,J6]
   .have h1:1<=r.reverse.length:=by rw[K9];omega
    rw[bE h1];by_cases hq:q x=true;.rw[Ad (by simp[Cx]),Af hq,Af hq];unfold JS;rw[AY,wB h1,CI (Ag _),Bx]
    .rw[Ad (by simp[Cx]),Ad hq,Ad hq,ih];unfold JS;rw[CI];rcases Dh (q:=q) (l:=r.reverse) with⟨a,_⟩|⟨n,hn,a,_⟩<;>rw[a]<;>omega
 have:=key l.reverse;rwa [Fk] at this
def U4{node:Int}(l:List Item):GX node l=if AR (Bz node) l<0 then l else JS l (AR (Bz node) l):=by unfold GX;rw[Mv]
end
end
section
section
variable{h:Ah}{p v:Aa}{l:List Item}
def uh(l:List Item):∀r∈l.map Item.row,r.length=4:=Kq (f:=Item.row) (λa=>Item.CP) l
def Q5{n:Nat}(h:n<=2000000000):n*40<=AS:=by have:AS=140737488355328:=rfl;omega
def Bi{U:Type}(l:List U)(k:Nat):List U:=l.take k++l.drop (k+1)
def C4(node:Int)(l:List Item):List Item:=if AR (Bz node) l<1 then l else Bi l (AR (Bz node) l).toNat
def E2(i:Int)(n:Nat):Nat:=min (max i 1).toNat n
def PU(node:Int)(a:Item)(l:List Item):List Item:=if AR (Bz node) l<1 then l else l.set (AR (Bz node) l).toNat a
def eR(h:Ah)(l:List Item)(r:Aa)(h':Ah):Prop:=(l=[]/\r= .slnil/\h'=h)\/(l≠[]/\r= .Cs h.length 0 l.length 4/\h'=h++[.cells (l.map Item.row).flatten])
def î(hv:BY l v)(hb:l.length<=1000000000):∃r h',Jj h 4 40 .slnil v=some (h',r)/\eR h l r h':=by
 by_cases hne:l=[];.subst hne;exact⟨_,_,PO (.inl rfl) hv,.inl ⟨rfl,rfl,rfl⟩⟩
 .have a:=Lv (h:=h) (s:= .slnil) (z:=4) (b:=40) (.inl rfl) hv (by simpa using hne) (by rw[Aj];exact Q5 Ab);rw[Aj] at a;exact⟨_,_,a,.inr ⟨hne,rfl,rfl⟩⟩
def eR.Ph{r:Aa}{h':Ah}(hc:eR h l r h'):∃u t,Kd h' r=some (h++t,u)/\BY l u:=by
 rcases hc with⟨rfl,rfl,rfl⟩|⟨hne,rfl,rfl⟩
 .exact⟨.slnil,[],by rw[By];rfl,.nil⟩
 .have a:(h++[Du.cells (l.map Item.row).flatten])[h.length]?=some (.cells (l.map Item.row).flatten):=by simp
  have f1:=I2 (uh l) a;rw[Aj] at f1;refine⟨.sl 4 (l.map Item.row),[.CF],?_,.mk⟩;rw[f1];congr 2
  rw[BB _ _ (Ag _)];simp
end
end
section
end
section
section
variable{h:Ah}{p v w:Aa}{l:List Item}{ws:List An}
def ui:JS l (-1)=JS l 1:=rfl
def ES(s:An)(all:Bool)(a:Item):Bool:=if all then CG a else Ez s a
end
end
section
def fT:List (An×Int×An):=[(aUh,4,aUN),(aUg,4,aUL),(aUt,4,aUX),(aUu,4,aUY),(aUv,4,aUZ),(aUl,4,aT2),(aUw,4,aUQ),(aUA,5,[108,97,110,103]),(aUn,5,aUV),(aUp,6,aUp),(aUc,6,aUH)]
def X7(x:An×Int×An):Aa×Aa:=(.str x.1,.agg [.int .i64 x.2.1,.str x.2.2,.str []])
def ft(n:Nat):List (Aa×Aa):=(fT.take n).map X7
def aGe:O6 aUh (.agg [.int .i64 4,.str aUN,.str []]) (ft 0)=some (ft 1):=by kernel_rfl
def aGf:O6 aUg (.agg [.int .i64 4,.str aUL,.str []]) (ft 1)=some (ft 2):=by kernel_rfl
def aGg:O6 aUt (.agg [.int .i64 4,.str aUX,.str []]) (ft 2)=some (ft 3):=by kernel_rfl
def aGh:O6 aUu (.agg [.int .i64 4,.str aUY,.str []]) (ft 3)=some (ft 4):=by kernel_rfl
def aGi:O6 aUv (.agg [.int .i64 4,.str aUZ,.str []]) (ft 4)=some (ft 5):=by kernel_rfl
def aGj:O6 aUl (.agg [.int .i64 4,.str aT2,.str []]) (ft 5)=some (ft 6):=by kernel_rfl
def aGk:O6 aUw (.agg [.int .i64 4,.str aUQ,.str []]) (ft 6)=some (ft 7):=by kernel_rfl
def aGl:O6 aUA (.agg [.int .i64 5,.str [108,97,110,103],.str []]) (ft 7)=some (ft 8):=by kernel_rfl
def aGm:O6 aUn (.agg [.int .i64 5,.str aUV,.str []]) (ft 8)=some (ft 9):=by kernel_rfl
def aGn:O6 aUp (.agg [.int .i64 6,.str aUp,.str []]) (ft 9)=some (ft 10):=by kernel_rfl
def aCR:O6 aUc (.agg [.int .i64 6,.str aUH,.str []]) (ft 10)=some (ft 11):=by kernel_rfl
def tK{h:Ah}{es:List (Aa×Aa)}{s:An}{v:Aa}:Ur (h++[.map es]) (.map (some h.length)) (.str s) v=(O6 s v es).map λes=>h++[.map es]:=by simp[Ur]
def Ed(n:An):Option (Int×An):=(fT.find? λx=>decide (n=x.1)).map (·.2)
def X8(n:An):∀l:List (An×Int×An),WO n (l.map X7)=some ((l.find? λx=>decide (n=x.1)).map λx=>(X7 x).2)
 |[]=>rfl
 |x::l=>by
  rw[Bk,GK,X7,WO];by_cases e:n=x.1;.rw[Af e,As e];rfl
  .rw[Ad e,Aq e];exact X8 n l
def Mw{h:Ah}{n:An}:Us (h++[.map (ft 11)]) (.agg [.int .i64 0,.str [],.str []]) true (.map (some h.length)) (.str n)=
  some (match Ed n with|some (s,m)=> .tuple [.agg [.int .i64 s,.str m,.str []],.bool true]|none=> .tuple [.agg [.int .i64 0,.str [],.str []],.bool false]):=by
 have e:WQ (h++[.map (ft 11)]) (.map (some h.length)) (.str n)=WO n (fT.map X7):=by simp[WQ,ft,fT]
 rw[Us,e,X8,Ed];cases fT.find? λx=>decide (n=x.1)<;>rfl
abbrev aCS:An:=aUy
abbrev VD:An:=aUC
def Kr(sp:Int)(n:An):An:=if sp=2 then Cp n Ic else if sp=3/\n=aCS then VD else n
def C5(sp:Int)(a:A6):A6:=
 if sp=2\/sp=3 then match Ed (Kr sp a.name) with
  |some (s,m)=>⟨s,m,a.value⟩
  |none=>⟨0,Kr sp a.name,a.value⟩
 else⟨0,a.name,a.value⟩
def SF(s:An):(FW s).length=s.length:=by simp[FW]
def LO(n:An):∀ws,Cp n ws=n\/(Cp n ws∈ws/\FW (Cp n ws)=n)
 |[]=> .inl rfl
 |w::ws=>by
  rw[Cp];split;.rename_i e;exact .inr ⟨List.mem_cons_self,e⟩
  .rcases LO n ws with h|⟨h1,h2⟩
   .exact .inl h
   .exact .inr ⟨Ze _ h1,h2⟩
def SG(n:An)(ws:List An):(Cp n ws).length=n.length:=by
 rcases LO n ws with h|⟨_,h⟩
 .rw[h]
 .rw[<-SF,h]
def Ej{a b c:Aa}:AB (.C8 3) [.agg [a,b,c]]=some (.sl 3 [[a,b,c]]):=rfl
def A6.CP{a:A6}:a.row.length=3:=rfl
def A6.HW{a:A6}:a.row.take 3=a.row:=rfl
section
variable{v:Aa}{l:List A6}{h:Ah}
def nX{a b:A6}{neg:Bool}:AB (.geq neg [.i,.s,.s]) [.agg a.row,.agg b.row]=some (.bool (decide (a=b) != neg)):=by
 rw[Rx];have:Eb [.i,.s,.s] a.row b.row=some (decide (a=b)):=by simp only[Eb,LJ,A6.row,BI,BD];cases a;cases b;simp only[A6.mk.injEq];rw[OS];simp
 rw[this];rfl
def L6:List An:=[aUh,aUg,aUt,aUu,aUv,aUl,aUw]
def ï{s:An}:Ga aTS s=decide (s∈L6):=Ec Di Di
def TQ{k:IntKind}{s:An}{a z:Nat}(ha:a<=s.length):AB (.KK z true true false) [.str s,.int k (a:Int)]=some (.str (s.drop a)):=by
 have c:E6 (a:Int) s.length=some a:=by unfold E6;rw[Af Ab];rfl
 simp[AB,JE,D3,c]
abbrev nY:An:=aUA
abbrev X9:An:=aUn
abbrev nZ:An:=aUp
abbrev Ya:An:=aUc
def ZN:∀s∈L6,6<=s.length/\Ed s=some (4,s.drop 6):=AU
def eS{s:An}(h1:s∉L6)(h2:s≠nY)(g:s≠X9)(c:s≠nZ)(a:s≠Ya):Ed s=none:=by simp only[L6,AX,Nu,I_,Ns] at h1;obtain⟨a1,a2,a3,a4,a5,a6,a7⟩:=h1;simp only[Ed,fT,GK,List.find?_nil,Aq a1,Aq a2,Aq a3,Aq a4,Aq a5,Aq a6,Aq a7,Aq h2,Aq g,Aq c,Aq a,Option.map_none]
abbrev tL:An:=aUH
def Q6(s:An):(s∈L6/\6<=s.length/\Ed s=some (4,s.drop 6))\/(s∉L6/\((s=nY/\4<=s.length/\Ed s=some (5,s.drop 4))\/(¬s=nY/\((s=X9/\4<=s.length/\Ed s=some (5,s.drop 4))\/(¬s=X9/\((s=nZ/\Ed s=some (6,s))\/(¬s=nZ/\((s=Ya/\Ed s=some (6,tL))\/(¬s=Ya/\Ed s=none))))))))):=by
 by_cases a:s∈L6;.exact .inl ⟨a,ZN s a⟩
 refine .inr ⟨a,?_⟩;by_cases j:s=nY;.subst j;decide
 refine .inr ⟨j,?_⟩;by_cases i:s=X9;.subst i;decide
 refine .inr ⟨i,?_⟩;by_cases g:s=nZ;.subst g;decide
 refine .inr ⟨g,?_⟩;by_cases c:s=Ya;.subst c;decide
 exact .inr ⟨c,eS a j i g c⟩
def sl6{s:An}(h:6<=s.length):AB (.KK 0 true true false) [.str s,.int .i64 6]=some (.str (s.drop 6)):=TQ h
def sl4{s:An}(h:4<=s.length):AB (.KK 0 true true false) [.str s,.int .i64 4]=some (.str (s.drop 4)):=TQ h
end
end
section
structure Cc where
 node:Int
 name:An
 Az:List A6
deriving DecidableEq
structure Ci where
 c:Cc
 v:Aa
 ok:Bq c.Az v
def Ci.row(e:Ci):List Aa:=[.int .i64 e.c.node,.str e.c.name,e.v]
def Dr(l:List Ci)(v:Aa):Prop:=AV 3 (l.map Ci.row) v
section
variable{e:Ci}{d:Aa}
def Ci.CP:e.row.length=3:=rfl
def Ci.g0:e.row.getD 0 d= .int .i64 e.c.node:=rfl
def Ci.g1:e.row.getD 1 d= .str e.c.name:=rfl
def Ci.g2:e.row.getD 2 d=e.v:=rfl
def Ci.at0:e.row[0]?=some (.int .i64 e.c.node):=rfl
def Ci.HW:e.row.take 3=e.row:=rfl
def Ci.xU:e.row.drop 1=[.str e.c.name,e.v]:=rfl
def Ci.PS:[Aa.int .i64 e.c.node,.str e.c.name,e.v]=e.row:=rfl
def Ci.ð:AB (.len false) [e.v]=some (.int .i64 (e.c.Az.length:Int)):=AV.CN e.ok
end
def A6.g0{a:A6}{d:Aa}:a.row.getD 0 d= .int .i64 a.Bc:=rfl
def A6.g1{a:A6}{d:Aa}:a.row.getD 1 d= .str a.name:=rfl
def A6.g2{a:A6}{d:Aa}:a.row.getD 2 d= .str a.value:=rfl
def A6.PS{a:A6}:[Aa.int .i64 a.Bc,.str a.name,.str a.value]=a.row:=rfl
def PV{n:Nat}(h:n<=2000000000):n*48<=AS:=by have:AS=140737488355328:=rfl;omega
def TR(e:Ci):Bool:=decide (e.c.node=0)
def PX(n:Int)(e:Ci):Bool:=decide (e.c.node=n)
def since(l:List Ci):Int:=AR TR l+1
def jj:since []=0:=rfl
def tM{l:List Ci}{e:Ci}:since (l++[e])=if e.c.node=0 then(l.length:Int)+1 else since l:=by unfold since;rw[I5];by_cases h:e.c.node=0<;>simp[TR,h]
def Yb{l:List Ci}{n:Nat}(hn:n<l.length):since (l.take (n+1))=if l[n].c.node=0 then(n:Int)+1 else since (l.take n):=by rw[AE hn,tM,Aw,Cq (MO hn)]
def JT(l:List Ci):∃s:Nat,since l=(s:Int)/\s<=l.length/\(∀m (hm:m<l.length),s<=m->l[m].c.node≠0)/\(∀t,s=t+1->∃ht:t<l.length,l[t].c.node=0):=by
 rcases Dh (q:=TR) (l:=l) with⟨h1,h2⟩|⟨n,hn,h1,h2,a⟩
 .refine⟨0,by unfold since;rw[h1];rfl,AZ _,λm hm _=>?_,λt ht=>by omega⟩;have:=h2 _ (AN hm);simpa[TR] using this
 .refine⟨n+1,by unfold since;rw[h1];rfl,hn,λm hm Eo=>?_,λt ht=>?_⟩;.have:=a m hm Ab;simpa[TR] using this
  .obtain rfl:t=n:=by omega
   exact⟨hn,by simpa[TR] using h2⟩
section
variable{h:Ah}{v:Aa}{l:List Ci}{id:Nat}
def xV(name:An):List Ci->Int
 |[]=> -1
 |e::t=>if e.c.node=0 then -1 else if e.c.name=name then(t.length:Int) else xV name t
def NT(name:An)(l:List Ci):Int:=xV name l.reverse
def RD{name:An}{n:Nat}(hn:n<l.length):NT name (l.take (n+1))=if l[n].c.node=0 then -1 else if l[n].c.name=name then(n:Int) else NT name (l.take n):=by rw[AE hn,NT,Iv,Jq,JW,xV,K9,Aw,Cq (MO hn),NT]
def jk{name:An}:NT name []= -1:=rfl
def oA{name:An}{s:Nat}(hs:since l=(s:Int)):NT name (l.take s)= -1:=by
 obtain⟨s',e,h1,h2,a⟩:=JT l;obtain rfl:s=s':=Ab;cases s with
 |zero=>rfl
 |succ t=>obtain⟨ht,h0⟩:=a t rfl;rw[RD ht,Af h0]
def Hz(node:Int)(l:List Ci):Int:=if node=0 then -1 else AR (PX node) l
end
section
variable{h:Ah}{v:Aa}{l:List A6}
def GI(a b:Cc):Bool:=decide (a.name=b.name/\a.Az.length=b.Az.length/\(∀x∈a.Az,x∈b.Az)/\∀x∈b.Az,x∈a.Az)
def Zo(e:Ci):Prop:=e.c.Az.length<=1000000000
end
end
section
mutual
def Aa.SH:∀a:Aa,Aa.beq a a=true
 | .bool a=>by simp[Aa.beq]
 | .int k a=>by simp[Aa.beq]
 | .str a=>by simp[Aa.beq]
 | .ptr a=>by simp[Aa.beq]
 | .CJ a=>by simp[Aa.beq,Aa.KX a]
 | .sl n a=>by simp[Aa.beq,Aa.Yc a]
 | .E4 _=>by simp[Aa.beq]
 | .slnil=>by simp[Aa.beq]
 | .Cs a c d e=>by simp[Aa.beq]
 | .map a=>by simp[Aa.beq]
 | .func f a c=>by simp[Aa.beq,Aa.KX a,Aa.KX c]
 | .nilFunc=>by simp[Aa.beq]
 | .iface t a=>by simp[Aa.beq,Aa.SH a]
 | .nilIface=>by simp[Aa.beq]
 | .agg a=>by simp[Aa.beq,Aa.KX a]
 | .tuple a=>by simp[Aa.beq,Aa.KX a]
def Aa.KX:∀a:List Aa,Aa.RV a a=true
 |[]=>by simp[Aa.RV]
 |a::x=>by simp[Aa.RV,Aa.SH a,Aa.KX x]
def Aa.Yc:∀a:List (List Aa),Aa.RY a a=true
 |[]=>by simp[Aa.RY]
 |a::x=>by simp[Aa.RY,Aa.KX a,Aa.Yc x]
end
def TS(h:Ah)(id o:Nat)(l:List Ci):Prop:=∃u,At h id o u/\Dr l u
def Dr.cells{l:List Ci}{v:Aa}(hv:Dr l v):v.cells=[v]:=AV.cells hv
def TS.lt{h:Ah}{id o:Nat}{l:List Ci}(hs:TS h id o l):∃v,At h id o v:=let⟨u,hc,_⟩:=hs;⟨u,hc⟩
def OB(l:List Ci):∀r∈l.map Ci.row,r.length=3:=Kq (f:=Ci.row) (λa=>Ci.CP) l
section
variable{h:Ah}{v:Aa}{l:List Ci}{id:Nat}
def Mg{r:List Aa}(h:r.length=3):AB (.C8 3) [.agg r]=some (.sl 3 [r]):=Ms (a:= .agg r) h AU
def oB(n:Int)(l:List Ci):Hz n l= -1\/∃k:Nat,k<l.length/\Hz n l=(k:Int):=by
 unfold Hz;split;.exact .inl rfl
 .rcases Dh (q:=PX n) (l:=l) with⟨h1,_⟩|⟨k,hk,h1,_⟩
  .exact .inl h1
  .exact .inr ⟨k,hk,h1⟩
def eT:Ci:=⟨⟨0,[],[]⟩,.slnil,.nil⟩
def uj:[I 0,S [],Aa.slnil]=eT.row:=rfl
def CE(i:Int)(n:Nat):Nat:=min (max i 0).toNat n
def ET(l:List Ci):Nat:=(since l-1).toNat
end
end
section
def ñ(e:Cc):List Ci->Nat
 |[]=>0
 |x::t=>if x.c.node=0 then 0 else ñ e t+(if GI x.c e=true then 1 else 0)
def tN(e:Cc):List Ci->Int
 |[]=> -1
 |x::t=>if x.c.node=0 then -1 else if 0<=tN e t then tN e t else if GI x.c e=true then(t.length:Int) else -1
def SI(e:Cc)(l:List Ci):Nat:=ñ e l.reverse
def NU(e:Cc)(l:List Ci):Int:=tN e l.reverse
section
variable{e:Cc}{l:List Ci}{n s:Nat}
def TT(hn:n<l.length):SI e (l.take (n+1))=if l[n].c.node=0 then 0 else SI e (l.take n)+(if GI l[n].c e=true then 1 else 0):=by rw[AE hn,SI,Iv,Jq,JW,ñ,SI]
def TU(hn:n<l.length):NU e (l.take (n+1))=if l[n].c.node=0 then -1 else if 0<=NU e (l.take n) then NU e (l.take n) else if GI l[n].c e=true then(n:Int) else -1:=by rw[AE hn,NU,Iv,Jq,JW,tN,NU,K9,Aw,Cq (MO hn)]
def Yd(hs:since l=(s:Int)):SI e (l.take s)=0/\NU e (l.take s)= -1:=by
 obtain⟨s',e,h1,h2,a⟩:=JT l;obtain rfl:s=s':=Ab;cases s with
 |zero=>exact⟨rfl,rfl⟩
 |succ t=>obtain⟨ht,h0⟩:=a t rfl;exact⟨by rw[TT ht,Af h0],by rw[TU ht,Af h0]⟩
end
def KY(e:Cc)(l:List Ci):List Ci:=if e.node≠0/\3<=SI e l then Bi l (NU e l).toNat else l
section
variable{h:Ah}{v:Aa}{l:List Ci}{id:Nat}
end
end
section
section
variable{h:Ah}{v:Aa}{l:List Ci}{id:Nat}
end
end
end Go.Am
end
section
namespace Go.Am
structure EU where
 kind:Int:=0
 FQ:Int:=0
 Bb:List Int:=[]
 CQ:Int:=0
 Bc:Int:=0
 name:An:=[]
 Az:List A6:=[]
 data:An:=[]
 nj:An:=[]
 sys:An:=[]
 CH:Bool:=false
 cont:Int:=0
 En:Int:=0
deriving DecidableEq
structure Ar where
 n:List EU
 i:List Int
abbrev AK:An:=aTR
def eU(x:EU):Prop:=x.kind=4/\x.Bc=1/\x.name=AK
instance(x:EU):Decidable (eU x):=by unfold eU;infer_instance
namespace Ar
def len(A:Ar):Int:=A.n.length
def has(A:Ar)(h:Int):Prop:=1<=h/\h<=A.n.length
instance(A:Ar)(h:Int):Decidable (A.has h):=by unfold has;infer_instance
def nd(A:Ar)(h:Int):EU:=if A.has h then A.n.getD (h.toNat-1) {} else{}
def inr(A:Ar)(h:Int):Int:=if A.has h then A.i.getD (h.toNat-1) 0 else 0
def set(A:Ar)(h:Int)(x:EU):Ar:={n:=if A.has h then A.n.set (h.toNat-1) x else A.n,i:=A.i}
def I6(A:Ar)(h:Int)(x:Int):Ar:={n:=A.n,i:=if A.has h then A.i.set (h.toNat-1) x else A.i}
def add(A:Ar)(x:EU):Ar:={n:=A.n++[x],i:=A.i++[0]}
def up(A:Ar)(h:Int):Int:=if(A.nd h).FQ≠0 then(A.nd h).FQ else(A.nd h).En
end Ar
section
variable{A:Ar}{h k:Int}{x y:EU}
def HI(a:¬A.has h):A.nd h={}:=by unfold Ar.nd;rw[Ad a]
def Jw:(A.set h x).n.length=A.n.length:=by simp only[Ar.set];split<;>simp
def ò:(A.set h x).len=A.len:=by unfold Ar.len;rw[Jw]
def Ir:(A.set h x).has k↔A.has k:=by unfold Ar.has;rw[Jw]
def JU:(A.set h x).nd k=if k=h/\A.has h then x else A.nd k:=by
 unfold Ar.nd;simp only[Ir];by_cases hk:A.has k
 .rw[Af hk,Af hk];simp only[Ar.set];by_cases a:A.has h
  .rw[Af a];have h1:=a;have h2:=hk;unfold Ar.has at h1 h2;by_cases e:k=h;.subst e;rw[Af ⟨rfl,a⟩,AJ,AO Ab];rfl
   .rw[Ad (by simp[e]),AJ,Ap Ab,AJ]
  .rw[Ad a,Ad (by simp[a])]
 .rw[Ad hk,Ad hk,Ad];rintro⟨rfl,h2⟩;exact hk h2
def SJ:(A.set h x).inr k=A.inr k:=by unfold Ar.inr;simp only[Ir];rfl
def OC:(A.add x).len=A.len+1:=by simp[Ar.len,Ar.add]
def DQ:(A.add x).has k↔A.has k\/k=A.len+1:=by simp[Ar.has,Ar.add,Ar.len];omega
def IH:(A.add x).nd k=if k=A.len+1 then x else A.nd k:=by
 unfold Ar.nd;simp only[DQ];by_cases e:k=A.len+1;.subst e;simp[Ar.add,Ar.len]
 .by_cases hk:A.has k;.rw[Af (.inl hk),Ad e,Af hk];unfold Ar.has at hk;simp only[Ar.add,AJ];rw[Ai Ab]
  .rw[Ad (by simp[hk,e]),Ad e,Ad hk]
def Wb(hl:A.i.length=A.n.length):(A.add x).inr k=A.inr k:=by
 unfold Ar.inr;simp only[DQ];by_cases e:k=A.len+1
 .subst e;have:¬A.has (A.len+1):=by unfold Ar.has Ar.len;omega
  rw[Af (.inr rfl),Ad this];simp[Ar.add,Ar.len,<-hl]
 .by_cases hk:A.has k;.rw[Af (.inl hk),Af hk];unfold Ar.has at hk;simp only[Ar.add,AJ];rw[Ai Ab]
  .rw[Ad (by simp[hk,e]),Ad hk]
def SK:(A.I6 h k).len=A.len:=rfl
def NV{m:Int}:(A.I6 h m).has k↔A.has k:=aEx
def SL{m:Int}:(A.I6 h m).nd k=A.nd k:=by rfl
def PY{m:Int}(hl:A.i.length=A.n.length):(A.I6 h m).inr k=if k=h/\A.has h then m else A.inr k:=by
 unfold Ar.inr;simp only[NV];by_cases hk:A.has k
 .rw[Af hk,Af hk];simp only[Ar.I6];by_cases a:A.has h
  .rw[Af a];have h1:=a;have h2:=hk;unfold Ar.has at h1 h2;by_cases e:k=h;.subst e;rw[Af ⟨rfl,a⟩,AJ,AO Ab];rfl
   .rw[Ad (by simp[e]),AJ,Ap Ab,AJ]
  .rw[Ad a,Ad (by simp[a])]
 .rw[Ad hk,Ad hk,Ad];rintro⟨rfl,h2⟩;exact hk h2
end
def DF(a:A6):Int×An:=(a.Bc,a.name)
def HA(out:List A6):List A6->List A6
 |[]=>out
 |x::l=>if out.any (λy=>decide (DF x=DF y)) then HA out l else HA (out++[x]) l
def Ct(l:List A6):List A6:=HA [] l
def RE:∀{l out:List A6},(out.map DF).Nodup->((HA out l).map DF).Nodup
 |[],_,h=>h
 |x::l,out,h=>by
  rw[HA];split;.exact RE h
  .rename_i hn;refine RE ?_;rw[BE,B3];refine⟨h,AH,?_⟩;rintro a ha b hb rfl;simp at hb;subst hb;simp at ha hn;obtain⟨y,hy,e⟩:=ha;exact hn y hy e.symm
def oC:∀{l out:List A6},((out++l).map DF).Nodup->HA out l=out++l
 |[],out,_=>by simp[HA]
 |x::l,out,h=>by
  rw[HA,Ad,oC (by simpa using h)];.simp
  .intro ha;rw[BE,B3] at h;simp at ha;obtain⟨y,hy,e⟩:=ha;exact h.2.2 _ (Bm.2 ⟨y,hy,e.symm⟩) _ AH rfl
def jl(l:List A6):((Ct l).map DF).Nodup:=RE AH
def ó{l:List A6}(h:(l.map DF).Nodup):Ct l=l:=by have:=oC (out:=[]) (l:=l) (by simpa using h);simpa[Ct] using this
def bG(l:List A6):Ct (Ct l)=Ct l:=ó (jl l)
def TV:∀{l out:List A6} {a:A6},a∈HA out l->a∈out\/a∈l
 |[],_,_,h=> .inl h
 |x::l,out,a,h=>by
  rw[HA] at h;split at h
  .rcases TV h with h|h
   .exact .inl h
   .exact .inr (by simp[h])
  .rcases TV h with h|h
   .simp at h;rcases h with h|rfl
    .exact .inl h
    .exact .inr AH
   .exact .inr (by simp[h])
def oD{l:List A6}{a:A6}(h:a∈Ct l):a∈l:=by simpa using TV h
def Ye:∀{l out:List A6},(HA out l).length<=out.length+l.length
 |[],out=>by simp[HA]
 |x::l,out=>by
  rw[HA];split;.have:=Ye (l:=l) (out:=out);simp;omega
  .have:=Ye (l:=l) (out:=out++[x]);simp at this⊢;omega
def Qv{l:List A6}:(Ct l).length<=l.length:=by have:=Ye (l:=l) (out:=[]);simpa[Ct] using this
structure nl(x:EU):Prop where
 k:1<=x.kind/\x.kind<=6
 Bb:x.Bb≠[]->x.kind=1\/x.kind=2\/x.kind=4
 elem:x.kind≠4->x.Bc=0/\x.Az=[]
 nm:x.kind≠4->x.kind≠3->x.name=[]
 dt:x.kind≠3->x.nj=[]/\x.sys=[]
 data:x.kind≠5->x.kind≠6->x.data=[]
 CH:x.kind≠1->x.CH=false
 sp:0<=x.Bc/\x.Bc<=7
 N_:∀a∈x.Az,0<=a.Bc/\a.Bc<=7
 Ct:Ct x.Az=x.Az
 U5:x.cont≠0->eU x
 PZ:x.En≠0->x.kind=2
 root:x.FQ≠0->x.kind≠1/\x.kind≠2
 jm:x.Bb.Nodup
structure EK(A:Ar)(e:Int):Prop where
 il:A.i.length=A.n.length
 SM:∀h,A.has h->nl (A.nd h)
 CQ:∀h,A.has h->A.has (A.nd h).CQ/\(A.nd (A.nd h).CQ).kind=1
 eV:∀h,A.has h->(A.nd h).kind=1->(A.nd h).CQ=h
 FQ:∀h,A.has h->(A.nd h).FQ≠0->A.has (A.nd h).FQ/\h∈(A.nd (A.nd h).FQ).Bb
 M4:∀h,A.has h->∀k∈(A.nd h).Bb,A.has k/\(A.nd k).FQ=h
 eW:∀h,A.has h->h≠e->eU (A.nd h)->(A.nd h).cont≠0
 cont:∀h,A.has h->(A.nd h).cont≠0->A.has (A.nd h).cont/\(A.nd (A.nd h).cont).kind=2/\(A.nd (A.nd h).cont).En=h
 En:∀h,A.has h->(A.nd h).En≠0->A.has (A.nd h).En/\(A.nd (A.nd h).En).cont=h
 ine:∀h,A.has h->A.inr h≠0->A.has (A.inr h)/\(A.nd (A.inr h)).kind=1
 eX:∃r:Int->Nat,∀h,A.has h->A.up h≠0->r (A.up h)<r h
section
variable{A:Ar}{e h k:Int}{x y:EU}
def RF:¬A.has (A.len+1):=by unfold Ar.has Ar.len;omega
def Yf(a:¬A.has h):A.up h=0:=by unfold Ar.up;rw[HI a];simp
def tO(ok:EK A e)(a:A.has h)(hu:A.up h≠0):A.has (A.up h):=by
 unfold Ar.up at hu⊢;split;.rename_i h1;exact(ok.FQ h a h1).1
 .rename_i h1;rw[Ad h1] at hu;exact(ok.En h a hu).1
def Yg(ok:EK A e)(hx:nl x)(hd:(x.kind=1/\x.CQ=A.len+1)\/(x.kind≠1/\A.has x.CQ/\(A.nd x.CQ).kind=1))(hp:x.FQ=0)(hk:x.Bb=[])(hc:x.cont=0)(a:x.En=0)(b:eU x->e=A.len+1):EK (A.add x) e:=by
 have no:=RF (A:=A);obtain⟨r,hr⟩:=ok.eX;have ne:∀{k},A.has k->k≠A.len+1:=λhk e=>no (e▸hk);refine⟨by simp[Ar.add,ok.il],?_,?_,?_,?_,?_,?_,?_,?_,?_,r,?_⟩<;>intro m hm<;>rw[DQ] at hm<;>(try rw[Wb ok.il])<;>simp only[Ar.up,IH,DQ]<;>rcases hm with hm|rfl
 all_goals first|(rw[Ad (ne hm)])|(rw[Af rfl])|skip
 .exact ok.SM m hm
 .exact hx
 .have:=ok.CQ m hm;rw[Ad (ne this.1)];exact⟨.inl this.1,this.2⟩
 .rcases hd with⟨h1,h2⟩|⟨h1,h2,c⟩
  .rw[Af h2];exact⟨.inr h2,h1⟩
  .rw[Ad (ne h2)];exact⟨.inl h2,c⟩
 .exact ok.eV m hm
 .intro h1;rcases hd with⟨_,h2⟩|⟨h2,_⟩
  .exact h2
  .exact absurd h1 h2
 .intro h1;have:=ok.FQ m hm h1;rw[Ad (ne this.1)];exact⟨.inl this.1,this.2⟩
 .intro h1;exact absurd hp h1
 .intro q hq;have:=ok.M4 m hm q hq;rw[Ad (ne this.1)];exact⟨.inl this.1,this.2⟩
 .intro q hq;rw[hk] at hq;cases hq
 .exact ok.eW m hm
 .intro h1 h2;exact absurd (b h2).symm h1
 .intro h1;have:=ok.cont m hm h1;rw[Ad (ne this.1)];exact⟨.inl this.1,this.2⟩
 .intro h1;exact absurd hc h1
 .intro h1;have:=ok.En m hm h1;rw[Ad (ne this.1)];exact⟨.inl this.1,this.2⟩
 .intro h1;exact absurd a h1
 .intro h1;have:=ok.ine m hm h1;rw[Ad (ne this.1)];exact⟨.inl this.1,this.2⟩
 .intro h1;exfalso;apply h1;unfold Ar.inr;rw[Ad no]
 .have:=hr m hm;unfold Ar.up at this;exact this
 .rw[hp,a];simp
inductive Reach(A:Ar)(t:Int):Int->Prop
 |refl:Reach A t t
 |step {h:Int}:A.up h≠0->Reach A t (A.up h)->Reach A t h
def Jg(l:List Int)(b n:Int):List Int:=if b=0 then l++[n] else l.takeWhile (λk=>decide (k≠b))++n::l.dropWhile (λk=>decide (k≠b))
def Ar.cut(A:Ar)(n:Int):Ar:=
 let q:=(A.nd n).FQ
 if q=0 then A else
  let a:=A.set q {A.nd q with Bb:=(A.nd q).Bb.filter λk=>decide (k≠n)}
  a.set n {a.nd n with FQ:=0}
def Ar.MR(A:Ar)(p n b:Int):Ar:=
 let a:=A.set p {A.nd p with Bb:=Jg (A.nd p).Bb b n}
 a.set n {a.nd n with FQ:=p}
def Lx(k:Int):Prop:=k=1\/k=2\/k=4
instance(k:Int):Decidable (Lx k):=by unfold Lx;infer_instance
structure uk(A:Ar)(p n b:Int):Prop where
 hp:A.has p
 hn:A.has n
 hb:b≠0->A.has b/\b≠n/\(A.nd b).FQ=p
 kp:Lx (A.nd p).kind
 kn:(A.nd n).kind≠1/\(A.nd n).kind≠2
 re:¬Reach A n p
open Classical in
def Ar.FX(A:Ar)(p n b:Int):Ar:=if uk A p n b then(A.cut n).MR p n b else A
def TW{l:List Int}{b n k:Int}:k∈Jg l b n↔k=n\/k∈l:=by
 unfold Jg;split;.simp;exact Or.comm
 .have e:=qQ (p:=λk=>decide (k≠b)) (l:=l);constructor
  .intro h;rw[Ax,AX] at h;rcases h with h|h|h
   .exact .inr (by rw[<-e];simp only[Ax];exact .inl h)
   .exact .inl h
   .exact .inr (by rw[<-e];simp only[Ax];exact .inr h)
  .intro h;rw[Ax,AX];rcases h with h|h
   .exact .inr (.inl h)
   .rw[<-e,Ax] at h;rcases h with h|h
    .exact .inl h
    .exact .inr (.inr h)
def oE{l:List Int}{b n:Int}(h:l.Nodup)(hn:n∉l):(Jg l b n).Nodup:=by
 unfold Jg;split;.rw[B3];refine⟨h,AH,?_⟩;rintro a ha c hc rfl;simp at hc;subst hc;exact hn ha
 .have e:=qQ (p:=λk=>decide (k≠b)) (l:=l);generalize List.takeWhile _ l=u at e⊢;generalize List.dropWhile _ l=w at e⊢;subst e;rw[B3] at h⊢;simp at hn;refine⟨h.1,by simp[h.2.1,hn.2],?_⟩;rintro a ha c hc rfl;simp at hc;rcases hc with rfl|hc
  .exact hn.1 ha
  .exact h.2.2 _ ha _ hc rfl
def oF:(A.cut h).n.length=A.n.length:=by unfold Ar.cut;simp only;split<;>simp[Jw]
def Li:(A.cut h).has k↔A.has k:=by unfold Ar.has;rw[oF]
def oG{p n b:Int}:(A.MR p n b).n.length=A.n.length:=by unfold Ar.MR;simp[Jw]
def xW{p n b:Int}:(A.MR p n b).has k↔A.has k:=by unfold Ar.has;rw[oG]
def ô:(A.cut h).inr k=A.inr k:=by unfold Ar.cut;simp only;split<;>simp[SJ]
def õ{p n b:Int}:(A.MR p n b).inr k=A.inr k:=by unfold Ar.MR;simp[SJ]
def aAP(ok:EK A e)(a:A.has h)(hu:A.up h≠0):A.up h≠h:=by obtain⟨r,hr⟩:=ok.eX;intro e;have:=hr h a hu;rw[e] at this;exact Dj _ this
def tP(ok:EK A e)(a:A.has h)(hu:(A.nd h).FQ≠0):(A.nd h).FQ≠h:=by
 have:A.up h=(A.nd h).FQ:=by unfold Ar.up;rw[Af hu]
 have h2:=aAP ok a (by rw[this];exact hu);rwa [this] at h2
def RG(ok:EK A e)(a:A.has h):(A.cut h).nd k=if k=h then{A.nd h with FQ:=0} else if(A.nd h).FQ≠0/\k=(A.nd h).FQ then{A.nd k with Bb:=(A.nd k).Bb.filter λm=>decide (m≠h)} else A.nd k:=by
 unfold Ar.cut;simp only
 by_cases hp:(A.nd h).FQ=0
 .rw[Af hp];by_cases e:k=h;.subst e;rw[Af rfl];have:A.nd k={A.nd k with FQ:=(A.nd k).FQ}:=rfl;rw[hp] at this;exact this
  .rw[Ad e,Ad (by simp[hp])]
 .have hn:=tP ok a hp;have hq:=(ok.FQ h a hp).1;rw[Ad hp];simp only[JU,Ir,a,hq,MJ];by_cases e:k=h;.subst e;simp[DJ hn]
  .simp[e,hp];split;.rename_i e;simp[e]
   .rfl
def oH{x:EU}(hx:nl x){l:List Int}(h1:l.Nodup)(h2:l≠[]->Lx x.kind):nl {x with Bb:=l}:=
 {k:=hx.k,Bb:=h2,elem:=hx.elem,nm:=hx.nm,dt:=hx.dt,data:=hx.data,CH:=hx.CH,sp:=hx.sp,N_:=hx.N_,Ct:=hx.Ct,U5:=hx.U5,PZ:=hx.PZ,root:=hx.root,jm:=h1}
def xX{x:EU}(hx:nl x){p:Int}(h2:p≠0->x.kind≠1/\x.kind≠2):nl {x with FQ:=p}:=
 {k:=hx.k,Bb:=hx.Bb,elem:=hx.elem,nm:=hx.nm,dt:=hx.dt,data:=hx.data,CH:=hx.CH,sp:=hx.sp,N_:=hx.N_,Ct:=hx.Ct,U5:=hx.U5,PZ:=hx.PZ,root:=h2,jm:=hx.jm}
def aCU(ok:A.i.length=A.n.length):(A.cut h).i.length=(A.cut h).n.length:=by rw[oF];unfold Ar.cut;simp only;split<;>exact ok
def aCV{p n b:Int}(ok:A.i.length=A.n.length):(A.MR p n b).i.length=(A.MR p n b).n.length:=by rw[oG];exact ok
def ö(ok:EK A e)(a:A.has h)(hk:k∈(A.nd h).Bb):k≠h/\(A.nd k).FQ=h/\A.has k:=by have:=ok.M4 h a k hk;refine⟨?_,this.2,this.1⟩;rintro rfl;have h0:=this.1.1;exact tP ok a (by rw[this.2];omega) this.2
def um(ok:EK A e)(a:A.has h):(A.cut h).up k=if k=h then(A.nd h).En else A.up k:=by
 unfold Ar.up;rw[RG ok a];by_cases e:k=h;.simp[e]
 .simp only[e,DG];split<;>rfl
def tQ(ok:EK A e)(c:A.has h)(Zl:(A.nd h).kind≠2):EK (A.cut h) e:=by
 obtain⟨r,hr⟩:=ok.eX;have a:=λm=>RG (k:=m) ok c;have kd:∀m,((A.cut h).nd m).kind=(A.nd m).kind:=λm=>by rw[a];grind
 have l:∀m,((A.cut h).nd m).CQ=(A.nd m).CQ:=λm=>by rw[a];grind
 have n:∀m,((A.cut h).nd m).cont=(A.nd m).cont:=λm=>by rw[a];grind
 have ho:∀m,((A.cut h).nd m).En=(A.nd m).En:=λm=>by rw[a];grind
 have d:(A.nd h).En=0:=by
  by_cases h0:(A.nd h).En=0;.exact h0
  .exact absurd ((ok.SM h c).PZ h0) Zl
 refine⟨aCU ok.il,?_,?_,?_,?_,?_,?_,?_,?_,?_,r,?_⟩<;>intro m hm<;>rw[Li] at hm<;>(try simp only[kd,l,n,ho,Li,ô])
 .rw[a];split;.exact xX (ok.SM h c) AH
  .split;.exact oH (ok.SM m hm) ((ok.SM m hm).jm.filter _) λh1=>(ok.SM m hm).Bb (by intro h2;rw[h2] at h1;simp at h1)
   .exact ok.SM m hm
 .exact ok.CQ m hm
 .exact ok.eV m hm
 .intro h1;have b:m≠h:=by rintro rfl;rw[a] at h1;simp at h1
  have j:((A.cut h).nd m).FQ=(A.nd m).FQ:=by rw[a,Ad b];split<;>rfl
  rw[j] at h1⊢;have h2:=ok.FQ m hm h1;refine⟨h2.1,?_⟩;rw[a];split;.rename_i i;rw[<-i];exact h2.2
  .split;.simp only[DM,CL];exact⟨h2.2,b⟩
   .exact h2.2
 .intro q hq;have h1:q∈(A.nd m).Bb/\(m=(A.nd h).FQ->q≠h):=by
   rw[a] at hq;split at hq;.rename_i b;subst b;have:=ö ok hm hq;exact⟨hq,λ_=>this.1⟩
   .split at hq;.simp only[DM,CL] at hq;exact⟨hq.1,λ_=>hq.2⟩
    .rename_i g;refine⟨hq,λf o=>g ⟨?_,f⟩⟩;rw[<-f];have:=hm.1;omega
  have h2:=ok.M4 m hm q h1.1;refine⟨h2.1,?_⟩;have b:q≠h:=by rintro rfl;exact h1.2 h2.2.symm rfl
  rw[a,Ad b,<-h2.2];split<;>rfl
 .intro h1 h2;refine ok.eW m hm h1 ?_;rw[a] at h2;unfold eU at h2⊢;grind
 .exact ok.cont m hm
 .exact ok.En m hm
 .exact ok.ine m hm
 .rw[um ok c];split;.rw[d];simp
  .exact hr m hm
def uo{p n b:Int}(hp:A.has p)(hn:A.has n)(hne:n≠p):(A.MR p n b).nd k=if k=n then{A.nd n with FQ:=p} else if k=p then{A.nd p with Bb:=Jg (A.nd p).Bb b n} else A.nd k:=by
 unfold Ar.MR;simp only[JU,Ir,hp,hn,MJ];by_cases e:k=n;.subst e;simp[hne]
 .simp[e]
def jn{p n b:Int}(hp:A.has p)(hn:A.has n)(hne:n≠p)(h0:(A.nd n).FQ=0)(a:(A.nd n).En=0)(hr:¬Reach A n p):∀{m},¬Reach A n m->(A.MR p n b).up m=A.up m:=by
 intro m hm;have e:m≠n:=by rintro rfl;exact hm .refl
 unfold Ar.up;rw[uo hp hn hne,Ad e];split;.rename_i e;subst e;rfl
 .rfl
open Classical in
def aCW(ok:EK A e){p n b:Int}(hp:A.has p)(hn:A.has n)(kp:Lx (A.nd p).kind)(kn:(A.nd n).kind≠1/\(A.nd n).kind≠2)(re:¬Reach A n p)(h0:(A.nd n).FQ=0):EK (A.MR p n b) e:=by
 obtain⟨r,hr⟩:=ok.eX;have hne:n≠p:=by rintro rfl;exact re .refl
 have a:=λm=>uo (k:=m) (b:=b) hp hn hne;have kd:∀m,((A.MR p n b).nd m).kind=(A.nd m).kind:=λm=>by rw[a];grind
 have l:∀m,((A.MR p n b).nd m).CQ=(A.nd m).CQ:=λm=>by rw[a];grind
 have o:∀m,((A.MR p n b).nd m).cont=(A.nd m).cont:=λm=>by rw[a];grind
 have ho:∀m,((A.MR p n b).nd m).En=(A.nd m).En:=λm=>by rw[a];grind
 have i:(A.nd n).En=0:=by
  by_cases h0:(A.nd n).En=0;.exact h0
  .exact absurd ((ok.SM n hn).PZ h0) kn.2
 have g:∀m,A.has m->n∉(A.nd m).Bb:=by intro m hm h1;have:=ok.M4 m hm n h1;rw[h0] at this;have:=hm.1;omega
 refine⟨aCV ok.il,?_,?_,?_,?_,?_,?_,?_,?_,?_,λm=>if Reach A n m then r m+r p+1 else r m,?_⟩<;>intro m hm<;>rw[xW] at hm<;>(try simp only[kd,l,o,ho,xW,õ])
 .rw[a];split;.exact xX (ok.SM n hn) λ_=>kn
  .split;.exact oH (ok.SM p hp) (oE (ok.SM p hp).jm (g p hp)) λ_=>kp
   .exact ok.SM m hm
 .exact ok.CQ m hm
 .exact ok.eV m hm
 .intro h1;by_cases c:m=n
  .subst c;rw[a,Af rfl];refine⟨hp,?_⟩;simp only
   rw[a,Ad (DJ hne),Af rfl];exact TW.2 (.inl rfl)
  .have f:((A.MR p n b).nd m).FQ=(A.nd m).FQ:=by rw[a,Ad c];split;rename_i e;rw[e];rfl
   rw[f] at h1⊢;have h2:=ok.FQ m hm h1;refine⟨h2.1,?_⟩;rw[a];split;.rename_i j;rw[<-j];exact h2.2
   .split;.rename_i j;rw[<-j];exact TW.2 (.inr h2.2)
    .exact h2.2
 .intro q hq;by_cases c:q=n
  .subst c;refine⟨hn,?_⟩;rw[a,Af rfl];rw[a] at hq;split at hq;.exact absurd hq (g q hn)
   .split at hq;.rename_i e;exact e.symm
    .exact absurd hq (g m hm)
  .have h1:q∈(A.nd m).Bb:=by
    rw[a] at hq;split at hq;.rename_i e;rw[e];exact hq
    .split at hq;.rename_i e;rw[e];exact(TW.1 hq).resolve_left c
     .exact hq
   have h2:=ok.M4 m hm q h1;refine⟨h2.1,?_⟩;rw[a,Ad c,<-h2.2];split;.rename_i e;rw[e]
   .rfl
 .intro h1 h2;refine ok.eW m hm h1 ?_;rw[a] at h2;unfold eU at h2⊢;grind
 .exact ok.cont m hm
 .exact ok.En m hm
 .exact ok.ine m hm
 .intro hu;by_cases hR:Reach A n m
  .by_cases c:m=n
   .subst c;have f:(A.MR p m b).up m=p:=by unfold Ar.up;rw[a,Af rfl];simp only;rw[Af];have:=hp.1;omega
    rw[f,Ad re,Af hR];omega
   .have f:(A.MR p n b).up m=A.up m:=by
     unfold Ar.up;rw[a,Ad c];split;.rename_i e;rw[e]
     .rfl
    rw[f] at hu⊢;have d:Reach A n (A.up m):=by
     cases hR with
     |refl=>exact absurd rfl c
     |step _ hx=>exact hx
    rw[Af d,Af hR];have:=hr m hm hu;omega
  .have f:=jn (b:=b) hp hn hne h0 i re hR;rw[f] at hu⊢;have d:¬Reach A n (A.up m):=λh=>hR (.step hu h);rw[Ad d,Ad hR];exact hr m hm hu
def jo(ok:EK A e)(b:A.has h){m:Int}(hr:¬Reach A h m):¬Reach (A.cut h) h m:=by
 intro L0;have key:∀m,Reach (A.cut h) h m->Reach A h m:=by
  intro m hm;induction hm with
  |refl=>exact .refl
  |@step q h1 _ ih=>
   by_cases a:q=h;.rw[a];exact .refl
   .rw[um ok b,Ad a] at h1 ih;exact .step h1 ih
 exact hr (key m L0)
def Qw(ok:EK A e){p n b:Int}:EK (A.FX p n b) e:=by
 unfold Ar.FX;split
 .rename_i f;have a:=tQ ok f.hn f.kn.2;have kd:∀m,((A.cut n).nd m).kind=(A.nd m).kind:=λm=>by rw[RG ok f.hn];grind
  refine aCW a (Li.2 f.hp) (Li.2 f.hn) ?_ ?_ (jo ok f.hn f.re) ?_;.rw[kd];exact f.kp
  .rw[kd];exact f.kn
  .rw[RG ok f.hn,Af rfl]
 .exact ok
def uq(ok:EK A e)(g:A.has h)(hx:nl x)(h1:x.kind=(A.nd h).kind)(h2:x.FQ=(A.nd h).FQ)(o:x.Bb=(A.nd h).Bb)(d:A.has x.CQ/\(A.nd x.CQ).kind=1/\(x.kind=1->x.CQ=h))(n:x.cont=(A.nd h).cont)(l:x.En=(A.nd h).En)(i:eU x->eU (A.nd h)):EK (A.set h x) e:=by
 obtain⟨r,hr⟩:=ok.eX;have a:∀m,(A.set h x).nd m=if m=h then x else A.nd m:=λm=>by rw[JU];simp[g]
 have kd:∀m,((A.set h x).nd m).kind=(A.nd m).kind:=λm=>by rw[a];grind
 have f:∀m,((A.set h x).nd m).FQ=(A.nd m).FQ:=λm=>by rw[a];grind
 have ks:∀m,((A.set h x).nd m).Bb=(A.nd m).Bb:=λm=>by rw[a];grind
 have j:∀m,((A.set h x).nd m).cont=(A.nd m).cont:=λm=>by rw[a];grind
 have ho:∀m,((A.set h x).nd m).En=(A.nd m).En:=λm=>by rw[a];grind
 have u:∀m,(A.set h x).up m=A.up m:=λm=>by unfold Ar.up;rw[f,ho]
 refine⟨by rw[Jw];exact ok.il,?_,?_,?_,?_,?_,?_,?_,?_,?_,r,?_⟩<;>intro m hm<;>rw[Ir] at hm<;>(try simp only[kd,f,ks,j,ho,u,Ir,SJ])
 .rw[a];split;.exact hx
  .exact ok.SM m hm
 .rw[a];split;.exact⟨d.1,d.2.1⟩
  .exact ok.CQ m hm
 .rw[a];split;.rename_i e;intro c;rw[e,d.2.2 (by rw[h1,<-e];exact c)]
  .exact ok.eV m hm
 .exact ok.FQ m hm
 .exact ok.M4 m hm
 .intro c b;refine ok.eW m hm c ?_;rw[a] at b;split at b;.rename_i e;rw[e];exact i b
  .exact b
 .exact ok.cont m hm
 .exact ok.En m hm
 .exact ok.ine m hm
 .exact hr m hm
def Ar.FB(A:Ar)(d:Int):Int:=if A.inr d≠0 then A.inr d else A.len+1
def Ar.Dk(A:Ar)(d:Int):Ar:=if A.inr d≠0 then A else((A.add {kind:=1,CQ:=A.len+1}).I6 d (A.len+1)).I6 (A.len+1) (A.len+1)
def ø:nl {kind:=1,CQ:=k}:=by constructor<;>simp[Ct,HA]
def xY(ok:EK A e)(hk:A.has k/\(A.nd k).kind=1):EK (A.I6 h k) e:=by
 refine⟨?_,ok.SM,ok.CQ,ok.eV,ok.FQ,ok.M4,ok.eW,ok.cont,ok.En,?_,ok.eX⟩;.simp only[Ar.I6];split<;>simp[ok.il]
 .intro m hm h1;rw[NV] at hm;rw[PY ok.il] at h1⊢;split at h1;.rename_i h2;rw[Af h2];exact hk
  .rename_i h2;rw[Ad h2];exact ok.ine m hm h1
def ur(ok:EK A e)(b:A.has h)(he:e≠A.len+1):EK (A.Dk h) e/\(A.Dk h).has (A.FB h)/\((A.Dk h).nd (A.FB h)).kind=1:=by
 unfold Ar.Dk Ar.FB;split;.rename_i h1;exact⟨ok,ok.ine h b h1⟩
 .have a:=Yg ok (x:={kind:=1,CQ:=A.len+1}) ø (.inl ⟨rfl,rfl⟩) rfl rfl rfl rfl (by simp[eU]);have h2:(A.add {kind:=1,CQ:=A.len+1}).has (A.len+1)/\((A.add {kind:=1,CQ:=A.len+1}).nd (A.len+1)).kind=1:=by rw[DQ,IH,Af rfl];exact⟨.inr rfl,rfl⟩
  exact⟨xY (xY a h2) h2,h2⟩
def Yh(hk:k≠A.len+1\/A.inr h≠0):(A.Dk h).nd k=A.nd k:=by
 unfold Ar.Dk;split;.rfl
 .rename_i h1;rw[SL,SL,IH,Ad (hk.resolve_right h1)]
def jq:(A.Dk h).len=if A.inr h≠0 then A.len else A.len+1:=by
 unfold Ar.Dk;split;.rfl
 .rw[SK,SK,OC]
def NW:A.has k->(A.Dk h).has k:=by
 unfold Ar.Dk;split;.exact id
 .intro hk;rw[NV,NV,DQ];exact .inl hk
def ù{d:Int}(ok:EK A e)(he:A.has e)(n:eU (A.nd e))(hc:(A.nd e).cont=0)(hd:A.has d/\(A.nd d).kind=1):EK ((A.add {kind:=2,En:=e,CQ:=d}).set e {A.nd e with cont:=A.len+1}) 0:=by
 have no:=RF (A:=A);obtain⟨r,hr⟩:=ok.eX;have ne:∀{k},A.has k->k≠A.len+1:=λhk e=>no (e▸hk);have l0:A.len+1≠0:=by have:=he.1;have:=he.2;unfold Ar.len;omega
 have b:∀m,(((A.add {kind:=2,En:=e,CQ:=d}).set e {A.nd e with cont:=A.len+1}).nd m)=if m=e then{A.nd e with cont:=A.len+1} else if m=A.len+1 then{kind:=2,En:=e,CQ:=d} else A.nd m:=λm=>by rw[JU,IH];simp[he,DQ]
 have hk:(A.nd e).kind=4:=n.1;have h0:(A.nd e).En=0:=by
  by_cases h0:(A.nd e).En=0;.exact h0
  .have:=(ok.SM e he).PZ h0;omega
 have e0:e≠0:=by have:=he.1;omega
 have i:nl {kind:=2,En:=e,CQ:=d}:=by constructor<;>simp[Ct,HA]
 have SM:=ok.SM;have c:=SM e he;have hne:nl {A.nd e with cont:=A.len+1}:={k:=c.k,Bb:=c.Bb,elem:=c.elem,nm:=c.nm,dt:=c.dt,data:=c.data,CH:=c.CH,sp:=c.sp,N_:=c.N_,Ct:=c.Ct,U5:=λ_=>n,PZ:=c.PZ,root:=c.root,jm:=c.jm};have hs:∀m,((A.add {kind:=2,En:=e,CQ:=d}).set e {A.nd e with cont:=A.len+1}).has m↔A.has m\/m=A.len+1:=λm=>by rw[Ir,DQ]
 have hi:∀m,((A.add {kind:=2,En:=e,CQ:=d}).set e {A.nd e with cont:=A.len+1}).inr m=A.inr m:=λm=>by rw[SJ,Wb ok.il]
 have g:e≠A.len+1:=ne he;refine⟨by rw[Jw];simp[Ar.add,Ar.set,ok.il],?_,?_,?_,?_,?_,?_,?_,?_,?_,λm=>if m=A.len+1 then r e+1 else r m,?_⟩<;>intro m hm<;>rw[hs] at hm<;>(try simp only[hs,hi])
 .rw[b];split;.exact hne
  .split;.exact i
   .rename_i h1 h2;exact SM m (hm.resolve_right h2)
 .have key:∀q,A.has q/\(A.nd q).kind=1->(A.has q\/q=A.len+1)/\(((A.add {kind:=2,En:=e,CQ:=d}).set e {A.nd e with cont:=A.len+1}).nd q).kind=1:=by
   intro q hq;refine⟨.inl hq.1,?_⟩;rw[b,Ad (ne hq.1)];split;.rename_i a;rw[a] at hq;exact hq.2
   .exact hq.2
  rw[b m];split;.exact key _ (ok.CQ e he)
  .split;.exact key _ hd
   .rename_i h1 h2;exact key _ (ok.CQ m (hm.resolve_right h2))
 .rw[b m];split;.rename_i a;intro h1;rw[a];exact ok.eV e he h1
  .split;.intro h1;simp at h1
   .rename_i h1 h2;exact ok.eV m (hm.resolve_right h2)
 .have key:∀q,A.has q->(A.nd q).FQ≠0->(A.has (A.nd q).FQ\/(A.nd q).FQ=A.len+1)/\q∈(((A.add {kind:=2,En:=e,CQ:=d}).set e {A.nd e with cont:=A.len+1}).nd (A.nd q).FQ).Bb:=by
   intro q hq hp;have h1:=ok.FQ q hq hp;refine⟨.inl h1.1,?_⟩;rw[b,Ad (ne h1.1)];split;.rename_i a;rw[a] at h1;exact h1.2
   .exact h1.2
  rw[b m];split;.rename_i a;rw[a];exact key e he
  .split;.intro h1;simp at h1
   .rename_i h1 h2;exact key m (hm.resolve_right h2)
 .have key:∀q,A.has q->∀k∈(A.nd q).Bb,(A.has k\/k=A.len+1)/\(((A.add {kind:=2,En:=e,CQ:=d}).set e {A.nd e with cont:=A.len+1}).nd k).FQ=q:=by
   intro q hq k hk;have h1:=ok.M4 q hq k hk;refine⟨.inl h1.1,?_⟩;rw[b,Ad (ne h1.1)];split;.rename_i a;rw[a] at h1;exact h1.2
   .exact h1.2
  rw[b m];split;.rename_i a;rw[a];exact key e he
  .split;.intro k hk;simp at hk
   .rename_i h1 h2;exact key m (hm.resolve_right h2)
 .intro _;rw[b m];split;.intro _;exact l0
  .split;.intro h1;simp[eU] at h1
   .rename_i h1 h2;exact ok.eW m (hm.resolve_right h2) h1
 .rw[b m];split
  .rename_i a;intro _;simp only
   rw[b,Ad (DJ g),Af rfl,a];exact⟨.inr trivial,rfl,rfl⟩
  .split;.intro h1;simp at h1
   .rename_i h1 h2;intro j;have f:=ok.cont m (hm.resolve_right h2) j;refine⟨.inl f.1,?_⟩;rw[b,Ad (ne f.1)];split;.rename_i a;rw[a,hk] at f;exact absurd f.2.1 AU
    .exact f.2
 .rw[b m];split;.intro h1;exact absurd h0 h1
  .split;.rename_i a;intro _;simp only;refine⟨.inl he,?_⟩;rw[b,Af rfl,a]
   .rename_i h1 h2;intro j;have f:=ok.En m (hm.resolve_right h2) j;refine⟨.inl f.1,?_⟩;rw[b,Ad (ne f.1)];split;.rename_i a;rw[a,hc] at f;have:=(hm.resolve_right h2).1;omega
    .exact f.2
 .intro h1;rcases hm with hm|rfl
  .have h2:=ok.ine m hm h1;refine⟨.inl h2.1,?_⟩;rw[b,Ad (ne h2.1)];split;.rename_i a;rw[a] at h2;exact h2.2
   .exact h2.2
  .exfalso;apply h1;unfold Ar.inr;rw[Ad no]
 .by_cases a:m=A.len+1
  .have l:((A.add {kind:=2,En:=e,CQ:=d}).set e {A.nd e with cont:=A.len+1}).up m=e:=by
    have o:m≠e:=by rw[a];exact DJ g
    unfold Ar.up;rw[b m];simp[a,DJ g]
   rw[l,Ad g,Af a];intro _;omega
  .have hm:=hm.resolve_right a;have l:((A.add {kind:=2,En:=e,CQ:=d}).set e {A.nd e with cont:=A.len+1}).up m=A.up m:=by
    unfold Ar.up;rw[b];split;.rename_i o;rw[o]
    .rfl
   rw[l,Ad a];intro h1;rw[Ad (ne (tO ok hm h1))];exact hr m hm h1
def Ar.elem(A:Ar)(d sp:Int)(nm:An)(at_:List A6):Ar:=
 let x:EU:={kind:=4,CQ:=d,Bc:=sp,name:=nm,Az:=Ct at_}
 if eU x then
  let b:=A.add x
  let a:=b.Dk d
  (a.add {kind:=2,En:=A.len+1,CQ:=b.FB d}).set (A.len+1) {x with cont:=a.len+1}
 else A.add x
def xZ{d sp:Int}{nm:An}{l:List A6}(ok:EK A 0)(hd:A.has d/\(A.nd d).kind=1)(hs:0<=sp/\sp<=7)(hl:∀a∈l,0<=a.Bc/\a.Bc<=7):EK (A.elem d sp nm l) 0:=by
 have hx:nl {kind:=4,CQ:=d,Bc:=sp,name:=nm,Az:=Ct l}:=by constructor<;>simp[bG,hs];exact λa ha=>hl a (oD ha)
 unfold Ar.elem;simp only
 split
 .rename_i c;have b:EK A (A.len+1):={ok with eW:=λh g _=>ok.eW h g (by have:=g.1;omega)};have j:=Yg b hx (.inr ⟨AH,hd⟩) rfl rfl rfl rfl λ_=>rfl;have eY:(A.add {kind:=4,CQ:=d,Bc:=sp,name:=nm,Az:=Ct l}).has d:=DQ.2 (.inl hd.1);obtain⟨i,h2,m⟩:=ur j eY (by rw[OC];omega);have f:((A.add {kind:=4,CQ:=d,Bc:=sp,name:=nm,Az:=Ct l}).Dk d).nd (A.len+1)={kind:=4,CQ:=d,Bc:=sp,name:=nm,Az:=Ct l}:=by rw[Yh (.inl (by rw[OC];omega)),IH,Af rfl]
  have:=ù i (NW (DQ.2 (.inr rfl))) (by rw[f];exact c) (by rw[f]) ⟨h2,m⟩;rw[f] at this;exact this
 .rename_i c;exact Yg ok hx (.inr ⟨AH,hd⟩) rfl rfl rfl rfl λh=>absurd h c
end
def aLw(e:Cc):Bool:=decide (e.node=0)
def Yi(n:Int)(e:Cc):Bool:=decide (e.node=n)
def tR(l:List Cc):Int:=AR aLw l+1
def Fi(n:Int)(l:List Cc):Int:=if n=0 then -1 else AR (Yi n) l
def P0(name:An):List Cc->Int
 |[]=> -1
 |x::t=>if x.node=0 then -1 else if x.name=name then(t.length:Int) else P0 name t
def GF(name:An)(l:List Cc):Int:=P0 name l.reverse
def yA(e:Cc):List Cc->Nat
 |[]=>0
 |x::t=>if x.node=0 then 0 else yA e t+(if GI x e=true then 1 else 0)
def oI(e:Cc):List Cc->Int
 |[]=> -1
 |x::t=>if x.node=0 then -1 else if 0<=oI e t then oI e t else if GI x e=true then(t.length:Int) else -1
def oJ(e:Cc)(l:List Cc):List Cc:=(if e.node≠0/\3<=yA e l.reverse then Bi l (oI e l.reverse).toNat else l)++[e]
def Ee(l:List Cc):List Cc:=l.take (tR l-1).toNat
structure BS where
 a:Ar
 CQ:Int
 AW:List Item
 A5:List Cc
 mode:Int
 SN:Int
 tm:List Int
 head:Int
 MT:Int
 L7:Bool
 ctx:Item
 fs:Bool
 EV:Bool
 oK:An
 skip:Bool
 sw:Int
 stop:Bool
def SO(s:List An)(A:Ar)(h:Int):Prop:=(A.nd h).kind=4/\(A.nd h).Bc=1/\(A.nd h).name∈s
instance(s:List An)(A:Ar)(h:Int):Decidable (SO s A h):=by unfold SO;infer_instance
abbrev Fa:An:=aT6
abbrev TX:An:=aUr
abbrev TY:An:=aUo
abbrev TZ:An:=aUs
abbrev wTr:An:=[116,114]
abbrev wP:An:=[112]
def HL:List An:=[Fa,TX,TY,TZ,wTr]
namespace BS
def Kg(b:BS):Int×Int:=
 let d:=AR (Bs [AK]) b.AW
 let c:=AR (Bs [Fa]) b.AW
 if c<d then((Hh b.AW d).node,0) else if c<0 then((Hh b.AW 0).node,0) else
 let t:=(Hh b.AW c).node
 if(b.a.nd t).FQ≠0 then((b.a.nd t).FQ,t) else((Hh b.AW (max (c-1) 0)).node,0)
def place(b:BS)(t:Int):Int×Int:=
 if t=0/\b.AW=[] then(b.CQ,0) else
 let t':=if t=0 then(FA b.AW).node else t
 let pb:=if b.EV=true/\SO HL b.a t' then b.Kg else(t',0)
 if(b.a.nd pb.1).cont≠0 then((b.a.nd pb.1).cont,0) else pb
end BS
open Classical in
def Ar.EA(A:Ar)(h p bf:Int):Ar:=if(A.nd p).kind=1/\(A.nd h).kind=4/\(∃k∈(A.nd p).Bb,(A.nd k).kind=4) then A else A.FX p h bf
namespace BS
def II(b:BS)(p:Int):Int:=if(b.a.nd p).cont≠0 then(if(b.a.nd (b.a.nd p).cont).CQ≠0 then(b.a.nd (b.a.nd p).cont).CQ else b.CQ) else if(b.a.nd p).CQ≠0 then(b.a.nd p).CQ else b.CQ
def HX(sp:Int):Prop:=0<=sp/\sp<=7
instance(sp:Int):Decidable (HX sp):=by unfold HX;infer_instance
def IJ(sp:Int)(nm:An):An:=if sp=2 then Cp nm I3 else nm
def GB(b:BS)(nm:An)(at_:List A6)(sp:Int):Item:=if HX sp then⟨b.a.len+1,sp,IJ sp nm,Fm sp (IJ sp nm) (at_.map (C5 sp))⟩ else Item.zero
def Es(b:BS)(nm:An)(at_:List A6)(sp p:Int):BS:=if HX sp then{b with a:=b.a.elem (b.II p) sp (IJ sp nm) (at_.map (C5 sp))} else b
def Pc(b:BS)(sp:Int):Int:=if HX sp then b.a.len+1 else 0
def EG(b:BS)(nm:An)(at_:List A6)(sp:Int):BS:=
 if HX sp then
  let pb:=b.place 0
  let b1:=b.Es nm at_ sp pb.1
  {b1 with a:=b1.a.EA (b.a.len+1) pb.1 pb.2,AW:=b1.AW++[b.GB nm at_ sp]}
 else b
def Ks(b:BS)(nm:An)(at_:List A6):BS:=
 let b1:=b.EG nm at_ 1
 {b1 with A5:=oJ ⟨b.a.len+1,nm,at_⟩ b1.A5}
end BS
def HM(r:Int):An:=
 if 0<=r/\r<128 then[UInt8.ofNat r.toNat]
 else if 128<=r/\r<2048 then[UInt8.ofNat (192+r.toNat/64),UInt8.ofNat (128+r.toNat%64)]
 else if 2048<=r/\r<65536/\¬(55296<=r/\r<57344) then[UInt8.ofNat (224+r.toNat/4096),UInt8.ofNat (128+r.toNat/64%64),UInt8.ofNat (128+r.toNat%64)]
 else if 65536<=r/\r<=1114111 then[UInt8.ofNat (240+r.toNat/262144),UInt8.ofNat (128+r.toNat/4096%64),UInt8.ofNat (128+r.toNat/64%64),UInt8.ofNat (128+r.toNat%64)]
 else[239,191,189]
def T0(l:List Int)(bf:Int):Option Int:=if bf=0 then l.getLast? else(l.takeWhile λk=>decide (k≠bf)).getLast?
def Ar.SP(A:Ar)(h:Int)(s:An):Ar:=A.set h {A.nd h with data:=s}
def Ar.Jy(A:Ar)(h:Int)(l:List A6):Ar:=A.set h {A.nd h with Az:=Ct l}
namespace BS
def LP(A:Ar)(s:An)(p bf:Int):Ar:=
 if(A.nd p).kind=4\/(A.nd p).kind=2 then
  match T0 (A.nd p).Bb bf with
  |some t=>if(A.nd t).kind=5 then A.SP t ((A.nd t).data++s) else(A.add {kind:=5,CQ:=(A.nd p).CQ,data:=s}).EA (A.len+1) p bf
  |none=>(A.add {kind:=5,CQ:=(A.nd p).CQ,data:=s}).EA (A.len+1) p bf
 else A
def Nn(b:BS)(r:Int):BS:={b with a:=LP b.a (HM r) (b.place 0).1 (b.place 0).2}
def E3(A:Ar)(s:An)(p bf:Int):Ar:=
 if Lx (A.nd p).kind then(A.add {kind:=6,CQ:=(A.nd p).CQ,data:=s}).EA (A.len+1) p bf else A
def Fe(b:BS)(s:An)(p:Int):BS:={b with a:=if p=0 then E3 b.a s (b.place 0).1 (b.place 0).2 else E3 b.a s p 0}
def Fs(b:BS)(nm:An)(at_:List A6)(st:Int):BS:=let b1:=b.EG nm at_ 1;{b1 with sw:=st,SN:=b1.mode,mode:=8}
def JV(b:BS):BS:=if Kf (Bs [wP]) (JR 3) b.AW.reverse then{b with AW:=DA Cx (Bs [wP]) (DA (Ez wP) Cx b.AW)} else b
def settled(b:BS)(e:Cc):Bool:=decide (e.node=0\/0<=AR (Bz e.node) b.AW)
def Jn:List Cc->BS->List Cc×BS
 |[],b=>([],b)
 |e::l,b=>let r:=Jn l (b.EG e.name e.Az 1);({e with node:=b.a.len+1}::r.1,r.2)
def Ly(b:BS):Nat:=(AR b.settled b.A5+1).toNat
def CR(b:BS):BS:=let r:=Jn (b.A5.drop b.Ly) b;{r.2 with A5:=b.A5.take b.Ly++r.1}
def Ds(b:BS)(nm:An):BS:=match b.AW.reverse.find? λi=>Bs [nm] i||GW i with
 |some i=>if Bs [nm] i then{b with AW:=GX i.node (DA (Ez nm) Cx b.AW)} else b
 |none=>b
def JH(l:List Item):Int:=match l.reverse.find? λi=>Bs [AK] i||Bs [Fa] i with
 |some i=>if Bs [AK] i then 16 else 17
 |none=>16
end BS
abbrev SQ:An:=aT7
abbrev Qx:An:=aUk
abbrev yB:An:=aUb
abbrev Qy:An:=aUx
abbrev Lj:An:=aUE
abbrev uv:An:=[116,100]
abbrev uw:An:=[116,104]
abbrev Q7:An:=aTY
abbrev DI:An:=aTT
def Jz:List (An×Int):=[(wTr,14),(TX,13),(TZ,13),(TY,13),(SQ,11),(Qx,12),(Fa,9),(yB,7),(Qy,20)]
namespace BS
def Hi(b:BS)(x:Item)(k:Nat):Option Int:=
 if x.Bc=1 then
  match Jz.find? λr=>decide (r.1=x.name) with
  |some r=>some r.2
  |none=>
   if x.name=Lj then some (JH (b.AW.take k))
   else if(x.name=uv\/x.name=uw)/\0<k then some 15
   else if x.name=AK then some (b.tm.getLast?.getD 7)
   else if x.name=Q7/\0<k then some 4
   else if x.name=DI then some (if b.head=0 then 3 else 6)
   else if k=0 then some 7 else none
 else if k=0 then some 7 else none
def ED(b:BS)(k:Nat):Item:=if k=0/\b.L7=true then b.ctx else b.AW.getD k Item.zero
def LQ(b:BS):Nat->Int
 |0=>7
 |k+1=>match b.Hi (b.ED k) k with
  |some m=>m
  |none=>b.LQ k
def GG(b:BS):BS:={b with mode:=b.LQ b.AW.length}
def plain(l:List A6):List A6:=l.map λa=>⟨0,a.name,a.value⟩
def Gf(b:BS)(l:List A6)(h:Int):BS:=if(b.a.nd h).kind=4 then{b with a:=b.a.Jy h ((b.a.nd h).Az++plain l)} else b
def Cv(b:BS):BS:=
 if AR (Bs [AK]) b.AW<0 then b
 else GG {b with AW:=DA Cx (Bs [AK]) (DA CG Cx b.AW),A5:=Ee b.A5,tm:=b.tm.dropLast}
def Lk(b:BS):BS:=if b.AW.length<2 then b else{b with AW:=b.AW.take (b.AW.length-1)}
def oL(b:BS):Item:=if b.AW.length<2 then Item.zero else FA b.AW
end BS
def Cc.zero:Cc:=⟨0,[],[]⟩
namespace BS
def Fp(blk anc:Int)(far i:Nat)(b:BS)(l:Int)(m:Nat):BS×Int×Nat:=
 let x:=b.AW.getD i Item.zero
 let e:=Fi x.node b.A5
 if e<0 then({b with AW:=Bi b.AW i},l,m)
 else if i+3<far then({b with A5:=Bi b.A5 e.toNat,AW:=Bi b.AW i},l,if e.toNat<m then m-1 else m)
 else
  let en:=b.A5.getD e.toNat Cc.zero
  let n:=b.GB en.name en.Az 1
  let b1:=b.Es en.name en.Az 1 anc
  ({b1 with a:=b1.a.FX n.node l 0,AW:=b1.AW.set i n,A5:=b1.A5.set e.toNat {en with node:=n.node}},n.node,if l=blk then e.toNat+1 else m)
def KG(blk anc:Int)(far k:Nat):Nat->BS×Int×Nat->BS×Int×Nat
 |0,s=>s
 |c+1,s=>KG blk anc far k c (Fp blk anc far (k+(c+1)) s.1 s.2.1 s.2.2)
def Cy(A:Ar)(n:Int)(l:List Int):Ar:=l.foldl (λA x=>A.FX n x 0) A
def GJ(fe:Cc)(blk anc:Int)(s:BS×Int×Nat):BS:=
 let b1:=s.1
 let pb:=b1.place anc
 let b2:={b1 with a:=b1.a.EA s.2.1 pb.1 pb.2}
 let n:=b2.GB fe.name fe.Az 1
 let b3:=b2.Es fe.name fe.Az 1 blk
 let b:=Fi fe.node b3.A5
 let mk:=if b.toNat<s.2.2 then s.2.2 -1 else s.2.2
 let ac:=Bi b3.A5 b.toNat
 let op:=C4 fe.node b3.AW
 let ip:=E2 (AR (Bz blk) op+1) op.length
 {b3 with a:=(Cy b3.a n.node (b3.a.nd blk).Bb).FX blk n.node 0,A5:=ac.take (CE mk ac.length)++{fe with node:=n.node}::ac.drop (CE mk ac.length),AW:=op.take ip++n::op.drop ip}
def round(b:BS)(nm:An):Bool×BS:=
 let f:=GF nm b.A5
 if f<0 then(false,b.Ds nm) else
 let fe:=b.A5.getD f.toNat Cc.zero
 let k:=AR (Bz fe.node) b.AW
 if k<0 then(false,{b with A5:=Bi b.A5 f.toNat}) else
 if k=0\/Kf (Bz fe.node) (JR 1) b.AW.reverse=false then(false,b) else
 let far:=D6 fe.node b.AW
 if far<0 then(false,{b with AW:=GX fe.node b.AW,A5:=Bi b.A5 f.toNat}) else
 let blk:=(b.AW.getD far.toNat Item.zero).node
 let anc:=(b.AW.getD (k.toNat-1) Item.zero).node
 (true,GJ fe blk anc (KG blk anc far.toNat k.toNat (far.toNat-1 -k.toNat) (b,blk,f.toNat)))
def Eh:Nat->BS->An->BS
 |0,b,_=>b
 |n+1,b,nm=>let r:=b.round nm;if r.1 then Eh n r.2 nm else r.2
def Ik(b:BS)(nm:An):BS:=
 if Bs [nm] (FA b.AW)/\Fi (FA b.AW).node b.A5<0 then b.Lk else Eh 8 b nm
end BS
structure Le(A A':Ar):Prop where
 has:∀h,A.has h->A'.has h
 kind:∀h,A.has h->(A'.nd h).kind=(A.nd h).kind
 Bc:∀h,A.has h->(A'.nd h).Bc=(A.nd h).Bc
 name:∀h,A.has h->(A'.nd h).name=(A.nd h).name
section
variable{A A' A'':Ar}{h k e p n b:Int}{x:EU}
def Le.refl:Le A A:=⟨λ_ h=>h,λ_ _=>rfl,λ_ _=>rfl,λ_ _=>rfl⟩
def Le.trans(h1:Le A A')(h2:Le A' A''):Le A A'':=⟨λh a=>h2.has h (h1.has h a),λh a=>by rw[h2.kind h (h1.has h a),h1.kind h a],λh a=>by rw[h2.Bc h (h1.has h a),h1.Bc h a],λh a=>by rw[h2.name h (h1.has h a),h1.name h a]⟩
def Le.aAQ(h1:∀h,A.has h->A'.has h)(h2:∀h,A.has h->A'.nd h=A.nd h):Le A A':=⟨h1,λh a=>by rw[h2 h a],λh a=>by rw[h2 h a],λh a=>by rw[h2 h a]⟩
def Yj(a:A.has h):h≠A.len+1:=λe=>RF (A:=A) (e▸a)
def Mx(a:A.has h):(A.add x).nd h=A.nd h:=by rw[IH,Ad (Yj a)]
def tS:Le A (A.add x):= .aAQ (λh a=>DQ.2 (.inl a)) λh a=>Mx a
def eZ(h1:x.kind=(A.nd h).kind)(h2:x.Bc=(A.nd h).Bc)(a:x.name=(A.nd h).name):Le A (A.set h x):=by
 refine⟨λk hk=>Ir.2 hk,?_,?_,?_⟩<;>intro k hk<;>rw[JU]<;>split;.rename_i e;rw[e.1,h1]
 .rfl
 .rename_i e;rw[e.1,h2]
 .rfl
 .rename_i e;rw[e.1,a]
 .rfl
def yC{l:List Int}:Le A (A.set h {A.nd h with Bb:=l}):=eZ rfl rfl rfl
def yD:Le A (A.set h {A.nd h with FQ:=p}):=eZ rfl rfl rfl
def aCX:Le A (A.cut n):=by
 unfold Ar.cut;simp only;split;.exact .refl
 .exact Le.trans yC yD
def aCY:Le A (A.MR p n b):=Le.trans yC yD
def OD:Le A (A.FX p n b):=by unfold Ar.FX;split;exact aCX.trans aCY;exact .refl
def I7:Le A (A.EA n p b):=by unfold Ar.EA;split;exact .refl;exact OD
def OE(ok:EK A e):EK (A.EA n p b) e:=by unfold Ar.EA;split;exact ok;exact Qw ok
def oM{d sp:Int}{nm:An}{l:List A6}(a:A.has h):(A.elem d sp nm l).has h/\(A.elem d sp nm l).nd h=A.nd h:=by
 have hne:=Yj a;unfold Ar.elem;simp only
 split;.have h1:(A.add {kind:=4,CQ:=d,Bc:=sp,name:=nm,Az:=Ct l}).has h:=DQ.2 (.inl a);refine⟨Ir.2 (DQ.2 (.inl (NW h1))),?_⟩;rw[JU,Ad (λe=>hne e.1),Mx (NW h1),Yh (.inl (Yj h1)),Mx a]
 .exact⟨DQ.2 (.inl a),Mx a⟩
def oN{d sp:Int}{nm:An}{l:List A6}:(A.elem d sp nm l).has (A.len+1)/\((A.elem d sp nm l).nd (A.len+1)).kind=4/\((A.elem d sp nm l).nd (A.len+1)).Bc=sp/\((A.elem d sp nm l).nd (A.len+1)).name=nm/\((A.elem d sp nm l).nd (A.len+1)).Bb=[]/\((A.elem d sp nm l).nd (A.len+1)).FQ=0/\((A.elem d sp nm l).nd (A.len+1)).CQ=d/\((A.elem d sp nm l).nd (A.len+1)).Az=Ct l:=by
 unfold Ar.elem;simp only
 split;.have h1:(A.add {kind:=4,CQ:=d,Bc:=sp,name:=nm,Az:=Ct l}).has (A.len+1):=DQ.2 (.inr rfl);have h2:=DQ (x:={kind:=2,En:=A.len+1,CQ:=(A.add {kind:=4,CQ:=d,Bc:=sp,name:=nm,Az:=Ct l}).FB d}).2 (.inl (NW (h:=d) h1));rw[Ir,JU,Af ⟨rfl,h2⟩];exact⟨h2,rfl,rfl,rfl,rfl,rfl,rfl,rfl⟩
 .rw[IH,Af rfl];exact⟨DQ.2 (.inr rfl),rfl,rfl,rfl,rfl,rfl,rfl,rfl⟩
def Wc{d sp:Int}{nm:An}{l:List A6}:Le A (A.elem d sp nm l):= .aAQ (λ_ h=>(oM h).1) λ_ h=>(oM h).2
def oO{l:List A6}(ok:EK A e)(c:A.has h)(hk:(A.nd h).kind=4)(hl:∀a∈l,0<=a.Bc/\a.Bc<=7):EK (A.Jy h l) e:=by have hx:=ok.SM h c;refine uq ok c ⟨hx.k,hx.Bb,λh=>absurd hk h,hx.nm,hx.dt,hx.data,hx.CH,hx.sp,λa ha=>hl a (oD ha),bG l,hx.U5,hx.PZ,hx.root,hx.jm⟩ rfl rfl rfl ⟨(ok.CQ h c).1,(ok.CQ h c).2,ok.eV h c⟩ rfl rfl λd=>d
def tT{s:An}(ok:EK A e)(a:A.has h)(hk:(A.nd h).kind=5\/(A.nd h).kind=6):EK (A.SP h s) e:=by have hx:=ok.SM h a;refine uq ok a ⟨hx.k,hx.Bb,hx.elem,hx.nm,hx.dt,λf d=>by have:(A.nd h).kind≠5:=f;have:(A.nd h).kind≠6:=d;omega,hx.CH,hx.sp,hx.N_,hx.Ct,hx.U5,hx.PZ,hx.root,hx.jm⟩ rfl rfl rfl ⟨(ok.CQ h a).1,(ok.CQ h a).2,ok.eV h a⟩ rfl rfl λc=>c
def fA{kd d:Int}{s:An}(ok:EK A e)(he:e≠A.len+1)(hd:A.has d/\(A.nd d).kind=1)(hk:kd=5\/kd=6):EK (A.add {kind:=kd,CQ:=d,data:=s}) e:=by
 refine Yg ok ?_ (.inr ⟨D9,hd⟩) rfl rfl rfl rfl (λh=>?_);.constructor<;>simp[Ct,HA]<;>omega
 .have:=h.1;simp at this;omega
def tU{s:An}:Le A (A.SP h s):=eZ rfl rfl rfl
def oP{l:List A6}:Le A (A.Jy h l):=eZ rfl rfl rfl
def fB{sp:Int}{a:A6}:0<=(C5 sp a).Bc/\(C5 sp a).Bc<=7:=by
 unfold C5;split
 .split
  .rename_i s m he;have:∀x∈fT,0<=x.2.1/\x.2.1<=7:=AU;unfold Ed at he;cases hf:fT.find? λx=>decide (Kr sp a.name=x.1) with
   |none=>rw[hf] at he;cases he
   |some y=>rw[hf] at he;have:=this y (QR hf);simp at he;rw[he] at this;exact this
  .exact⟨GC 0,AH⟩
 .exact⟨GC 0,AH⟩
end
structure EB(b:BS):Prop where
 ok:EK b.a 0
 CQ:b.a.has b.CQ/\(b.a.nd b.CQ).kind=1
 op:∀i∈b.AW,b.a.has i.node/\(b.a.nd i.node).kind=4/\(b.a.nd i.node).Bc=i.Bc/\(b.a.nd i.node).name=i.name
 O_:(b.AW.map Item.node).Nodup
 ac:∀e∈b.A5,e.node=0\/(b.a.has e.node/\(b.a.nd e.node).kind=4)
 jr:((b.A5.map Cc.node).filter λn=>decide (n≠0)).Nodup
structure BA(b:BS):Prop where
 ok:EK b.a 0
 CQ:b.a.has b.CQ/\(b.a.nd b.CQ).kind=1
def EB.ba{b:BS}(o:EB b):BA b:=⟨o.ok,o.CQ⟩
instance{b:BS}:Coe (EB b) (BA b):=⟨EB.ba⟩
section
variable{b:BS}{t:Int}
def ú{A A':Ar}{l:List Item}(hl:Le A A')(h:∀i∈l,A.has i.node/\(A.nd i.node).kind=4/\(A.nd i.node).Bc=i.Bc/\(A.nd i.node).name=i.name):∀i∈l,A'.has i.node/\(A'.nd i.node).kind=4/\(A'.nd i.node).Bc=i.Bc/\(A'.nd i.node).name=i.name:=by intro i hi;have:=h i hi;rw[hl.kind _ this.1,hl.Bc _ this.1,hl.name _ this.1];exact⟨hl.has _ this.1,this.2⟩
def yE{A A':Ar}{l:List Cc}(hl:Le A A')(h:∀e∈l,e.node=0\/(A.has e.node/\(A.nd e.node).kind=4)):∀e∈l,e.node=0\/(A'.has e.node/\(A'.nd e.node).kind=4):=by
 intro e he;rcases h e he with h|h
 .exact .inl h
 .rw[hl.kind _ h.1];exact .inr ⟨hl.has _ h.1,h.2⟩
def EB.KH(o:EB b){A:Ar}(ok:EK A 0)(hl:Le b.a A):EB {b with a:=A}:=
 ⟨ok,by rw[hl.kind _ o.CQ.1];exact⟨hl.has _ o.CQ.1,o.CQ.2⟩,ú hl o.op,o.O_,yE hl o.ac,o.jr⟩
def EB.aLx(o:EB b){l:List Item}(h1:∀i∈l,i∈b.AW)(h2:(l.map Item.node).Nodup):EB {b with AW:=l}:=
 ⟨o.ok,o.CQ,λi hi=>o.op i (h1 i hi),h2,o.ac,o.jr⟩
def EB.SR(o:EB b){l:List Item}(h1:List.Sublist l b.AW):EB {b with AW:=l}:=o.aLx (λ_ hi=>h1.subset hi) (o.O_.sublist (h1.map _))
def EB.oQ(o:EB b){l:List Cc}(h1:List.Sublist l b.A5):EB {b with A5:=l}:=
 ⟨o.ok,o.CQ,o.op,o.O_,λe he=>o.ac e (h1.subset he),o.jr.sublist ((h1.map _).filter _)⟩
def DO{p q:Item->Bool}{l:List Item}:List.Sublist (DA p q l) l:=by
 have key:∀r:List Item,List.Sublist (PT p q r) r:=by
  intro r;induction r with
  |nil=>exact AP _
  |cons x r ih=>
   cases r with
   |nil=>exact AP _
   |cons y r=>
    rw[PT];split;.exact AP _
    .split;.exact Um _ _
     .exact ih.trans (Um _ _)
 have:=(key l.reverse).reverse;rwa [Fk] at this
def IK{n:Int}{l:List Item}:List.Sublist (GX n l) l:=by unfold GX;split;exact AP _;exact DO
def Dl{U:Type}{l:List U}{k:Nat}:List.Sublist (Bi l k) l:=by
 unfold Bi;conv=>rhs;rw[<-CD k l]
 refine List.Sublist.append (AP _) ?_;rw[<-El];exact aPG _ _
def LA{n:Int}{l:List Item}:List.Sublist (C4 n l) l:=by unfold C4;split;exact AP _;exact Dl
def My{l:List Item}{i:Int}(h0:0<=i)(h1:i<l.length):Hh l i∈l:=by unfold Hh;rw[Af h0,AJ,Ak Ab];exact AN _
def KZ{U:Type}{q:U->Bool}{l:List U}:AR q l<l.length∧-1<=AR q l:=by rcases Dh (q:=q) (l:=l) with⟨h1,_⟩|⟨n,hn,h1,_⟩<;>rw[h1]<;>omega
def js{l:List Item}(h:l≠[]):FA l∈l:=by have:0<l.length:=Dy.2 h;exact My Ab Ab
def û(o:EB b)(hn:b.AW≠[]):b.a.has b.Kg.1/\(b.Kg.2≠0->b.a.has b.Kg.2/\(b.a.nd b.Kg.2).FQ=b.Kg.1):=by
 have hl:0<b.AW.length:=Dy.2 hn;have h1:=KZ (q:=Bs [AK]) (l:=b.AW);have h2:=KZ (q:=Bs [Fa]) (l:=b.AW);unfold BS.Kg;simp only
 split;.exact⟨(o.op _ (My Ab Ab)).1,λh=>absurd rfl h⟩
 .split;.exact⟨(o.op _ (My Ab Ab)).1,λh=>absurd rfl h⟩
  .have c:=o.op _ (My (l:=b.AW) (i:=AR (Bs [Fa]) b.AW) Ab Ab);split;.rename_i hp;exact⟨(o.ok.FQ _ c.1 hp).1,λ_=>⟨c.1,rfl⟩⟩
   .exact⟨(o.op _ (My Ab Ab)).1,λh=>absurd rfl h⟩
def Yk(o:EB b)(ht:t=0\/(b.a.has t/\b.AW≠[])):b.a.has (b.place t).1/\((b.place t).2≠0->b.a.has (b.place t).2/\(b.a.nd (b.place t).2).FQ=(b.place t).1):=by
 unfold BS.place;simp only
 split;.exact⟨o.CQ.1,λh=>absurd rfl h⟩
 .rename_i h0;have hn:b.AW≠[]:=by
   rcases ht with h|h
   .intro h2;exact h0 ⟨h,h2⟩
   .exact h.2
  have h1:b.a.has (if t=0 then(FA b.AW).node else t):=by
   split;.exact(o.op _ (js hn)).1
   .rename_i h2;exact(ht.resolve_left h2).1
  generalize(if t=0 then(FA b.AW).node else t)=t' at h1;have h2:b.a.has (if b.EV=true/\SO HL b.a t' then b.Kg else(t',0)).1/\((if b.EV=true/\SO HL b.a t' then b.Kg else(t',0)).2≠0->b.a.has (if b.EV=true/\SO HL b.a t' then b.Kg else(t',0)).2/\(b.a.nd (if b.EV=true/\SO HL b.a t' then b.Kg else(t',0)).2).FQ=(if b.EV=true/\SO HL b.a t' then b.Kg else(t',0)).1):=by
   split;.exact û o hn
   .exact⟨h1,λh=>absurd rfl h⟩
  generalize(if b.EV=true/\SO HL b.a t' then b.Kg else(t',0))=pb at h2;split;.rename_i hc;exact⟨(o.ok.cont _ h2.1 hc).1,λh=>absurd rfl h⟩
  .exact h2
def Qz(o:BA b){p:Int}:b.a.has (b.II p)/\(b.a.nd (b.II p)).kind=1:=by
 unfold BS.II;by_cases hp:b.a.has p
 .have key:∀q,b.a.has q->b.a.has (if(b.a.nd q).CQ≠0 then(b.a.nd q).CQ else b.CQ)/\(b.a.nd (if(b.a.nd q).CQ≠0 then(b.a.nd q).CQ else b.CQ)).kind=1:=by
   intro q hq;split;.exact o.ok.CQ q hq
   .exact o.CQ
  split;.rename_i hc;exact key _ (o.ok.cont p hp hc).1
  .exact key p hp
 .rw[HI hp];exact o.CQ
variable{nm:An}{at_:List A6}{sp p:Int}
structure ux(b b1:BS)(i:Item):Prop where
 has:b1.a.has i.node
 kind:(b1.a.nd i.node).kind=4
 Bc:(b1.a.nd i.node).Bc=i.Bc
 name:(b1.a.nd i.node).name=i.name
 new:¬b.a.has i.node
def P1(o:EB b)(hs:BS.HX sp):EB (b.Es nm at_ sp p)/\ux b (b.Es nm at_ sp p) (b.GB nm at_ sp)/\Le b.a (b.Es nm at_ sp p).a:=by
 have hd:=Qz o.ba (p:=p);unfold BS.Es BS.GB;rw[Af hs,Af hs];have ok:=xZ (sp:=sp) (nm:=BS.IJ sp nm) (l:=at_.map (C5 sp)) o.ok hd hs (by intro a ha;obtain⟨c,_,rfl⟩:=Bm.1 ha;exact fB)
 have hn:=oN (A:=b.a) (d:=b.II p) (sp:=sp) (nm:=BS.IJ sp nm) (l:=at_.map (C5 sp));exact⟨o.KH ok Wc,⟨hn.1,hn.2.1,hn.2.2.1,hn.2.2.2.1,RF⟩,Wc⟩
def uy(o:BA b)(hs:BS.HX sp):BA (b.Es nm at_ sp p):=by
 have hd:=Qz o (p:=p);unfold BS.Es;rw[Af hs];have ok:=xZ (sp:=sp) (nm:=BS.IJ sp nm) (l:=at_.map (C5 sp)) o.ok hd hs (by intro a ha;obtain⟨c,_,rfl⟩:=Bm.1 ha;exact fB)
 have l:Le b.a _:=Wc (A:=b.a) (d:=b.II p) (sp:=sp) (nm:=BS.IJ sp nm) (l:=at_.map (C5 sp));exact⟨ok,by rw[l.kind _ o.CQ.1];exact⟨l.has _ o.CQ.1,o.CQ.2⟩⟩
def NX(o:EB b){b1:BS}{i:Item}(f:ux b b1 i):i.node∉b.AW.map Item.node:=by intro h;obtain⟨j,hj,e⟩:=Bm.1 h;exact f.new (e▸(o.op j hj).1)
def QA(o:EB b){b1:BS}{i:Item}(f:ux b b1 i):i.node∉b.A5.map Cc.node:=by
 intro h;obtain⟨j,hj,e⟩:=Bm.1 h;rcases o.ac j hj with h1|h1
 .have:=f.has.1;omega
 .exact f.new (e▸h1.1)
def jt{U:Type}[DecidableEq U]{l:List U}{k:Nat}{x:U}(h:l.Nodup)(hx:x∉l):(l.take k++x::l.drop k).Nodup:=by
 have e:=CD k l;rw[B3];rw[<-e,B3] at h;refine⟨h.1,B6.2 ⟨λh1=>hx (Bw h1),h.2.1⟩,?_⟩;rintro a ha c hc rfl;rcases AX.1 hc with rfl|hc
 .exact hx (Bn ha)
 .exact h.2.2 _ ha _ hc rfl
def tV{U:Type}[DecidableEq U]{l:List U}{k:Nat}{x:U}(h:l.Nodup)(hx:x∉l):(l.set k x).Nodup:=by
 rw[BQ];split
 .have e:=CD k l;rw[B3];rw[<-e,B3] at h;have hd:List.Sublist (l.drop (k+1)) (l.drop k):=by rw[<-El];exact aPG _ _
  refine⟨h.1,B6.2 ⟨λh1=>hx (Bw h1),h.2.1.sublist hd⟩,?_⟩;rintro a ha c hc rfl;rcases AX.1 hc with rfl|hc
  .exact hx (Bn ha)
  .exact h.2.2 _ ha _ (hd.subset hc) rfl
 .exact h
def bH{U Z:Type}(f:U->Z)(l:List U)(k:Nat)(x:U):(l.take k++x::l.drop k).map f=(l.map f).take k++f x::(l.map f).drop k:=AH
def EB.aCZ(o:EB b){i:Item}{k:Nat}(h1:b.a.has i.node/\(b.a.nd i.node).kind=4/\(b.a.nd i.node).Bc=i.Bc/\(b.a.nd i.node).name=i.name)(h2:i.node∉b.AW.map Item.node):EB {b with AW:=b.AW.take k++i::b.AW.drop k}:=by
 refine⟨o.ok,o.CQ,?_,by show((b.AW.take k++i::b.AW.drop k).map Item.node).Nodup;rw[bH];exact jt o.O_ h2,o.ac,o.jr⟩;intro j hj;rcases Ax.1 hj with hj|hj
 .exact o.op j (Bn hj)
 .rcases AX.1 hj with rfl|hj
  .exact h1
  .exact o.op j (Bw hj)
def EB.tW(o:EB b){i:Item}{k:Nat}(h1:b.a.has i.node/\(b.a.nd i.node).kind=4/\(b.a.nd i.node).Bc=i.Bc/\(b.a.nd i.node).name=i.name)(h2:i.node∉b.AW.map Item.node):EB {b with AW:=b.AW.set k i}:=by
 refine⟨o.ok,o.CQ,?_,by show((b.AW.set k i).map Item.node).Nodup;rw[Ep];exact tV o.O_ h2,o.ac,o.jr⟩;intro j hj;rcases Dd hj with hj|rfl
 .exact o.op j hj
 .exact h1
def uz{l:List Int}{k:Nat}{x:Int}(h:(l.filter λn=>decide (n≠0)).Nodup)(hx:x∉l):((l.take k++x::l.drop k).filter λn=>decide (n≠0)).Nodup:=by
 have e:=CD k l;rw[<-e,DZ,B3] at h;rw[DZ,B3];by_cases h0:x=0;.subst h0;simpa using h
 .rw[aBF (by simpa using h0)];refine⟨h.1,B6.2 ⟨λh1=>hx (Bw ((DM.1 h1).1)),h.2.1⟩,?_⟩;rintro a ha c hc rfl;rcases AX.1 hc with rfl|hc
  .exact hx (Bn (DM.1 ha).1)
  .exact h.2.2 _ ha _ hc rfl
def u_{l:List Int}{k:Nat}{x:Int}(h:(l.filter λn=>decide (n≠0)).Nodup)(hx:x∉l):((l.set k x).filter λn=>decide (n≠0)).Nodup:=by
 rw[BQ];split
 .have h2:(((l.take k++l.drop (k+1))).filter λn=>decide (n≠0)).Nodup:=h.sublist ((show List.Sublist (Bi l k) l from Dl).filter _);rw[DZ,B3] at h2⊢;by_cases h0:x=0;.subst h0;simpa using h2
  .rw[aBF (by simpa using h0)];refine⟨h2.1,B6.2 ⟨λh1=>hx (Bw ((DM.1 h1).1)),h2.2.1⟩,?_⟩;rintro a ha c hc rfl;rcases AX.1 hc with rfl|hc
   .exact hx (Bn (DM.1 ha).1)
   .exact h2.2.2 _ ha _ hc rfl
 .exact h
def EB.aC0(o:EB b){e:Cc}{k:Nat}(h1:e.node=0\/(b.a.has e.node/\(b.a.nd e.node).kind=4))(h2:e.node=0\/e.node∉b.A5.map Cc.node):EB {b with A5:=b.A5.take k++e::b.A5.drop k}:=by
 refine⟨o.ok,o.CQ,o.op,o.O_,?_,?_⟩
 .intro j hj;rcases Ax.1 hj with hj|hj
  .exact o.ac j (Bn hj)
  .rcases AX.1 hj with rfl|hj
   .exact h1
   .exact o.ac j (Bw hj)
 .show(((b.A5.take k++e::b.A5.drop k).map Cc.node).filter _).Nodup;rw[bH];rcases h2 with h2|h2
  .have:=o.jr;conv at this=>rw[<-CD k (b.A5.map Cc.node),DZ]
   rw[DZ,List.filter_cons_of_neg (by simp[h2])];exact this
  .exact uz o.jr h2
def EB.tX(o:EB b){e:Cc}{k:Nat}(h1:b.a.has e.node/\(b.a.nd e.node).kind=4)(h2:e.node∉b.A5.map Cc.node):EB {b with A5:=b.A5.set k e}:=by
 refine⟨o.ok,o.CQ,o.op,o.O_,?_,?_⟩
 .intro j hj;rcases Dd hj with hj|rfl
  .exact o.ac j hj
  .exact .inr h1
 .show(((b.A5.set k e).map Cc.node).filter _).Nodup;rw[Ep];exact u_ o.jr h2
def P2(o:EB b):EB (b.EG nm at_ sp):=by
 unfold BS.EG;split
 .rename_i hs;obtain⟨d,f,hl⟩:=P1 (nm:=nm) (at_:=at_) (p:=(b.place 0).1) o hs;have g:=d.KH (OE (n:=b.a.len+1) (p:=(b.place 0).1) (b:=(b.place 0).2) d.ok) I7;have hn:(b.GB nm at_ sp).node=b.a.len+1:=by unfold BS.GB;rw[Af hs]
  have c:Le (b.Es nm at_ sp (b.place 0).1).a ((b.Es nm at_ sp (b.place 0).1).a.EA (b.a.len+1) (b.place 0).1 (b.place 0).2):=I7;have ho:(b.Es nm at_ sp (b.place 0).1).AW=b.AW:=by unfold BS.Es;rw[Af hs]
  have:=g.aCZ (i:=b.GB nm at_ sp) (k:=b.AW.length) ⟨c.has _ f.has,by rw[c.kind _ f.has];exact f.kind,by rw[c.Bc _ f.has];exact f.Bc,by rw[c.name _ f.has];exact f.name⟩ (by simp only[ho];exact NX o f);simp only[ho,Bx,Er] at this;simp only[ho];exact this
 .exact o
def Yl{l:List Cc}{e:Cc}:∃l',List.Sublist l' l/\oJ e l=l'++[e]:=by
 unfold oJ;split;.exact⟨_,Dl,rfl⟩
 .exact⟨_,AP _,rfl⟩
def ü:Le b.a (b.EG nm at_ sp).a:=by
 unfold BS.EG BS.Es;split;.exact Le.trans Wc I7
 .exact .refl
def oR(hs:BS.HX sp):(b.EG nm at_ sp).a.has (b.a.len+1)/\((b.EG nm at_ sp).a.nd (b.a.len+1)).kind=4:=by
 unfold BS.EG BS.Es;rw[Af hs];simp only
 rw[Af hs];have hn:=oN (A:=b.a) (d:=b.II (b.place 0).1) (sp:=sp) (nm:=BS.IJ sp nm) (l:=at_.map (C5 sp));exact⟨I7.has _ hn.1,by rw[I7.kind _ hn.1];exact hn.2.1⟩
def Ek:(b.EG nm at_ sp).A5=b.A5:=by unfold BS.EG BS.Es;split<;>rfl
def J1:BS.HX 1:=⟨AU,AU⟩
def ý(o:EB b):b.a.len+1∉b.A5.map Cc.node:=by
 intro h;obtain⟨j,hj,e⟩:=Bm.1 h;rcases o.ac j hj with h1|h1
 .unfold Ar.len at e;omega
 .exact RF (e▸h1.1)
def ju(o:EB b):EB (b.Ks nm at_):=by
 have d:=P2 (nm:=nm) (at_:=at_) (sp:=1) o;unfold BS.Ks;simp only
 obtain⟨l',h1,h2⟩:=Yl (l:=(b.EG nm at_ 1).A5) (e:=⟨b.a.len+1,nm,at_⟩);rw[h2];have c:=d.oQ h1;have:=c.aC0 (e:=⟨b.a.len+1,nm,at_⟩) (k:=l'.length) (.inr (oR J1)) (.inr (by intro h;rw[Ek] at h1;exact ý o ((h1.map Cc.node).subset h)))
 simpa using this
def EB.of_eq{c:BS}(o:EB b)(h1:c.a=b.a)(h2:c.CQ=b.CQ)(f:c.AW=b.AW)(d:c.A5=b.A5):EB c:=
 ⟨h1▸o.ok,by rw[h1,h2];exact o.CQ,by rw[h1,f];exact o.op,by rw[f];exact o.O_,by rw[h1,d];exact o.ac,by rw[d];exact o.jr⟩
def tY{l:List Int}{bf t:Int}(h:T0 l bf=some t):t∈l:=by
 unfold T0 at h;split at h;.exact aJy h
 .exact(List.takeWhile_sublist _).subset (aJy h)
def jv{A:Ar}{s:An}{p bf:Int}(ok:EK A 0)(hp:A.has p):EK (BS.LP A s p bf) 0/\Le A (BS.LP A s p bf):=by
 have h0:(0:Int)≠A.len+1:=by unfold Ar.len;omega
 have ha:=OE (n:=A.len+1) (p:=p) (b:=bf) (fA (s:=s) (kd:=5) ok h0 (ok.CQ p hp) (.inl rfl));have hl:Le A ((A.add {kind:=5,CQ:=(A.nd p).CQ,data:=s}).EA (A.len+1) p bf):=Le.trans tS I7;unfold BS.LP;split
 .split
  .rename_i t ht;split;.rename_i hk;exact⟨tT ok (ok.M4 p hp _ (tY ht)).1 (.inl hk),tU⟩
   .exact⟨ha,hl⟩
  .exact⟨ha,hl⟩
 .exact⟨ok,.refl⟩
def yF(o:EB b){r:Int}:EB (b.Nn r):=by have h:=jv (s:=HM r) (bf:=(b.place 0).2) o.ok (Yk o (.inl rfl)).1;exact o.KH h.1 h.2
def SU{A:Ar}{s:An}{p bf:Int}(ok:EK A 0):EK (BS.E3 A s p bf) 0/\Le A (BS.E3 A s p bf):=by
 unfold BS.E3;split
 .rename_i hk;have hp:A.has p:=by
   by_cases hp:A.has p;.exact hp
   .rw[HI hp] at hk;unfold Lx at hk;simp at hk
  have h0:(0:Int)≠A.len+1:=by unfold Ar.len;omega
  exact⟨OE (fA (s:=s) (kd:=6) ok h0 (ok.CQ p hp) (.inr rfl)),Le.trans tS I7⟩
 .exact⟨ok,.refl⟩
def Ym(o:EB b){s:An}{p:Int}:EB (b.Fe s p):=by
 unfold BS.Fe;split;.have h:=SU (s:=s) (p:=(b.place 0).1) (bf:=(b.place 0).2) o.ok;exact o.KH h.1 h.2
 .have h:=SU (s:=s) (p:=p) (bf:=0) o.ok;exact o.KH h.1 h.2
def tZ(o:EB b){st:Int}:EB (b.Fs nm at_ st):=(P2 o).of_eq rfl rfl rfl rfl
def jw(o:EB b):EB b.JV:=by
 unfold BS.JV;split;.exact o.SR (DO.trans DO)
 .exact o
def bI(o:EB b):EB (b.Ds nm):=by
 unfold BS.Ds;split
 .split;.exact o.SR (IK.trans DO)
  .exact o
 .exact o
def SV(o:EB b):EB b.GG:=o.of_eq rfl rfl rfl rfl
def oS(o:EB b){l:List A6}{h:Int}:EB (b.Gf l h):=by
 unfold BS.Gf;split
 .rename_i hk;have d:b.a.has h:=by
   by_cases hp:b.a.has h;.exact hp
   .rw[HI hp] at hk;simp at hk
  refine o.KH (oO o.ok d hk ?_) oP;intro a ha;rcases Ax.1 ha with ha|ha
  .exact(o.ok.SM h d).N_ a ha
  .obtain⟨c,_,rfl⟩:=Bm.1 ha;simp
 .exact o
def Yn(o:EB b):EB b.Cv:=by
 unfold BS.Cv;split;.exact o
 .have a:=(o.SR (DO (p:=Cx) (q:=Bs [AK]) (l:=DA CG Cx b.AW) |>.trans DO)).oQ (l:=Ee b.A5) (CM _ _);exact(SV (b:={b with AW:=DA Cx (Bs [AK]) (DA CG Cx b.AW),A5:=Ee b.A5,tm:=b.tm.dropLast}) (a.of_eq rfl rfl rfl rfl))
def vd(o:EB b):EB b.Lk:=by
 unfold BS.Lk;split;.exact o
 .exact o.SR (CM _ _)
structure aGo(b:BS)(l:List Cc)(r:List Cc×BS):Prop where
 ok:EB r.2
 le:Le b.a r.2.a
 A5:r.2.A5=b.A5
 len:r.1.length=l.length
 nodes:∀e∈r.1,r.2.a.has e.node/\(r.2.a.nd e.node).kind=4/\¬b.a.has e.node
 aAR:(r.1.map Cc.node).Nodup
 aGp:r.1.map Cc.name=l.map Cc.name
def yG:∀{l:List Cc} {b:BS},EB b->aGo b l (BS.Jn l b)
 |[],b,o=>by
  refine⟨o,.refl,rfl,rfl,?_,?_,rfl⟩;.intro e he;cases he
  .exact MK
 |e::l,b,o=>by
  have d:=P2 (nm:=e.name) (at_:=e.Az) (sp:=1) o;have r:=yG (l:=l) d;have hl:Le b.a (b.EG e.name e.Az 1).a:=ü;have hn:=oR (b:=b) (nm:=e.name) (at_:=e.Az) J1;refine⟨r.ok,hl.trans r.le,r.A5.trans Ek,by simp[BS.Jn,r.len],?_,?_,by simp[BS.Jn,r.aGp]⟩
  .intro c hc;rcases AX.1 hc with rfl|hc
   .exact⟨r.le.has _ hn.1,(r.le.kind _ hn.1).trans hn.2,RF⟩
   .have:=r.nodes c hc;exact⟨this.1,this.2.1,λh=>this.2.2 (hl.has _ h)⟩
  .simp only[BS.Jn,Bk,B6];refine⟨λh=>?_,r.aAR⟩;obtain⟨c,hc,f⟩:=Bm.1 h;exact(r.nodes c hc).2.2 (f▸hn.1)
def Yo(o:EB b):EB b.CR:=by
 have r:=yG (l:=b.A5.drop b.Ly) o;unfold BS.CR;simp only
 have hc:=yE r.le o.ac;refine⟨r.ok.ok,r.ok.CQ,r.ok.op,r.ok.O_,?_,?_⟩
 .intro e he;rcases Ax.1 he with he|he
  .exact hc e (Bn he)
  .exact .inr ⟨(r.nodes e he).1,(r.nodes e he).2.1⟩
 .show(((b.A5.take b.Ly++(BS.Jn (b.A5.drop b.Ly) b).1).map Cc.node).filter _).Nodup;rw[BE,DZ,B3];refine⟨o.jr.sublist (((CM _ _).map _).filter _),r.aAR.filter _,?_⟩;rintro a ha c IZ rfl;obtain⟨j,h1,rfl⟩:=Bm.1 (DM.1 ha).1;obtain⟨i,h2,g⟩:=Bm.1 (DM.1 IZ).1;have d:=(r.nodes i h2);rw[g] at d;rcases o.ac j (Bn h1) with f|f
  .have:=d.1.1;omega
  .exact d.2.2 f.1
def Yp(o:EB b){blk anc:Int}{far i:Nat}{l:Int}{m:Nat}(hl:b.a.has l):EB (BS.Fp blk anc far i b l m).1/\(BS.Fp blk anc far i b l m).1.a.has (BS.Fp blk anc far i b l m).2.1/\Le b.a (BS.Fp blk anc far i b l m).1.a:=by
 unfold BS.Fp;simp only
 split;.exact⟨o.SR Dl,hl,.refl⟩
 .split;.exact⟨(o.oQ Dl).SR Dl,hl,.refl⟩
  .generalize KI:b.A5.getD (Fi (b.AW.getD i Item.zero).node b.A5).toNat Cc.zero=en;obtain⟨d,f,Eo⟩:=P1 (nm:=en.name) (at_:=en.Az) (p:=anc) o J1;have c:Le (b.Es en.name en.Az 1 anc).a ((b.Es en.name en.Az 1 anc).a.FX (b.GB en.name en.Az 1).node l 0):=OD;have Oa:(b.Es en.name en.Az 1 anc).AW=b.AW:=by unfold BS.Es;rw[Af J1]
   have QB:(b.Es en.name en.Az 1 anc).A5=b.A5:=by unfold BS.Es;rw[Af J1]
   have q:=d.KH (Qw (p:=(b.GB en.name en.Az 1).node) (n:=l) (b:=0) d.ok) c;have j:=q.tW (i:=b.GB en.name en.Az 1) (k:=i) ⟨c.has _ f.has,by rw[c.kind _ f.has];exact f.kind,by rw[c.Bc _ f.has];exact f.Bc,by rw[c.name _ f.has];exact f.name⟩ (by simp only[Oa];exact NX o f);have g:=j.tX (e:={en with node:=(b.GB en.name en.Az 1).node}) (k:=(Fi (b.AW.getD i Item.zero).node b.A5).toNat) ⟨c.has _ f.has,by rw[c.kind _ f.has];exact f.kind⟩ (by simp only[QB];exact QA o f);exact⟨g,c.has _ f.has,Eo.trans c⟩
def We{blk anc:Int}{far k:Nat}:∀{c:Nat} {s:BS×Int×Nat},EB s.1->s.1.a.has s.2.1->EB (BS.KG blk anc far k c s).1/\(BS.KG blk anc far k c s).1.a.has (BS.KG blk anc far k c s).2.1/\Le s.1.a (BS.KG blk anc far k c s).1.a
 |0,s,o,h=>⟨o,h,.refl⟩
 |c+1,s,o,h=>by obtain⟨f,h1,l1⟩:=Yp (blk:=blk) (anc:=anc) (far:=far) (i:=k+(c+1)) (m:=s.2.2) o h;obtain⟨d,h2,g⟩:=We (blk:=blk) (anc:=anc) (far:=far) (k:=k) (c:=c) f h1;exact⟨d,h2,l1.trans g⟩
def M7{n:Int}:∀{l:List Int} {A:Ar},EK A 0->EK (BS.Cy A n l) 0/\Le A (BS.Cy A n l)
 |[],A,ok=>⟨ok,.refl⟩
 |x::l,A,ok=>by have h:=M7 (n:=n) (l:=l) (Qw (p:=n) (n:=x) (b:=0) ok);exact⟨h.1,Le.trans OD h.2⟩
def jx{fe:Cc}{blk anc:Int}{s:BS×Int×Nat}(o:EB s.1):EB (BS.GJ fe blk anc s)/\Le s.1.a (BS.GJ fe blk anc s).a:=by
 unfold BS.GJ;simp only
 generalize bJ:s.1.place anc=pb;have l1:Le s.1.a (s.1.a.EA s.2.1 pb.1 pb.2):=I7;have d:=o.KH (OE (n:=s.2.1) (p:=pb.1) (b:=pb.2) o.ok) l1;generalize Ob:({s.1 with a:=s.1.a.EA s.2.1 pb.1 pb.2}:BS)=b2 at d;have O8:b2.a=s.1.a.EA s.2.1 pb.1 pb.2:=by rw[<-Ob]
 have Zi:b2.AW=s.1.AW:=by rw[<-Ob]
 have IZ:b2.A5=s.1.A5:=by rw[<-Ob]
 obtain⟨j,f,l3⟩:=P1 (nm:=fe.name) (at_:=fe.Az) (p:=blk) d J1;have Oa:(b2.Es fe.name fe.Az 1 blk).AW=b2.AW:=by unfold BS.Es;rw[Af J1]
 have QB:(b2.Es fe.name fe.Az 1 blk).A5=b2.A5:=by unfold BS.Es;rw[Af J1]
 generalize ni:b2.Es fe.name fe.Az 1 blk=b3 at*;generalize hn:b2.GB fe.name fe.Az 1=n at*;obtain⟨np,l4⟩:=M7 (n:=n.node) (l:=(b3.a.nd blk).Bb) j.ok;have g:=Qw (p:=blk) (n:=n.node) (b:=0) np;have c:Le b3.a ((BS.Cy b3.a n.node (b3.a.nd blk).Bb).FX blk n.node 0):=l4.trans OD;have q:=j.KH g c;have fr:((BS.Cy b3.a n.node (b3.a.nd blk).Bb).FX blk n.node 0).has n.node/\(((BS.Cy b3.a n.node (b3.a.nd blk).Bb).FX blk n.node 0).nd n.node).kind=4/\(((BS.Cy b3.a n.node (b3.a.nd blk).Bb).FX blk n.node 0).nd n.node).Bc=n.Bc/\(((BS.Cy b3.a n.node (b3.a.nd blk).Bb).FX blk n.node 0).nd n.node).name=n.name:=
  ⟨c.has _ f.has,by rw[c.kind _ f.has];exact f.kind,by rw[c.Bc _ f.has];exact f.Bc,by rw[c.name _ f.has];exact f.name⟩
 have m:=(q.oQ (l:=Bi b3.A5 (Fi fe.node b3.A5).toNat) Dl).SR (l:=C4 fe.node b3.AW) LA;have u:n.node∉(C4 fe.node b3.AW).map Item.node:=λh=>NX d f ((LA.map Item.node).subset (by rw[Oa] at h;exact h));have r:n.node∉(Bi b3.A5 (Fi fe.node b3.A5).toNat).map Cc.node:=λh=>QA d f ((Dl.map Cc.node).subset (by rw[QB] at h;exact h));refine⟨(m.aCZ (i:=n) fr u).aC0 (e:={fe with node:=n.node}) (.inr ⟨fr.1,fr.2.1⟩) (.inr r),?_⟩;rw[O8] at l3;exact l1.trans (l3.trans c)
def Yq(o:EB b):EB (b.round nm).2/\Le b.a (b.round nm).2.a:=by
 have d:Le b.a (b.Ds nm).a:=by
  unfold BS.Ds;split;.split<;>exact .refl
  .exact .refl
 unfold BS.round;simp only
 split;.exact⟨bI o,d⟩
 .split;.exact⟨o.oQ Dl,.refl⟩
  .split;.exact⟨o,.refl⟩
   .split;.exact⟨(o.SR IK).oQ Dl,.refl⟩
    .rename_i hf;have aRw:D6 (b.A5.getD (GF nm b.A5).toNat Cc.zero).node b.AW<b.AW.length:=by
      rw[IG];split;.omega
      .unfold E1;split;.rename_i k hk;have:=(EI.1 hk).1;rw[Be] at this;omega
       .omega
     have hb:b.a.has (b.AW.getD (D6 (b.A5.getD (GF nm b.A5).toNat Cc.zero).node b.AW).toNat Item.zero).node:=by rw[AJ,Ak Ab];exact(o.op _ (AN _)).1
     obtain⟨f,h1,l1⟩:=We (blk:=(b.AW.getD (D6 (b.A5.getD (GF nm b.A5).toNat Cc.zero).node b.AW).toNat Item.zero).node) (anc:=(b.AW.getD ((AR (Bz (b.A5.getD (GF nm b.A5).toNat Cc.zero).node) b.AW).toNat-1) Item.zero).node) (far:=(D6 (b.A5.getD (GF nm b.A5).toNat Cc.zero).node b.AW).toNat) (k:=(AR (Bz (b.A5.getD (GF nm b.A5).toNat Cc.zero).node) b.AW).toNat) (c:=(D6 (b.A5.getD (GF nm b.A5).toNat Cc.zero).node b.AW).toNat-1 -(AR (Bz (b.A5.getD (GF nm b.A5).toNat Cc.zero).node) b.AW).toNat) (s:=(b,(b.AW.getD (D6 (b.A5.getD (GF nm b.A5).toNat Cc.zero).node b.AW).toNat Item.zero).node,(GF nm b.A5).toNat)) o hb;have r:=jx (fe:=b.A5.getD (GF nm b.A5).toNat Cc.zero) (blk:=(b.AW.getD (D6 (b.A5.getD (GF nm b.A5).toNat Cc.zero).node b.AW).toNat Item.zero).node) (anc:=(b.AW.getD ((AR (Bz (b.A5.getD (GF nm b.A5).toNat Cc.zero).node) b.AW).toNat-1) Item.zero).node) f;exact⟨r.1,l1.trans r.2⟩
def bK:∀{n:Nat} {b:BS},EB b->EB (BS.Eh n b nm)/\Le b.a (BS.Eh n b nm).a
 |0,b,o=>⟨o,.refl⟩
 |n+1,b,o=>by
  obtain⟨c,l1⟩:=Yq (nm:=nm) o;unfold BS.Eh;simp only
  split;.have r:=bK (n:=n) c;exact⟨r.1,l1.trans r.2⟩
  .exact⟨c,l1⟩
def jy(o:EB b):EB (b.Ik nm):=by
 unfold BS.Ik;split;.exact vd o
 .exact(bK o).1
end
structure Nw(A:Ar):Prop where
 n:A.n.length<=1000000000
 at_:∀x,(A.nd x).Az.length<=1000000000
 data:∀x,(A.nd x).data.length<=1000000000
def DP(l:List A6):Prop:=l.length<=1000/\∀a∈l,a.name.length<=1000/\a.value.length<=1000
structure BZ(b:BS)(m:Nat):Prop where
 n:b.a.n.length+m<=900000000
 at_:∀x,(b.a.nd x).Az.length+m<=1000000000
 data:∀x,(b.a.nd x).data.length+m<=1000000000
 AW:b.AW.length+m<=900000000
 A5:b.A5.length+m<=900000000
 tm:b.tm.length+m<=900000000
 DE:∀e∈b.A5,e.name.length<=1000/\DP e.Az
 Yr:∀i∈b.AW,i.name.length<=1000
def BZ.Zp{b:BS}{m:Nat}(r:BZ b m):Nw b.a:=⟨by have:=r.n;omega,λx=>by have:=r.at_ x;omega,λx=>by have:=r.data x;omega⟩
def BZ.le{b:BS}{m m':Nat}(r:BZ b m)(hm:m'<=m):BZ b m':=⟨by have:=r.n;omega,λx=>by have:=r.at_ x;omega,λx=>by have:=r.data x;omega,by have:=r.AW;omega,by have:=r.A5;omega,by have:=r.tm;omega,r.DE,r.Yr⟩
def bL{sp:Int}{y:A6}:(C5 sp y).value=y.value:=by
 unfold C5;split;.split<;>rfl
 .rfl
structure OF(A A':Ar):Prop where
 n:A'.n.length=A.n.length
 at_:∀x,(A'.nd x).Az=(A.nd x).Az
 data:∀x,(A'.nd x).data=(A.nd x).data
section
variable{A A' A'':Ar}{x p bf:Int}{b:BS}{m:Nat}
def OF.refl:OF A A:=⟨rfl,λ_=>rfl,λ_=>rfl⟩
def OF.trans(h:OF A A')(k:OF A' A''):OF A A'':=⟨k.n.trans h.n,λx=>(k.at_ x).trans (h.at_ x),λx=>(k.data x).trans (h.data x)⟩
def oT{y:EU}(h1:y.Az=(A.nd x).Az)(h2:y.data=(A.nd x).data):OF A (A.set x y):=by
 refine⟨Jw,λk=>?_,λk=>?_⟩<;>rw[JU]<;>split;.rename_i e;rw[h1,e.1]
 .rfl
 .rename_i e;rw[h2,e.1]
 .rfl
def bM{l:List Int}:OF A (A.set x {A.nd x with Bb:=l}):=oT rfl rfl
def bN:OF A (A.set x {A.nd x with FQ:=p}):=oT rfl rfl
def J7:OF A (A.FX p x bf):=by
 unfold Ar.FX;split
 .refine OF.trans ?_ (OF.trans bM bN);unfold Ar.cut;simp only;split;.exact .refl
  .exact OF.trans bM bN
 .exact .refl
def J8:OF A (A.EA x p bf):=by unfold Ar.EA;split;exact .refl;exact J7
def Q8{n:Int}:∀{l:List Int} {A:Ar},OF A (BS.Cy A n l)
 |[],A=> .refl
 |y::l,A=>OF.trans J7 (Q8 (l:=l))
def BZ.same{c:BS}(r:BZ b m)(h:OF b.a c.a)(h1:c.AW.length<=b.AW.length)(h2:c.A5.length<=b.A5.length)(g:c.tm.length<=b.tm.length)(f:∀e∈c.A5,e.name.length<=1000/\DP e.Az)(d:∀i∈c.AW,i.name.length<=1000):BZ c m:=
 ⟨by rw[h.n];exact r.n,λx=>by rw[h.at_];exact r.at_ x,λx=>by rw[h.data];exact r.data x,by have:=r.AW;omega,by have:=r.A5;omega,by have:=r.tm;omega,f,d⟩
def BZ.KH{A':Ar}(r:BZ b m)(h:OF b.a A'):BZ {b with a:=A'} m:=r.same h (Ag _) (Ag _) (Ag _) r.DE r.Yr
def BZ.eq{c:BS}(r:BZ b m)(h1:c.a=b.a)(h2:c.AW=b.AW)(d:c.A5=b.A5)(e:c.tm=b.tm):BZ c m:=⟨by rw[h1];exact r.n,by rw[h1];exact r.at_,by rw[h1];exact r.data,by rw[h2];exact r.AW,by rw[d];exact r.A5,by rw[e];exact r.tm,by rw[d];exact r.DE,by rw[h2];exact r.Yr⟩
structure T1(A A':Ar)(k:Nat):Prop where
 n:A'.n.length<=A.n.length+k
 at_:∀x,(A'.nd x).Az.length<=max (A.nd x).Az.length 1000
 data:∀x,(A'.nd x).data.length<=max (A.nd x).data.length 100000
def NY{y:EU}(h1:y.Az.length<=1000)(h2:y.data.length<=100000):T1 A (A.add y) 1:=by refine⟨by simp[Ar.add],λx=>?_,λx=>?_⟩<;>rw[IH]<;>split<;>omega
def T1.trans{k k':Nat}(h:T1 A A' k)(g:T1 A' A'' k'):T1 A A'' (k+k'):=
 ⟨by have:=h.n;have:=g.n;omega,λx=>by have:=h.at_ x;have:=g.at_ x;omega,λx=>by have:=h.data x;have:=g.data x;omega⟩
def T1.le{k k':Nat}(h:T1 A A' k)(hk:k<=k'):T1 A A' k':=⟨by have:=h.n;omega,h.at_,h.data⟩
def jz(h:OF A A'):T1 A A' 0:=⟨by rw[h.n];exact Ag _,λx=>by rw[h.at_];omega,λx=>by rw[h.data];omega⟩
def uA:T1 A (A.Dk x) 1:=by
 unfold Ar.Dk;split;.exact(jz .refl).le Ab
 .have:=NY (A:=A) (y:={kind:=1,CQ:=A.len+1}) (AZ _) (AZ _);exact⟨this.n,this.at_,this.data⟩
def ve{y:EU}(h1:y.Az.length<=1000)(h2:y.data.length<=100000):T1 A (A.set x y) 0:=by refine⟨by rw[Jw];exact Ag _,λx=>?_,λx=>?_⟩<;>rw[JU]<;>split<;>omega
def j_{d sp:Int}{nm:An}{l:List A6}(hl:l.length<=1000):T1 A (A.elem d sp nm l) 3:=by
 have ho:=Br (Qv (l:=l)) hl;have g1:=NY (A:=A) (y:={kind:=4,CQ:=d,Bc:=sp,name:=nm,Az:=Ct l}) ho (AZ _);unfold Ar.elem;simp only
 split;.have g2:=uA (A:=A.add {kind:=4,CQ:=d,Bc:=sp,name:=nm,Az:=Ct l}) (x:=d);have g3:=NY (A:=(A.add {kind:=4,CQ:=d,Bc:=sp,name:=nm,Az:=Ct l}).Dk d) (y:={kind:=2,En:=A.len+1,CQ:=(A.add {kind:=4,CQ:=d,Bc:=sp,name:=nm,Az:=Ct l}).FB d}) (AZ _) (AZ _);exact g1.trans (k':=2) (g2.trans (k':=1) (g3.trans (k':=0) (ve ho (AZ _))))
 .exact g1.le Ab
def BZ.JL{A':Ar}{k:Nat}(r:BZ b (m+k))(h:T1 b.a A' k):BZ {b with a:=A'} m:=
 ⟨by have:=r.n;have:=h.n;simp only;omega,λx=>by have:=r.at_ x;have:=h.at_ x;have:=r.n;simp only;omega,λx=>by have:=r.data x;have:=h.data x;have:=r.n;simp only;omega,by have:=r.AW;simp only;omega,by have:=r.A5;simp only;omega,by have:=r.tm;simp only;omega,r.DE,r.Yr⟩
def Ys{sp:Int}{nm:An}:(BS.IJ sp nm).length=nm.length:=by
 unfold BS.IJ;split
 .rcases LO nm I3 with h|h
  .rw[h]
  .conv=>rhs;rw[<-h.2,SF]
 .rfl
variable{nm:An}{l:List A6}{sp:Int}
def I8(r:BZ b (m+3))(hl:DP l):BZ (b.Es nm l sp p) m:=by
 unfold BS.Es;split;.exact r.JL (j_ (by rw[Aj];exact hl.1))
 .exact r.le Ab
def NZ(hn:nm.length<=1000):(b.GB nm l sp).name.length<=1000:=by
 unfold BS.GB;split;.show(BS.IJ sp nm).length<=1000;rw[Ys];exact hn
 .exact AZ _
def BZ.aAS{i:Item}{l':List Item}(r:BZ b (m+1))(h1:l'.length<=b.AW.length+1)(h2:∀j∈l',j∈b.AW\/j=i)(hi:i.name.length<=1000):BZ {b with AW:=l'} m:=
 ⟨by have:=r.n;simp only;omega,λx=>by have:=r.at_ x;simp only;omega,λx=>by have:=r.data x;simp only;omega,by have:=r.AW;simp only;omega,by have:=r.A5;simp only;omega,by have:=r.tm;simp only;omega,r.DE,λj hj=>by
  rcases h2 j hj with h|rfl
  .exact r.Yr j h
  .exact hi⟩
def BZ.yH{e:Cc}{l':List Cc}(r:BZ b (m+1))(h1:l'.length<=b.A5.length+1)(h2:∀j∈l',j∈b.A5\/j=e)(hi:e.name.length<=1000/\DP e.Az):BZ {b with A5:=l'} m:=
 ⟨by have:=r.n;simp only;omega,λx=>by have:=r.at_ x;simp only;omega,λx=>by have:=r.data x;simp only;omega,by have:=r.AW;simp only;omega,by have:=r.A5;simp only;omega,by have:=r.tm;simp only;omega,λj hj=>by
  rcases h2 j hj with h|rfl
  .exact r.DE j h
  .exact hi,r.Yr⟩
def JA(r:BZ b (m+4))(hl:DP l)(hn:nm.length<=1000):BZ (b.EG nm l sp) m:=by
 unfold BS.EG;split
 .rename_i hs;have c:=I8 (m:=m+1) (nm:=nm) (sp:=sp) (p:=(b.place 0).1) (r.le Ab) hl;have r2:=c.KH (J8 (x:=b.a.len+1) (p:=(b.place 0).1) (bf:=(b.place 0).2));have ho:(b.Es nm l sp (b.place 0).1).AW=b.AW:=by unfold BS.Es;rw[Af hs]
  refine r2.aAS (i:=b.GB nm l sp) (by simp only[Av,A9];exact Ag _) (λj hj=>?_) (NZ hn);rcases Ax.1 hj with h|h
  .exact .inl h
  .exact .inr (by simpa using h)
 .exact r.le Ab
def oU(r:BZ b (m+5))(hl:DP l)(hn:nm.length<=1000):BZ (b.Ks nm l) m:=by
 have c:=JA (m:=m+1) (sp:=1) (nm:=nm) (r.le Ab) hl hn;unfold BS.Ks;simp only
 obtain⟨l',h1,h2⟩:=Yl (l:=(b.EG nm l 1).A5) (e:=⟨b.a.len+1,nm,l⟩);rw[h2];refine c.yH (e:=⟨b.a.len+1,nm,l⟩) (by have:=h1.length_le;simp;omega) (λj hj=>?_) ⟨hn,hl⟩;rcases Ax.1 hj with h|h
 .exact .inl (h1.subset h)
 .exact .inr (by simpa using h)
end
end Go.Am
end
