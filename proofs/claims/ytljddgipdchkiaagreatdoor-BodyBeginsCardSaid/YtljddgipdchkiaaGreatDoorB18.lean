/- Lemmas -/
import Derived.Test.YtljddgipdchkiaaGreatDoorB17
set_option linter.all false
noncomputable section
set_option maxRecDepth 100000
section
namespace Go.Am
open Go
section
section
variable{U:Type}{z:Nat}
def FO{AD:List (List U)}(h:∀r∈AD,r.length=z):AD.flatten.length=AD.length*z:=by
 induction AD with
 |nil=>simp
 |cons q AD ih=>rw[CT,Aw,h q AH,ih λr hr=>h r (by simp[hr]),A9,BG];omega
def aD{AD:List (List U)}(h:∀r∈AD,r.length=z):∀{k:Nat},AD.flatten.take (k*z)=(AD.take k).flatten:=by
 induction AD with
 |nil=>intro k;simp
 |cons q AD ih=>
  intro k;have hq:=h q AH;cases k with
  |zero=>simp
  |succ k=>rw[CT,BG,D4,O1,uP,AG Ab,hq,S7,ih λr hr=>h r (by simp[hr])];simp
def IY{AD:List (List U)}(h:∀r∈AD,r.length=z):∀{k:Nat},AD.flatten.drop (k*z)=(AD.drop k).flatten:=by
 induction AD with
 |nil=>intro k;simp
 |cons q AD ih=>
  intro k;have hq:=h q AH;cases k with
  |zero=>simp
  |succ k=>rw[CT,BG,D4,O1,S4,AO Ab,hq,S7,ih λr hr=>h r (by simp[hr])];simp
def mH{AD:List (List U)}(h:∀r∈AD,r.length=z){k:Nat}(hk:k<AD.length)(q:List U):AD.flatten.take (k*z)++q++AD.flatten.drop (k*z+z)=(AD.set k q).flatten:=by
 have e:k*z+z=(k+1)*z:=by rw[BG,D4]
 rw[e,aD h,IY h,BY,Ae hk];simp
def aE{AD:List (List Aa)}(h:∀r∈AD,r.length=z):∀{n off:Nat},off+n<=AD.length->CA AD.flatten z (off*z) n=(AD.drop off).take n:=by
 intro n;induction n with
 |zero=>intro off _;simp[CA]
 |succ n ih=>
  intro off hl;rw[CA];have e:off*z+z=(off+1)*z:=by rw[BG,D4]
  rw[e,ih Ab,IY h];have hlt:off<AD.length:=Ab;rw[AF hlt,CT,CI (by rw[h _ (AL hlt)];exact Ag _),AG (by rw[h _ (AL hlt)];exact Ag _),Zv]
def px{AD:List (List Aa)}(h:∀r∈AD,r.length=z):CA AD.flatten z 0 AD.length=AD:=by have:=aE h (n:=AD.length) (off:=0) Ab;simpa using this
end
section
variable{h:Ah}{id z n:Nat}{AD:List (List Aa)}
def J0(hr:∀r∈AD,r.length=z)(hc:h[id]?=some (.cells AD.flatten)):Kw h (.CE id 0 AD.length z)=some (h.set id .CO,.sl z AD):=by unfold Kw;simp only[hc,BU];rw[Ae (by rw[FO hr];exact Ag _),px hr]
def EX{k:IntKind}{i:Nat}(hi:i<n):AE (.E2 z) [.CE id 0 n z,.int k (i:Int)]=some (.ptr (some (id,i*z))):=by
 have:L8 (i:Int) n=some i:=by unfold L8;rw[Ae Ab];rfl
 simp[AE,elemOf,this]
def Uy(hr:∀r∈AD,r.length=z)(hc:h[id]?=some (.cells AD.flatten)){i:Nat}(hi:i<AD.length){q:List Aa}(hq:q.length=z):Cx h z (.ptr (some (id,i*z))) (.agg q)=some (h.set id (.cells (AD.set i q).flatten)):=by
 simp only[Cx,hc,Qg];have:i*z+z<=AD.flatten.length:=by rw[FO hr];have:=DT z (Ab:i+1<=AD.length);rwa [BG,D4] at this
 rw[<-mH hr hi];exact Ae ⟨hq,this⟩
def mI(hr:∀r∈AD,r.length=z){i:Nat}{q:List Aa}(hq:q.length=z):∀r∈AD.set i q,r.length=z:=by
 intro r h;rcases C8 h with h|rfl
 .exact hr r h
 .exact hq
def Ml{U:Type}{f:U->List Aa}(hf:∀a,(f a).length=z)(l:List U):∀r∈l.map f,r.length=z:=by intro r h;obtain⟨a,_,rfl⟩:=Bj.1 h;exact hf a
def Lj{s v:Aa}{b:Nat}(hs:s= .slnil\/s= .sl z [])(hv:AU z AD v)(hne:AD≠[])(hb:AD.length*b<=AM):KF h z b s v=some (h++[.cells AD.flatten],.CE h.length 0 AD.length z):=by
 rcases hv with rfl|⟨rfl,hv⟩
 .cases AD with
  |nil=>exact absurd rfl hne
  |cons r AD=>rw[A9] at hb;rcases hs with rfl|rfl<;>simp[KF,O8,hb]
 .exact absurd hv hne
def Pz{s v:Aa}{b:Nat}(hs:s= .slnil\/s= .sl z [])(hv:AU z [] v):KF h z b s v=some (h,s):=by rcases hv with rfl|⟨rfl,hv⟩<;>rcases hs with rfl|rfl<;>simp[KF,O8]
def rI{v:Aa}{b:Nat}(hv:AU z [] v):F8 h z b (.CE id 0 n z) v=some (h,.CE id 0 n z):=by rcases hv with rfl|⟨rfl,hv⟩<;>simp[F8,GY]
def JM{v:Aa}{b:Nat}{r2:List (List Aa)}(hr:∀r∈AD,r.length=z)(hz:0<z)(hc:h[id]?=some (.cells AD.flatten))(hv:AU z r2 v)(hne:r2≠[])(hb:(AD.length+r2.length)*b<=AM):
  F8 h z b (.CE id 0 AD.length z) v=some (h.set id .CO++[.cells (AD++r2).flatten],.CE h.length 0 (AD.length+r2.length) z):=by
 rcases hv with rfl|⟨rfl,hv⟩
 .cases r2 with
  |nil=>exact absurd rfl hne
  |cons r r2=>
   have hl:=FO hr;have h1:¬(0+(AD.length+(r::r2).length)*z<=AD.flatten.length):=by rw[hl,A9,BU,BG,BG];omega
   have h2:AD.flatten.take (AD.length*z)=AD.flatten:=AG (by rw[hl];exact Ag _);unfold F8;simp only[GY,BL,hc];rw[Ac h1,Ae ⟨trivial,by rw[hl];exact Ag _,hb⟩,h2,KR]
 .exact absurd hv hne
end
end
section
section
end
def Gs:List Ao:=[[100,100],[100,116],[108,105],aTh,aTr,[112],[114,98],[114,112],[114,116],[114,116,99]]
def J1:List Ao:=[aS2,aTi,aTw,[116,100],aTt,[116,104],aTx,[116,114]]
def KL:List Ao:=[[109,105],[109,110],[109,111],[109,115],[109,116,101,120,116]]
def Qi:List Ao:=[aTJ,aS4,aTu]
section
end
def Er(k:Int)(s:Ao):Bool:=
 if k=3 then decide (s=aSG\/s∈KL) else if k=2 then decide (s∈Qi) else if k=1 then decide (s∈NC) else false
def sw(s:Ao)(t e:IT):List Ao->IT
 |[]=>e
 |c::cs=> .op (.str .eql) [.str s,.str c] λv=> .Gc v t (sw s t e cs)
def py{C:FW}{Q:Hb}{h:Ah}{s:Ao}{t e:IT}:∀{cs:List Ao},W C (sw s t e cs) Q h↔(s∈cs->W C t Q h)/\(s∉cs->W C e Q h)
 |[]=>by simp[sw]
 |c::cs=>by
  simp only[sw,Xm,wD,Mi,NB,Xn,AT,Nh];rw[py];by_cases hc:s=c;.simp[hc]
  .simp[hc]
def Lk{C:FW}{f:FuncId}{args:List Aa}{r:Aa}:Jj C f args r↔W C (Ca C f args) (λx vs _=>x= .ret/\vs=[r]) []:=by
 unfold Jj Ev;constructor;.exact λh=>W.mono h λ_ _ _ ⟨h1,r,h2,a⟩=>⟨h1,by rw[h2,a]⟩
 .exact λh=>W.mono h λ_ _ _ ⟨h1,h2⟩=>⟨h1,r,h2,rfl⟩
section
variable{Q:Hb}{h:Ah}{k:Aa->IT}{s:Ao}
end
section
variable{Q:Hb}{h:Ah}{k:Aa->IT}{s:Ao}{n:Int}
end
end
section
def QR{cur:Ao}:Dg cur []=[cur]:=by unfold Dg;rfl
def PC{cur r:Ao}{c:UInt8}:Dg cur (c::r)=if c=32 then cur::Dg [] r else Dg (cur++[c]) r:=by rw[Dg]
def FY(l s:Ao):Bool:=decide (s≠[]/\(32:UInt8)∉s/\s∈Dg [] l)
def Xz{s:Ao}{a n:Nat}(ha:a<=n)(hn:n<s.length):(s.take (n+1)).drop a=(s.take n).drop a++[s[n]]:=by rw[AB hn,Jg Ee]
end
section
def D7{l:Ao}{ws:List Ao}{s:Ao}(h1:Dg [] l=ws)(h2:ws.all (λw=> !w.isEmpty&& !w.contains 32)=true):FY l s=decide (s∈ws):=by
 unfold FY;rw[h1,C5];refine⟨λh=>h.2.2,λh=>⟨?_,?_,h⟩⟩;.have:=Dv.1 h2 s h;rintro rfl;simp at this
 .have:=Dv.1 h2 s h;intro a;simp[a] at this
section
variable{Q:Hb}{h:Ah}{k:Aa->IT}{s:Ao}
def rJ:FY aSx s=decide (s∈NC):=D7 EF EF
def cX:FY aS7 s=decide (s∈KL):=D7 EF EF
def mJ:FY aSK s=decide (s∈Qi):=D7 EF EF
def rK:FY aSE s=decide (s∈Gs):=D7 EF EF
def mK:FY aSF s=decide (s∈J1):=D7 EF EF
def IZ:List Ao:=Dg [] aSy
def H7:List Ao:=Dg [] aSw
def Oh:List Ao:=[aSC,aSR,aSz]
def dx:FY aS3 s=decide (s∈Oh):=D7 EF EF
def Mm:List Ao:=[aTh,aTr]
def rL:FY aSU s=decide (s∈Mm):=D7 EF EF
def Ro:List Ao:=[[111,108],[117,108]]
def pz:FY aTL s=decide (s∈Ro):=D7 EF EF
def Qj:List Ao:=[aTG,aS2,aSC,aTD,aTH,aSR,[116,100],aSz,[116,104]]
def dy:FY aSD s=decide (s∈Qj):=D7 EF EF
end
section
variable{Q:Hb}{h:Ah}{k:Aa->IT}{s:Ao}{n:Int}
end
end
section
def I0(c:UInt8):UInt8:=if 65<=c.toNat/\c.toNat<=90 then c+32 else c
def DR(s:Ao):Ao:=s.map I0
def Sn{c:UInt8}(h:65<=c.toNat/\c.toNat<=90):((I0 c).toNat:Int)=(c.toNat:Int)+32:=by unfold I0;rw[Ae h,UInt8.toNat_add];have:UInt8.toNat 32=32:=AX;rw[this];omega
def Oi{c:UInt8}(h:¬(65<=c.toNat/\c.toNat<=90)):I0 c=c:=by unfold I0;rw[Ac h]
def Rp{s:Ao}{n:Nat}(hn:n<s.length):DR (s.take (n+1))=DR (s.take n)++[I0 s[n]]:=by rw[AB hn];unfold DR;rw[BF];rfl
def OL(b:UInt8):Aa:= .int .u8 (b.toNat:Int)
def HH(s:Ao)(n:Nat):Ao:=DR (s.take n)++s.drop n
def XA(s:Ao)(n:Nat):(HH s n).length=s.length:=by simp[HH,DR];omega
def XB{s:Ao}{n:Nat}(hn:n<s.length):(HH s n)[n]?=some s[n]:=by unfold HH DR;rw[Bl Ee];simp only[Ak,As,Cp (MG hn),C6];rw[AF hn];rfl
def So{s:Ao}{n:Nat}(hn:n<s.length):HH s (n+1)=(HH s n).set n (I0 s[n]):=by
 unfold HH;rw[Rp hn,BM _ _ (by simp[DR];omega)];have e:n-(DR (s.take n)).length=0:=by simp[DR];omega
 rw[e,AF hn,P1,AI];rfl
def mL(s:Ao):HH s s.length=DR s:=by simp[HH,DR]
def p_{U:Type}{l:List U}{i:Nat}{v:U}(h:l[i]?=some v):l.set i v=l:=by
 apply Q3;intro j;rw[aOk];split
 .rename_i e;subst e;split;.exact h.symm
  .rename_i hl;rw[D9 Ab]
 .rfl
def rM{cs:List Aa}{i:Nat}{v:Aa}(h:cs[i]?=some v):Bd [.cells cs] none (.ptr (some (0,i)))=some v:=by simpa[Bd] using h
def Zi{U:Type}{l:List U}{i:Nat}{v:U}(h:i<l.length):l.take i++v::l.drop (i+1)=l.set i v:=by rw[BY,Ae h]
def mM{cs:List Aa}{i:Nat}{v:Aa}(h:i<cs.length)(hv:v.cells=[v]):Cx [.cells cs] 1 (.ptr (some (0,i))) v=some [.cells (cs.set i v)]:=by simp only[Cx,hv,IK,Bi];rw[Ae ⟨trivial,Ab⟩,<-Zi h];simp
def PD(s:Ao):∀(n o:Nat),o+n=s.length->CA (s.map OL) 1 o n=Cd (s.drop o)
 |0,o,h=>by rw[AO Ab];rfl
 |n+1,o,h=>by
  have ho:o<s.length:=Ab;have e:(s.map OL).drop o=OL s[o]::(s.map OL).drop (o+1):=by rw[AF (by simpa using ho)];simp
  rw[CA,PD s n (o+1) Ab,AF ho,e];rfl
end
section
def Co(name:Ao):List Ao->Ao
 |[]=>name
 |w::ws=>if DR w=name then w else Co name ws
def BZ(w:Ao):List Aa:=[.str w]
def L5:Ao:=aSy
def ND:Ao:=aSw
def XC:Dg [] L5=IZ:=EF
def XD:Dg [] ND=H7:=EF
end
section
structure A3 where
 A7:Int
 name:Ao
 value:Ao
 deriving DecidableEq
def A3.row(a:A3):List Aa:=[.int .i64 a.A7,.str a.name,.str a.value]
structure Item where
 node:Int
 A7:Int
 name:Ao
 OM:Bool
 deriving DecidableEq
def Item.row(a:Item):List Aa:=[.int .i64 a.node,.int .i64 a.A7,.str a.name,.bool a.OM]
def HI(ns:List Ao)(v:Aa):Prop:=AU 1 (ns.map BZ) v
def Br(l:List A3)(v:Aa):Prop:=AU 3 (l.map A3.row) v
def B1(l:List Item)(v:Aa):Prop:=AU 4 (l.map Item.row) v
def wF(l:List A3):Prop:=l.length<=12/\∀x∈l,x.name.length<=60/\x.value.length<=200
instance(l:List A3):Decidable (wF l):=by unfold wF;infer_instance
def qa(l:List Ao):Prop:=l.length<=12/\∀x∈l,x.length<=60
instance(l:List Ao):Decidable (qa l):=by unfold qa;infer_instance
def wG(l:List Item):Prop:=l.length<=60/\∀x∈l,x.name.length<=60
instance(l:List Item):Decidable (wG l):=by unfold wG;infer_instance
end
section
def B8{U:Type}(p:U->Bool)(n:Nat):List U->Int
 |[]=> -1
 |a::l=>if p a then(n:Int) else B8 p (n+1) l
def GQ{U:Type}{p:U->Bool}:∀{l:List U} {k:Nat},(B8 p k l= -1/\l.find? p=none)\/∃(n:Nat) (a:U),B8 p k l=((k+n:Nat):Int)/\l[n]?=some a/\l.find? p=some a
 |[],k=> .inl ⟨rfl,rfl⟩
 |a::l,k=>by
  unfold B8;by_cases h:p a=true;.exact .inr ⟨0,a,by rw[Ae h];rfl,rfl,by simp[h]⟩
  .rw[Ac h];rcases GQ (p:=p) (l:=l) (k:=k+1) with⟨h1,h2⟩|⟨n,b,h1,h2,c⟩
   .exact .inl ⟨h1,by simp[h,h2]⟩
   .exact .inr ⟨n+1,b,by rw[h1];congr 1;omega,by simpa using h2,by simp[h,c]⟩
def ON(a:A3):Bool:=decide (a.A7=0/\a.name=aTC)
def Uz{s:Ao}(h:s.all (λc=> !(65<=c.toNat&&c.toNat<=90))=true):DR s=s:=by
 unfold DR;conv=>rhs;rw[<-List.map_id s]
 apply Zy;intro c hc;have:=Dv.1 h c hc;refine Oi λh2=>?_;simp[h2.1,h2.2] at this
abbrev aEO:Ao:=aSG
abbrev wH:Ao:=aTA
abbrev cY:Ao:=aSV
def Fl(n:Int)(s:Ao)(l:List A3):Bool:=
 if n=2 then Er 2 s else if n≠3 then false else if s≠aEO then false else match l.find? ON with
  |none=>false
  |some a=>decide (DR a.value=wH\/DR a.value=cY)
end
section
section
variable{U:Type}{f:U->List Aa}{l l2:List U}{v v2:Aa}{z b:Nat}{k k2:IntKind}
def AU.CL(hv:AU z (l.map f) v):AE (.len false) [v]=some (.int .i64 (l.length:Int)):=by have:=AU.len hv;rwa [Ak] at this
def AU.BJ(hv:AU z (l.map f) v){n:Nat}(hn:n<l.length):AE (.E2 z) [v,.int k (n:Int)]=some (.CG (f l[n])):=by have:=AU.E2 hv (k:=k) (n:=n) (by simpa using hn);simpa using this
def AU.Mn(hv:AU z (l.map f) v){n:Nat}(hn:n<=l.length):∃u,AE (.KA z false false true) [v,.int k (n:Int)]=some u/\AU z ((l.take n).map f) u:=by
 rcases hv with rfl|⟨rfl,h⟩
 .have a:E3 (n:Int) (l.map f).length=some n:=by unfold E3;rw[Ak,Ae Ab];rfl
  refine⟨.sl z ((l.map f).take n),?_,.inl (by rw[Fs])⟩;simp only[AE,JB,DX,a,B9,oU,BL,Mx]
 .have:l=[]:=by simpa using h
  subst this;have:n=0:=by simpa using hn
  subst this;exact⟨.slnil,rfl,.inr ⟨rfl,rfl⟩⟩
def AU.Sp(hv:AU z (l.map f) v){n:Nat}(hn:n<=l.length):∃u,AE (.KA z false true false) [v,.int k (n:Int)]=some u/\AU z ((l.drop n).map f) u:=by
 rcases hv with rfl|⟨rfl,h⟩
 .have a:E3 (n:Int) (l.map f).length=some n:=by unfold E3;rw[Ak,Ae Ab];rfl
  refine⟨.sl z ((l.map f).drop n),?_,.inl (by rw[JG])⟩;simp only[AE,JB,DX,a,B9,oU,BL,Bv]
 .have:l=[]:=by simpa using h
  subst this;have:n=0:=by simpa using hn
  subst this;exact⟨.slnil,rfl,.inr ⟨rfl,rfl⟩⟩
def AU.cZ(hv:AU z (l.map f) v)(WN:AU z (l2.map f) v2)(hb:(l.length+l2.length)*b<=AM):∃u,AE (.append z b) [v,v2]=some u/\AU z ((l++l2).map f) u:=by obtain⟨u,e,hu⟩:=AU.IA hv WN (b:=b) (by simpa using hb);exact⟨u,e,by rwa [BF]⟩
def AU.Gt(WN:AU z (l2.map f) v2)(hb:l2.length*b<=AM):∃u,AE (.append z b) [.slnil,v2]=some u/\AU z (l2.map f) u:=by obtain⟨u,e,hu⟩:=AU.IA (v:= .slnil) (r:=[]) .nil WN (b:=b) (by simpa using hb);exact⟨u,e,by simpa using hu⟩
def AU.Ki{a:U}(hv:AU z (l.map f) v)(hb:(l.length+1)*b<=AM):AE (.append z b) [v,.sl z [f a]]=some (.sl z ((l++[a]).map f)):=by rw[AU.pq hv (by simpa using hb)];simp
end
def C3{a b:Int}(h1: -9223372036854775808<=a-b)(h2:a-b<9223372036854775808):AE (.int .sub) [.int .i64 a,.int .i64 b]=some (.int .i64 (a-b)):=by rw[rH,wrap_i64 h1 h2]
def Oj{a b:Int}(h1: -9223372036854775808<=a+b)(h2:a+b<9223372036854775808):AE (.int .add) [.int .i64 a,.int .i64 b]=some (.int .i64 (a+b)):=by rw[cR,wrap_i64 h1 h2]
def Item.zero:Item:=⟨0,0,[],false⟩
def Item.CK{a:Item}:a.row.length=4:=rfl
def Item.g0{a:Item}{d:Aa}:a.row.getD 0 d= .int .i64 a.node:=rfl
def Item.g1{a:Item}{d:Aa}:a.row.getD 1 d= .int .i64 a.A7:=rfl
def Item.g2{a:Item}{d:Aa}:a.row.getD 2 d= .str a.name:=rfl
def Item.g3{a:Item}{d:Aa}:a.row.getD 3 d= .bool a.OM:=rfl
def Item.at0{a:Item}:a.row[0]?=some (.int .i64 a.node):=rfl
def Item.HU{a:Item}:a.row.take 4=a.row:=rfl
def Item.wI{a:Item}:a.row.drop 1=[.int .i64 a.A7,.str a.name,.bool a.OM]:=rfl
def Item.aEP{a:Item}:a.row.drop 2=[.str a.name,.bool a.OM]:=rfl
def Item.aEQ{a:Item}:a.row.drop 3=[.bool a.OM]:=rfl
def Item.PE{a:Item}:[Aa.int .i64 a.node,.int .i64 a.A7,.str a.name,.bool a.OM]=a.row:=rfl
def Item.fill{a:Item}:AP [.int .i64 0,.int .i64 0,.str [],.bool false] ([(0,1),(1,1),(2,1),(3,1)].zip a.row)=some a.row:=rfl
def Fa:=ai @Item.fill (ai @Item.CK (ai @Item.g0 (ai @Item.g1 (ai @Item.g2 (ai @Item.g3 (ai @Item.at0 (ai @Item.HU (ai @Item.wI (ai @Item.aEP (ai @Item.aEQ (ai @Item.PE (ai @Cc (@BE.{0})))))))))))))
def Hv(l:List Item)(i:Int):Item:=if 0<=i then l.getD i.toNat Item.zero else Item.zero
def Fx(l:List Item):Item:=Hv l ((l.length:Int)-1)
def AR{U:Type}(q:U->Bool)(l:List U):Int:=match l.reverse.findIdx? q with
 |some k=>(l.length:Int)-1 -k
 |none=> -1
def J2{U:Type}{q:U->Bool}:AR q []= -1:=rfl
def I1{U:Type}{q:U->Bool}{l:List U}{a:U}:AR q (l++[a])=if q a then(l.length:Int) else AR q l:=by
 unfold AR;rw[Iq,Jo,JR,aMW];by_cases h:q a=true;.simp only[h,BL,Aw,Bi];omega
 .simp only[h,Ea,Cy,Aw,Bi];cases List.findIdx? q l.reverse with
  |none=>rfl
  |some k=>simp only[B9];omega
def GR{U:Type}{q:U->Bool}{l:List U}{n:Nat}(hn:n<l.length):AR q (l.take (n+1))=if q l[n] then(n:Int) else AR q (l.take n):=by rw[AB hn,I1,As,Cp (MG hn)]
def Dc{U:Type}{q:U->Bool}{l:List U}:(AR q l= -1/\∀a∈l,q a=false)\/∃(n:Nat) (hn:n<l.length),AR q l=(n:Int)/\q l[n]=true/\∀m (hm:m<l.length),n<m->q l[m]=false:=by
 have key:∀r:List U,(AR q r.reverse= -1/\∀a∈r.reverse,q a=false)\/∃(n:Nat) (hn:n<r.reverse.length),AR q r.reverse=(n:Int)/\q r.reverse[n]=true/\∀m (hm:m<r.reverse.length),n<m->q r.reverse[m]=false:=by
  intro r;induction r with
  |nil=>exact .inl ⟨rfl,AH⟩
  |cons a r ih=>
   rw[EE,I1];by_cases h:q a=true;.refine .inr ⟨r.reverse.length,AH,by rw[Ae h],by simp[h],λm hm hlt=>?_⟩;simp at hm hlt;omega
   .rw[Ac h];rcases ih with⟨h1,h2⟩|⟨n,hn,h1,h2,c⟩
    .exact .inl ⟨h1,λb hb=>by
      rcases Ax.1 hb with hb|hb
      .exact h2 b hb
      .simp at hb;subst hb;simpa using h⟩
    .refine .inr ⟨n,by simp at hn⊢;omega,h1,by rw[Gf hn];exact h2,λm hm hlt=>?_⟩;by_cases UX:m<r.reverse.length;.rw[Gf UX];exact c m UX hlt
     .have:m=r.reverse.length:=by simp at hm UX⊢;omega
      subst this;simpa using h
 have:=key l.reverse;rwa [Fj] at this
def At(h:Ah)(id o:Nat)(v:Aa):Prop:=∃cs,h[id]?=some (.cells cs)/\cs[o]?=some v
def put(h:Ah)(id o:Nat)(u:Aa):Ah:=match h[id]? with
 |some (.cells cs)=>h.set id (.cells (cs.set o u))
 |_=>h
section
variable{h t:Ah}{id o:Nat}{u v w:Aa}
def If{cs:List Aa}(hc:h[id]?=some (.cells cs)):put h id o u=h.set id (.cells (cs.set o u)):=by unfold put;rw[hc]
def JD:(put h id o u).length=h.length:=by unfold put;split<;>simp
def At.lt(ha:At h id o v):id<h.length:=by obtain⟨cs,hc,_⟩:=ha;exact(Al.1 hc).1
def At.load(ha:At h id o v):Bd h none (.ptr (some (id,o)))=some v:=by obtain⟨cs,hc,e⟩:=ha;simp only[Bd,hc,E7,e]
def At.store(ha:At h id o v)(hu:u.cells=[u]):Cx h 1 (.ptr (some (id,o))) u=some (put h id o u):=by
 obtain⟨cs,hc,e⟩:=ha;have hl:=(Al.1 e).1;rw[If hc];simp only[Cx,hc,hu,Bi,MD];have a:cs.set o u=cs.take o++[u]++cs.drop (o+1):=by rw[BY,Ae hl];simp
 rw[Ae (Ab:o+1<=cs.length),a]
def At.put(ha:At h id o v):At (put h id o u) id o u:=by obtain⟨cs,hc,e⟩:=ha;have hl:=(Al.1 e).1;have hi:=(Al.1 hc).1;rw[If hc];exact⟨cs.set o u,by simp[hi],by simp[hl]⟩
def At.same(ha:At h id o v):Am.put h id o v=h:=by obtain⟨cs,hc,e⟩:=ha;obtain⟨hl,e⟩:=Al.1 e;obtain⟨hi,a⟩:=Al.1 hc;rw[If hc,<-e,JS,<-a,JS]
def dB:Am.put (Am.put h id o u) id o w=Am.put h id o w:=by
 cases hc:h[id]? with
 |none=>
  have e:∀u,Am.put h id o u=h:=λu=>by unfold Am.put;rw[hc]
  rw[e,e]
 |some x=>cases x with
  |cells cs=>have hi:=(Al.1 hc).1;rw[If hc,If hc,If (cs:=cs.set o u) (by simp[hi])];simp
  |_=>
   have e:∀u,Am.put h id o u=h:=λu=>by unfold Am.put;rw[hc]
   rw[e,e]
def At.IA(ha:At h id o v):At (h++t) id o v:=by obtain⟨cs,hc,e⟩:=ha;exact⟨cs,by rw[Aj (Al.1 hc).1];exact hc,e⟩
def dD(ha:At h id o v):Am.put (h++t) id o u=Am.put h id o u++t:=by have hi:=ha.lt;obtain⟨cs,hc,e⟩:=ha;rw[If hc,If (by rw[Aj hi];exact hc),List.set_append_left _ _ hi]
def Ck{i:Nat}(hn:i≠id):(Am.put h id o u)[i]?=h[i]?:=by
 unfold Am.put;split;.rw[Ap (DG hn)]
 .rfl
end
def jm(h:Ah)(p:Aa)(l:List Item):Prop:=(p= .ptr none/\l=[])\/∃id o v,p= .ptr (some (id,o))/\At h id o v/\B1 l v
def H8{l:List Item}{n:Nat}(hn:n<l.length):Hv l (n:Int)=l[n]:=by have:(0:Int)<=(n:Int):=Ab;simp[Hv,this,hn]
def Ok{l:List Item}{i:Int}(h:i<0\/(l.length:Int)<=i):Hv l i=Item.zero:=by
 unfold Hv;rcases h with h|h
 .rw[Ac Ab]
 .rw[Ae Ab,AJ,D9 Ab];rfl
section
variable{h:Ah}{p:Aa}{l:List Item}
def zn{s:Ao}{ws:List Ao}:decide (0<=B8 (λw=>decide (s=w)) 0 ws)=decide (s∈ws):=by
 rcases GQ (p:=λw=>decide (s=w)) (l:=ws) (k:=0) with⟨h1,h2⟩|⟨n,a,h1,h2,c⟩
 .rw[h1,C5];have:=Jp.1 h2;exact⟨λh=>Ab,λh=>absurd (show s=s from rfl) (by simpa using this s h)⟩
 .rw[h1,C5];have e:s=a:=by simpa using UL c
  have:a∈ws:=CC h2;refine⟨λ_=>e▸this,λ_=>Ab⟩
def By(ws:List Ao)(a:Item):Bool:=decide (a.A7=1/\a.name∈ws)
def C0{ws:List Ao}:HI ws (.sl 1 (ws.map BZ)):= .mk
def JN(n:Int)(a:Item):Bool:=
 if n=4 then By Oh a else if n=5 then !By Mm a else if a.A7=3\/a.A7=2 then Er a.A7 a.name
 else By Qj a||(decide (n=2)&&By Ro a)||(decide (n=3)&&By [aSW] a)
def DF{ws:List Ao}{args:List Aa}(e:args=ws.map Aa.str)(h:ws.length<=16777216):AE (.Dh 1) args=some (.sl 1 (ws.map BZ)):=by
 subst e;have g:(ws.map Aa.str).all (λa=>a.cells.length==1)=true:=AH;have c:(ws.map Aa.str).map (·.cells)=ws.map BZ:=by simp[BZ]
 rw[wE,g,c];simp[h]
def rN:AE (.Dh 1) [S aSC,S aSR,S aSz]=some (.sl 1 (Oh.map BZ)):=DF (ws:=Oh) rfl AX
def mN:AE (.Dh 1) [S aTh,S aTr]=some (.sl 1 (Mm.map BZ)):=DF (ws:=Mm) rfl AX
def dz:AE (.Dh 1) [S [111,108],S [117,108]]=some (.sl 1 (Ro.map BZ)):=DF (ws:=Ro) rfl AX
def rO:AE (.Dh 1) [S aTG,S aS2,S aSC,S aTD,S aTH,S aSR,S [116,100],S aSz,S [116,104]]=some (.sl 1 (Qj.map BZ)):=DF (ws:=Qj) rfl AX
def d_:AE (.Dh 1) [S aSW]=some (.sl 1 ([aSW].map BZ)):=DF (ws:=[aSW]) rfl AX
def J7{U:Type}(q e:U->Bool):List U->Bool
 |[]=>false
 |a::r=>if q a then true else if e a then false else J7 q e r
def rP{U:Type}{q e:U->Bool}(l:List U)(b:Bool):(if h:0<=AR (λa=>q a||e a) l/\(AR (λa=>q a||e a) l).toNat<l.length then q (l[(AR (λa=>q a||e a) l).toNat]'h.2) else false)=J7 q e l.reverse:=by
 have key:∀r:List U,(if h:0<=AR (λa=>q a||e a) r.reverse/\(AR (λa=>q a||e a) r.reverse).toNat<r.reverse.length then q (r.reverse[(AR (λa=>q a||e a) r.reverse).toNat]'h.2) else false)=J7 q e r:=by
  intro r;induction r with
  |nil=>simp[J7,J2]
  |cons a r ih=>
   simp only[EE,J7];have e0:=I1 (q:=λa=>q a||e a) (l:=r.reverse) (a:=a);by_cases hq:q a=true
   .rw[Ae (by simp[hq])] at e0;have c:(AR (λa=>q a||e a) (r.reverse++[a])).toNat=r.reverse.length:=by rw[e0];omega
    simp only[c];rw[oV ⟨by rw[e0];omega,AH⟩];simp[hq]
   .by_cases he:e a=true
    .rw[Ae (by simp[he])] at e0;have c:(AR (λa=>q a||e a) (r.reverse++[a])).toNat=r.reverse.length:=by rw[e0];omega
     simp only[c];rw[oV ⟨by rw[e0];omega,AH⟩];simp[hq,he]
    .rw[Ac (by simp[hq,he])] at e0;simp only[hq,he,Ea,Cy,<-ih,e0];rcases Dc (q:=λa=>q a||e a) (l:=r.reverse) with⟨h1,h2⟩|⟨n,hn,h1,h2,j⟩
     .simp[h1]
     .have g:(0:Int)<=(n:Int)/\(n:Int).toNat<r.reverse.length:=⟨Ab,by simpa using hn⟩;have i:(0:Int)<=(n:Int)/\(n:Int).toNat<(r.reverse++[a]).length:=⟨Ab,by simp at hn⊢;omega⟩;simp only[h1];rw[oV g,oV i,Gf g.2]
 have:=key l.reverse;rwa [Fj] at this
def HI.cells{v:Aa}{ws:List Ao}(hv:HI ws v):v.cells=[v]:=AU.cells hv
def Bw(node:Int)(a:Item):Bool:=decide (a.node=node)
end
end
section
section
variable{h:Ah}{p v:Aa}{l:List Item}
def aF{n s:Int}{t:Ao}{b:Bool}:AE (.Cm [I 0,I 0,S [],ff] [(0,1),(1,1),(2,1),(3,1)]) [.int .i64 n,.int .i64 s,.str t,.bool b]=some (.agg (Item.row ⟨n,s,t,b⟩)):=by simp only[BC];rfl
def Mo{a:Item}:AE (.Dh 4) [.agg a.row]=some (.sl 4 [a.row]):=Mk rfl AX
def LV(h:Ah)(id o:Nat)(l:List Item):Prop:=∃v,At h id o v/\B1 l v
def LV.at{id o:Nat}(hs:LV h id o l):jm h (.ptr (some (id,o))) l:=let⟨v,h1,h2⟩:=hs; .inr ⟨id,o,v,rfl,h1,h2⟩
def B1.cells(hv:B1 l v):v.cells=[v]:=AU.cells hv
def GS(a:Item):Bool:=Er a.A7 a.name
def D0(node:Int)(l:List Item):Int:=if AR (Bw node) l<0 then -1 else match(l.drop ((AR (Bw node) l).toNat+1)).findIdx? GS with
 |some k=>AR (Bw node) l+1+k
 |none=> -1
def EY{U:Type}(q:U->Bool)(l:List U)(n:Nat):Int:=match(l.drop n).findIdx? q with
 |some k=>(n:Int)+k
 |none=> -1
def QS{U:Type}{q:U->Bool}{l:List U}{n:Nat}(h:l.length<=n):EY q l n= -1:=by unfold EY;rw[AO h];rfl
def Sq{U:Type}{q:U->Bool}{l:List U}{n:Nat}(h:n<l.length):EY q l n=if q l[n] then(n:Int) else EY q l (n+1):=by
 unfold EY;rw[AF h,aMW];by_cases hq:q l[n]=true;.simp only[hq,BL];omega
 .simp only[hq,Cy,Ea];cases List.findIdx? q (l.drop (n+1)) with
  |none=>rfl
  |some k=>simp only[B9];omega
def IB{node:Int}:D0 node l=if AR (Bw node) l<0 then -1 else EY GS l ((AR (Bw node) l).toNat+1):=by
 unfold D0 EY;by_cases h:AR (Bw node) l<0;.simp only[h,BL]
 .simp only[h,Ea];cases(l.drop ((AR (Bw node) l).toNat+1)).findIdx? GS with
  |none=>rfl
  |some k=>simp only;omega
def XE{U:Type}(q e:U->Bool):List U->Bool
 |[]=>false
 |a::r=>(q a&& !(r.any e))||XE q e r
def UA{U:Type}{q e:U->Bool}{a:U}:∀{r:List U},J7 q e (r++[a])=((q a&& !(r.any e))||J7 q e r)
 |[]=>by by_cases h:q a=true<;>simp[J7,h]
 |b::r=>by
  simp only[CJ,J7,UA (r:=r)];by_cases h1:q b=true;.simp[h1]
  .by_cases h2:e b=true<;>simp[h1,h2]
def mO{U:Type}{q e:U->Bool}:∀{l:List U},XE q e l=J7 q e l.reverse
 |[]=>rfl
 |a::l=>by rw[EE,UA,XE,mO];simp
def aBA{U:Type}{q e:U->Bool}(l:List U):(if AR q l<0 then false else !((l.drop ((AR q l).toNat+1)).any e))=J7 q e l.reverse:=by
 have key:∀r:List U,(if AR q r.reverse<0 then false else !((r.reverse.drop ((AR q r.reverse).toNat+1)).any e))=J7 q e r:=by
  intro r;induction r with
  |nil=>rfl
  |cons a r ih=>
   simp only[EE,J7,I1];by_cases hq:q a=true;.simp only[hq,BL];rw[Ac Ab,AV,AO AH];rfl
   .simp only[hq,Ea,Cy,<-ih];rcases Dc (q:=q) (l:=r.reverse) with⟨h1,h2⟩|⟨n,hn,h1,h2,c⟩
    .simp[h1]
    .have i0:¬(n:Int)<0:=by omega
     rw[h1,Ac i0,Ac i0,AV,Jg Ab,UM];cases he:e a<;>simp only[JH,MH,he,JF,aDc,Cy,Ea,BL,RC]
 have:=key l.reverse;rwa [Fj] at this
end
end
section
def Ev.ret{C:FW}{f:FuncId}{args:List Aa}{h:Ah}{R:Aa->Ah->Prop}(hw:Ev C f args h R):∃r h',BH C f args h r h'/\R r h':=by obtain⟨n,x,vs,h',e,hx,r,hv,hR⟩:=hw;exact⟨r,h',⟨n,x,vs,h',e,hx,hv,rfl⟩,hR⟩
def PF(b a:Item->Bool):List Item->List Item
 |x::y::r=>if b x then x::y::r else if a x then y::r else PF b a (y::r)
 |r=>r
def DO(b a:Item->Bool)(l:List Item):List Item:=(PF b a l.reverse).reverse
def ee{b a:Item->Bool}{l:List Item}(h:l.length<=1):PF b a l=l:=by
 match l with
 |[]=>rfl
 |[x]=>rfl
 |x::y::r=>simp at h
def XF{b a:Item->Bool}{l:List Item}(h:l.length<=1):DO b a l=l:=by unfold DO;rw[ee (by simpa using h),Fj]
def aG{b a:Item->Bool}{l:List Item}{x:Item}(h:1<=l.length):DO b a (l++[x])=if b x then l++[x] else if a x then l else DO b a l:=by
 unfold DO;rw[Iq,Jo,JR];cases hr:l.reverse with
 |nil=>
  have:l=[]:=by simpa using hr
  subst this;simp at h
 |cons y r=>
  have hl:l=r.reverse++[y]:=by rw[<-Fj l,hr,EE]
  rw[PF];by_cases h1:b x=true;.rw[Ae h1,Ae h1];rw[hl];simp
  .rw[Ac h1,Ac h1];by_cases h2:a x=true;.rw[Ae h2,Ae h2];rw[hl];simp
   .rw[Ac h2,Ac h2]
def aH{b a:Item->Bool}{l:List Item}{n:Nat}(hn:n+1<l.length):DO b a (l.take (n+2))=if b l[n+1] then l.take (n+2) else if a l[n+1] then l.take (n+1) else DO b a (l.take (n+1)):=by have e:l.take (n+2)=l.take (n+1)++[l[n+1]]:=AB hn;rw[e,aG (by rw[As];omega)]
def Qk{b a:Item->Bool}:∀{l:List Item},(DO b a l).length<=l.length:=by
 have key:∀r:List Item,(PF b a r).length<=r.length:=by
  intro r;induction r with
  |nil=>simp[PF]
  |cons x r ih=>
   cases r with
   |nil=>simp[PF]
   |cons y r=>
    rw[PF];split;.simp
    .split;.simp
     .exact Bu ih AH
 intro l;have:=key l.reverse;simpa[DO] using this
section
variable{h:Ah}{p v:Aa}{l:List Item}
def XG{n:Nat}(hn:n<l.length):Fx (l.take (n+1))=l[n]:=by
 have e:((l.take (n+1)).length:Int)-1=(n:Int):=by rw[As];omega
 unfold Fx;rw[e,H8 (by rw[As];omega)];simp
def LV.dE{id o:Nat}(hs:LV h id o l):∃u,h=put h id o u/\B1 l u:=by obtain⟨u,hc,hu⟩:=hs;exact⟨u,hc.same.symm,hu⟩
def LV.lt{id o:Nat}(hs:LV h id o l):∃v,At h id o v:=let⟨u,hc,_⟩:=hs;⟨u,hc⟩
def LV.aBB{id o:Nat}{u:Aa}(hlt:∃v,At h id o v)(hu:B1 l u):LV (put h id o u) id o l:=let⟨_,ha⟩:=hlt;⟨u,ha.put,hu⟩
def CX(_:Item):Bool:=false
def Es(s:Ao)(a:Item):Bool:=decide (a.A7≠1\/a.name∉Gs\/a.name=s)
def CM(a:Item):Bool:=decide (a.A7≠1\/¬(a.name∈J1\/a.name∈Gs))
def GU(node:Int)(l:List Item):List Item:=if AR (Bw node) l<0 then l else DO CX (Bw node) l
def KM(l:List Item)(i:Int):List Item:=l.take (max 1 i.toNat)
def Ol{q:Item->Bool}(l:List Item):DO CX q l=KM l (AR q l):=by
 have key:∀r:List Item,DO CX q r.reverse=KM r.reverse (AR q r.reverse):=by
  intro r;induction r with
  |nil=>rfl
  |cons x r ih=>
   rw[EE,I1];rcases Jm r.length with h0|h0
   .have:r=[]:=LP.1 h0;subst this;by_cases hq:q x=true<;>simp[hq,KM,DO,PF,J2]
   .have h1:1<=r.reverse.length:=by rw[KU];omega
    rw[aG h1];by_cases hq:q x=true;.rw[Ac (by simp[CX]),Ae hq,Ae hq];unfold KM;rw[AV,uR h1,CI (Ag _),Bv]
    .rw[Ac (by simp[CX]),Ac hq,Ac hq,ih];unfold KM;rw[CI];rcases Dc (q:=q) (l:=r.reverse) with⟨a,_⟩|⟨n,hn,a,_⟩<;>rw[a]<;>omega
 have:=key l.reverse;rwa [Fj] at this
def UB{node:Int}(l:List Item):GU node l=if AR (Bw node) l<0 then l else KM l (AR (Bw node) l):=by unfold GU;rw[Ol]
end
end
section
section
variable{h:Ah}{p v:Aa}{l:List Item}
def qb(l:List Item):∀r∈l.map Item.row,r.length=4:=Ml (f:=Item.row) (λa=>Item.CK) l
def QT{n:Nat}(h:n<=2000000000):n*40<=AM:=by have:AM=140737488355328:=rfl;omega
def Be{U:Type}(l:List U)(k:Nat):List U:=l.take k++l.drop (k+1)
def CY(node:Int)(l:List Item):List Item:=if AR (Bw node) l<1 then l else Be l (AR (Bw node) l).toNat
def EZ(i:Int)(n:Nat):Nat:=min (max i 1).toNat n
def PG(node:Int)(a:Item)(l:List Item):List Item:=if AR (Bw node) l<1 then l else l.set (AR (Bw node) l).toNat a
def dF(h:Ah)(l:List Item)(r:Aa)(h':Ah):Prop:=(l=[]/\r= .slnil/\h'=h)\/(l≠[]/\r= .CE h.length 0 l.length 4/\h'=h++[.cells (l.map Item.row).flatten])
def zp(hv:B1 l v)(hb:l.length<=1000000000):∃r h',KF h 4 40 .slnil v=some (h',r)/\dF h l r h':=by
 by_cases hne:l=[];.subst hne;exact⟨_,_,Pz (.inl rfl) hv,.inl ⟨rfl,rfl,rfl⟩⟩
 .have a:=Lj (h:=h) (s:= .slnil) (z:=4) (b:=40) (.inl rfl) hv (by simpa using hne) (by rw[Ak];exact QT Ab);rw[Ak] at a;exact⟨_,_,a,.inr ⟨hne,rfl,rfl⟩⟩
def dF.O3{r:Aa}{h':Ah}(hc:dF h l r h'):∃u t,Kw h' r=some (h++t,u)/\B1 l u:=by
 rcases hc with⟨rfl,rfl,rfl⟩|⟨hne,rfl,rfl⟩
 .exact⟨.slnil,[],by rw[BE];rfl,.nil⟩
 .have a:(h++[Dw.cells (l.map Item.row).flatten])[h.length]?=some (.cells (l.map Item.row).flatten):=by simp
  have f1:=J0 (qb l) a;rw[Ak] at f1;refine⟨.sl 4 (l.map Item.row),[.CO],?_,.mk⟩;rw[f1];congr 2
  rw[BM _ _ (Ag _)];simp
end
end
section
end
section
section
variable{h:Ah}{p v w:Aa}{l:List Item}{ws:List Ao}
def qc:KM l (-1)=KM l 1:=rfl
def EN(s:Ao)(all:Bool)(a:Item):Bool:=if all then CM a else Es s a
end
end
section
def fT:List (Ao×Int×Ao):=[(aS6,4,aTF),(aS5,4,aTE),(aTj,4,aTN),(aTk,4,aTO),(aTl,4,aTP),(aTb,4,aTu),(aTm,4,aTI),(aTq,5,[108,97,110,103]),(aTf,5,aTM),(aTg,6,aTg),(aS0,6,aTB)]
def XH(x:Ao×Int×Ao):Aa×Aa:=(.str x.1,.agg [.int .i64 x.2.1,.str x.2.2,.str []])
def ft(n:Nat):List (Aa×Aa):=(fT.take n).map XH
def aER:OT aS6 (.agg [.int .i64 4,.str aTF,.str []]) (ft 0)=some (ft 1):=by kernel_rfl
def aES:OT aS5 (.agg [.int .i64 4,.str aTE,.str []]) (ft 1)=some (ft 2):=by kernel_rfl
def aET:OT aTj (.agg [.int .i64 4,.str aTN,.str []]) (ft 2)=some (ft 3):=by kernel_rfl
def aEU:OT aTk (.agg [.int .i64 4,.str aTO,.str []]) (ft 3)=some (ft 4):=by kernel_rfl
def aEV:OT aTl (.agg [.int .i64 4,.str aTP,.str []]) (ft 4)=some (ft 5):=by kernel_rfl
def aEW:OT aTb (.agg [.int .i64 4,.str aTu,.str []]) (ft 5)=some (ft 6):=by kernel_rfl
def aEX:OT aTm (.agg [.int .i64 4,.str aTI,.str []]) (ft 6)=some (ft 7):=by kernel_rfl
def aEY:OT aTq (.agg [.int .i64 5,.str [108,97,110,103],.str []]) (ft 7)=some (ft 8):=by kernel_rfl
def aEZ:OT aTf (.agg [.int .i64 5,.str aTM,.str []]) (ft 8)=some (ft 9):=by kernel_rfl
def aE0:OT aTg (.agg [.int .i64 6,.str aTg,.str []]) (ft 9)=some (ft 10):=by kernel_rfl
def aBC:OT aS0 (.agg [.int .i64 6,.str aTB,.str []]) (ft 10)=some (ft 11):=by kernel_rfl
def rQ{h:Ah}{es:List (Aa×Aa)}{s:Ao}{v:Aa}:T3 (h++[.map es]) (.map (some h.length)) (.str s) v=(OT s v es).map λes=>h++[.map es]:=by simp[T3]
def D8(n:Ao):Option (Int×Ao):=(fT.find? λx=>decide (n=x.1)).map (·.2)
def XI(n:Ao):∀l:List (Ao×Int×Ao),Wl n (l.map XH)=some ((l.find? λx=>decide (n=x.1)).map λx=>(XH x).2)
 |[]=>rfl
 |x::l=>by
  rw[Bk,GG,XH,Wl];by_cases e:n=x.1;.rw[Ae e,AA e];rfl
  .rw[Ac e,Ay e];exact XI n l
def Mp{h:Ah}{n:Ao}:T4 (h++[.map (ft 11)]) (.agg [.int .i64 0,.str [],.str []]) true (.map (some h.length)) (.str n)=
  some (match D8 n with|some (s,m)=> .tuple [.agg [.int .i64 s,.str m,.str []],.bool true]|none=> .tuple [.agg [.int .i64 0,.str [],.str []],.bool false]):=by
 have e:Wm (h++[.map (ft 11)]) (.map (some h.length)) (.str n)=Wl n (fT.map XH):=by simp[Wm,ft,fT]
 rw[T4,e,XI,D8];cases fT.find? λx=>decide (n=x.1)<;>rfl
abbrev aBD:Ao:=aTo
abbrev Va:Ao:=aTs
def Kj(sp:Int)(n:Ao):Ao:=if sp=2 then Co n H7 else if sp=3/\n=aBD then Va else n
def CZ(sp:Int)(a:A3):A3:=
 if sp=2\/sp=3 then match D8 (Kj sp a.name) with
  |some (s,m)=>⟨s,m,a.value⟩
  |none=>⟨0,Kj sp a.name,a.value⟩
 else⟨0,a.name,a.value⟩
def Sr(s:Ao):(DR s).length=s.length:=by simp[DR]
def LD(n:Ao):∀ws,Co n ws=n\/(Co n ws∈ws/\DR (Co n ws)=n)
 |[]=> .inl rfl
 |w::ws=>by
  rw[Co];split;.rename_i e;exact .inr ⟨List.mem_cons_self,e⟩
  .rcases LD n ws with h|⟨h1,h2⟩
   .exact .inl h
   .exact .inr ⟨YL _ h1,h2⟩
def Ss(n:Ao)(ws:List Ao):(Co n ws).length=n.length:=by
 rcases LD n ws with h|⟨_,h⟩
 .rw[h]
 .rw[<-Sr,h]
def Ef{a b c:Aa}:AE (.Dh 3) [.agg [a,b,c]]=some (.sl 3 [[a,b,c]]):=rfl
def A3.CK{a:A3}:a.row.length=3:=rfl
def A3.HU{a:A3}:a.row.take 3=a.row:=rfl
section
variable{v:Aa}{l:List A3}{h:Ah}
def mP{a b:A3}{neg:Bool}:AE (.geq neg [.i,.s,.s]) [.agg a.row,.agg b.row]=some (.bool (decide (a=b) != neg)):=by
 rw[Rm];have:D5 [.i,.s,.s] a.row b.row=some (decide (a=b)):=by simp only[D5,Lx,A3.row,BL,Bz];cases a;cases b;simp only[A3.mk.injEq];rw[Lv];simp
 rw[this];rfl
def LW:List Ao:=[aS6,aS5,aTj,aTk,aTl,aTb,aTm]
def zq{s:Ao}:FY aSA s=decide (s∈LW):=D7 EF EF
def Tv{k:IntKind}{s:Ao}{a z:Nat}(ha:a<=s.length):AE (.KA z true true false) [.str s,.int k (a:Int)]=some (.str (s.drop a)):=by
 have c:E3 (a:Int) s.length=some a:=by unfold E3;rw[Ae Ab];rfl
 simp[AE,JB,DX,c]
abbrev mQ:Ao:=aTq
abbrev XJ:Ao:=aTf
abbrev mR:Ao:=aTg
abbrev XK:Ao:=aS0
def Zj:∀s∈LW,6<=s.length/\D8 s=some (4,s.drop 6):=AX
def dG{s:Ao}(h1:s∉LW)(h2:s≠mQ)(g:s≠XJ)(c:s≠mR)(a:s≠XK):D8 s=none:=by simp only[LW,AT,S8,aH1,Nh] at h1;obtain⟨a1,a2,a3,a4,a5,a6,a7⟩:=h1;simp only[D8,fT,GG,List.find?_nil,Ay a1,Ay a2,Ay a3,Ay a4,Ay a5,Ay a6,Ay a7,Ay h2,Ay g,Ay c,Ay a,Option.map_none]
abbrev rR:Ao:=aTB
def QU(s:Ao):(s∈LW/\6<=s.length/\D8 s=some (4,s.drop 6))\/(s∉LW/\((s=mQ/\4<=s.length/\D8 s=some (5,s.drop 4))\/(¬s=mQ/\((s=XJ/\4<=s.length/\D8 s=some (5,s.drop 4))\/(¬s=XJ/\((s=mR/\D8 s=some (6,s))\/(¬s=mR/\((s=XK/\D8 s=some (6,rR))\/(¬s=XK/\D8 s=none))))))))):=by
 by_cases a:s∈LW;.exact .inl ⟨a,Zj s a⟩
 refine .inr ⟨a,?_⟩;by_cases j:s=mQ;.subst j;decide
 refine .inr ⟨j,?_⟩;by_cases i:s=XJ;.subst i;decide
 refine .inr ⟨i,?_⟩;by_cases g:s=mR;.subst g;decide
 refine .inr ⟨g,?_⟩;by_cases c:s=XK;.subst c;decide
 exact .inr ⟨c,dG a j i g c⟩
def sl6{s:Ao}(h:6<=s.length):AE (.KA 0 true true false) [.str s,.int .i64 6]=some (.str (s.drop 6)):=Tv h
def sl4{s:Ao}(h:4<=s.length):AE (.KA 0 true true false) [.str s,.int .i64 4]=some (.str (s.drop 4)):=Tv h
end
end
section
structure Cs where
 node:Int
 name:Ao
 Az:List A3
deriving DecidableEq
structure Cj where
 c:Cs
 v:Aa
 ok:Br c.Az v
def Cj.row(e:Cj):List Aa:=[.int .i64 e.c.node,.str e.c.name,e.v]
def Dk(l:List Cj)(v:Aa):Prop:=AU 3 (l.map Cj.row) v
section
variable{e:Cj}{d:Aa}
def Cj.CK:e.row.length=3:=rfl
def Cj.g0:e.row.getD 0 d= .int .i64 e.c.node:=rfl
def Cj.g1:e.row.getD 1 d= .str e.c.name:=rfl
def Cj.g2:e.row.getD 2 d=e.v:=rfl
def Cj.at0:e.row[0]?=some (.int .i64 e.c.node):=rfl
def Cj.HU:e.row.take 3=e.row:=rfl
def Cj.wI:e.row.drop 1=[.str e.c.name,e.v]:=rfl
def Cj.PE:[Aa.int .i64 e.c.node,.str e.c.name,e.v]=e.row:=rfl
def Cj.zr:AE (.len false) [e.v]=some (.int .i64 (e.c.Az.length:Int)):=AU.CL e.ok
end
def A3.g0{a:A3}{d:Aa}:a.row.getD 0 d= .int .i64 a.A7:=rfl
def A3.g1{a:A3}{d:Aa}:a.row.getD 1 d= .str a.name:=rfl
def A3.g2{a:A3}{d:Aa}:a.row.getD 2 d= .str a.value:=rfl
def A3.PE{a:A3}:[Aa.int .i64 a.A7,.str a.name,.str a.value]=a.row:=rfl
def PH{n:Nat}(h:n<=2000000000):n*48<=AM:=by have:AM=140737488355328:=rfl;omega
def Tw(e:Cj):Bool:=decide (e.c.node=0)
def PI(n:Int)(e:Cj):Bool:=decide (e.c.node=n)
def since(l:List Cj):Int:=AR Tw l+1
def eo:since []=0:=rfl
def rS{l:List Cj}{e:Cj}:since (l++[e])=if e.c.node=0 then(l.length:Int)+1 else since l:=by unfold since;rw[I1];by_cases h:e.c.node=0<;>simp[Tw,h]
def XL{l:List Cj}{n:Nat}(hn:n<l.length):since (l.take (n+1))=if l[n].c.node=0 then(n:Int)+1 else since (l.take n):=by rw[AB hn,rS,As,Cp (MG hn)]
def JO(l:List Cj):∃s:Nat,since l=(s:Int)/\s<=l.length/\(∀m (hm:m<l.length),s<=m->l[m].c.node≠0)/\(∀t,s=t+1->∃ht:t<l.length,l[t].c.node=0):=by
 rcases Dc (q:=Tw) (l:=l) with⟨h1,h2⟩|⟨n,hn,h1,h2,a⟩
 .refine⟨0,by unfold since;rw[h1];rfl,AQ _,λm hm _=>?_,λt ht=>by omega⟩;have:=h2 _ (AL hm);simpa[Tw] using this
 .refine⟨n+1,by unfold since;rw[h1];rfl,hn,λm hm Ej=>?_,λt ht=>?_⟩;.have:=a m hm Ab;simpa[Tw] using this
  .obtain rfl:t=n:=by omega
   exact⟨hn,by simpa[Tw] using h2⟩
section
variable{h:Ah}{v:Aa}{l:List Cj}{id:Nat}
def wJ(name:Ao):List Cj->Int
 |[]=> -1
 |e::t=>if e.c.node=0 then -1 else if e.c.name=name then(t.length:Int) else wJ name t
def NF(name:Ao)(l:List Cj):Int:=wJ name l.reverse
def Rq{name:Ao}{n:Nat}(hn:n<l.length):NF name (l.take (n+1))=if l[n].c.node=0 then -1 else if l[n].c.name=name then(n:Int) else NF name (l.take n):=by rw[AB hn,NF,Iq,Jo,JR,wJ,KU,As,Cp (MG hn),NF]
def et{name:Ao}:NF name []= -1:=rfl
def mS{name:Ao}{s:Nat}(hs:since l=(s:Int)):NF name (l.take s)= -1:=by
 obtain⟨s',e,h1,h2,a⟩:=JO l;obtain rfl:s=s':=Ab;cases s with
 |zero=>rfl
 |succ t=>obtain⟨ht,h0⟩:=a t rfl;rw[Rq ht,Ae h0]
def Hw(node:Int)(l:List Cj):Int:=if node=0 then -1 else AR (PI node) l
end
section
variable{h:Ah}{v:Aa}{l:List A3}
def GC(a b:Cs):Bool:=decide (a.name=b.name/\a.Az.length=b.Az.length/\(∀x∈a.Az,x∈b.Az)/\∀x∈b.Az,x∈a.Az)
def Zk(e:Cj):Prop:=e.c.Az.length<=1000000000
end
end
section
mutual
def Aa.Su:∀a:Aa,Aa.beq a a=true
 | .bool a=>by simp[Aa.beq]
 | .int k a=>by simp[Aa.beq]
 | .str a=>by simp[Aa.beq]
 | .ptr a=>by simp[Aa.beq]
 | .CG a=>by simp[Aa.beq,Aa.KN a]
 | .sl n a=>by simp[Aa.beq,Aa.XM a]
 | .Gb _=>by simp[Aa.beq]
 | .slnil=>by simp[Aa.beq]
 | .CE a c d e=>by simp[Aa.beq]
 | .map a=>by simp[Aa.beq]
 | .func f a c=>by simp[Aa.beq,Aa.KN a,Aa.KN c]
 | .nilFunc=>by simp[Aa.beq]
 | .iface t a=>by simp[Aa.beq,Aa.Su a]
 | .nilIface=>by simp[Aa.beq]
 | .agg a=>by simp[Aa.beq,Aa.KN a]
 | .tuple a=>by simp[Aa.beq,Aa.KN a]
def Aa.KN:∀a:List Aa,Aa.RK a a=true
 |[]=>by simp[Aa.RK]
 |a::x=>by simp[Aa.RK,Aa.Su a,Aa.KN x]
def Aa.XM:∀a:List (List Aa),Aa.RL a a=true
 |[]=>by simp[Aa.RL]
 |a::x=>by simp[Aa.RL,Aa.KN a,Aa.XM x]
end
def Tx(h:Ah)(id o:Nat)(l:List Cj):Prop:=∃u,At h id o u/\Dk l u
def Dk.cells{l:List Cj}{v:Aa}(hv:Dk l v):v.cells=[v]:=AU.cells hv
def Tx.lt{h:Ah}{id o:Nat}{l:List Cj}(hs:Tx h id o l):∃v,At h id o v:=let⟨u,hc,_⟩:=hs;⟨u,hc⟩
def Om(l:List Cj):∀r∈l.map Cj.row,r.length=3:=Ml (f:=Cj.row) (λa=>Cj.CK) l
section
variable{h:Ah}{v:Aa}{l:List Cj}{id:Nat}
def L6{r:List Aa}(h:r.length=3):AE (.Dh 3) [.agg r]=some (.sl 3 [r]):=Mk (a:= .agg r) h AX
def mT(n:Int)(l:List Cj):Hw n l= -1\/∃k:Nat,k<l.length/\Hw n l=(k:Int):=by
 unfold Hw;split;.exact .inl rfl
 .rcases Dc (q:=PI n) (l:=l) with⟨h1,_⟩|⟨k,hk,h1,_⟩
  .exact .inl h1
  .exact .inr ⟨k,hk,h1⟩
def dH:Cj:=⟨⟨0,[],[]⟩,.slnil,.nil⟩
def qd:[I 0,S [],Aa.slnil]=dH.row:=rfl
def CH(i:Int)(n:Nat):Nat:=min (max i 0).toNat n
def EO(l:List Cj):Nat:=(since l-1).toNat
end
end
section
def zt(e:Cs):List Cj->Nat
 |[]=>0
 |x::t=>if x.c.node=0 then 0 else zt e t+(if GC x.c e=true then 1 else 0)
def rT(e:Cs):List Cj->Int
 |[]=> -1
 |x::t=>if x.c.node=0 then -1 else if 0<=rT e t then rT e t else if GC x.c e=true then(t.length:Int) else -1
def Sv(e:Cs)(l:List Cj):Nat:=zt e l.reverse
def NG(e:Cs)(l:List Cj):Int:=rT e l.reverse
section
variable{e:Cs}{l:List Cj}{n s:Nat}
def Tz(hn:n<l.length):Sv e (l.take (n+1))=if l[n].c.node=0 then 0 else Sv e (l.take n)+(if GC l[n].c e=true then 1 else 0):=by rw[AB hn,Sv,Iq,Jo,JR,zt,Sv]
def TA(hn:n<l.length):NG e (l.take (n+1))=if l[n].c.node=0 then -1 else if 0<=NG e (l.take n) then NG e (l.take n) else if GC l[n].c e=true then(n:Int) else -1:=by rw[AB hn,NG,Iq,Jo,JR,rT,NG,KU,As,Cp (MG hn)]
def XN(hs:since l=(s:Int)):Sv e (l.take s)=0/\NG e (l.take s)= -1:=by
 obtain⟨s',e,h1,h2,a⟩:=JO l;obtain rfl:s=s':=Ab;cases s with
 |zero=>exact⟨rfl,rfl⟩
 |succ t=>obtain⟨ht,h0⟩:=a t rfl;exact⟨by rw[Tz ht,Ae h0],by rw[TA ht,Ae h0]⟩
end
def LF(e:Cs)(l:List Cj):List Cj:=if e.node≠0/\3<=Sv e l then Be l (NG e l).toNat else l
section
variable{h:Ah}{v:Aa}{l:List Cj}{id:Nat}
end
end
section
section
variable{h:Ah}{v:Aa}{l:List Cj}{id:Nat}
end
end
end Go.Am
end
section
namespace Go.Am
structure EP where
 kind:Int:=0
 FL:Int:=0
 A6:List Int:=[]
 Cf:Int:=0
 A7:Int:=0
 name:Ao:=[]
 Az:List A3:=[]
 data:Ao:=[]
 Gi:Ao:=[]
 sys:Ao:=[]
 Cq:Bool:=false
 cont:Int:=0
 Ei:Int:=0
deriving DecidableEq
structure Ar where
 n:List EP
 i:List Int
abbrev Bc:Ao:=aSz
def YR(x:EP):Prop:=x.kind=4/\x.A7=1/\x.name=Bc
instance(x:EP):Decidable (YR x):=by unfold YR;infer_instance
namespace Ar
def len(A:Ar):Int:=A.n.length
def has(A:Ar)(h:Int):Prop:=1<=h/\h<=A.n.length
instance(A:Ar)(h:Int):Decidable (A.has h):=by unfold has;infer_instance
def nd(A:Ar)(h:Int):EP:=if A.has h then A.n.getD (h.toNat-1) {} else{}
def inr(A:Ar)(h:Int):Int:=if A.has h then A.i.getD (h.toNat-1) 0 else 0
def set(A:Ar)(h:Int)(x:EP):Ar:={n:=if A.has h then A.n.set (h.toNat-1) x else A.n,i:=A.i}
def I2(A:Ar)(h:Int)(x:Int):Ar:={n:=A.n,i:=if A.has h then A.i.set (h.toNat-1) x else A.i}
def add(A:Ar)(x:EP):Ar:={n:=A.n++[x],i:=A.i++[0]}
def up(A:Ar)(h:Int):Int:=if(A.nd h).FL≠0 then(A.nd h).FL else(A.nd h).Ei
end Ar
section
variable{A:Ar}{h k:Int}{x y:EP}
def HE(a:¬A.has h):A.nd h={}:=by unfold Ar.nd;rw[Ac a]
def Ju:(A.set h x).n.length=A.n.length:=by simp only[Ar.set];split<;>simp
def zu:(A.set h x).len=A.len:=by unfold Ar.len;rw[Ju]
def Il:(A.set h x).has k↔A.has k:=by unfold Ar.has;rw[Ju]
def JP:(A.set h x).nd k=if k=h/\A.has h then x else A.nd k:=by
 unfold Ar.nd;simp only[Il];by_cases hk:A.has k
 .rw[Ae hk,Ae hk];simp only[Ar.set];by_cases a:A.has h
  .rw[Ae a];have h1:=a;have h2:=hk;unfold Ar.has at h1 h2;by_cases e:k=h;.subst e;rw[Ae ⟨rfl,a⟩,AJ,AS Ab];rfl
   .rw[Ac (by simp[e]),AJ,Ap Ab,AJ]
  .rw[Ac a,Ac (by simp[a])]
 .rw[Ac hk,Ac hk,Ac];rintro⟨rfl,h2⟩;exact hk h2
def Sw:(A.set h x).inr k=A.inr k:=by unfold Ar.inr;simp only[Il];rfl
def On:(A.add x).len=A.len+1:=by simp[Ar.len,Ar.add]
def DJ:(A.add x).has k↔A.has k\/k=A.len+1:=by simp[Ar.has,Ar.add,Ar.len];omega
def IC:(A.add x).nd k=if k=A.len+1 then x else A.nd k:=by
 unfold Ar.nd;simp only[DJ];by_cases e:k=A.len+1;.subst e;simp[Ar.add,Ar.len]
 .by_cases hk:A.has k;.rw[Ae (.inl hk),Ac e,Ae hk];unfold Ar.has at hk;simp only[Ar.add,AJ];rw[Aj Ab]
  .rw[Ac (by simp[hk,e]),Ac e,Ac hk]
def VH(hl:A.i.length=A.n.length):(A.add x).inr k=A.inr k:=by
 unfold Ar.inr;simp only[DJ];by_cases e:k=A.len+1
 .subst e;have:¬A.has (A.len+1):=by unfold Ar.has Ar.len;omega
  rw[Ae (.inr rfl),Ac this];simp[Ar.add,Ar.len,<-hl]
 .by_cases hk:A.has k;.rw[Ae (.inl hk),Ae hk];unfold Ar.has at hk;simp only[Ar.add,AJ];rw[Aj Ab]
  .rw[Ac (by simp[hk,e]),Ac hk]
def Sx:(A.I2 h k).len=A.len:=rfl
def NH{m:Int}:(A.I2 h m).has k↔A.has k:=aDb
def Sy{m:Int}:(A.I2 h m).nd k=A.nd k:=by rfl
def PJ{m:Int}(hl:A.i.length=A.n.length):(A.I2 h m).inr k=if k=h/\A.has h then m else A.inr k:=by
 unfold Ar.inr;simp only[NH];by_cases hk:A.has k
 .rw[Ae hk,Ae hk];simp only[Ar.I2];by_cases a:A.has h
  .rw[Ae a];have h1:=a;have h2:=hk;unfold Ar.has at h1 h2;by_cases e:k=h;.subst e;rw[Ae ⟨rfl,a⟩,AJ,AS Ab];rfl
   .rw[Ac (by simp[e]),AJ,Ap Ab,AJ]
  .rw[Ac a,Ac (by simp[a])]
 .rw[Ac hk,Ac hk,Ac];rintro⟨rfl,h2⟩;exact hk h2
end
def Dx(a:A3):Int×Ao:=(a.A7,a.name)
def GA(out:List A3):List A3->List A3
 |[]=>out
 |x::l=>if out.any (λy=>decide (Dx x=Dx y)) then GA out l else GA (out++[x]) l
def Cv(l:List A3):List A3:=GA [] l
def Rr:∀{l out:List A3},(out.map Dx).Nodup->((GA out l).map Dx).Nodup
 |[],_,h=>h
 |x::l,out,h=>by
  rw[GA];split;.exact Rr h
  .rename_i hn;refine Rr ?_;rw[BF,B2];refine⟨h,AH,?_⟩;rintro a ha b hb rfl;simp at hb;subst hb;simp at ha hn;obtain⟨y,hy,e⟩:=ha;exact hn y hy e.symm
def mU:∀{l out:List A3},((out++l).map Dx).Nodup->GA out l=out++l
 |[],out,_=>by simp[GA]
 |x::l,out,h=>by
  rw[GA,Ac,mU (by simpa using h)];.simp
  .intro ha;rw[BF,B2] at h;simp at ha;obtain⟨y,hy,e⟩:=ha;exact h.2.2 _ (Bj.2 ⟨y,hy,e.symm⟩) _ AH rfl
def ey(l:List A3):((Cv l).map Dx).Nodup:=Rr AH
def zw{l:List A3}(h:(l.map Dx).Nodup):Cv l=l:=by have:=mU (out:=[]) (l:=l) (by simpa using h);simpa[Cv] using this
def aI(l:List A3):Cv (Cv l)=Cv l:=zw (ey l)
def TB:∀{l out:List A3} {a:A3},a∈GA out l->a∈out\/a∈l
 |[],_,_,h=> .inl h
 |x::l,out,a,h=>by
  rw[GA] at h;split at h
  .rcases TB h with h|h
   .exact .inl h
   .exact .inr (by simp[h])
  .rcases TB h with h|h
   .simp at h;rcases h with h|rfl
    .exact .inl h
    .exact .inr AH
   .exact .inr (by simp[h])
def mV{l:List A3}{a:A3}(h:a∈Cv l):a∈l:=by simpa using TB h
def XO:∀{l out:List A3},(GA out l).length<=out.length+l.length
 |[],out=>by simp[GA]
 |x::l,out=>by
  rw[GA];split;.have:=XO (l:=l) (out:=out);simp;omega
  .have:=XO (l:=l) (out:=out++[x]);simp at this⊢;omega
def Ql{l:List A3}:(Cv l).length<=l.length:=by have:=XO (l:=l) (out:=[]);simpa[Cv] using this
structure rU(x:EP):Prop where
 k:1<=x.kind/\x.kind<=6
 A6:x.A6≠[]->x.kind=1\/x.kind=2\/x.kind=4
 elem:x.kind≠4->x.A7=0/\x.Az=[]
 nm:x.kind≠4->x.kind≠3->x.name=[]
 dt:x.kind≠3->x.Gi=[]/\x.sys=[]
 data:x.kind≠5->x.kind≠6->x.data=[]
 Cq:x.kind≠1->x.Cq=false
 sp:0<=x.A7/\x.A7<=7
 qe:∀a∈x.Az,0<=a.A7/\a.A7<=7
 Cv:Cv x.Az=x.Az
 SA:x.cont≠0->YR x
 OO:x.Ei≠0->x.kind=2
 root:x.FL≠0->x.kind≠1/\x.kind≠2
 wK:x.A6.Nodup
structure EA(A:Ar)(e:Int):Prop where
 il:A.i.length=A.n.length
 RH:∀h,A.has h->rU (A.nd h)
 Cf:∀h,A.has h->A.has (A.nd h).Cf/\(A.nd (A.nd h).Cf).kind=1
 Zl:∀h,A.has h->(A.nd h).kind=1->(A.nd h).Cf=h
 FL:∀h,A.has h->(A.nd h).FL≠0->A.has (A.nd h).FL/\h∈(A.nd (A.nd h).FL).A6
 MK:∀h,A.has h->∀k∈(A.nd h).A6,A.has k/\(A.nd k).FL=h
 jn:∀h,A.has h->h≠e->YR (A.nd h)->(A.nd h).cont≠0
 cont:∀h,A.has h->(A.nd h).cont≠0->A.has (A.nd h).cont/\(A.nd (A.nd h).cont).kind=2/\(A.nd (A.nd h).cont).Ei=h
 Ei:∀h,A.has h->(A.nd h).Ei≠0->A.has (A.nd h).Ei/\(A.nd (A.nd h).Ei).cont=h
 ine:∀h,A.has h->A.inr h≠0->A.has (A.inr h)/\(A.nd (A.inr h)).kind=1
 dI:∃r:Int->Nat,∀h,A.has h->A.up h≠0->r (A.up h)<r h
section
variable{A:Ar}{e h k:Int}{x y:EP}
def Rs:¬A.has (A.len+1):=by unfold Ar.has Ar.len;omega
def XP(a:¬A.has h):A.up h=0:=by unfold Ar.up;rw[HE a];simp
def rV(ok:EA A e)(a:A.has h)(hu:A.up h≠0):A.has (A.up h):=by
 unfold Ar.up at hu⊢;split;.rename_i h1;exact(ok.FL h a h1).1
 .rename_i h1;rw[Ac h1] at hu;exact(ok.Ei h a hu).1
def PK(ok:EA A e)(hx:rU x)(hd:(x.kind=1/\x.Cf=A.len+1)\/(x.kind≠1/\A.has x.Cf/\(A.nd x.Cf).kind=1))(hp:x.FL=0)(hk:x.A6=[])(hc:x.cont=0)(a:x.Ei=0)(b:YR x->e=A.len+1):EA (A.add x) e:=by
 have no:=Rs (A:=A);obtain⟨r,hr⟩:=ok.dI;have ne:∀{k},A.has k->k≠A.len+1:=λhk e=>no (e▸hk);refine⟨by simp[Ar.add,ok.il],?_,?_,?_,?_,?_,?_,?_,?_,?_,r,?_⟩<;>intro m hm<;>rw[DJ] at hm<;>(try rw[VH ok.il])<;>simp only[Ar.up,IC,DJ]<;>rcases hm with hm|rfl
 all_goals first|(rw[Ac (ne hm)])|(rw[Ae rfl])|skip
 .exact ok.RH m hm
 .exact hx
 .have:=ok.Cf m hm;rw[Ac (ne this.1)];exact⟨.inl this.1,this.2⟩
 .rcases hd with⟨h1,h2⟩|⟨h1,h2,c⟩
  .rw[Ae h2];exact⟨.inr h2,h1⟩
  .rw[Ac (ne h2)];exact⟨.inl h2,c⟩
 .exact ok.Zl m hm
 .intro h1;rcases hd with⟨_,h2⟩|⟨h2,_⟩
  .exact h2
  .exact absurd h1 h2
 .intro h1;have:=ok.FL m hm h1;rw[Ac (ne this.1)];exact⟨.inl this.1,this.2⟩
 .intro h1;exact absurd hp h1
 .intro q hq;have:=ok.MK m hm q hq;rw[Ac (ne this.1)];exact⟨.inl this.1,this.2⟩
 .intro q hq;rw[hk] at hq;cases hq
 .exact ok.jn m hm
 .intro h1 h2;exact absurd (b h2).symm h1
 .intro h1;have:=ok.cont m hm h1;rw[Ac (ne this.1)];exact⟨.inl this.1,this.2⟩
 .intro h1;exact absurd hc h1
 .intro h1;have:=ok.Ei m hm h1;rw[Ac (ne this.1)];exact⟨.inl this.1,this.2⟩
 .intro h1;exact absurd a h1
 .intro h1;have:=ok.ine m hm h1;rw[Ac (ne this.1)];exact⟨.inl this.1,this.2⟩
 .intro h1;exfalso;apply h1;unfold Ar.inr;rw[Ac no]
 .have:=hr m hm;unfold Ar.up at this;exact this
 .rw[hp,a];simp
inductive Reach(A:Ar)(t:Int):Int->Prop
 |refl:Reach A t t
 |step {h:Int}:A.up h≠0->Reach A t (A.up h)->Reach A t h
def Je(l:List Int)(b n:Int):List Int:=if b=0 then l++[n] else l.takeWhile (λk=>decide (k≠b))++n::l.dropWhile (λk=>decide (k≠b))
def Ar.cut(A:Ar)(n:Int):Ar:=
 let q:=(A.nd n).FL
 if q=0 then A else
  let a:=A.set q {A.nd q with A6:=(A.nd q).A6.filter λk=>decide (k≠n)}
  a.set n {a.nd n with FL:=0}
def Ar.MN(A:Ar)(p n b:Int):Ar:=
 let a:=A.set p {A.nd p with A6:=Je (A.nd p).A6 b n}
 a.set n {a.nd n with FL:=p}
def Ll(k:Int):Prop:=k=1\/k=2\/k=4
instance(k:Int):Decidable (Ll k):=by unfold Ll;infer_instance
structure qg(A:Ar)(p n b:Int):Prop where
 hp:A.has p
 hn:A.has n
 hb:b≠0->A.has b/\b≠n/\(A.nd b).FL=p
 kp:Ll (A.nd p).kind
 kn:(A.nd n).kind≠1/\(A.nd n).kind≠2
 re:¬Reach A n p
open Classical in
def Ar.Fq(A:Ar)(p n b:Int):Ar:=if qg A p n b then(A.cut n).MN p n b else A
def TC{l:List Int}{b n k:Int}:k∈Je l b n↔k=n\/k∈l:=by
 unfold Je;split;.simp;exact Or.comm
 .have e:=pE (p:=λk=>decide (k≠b)) (l:=l);constructor
  .intro h;rw[Ax,AT] at h;rcases h with h|h|h
   .exact .inr (by rw[<-e];simp only[Ax];exact .inl h)
   .exact .inl h
   .exact .inr (by rw[<-e];simp only[Ax];exact .inr h)
  .intro h;rw[Ax,AT];rcases h with h|h
   .exact .inr (.inl h)
   .rw[<-e,Ax] at h;rcases h with h|h
    .exact .inl h
    .exact .inr (.inr h)
def mW{l:List Int}{b n:Int}(h:l.Nodup)(hn:n∉l):(Je l b n).Nodup:=by
 unfold Je;split;.rw[B2];refine⟨h,AH,?_⟩;rintro a ha c hc rfl;simp at hc;subst hc;exact hn ha
 .have e:=pE (p:=λk=>decide (k≠b)) (l:=l);generalize List.takeWhile _ l=u at e⊢;generalize List.dropWhile _ l=w at e⊢;subst e;rw[B2] at h⊢;simp at hn;refine⟨h.1,by simp[h.2.1,hn.2],?_⟩;rintro a ha c hc rfl;simp at hc;rcases hc with rfl|hc
  .exact hn.1 ha
  .exact h.2.2 _ ha _ hc rfl
def mX:(A.cut h).n.length=A.n.length:=by unfold Ar.cut;simp only;split<;>simp[Ju]
def K5:(A.cut h).has k↔A.has k:=by unfold Ar.has;rw[mX]
def mY{p n b:Int}:(A.MN p n b).n.length=A.n.length:=by unfold Ar.MN;simp[Ju]
def wL{p n b:Int}:(A.MN p n b).has k↔A.has k:=by unfold Ar.has;rw[mY]
def zx:(A.cut h).inr k=A.inr k:=by unfold Ar.cut;simp only;split<;>simp[Sw]
def zy{p n b:Int}:(A.MN p n b).inr k=A.inr k:=by unfold Ar.MN;simp[Sw]
def Ś(ok:EA A e)(a:A.has h)(hu:A.up h≠0):A.up h≠h:=by obtain⟨r,hr⟩:=ok.dI;intro e;have:=hr h a hu;rw[e] at this;exact Dr _ this
def rW(ok:EA A e)(a:A.has h)(hu:(A.nd h).FL≠0):(A.nd h).FL≠h:=by
 have:A.up h=(A.nd h).FL:=by unfold Ar.up;rw[Ae hu]
 have h2:=Ś ok a (by rw[this];exact hu);rwa [this] at h2
def Rt(ok:EA A e)(a:A.has h):(A.cut h).nd k=if k=h then{A.nd h with FL:=0} else if(A.nd h).FL≠0/\k=(A.nd h).FL then{A.nd k with A6:=(A.nd k).A6.filter λm=>decide (m≠h)} else A.nd k:=by
 unfold Ar.cut;simp only
 by_cases hp:(A.nd h).FL=0
 .rw[Ae hp];by_cases e:k=h;.subst e;rw[Ae rfl];have:A.nd k={A.nd k with FL:=(A.nd k).FL}:=rfl;rw[hp] at this;exact this
  .rw[Ac e,Ac (by simp[hp])]
 .have hn:=rW ok a hp;have hq:=(ok.FL h a hp).1;rw[Ac hp];simp only[JP,Il,a,hq,MB];by_cases e:k=h;.subst e;simp[DG hn]
  .simp[e,hp];split;.rename_i e;simp[e]
   .rfl
def mZ{x:EP}(hx:rU x){l:List Int}(h1:l.Nodup)(h2:l≠[]->Ll x.kind):rU {x with A6:=l}:=
 {k:=hx.k,A6:=h2,elem:=hx.elem,nm:=hx.nm,dt:=hx.dt,data:=hx.data,Cq:=hx.Cq,sp:=hx.sp,qe:=hx.qe,Cv:=hx.Cv,SA:=hx.SA,OO:=hx.OO,root:=hx.root,wK:=h1}
def wM{x:EP}(hx:rU x){p:Int}(h2:p≠0->x.kind≠1/\x.kind≠2):rU {x with FL:=p}:=
 {k:=hx.k,A6:=hx.A6,elem:=hx.elem,nm:=hx.nm,dt:=hx.dt,data:=hx.data,Cq:=hx.Cq,sp:=hx.sp,qe:=hx.qe,Cv:=hx.Cv,SA:=hx.SA,OO:=hx.OO,root:=h2,wK:=hx.wK}
def aBF(ok:A.i.length=A.n.length):(A.cut h).i.length=(A.cut h).n.length:=by rw[mX];unfold Ar.cut;simp only;split<;>exact ok
def aBG{p n b:Int}(ok:A.i.length=A.n.length):(A.MN p n b).i.length=(A.MN p n b).n.length:=by rw[mY];exact ok
def z_(ok:EA A e)(a:A.has h)(hk:k∈(A.nd h).A6):k≠h/\(A.nd k).FL=h/\A.has k:=by have:=ok.MK h a k hk;refine⟨?_,this.2,this.1⟩;rintro rfl;have h0:=this.1.1;exact rW ok a (by rw[this.2];omega) this.2
def qh(ok:EA A e)(a:A.has h):(A.cut h).up k=if k=h then(A.nd h).Ei else A.up k:=by
 unfold Ar.up;rw[Rt ok a];by_cases e:k=h;.simp[e]
 .simp only[e,Ea];split<;>rfl
def rX(ok:EA A e)(c:A.has h)(YP:(A.nd h).kind≠2):EA (A.cut h) e:=by
 obtain⟨r,hr⟩:=ok.dI;have a:=λm=>Rt (k:=m) ok c;have kd:∀m,((A.cut h).nd m).kind=(A.nd m).kind:=λm=>by rw[a];grind
 have l:∀m,((A.cut h).nd m).Cf=(A.nd m).Cf:=λm=>by rw[a];grind
 have n:∀m,((A.cut h).nd m).cont=(A.nd m).cont:=λm=>by rw[a];grind
 have ho:∀m,((A.cut h).nd m).Ei=(A.nd m).Ei:=λm=>by rw[a];grind
 have d:(A.nd h).Ei=0:=by
  by_cases h0:(A.nd h).Ei=0;.exact h0
  .exact absurd ((ok.RH h c).OO h0) YP
 refine⟨aBF ok.il,?_,?_,?_,?_,?_,?_,?_,?_,?_,r,?_⟩<;>intro m hm<;>rw[K5] at hm<;>(try simp only[kd,l,n,ho,K5,zx])
 .rw[a];split;.exact wM (ok.RH h c) AH
  .split;.exact mZ (ok.RH m hm) ((ok.RH m hm).wK.filter _) λh1=>(ok.RH m hm).A6 (by intro h2;rw[h2] at h1;simp at h1)
   .exact ok.RH m hm
 .exact ok.Cf m hm
 .exact ok.Zl m hm
 .intro h1;have b:m≠h:=by rintro rfl;rw[a] at h1;simp at h1
  have j:((A.cut h).nd m).FL=(A.nd m).FL:=by rw[a,Ac b];split<;>rfl
  rw[j] at h1⊢;have h2:=ok.FL m hm h1;refine⟨h2.1,?_⟩;rw[a];split;.rename_i i;rw[<-i];exact h2.2
  .split;.simp only[DH,Cz];exact⟨h2.2,b⟩
   .exact h2.2
 .intro q hq;have h1:q∈(A.nd m).A6/\(m=(A.nd h).FL->q≠h):=by
   rw[a] at hq;split at hq;.rename_i b;subst b;have:=z_ ok hm hq;exact⟨hq,λ_=>this.1⟩
   .split at hq;.simp only[DH,Cz] at hq;exact⟨hq.1,λ_=>hq.2⟩
    .rename_i g;refine⟨hq,λf o=>g ⟨?_,f⟩⟩;rw[<-f];have:=hm.1;omega
  have h2:=ok.MK m hm q h1.1;refine⟨h2.1,?_⟩;have b:q≠h:=by rintro rfl;exact h1.2 h2.2.symm rfl
  rw[a,Ac b,<-h2.2];split<;>rfl
 .intro h1 h2;refine ok.jn m hm h1 ?_;rw[a] at h2;unfold YR at h2⊢;grind
 .exact ok.cont m hm
 .exact ok.Ei m hm
 .exact ok.ine m hm
 .rw[qh ok c];split;.rw[d];simp
  .exact hr m hm
def qi{p n b:Int}(hp:A.has p)(hn:A.has n)(hne:n≠p):(A.MN p n b).nd k=if k=n then{A.nd n with FL:=p} else if k=p then{A.nd p with A6:=Je (A.nd p).A6 b n} else A.nd k:=by
 unfold Ar.MN;simp only[JP,Il,hp,hn,MB];by_cases e:k=n;.subst e;simp[hne]
 .simp[e]
def ez{p n b:Int}(hp:A.has p)(hn:A.has n)(hne:n≠p)(h0:(A.nd n).FL=0)(a:(A.nd n).Ei=0)(hr:¬Reach A n p):∀{m},¬Reach A n m->(A.MN p n b).up m=A.up m:=by
 intro m hm;have e:m≠n:=by rintro rfl;exact hm .refl
 unfold Ar.up;rw[qi hp hn hne,Ac e];split;.rename_i e;subst e;rfl
 .rfl
open Classical in
def aBH(ok:EA A e){p n b:Int}(hp:A.has p)(hn:A.has n)(kp:Ll (A.nd p).kind)(kn:(A.nd n).kind≠1/\(A.nd n).kind≠2)(re:¬Reach A n p)(h0:(A.nd n).FL=0):EA (A.MN p n b) e:=by
 obtain⟨r,hr⟩:=ok.dI;have hne:n≠p:=by rintro rfl;exact re .refl
 have a:=λm=>qi (k:=m) (b:=b) hp hn hne;have kd:∀m,((A.MN p n b).nd m).kind=(A.nd m).kind:=λm=>by rw[a];grind
 have l:∀m,((A.MN p n b).nd m).Cf=(A.nd m).Cf:=λm=>by rw[a];grind
 have o:∀m,((A.MN p n b).nd m).cont=(A.nd m).cont:=λm=>by rw[a];grind
 have ho:∀m,((A.MN p n b).nd m).Ei=(A.nd m).Ei:=λm=>by rw[a];grind
 have i:(A.nd n).Ei=0:=by
  by_cases h0:(A.nd n).Ei=0;.exact h0
  .exact absurd ((ok.RH n hn).OO h0) kn.2
 have g:∀m,A.has m->n∉(A.nd m).A6:=by intro m hm h1;have:=ok.MK m hm n h1;rw[h0] at this;have:=hm.1;omega
 refine⟨aBG ok.il,?_,?_,?_,?_,?_,?_,?_,?_,?_,λm=>if Reach A n m then r m+r p+1 else r m,?_⟩<;>intro m hm<;>rw[wL] at hm<;>(try simp only[kd,l,o,ho,wL,zy])
 .rw[a];split;.exact wM (ok.RH n hn) λ_=>kn
  .split;.exact mZ (ok.RH p hp) (mW (ok.RH p hp).wK (g p hp)) λ_=>kp
   .exact ok.RH m hm
 .exact ok.Cf m hm
 .exact ok.Zl m hm
 .intro h1;by_cases c:m=n
  .subst c;rw[a,Ae rfl];refine⟨hp,?_⟩;simp only
   rw[a,Ac (DG hne),Ae rfl];exact TC.2 (.inl rfl)
  .have f:((A.MN p n b).nd m).FL=(A.nd m).FL:=by rw[a,Ac c];split;rename_i e;rw[e];rfl
   rw[f] at h1⊢;have h2:=ok.FL m hm h1;refine⟨h2.1,?_⟩;rw[a];split;.rename_i j;rw[<-j];exact h2.2
   .split;.rename_i j;rw[<-j];exact TC.2 (.inr h2.2)
    .exact h2.2
 .intro q hq;by_cases c:q=n
  .subst c;refine⟨hn,?_⟩;rw[a,Ae rfl];rw[a] at hq;split at hq;.exact absurd hq (g q hn)
   .split at hq;.rename_i e;exact e.symm
    .exact absurd hq (g m hm)
  .have h1:q∈(A.nd m).A6:=by
    rw[a] at hq;split at hq;.rename_i e;rw[e];exact hq
    .split at hq;.rename_i e;rw[e];exact(TC.1 hq).resolve_left c
     .exact hq
   have h2:=ok.MK m hm q h1;refine⟨h2.1,?_⟩;rw[a,Ac c,<-h2.2];split;.rename_i e;rw[e]
   .rfl
 .intro h1 h2;refine ok.jn m hm h1 ?_;rw[a] at h2;unfold YR at h2⊢;grind
 .exact ok.cont m hm
 .exact ok.Ei m hm
 .exact ok.ine m hm
 .intro hu;by_cases hR:Reach A n m
  .by_cases c:m=n
   .subst c;have f:(A.MN p m b).up m=p:=by unfold Ar.up;rw[a,Ae rfl];simp only;rw[Ae];have:=hp.1;omega
    rw[f,Ac re,Ae hR];omega
   .have f:(A.MN p n b).up m=A.up m:=by
     unfold Ar.up;rw[a,Ac c];split;.rename_i e;rw[e]
     .rfl
    rw[f] at hu⊢;have d:Reach A n (A.up m):=by
     cases hR with
     |refl=>exact absurd rfl c
     |step _ hx=>exact hx
    rw[Ae d,Ae hR];have:=hr m hm hu;omega
  .have f:=ez (b:=b) hp hn hne h0 i re hR;rw[f] at hu⊢;have d:¬Reach A n (A.up m):=λh=>hR (.step hu h);rw[Ac d,Ac hR];exact hr m hm hu
def e_(ok:EA A e)(b:A.has h){m:Int}(hr:¬Reach A h m):¬Reach (A.cut h) h m:=by
 intro LQ;have key:∀m,Reach (A.cut h) h m->Reach A h m:=by
  intro m hm;induction hm with
  |refl=>exact .refl
  |@step q h1 _ ih=>
   by_cases a:q=h;.rw[a];exact .refl
   .rw[qh ok b,Ac a] at h1 ih;exact .step h1 ih
 exact hr (key m LQ)
def Oo(ok:EA A e){p n b:Int}:EA (A.Fq p n b) e:=by
 unfold Ar.Fq;split
 .rename_i f;have a:=rX ok f.hn f.kn.2;have kd:∀m,((A.cut n).nd m).kind=(A.nd m).kind:=λm=>by rw[Rt ok f.hn];grind
  refine aBH a (K5.2 f.hp) (K5.2 f.hn) ?_ ?_ (e_ ok f.hn f.re) ?_;.rw[kd];exact f.kp
  .rw[kd];exact f.kn
  .rw[Rt ok f.hn,Ae rfl]
 .exact ok
def rY(ok:EA A e)(g:A.has h)(hx:rU x)(h1:x.kind=(A.nd h).kind)(h2:x.FL=(A.nd h).FL)(o:x.A6=(A.nd h).A6)(d:A.has x.Cf/\(A.nd x.Cf).kind=1/\(x.kind=1->x.Cf=h))(n:x.cont=(A.nd h).cont)(l:x.Ei=(A.nd h).Ei)(i:YR x->YR (A.nd h)):EA (A.set h x) e:=by
 obtain⟨r,hr⟩:=ok.dI;have a:∀m,(A.set h x).nd m=if m=h then x else A.nd m:=λm=>by rw[JP];simp[g]
 have kd:∀m,((A.set h x).nd m).kind=(A.nd m).kind:=λm=>by rw[a];grind
 have f:∀m,((A.set h x).nd m).FL=(A.nd m).FL:=λm=>by rw[a];grind
 have ks:∀m,((A.set h x).nd m).A6=(A.nd m).A6:=λm=>by rw[a];grind
 have j:∀m,((A.set h x).nd m).cont=(A.nd m).cont:=λm=>by rw[a];grind
 have ho:∀m,((A.set h x).nd m).Ei=(A.nd m).Ei:=λm=>by rw[a];grind
 have u:∀m,(A.set h x).up m=A.up m:=λm=>by unfold Ar.up;rw[f,ho]
 refine⟨by rw[Ju];exact ok.il,?_,?_,?_,?_,?_,?_,?_,?_,?_,r,?_⟩<;>intro m hm<;>rw[Il] at hm<;>(try simp only[kd,f,ks,j,ho,u,Il,Sw])
 .rw[a];split;.exact hx
  .exact ok.RH m hm
 .rw[a];split;.exact⟨d.1,d.2.1⟩
  .exact ok.Cf m hm
 .rw[a];split;.rename_i e;intro c;rw[e,d.2.2 (by rw[h1,<-e];exact c)]
  .exact ok.Zl m hm
 .exact ok.FL m hm
 .exact ok.MK m hm
 .intro c b;refine ok.jn m hm c ?_;rw[a] at b;split at b;.rename_i e;rw[e];exact i b
  .exact b
 .exact ok.cont m hm
 .exact ok.Ei m hm
 .exact ok.ine m hm
 .exact hr m hm
def Ar.Fy(A:Ar)(d:Int):Int:=if A.inr d≠0 then A.inr d else A.len+1
def Ar.Dd(A:Ar)(d:Int):Ar:=if A.inr d≠0 then A else((A.add {kind:=1,Cf:=A.len+1}).I2 d (A.len+1)).I2 (A.len+1) (A.len+1)
def A_:rU {kind:=1,Cf:=k}:=by constructor<;>simp[Cv,GA]
def wN(ok:EA A e)(hk:A.has k/\(A.nd k).kind=1):EA (A.I2 h k) e:=by
 refine⟨?_,ok.RH,ok.Cf,ok.Zl,ok.FL,ok.MK,ok.jn,ok.cont,ok.Ei,?_,ok.dI⟩;.simp only[Ar.I2];split<;>simp[ok.il]
 .intro m hm h1;rw[NH] at hm;rw[PJ ok.il] at h1⊢;split at h1;.rename_i h2;rw[Ae h2];exact hk
  .rename_i h2;rw[Ac h2];exact ok.ine m hm h1
def qj(ok:EA A e)(b:A.has h)(he:e≠A.len+1):EA (A.Dd h) e/\(A.Dd h).has (A.Fy h)/\((A.Dd h).nd (A.Fy h)).kind=1:=by
 unfold Ar.Dd Ar.Fy;split;.rename_i h1;exact⟨ok,ok.ine h b h1⟩
 .have a:=PK ok (x:={kind:=1,Cf:=A.len+1}) A_ (.inl ⟨rfl,rfl⟩) rfl rfl rfl rfl (by simp[YR]);have h2:(A.add {kind:=1,Cf:=A.len+1}).has (A.len+1)/\((A.add {kind:=1,Cf:=A.len+1}).nd (A.len+1)).kind=1:=by rw[DJ,IC,Ae rfl];exact⟨.inr rfl,rfl⟩
  exact⟨wN (wN a h2) h2,h2⟩
def XQ(hk:k≠A.len+1\/A.inr h≠0):(A.Dd h).nd k=A.nd k:=by
 unfold Ar.Dd;split;.rfl
 .rename_i h1;rw[Sy,Sy,IC,Ac (hk.resolve_right h1)]
def fc:(A.Dd h).len=if A.inr h≠0 then A.len else A.len+1:=by
 unfold Ar.Dd;split;.rfl
 .rw[Sx,Sx,On]
def NI:A.has k->(A.Dd h).has k:=by
 unfold Ar.Dd;split;.exact id
 .intro hk;rw[NH,NH,DJ];exact .inl hk
def B_{d:Int}(ok:EA A e)(he:A.has e)(n:YR (A.nd e))(hc:(A.nd e).cont=0)(hd:A.has d/\(A.nd d).kind=1):EA ((A.add {kind:=2,Ei:=e,Cf:=d}).set e {A.nd e with cont:=A.len+1}) 0:=by
 have no:=Rs (A:=A);obtain⟨r,hr⟩:=ok.dI;have ne:∀{k},A.has k->k≠A.len+1:=λhk e=>no (e▸hk);have l0:A.len+1≠0:=by have:=he.1;have:=he.2;unfold Ar.len;omega
 have b:∀m,(((A.add {kind:=2,Ei:=e,Cf:=d}).set e {A.nd e with cont:=A.len+1}).nd m)=if m=e then{A.nd e with cont:=A.len+1} else if m=A.len+1 then{kind:=2,Ei:=e,Cf:=d} else A.nd m:=λm=>by rw[JP,IC];simp[he,DJ]
 have hk:(A.nd e).kind=4:=n.1;have h0:(A.nd e).Ei=0:=by
  by_cases h0:(A.nd e).Ei=0;.exact h0
  .have:=(ok.RH e he).OO h0;omega
 have e0:e≠0:=by have:=he.1;omega
 have i:rU {kind:=2,Ei:=e,Cf:=d}:=by constructor<;>simp[Cv,GA]
 have RH:=ok.RH;have c:=RH e he;have hne:rU {A.nd e with cont:=A.len+1}:={k:=c.k,A6:=c.A6,elem:=c.elem,nm:=c.nm,dt:=c.dt,data:=c.data,Cq:=c.Cq,sp:=c.sp,qe:=c.qe,Cv:=c.Cv,SA:=λ_=>n,OO:=c.OO,root:=c.root,wK:=c.wK};have hs:∀m,((A.add {kind:=2,Ei:=e,Cf:=d}).set e {A.nd e with cont:=A.len+1}).has m↔A.has m\/m=A.len+1:=λm=>by rw[Il,DJ]
 have hi:∀m,((A.add {kind:=2,Ei:=e,Cf:=d}).set e {A.nd e with cont:=A.len+1}).inr m=A.inr m:=λm=>by rw[Sw,VH ok.il]
 have g:e≠A.len+1:=ne he;refine⟨by rw[Ju];simp[Ar.add,Ar.set,ok.il],?_,?_,?_,?_,?_,?_,?_,?_,?_,λm=>if m=A.len+1 then r e+1 else r m,?_⟩<;>intro m hm<;>rw[hs] at hm<;>(try simp only[hs,hi])
 .rw[b];split;.exact hne
  .split;.exact i
   .rename_i h1 h2;exact RH m (hm.resolve_right h2)
 .have key:∀q,A.has q/\(A.nd q).kind=1->(A.has q\/q=A.len+1)/\(((A.add {kind:=2,Ei:=e,Cf:=d}).set e {A.nd e with cont:=A.len+1}).nd q).kind=1:=by
   intro q hq;refine⟨.inl hq.1,?_⟩;rw[b,Ac (ne hq.1)];split;.rename_i a;rw[a] at hq;exact hq.2
   .exact hq.2
  rw[b m];split;.exact key _ (ok.Cf e he)
  .split;.exact key _ hd
   .rename_i h1 h2;exact key _ (ok.Cf m (hm.resolve_right h2))
 .rw[b m];split;.rename_i a;intro h1;rw[a];exact ok.Zl e he h1
  .split;.intro h1;simp at h1
   .rename_i h1 h2;exact ok.Zl m (hm.resolve_right h2)
 .have key:∀q,A.has q->(A.nd q).FL≠0->(A.has (A.nd q).FL\/(A.nd q).FL=A.len+1)/\q∈(((A.add {kind:=2,Ei:=e,Cf:=d}).set e {A.nd e with cont:=A.len+1}).nd (A.nd q).FL).A6:=by
   intro q hq hp;have h1:=ok.FL q hq hp;refine⟨.inl h1.1,?_⟩;rw[b,Ac (ne h1.1)];split;.rename_i a;rw[a] at h1;exact h1.2
   .exact h1.2
  rw[b m];split;.rename_i a;rw[a];exact key e he
  .split;.intro h1;simp at h1
   .rename_i h1 h2;exact key m (hm.resolve_right h2)
 .have key:∀q,A.has q->∀k∈(A.nd q).A6,(A.has k\/k=A.len+1)/\(((A.add {kind:=2,Ei:=e,Cf:=d}).set e {A.nd e with cont:=A.len+1}).nd k).FL=q:=by
   intro q hq k hk;have h1:=ok.MK q hq k hk;refine⟨.inl h1.1,?_⟩;rw[b,Ac (ne h1.1)];split;.rename_i a;rw[a] at h1;exact h1.2
   .exact h1.2
  rw[b m];split;.rename_i a;rw[a];exact key e he
  .split;.intro k hk;simp at hk
   .rename_i h1 h2;exact key m (hm.resolve_right h2)
 .intro _;rw[b m];split;.intro _;exact l0
  .split;.intro h1;simp[YR] at h1
   .rename_i h1 h2;exact ok.jn m (hm.resolve_right h2) h1
 .rw[b m];split
  .rename_i a;intro _;simp only
   rw[b,Ac (DG g),Ae rfl,a];exact⟨.inr trivial,rfl,rfl⟩
  .split;.intro h1;simp at h1
   .rename_i h1 h2;intro j;have f:=ok.cont m (hm.resolve_right h2) j;refine⟨.inl f.1,?_⟩;rw[b,Ac (ne f.1)];split;.rename_i a;rw[a,hk] at f;exact absurd f.2.1 AX
    .exact f.2
 .rw[b m];split;.intro h1;exact absurd h0 h1
  .split;.rename_i a;intro _;simp only;refine⟨.inl he,?_⟩;rw[b,Ae rfl,a]
   .rename_i h1 h2;intro j;have f:=ok.Ei m (hm.resolve_right h2) j;refine⟨.inl f.1,?_⟩;rw[b,Ac (ne f.1)];split;.rename_i a;rw[a,hc] at f;have:=(hm.resolve_right h2).1;omega
    .exact f.2
 .intro h1;rcases hm with hm|rfl
  .have h2:=ok.ine m hm h1;refine⟨.inl h2.1,?_⟩;rw[b,Ac (ne h2.1)];split;.rename_i a;rw[a] at h2;exact h2.2
   .exact h2.2
  .exfalso;apply h1;unfold Ar.inr;rw[Ac no]
 .by_cases a:m=A.len+1
  .have l:((A.add {kind:=2,Ei:=e,Cf:=d}).set e {A.nd e with cont:=A.len+1}).up m=e:=by
    have o:m≠e:=by rw[a];exact DG g
    unfold Ar.up;rw[b m];simp[a,DG g]
   rw[l,Ac g,Ae a];intro _;omega
  .have hm:=hm.resolve_right a;have l:((A.add {kind:=2,Ei:=e,Cf:=d}).set e {A.nd e with cont:=A.len+1}).up m=A.up m:=by
    unfold Ar.up;rw[b];split;.rename_i o;rw[o]
    .rfl
   rw[l,Ac a];intro h1;rw[Ac (ne (rV ok hm h1))];exact hr m hm h1
def Ar.elem(A:Ar)(d sp:Int)(nm:Ao)(at_:List A3):Ar:=
 let x:EP:={kind:=4,Cf:=d,A7:=sp,name:=nm,Az:=Cv at_}
 if YR x then
  let b:=A.add x
  let a:=b.Dd d
  (a.add {kind:=2,Ei:=A.len+1,Cf:=b.Fy d}).set (A.len+1) {x with cont:=a.len+1}
 else A.add x
def wO{d sp:Int}{nm:Ao}{l:List A3}(ok:EA A 0)(hd:A.has d/\(A.nd d).kind=1)(hs:0<=sp/\sp<=7)(hl:∀a∈l,0<=a.A7/\a.A7<=7):EA (A.elem d sp nm l) 0:=by
 have hx:rU {kind:=4,Cf:=d,A7:=sp,name:=nm,Az:=Cv l}:=by constructor<;>simp[aI,hs];exact λa ha=>hl a (mV ha)
 unfold Ar.elem;simp only
 split
 .rename_i c;have b:EA A (A.len+1):={ok with jn:=λh g _=>ok.jn h g (by have:=g.1;omega)};have j:=PK b hx (.inr ⟨AH,hd⟩) rfl rfl rfl rfl λ_=>rfl;have dJ:(A.add {kind:=4,Cf:=d,A7:=sp,name:=nm,Az:=Cv l}).has d:=DJ.2 (.inl hd.1);obtain⟨i,h2,m⟩:=qj j dJ (by rw[On];omega);have f:((A.add {kind:=4,Cf:=d,A7:=sp,name:=nm,Az:=Cv l}).Dd d).nd (A.len+1)={kind:=4,Cf:=d,A7:=sp,name:=nm,Az:=Cv l}:=by rw[XQ (.inl (by rw[On];omega)),IC,Ae rfl]
  have:=B_ i (NI (DJ.2 (.inr rfl))) (by rw[f];exact c) (by rw[f]) ⟨h2,m⟩;rw[f] at this;exact this
 .rename_i c;exact PK ok hx (.inr ⟨AH,hd⟩) rfl rfl rfl rfl λh=>absurd h c
end
def aJW(e:Cs):Bool:=decide (e.node=0)
def XR(n:Int)(e:Cs):Bool:=decide (e.node=n)
def rZ(l:List Cs):Int:=AR aJW l+1
def Ff(n:Int)(l:List Cs):Int:=if n=0 then -1 else AR (XR n) l
def PL(name:Ao):List Cs->Int
 |[]=> -1
 |x::t=>if x.node=0 then -1 else if x.name=name then(t.length:Int) else PL name t
def GB(name:Ao)(l:List Cs):Int:=PL name l.reverse
def wQ(e:Cs):List Cs->Nat
 |[]=>0
 |x::t=>if x.node=0 then 0 else wQ e t+(if GC x e=true then 1 else 0)
def m0(e:Cs):List Cs->Int
 |[]=> -1
 |x::t=>if x.node=0 then -1 else if 0<=m0 e t then m0 e t else if GC x e=true then(t.length:Int) else -1
def m6(e:Cs)(l:List Cs):List Cs:=(if e.node≠0/\3<=wQ e l.reverse then Be l (m0 e l.reverse).toNat else l)++[e]
def Gu(l:List Cs):List Cs:=l.take (rZ l-1).toNat
structure BS where
 a:Ar
 Cf:Int
 AY:List Item
 A8:List Cs
 mode:Int
 SB:Int
 tm:List Int
 head:Int
 NJ:Int
 LX:Bool
 ctx:Item
 fs:Bool
 ER:Bool
 m7:Ao
 skip:Bool
 sw:Int
 stop:Bool
def SC(s:List Ao)(A:Ar)(h:Int):Prop:=(A.nd h).kind=4/\(A.nd h).A7=1/\(A.nd h).name∈s
instance(s:List Ao)(A:Ar)(h:Int):Decidable (SC s A h):=by unfold SC;infer_instance
abbrev E8:Ao:=aSR
abbrev TD:Ao:=aTw
abbrev TE:Ao:=aTt
abbrev TF:Ao:=aTx
abbrev wTr:Ao:=[116,114]
abbrev wP:Ao:=[112]
def HJ:List Ao:=[E8,TD,TE,TF,wTr]
namespace BS
def J8(b:BS):Int×Int:=
 let d:=AR (By [Bc]) b.AY
 let c:=AR (By [E8]) b.AY
 if c<d then((Hv b.AY d).node,0) else if c<0 then((Hv b.AY 0).node,0) else
 let t:=(Hv b.AY c).node
 if(b.a.nd t).FL≠0 then((b.a.nd t).FL,t) else((Hv b.AY (max (c-1) 0)).node,0)
def place(b:BS)(t:Int):Int×Int:=
 if t=0/\b.AY=[] then(b.Cf,0) else
 let t':=if t=0 then(Fx b.AY).node else t
 let pb:=if b.ER=true/\SC HJ b.a t' then b.J8 else(t',0)
 if(b.a.nd pb.1).cont≠0 then((b.a.nd pb.1).cont,0) else pb
end BS
open Classical in
def Ar.Et(A:Ar)(h p bf:Int):Ar:=if(A.nd p).kind=1/\(A.nd h).kind=4/\(∃k∈(A.nd p).A6,(A.nd k).kind=4) then A else A.Fq p h bf
namespace BS
def ID(b:BS)(p:Int):Int:=if(b.a.nd p).cont≠0 then(if(b.a.nd (b.a.nd p).cont).Cf≠0 then(b.a.nd (b.a.nd p).cont).Cf else b.Cf) else if(b.a.nd p).Cf≠0 then(b.a.nd p).Cf else b.Cf
def HV(sp:Int):Prop:=0<=sp/\sp<=7
instance(sp:Int):Decidable (HV sp):=by unfold HV;infer_instance
def IE(sp:Int)(nm:Ao):Ao:=if sp=2 then Co nm IZ else nm
def Gv(b:BS)(nm:Ao)(at_:List A3)(sp:Int):Item:=if HV sp then⟨b.a.len+1,sp,IE sp nm,Fl sp (IE sp nm) (at_.map (CZ sp))⟩ else Item.zero
def Em(b:BS)(nm:Ao)(at_:List A3)(sp p:Int):BS:=if HV sp then{b with a:=b.a.elem (b.ID p) sp (IE sp nm) (at_.map (CZ sp))} else b
def OY(b:BS)(sp:Int):Int:=if HV sp then b.a.len+1 else 0
def EG(b:BS)(nm:Ao)(at_:List A3)(sp:Int):BS:=
 if HV sp then
  let pb:=b.place 0
  let b1:=b.Em nm at_ sp pb.1
  {b1 with a:=b1.a.Et (b.a.len+1) pb.1 pb.2,AY:=b1.AY++[b.Gv nm at_ sp]}
 else b
def Kk(b:BS)(nm:Ao)(at_:List A3):BS:=
 let b1:=b.EG nm at_ 1
 {b1 with A8:=m6 ⟨b.a.len+1,nm,at_⟩ b1.A8}
end BS
def HK(r:Int):Ao:=
 if 0<=r/\r<128 then[UInt8.ofNat r.toNat]
 else if 128<=r/\r<2048 then[UInt8.ofNat (192+r.toNat/64),UInt8.ofNat (128+r.toNat%64)]
 else if 2048<=r/\r<65536/\¬(55296<=r/\r<57344) then[UInt8.ofNat (224+r.toNat/4096),UInt8.ofNat (128+r.toNat/64%64),UInt8.ofNat (128+r.toNat%64)]
 else if 65536<=r/\r<=1114111 then[UInt8.ofNat (240+r.toNat/262144),UInt8.ofNat (128+r.toNat/4096%64),UInt8.ofNat (128+r.toNat/64%64),UInt8.ofNat (128+r.toNat%64)]
 else[239,191,189]
def TG(l:List Int)(bf:Int):Option Int:=if bf=0 then l.getLast? else(l.takeWhile λk=>decide (k≠bf)).getLast?
def Ar.SD(A:Ar)(h:Int)(s:Ao):Ar:=A.set h {A.nd h with data:=s}
def Ar.Jv(A:Ar)(h:Int)(l:List A3):Ar:=A.set h {A.nd h with Az:=Cv l}
namespace BS
def LG(A:Ar)(s:Ao)(p bf:Int):Ar:=
 if(A.nd p).kind=4\/(A.nd p).kind=2 then
  match TG (A.nd p).A6 bf with
  |some t=>if(A.nd t).kind=5 then A.SD t ((A.nd t).data++s) else(A.add {kind:=5,Cf:=(A.nd p).Cf,data:=s}).Et (A.len+1) p bf
  |none=>(A.add {kind:=5,Cf:=(A.nd p).Cf,data:=s}).Et (A.len+1) p bf
 else A
def sB(b:BS)(r:Int):BS:={b with a:=LG b.a (HK r) (b.place 0).1 (b.place 0).2}
def E0(A:Ar)(s:Ao)(p bf:Int):Ar:=
 if Ll (A.nd p).kind then(A.add {kind:=6,Cf:=(A.nd p).Cf,data:=s}).Et (A.len+1) p bf else A
def FZ(b:BS)(s:Ao)(p:Int):BS:={b with a:=if p=0 then E0 b.a s (b.place 0).1 (b.place 0).2 else E0 b.a s p 0}
def Qm(b:BS)(nm:Ao)(at_:List A3)(st:Int):BS:=let b1:=b.EG nm at_ 1;{b1 with sw:=st,SB:=b1.mode,mode:=8}
def JQ(b:BS):BS:=if J7 (By [wP]) (JN 3) b.AY.reverse then{b with AY:=DO CX (By [wP]) (DO (Es wP) CX b.AY)} else b
def settled(b:BS)(e:Cs):Bool:=decide (e.node=0\/0<=AR (Bw e.node) b.AY)
def Jw:List Cs->BS->List Cs×BS
 |[],b=>([],b)
 |e::l,b=>let r:=Jw l (b.EG e.name e.Az 1);({e with node:=b.a.len+1}::r.1,r.2)
def Lm(b:BS):Nat:=(AR b.settled b.A8+1).toNat
def DS(b:BS):BS:=let r:=Jw (b.A8.drop b.Lm) b;{r.2 with A8:=b.A8.take b.Lm++r.1}
def Dl(b:BS)(nm:Ao):BS:=match b.AY.reverse.find? λi=>By [nm] i||GS i with
 |some i=>if By [nm] i then{b with AY:=GU i.node (DO (Es nm) CX b.AY)} else b
 |none=>b
def JE(l:List Item):Int:=match l.reverse.find? λi=>By [Bc] i||By [E8] i with
 |some i=>if By [Bc] i then 16 else 17
 |none=>16
end BS
abbrev SE:Ao:=aS2
abbrev Qn:Ao:=aTi
abbrev wR:Ao:=aTy
abbrev Qo:Ao:=aTn
abbrev K6:Ao:=aTz
abbrev ql:Ao:=[116,100]
abbrev qm:Ao:=[116,104]
abbrev QV:Ao:=aTv
abbrev Dz:Ao:=aSC
def Jy:List (Ao×Int):=[(wTr,14),(TD,13),(TF,13),(TE,13),(SE,11),(Qn,12),(E8,9),(wR,7),(Qo,20)]
namespace BS
def Hg(b:BS)(x:Item)(k:Nat):Option Int:=
 if x.A7=1 then
  match Jy.find? λr=>decide (r.1=x.name) with
  |some r=>some r.2
  |none=>
   if x.name=K6 then some (JE (b.AY.take k))
   else if(x.name=ql\/x.name=qm)/\0<k then some 15
   else if x.name=Bc then some (b.tm.getLast?.getD 7)
   else if x.name=QV/\0<k then some 4
   else if x.name=Dz then some (if b.head=0 then 3 else 6)
   else if k=0 then some 7 else none
 else if k=0 then some 7 else none
def Ex(b:BS)(k:Nat):Item:=if k=0/\b.LX=true then b.ctx else b.AY.getD k Item.zero
def LH(b:BS):Nat->Int
 |0=>7
 |k+1=>match b.Hg (b.Ex k) k with
  |some m=>m
  |none=>b.LH k
def IF(b:BS):BS:={b with mode:=b.LH b.AY.length}
def plain(l:List A3):List A3:=l.map λa=>⟨0,a.name,a.value⟩
def Hy(b:BS)(l:List A3)(h:Int):BS:=if(b.a.nd h).kind=4 then{b with a:=b.a.Jv h ((b.a.nd h).Az++plain l)} else b
def Du(b:BS):BS:=
 if AR (By [Bc]) b.AY<0 then b
 else IF {b with AY:=DO CX (By [Bc]) (DO CM CX b.AY),A8:=Gu b.A8,tm:=b.tm.dropLast}
def Ru(b:BS):BS:=if b.AY.length<2 then b else{b with AY:=b.AY.take (b.AY.length-1)}
def sC(b:BS):Item:=if b.AY.length<2 then Item.zero else Fx b.AY
end BS
def Cs.zero:Cs:=⟨0,[],[]⟩
namespace BS
def Fo(blk anc:Int)(far i:Nat)(b:BS)(l:Int)(m:Nat):BS×Int×Nat:=
 let x:=b.AY.getD i Item.zero
 let e:=Ff x.node b.A8
 if e<0 then({b with AY:=Be b.AY i},l,m)
 else if i+3<far then({b with A8:=Be b.A8 e.toNat,AY:=Be b.AY i},l,if e.toNat<m then m-1 else m)
 else
  let en:=b.A8.getD e.toNat Cs.zero
  let n:=b.Gv en.name en.Az 1
  let b1:=b.Em en.name en.Az 1 anc
  ({b1 with a:=b1.a.Fq n.node l 0,AY:=b1.AY.set i n,A8:=b1.A8.set e.toNat {en with node:=n.node}},n.node,if l=blk then e.toNat+1 else m)
def Ky(blk anc:Int)(far k:Nat):Nat->BS×Int×Nat->BS×Int×Nat
 |0,s=>s
 |c+1,s=>Ky blk anc far k c (Fo blk anc far (k+(c+1)) s.1 s.2.1 s.2.2)
def CB(A:Ar)(n:Int)(l:List Int):Ar:=l.foldl (λA x=>A.Fq n x 0) A
def GD(fe:Cs)(blk anc:Int)(s:BS×Int×Nat):BS:=
 let b1:=s.1
 let pb:=b1.place anc
 let b2:={b1 with a:=b1.a.Et s.2.1 pb.1 pb.2}
 let n:=b2.Gv fe.name fe.Az 1
 let b3:=b2.Em fe.name fe.Az 1 blk
 let b:=Ff fe.node b3.A8
 let mk:=if b.toNat<s.2.2 then s.2.2 -1 else s.2.2
 let ac:=Be b3.A8 b.toNat
 let op:=CY fe.node b3.AY
 let ip:=EZ (AR (Bw blk) op+1) op.length
 {b3 with a:=(CB b3.a n.node (b3.a.nd blk).A6).Fq blk n.node 0,A8:=ac.take (CH mk ac.length)++{fe with node:=n.node}::ac.drop (CH mk ac.length),AY:=op.take ip++n::op.drop ip}
def round(b:BS)(nm:Ao):Bool×BS:=
 let f:=GB nm b.A8
 if f<0 then(false,b.Dl nm) else
 let fe:=b.A8.getD f.toNat Cs.zero
 let k:=AR (Bw fe.node) b.AY
 if k<0 then(false,{b with A8:=Be b.A8 f.toNat}) else
 if k=0\/J7 (Bw fe.node) (JN 1) b.AY.reverse=false then(false,b) else
 let far:=D0 fe.node b.AY
 if far<0 then(false,{b with AY:=GU fe.node b.AY,A8:=Be b.A8 f.toNat}) else
 let blk:=(b.AY.getD far.toNat Item.zero).node
 let anc:=(b.AY.getD (k.toNat-1) Item.zero).node
 (true,GD fe blk anc (Ky blk anc far.toNat k.toNat (far.toNat-1 -k.toNat) (b,blk,f.toNat)))
def Ed:Nat->BS->Ao->BS
 |0,b,_=>b
 |n+1,b,nm=>let r:=b.round nm;if r.1 then Ed n r.2 nm else r.2
def Ig(b:BS)(nm:Ao):BS:=
 if By [nm] (Fx b.AY)/\Ff (Fx b.AY).node b.A8<0 then b.Ru else Ed 8 b nm
end BS
structure Le(A A':Ar):Prop where
 has:∀h,A.has h->A'.has h
 kind:∀h,A.has h->(A'.nd h).kind=(A.nd h).kind
 A7:∀h,A.has h->(A'.nd h).A7=(A.nd h).A7
 name:∀h,A.has h->(A'.nd h).name=(A.nd h).name
section
variable{A A' A'':Ar}{h k e p n b:Int}{x:EP}
def Le.refl:Le A A:=⟨λ_ h=>h,λ_ _=>rfl,λ_ _=>rfl,λ_ _=>rfl⟩
def Le.trans(h1:Le A A')(h2:Le A' A''):Le A A'':=⟨λh a=>h2.has h (h1.has h a),λh a=>by rw[h2.kind h (h1.has h a),h1.kind h a],λh a=>by rw[h2.A7 h (h1.has h a),h1.A7 h a],λh a=>by rw[h2.name h (h1.has h a),h1.name h a]⟩
def Le.ś(h1:∀h,A.has h->A'.has h)(h2:∀h,A.has h->A'.nd h=A.nd h):Le A A':=⟨h1,λh a=>by rw[h2 h a],λh a=>by rw[h2 h a],λh a=>by rw[h2 h a]⟩
def XS(a:A.has h):h≠A.len+1:=λe=>Rs (A:=A) (e▸a)
def Mq(a:A.has h):(A.add x).nd h=A.nd h:=by rw[IC,Ac (XS a)]
def TH:Le A (A.add x):= .ś (λh a=>DJ.2 (.inl a)) λh a=>Mq a
def XT(h1:x.kind=(A.nd h).kind)(h2:x.A7=(A.nd h).A7)(a:x.name=(A.nd h).name):Le A (A.set h x):=by
 refine⟨λk hk=>Il.2 hk,?_,?_,?_⟩<;>intro k hk<;>rw[JP]<;>split;.rename_i e;rw[e.1,h1]
 .rfl
 .rename_i e;rw[e.1,h2]
 .rfl
 .rename_i e;rw[e.1,a]
 .rfl
def wS{l:List Int}:Le A (A.set h {A.nd h with A6:=l}):=XT rfl rfl rfl
def wT:Le A (A.set h {A.nd h with FL:=p}):=XT rfl rfl rfl
def aBI:Le A (A.cut n):=by
 unfold Ar.cut;simp only;split;.exact .refl
 .exact Le.trans wS wT
def aBJ:Le A (A.MN p n b):=Le.trans wS wT
def MW:Le A (A.Fq p n b):=by unfold Ar.Fq;split;exact aBI.trans aBJ;exact .refl
def I3:Le A (A.Et n p b):=by unfold Ar.Et;split;exact .refl;exact MW
def Oq(ok:EA A e):EA (A.Et n p b) e:=by unfold Ar.Et;split;exact ok;exact Oo ok
def m8{d sp:Int}{nm:Ao}{l:List A3}(a:A.has h):(A.elem d sp nm l).has h/\(A.elem d sp nm l).nd h=A.nd h:=by
 have hne:=XS a;unfold Ar.elem;simp only
 split;.have h1:(A.add {kind:=4,Cf:=d,A7:=sp,name:=nm,Az:=Cv l}).has h:=DJ.2 (.inl a);refine⟨Il.2 (DJ.2 (.inl (NI h1))),?_⟩;rw[JP,Ac (λe=>hne e.1),Mq (NI h1),XQ (.inl (XS h1)),Mq a]
 .exact⟨DJ.2 (.inl a),Mq a⟩
def m9{d sp:Int}{nm:Ao}{l:List A3}:(A.elem d sp nm l).has (A.len+1)/\((A.elem d sp nm l).nd (A.len+1)).kind=4/\((A.elem d sp nm l).nd (A.len+1)).A7=sp/\((A.elem d sp nm l).nd (A.len+1)).name=nm/\((A.elem d sp nm l).nd (A.len+1)).A6=[]/\((A.elem d sp nm l).nd (A.len+1)).FL=0/\((A.elem d sp nm l).nd (A.len+1)).Cf=d/\((A.elem d sp nm l).nd (A.len+1)).Az=Cv l:=by
 unfold Ar.elem;simp only
 split;.have h1:(A.add {kind:=4,Cf:=d,A7:=sp,name:=nm,Az:=Cv l}).has (A.len+1):=DJ.2 (.inr rfl);have h2:=DJ (x:={kind:=2,Ei:=A.len+1,Cf:=(A.add {kind:=4,Cf:=d,A7:=sp,name:=nm,Az:=Cv l}).Fy d}).2 (.inl (NI (h:=d) h1));rw[Il,JP,Ae ⟨rfl,h2⟩];exact⟨h2,rfl,rfl,rfl,rfl,rfl,rfl,rfl⟩
 .rw[IC,Ae rfl];exact⟨DJ.2 (.inr rfl),rfl,rfl,rfl,rfl,rfl,rfl,rfl⟩
def VI{d sp:Int}{nm:Ao}{l:List A3}:Le A (A.elem d sp nm l):= .ś (λ_ h=>(m8 h).1) λ_ h=>(m8 h).2
def nA{l:List A3}(ok:EA A e)(c:A.has h)(hk:(A.nd h).kind=4)(hl:∀a∈l,0<=a.A7/\a.A7<=7):EA (A.Jv h l) e:=by have hx:=ok.RH h c;refine rY ok c ⟨hx.k,hx.A6,λh=>absurd hk h,hx.nm,hx.dt,hx.data,hx.Cq,hx.sp,λa ha=>hl a (mV ha),aI l,hx.SA,hx.OO,hx.root,hx.wK⟩ rfl rfl rfl ⟨(ok.Cf h c).1,(ok.Cf h c).2,ok.Zl h c⟩ rfl rfl λd=>d
def sD{s:Ao}(ok:EA A e)(a:A.has h)(hk:(A.nd h).kind=5\/(A.nd h).kind=6):EA (A.SD h s) e:=by have hx:=ok.RH h a;refine rY ok a ⟨hx.k,hx.A6,hx.elem,hx.nm,hx.dt,λf d=>by have:(A.nd h).kind≠5:=f;have:(A.nd h).kind≠6:=d;omega,hx.Cq,hx.sp,hx.qe,hx.Cv,hx.SA,hx.OO,hx.root,hx.wK⟩ rfl rfl rfl ⟨(ok.Cf h a).1,(ok.Cf h a).2,ok.Zl h a⟩ rfl rfl λc=>c
def dM{kd d:Int}{s:Ao}(ok:EA A e)(he:e≠A.len+1)(hd:A.has d/\(A.nd d).kind=1)(hk:kd=5\/kd=6):EA (A.add {kind:=kd,Cf:=d,data:=s}) e:=by
 refine PK ok ?_ (.inr ⟨Ee,hd⟩) rfl rfl rfl rfl (λh=>?_);.constructor<;>simp[Cv,GA]<;>omega
 .have:=h.1;simp at this;omega
def sE{s:Ao}:Le A (A.SD h s):=XT rfl rfl rfl
def nB{l:List A3}:Le A (A.Jv h l):=XT rfl rfl rfl
def dN{sp:Int}{a:A3}:0<=(CZ sp a).A7/\(CZ sp a).A7<=7:=by
 unfold CZ;split
 .split
  .rename_i s m he;have:∀x∈fT,0<=x.2.1/\x.2.1<=7:=AX;unfold D8 at he;cases hf:fT.find? λx=>decide (Kj sp a.name=x.1) with
   |none=>rw[hf] at he;cases he
   |some y=>rw[hf] at he;have:=this y (QE hf);simp at he;rw[he] at this;exact this
  .exact⟨Gw 0,AH⟩
 .exact⟨Gw 0,AH⟩
end
structure Eu(b:BS):Prop where
 ok:EA b.a 0
 Cf:b.a.has b.Cf/\(b.a.nd b.Cf).kind=1
 op:∀i∈b.AY,b.a.has i.node/\(b.a.nd i.node).kind=4/\(b.a.nd i.node).A7=i.A7/\(b.a.nd i.node).name=i.name
 xg:(b.AY.map Item.node).Nodup
 ac:∀e∈b.A8,e.node=0\/(b.a.has e.node/\(b.a.nd e.node).kind=4)
 fg:((b.A8.map Cs.node).filter λn=>decide (n≠0)).Nodup
structure BA(b:BS):Prop where
 ok:EA b.a 0
 Cf:b.a.has b.Cf/\(b.a.nd b.Cf).kind=1
def Eu.ba{b:BS}(o:Eu b):BA b:=⟨o.ok,o.Cf⟩
instance{b:BS}:Coe (Eu b) (BA b):=⟨Eu.ba⟩
section
variable{b:BS}{t:Int}
def C_{A A':Ar}{l:List Item}(hl:Le A A')(h:∀i∈l,A.has i.node/\(A.nd i.node).kind=4/\(A.nd i.node).A7=i.A7/\(A.nd i.node).name=i.name):∀i∈l,A'.has i.node/\(A'.nd i.node).kind=4/\(A'.nd i.node).A7=i.A7/\(A'.nd i.node).name=i.name:=by intro i hi;have:=h i hi;rw[hl.kind _ this.1,hl.A7 _ this.1,hl.name _ this.1];exact⟨hl.has _ this.1,this.2⟩
def wU{A A':Ar}{l:List Cs}(hl:Le A A')(h:∀e∈l,e.node=0\/(A.has e.node/\(A.nd e.node).kind=4)):∀e∈l,e.node=0\/(A'.has e.node/\(A'.nd e.node).kind=4):=by
 intro e he;rcases h e he with h|h
 .exact .inl h
 .rw[hl.kind _ h.1];exact .inr ⟨hl.has _ h.1,h.2⟩
def Eu.I4(o:Eu b){A:Ar}(ok:EA A 0)(hl:Le b.a A):Eu {b with a:=A}:=
 ⟨ok,by rw[hl.kind _ o.Cf.1];exact⟨hl.has _ o.Cf.1,o.Cf.2⟩,C_ hl o.op,o.xg,wU hl o.ac,o.fg⟩
def Eu.aJX(o:Eu b){l:List Item}(h1:∀i∈l,i∈b.AY)(h2:(l.map Item.node).Nodup):Eu {b with AY:=l}:=
 ⟨o.ok,o.Cf,λi hi=>o.op i (h1 i hi),h2,o.ac,o.fg⟩
def Eu.dO(o:Eu b){l:List Item}(h1:List.Sublist l b.AY):Eu {b with AY:=l}:=o.aJX (λ_ hi=>h1.subset hi) (o.xg.sublist (h1.map _))
def Eu.sF(o:Eu b){l:List Cs}(h1:List.Sublist l b.A8):Eu {b with A8:=l}:=
 ⟨o.ok,o.Cf,o.op,o.xg,λe he=>o.ac e (h1.subset he),o.fg.sublist ((h1.map _).filter _)⟩
def Fg{p q:Item->Bool}{l:List Item}:List.Sublist (DO p q l) l:=by
 have key:∀r:List Item,List.Sublist (PF p q r) r:=by
  intro r;induction r with
  |nil=>exact A4 _
  |cons x r ih=>
   cases r with
   |nil=>exact A4 _
   |cons y r=>
    rw[PF];split;.exact A4 _
    .split;.exact T1 _ _
     .exact ih.trans (T1 _ _)
 have:=(key l.reverse).reverse;rwa [Fj] at this
def IG{n:Int}{l:List Item}:List.Sublist (GU n l) l:=by unfold GU;split;exact A4 _;exact Fg
def De{U:Type}{l:List U}{k:Nat}:List.Sublist (Be l k) l:=by
 unfold Be;conv=>rhs;rw[<-CF k l]
 refine List.Sublist.append (A4 _) ?_;rw[<-Eg];exact aOo _ _
def Ln{n:Int}{l:List Item}:List.Sublist (CY n l) l:=by unfold CY;split;exact A4 _;exact De
def Mr{l:List Item}{i:Int}(h0:0<=i)(h1:i<l.length):Hv l i∈l:=by unfold Hv;rw[Ae h0,AJ,Ai Ab];exact AL _
def KO{U:Type}{q:U->Bool}{l:List U}:AR q l<l.length∧-1<=AR q l:=by rcases Dc (q:=q) (l:=l) with⟨h1,_⟩|⟨n,hn,h1,_⟩<;>rw[h1]<;>omega
def fh{l:List Item}(h:l≠[]):Fx l∈l:=by have:0<l.length:=EC.2 h;exact Mr Ab Ab
def D_(o:Eu b)(hn:b.AY≠[]):b.a.has b.J8.1/\(b.J8.2≠0->b.a.has b.J8.2/\(b.a.nd b.J8.2).FL=b.J8.1):=by
 have hl:0<b.AY.length:=EC.2 hn;have h1:=KO (q:=By [Bc]) (l:=b.AY);have h2:=KO (q:=By [E8]) (l:=b.AY);unfold BS.J8;simp only
 split;.exact⟨(o.op _ (Mr Ab Ab)).1,λh=>absurd rfl h⟩
 .split;.exact⟨(o.op _ (Mr Ab Ab)).1,λh=>absurd rfl h⟩
  .have c:=o.op _ (Mr (l:=b.AY) (i:=AR (By [E8]) b.AY) Ab Ab);split;.rename_i hp;exact⟨(o.ok.FL _ c.1 hp).1,λ_=>⟨c.1,rfl⟩⟩
   .exact⟨(o.op _ (Mr Ab Ab)).1,λh=>absurd rfl h⟩
def XU(o:Eu b)(ht:t=0\/(b.a.has t/\b.AY≠[])):b.a.has (b.place t).1/\((b.place t).2≠0->b.a.has (b.place t).2/\(b.a.nd (b.place t).2).FL=(b.place t).1):=by
 unfold BS.place;simp only
 split;.exact⟨o.Cf.1,λh=>absurd rfl h⟩
 .rename_i h0;have hn:b.AY≠[]:=by
   rcases ht with h|h
   .intro h2;exact h0 ⟨h,h2⟩
   .exact h.2
  have h1:b.a.has (if t=0 then(Fx b.AY).node else t):=by
   split;.exact(o.op _ (fh hn)).1
   .rename_i h2;exact(ht.resolve_left h2).1
  generalize(if t=0 then(Fx b.AY).node else t)=t' at h1;have h2:b.a.has (if b.ER=true/\SC HJ b.a t' then b.J8 else(t',0)).1/\((if b.ER=true/\SC HJ b.a t' then b.J8 else(t',0)).2≠0->b.a.has (if b.ER=true/\SC HJ b.a t' then b.J8 else(t',0)).2/\(b.a.nd (if b.ER=true/\SC HJ b.a t' then b.J8 else(t',0)).2).FL=(if b.ER=true/\SC HJ b.a t' then b.J8 else(t',0)).1):=by
   split;.exact D_ o hn
   .exact⟨h1,λh=>absurd rfl h⟩
  generalize(if b.ER=true/\SC HJ b.a t' then b.J8 else(t',0))=pb at h2;split;.rename_i hc;exact⟨(o.ok.cont _ h2.1 hc).1,λh=>absurd rfl h⟩
  .exact h2
def Qp(o:BA b){p:Int}:b.a.has (b.ID p)/\(b.a.nd (b.ID p)).kind=1:=by
 unfold BS.ID;by_cases hp:b.a.has p
 .have key:∀q,b.a.has q->b.a.has (if(b.a.nd q).Cf≠0 then(b.a.nd q).Cf else b.Cf)/\(b.a.nd (if(b.a.nd q).Cf≠0 then(b.a.nd q).Cf else b.Cf)).kind=1:=by
   intro q hq;split;.exact o.ok.Cf q hq
   .exact o.Cf
  split;.rename_i hc;exact key _ (o.ok.cont p hp hc).1
  .exact key p hp
 .rw[HE hp];exact o.Cf
variable{nm:Ao}{at_:List A3}{sp p:Int}
structure qn(b b1:BS)(i:Item):Prop where
 has:b1.a.has i.node
 kind:(b1.a.nd i.node).kind=4
 A7:(b1.a.nd i.node).A7=i.A7
 name:(b1.a.nd i.node).name=i.name
 new:¬b.a.has i.node
def PM(o:Eu b)(hs:BS.HV sp):Eu (b.Em nm at_ sp p)/\qn b (b.Em nm at_ sp p) (b.Gv nm at_ sp)/\Le b.a (b.Em nm at_ sp p).a:=by
 have hd:=Qp o.ba (p:=p);unfold BS.Em BS.Gv;rw[Ae hs,Ae hs];have ok:=wO (sp:=sp) (nm:=BS.IE sp nm) (l:=at_.map (CZ sp)) o.ok hd hs (by intro a ha;obtain⟨c,_,rfl⟩:=Bj.1 ha;exact dN)
 have hn:=m9 (A:=b.a) (d:=b.ID p) (sp:=sp) (nm:=BS.IE sp nm) (l:=at_.map (CZ sp));exact⟨o.I4 ok VI,⟨hn.1,hn.2.1,hn.2.2.1,hn.2.2.2.1,Rs⟩,VI⟩
def qo(o:BA b)(hs:BS.HV sp):BA (b.Em nm at_ sp p):=by
 have hd:=Qp o (p:=p);unfold BS.Em;rw[Ae hs];have ok:=wO (sp:=sp) (nm:=BS.IE sp nm) (l:=at_.map (CZ sp)) o.ok hd hs (by intro a ha;obtain⟨c,_,rfl⟩:=Bj.1 ha;exact dN)
 have l:Le b.a _:=VI (A:=b.a) (d:=b.ID p) (sp:=sp) (nm:=BS.IE sp nm) (l:=at_.map (CZ sp));exact⟨ok,by rw[l.kind _ o.Cf.1];exact⟨l.has _ o.Cf.1,o.Cf.2⟩⟩
def NL(o:Eu b){b1:BS}{i:Item}(f:qn b b1 i):i.node∉b.AY.map Item.node:=by intro h;obtain⟨j,hj,e⟩:=Bj.1 h;exact f.new (e▸(o.op j hj).1)
def Qq(o:Eu b){b1:BS}{i:Item}(f:qn b b1 i):i.node∉b.A8.map Cs.node:=by
 intro h;obtain⟨j,hj,e⟩:=Bj.1 h;rcases o.ac j hj with h1|h1
 .have:=f.has.1;omega
 .exact f.new (e▸h1.1)
def fj{U:Type}[DecidableEq U]{l:List U}{k:Nat}{x:U}(h:l.Nodup)(hx:x∉l):(l.take k++x::l.drop k).Nodup:=by
 have e:=CF k l;rw[B2];rw[<-e,B2] at h;refine⟨h.1,B5.2 ⟨λh1=>hx (BB h1),h.2.1⟩,?_⟩;rintro a ha c hc rfl;rcases AT.1 hc with rfl|hc
 .exact hx (Bm ha)
 .exact h.2.2 _ ha _ hc rfl
def sG{U:Type}[DecidableEq U]{l:List U}{k:Nat}{x:U}(h:l.Nodup)(hx:x∉l):(l.set k x).Nodup:=by
 rw[BY];split
 .have e:=CF k l;rw[B2];rw[<-e,B2] at h;have hd:List.Sublist (l.drop (k+1)) (l.drop k):=by rw[<-Eg];exact aOo _ _
  refine⟨h.1,B5.2 ⟨λh1=>hx (BB h1),h.2.1.sublist hd⟩,?_⟩;rintro a ha c hc rfl;rcases AT.1 hc with rfl|hc
  .exact hx (Bm ha)
  .exact h.2.2 _ ha _ (hd.subset hc) rfl
 .exact h
def aJ{U Z:Type}(f:U->Z)(l:List U)(k:Nat)(x:U):(l.take k++x::l.drop k).map f=(l.map f).take k++f x::(l.map f).drop k:=AH
def Eu.aBK(o:Eu b){i:Item}{k:Nat}(h1:b.a.has i.node/\(b.a.nd i.node).kind=4/\(b.a.nd i.node).A7=i.A7/\(b.a.nd i.node).name=i.name)(h2:i.node∉b.AY.map Item.node):Eu {b with AY:=b.AY.take k++i::b.AY.drop k}:=by
 refine⟨o.ok,o.Cf,?_,by show((b.AY.take k++i::b.AY.drop k).map Item.node).Nodup;rw[aJ];exact fj o.xg h2,o.ac,o.fg⟩;intro j hj;rcases Ax.1 hj with hj|hj
 .exact o.op j (Bm hj)
 .rcases AT.1 hj with rfl|hj
  .exact h1
  .exact o.op j (BB hj)
def Eu.sH(o:Eu b){i:Item}{k:Nat}(h1:b.a.has i.node/\(b.a.nd i.node).kind=4/\(b.a.nd i.node).A7=i.A7/\(b.a.nd i.node).name=i.name)(h2:i.node∉b.AY.map Item.node):Eu {b with AY:=b.AY.set k i}:=by
 refine⟨o.ok,o.Cf,?_,by show((b.AY.set k i).map Item.node).Nodup;rw[Ek];exact sG o.xg h2,o.ac,o.fg⟩;intro j hj;rcases C8 hj with hj|rfl
 .exact o.op j hj
 .exact h1
def qp{l:List Int}{k:Nat}{x:Int}(h:(l.filter λn=>decide (n≠0)).Nodup)(hx:x∉l):((l.take k++x::l.drop k).filter λn=>decide (n≠0)).Nodup:=by
 have e:=CF k l;rw[<-e,DV,B2] at h;rw[DV,B2];by_cases h0:x=0;.subst h0;simpa using h
 .rw[aAr (by simpa using h0)];refine⟨h.1,B5.2 ⟨λh1=>hx (BB ((DH.1 h1).1)),h.2.1⟩,?_⟩;rintro a ha c hc rfl;rcases AT.1 hc with rfl|hc
  .exact hx (Bm (DH.1 ha).1)
  .exact h.2.2 _ ha _ hc rfl
def qq{l:List Int}{k:Nat}{x:Int}(h:(l.filter λn=>decide (n≠0)).Nodup)(hx:x∉l):((l.set k x).filter λn=>decide (n≠0)).Nodup:=by
 rw[BY];split
 .have h2:(((l.take k++l.drop (k+1))).filter λn=>decide (n≠0)).Nodup:=h.sublist ((show List.Sublist (Be l k) l from De).filter _);rw[DV,B2] at h2⊢;by_cases h0:x=0;.subst h0;simpa using h2
  .rw[aAr (by simpa using h0)];refine⟨h2.1,B5.2 ⟨λh1=>hx (BB ((DH.1 h1).1)),h2.2.1⟩,?_⟩;rintro a ha c hc rfl;rcases AT.1 hc with rfl|hc
   .exact hx (Bm (DH.1 ha).1)
   .exact h2.2.2 _ ha _ hc rfl
 .exact h
def Eu.aBL(o:Eu b){e:Cs}{k:Nat}(h1:e.node=0\/(b.a.has e.node/\(b.a.nd e.node).kind=4))(h2:e.node=0\/e.node∉b.A8.map Cs.node):Eu {b with A8:=b.A8.take k++e::b.A8.drop k}:=by
 refine⟨o.ok,o.Cf,o.op,o.xg,?_,?_⟩
 .intro j hj;rcases Ax.1 hj with hj|hj
  .exact o.ac j (Bm hj)
  .rcases AT.1 hj with rfl|hj
   .exact h1
   .exact o.ac j (BB hj)
 .show(((b.A8.take k++e::b.A8.drop k).map Cs.node).filter _).Nodup;rw[aJ];rcases h2 with h2|h2
  .have:=o.fg;conv at this=>rw[<-CF k (b.A8.map Cs.node),DV]
   rw[DV,List.filter_cons_of_neg (by simp[h2])];exact this
  .exact qp o.fg h2
def Eu.sI(o:Eu b){e:Cs}{k:Nat}(h1:b.a.has e.node/\(b.a.nd e.node).kind=4)(h2:e.node∉b.A8.map Cs.node):Eu {b with A8:=b.A8.set k e}:=by
 refine⟨o.ok,o.Cf,o.op,o.xg,?_,?_⟩
 .intro j hj;rcases C8 hj with hj|rfl
  .exact o.ac j hj
  .exact .inr h1
 .show(((b.A8.set k e).map Cs.node).filter _).Nodup;rw[Ek];exact qq o.fg h2
def PO(o:Eu b):Eu (b.EG nm at_ sp):=by
 unfold BS.EG;split
 .rename_i hs;obtain⟨d,f,hl⟩:=PM (nm:=nm) (at_:=at_) (p:=(b.place 0).1) o hs;have g:=d.I4 (Oq (n:=b.a.len+1) (p:=(b.place 0).1) (b:=(b.place 0).2) d.ok) I3;have hn:(b.Gv nm at_ sp).node=b.a.len+1:=by unfold BS.Gv;rw[Ae hs]
  have c:Le (b.Em nm at_ sp (b.place 0).1).a ((b.Em nm at_ sp (b.place 0).1).a.Et (b.a.len+1) (b.place 0).1 (b.place 0).2):=I3;have ho:(b.Em nm at_ sp (b.place 0).1).AY=b.AY:=by unfold BS.Em;rw[Ae hs]
  have:=g.aBK (i:=b.Gv nm at_ sp) (k:=b.AY.length) ⟨c.has _ f.has,by rw[c.kind _ f.has];exact f.kind,by rw[c.A7 _ f.has];exact f.A7,by rw[c.name _ f.has];exact f.name⟩ (by simp only[ho];exact NL o f);simp only[ho,Bv,El] at this;simp only[ho];exact this
 .exact o
def XV{l:List Cs}{e:Cs}:∃l',List.Sublist l' l/\m6 e l=l'++[e]:=by
 unfold m6;split;.exact⟨_,De,rfl⟩
 .exact⟨_,A4 _,rfl⟩
def E_:Le b.a (b.EG nm at_ sp).a:=by
 unfold BS.EG BS.Em;split;.exact Le.trans VI I3
 .exact .refl
def nC(hs:BS.HV sp):(b.EG nm at_ sp).a.has (b.a.len+1)/\((b.EG nm at_ sp).a.nd (b.a.len+1)).kind=4:=by
 unfold BS.EG BS.Em;rw[Ae hs];simp only
 rw[Ae hs];have hn:=m9 (A:=b.a) (d:=b.ID (b.place 0).1) (sp:=sp) (nm:=BS.IE sp nm) (l:=at_.map (CZ sp));exact⟨I3.has _ hn.1,by rw[I3.kind _ hn.1];exact hn.2.1⟩
def Fh:(b.EG nm at_ sp).A8=b.A8:=by unfold BS.EG BS.Em;split<;>rfl
def JW:BS.HV 1:=⟨AX,AX⟩
def F_(o:Eu b):b.a.len+1∉b.A8.map Cs.node:=by
 intro h;obtain⟨j,hj,e⟩:=Bj.1 h;rcases o.ac j hj with h1|h1
 .unfold Ar.len at e;omega
 .exact Rs (e▸h1.1)
def fk(o:Eu b):Eu (b.Kk nm at_):=by
 have d:=PO (nm:=nm) (at_:=at_) (sp:=1) o;unfold BS.Kk;simp only
 obtain⟨l',h1,h2⟩:=XV (l:=(b.EG nm at_ 1).A8) (e:=⟨b.a.len+1,nm,at_⟩);rw[h2];have c:=d.sF h1;have:=c.aBL (e:=⟨b.a.len+1,nm,at_⟩) (k:=l'.length) (.inr (nC JW)) (.inr (by intro h;rw[Fh] at h1;exact F_ o ((h1.map Cs.node).subset h)))
 simpa using this
def Eu.of_eq{c:BS}(o:Eu b)(h1:c.a=b.a)(h2:c.Cf=b.Cf)(f:c.AY=b.AY)(d:c.A8=b.A8):Eu c:=
 ⟨h1▸o.ok,by rw[h1,h2];exact o.Cf,by rw[h1,f];exact o.op,by rw[f];exact o.xg,by rw[h1,d];exact o.ac,by rw[d];exact o.fg⟩
def sJ{l:List Int}{bf t:Int}(h:TG l bf=some t):t∈l:=by
 unfold TG at h;split at h;.exact aH2 h
 .exact(List.takeWhile_sublist _).subset (aH2 h)
def fm{A:Ar}{s:Ao}{p bf:Int}(ok:EA A 0)(hp:A.has p):EA (BS.LG A s p bf) 0/\Le A (BS.LG A s p bf):=by
 have h0:(0:Int)≠A.len+1:=by unfold Ar.len;omega
 have ha:=Oq (n:=A.len+1) (p:=p) (b:=bf) (dM (s:=s) (kd:=5) ok h0 (ok.Cf p hp) (.inl rfl));have hl:Le A ((A.add {kind:=5,Cf:=(A.nd p).Cf,data:=s}).Et (A.len+1) p bf):=Le.trans TH I3;unfold BS.LG;split
 .split
  .rename_i t ht;split;.rename_i hk;exact⟨sD ok (ok.MK p hp _ (sJ ht)).1 (.inl hk),sE⟩
   .exact⟨ha,hl⟩
  .exact⟨ha,hl⟩
 .exact⟨ok,.refl⟩
def G_(o:Eu b){r:Int}:Eu (b.sB r):=by have h:=fm (s:=HK r) (bf:=(b.place 0).2) o.ok (XU o (.inl rfl)).1;exact o.I4 h.1 h.2
def SF{A:Ar}{s:Ao}{p bf:Int}(ok:EA A 0):EA (BS.E0 A s p bf) 0/\Le A (BS.E0 A s p bf):=by
 unfold BS.E0;split
 .rename_i hk;have hp:A.has p:=by
   by_cases hp:A.has p;.exact hp
   .rw[HE hp] at hk;unfold Ll at hk;simp at hk
  have h0:(0:Int)≠A.len+1:=by unfold Ar.len;omega
  exact⟨Oq (dM (s:=s) (kd:=6) ok h0 (ok.Cf p hp) (.inr rfl)),Le.trans TH I3⟩
 .exact⟨ok,.refl⟩
def XW(o:Eu b){s:Ao}{p:Int}:Eu (b.FZ s p):=by
 unfold BS.FZ;split;.have h:=SF (s:=s) (p:=(b.place 0).1) (bf:=(b.place 0).2) o.ok;exact o.I4 h.1 h.2
 .have h:=SF (s:=s) (p:=p) (bf:=0) o.ok;exact o.I4 h.1 h.2
def sK(o:Eu b){st:Int}:Eu (b.Qm nm at_ st):=(PO o).of_eq rfl rfl rfl rfl
def fo(o:Eu b):Eu b.JQ:=by
 unfold BS.JQ;split;.exact o.dO (Fg.trans Fg)
 .exact o
def aK(o:Eu b):Eu (b.Dl nm):=by
 unfold BS.Dl;split
 .split;.exact o.dO (IG.trans Fg)
  .exact o
 .exact o
def SG(o:Eu b):Eu b.IF:=o.of_eq rfl rfl rfl rfl
def qt(o:Eu b){l:List A3}{h:Int}:Eu (b.Hy l h):=by
 unfold BS.Hy;split
 .rename_i hk;have d:b.a.has h:=by
   by_cases hp:b.a.has h;.exact hp
   .rw[HE hp] at hk;simp at hk
  refine o.I4 (nA o.ok d hk ?_) nB;intro a ha;rcases Ax.1 ha with ha|ha
  .exact(o.ok.RH h d).qe a ha
  .obtain⟨c,_,rfl⟩:=Bj.1 ha;simp
 .exact o
def XX(o:Eu b):Eu b.Du:=by
 unfold BS.Du;split;.exact o
 .have a:=(o.dO (Fg (p:=CX) (q:=By [Bc]) (l:=DO CM CX b.AY) |>.trans Fg)).sF (l:=Gu b.A8) (Eb _ _);exact(SG (b:={b with AY:=DO CX (By [Bc]) (DO CM CX b.AY),A8:=Gu b.A8,tm:=b.tm.dropLast}) (a.of_eq rfl rfl rfl rfl))
def qu(o:Eu b):Eu b.Ru:=by
 unfold BS.Ru;split;.exact o
 .exact o.dO (Eb _ _)
structure aE1(b:BS)(l:List Cs)(r:List Cs×BS):Prop where
 ok:Eu r.2
 le:Le b.a r.2.a
 A8:r.2.A8=b.A8
 len:r.1.length=l.length
 nodes:∀e∈r.1,r.2.a.has e.node/\(r.2.a.nd e.node).kind=4/\¬b.a.has e.node
 Ŝ:(r.1.map Cs.node).Nodup
 aE2:r.1.map Cs.name=l.map Cs.name
def wV:∀{l:List Cs} {b:BS},Eu b->aE1 b l (BS.Jw l b)
 |[],b,o=>by
  refine⟨o,.refl,rfl,rfl,?_,?_,rfl⟩;.intro e he;cases he
  .exact MC
 |e::l,b,o=>by
  have d:=PO (nm:=e.name) (at_:=e.Az) (sp:=1) o;have r:=wV (l:=l) d;have hl:Le b.a (b.EG e.name e.Az 1).a:=E_;have hn:=nC (b:=b) (nm:=e.name) (at_:=e.Az) JW;refine⟨r.ok,hl.trans r.le,r.A8.trans Fh,by simp[BS.Jw,r.len],?_,?_,by simp[BS.Jw,r.aE2]⟩
  .intro c hc;rcases AT.1 hc with rfl|hc
   .exact⟨r.le.has _ hn.1,(r.le.kind _ hn.1).trans hn.2,Rs⟩
   .have:=r.nodes c hc;exact⟨this.1,this.2.1,λh=>this.2.2 (hl.has _ h)⟩
  .simp only[BS.Jw,Bk,B5];refine⟨λh=>?_,r.Ŝ⟩;obtain⟨c,hc,f⟩:=Bj.1 h;exact(r.nodes c hc).2.2 (f▸hn.1)
def sL(o:Eu b):Eu b.DS:=by
 have r:=wV (l:=b.A8.drop b.Lm) o;unfold BS.DS;simp only
 have hc:=wU r.le o.ac;refine⟨r.ok.ok,r.ok.Cf,r.ok.op,r.ok.xg,?_,?_⟩
 .intro e he;rcases Ax.1 he with he|he
  .exact hc e (Bm he)
  .exact .inr ⟨(r.nodes e he).1,(r.nodes e he).2.1⟩
 .show(((b.A8.take b.Lm++(BS.Jw (b.A8.drop b.Lm) b).1).map Cs.node).filter _).Nodup;rw[BF,DV,B2];refine⟨o.fg.sublist (((Eb _ _).map _).filter _),r.Ŝ.filter _,?_⟩;rintro a ha c IV rfl;obtain⟨j,h1,rfl⟩:=Bj.1 (DH.1 ha).1;obtain⟨i,h2,g⟩:=Bj.1 (DH.1 IV).1;have d:=(r.nodes i h2);rw[g] at d;rcases o.ac j (Bm h1) with f|f
  .have:=d.1.1;omega
  .exact d.2.2 f.1
def XY(o:Eu b){blk anc:Int}{far i:Nat}{l:Int}{m:Nat}(hl:b.a.has l):Eu (BS.Fo blk anc far i b l m).1/\(BS.Fo blk anc far i b l m).1.a.has (BS.Fo blk anc far i b l m).2.1/\Le b.a (BS.Fo blk anc far i b l m).1.a:=by
 unfold BS.Fo;simp only
 split;.exact⟨o.dO De,hl,.refl⟩
 .split;.exact⟨(o.sF De).dO De,hl,.refl⟩
  .generalize Kz:b.A8.getD (Ff (b.AY.getD i Item.zero).node b.A8).toNat Cs.zero=en;obtain⟨d,f,Ej⟩:=PM (nm:=en.name) (at_:=en.Az) (p:=anc) o JW;have c:Le (b.Em en.name en.Az 1 anc).a ((b.Em en.name en.Az 1 anc).a.Fq (b.Gv en.name en.Az 1).node l 0):=MW;have NY:(b.Em en.name en.Az 1 anc).AY=b.AY:=by unfold BS.Em;rw[Ae JW]
   have Td:(b.Em en.name en.Az 1 anc).A8=b.A8:=by unfold BS.Em;rw[Ae JW]
   have q:=d.I4 (Oo (p:=(b.Gv en.name en.Az 1).node) (n:=l) (b:=0) d.ok) c;have j:=q.sH (i:=b.Gv en.name en.Az 1) (k:=i) ⟨c.has _ f.has,by rw[c.kind _ f.has];exact f.kind,by rw[c.A7 _ f.has];exact f.A7,by rw[c.name _ f.has];exact f.name⟩ (by simp only[NY];exact NL o f);have g:=j.sI (e:={en with node:=(b.Gv en.name en.Az 1).node}) (k:=(Ff (b.AY.getD i Item.zero).node b.A8).toNat) ⟨c.has _ f.has,by rw[c.kind _ f.has];exact f.kind⟩ (by simp only[Td];exact Qq o f);exact⟨g,c.has _ f.has,Ej.trans c⟩
def VJ{blk anc:Int}{far k:Nat}:∀{c:Nat} {s:BS×Int×Nat},Eu s.1->s.1.a.has s.2.1->Eu (BS.Ky blk anc far k c s).1/\(BS.Ky blk anc far k c s).1.a.has (BS.Ky blk anc far k c s).2.1/\Le s.1.a (BS.Ky blk anc far k c s).1.a
 |0,s,o,h=>⟨o,h,.refl⟩
 |c+1,s,o,h=>by obtain⟨f,h1,l1⟩:=XY (blk:=blk) (anc:=anc) (far:=far) (i:=k+(c+1)) (m:=s.2.2) o h;obtain⟨d,h2,g⟩:=VJ (blk:=blk) (anc:=anc) (far:=far) (k:=k) (c:=c) f h1;exact⟨d,h2,l1.trans g⟩
def MY{n:Int}:∀{l:List Int} {A:Ar},EA A 0->EA (BS.CB A n l) 0/\Le A (BS.CB A n l)
 |[],A,ok=>⟨ok,.refl⟩
 |x::l,A,ok=>by have h:=MY (n:=n) (l:=l) (Oo (p:=n) (n:=x) (b:=0) ok);exact⟨h.1,Le.trans MW h.2⟩
def fq{fe:Cs}{blk anc:Int}{s:BS×Int×Nat}(o:Eu s.1):Eu (BS.GD fe blk anc s)/\Le s.1.a (BS.GD fe blk anc s).a:=by
 unfold BS.GD;simp only
 generalize Vb:s.1.place anc=pb;have l1:Le s.1.a (s.1.a.Et s.2.1 pb.1 pb.2):=I3;have d:=o.I4 (Oq (n:=s.2.1) (p:=pb.1) (b:=pb.2) o.ok) l1;generalize NZ:({s.1 with a:=s.1.a.Et s.2.1 pb.1 pb.2}:BS)=b2 at d;have OV:b2.a=s.1.a.Et s.2.1 pb.1 pb.2:=by rw[<-NZ]
 have YM:b2.AY=s.1.AY:=by rw[<-NZ]
 have IV:b2.A8=s.1.A8:=by rw[<-NZ]
 obtain⟨j,f,l3⟩:=PM (nm:=fe.name) (at_:=fe.Az) (p:=blk) d JW;have NY:(b2.Em fe.name fe.Az 1 blk).AY=b2.AY:=by unfold BS.Em;rw[Ae JW]
 have Td:(b2.Em fe.name fe.Az 1 blk).A8=b2.A8:=by unfold BS.Em;rw[Ae JW]
 generalize jl:b2.Em fe.name fe.Az 1 blk=b3 at*;generalize hn:b2.Gv fe.name fe.Az 1=n at*;obtain⟨jo,l4⟩:=MY (n:=n.node) (l:=(b3.a.nd blk).A6) j.ok;have g:=Oo (p:=blk) (n:=n.node) (b:=0) jo;have c:Le b3.a ((BS.CB b3.a n.node (b3.a.nd blk).A6).Fq blk n.node 0):=l4.trans MW;have q:=j.I4 g c;have fr:((BS.CB b3.a n.node (b3.a.nd blk).A6).Fq blk n.node 0).has n.node/\(((BS.CB b3.a n.node (b3.a.nd blk).A6).Fq blk n.node 0).nd n.node).kind=4/\(((BS.CB b3.a n.node (b3.a.nd blk).A6).Fq blk n.node 0).nd n.node).A7=n.A7/\(((BS.CB b3.a n.node (b3.a.nd blk).A6).Fq blk n.node 0).nd n.node).name=n.name:=
  ⟨c.has _ f.has,by rw[c.kind _ f.has];exact f.kind,by rw[c.A7 _ f.has];exact f.A7,by rw[c.name _ f.has];exact f.name⟩
 have m:=(q.sF (l:=Be b3.A8 (Ff fe.node b3.A8).toNat) De).dO (l:=CY fe.node b3.AY) Ln;have u:n.node∉(CY fe.node b3.AY).map Item.node:=λh=>NL d f ((Ln.map Item.node).subset (by rw[NY] at h;exact h));have r:n.node∉(Be b3.A8 (Ff fe.node b3.A8).toNat).map Cs.node:=λh=>Qq d f ((De.map Cs.node).subset (by rw[Td] at h;exact h));refine⟨(m.aBK (i:=n) fr u).aBL (e:={fe with node:=n.node}) (.inr ⟨fr.1,fr.2.1⟩) (.inr r),?_⟩;rw[OV] at l3;exact l1.trans (l3.trans c)
def XZ(o:Eu b):Eu (b.round nm).2/\Le b.a (b.round nm).2.a:=by
 have d:Le b.a (b.Dl nm).a:=by
  unfold BS.Dl;split;.split<;>exact .refl
  .exact .refl
 unfold BS.round;simp only
 split;.exact⟨aK o,d⟩
 .split;.exact⟨o.sF De,.refl⟩
  .split;.exact⟨o,.refl⟩
   .split;.exact⟨(o.dO IG).sF De,.refl⟩
    .rename_i hf;have aQh:D0 (b.A8.getD (GB nm b.A8).toNat Cs.zero).node b.AY<b.AY.length:=by
      rw[IB];split;.omega
      .unfold EY;split;.rename_i k hk;have:=(ED.1 hk).1;rw[Bb] at this;omega
       .omega
     have hb:b.a.has (b.AY.getD (D0 (b.A8.getD (GB nm b.A8).toNat Cs.zero).node b.AY).toNat Item.zero).node:=by rw[AJ,Ai Ab];exact(o.op _ (AL _)).1
     obtain⟨f,h1,l1⟩:=VJ (blk:=(b.AY.getD (D0 (b.A8.getD (GB nm b.A8).toNat Cs.zero).node b.AY).toNat Item.zero).node) (anc:=(b.AY.getD ((AR (Bw (b.A8.getD (GB nm b.A8).toNat Cs.zero).node) b.AY).toNat-1) Item.zero).node) (far:=(D0 (b.A8.getD (GB nm b.A8).toNat Cs.zero).node b.AY).toNat) (k:=(AR (Bw (b.A8.getD (GB nm b.A8).toNat Cs.zero).node) b.AY).toNat) (c:=(D0 (b.A8.getD (GB nm b.A8).toNat Cs.zero).node b.AY).toNat-1 -(AR (Bw (b.A8.getD (GB nm b.A8).toNat Cs.zero).node) b.AY).toNat) (s:=(b,(b.AY.getD (D0 (b.A8.getD (GB nm b.A8).toNat Cs.zero).node b.AY).toNat Item.zero).node,(GB nm b.A8).toNat)) o hb;have r:=fq (fe:=b.A8.getD (GB nm b.A8).toNat Cs.zero) (blk:=(b.AY.getD (D0 (b.A8.getD (GB nm b.A8).toNat Cs.zero).node b.AY).toNat Item.zero).node) (anc:=(b.AY.getD ((AR (Bw (b.A8.getD (GB nm b.A8).toNat Cs.zero).node) b.AY).toNat-1) Item.zero).node) f;exact⟨r.1,l1.trans r.2⟩
def aL:∀{n:Nat} {b:BS},Eu b->Eu (BS.Ed n b nm)/\Le b.a (BS.Ed n b nm).a
 |0,b,o=>⟨o,.refl⟩
 |n+1,b,o=>by
  obtain⟨c,l1⟩:=XZ (nm:=nm) o;unfold BS.Ed;simp only
  split;.have r:=aL (n:=n) c;exact⟨r.1,l1.trans r.2⟩
  .exact⟨c,l1⟩
def fu(o:Eu b):Eu (b.Ig nm):=by
 unfold BS.Ig;split;.exact qu o
 .exact(aL o).1
end
structure MZ(A:Ar):Prop where
 n:A.n.length<=1000000000
 at_:∀x,(A.nd x).Az.length<=1000000000
 data:∀x,(A.nd x).data.length<=1000000000
def DU(l:List A3):Prop:=l.length<=1000/\∀a∈l,a.name.length<=1000/\a.value.length<=1000
structure B6(b:BS)(m:Nat):Prop where
 n:b.a.n.length+m<=900000000
 at_:∀x,(b.a.nd x).Az.length+m<=1000000000
 data:∀x,(b.a.nd x).data.length+m<=1000000000
 AY:b.AY.length+m<=900000000
 A8:b.A8.length+m<=900000000
 tm:b.tm.length+m<=900000000
 DD:∀e∈b.A8,e.name.length<=1000/\DU e.Az
 YS:∀i∈b.AY,i.name.length<=1000
def B6.Vd{b:BS}{m:Nat}(r:B6 b m):MZ b.a:=⟨by have:=r.n;omega,λx=>by have:=r.at_ x;omega,λx=>by have:=r.data x;omega⟩
def B6.le{b:BS}{m m':Nat}(r:B6 b m)(hm:m'<=m):B6 b m':=⟨by have:=r.n;omega,λx=>by have:=r.at_ x;omega,λx=>by have:=r.data x;omega,by have:=r.AY;omega,by have:=r.A8;omega,by have:=r.tm;omega,r.DD,r.YS⟩
def aM{sp:Int}{y:A3}:(CZ sp y).value=y.value:=by
 unfold CZ;split;.split<;>rfl
 .rfl
structure Ot(A A':Ar):Prop where
 n:A'.n.length=A.n.length
 at_:∀x,(A'.nd x).Az=(A.nd x).Az
 data:∀x,(A'.nd x).data=(A.nd x).data
section
variable{A A' A'':Ar}{x p bf:Int}{b:BS}{m:Nat}
def Ot.refl:Ot A A:=⟨rfl,λ_=>rfl,λ_=>rfl⟩
def Ot.trans(h:Ot A A')(k:Ot A' A''):Ot A A'':=⟨k.n.trans h.n,λx=>(k.at_ x).trans (h.at_ x),λx=>(k.data x).trans (h.data x)⟩
def X0{y:EP}(h1:y.Az=(A.nd x).Az)(h2:y.data=(A.nd x).data):Ot A (A.set x y):=by
 refine⟨Ju,λk=>?_,λk=>?_⟩<;>rw[JP]<;>split;.rename_i e;rw[h1,e.1]
 .rfl
 .rename_i e;rw[h2,e.1]
 .rfl
def aN{l:List Int}:Ot A (A.set x {A.nd x with A6:=l}):=X0 rfl rfl
def aO:Ot A (A.set x {A.nd x with FL:=p}):=X0 rfl rfl
def I5:Ot A (A.Fq p x bf):=by
 unfold Ar.Fq;split
 .refine Ot.trans ?_ (Ot.trans aN aO);unfold Ar.cut;simp only;split;.exact .refl
  .exact Ot.trans aN aO
 .exact .refl
def J3:Ot A (A.Et x p bf):=by unfold Ar.Et;split;exact .refl;exact I5
def QW{n:Int}:∀{l:List Int} {A:Ar},Ot A (BS.CB A n l)
 |[],A=> .refl
 |y::l,A=>Ot.trans I5 (QW (l:=l))
def B6.same{c:BS}(r:B6 b m)(h:Ot b.a c.a)(h1:c.AY.length<=b.AY.length)(h2:c.A8.length<=b.A8.length)(g:c.tm.length<=b.tm.length)(f:∀e∈c.A8,e.name.length<=1000/\DU e.Az)(d:∀i∈c.AY,i.name.length<=1000):B6 c m:=
 ⟨by rw[h.n];exact r.n,λx=>by rw[h.at_];exact r.at_ x,λx=>by rw[h.data];exact r.data x,by have:=r.AY;omega,by have:=r.A8;omega,by have:=r.tm;omega,f,d⟩
def B6.I4{A':Ar}(r:B6 b m)(h:Ot b.a A'):B6 {b with a:=A'} m:=r.same h (Ag _) (Ag _) (Ag _) r.DD r.YS
def B6.eq{c:BS}(r:B6 b m)(h1:c.a=b.a)(h2:c.AY=b.AY)(d:c.A8=b.A8)(e:c.tm=b.tm):B6 c m:=⟨by rw[h1];exact r.n,by rw[h1];exact r.at_,by rw[h1];exact r.data,by rw[h2];exact r.AY,by rw[d];exact r.A8,by rw[e];exact r.tm,by rw[d];exact r.DD,by rw[h2];exact r.YS⟩
structure TI(A A':Ar)(k:Nat):Prop where
 n:A'.n.length<=A.n.length+k
 at_:∀x,(A'.nd x).Az.length<=max (A.nd x).Az.length 1000
 data:∀x,(A'.nd x).data.length<=max (A.nd x).data.length 100000
def Kl{y:EP}(h1:y.Az.length<=1000)(h2:y.data.length<=100000):TI A (A.add y) 1:=by refine⟨by simp[Ar.add],λx=>?_,λx=>?_⟩<;>rw[IC]<;>split<;>omega
def TI.trans{k k':Nat}(h:TI A A' k)(g:TI A' A'' k'):TI A A'' (k+k'):=
 ⟨by have:=h.n;have:=g.n;omega,λx=>by have:=h.at_ x;have:=g.at_ x;omega,λx=>by have:=h.data x;have:=g.data x;omega⟩
def TI.le{k k':Nat}(h:TI A A' k)(hk:k<=k'):TI A A' k':=⟨by have:=h.n;omega,h.at_,h.data⟩
def fw(h:Ot A A'):TI A A' 0:=⟨by rw[h.n];exact Ag _,λx=>by rw[h.at_];omega,λx=>by rw[h.data];omega⟩
def sM:TI A (A.Dd x) 1:=by
 unfold Ar.Dd;split;.exact(fw .refl).le Ab
 .have:=Kl (A:=A) (y:={kind:=1,Cf:=A.len+1}) (AQ _) (AQ _);exact⟨this.n,this.at_,this.data⟩
def qv{y:EP}(h1:y.Az.length<=1000)(h2:y.data.length<=100000):TI A (A.set x y) 0:=by refine⟨by rw[Ju];exact Ag _,λx=>?_,λx=>?_⟩<;>rw[JP]<;>split<;>omega
def fx{d sp:Int}{nm:Ao}{l:List A3}(hl:l.length<=1000):TI A (A.elem d sp nm l) 3:=by
 have ho:=Bu (Ql (l:=l)) hl;have g1:=Kl (A:=A) (y:={kind:=4,Cf:=d,A7:=sp,name:=nm,Az:=Cv l}) ho (AQ _);unfold Ar.elem;simp only
 split;.have g2:=sM (A:=A.add {kind:=4,Cf:=d,A7:=sp,name:=nm,Az:=Cv l}) (x:=d);have g3:=Kl (A:=(A.add {kind:=4,Cf:=d,A7:=sp,name:=nm,Az:=Cv l}).Dd d) (y:={kind:=2,Ei:=A.len+1,Cf:=(A.add {kind:=4,Cf:=d,A7:=sp,name:=nm,Az:=Cv l}).Fy d}) (AQ _) (AQ _);exact g1.trans (k':=2) (g2.trans (k':=1) (g3.trans (k':=0) (qv ho (AQ _))))
 .exact g1.le Ab
def B6.IP{A':Ar}{k:Nat}(r:B6 b (m+k))(h:TI b.a A' k):B6 {b with a:=A'} m:=
 ⟨by have:=r.n;have:=h.n;simp only;omega,λx=>by have:=r.at_ x;have:=h.at_ x;have:=r.n;simp only;omega,λx=>by have:=r.data x;have:=h.data x;have:=r.n;simp only;omega,by have:=r.AY;simp only;omega,by have:=r.A8;simp only;omega,by have:=r.tm;simp only;omega,r.DD,r.YS⟩
def X1{sp:Int}{nm:Ao}:(BS.IE sp nm).length=nm.length:=by
 unfold BS.IE;split
 .rcases LD nm IZ with h|h
  .rw[h]
  .conv=>rhs;rw[<-h.2,Sr]
 .rfl
variable{nm:Ao}{l:List A3}{sp:Int}
def I6(r:B6 b (m+3))(hl:DU l):B6 (b.Em nm l sp p) m:=by
 unfold BS.Em;split;.exact r.IP (fx (by rw[Ak];exact hl.1))
 .exact r.le Ab
def NM(hn:nm.length<=1000):(b.Gv nm l sp).name.length<=1000:=by
 unfold BS.Gv;split;.show(BS.IE sp nm).length<=1000;rw[X1];exact hn
 .exact AQ _
def B6.ŝ{i:Item}{l':List Item}(r:B6 b (m+1))(h1:l'.length<=b.AY.length+1)(h2:∀j∈l',j∈b.AY\/j=i)(hi:i.name.length<=1000):B6 {b with AY:=l'} m:=
 ⟨by have:=r.n;simp only;omega,λx=>by have:=r.at_ x;simp only;omega,λx=>by have:=r.data x;simp only;omega,by have:=r.AY;simp only;omega,by have:=r.A8;simp only;omega,by have:=r.tm;simp only;omega,r.DD,λj hj=>by
  rcases h2 j hj with h|rfl
  .exact r.YS j h
  .exact hi⟩
def B6.Ş{e:Cs}{l':List Cs}(r:B6 b (m+1))(h1:l'.length<=b.A8.length+1)(h2:∀j∈l',j∈b.A8\/j=e)(hi:e.name.length<=1000/\DU e.Az):B6 {b with A8:=l'} m:=
 ⟨by have:=r.n;simp only;omega,λx=>by have:=r.at_ x;simp only;omega,λx=>by have:=r.data x;simp only;omega,by have:=r.AY;simp only;omega,by have:=r.A8;simp only;omega,by have:=r.tm;simp only;omega,λj hj=>by
  rcases h2 j hj with h|rfl
  .exact r.DD j h
  .exact hi,r.YS⟩
def Lo(r:B6 b (m+4))(hl:DU l)(hn:nm.length<=1000):B6 (b.EG nm l sp) m:=by
 unfold BS.EG;split
 .rename_i hs;have c:=I6 (m:=m+1) (nm:=nm) (sp:=sp) (p:=(b.place 0).1) (r.le Ab) hl;have r2:=c.I4 (J3 (x:=b.a.len+1) (p:=(b.place 0).1) (bf:=(b.place 0).2));have ho:(b.Em nm l sp (b.place 0).1).AY=b.AY:=by unfold BS.Em;rw[Ae hs]
  refine r2.ŝ (i:=b.Gv nm l sp) (by simp only[Aw,Bi];exact Ag _) (λj hj=>?_) (NM hn);rcases Ax.1 hj with h|h
  .exact .inl h
  .exact .inr (by simpa using h)
 .exact r.le Ab
def nD(r:B6 b (m+5))(hl:DU l)(hn:nm.length<=1000):B6 (b.Kk nm l) m:=by
 have c:=Lo (m:=m+1) (sp:=1) (nm:=nm) (r.le Ab) hl hn;unfold BS.Kk;simp only
 obtain⟨l',h1,h2⟩:=XV (l:=(b.EG nm l 1).A8) (e:=⟨b.a.len+1,nm,l⟩);rw[h2];refine c.Ş (e:=⟨b.a.len+1,nm,l⟩) (by have:=h1.length_le;simp;omega) (λj hj=>?_) ⟨hn,hl⟩;rcases Ax.1 hj with h|h
 .exact .inl (h1.subset h)
 .exact .inr (by simpa using h)
end
end Go.Am
end
