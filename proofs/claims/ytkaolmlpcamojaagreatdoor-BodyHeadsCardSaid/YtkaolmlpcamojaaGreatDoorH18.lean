/- Lemmas -/
import Derived.Test.YtkaolmlpcamojaaGreatDoorH17
set_option linter.all false
noncomputable section
set_option maxRecDepth 100000
section
namespace Go.Am
open Go
section
section
variable{U:Type}{z:Nat}
def FY{AE:List (List U)}(h:∀r∈AE,r.length=z):AE.flatten.length=AE.length*z:=by
 induction AE with
 |nil=>simp
 |cons q AE ih=>rw[CZ,Au,h q AH,ih λr hr=>h r (by simp[hr]),Bd,BI];omega
def cF{AE:List (List U)}(h:∀r∈AE,r.length=z):∀{k:Nat},AE.flatten.take (k*z)=(AE.take k).flatten:=by
 induction AE with
 |nil=>intro k;simp
 |cons q AE ih=>
  intro k;have hq:=h q AH;cases k with
  |zero=>simp
  |succ k=>rw[CZ,BI,D6,PF,yG,AF Ac,hq,TU,ih λr hr=>h r (by simp[hr])];simp
def Ja{AE:List (List U)}(h:∀r∈AE,r.length=z):∀{k:Nat},AE.flatten.drop (k*z)=(AE.drop k).flatten:=by
 induction AE with
 |nil=>intro k;simp
 |cons q AE ih=>
  intro k;have hq:=h q AH;cases k with
  |zero=>simp
  |succ k=>rw[CZ,BI,D6,PF,TR,AZ Ac,hq,TU,ih λr hr=>h r (by simp[hr])];simp
def pK{AE:List (List U)}(h:∀r∈AE,r.length=z){k:Nat}(hk:k<AE.length)(q:List U):AE.flatten.take (k*z)++q++AE.flatten.drop (k*z+z)=(AE.set k q).flatten:=by
 have e:k*z+z=(k+1)*z:=by rw[BI,D6]
 rw[e,cF h,Ja h,B0,Af hk];simp
def cG{AE:List (List Aa)}(h:∀r∈AE,r.length=z):∀{n off:Nat},off+n<=AE.length->Cz AE.flatten z (off*z) n=(AE.drop off).take n:=by
 intro n;induction n with
 |zero=>intro off _;simp[Cz]
 |succ n ih=>
  intro off hl;rw[Cz];have e:off*z+z=(off+1)*z:=by rw[BI,D6]
  rw[e,ih Ac,Ja h];have hlt:off<AE.length:=Ac;rw[AG hlt,CZ,CM (by rw[h _ (AN hlt)];exact Ag _),AF (by rw[h _ (AN hlt)];exact Ag _),aS]
def xa{AE:List (List Aa)}(h:∀r∈AE,r.length=z):Cz AE.flatten z 0 AE.length=AE:=by have:=cG h (n:=AE.length) (off:=0) Ac;simpa using this
end
section
variable{h:Ai}{id z n:Nat}{AE:List (List Aa)}
def Ke(hr:∀r∈AE,r.length=z)(hc:h[id]?=some (.cells AE.flatten)):KT h (.CE id 0 AE.length z)=some (h.set id .CR,.sl z AE):=by unfold KT;simp only[hc,BW];rw[Af (by rw[FY hr];exact Ag _),xa hr]
def E1{k:IntKind}{i:Nat}(hi:i<n):AD (.Ff z) [.CE id 0 n z,.int k (i:Int)]=some (.ptr (some (id,i*z))):=by
 have:Mx (i:Int) n=some i:=by unfold Mx;rw[Af Ac];rfl
 simp[AD,elemOf,this]
def Vy(hr:∀r∈AE,r.length=z)(hc:h[id]?=some (.cells AE.flatten)){i:Nat}(hi:i<AE.length){q:List Aa}(hq:q.length=z):Cv h z (.ptr (some (id,i*z))) (.agg q)=some (h.set id (.cells (AE.set i q).flatten)):=by
 simp only[Cv,hc,Uj];have:i*z+z<=AE.flatten.length:=by rw[FY hr];have:=DW z (Ac:i+1<=AE.length);rwa [BI,D6] at this
 rw[<-pK hr hi];exact Af ⟨hq,this⟩
def pL(hr:∀r∈AE,r.length=z){i:Nat}{q:List Aa}(hq:q.length=z):∀r∈AE.set i q,r.length=z:=by
 intro r h;rcases De h with h|rfl
 .exact hr r h
 .exact hq
def MJ{U:Type}{f:U->List Aa}(hf:∀a,(f a).length=z)(l:List U):∀r∈l.map f,r.length=z:=by intro r h;obtain⟨a,_,rfl⟩:=Bn.1 h;exact hf a
def LN{s v:Aa}{b:Nat}(hs:s= .slnil\/s= .sl z [])(hv:AU z AE v)(hne:AE≠[])(hb:AE.length*b<=AW):K8 h z b s v=some (h++[.cells AE.flatten],.CE h.length 0 AE.length z):=by
 rcases hv with rfl|⟨rfl,hv⟩
 .cases AE with
  |nil=>exact absurd rfl hne
  |cons r AE=>rw[Bd] at hb;rcases hs with rfl|rfl<;>simp[K8,PO,hb]
 .exact absurd hv hne
def Qe{s v:Aa}{b:Nat}(hs:s= .slnil\/s= .sl z [])(hv:AU z [] v):K8 h z b s v=some (h,s):=by rcases hv with rfl|⟨rfl,hv⟩<;>rcases hs with rfl|rfl<;>simp[K8,PO]
def vA{v:Aa}{b:Nat}(hv:AU z [] v):Gj h z b (.CE id 0 n z) v=some (h,.CE id 0 n z):=by rcases hv with rfl|⟨rfl,hv⟩<;>simp[Gj,Hj]
def JY{v:Aa}{b:Nat}{r2:List (List Aa)}(hr:∀r∈AE,r.length=z)(hz:0<z)(hc:h[id]?=some (.cells AE.flatten))(hv:AU z r2 v)(hne:r2≠[])(hb:(AE.length+r2.length)*b<=AW):
  Gj h z b (.CE id 0 AE.length z) v=some (h.set id .CR++[.cells (AE++r2).flatten],.CE h.length 0 (AE.length+r2.length) z):=by
 rcases hv with rfl|⟨rfl,hv⟩
 .cases r2 with
  |nil=>exact absurd rfl hne
  |cons r r2=>
   have hl:=FY hr;have h1:¬(0+(AE.length+(r::r2).length)*z<=AE.flatten.length):=by rw[hl,Bd,BW,BI,BI];omega
   have h2:AE.flatten.take (AE.length*z)=AE.flatten:=AF (by rw[hl];exact Ag _);unfold Gj;simp only[Hj,BJ,hc];rw[Ad h1,Af ⟨trivial,by rw[hl];exact Ag _,hb⟩,h2,Ln]
 .exact absurd hv hne
end
end
section
section
end
def GF:List Aj:=[[100,100],[100,116],[108,105],aVQ,aVW,[112],[114,98],[114,112],[114,116],[114,116,99]]
def Kf:List Aj:=[aVH,aVU,aV1,[116,100],aVY,[116,104],aV2,[116,114]]
def Ld:List Aj:=[[109,105],[109,110],[109,111],[109,115],[109,116,101,120,116]]
def QQ:List Aj:=[aWu,aVN,aVs]
section
end
def pM:List Aj:=[[104,49],[104,50],[104,51],[104,52],[104,53],[104,54]]
def Ez(k:Int)(s:Aj):Bool:=
 if k=3 then decide (s=aVw\/s∈Ld) else if k=2 then decide (s∈QQ) else if k=1 then decide (s∈Oe) else false
def sw(s:Aj)(t e:IT):List Aj->IT
 |[]=>e
 |c::cs=> .op (.str .eql) [.str s,.str c] λv=> .Gm v t (sw s t e cs)
def xb{C:Gb}{Q:HO}{h:Ai}{s:Aj}{t e:IT}:∀{cs:List Aj},W C (sw s t e cs) Q h↔(s∈cs->W C t Q h)/\(s∉cs->W C e Q h)
 |[]=>by simp[sw]
 |c::cs=>by
  simp only[sw,Yi,zV,Oc,Od,Yj,AS,NP];rw[xb];by_cases hc:s=c;.simp[hc]
  .simp[hc]
def Ml{C:Gb}{f:FuncId}{args:List Aa}{r:Aa}:JX C f args r↔W C (Ca C f args) (λx vs _=>x= .ret/\vs=[r]) []:=by
 unfold JX Ev;constructor;.exact λh=>W.mono h λ_ _ _ ⟨h1,r,h2,a⟩=>⟨h1,by rw[h2,a]⟩
 .exact λh=>W.mono h λ_ _ _ ⟨h1,h2⟩=>⟨h1,r,h2,rfl⟩
section
variable{Q:HO}{h:Ai}{k:Aa->IT}{s:Aj}
end
section
variable{Q:HO}{h:Ai}{k:Aa->IT}{s:Aj}{n:Int}
end
end
section
def Rs{cur:Aj}:Dr cur []=[cur]:=by unfold Dr;rfl
def Qf{cur r:Aj}{c:UInt8}:Dr cur (c::r)=if c=32 then cur::Dr [] r else Dr (cur++[c]) r:=by rw[Dr]
def Gd(l s:Aj):Bool:=decide (s≠[]/\(32:UInt8)∉s/\s∈Dr [] l)
def Yv{s:Aj}{a n:Nat}(ha:a<=n)(hn:n<s.length):(s.take (n+1)).drop a=(s.take n).drop a++[s[n]]:=by rw[AB hn,Jp Ei]
end
section
def D9{l:Aj}{ws:List Aj}{s:Aj}(h1:Dr [] l=ws)(h2:ws.all (λw=> !w.isEmpty&& !w.contains 32)=true):Gd l s=decide (s∈ws):=by
 unfold Gd;rw[h1,Dd];refine⟨λh=>h.2.2,λh=>⟨?_,?_,h⟩⟩;.have:=Db.1 h2 s h;rintro rfl;simp at this
 .have:=Db.1 h2 s h;intro a;simp[a] at this
section
variable{Q:HO}{h:Ai}{k:Aa->IT}{s:Aj}
def vB:Gd aVd s=decide (s∈Oe):=D9 CA CA
def fQ:Gd aVS s=decide (s∈Ld):=D9 CA CA
def pO:Gd aVz s=decide (s∈QQ):=D9 CA CA
def vC:Gd aVq s=decide (s∈GF):=D9 CA CA
def pP:Gd aVt s=decide (s∈Kf):=D9 CA CA
def Jb:List Aj:=Dr [] aVe
def Ip:List Aj:=Dr [] aVc
def OW:List Aj:=[aVh,aVB,aVg]
def mb:Gd aVM s=decide (s∈OW):=D9 CA CA
def MK:List Aj:=[aVQ,aVW]
def vD:Gd aVE s=decide (s∈MK):=D9 CA CA
def Sb:List Aj:=[[111,108],[117,108]]
def xc:Gd aWA s=decide (s∈Sb):=D9 CA CA
def QR:List Aj:=[aWh,aVH,aVh,aWd,aWl,aVB,[116,100],aVg,[116,104]]
def mc:Gd aVp s=decide (s∈QR):=D9 CA CA
end
section
variable{Q:HO}{h:Ai}{k:Aa->IT}{s:Aj}{n:Int}
end
end
section
def Jc(c:UInt8):UInt8:=if 65<=c.toNat/\c.toNat<=90 then c+32 else c
def FZ(s:Aj):Aj:=s.map Jc
def Tb{c:UInt8}(h:65<=c.toNat/\c.toNat<=90):((Jc c).toNat:Int)=(c.toNat:Int)+32:=by unfold Jc;rw[Af h,UInt8.toNat_add];have:UInt8.toNat 32=32:=AP;rw[this];omega
def OX{c:UInt8}(h:¬(65<=c.toNat/\c.toNat<=90)):Jc c=c:=by unfold Jc;rw[Ad h]
def Sc{s:Aj}{n:Nat}(hn:n<s.length):FZ (s.take (n+1))=FZ (s.take n)++[Jc s[n]]:=by rw[AB hn];unfold FZ;rw[Bu];rfl
def Pr(b:UInt8):Aa:= .int .u8 (b.toNat:Int)
def HU(s:Aj)(n:Nat):Aj:=FZ (s.take n)++s.drop n
def Yw(s:Aj)(n:Nat):(HU s n).length=s.length:=by simp[HU,FZ];omega
def Yx{s:Aj}{n:Nat}(hn:n<s.length):(HU s n)[n]?=some s[n]:=by unfold HU FZ;rw[Bk Ei];simp only[Ao,Ax,Cq (M8 hn),C5];rw[AG hn];rfl
def Tc{s:Aj}{n:Nat}(hn:n<s.length):HU s (n+1)=(HU s n).set n (Jc s[n]):=by
 unfold HU;rw[Sc hn,BH _ _ (by simp[FZ];omega)];have e:n-(FZ (s.take n)).length=0:=by simp[FZ];omega
 rw[e,AG hn,Mb,AI];rfl
def pQ(s:Aj):HU s s.length=FZ s:=by simp[HU,FZ]
def xd{U:Type}{l:List U}{i:Nat}{v:U}(h:l[i]?=some v):l.set i v=l:=by
 apply RH;intro j;rw[aQT];split
 .rename_i e;subst e;split;.exact h.symm
  .rename_i hl;rw[Ec Ac]
 .rfl
def vE{cs:List Aa}{i:Nat}{v:Aa}(h:cs[i]?=some v):A7 [.cells cs] none (.ptr (some (0,i)))=some v:=by simpa[A7] using h
def aI{U:Type}{l:List U}{i:Nat}{v:U}(h:i<l.length):l.take i++v::l.drop (i+1)=l.set i v:=by rw[B0,Af h]
def pS{cs:List Aa}{i:Nat}{v:Aa}(h:i<cs.length)(hv:v.cells=[v]):Cv [.cells cs] 1 (.ptr (some (0,i))) v=some [.cells (cs.set i v)]:=by simp only[Cv,hv,GM,A9];rw[Af ⟨trivial,Ac⟩,<-aI h];simp
def Qg(s:Aj):∀(n o:Nat),o+n=s.length->Cz (s.map Pr) 1 o n=Ce (s.drop o)
 |0,o,h=>by rw[AZ Ac];rfl
 |n+1,o,h=>by
  have ho:o<s.length:=Ac;have e:(s.map Pr).drop o=Pr s[o]::(s.map Pr).drop (o+1):=by rw[AG (by simpa using ho)];simp
  rw[Cz,Qg s n (o+1) Ac,AG ho,e];rfl
end
section
def Cp(name:Aj):List Aj->Aj
 |[]=>name
 |w::ws=>if FZ w=name then w else Cp name ws
def Cu(w:Aj):List Aa:=[.str w]
def Mu:Aj:=aVe
def Of:Aj:=aVc
def Yy:Dr [] Mu=Jb:=CA
def Yz:Dr [] Of=Ip:=CA
end
section
structure A5 where
 Bb:Int
 name:Aj
 value:Aj
 deriving DecidableEq
def A5.row(a:A5):List Aa:=[.int .i64 a.Bb,.str a.name,.str a.value]
structure Item where
 node:Int
 Bb:Int
 name:Aj
 Og:Bool
 deriving DecidableEq
def Item.row(a:Item):List Aa:=[.int .i64 a.node,.int .i64 a.Bb,.str a.name,.bool a.Og]
def Js(ns:List Aj)(v:Aa):Prop:=AU 1 (ns.map Cu) v
def Bi(l:List A5)(v:Aa):Prop:=AU 3 (l.map A5.row) v
def BZ(l:List Item)(v:Aa):Prop:=AU 4 (l.map Item.row) v
def zX(l:List A5):Prop:=l.length<=12/\∀x∈l,x.name.length<=60/\x.value.length<=200
instance(l:List A5):Decidable (zX l):=by unfold zX;infer_instance
def xe(l:List Aj):Prop:=l.length<=12/\∀x∈l,x.length<=60
instance(l:List Aj):Decidable (xe l):=by unfold xe;infer_instance
def zY(l:List Item):Prop:=l.length<=60/\∀x∈l,x.name.length<=60
instance(l:List Item):Decidable (zY l):=by unfold zY;infer_instance
end
section
def Co{U:Type}(p:U->Bool)(n:Nat):List U->Int
 |[]=> -1
 |a::l=>if p a then(n:Int) else Co p (n+1) l
def HV{U:Type}{p:U->Bool}:∀{l:List U} {k:Nat},(Co p k l= -1/\l.find? p=none)\/∃(n:Nat) (a:U),Co p k l=((k+n:Nat):Int)/\l[n]?=some a/\l.find? p=some a
 |[],k=> .inl ⟨rfl,rfl⟩
 |a::l,k=>by
  unfold Co;by_cases h:p a=true;.exact .inr ⟨0,a,by rw[Af h];rfl,rfl,by simp[h]⟩
  .rw[Ad h];rcases HV (p:=p) (l:=l) (k:=k+1) with⟨h1,h2⟩|⟨n,b,h1,h2,c⟩
   .exact .inl ⟨h1,by simp[h,h2]⟩
   .exact .inr ⟨n+1,b,by rw[h1];congr 1;omega,by simpa using h2,by simp[h,c]⟩
def Ps(a:A5):Bool:=decide (a.Bb=0/\a.name=aWi)
def Vz{s:Aj}(h:s.all (λc=> !(65<=c.toNat&&c.toNat<=90))=true):FZ s=s:=by
 unfold FZ;conv=>rhs;rw[<-List.map_id s]
 apply aV;intro c hc;have:=Db.1 h c hc;refine OX λh2=>?_;simp[h2.1,h2.2] at this
abbrev aG4:Aj:=aVw
abbrev zZ:Aj:=aWe
abbrev fR:Aj:=aVI
def Fp(n:Int)(s:Aj)(l:List A5):Bool:=
 if n=2 then Ez 2 s else if n≠3 then false else if s≠aG4 then false else match l.find? Ps with
  |none=>false
  |some a=>decide (FZ a.value=zZ\/FZ a.value=fR)
end
section
section
variable{U:Type}{f:U->List Aa}{l l2:List U}{v v2:Aa}{z b:Nat}{k k2:IntKind}
def AU.CN(hv:AU z (l.map f) v):AD (.len false) [v]=some (.int .i64 (l.length:Int)):=by have:=AU.len hv;rwa [Ao] at this
def AU.BL(hv:AU z (l.map f) v){n:Nat}(hn:n<l.length):AD (.Ff z) [v,.int k (n:Int)]=some (.CI (f l[n])):=by have:=AU.Ff hv (k:=k) (n:=n) (by simpa using hn);simpa using this
def AU.ML(hv:AU z (l.map f) v){n:Nat}(hn:n<=l.length):∃u,AD (.K6 z false false true) [v,.int k (n:Int)]=some u/\AU z ((l.take n).map f) u:=by
 rcases hv with rfl|⟨rfl,h⟩
 .have a:Fq (n:Int) (l.map f).length=some n:=by unfold Fq;rw[Ao,Af Ac];rfl
  refine⟨.sl z ((l.map f).take n),?_,.inl (by rw[Gq])⟩;simp only[AD,Kp,Ed,a,BY,sC,BJ,MZ]
 .have:l=[]:=by simpa using h
  subst this;have:n=0:=by simpa using hn
  subst this;exact⟨.slnil,rfl,.inr ⟨rfl,rfl⟩⟩
def AU.Td(hv:AU z (l.map f) v){n:Nat}(hn:n<=l.length):∃u,AD (.K6 z false true false) [v,.int k (n:Int)]=some u/\AU z ((l.drop n).map f) u:=by
 rcases hv with rfl|⟨rfl,h⟩
 .have a:Fq (n:Int) (l.map f).length=some n:=by unfold Fq;rw[Ao,Af Ac];rfl
  refine⟨.sl z ((l.map f).drop n),?_,.inl (by rw[JR])⟩;simp only[AD,Kp,Ed,a,BY,sC,BJ,Bx]
 .have:l=[]:=by simpa using h
  subst this;have:n=0:=by simpa using hn
  subst this;exact⟨.slnil,rfl,.inr ⟨rfl,rfl⟩⟩
def AU.fS(hv:AU z (l.map f) v)(Ud:AU z (l2.map f) v2)(hb:(l.length+l2.length)*b<=AW):∃u,AD (.append z b) [v,v2]=some u/\AU z ((l++l2).map f) u:=by obtain⟨u,e,hu⟩:=AU.HQ hv Ud (b:=b) (by simpa using hb);exact⟨u,e,by rwa [Bu]⟩
def AU.FL(Ud:AU z (l2.map f) v2)(hb:l2.length*b<=AW):∃u,AD (.append z b) [.slnil,v2]=some u/\AU z (l2.map f) u:=by obtain⟨u,e,hu⟩:=AU.HQ (v:= .slnil) (r:=[]) .nil Ud (b:=b) (by simpa using hb);exact⟨u,e,by simpa using hu⟩
def AU.JD{a:U}(hv:AU z (l.map f) v)(hb:(l.length+1)*b<=AW):AD (.append z b) [v,.sl z [f a]]=some (.sl z ((l++[a]).map f)):=by rw[AU.pJ hv (by simpa using hb)];simp
end
def Da{a b:Int}(h1: -9223372036854775808<=a-b)(h2:a-b<9223372036854775808):AD (.int .sub) [.int .i64 a,.int .i64 b]=some (.int .i64 (a-b)):=by rw[u9,wrap_i64 h1 h2]
def OY{a b:Int}(h1: -9223372036854775808<=a+b)(h2:a+b<9223372036854775808):AD (.int .add) [.int .i64 a,.int .i64 b]=some (.int .i64 (a+b)):=by rw[fK,wrap_i64 h1 h2]
def Item.zero:Item:=⟨0,0,[],false⟩
def Item.CP{a:Item}:a.row.length=4:=rfl
def Item.g0{a:Item}{d:Aa}:a.row.getD 0 d= .int .i64 a.node:=rfl
def Item.g1{a:Item}{d:Aa}:a.row.getD 1 d= .int .i64 a.Bb:=rfl
def Item.g2{a:Item}{d:Aa}:a.row.getD 2 d= .str a.name:=rfl
def Item.g3{a:Item}{d:Aa}:a.row.getD 3 d= .bool a.Og:=rfl
def Item.at0{a:Item}:a.row[0]?=some (.int .i64 a.node):=rfl
def Item.If{a:Item}:a.row.take 4=a.row:=rfl
def Item.aa{a:Item}:a.row.drop 1=[.int .i64 a.Bb,.str a.name,.bool a.Og]:=rfl
def Item.aG5{a:Item}:a.row.drop 2=[.str a.name,.bool a.Og]:=rfl
def Item.aG6{a:Item}:a.row.drop 3=[.bool a.Og]:=rfl
def Item.Qh{a:Item}:[Aa.int .i64 a.node,.int .i64 a.Bb,.str a.name,.bool a.Og]=a.row:=rfl
def Item.fill{a:Item}:AT [.int .i64 0,.int .i64 0,.str [],.bool false] ([(0,1),(1,1),(2,1),(3,1)].zip a.row)=some a.row:=rfl
def E9:=ai @Item.fill (ai @Item.CP (ai @Item.g0 (ai @Item.g1 (ai @Item.g2 (ai @Item.g3 (ai @Item.at0 (ai @Item.If (ai @Item.aa (ai @Item.aG5 (ai @Item.aG6 (ai @Item.Qh (ai @Cd (@By.{0})))))))))))))
def EI(l:List Item)(i:Int):Item:=if 0<=i then l.getD i.toNat Item.zero else Item.zero
def Fy(l:List Item):Item:=EI l ((l.length:Int)-1)
def AV{U:Type}(q:U->Bool)(l:List U):Int:=match l.reverse.findIdx? q with
 |some k=>(l.length:Int)-1 -k
 |none=> -1
def Kg{U:Type}{q:U->Bool}:AV q []= -1:=rfl
def Jd{U:Type}{q:U->Bool}{l:List U}{a:U}:AV q (l++[a])=if q a then(l.length:Int) else AV q l:=by
 unfold AV;rw[II,Jy,J4,aPn];by_cases h:q a=true;.simp only[h,BJ,Au,A9];omega
 .simp only[h,DF,Cx,Au,A9];cases List.findIdx? q l.reverse with
  |none=>rfl
  |some k=>simp only[BY];omega
def Hb{U:Type}{q:U->Bool}{l:List U}{n:Nat}(hn:n<l.length):AV q (l.take (n+1))=if q l[n] then(n:Int) else AV q (l.take n):=by rw[AB hn,Jd,Ax,Cq (M8 hn)]
def Dj{U:Type}{q:U->Bool}{l:List U}:(AV q l= -1/\∀a∈l,q a=false)\/∃(n:Nat) (hn:n<l.length),AV q l=(n:Int)/\q l[n]=true/\∀m (hm:m<l.length),n<m->q l[m]=false:=by
 have key:∀r:List U,(AV q r.reverse= -1/\∀a∈r.reverse,q a=false)\/∃(n:Nat) (hn:n<r.reverse.length),AV q r.reverse=(n:Int)/\q r.reverse[n]=true/\∀m (hm:m<r.reverse.length),n<m->q r.reverse[m]=false:=by
  intro r;induction r with
  |nil=>exact .inl ⟨rfl,AH⟩
  |cons a r ih=>
   rw[Ee,Jd];by_cases h:q a=true;.refine .inr ⟨r.reverse.length,AH,by rw[Af h],by simp[h],λm hm hlt=>?_⟩;simp at hm hlt;omega
   .rw[Ad h];rcases ih with⟨h1,h2⟩|⟨n,hn,h1,h2,c⟩
    .exact .inl ⟨h1,λb hb=>by
      rcases Ay.1 hb with hb|hb
      .exact h2 b hb
      .simp at hb;subst hb;simpa using h⟩
    .refine .inr ⟨n,by simp at hn⊢;omega,h1,by rw[Gr hn];exact h2,λm hm hlt=>?_⟩;by_cases V5:m<r.reverse.length;.rw[Gr V5];exact c m V5 hlt
     .have:m=r.reverse.length:=by simp at hm V5⊢;omega
      subst this;simpa using h
 have:=key l.reverse;rwa [Fm] at this
def At(h:Ai)(id o:Nat)(v:Aa):Prop:=∃cs,h[id]?=some (.cells cs)/\cs[o]?=some v
def put(h:Ai)(id o:Nat)(u:Aa):Ai:=match h[id]? with
 |some (.cells cs)=>h.set id (.cells (cs.set o u))
 |_=>h
section
variable{h t:Ai}{id o:Nat}{u v w:Aa}
def Iw{cs:List Aa}(hc:h[id]?=some (.cells cs)):put h id o u=h.set id (.cells (cs.set o u)):=by unfold put;rw[hc]
def JN:(put h id o u).length=h.length:=by unfold put;split<;>simp
def At.lt(ha:At h id o v):id<h.length:=by obtain⟨cs,hc,_⟩:=ha;exact(An.1 hc).1
def At.load(ha:At h id o v):A7 h none (.ptr (some (id,o)))=some v:=by obtain⟨cs,hc,e⟩:=ha;simp only[A7,hc,E8,e]
def At.store(ha:At h id o v)(hu:u.cells=[u]):Cv h 1 (.ptr (some (id,o))) u=some (put h id o u):=by
 obtain⟨cs,hc,e⟩:=ha;have hl:=(An.1 e).1;rw[Iw hc];simp only[Cv,hc,hu,A9,M5];have a:cs.set o u=cs.take o++[u]++cs.drop (o+1):=by rw[B0,Af hl];simp
 rw[Af (Ac:o+1<=cs.length),a]
def At.put(ha:At h id o v):At (put h id o u) id o u:=by obtain⟨cs,hc,e⟩:=ha;have hl:=(An.1 e).1;have hi:=(An.1 hc).1;rw[Iw hc];exact⟨cs.set o u,by simp[hi],by simp[hl]⟩
def At.same(ha:At h id o v):Am.put h id o v=h:=by obtain⟨cs,hc,e⟩:=ha;obtain⟨hl,e⟩:=An.1 e;obtain⟨hi,a⟩:=An.1 hc;rw[Iw hc,<-e,J5,<-a,J5]
def fU:Am.put (Am.put h id o u) id o w=Am.put h id o w:=by
 cases hc:h[id]? with
 |none=>
  have e:∀u,Am.put h id o u=h:=λu=>by unfold Am.put;rw[hc]
  rw[e,e]
 |some x=>cases x with
  |cells cs=>have hi:=(An.1 hc).1;rw[Iw hc,Iw hc,Iw (cs:=cs.set o u) (by simp[hi])];simp
  |_=>
   have e:∀u,Am.put h id o u=h:=λu=>by unfold Am.put;rw[hc]
   rw[e,e]
def At.HQ(ha:At h id o v):At (h++t) id o v:=by obtain⟨cs,hc,e⟩:=ha;exact⟨cs,by rw[Ak (An.1 hc).1];exact hc,e⟩
def fV(ha:At h id o v):Am.put (h++t) id o u=Am.put h id o u++t:=by have hi:=ha.lt;obtain⟨cs,hc,e⟩:=ha;rw[Iw hc,Iw (by rw[Ak hi];exact hc),List.set_append_left _ _ hi]
def Cm{i:Nat}(hn:i≠id):(Am.put h id o u)[i]?=h[i]?:=by
 unfold Am.put;split;.rw[As (Dz hn)]
 .rfl
end
def me(h:Ai)(p:Aa)(l:List Item):Prop:=(p= .ptr none/\l=[])\/∃id o v,p= .ptr (some (id,o))/\At h id o v/\BZ l v
def HE{l:List Item}{n:Nat}(hn:n<l.length):EI l (n:Int)=l[n]:=by have:(0:Int)<=(n:Int):=Ac;simp[EI,this,hn]
def OZ{l:List Item}{i:Int}(h:i<0\/(l.length:Int)<=i):EI l i=Item.zero:=by
 unfold EI;rcases h with h|h
 .rw[Ad Ac]
 .rw[Af Ac,AJ,Ec Ac];rfl
section
variable{h:Ai}{p:Aa}{l:List Item}
def ğ{s:Aj}{ws:List Aj}:decide (0<=Co (λw=>decide (s=w)) 0 ws)=decide (s∈ws):=by
 rcases HV (p:=λw=>decide (s=w)) (l:=ws) (k:=0) with⟨h1,h2⟩|⟨n,a,h1,h2,c⟩
 .rw[h1,Dd];have:=Jz.1 h2;exact⟨λh=>Ac,λh=>absurd (show s=s from rfl) (by simpa using this s h)⟩
 .rw[h1,Dd];have e:s=a:=by simpa using VR c
  have:a∈ws:=CC h2;refine⟨λ_=>e▸this,λ_=>Ac⟩
def Bw(ws:List Aj)(a:Item):Bool:=decide (a.Bb=1/\a.name∈ws)
def C1{ws:List Aj}:Js ws (.sl 1 (ws.map Cu)):= .mk
def JZ(n:Int)(a:Item):Bool:=
 if n=4 then Bw OW a else if n=5 then !Bw MK a else if a.Bb=3\/a.Bb=2 then Ez a.Bb a.name
 else Bw QR a||(decide (n=2)&&Bw Sb a)||(decide (n=3)&&Bw [aVD] a)
def Ea{ws:List Aj}{args:List Aa}(e:args=ws.map Aa.str)(h:ws.length<=16777216):AD (.Dk 1) args=some (.sl 1 (ws.map Cu)):=by
 subst e;have g:(ws.map Aa.str).all (λa=>a.cells.length==1)=true:=AH;have c:(ws.map Aa.str).map (·.cells)=ws.map Cu:=by simp[Cu]
 rw[zW,g,c];simp[h]
def vF:AD (.Dk 1) [S aVh,S aVB,S aVg]=some (.sl 1 (OW.map Cu)):=Ea (ws:=OW) rfl AP
def pT:AD (.Dk 1) [S aVQ,S aVW]=some (.sl 1 (MK.map Cu)):=Ea (ws:=MK) rfl AP
def mf:AD (.Dk 1) [S [111,108],S [117,108]]=some (.sl 1 (Sb.map Cu)):=Ea (ws:=Sb) rfl AP
def vG:AD (.Dk 1) [S aWh,S aVH,S aVh,S aWd,S aWl,S aVB,S [116,100],S aVg,S [116,104]]=some (.sl 1 (QR.map Cu)):=Ea (ws:=QR) rfl AP
def mg:AD (.Dk 1) [S aVD]=some (.sl 1 ([aVD].map Cu)):=Ea (ws:=[aVD]) rfl AP
def Kn{U:Type}(q e:U->Bool):List U->Bool
 |[]=>false
 |a::r=>if q a then true else if e a then false else Kn q e r
def vH{U:Type}{q e:U->Bool}(l:List U)(b:Bool):(if h:0<=AV (λa=>q a||e a) l/\(AV (λa=>q a||e a) l).toNat<l.length then q (l[(AV (λa=>q a||e a) l).toNat]'h.2) else false)=Kn q e l.reverse:=by
 have key:∀r:List U,(if h:0<=AV (λa=>q a||e a) r.reverse/\(AV (λa=>q a||e a) r.reverse).toNat<r.reverse.length then q (r.reverse[(AV (λa=>q a||e a) r.reverse).toNat]'h.2) else false)=Kn q e r:=by
  intro r;induction r with
  |nil=>simp[Kn,Kg]
  |cons a r ih=>
   simp only[Ee,Kn];have e0:=Jd (q:=λa=>q a||e a) (l:=r.reverse) (a:=a);by_cases hq:q a=true
   .rw[Af (by simp[hq])] at e0;have c:(AV (λa=>q a||e a) (r.reverse++[a])).toNat=r.reverse.length:=by rw[e0];omega
    simp only[c];rw[sD ⟨by rw[e0];omega,AH⟩];simp[hq]
   .by_cases he:e a=true
    .rw[Af (by simp[he])] at e0;have c:(AV (λa=>q a||e a) (r.reverse++[a])).toNat=r.reverse.length:=by rw[e0];omega
     simp only[c];rw[sD ⟨by rw[e0];omega,AH⟩];simp[hq,he]
    .rw[Ad (by simp[hq,he])] at e0;simp only[hq,he,DF,Cx,<-ih,e0];rcases Dj (q:=λa=>q a||e a) (l:=r.reverse) with⟨h1,h2⟩|⟨n,hn,h1,h2,j⟩
     .simp[h1]
     .have g:(0:Int)<=(n:Int)/\(n:Int).toNat<r.reverse.length:=⟨Ac,by simpa using hn⟩;have i:(0:Int)<=(n:Int)/\(n:Int).toNat<(r.reverse++[a]).length:=⟨Ac,by simp at hn⊢;omega⟩;simp only[h1];rw[sD g,sD i,Gr g.2]
 have:=key l.reverse;rwa [Fm] at this
def Js.cells{v:Aa}{ws:List Aj}(hv:Js ws v):v.cells=[v]:=AU.cells hv
def Bz(node:Int)(a:Item):Bool:=decide (a.node=node)
end
end
section
section
variable{h:Ai}{p v:Aa}{l:List Item}
def cH{n s:Int}{t:Aj}{b:Bool}:AD (.Ch [I 0,I 0,S [],ff] [(0,1),(1,1),(2,1),(3,1)]) [.int .i64 n,.int .i64 s,.str t,.bool b]=some (.agg (Item.row ⟨n,s,t,b⟩)):=by simp only[BE];rfl
def MM{a:Item}:AD (.Dk 4) [.agg a.row]=some (.sl 4 [a.row]):=MI rfl AP
def Mm(h:Ai)(id o:Nat)(l:List Item):Prop:=∃v,At h id o v/\BZ l v
def Mm.at{id o:Nat}(hs:Mm h id o l):me h (.ptr (some (id,o))) l:=let⟨v,h1,h2⟩:=hs; .inr ⟨id,o,v,rfl,h1,h2⟩
def BZ.cells(hv:BZ l v):v.cells=[v]:=AU.cells hv
def Hc(a:Item):Bool:=Ez a.Bb a.name
def D2(node:Int)(l:List Item):Int:=if AV (Bz node) l<0 then -1 else match(l.drop ((AV (Bz node) l).toNat+1)).findIdx? Hc with
 |some k=>AV (Bz node) l+1+k
 |none=> -1
def E2{U:Type}(q:U->Bool)(l:List U)(n:Nat):Int:=match(l.drop n).findIdx? q with
 |some k=>(n:Int)+k
 |none=> -1
def Rt{U:Type}{q:U->Bool}{l:List U}{n:Nat}(h:l.length<=n):E2 q l n= -1:=by unfold E2;rw[AZ h];rfl
def Te{U:Type}{q:U->Bool}{l:List U}{n:Nat}(h:n<l.length):E2 q l n=if q l[n] then(n:Int) else E2 q l (n+1):=by
 unfold E2;rw[AG h,aPn];by_cases hq:q l[n]=true;.simp only[hq,BJ];omega
 .simp only[hq,Cx,DF];cases List.findIdx? q (l.drop (n+1)) with
  |none=>rfl
  |some k=>simp only[BY];omega
def IS{node:Int}:D2 node l=if AV (Bz node) l<0 then -1 else E2 Hc l ((AV (Bz node) l).toNat+1):=by
 unfold D2 E2;by_cases h:AV (Bz node) l<0;.simp only[h,BJ]
 .simp only[h,DF];cases(l.drop ((AV (Bz node) l).toNat+1)).findIdx? Hc with
  |none=>rfl
  |some k=>simp only;omega
def YA{U:Type}(q e:U->Bool):List U->Bool
 |[]=>false
 |a::r=>(q a&& !(r.any e))||YA q e r
def VA{U:Type}{q e:U->Bool}{a:U}:∀{r:List U},Kn q e (r++[a])=((q a&& !(r.any e))||Kn q e r)
 |[]=>by by_cases h:q a=true<;>simp[Kn,h]
 |b::r=>by
  simp only[Cs,Kn,VA (r:=r)];by_cases h1:q b=true;.simp[h1]
  .by_cases h2:e b=true<;>simp[h1,h2]
def pU{U:Type}{q e:U->Bool}:∀{l:List U},YA q e l=Kn q e l.reverse
 |[]=>rfl
 |a::l=>by rw[Ee,VA,YA,pU];simp
def aDH{U:Type}{q e:U->Bool}(l:List U):(if AV q l<0 then false else !((l.drop ((AV q l).toNat+1)).any e))=Kn q e l.reverse:=by
 have key:∀r:List U,(if AV q r.reverse<0 then false else !((r.reverse.drop ((AV q r.reverse).toNat+1)).any e))=Kn q e r:=by
  intro r;induction r with
  |nil=>rfl
  |cons a r ih=>
   simp only[Ee,Kn,Jd];by_cases hq:q a=true;.simp only[hq,BJ];rw[Ad Ac,AX,AZ AH];rfl
   .simp only[hq,DF,Cx,<-ih];rcases Dj (q:=q) (l:=r.reverse) with⟨h1,h2⟩|⟨n,hn,h1,h2,c⟩
    .simp[h1]
    .have i0:¬(n:Int)<0:=by omega
     rw[h1,Ad i0,Ad i0,AX,Jp Ac,VS];cases he:e a<;>simp only[NV,UX,he,JQ,aFp,Cx,DF,BJ,Sv]
 have:=key l.reverse;rwa [Fm] at this
end
end
section
def Ev.ret{C:Gb}{f:FuncId}{args:List Aa}{h:Ai}{R:Aa->Ai->Prop}(hw:Ev C f args h R):∃r h',BG C f args h r h'/\R r h':=by obtain⟨n,x,vs,h',e,hx,r,hv,hR⟩:=hw;exact⟨r,h',⟨n,x,vs,h',e,hx,hv,rfl⟩,hR⟩
def Qi(b a:Item->Bool):List Item->List Item
 |x::y::r=>if b x then x::y::r else if a x then y::r else Qi b a (y::r)
 |r=>r
def DN(b a:Item->Bool)(l:List Item):List Item:=(Qi b a l.reverse).reverse
def mh{b a:Item->Bool}{l:List Item}(h:l.length<=1):Qi b a l=l:=by
 match l with
 |[]=>rfl
 |[x]=>rfl
 |x::y::r=>simp at h
def YB{b a:Item->Bool}{l:List Item}(h:l.length<=1):DN b a l=l:=by unfold DN;rw[mh (by simpa using h),Fm]
def cI{b a:Item->Bool}{l:List Item}{x:Item}(h:1<=l.length):DN b a (l++[x])=if b x then l++[x] else if a x then l else DN b a l:=by
 unfold DN;rw[II,Jy,J4];cases hr:l.reverse with
 |nil=>
  have:l=[]:=by simpa using hr
  subst this;simp at h
 |cons y r=>
  have hl:l=r.reverse++[y]:=by rw[<-Fm l,hr,Ee]
  rw[Qi];by_cases h1:b x=true;.rw[Af h1,Af h1];rw[hl];simp
  .rw[Ad h1,Ad h1];by_cases h2:a x=true;.rw[Af h2,Af h2];rw[hl];simp
   .rw[Ad h2,Ad h2]
def cJ{b a:Item->Bool}{l:List Item}{n:Nat}(hn:n+1<l.length):DN b a (l.take (n+2))=if b l[n+1] then l.take (n+2) else if a l[n+1] then l.take (n+1) else DN b a (l.take (n+1)):=by have e:l.take (n+2)=l.take (n+1)++[l[n+1]]:=AB hn;rw[e,cI (by rw[Ax];omega)]
def QS{b a:Item->Bool}:∀{l:List Item},(DN b a l).length<=l.length:=by
 have key:∀r:List Item,(Qi b a r).length<=r.length:=by
  intro r;induction r with
  |nil=>simp[Qi]
  |cons x r ih=>
   cases r with
   |nil=>simp[Qi]
   |cons y r=>
    rw[Qi];split;.simp
    .split;.simp
     .exact Br ih AH
 intro l;have:=key l.reverse;simpa[DN] using this
section
variable{h:Ai}{p v:Aa}{l:List Item}
def YC{n:Nat}(hn:n<l.length):Fy (l.take (n+1))=l[n]:=by
 have e:((l.take (n+1)).length:Int)-1=(n:Int):=by rw[Ax];omega
 unfold Fy;rw[e,HE (by rw[Ax];omega)];simp
def Mm.fW{id o:Nat}(hs:Mm h id o l):∃u,h=put h id o u/\BZ l u:=by obtain⟨u,hc,hu⟩:=hs;exact⟨u,hc.same.symm,hu⟩
def Mm.lt{id o:Nat}(hs:Mm h id o l):∃v,At h id o v:=let⟨u,hc,_⟩:=hs;⟨u,hc⟩
def Mm.aDI{id o:Nat}{u:Aa}(hlt:∃v,At h id o v)(hu:BZ l u):Mm (put h id o u) id o l:=let⟨_,ha⟩:=hlt;⟨u,ha.put,hu⟩
def CY(_:Item):Bool:=false
def EA(s:Aj)(a:Item):Bool:=decide (a.Bb≠1\/a.name∉GF\/a.name=s)
def CK(a:Item):Bool:=decide (a.Bb≠1\/¬(a.name∈Kf\/a.name∈GF))
def Hd(node:Int)(l:List Item):List Item:=if AV (Bz node) l<0 then l else DN CY (Bz node) l
def J0(l:List Item)(i:Int):List Item:=l.take (max 1 i.toNat)
def O0{q:Item->Bool}(l:List Item):DN CY q l=J0 l (AV q l):=by
 have key:∀r:List Item,DN CY q r.reverse=J0 r.reverse (AV q r.reverse):=by
  intro r;induction r with
  |nil=>rfl
  |cons x r ih=>
   rw[Ee,Jd];rcases Jw r.length with h0|h0
   .have:r=[]:=Mg.1 h0;subst this;by_cases hq:q x=true<;>simp[hq,J0,DN,Qi,Kg]
   .have h1:1<=r.reverse.length:=by rw[Lq];omega
    rw[cI h1];by_cases hq:q x=true;.rw[Ad (by simp[CY]),Af hq,Af hq];unfold J0;rw[AX,yI h1,CM (Ag _),Bx]
    .rw[Ad (by simp[CY]),Ad hq,Ad hq,ih];unfold J0;rw[CM];rcases Dj (q:=q) (l:=r.reverse) with⟨a,_⟩|⟨n,hn,a,_⟩<;>rw[a]<;>omega
 have:=key l.reverse;rwa [Fm] at this
def VB{node:Int}(l:List Item):Hd node l=if AV (Bz node) l<0 then l else J0 l (AV (Bz node) l):=by unfold Hd;rw[O0]
end
end
section
section
variable{h:Ai}{p v:Aa}{l:List Item}
def xf(l:List Item):∀r∈l.map Item.row,r.length=4:=MJ (f:=Item.row) (λa=>Item.CP) l
def Ru{n:Nat}(h:n<=2000000000):n*40<=AW:=by have:AW=140737488355328:=rfl;omega
def Bg{U:Type}(l:List U)(k:Nat):List U:=l.take k++l.drop (k+1)
def CX(node:Int)(l:List Item):List Item:=if AV (Bz node) l<1 then l else Bg l (AV (Bz node) l).toNat
def E3(i:Int)(n:Nat):Nat:=min (max i 1).toNat n
def Qj(node:Int)(a:Item)(l:List Item):List Item:=if AV (Bz node) l<1 then l else l.set (AV (Bz node) l).toNat a
def fX(h:Ai)(l:List Item)(r:Aa)(h':Ai):Prop:=(l=[]/\r= .slnil/\h'=h)\/(l≠[]/\r= .CE h.length 0 l.length 4/\h'=h++[.cells (l.map Item.row).flatten])
def Ġ(hv:BZ l v)(hb:l.length<=1000000000):∃r h',K8 h 4 40 .slnil v=some (h',r)/\fX h l r h':=by
 by_cases hne:l=[];.subst hne;exact⟨_,_,Qe (.inl rfl) hv,.inl ⟨rfl,rfl,rfl⟩⟩
 .have a:=LN (h:=h) (s:= .slnil) (z:=4) (b:=40) (.inl rfl) hv (by simpa using hne) (by rw[Ao];exact Ru Ac);rw[Ao] at a;exact⟨_,_,a,.inr ⟨hne,rfl,rfl⟩⟩
def fX.PH{r:Aa}{h':Ai}(hc:fX h l r h'):∃u t,KT h' r=some (h++t,u)/\BZ l u:=by
 rcases hc with⟨rfl,rfl,rfl⟩|⟨hne,rfl,rfl⟩
 .exact⟨.slnil,[],by rw[By];rfl,.nil⟩
 .have a:(h++[Dx.cells (l.map Item.row).flatten])[h.length]?=some (.cells (l.map Item.row).flatten):=by simp
  have f1:=Ke (xf l) a;rw[Ao] at f1;refine⟨.sl 4 (l.map Item.row),[.CR],?_,.mk⟩;rw[f1];congr 2
  rw[BH _ _ (Ag _)];simp
end
end
section
end
section
section
variable{h:Ai}{p v w:Aa}{l:List Item}{ws:List Aj}
def xg:J0 l (-1)=J0 l 1:=rfl
def EU(s:Aj)(all:Bool)(a:Item):Bool:=if all then CK a else EA s a
end
end
section
def fT:List (Aj×Int×Aj):=[(aVR,4,aWr),(aVO,4,aWq),(aV3,4,aWC),(aV4,4,aWD),(aV5,4,aWE),(aVV,4,aVs),(aV6,4,aWt),(aV9,5,[108,97,110,103]),(aVX,5,aWB),(aVZ,6,aVZ),(aVK,6,aWg)]
def YD(x:Aj×Int×Aj):Aa×Aa:=(.str x.1,.agg [.int .i64 x.2.1,.str x.2.2,.str []])
def ft(n:Nat):List (Aa×Aa):=(fT.take n).map YD
def aG7:NW aVR (.agg [.int .i64 4,.str aWr,.str []]) (ft 0)=some (ft 1):=by kernel_rfl
def aG8:NW aVO (.agg [.int .i64 4,.str aWq,.str []]) (ft 1)=some (ft 2):=by kernel_rfl
def aG9:NW aV3 (.agg [.int .i64 4,.str aWC,.str []]) (ft 2)=some (ft 3):=by kernel_rfl
def aHa:NW aV4 (.agg [.int .i64 4,.str aWD,.str []]) (ft 3)=some (ft 4):=by kernel_rfl
def aHb:NW aV5 (.agg [.int .i64 4,.str aWE,.str []]) (ft 4)=some (ft 5):=by kernel_rfl
def aHc:NW aVV (.agg [.int .i64 4,.str aVs,.str []]) (ft 5)=some (ft 6):=by kernel_rfl
def aHd:NW aV6 (.agg [.int .i64 4,.str aWt,.str []]) (ft 6)=some (ft 7):=by kernel_rfl
def aHe:NW aV9 (.agg [.int .i64 5,.str [108,97,110,103],.str []]) (ft 7)=some (ft 8):=by kernel_rfl
def aHf:NW aVX (.agg [.int .i64 5,.str aWB,.str []]) (ft 8)=some (ft 9):=by kernel_rfl
def aHg:NW aVZ (.agg [.int .i64 6,.str aVZ,.str []]) (ft 9)=some (ft 10):=by kernel_rfl
def aDJ:NW aVK (.agg [.int .i64 6,.str aWg,.str []]) (ft 10)=some (ft 11):=by kernel_rfl
def vI{h:Ai}{es:List (Aa×Aa)}{s:Aj}{v:Aa}:Rg (h++[.map es]) (.map (some h.length)) (.str s) v=(NW s v es).map λes=>h++[.map es]:=by simp[Rg]
def Eb(n:Aj):Option (Int×Aj):=(fT.find? λx=>decide (n=x.1)).map (·.2)
def YE(n:Aj):∀l:List (Aj×Int×Aj),SG n (l.map YD)=some ((l.find? λx=>decide (n=x.1)).map λx=>(YD x).2)
 |[]=>rfl
 |x::l=>by
  rw[Bj,GQ,YD,SG];by_cases e:n=x.1;.rw[Af e,Al e];rfl
  .rw[Ad e,Ah e];exact YE n l
def MN{h:Ai}{n:Aj}:PM (h++[.map (ft 11)]) (.agg [.int .i64 0,.str [],.str []]) true (.map (some h.length)) (.str n)=
  some (match Eb n with|some (s,m)=> .tuple [.agg [.int .i64 s,.str m,.str []],.bool true]|none=> .tuple [.agg [.int .i64 0,.str [],.str []],.bool false]):=by
 have e:T1 (h++[.map (ft 11)]) (.map (some h.length)) (.str n)=SG n (fT.map YD):=by simp[T1,ft,fT]
 rw[PM,e,YE,Eb];cases fT.find? λx=>decide (n=x.1)<;>rfl
abbrev aDK:Aj:=aV7
abbrev Wf:Aj:=aWa
def Kz(sp:Int)(n:Aj):Aj:=if sp=2 then Cp n Ip else if sp=3/\n=aDK then Wf else n
def C6(sp:Int)(a:A5):A5:=
 if sp=2\/sp=3 then match Eb (Kz sp a.name) with
  |some (s,m)=>⟨s,m,a.value⟩
  |none=>⟨0,Kz sp a.name,a.value⟩
 else⟨0,a.name,a.value⟩
def Tf(s:Aj):(FZ s).length=s.length:=by simp[FZ]
def L4(n:Aj):∀ws,Cp n ws=n\/(Cp n ws∈ws/\FZ (Cp n ws)=n)
 |[]=> .inl rfl
 |w::ws=>by
  rw[Cp];split;.rename_i e;exact .inr ⟨List.mem_cons_self,e⟩
  .rcases L4 n ws with h|⟨h1,h2⟩
   .exact .inl h
   .exact .inr ⟨ZI _ h1,h2⟩
def Tg(n:Aj)(ws:List Aj):(Cp n ws).length=n.length:=by
 rcases L4 n ws with h|⟨_,h⟩
 .rw[h]
 .rw[<-Tf,h]
def Ek{a b c:Aa}:AD (.Dk 3) [.agg [a,b,c]]=some (.sl 3 [[a,b,c]]):=rfl
def A5.CP{a:A5}:a.row.length=3:=rfl
def A5.If{a:A5}:a.row.take 3=a.row:=rfl
section
variable{v:Aa}{l:List A5}{h:Ai}
def pV{a b:A5}{neg:Bool}:AD (.geq neg [.i,.s,.s]) [.agg a.row,.agg b.row]=some (.bool (decide (a=b) != neg)):=by
 rw[R7];have:D8 [.i,.s,.s] a.row b.row=some (decide (a=b)):=by simp only[D8,LZ,A5.row,BJ,BC];cases a;cases b;simp only[A5.mk.injEq];rw[Pk];simp
 rw[this];rfl
def Mn:List Aj:=[aVR,aVO,aV3,aV4,aV5,aVV,aV6]
def ġ{s:Aj}:Gd aVj s=decide (s∈Mn):=D9 CA CA
def Uk{k:IntKind}{s:Aj}{a z:Nat}(ha:a<=s.length):AD (.K6 z true true false) [.str s,.int k (a:Int)]=some (.str (s.drop a)):=by
 have c:Fq (a:Int) s.length=some a:=by unfold Fq;rw[Af Ac];rfl
 simp[AD,Kp,Ed,c]
abbrev pW:Aj:=aV9
abbrev YF:Aj:=aVX
abbrev pX:Aj:=aVZ
abbrev YG:Aj:=aVK
def aJ:∀s∈Mn,6<=s.length/\Eb s=some (4,s.drop 6):=AP
def fY{s:Aj}(h1:s∉Mn)(h2:s≠pW)(g:s≠YF)(c:s≠pX)(a:s≠YG):Eb s=none:=by simp only[Mn,AS,KY,sE,NP] at h1;obtain⟨a1,a2,a3,a4,a5,a6,a7⟩:=h1;simp only[Eb,fT,GQ,List.find?_nil,Ah a1,Ah a2,Ah a3,Ah a4,Ah a5,Ah a6,Ah a7,Ah h2,Ah g,Ah c,Ah a,Option.map_none]
abbrev vJ:Aj:=aWg
def Rv(s:Aj):(s∈Mn/\6<=s.length/\Eb s=some (4,s.drop 6))\/(s∉Mn/\((s=pW/\4<=s.length/\Eb s=some (5,s.drop 4))\/(¬s=pW/\((s=YF/\4<=s.length/\Eb s=some (5,s.drop 4))\/(¬s=YF/\((s=pX/\Eb s=some (6,s))\/(¬s=pX/\((s=YG/\Eb s=some (6,vJ))\/(¬s=YG/\Eb s=none))))))))):=by
 by_cases a:s∈Mn;.exact .inl ⟨a,aJ s a⟩
 refine .inr ⟨a,?_⟩;by_cases j:s=pW;.subst j;decide
 refine .inr ⟨j,?_⟩;by_cases i:s=YF;.subst i;decide
 refine .inr ⟨i,?_⟩;by_cases g:s=pX;.subst g;decide
 refine .inr ⟨g,?_⟩;by_cases c:s=YG;.subst c;decide
 exact .inr ⟨c,fY a j i g c⟩
def sl6{s:Aj}(h:6<=s.length):AD (.K6 0 true true false) [.str s,.int .i64 6]=some (.str (s.drop 6)):=Uk h
def sl4{s:Aj}(h:4<=s.length):AD (.K6 0 true true false) [.str s,.int .i64 4]=some (.str (s.drop 4)):=Uk h
end
end
section
structure Cb where
 node:Int
 name:Aj
 Av:List A5
deriving DecidableEq
structure Ck where
 c:Cb
 v:Aa
 ok:Bi c.Av v
def Ck.row(e:Ck):List Aa:=[.int .i64 e.c.node,.str e.c.name,e.v]
def Dt(l:List Ck)(v:Aa):Prop:=AU 3 (l.map Ck.row) v
section
variable{e:Ck}{d:Aa}
def Ck.CP:e.row.length=3:=rfl
def Ck.g0:e.row.getD 0 d= .int .i64 e.c.node:=rfl
def Ck.g1:e.row.getD 1 d= .str e.c.name:=rfl
def Ck.g2:e.row.getD 2 d=e.v:=rfl
def Ck.at0:e.row[0]?=some (.int .i64 e.c.node):=rfl
def Ck.If:e.row.take 3=e.row:=rfl
def Ck.aa:e.row.drop 1=[.str e.c.name,e.v]:=rfl
def Ck.Qh:[Aa.int .i64 e.c.node,.str e.c.name,e.v]=e.row:=rfl
def Ck.Ģ:AD (.len false) [e.v]=some (.int .i64 (e.c.Av.length:Int)):=AU.CN e.ok
end
def A5.g0{a:A5}{d:Aa}:a.row.getD 0 d= .int .i64 a.Bb:=rfl
def A5.g1{a:A5}{d:Aa}:a.row.getD 1 d= .str a.name:=rfl
def A5.g2{a:A5}{d:Aa}:a.row.getD 2 d= .str a.value:=rfl
def A5.Qh{a:A5}:[Aa.int .i64 a.Bb,.str a.name,.str a.value]=a.row:=rfl
def Qk{n:Nat}(h:n<=2000000000):n*48<=AW:=by have:AW=140737488355328:=rfl;omega
def Ul(e:Ck):Bool:=decide (e.c.node=0)
def Ql(n:Int)(e:Ck):Bool:=decide (e.c.node=n)
def since(l:List Ck):Int:=AV Ul l+1
def mi:since []=0:=rfl
def vK{l:List Ck}{e:Ck}:since (l++[e])=if e.c.node=0 then(l.length:Int)+1 else since l:=by unfold since;rw[Jd];by_cases h:e.c.node=0<;>simp[Ul,h]
def YH{l:List Ck}{n:Nat}(hn:n<l.length):since (l.take (n+1))=if l[n].c.node=0 then(n:Int)+1 else since (l.take n):=by rw[AB hn,vK,Ax,Cq (M8 hn)]
def J1(l:List Ck):∃s:Nat,since l=(s:Int)/\s<=l.length/\(∀m (hm:m<l.length),s<=m->l[m].c.node≠0)/\(∀t,s=t+1->∃ht:t<l.length,l[t].c.node=0):=by
 rcases Dj (q:=Ul) (l:=l) with⟨h1,h2⟩|⟨n,hn,h1,h2,a⟩
 .refine⟨0,by unfold since;rw[h1];rfl,AY _,λm hm _=>?_,λt ht=>by omega⟩;have:=h2 _ (AN hm);simpa[Ul] using this
 .refine⟨n+1,by unfold since;rw[h1];rfl,hn,λm hm Er=>?_,λt ht=>?_⟩;.have:=a m hm Ac;simpa[Ul] using this
  .obtain rfl:t=n:=by omega
   exact⟨hn,by simpa[Ul] using h2⟩
section
variable{h:Ai}{v:Aa}{l:List Ck}{id:Nat}
def ae(name:Aj):List Ck->Int
 |[]=> -1
 |e::t=>if e.c.node=0 then -1 else if e.c.name=name then(t.length:Int) else ae name t
def Oh(name:Aj)(l:List Ck):Int:=ae name l.reverse
def Sd{name:Aj}{n:Nat}(hn:n<l.length):Oh name (l.take (n+1))=if l[n].c.node=0 then -1 else if l[n].c.name=name then(n:Int) else Oh name (l.take n):=by rw[AB hn,Oh,II,Jy,J4,ae,Lq,Ax,Cq (M8 hn),Oh]
def mj{name:Aj}:Oh name []= -1:=rfl
def pY{name:Aj}{s:Nat}(hs:since l=(s:Int)):Oh name (l.take s)= -1:=by
 obtain⟨s',e,h1,h2,a⟩:=J1 l;obtain rfl:s=s':=Ac;cases s with
 |zero=>rfl
 |succ t=>obtain⟨ht,h0⟩:=a t rfl;rw[Sd ht,Af h0]
def HF(node:Int)(l:List Ck):Int:=if node=0 then -1 else AV (Ql node) l
end
section
variable{h:Ai}{v:Aa}{l:List A5}
def GO(a b:Cb):Bool:=decide (a.name=b.name/\a.Av.length=b.Av.length/\(∀x∈a.Av,x∈b.Av)/\∀x∈b.Av,x∈a.Av)
def ZQ(e:Ck):Prop:=e.c.Av.length<=1000000000
end
end
section
mutual
def Aa.Th:∀a:Aa,Aa.beq a a=true
 | .bool a=>by simp[Aa.beq]
 | .int k a=>by simp[Aa.beq]
 | .str a=>by simp[Aa.beq]
 | .ptr a=>by simp[Aa.beq]
 | .CI a=>by simp[Aa.beq,Aa.Lf a]
 | .sl n a=>by simp[Aa.beq,Aa.YI a]
 | .Gl _=>by simp[Aa.beq]
 | .slnil=>by simp[Aa.beq]
 | .CE a c d e=>by simp[Aa.beq]
 | .map a=>by simp[Aa.beq]
 | .func f a c=>by simp[Aa.beq,Aa.Lf a,Aa.Lf c]
 | .nilFunc=>by simp[Aa.beq]
 | .iface t a=>by simp[Aa.beq,Aa.Th a]
 | .nilIface=>by simp[Aa.beq]
 | .agg a=>by simp[Aa.beq,Aa.Lf a]
 | .tuple a=>by simp[Aa.beq,Aa.Lf a]
def Aa.Lf:∀a:List Aa,Aa.SD a a=true
 |[]=>by simp[Aa.SD]
 |a::x=>by simp[Aa.SD,Aa.Th a,Aa.Lf x]
def Aa.YI:∀a:List (List Aa),Aa.SE a a=true
 |[]=>by simp[Aa.SE]
 |a::x=>by simp[Aa.SE,Aa.Lf a,Aa.YI x]
end
def Um(h:Ai)(id o:Nat)(l:List Ck):Prop:=∃u,At h id o u/\Dt l u
def Dt.cells{l:List Ck}{v:Aa}(hv:Dt l v):v.cells=[v]:=AU.cells hv
def Um.lt{h:Ai}{id o:Nat}{l:List Ck}(hs:Um h id o l):∃v,At h id o v:=let⟨u,hc,_⟩:=hs;⟨u,hc⟩
def O1(l:List Ck):∀r∈l.map Ck.row,r.length=3:=MJ (f:=Ck.row) (λa=>Ck.CP) l
section
variable{h:Ai}{v:Aa}{l:List Ck}{id:Nat}
def Mv{r:List Aa}(h:r.length=3):AD (.Dk 3) [.agg r]=some (.sl 3 [r]):=MI (a:= .agg r) h AP
def pZ(n:Int)(l:List Ck):HF n l= -1\/∃k:Nat,k<l.length/\HF n l=(k:Int):=by
 unfold HF;split;.exact .inl rfl
 .rcases Dj (q:=Ql n) (l:=l) with⟨h1,_⟩|⟨k,hk,h1,_⟩
  .exact .inl h1
  .exact .inr ⟨k,hk,h1⟩
def fZ:Ck:=⟨⟨0,[],[]⟩,.slnil,.nil⟩
def xh:[I 0,S [],Aa.slnil]=fZ.row:=rfl
def CJ(i:Int)(n:Nat):Nat:=min (max i 0).toNat n
def EV(l:List Ck):Nat:=(since l-1).toNat
end
end
section
def ģ(e:Cb):List Ck->Nat
 |[]=>0
 |x::t=>if x.c.node=0 then 0 else ģ e t+(if GO x.c e=true then 1 else 0)
def vL(e:Cb):List Ck->Int
 |[]=> -1
 |x::t=>if x.c.node=0 then -1 else if 0<=vL e t then vL e t else if GO x.c e=true then(t.length:Int) else -1
def Ti(e:Cb)(l:List Ck):Nat:=ģ e l.reverse
def Oi(e:Cb)(l:List Ck):Int:=vL e l.reverse
section
variable{e:Cb}{l:List Ck}{n s:Nat}
def Un(hn:n<l.length):Ti e (l.take (n+1))=if l[n].c.node=0 then 0 else Ti e (l.take n)+(if GO l[n].c e=true then 1 else 0):=by rw[AB hn,Ti,II,Jy,J4,ģ,Ti]
def Uo(hn:n<l.length):Oi e (l.take (n+1))=if l[n].c.node=0 then -1 else if 0<=Oi e (l.take n) then Oi e (l.take n) else if GO l[n].c e=true then(n:Int) else -1:=by rw[AB hn,Oi,II,Jy,J4,vL,Oi,Lq,Ax,Cq (M8 hn)]
def YJ(hs:since l=(s:Int)):Ti e (l.take s)=0/\Oi e (l.take s)= -1:=by
 obtain⟨s',e,h1,h2,a⟩:=J1 l;obtain rfl:s=s':=Ac;cases s with
 |zero=>exact⟨rfl,rfl⟩
 |succ t=>obtain⟨ht,h0⟩:=a t rfl;exact⟨by rw[Un ht,Af h0],by rw[Uo ht,Af h0]⟩
end
def Lg(e:Cb)(l:List Ck):List Ck:=if e.node≠0/\3<=Ti e l then Bg l (Oi e l).toNat else l
section
variable{h:Ai}{v:Aa}{l:List Ck}{id:Nat}
end
end
section
section
variable{h:Ai}{v:Aa}{l:List Ck}{id:Nat}
end
end
end Go.Am
end
section
namespace Go.Am
structure EW where
 kind:Int:=0
 FV:Int:=0
 Bc:List Int:=[]
 CG:Int:=0
 Bb:Int:=0
 name:Aj:=[]
 Av:List A5:=[]
 data:Aj:=[]
 qp:Aj:=[]
 sys:Aj:=[]
 CL:Bool:=false
 cont:Int:=0
 Eo:Int:=0
deriving DecidableEq
structure Ar where
 n:List EW
 i:List Int
abbrev AM:Aj:=aVg
def gA(x:EW):Prop:=x.kind=4/\x.Bb=1/\x.name=AM
instance(x:EW):Decidable (gA x):=by unfold gA;infer_instance
namespace Ar
def len(A:Ar):Int:=A.n.length
def has(A:Ar)(h:Int):Prop:=1<=h/\h<=A.n.length
instance(A:Ar)(h:Int):Decidable (A.has h):=by unfold has;infer_instance
def nd(A:Ar)(h:Int):EW:=if A.has h then A.n.getD (h.toNat-1) {} else{}
def inr(A:Ar)(h:Int):Int:=if A.has h then A.i.getD (h.toNat-1) 0 else 0
def set(A:Ar)(h:Int)(x:EW):Ar:={n:=if A.has h then A.n.set (h.toNat-1) x else A.n,i:=A.i}
def Je(A:Ar)(h:Int)(x:Int):Ar:={n:=A.n,i:=if A.has h then A.i.set (h.toNat-1) x else A.i}
def add(A:Ar)(x:EW):Ar:={n:=A.n++[x],i:=A.i++[0]}
def up(A:Ar)(h:Int):Int:=if(A.nd h).FV≠0 then(A.nd h).FV else(A.nd h).Eo
end Ar
section
variable{A:Ar}{h k:Int}{x y:EW}
def HR(a:¬A.has h):A.nd h={}:=by unfold Ar.nd;rw[Ad a]
def JE:(A.set h x).n.length=A.n.length:=by simp only[Ar.set];split<;>simp
def Ĥ:(A.set h x).len=A.len:=by unfold Ar.len;rw[JE]
def ID:(A.set h x).has k↔A.has k:=by unfold Ar.has;rw[JE]
def J2:(A.set h x).nd k=if k=h/\A.has h then x else A.nd k:=by
 unfold Ar.nd;simp only[ID];by_cases hk:A.has k
 .rw[Af hk,Af hk];simp only[Ar.set];by_cases a:A.has h
  .rw[Af a];have h1:=a;have h2:=hk;unfold Ar.has at h1 h2;by_cases e:k=h;.subst e;rw[Af ⟨rfl,a⟩,AJ,AO Ac];rfl
   .rw[Ad (by simp[e]),AJ,As Ac,AJ]
  .rw[Ad a,Ad (by simp[a])]
 .rw[Ad hk,Ad hk,Ad];rintro⟨rfl,h2⟩;exact hk h2
def Tj:(A.set h x).inr k=A.inr k:=by unfold Ar.inr;simp only[ID];rfl
def O2:(A.add x).len=A.len+1:=by simp[Ar.len,Ar.add]
def DP:(A.add x).has k↔A.has k\/k=A.len+1:=by simp[Ar.has,Ar.add,Ar.len];omega
def IU:(A.add x).nd k=if k=A.len+1 then x else A.nd k:=by
 unfold Ar.nd;simp only[DP];by_cases e:k=A.len+1;.subst e;simp[Ar.add,Ar.len]
 .by_cases hk:A.has k;.rw[Af (.inl hk),Ad e,Af hk];unfold Ar.has at hk;simp only[Ar.add,AJ];rw[Ak Ac]
  .rw[Ad (by simp[hk,e]),Ad e,Ad hk]
def WN(hl:A.i.length=A.n.length):(A.add x).inr k=A.inr k:=by
 unfold Ar.inr;simp only[DP];by_cases e:k=A.len+1
 .subst e;have:¬A.has (A.len+1):=by unfold Ar.has Ar.len;omega
  rw[Af (.inr rfl),Ad this];simp[Ar.add,Ar.len,<-hl]
 .by_cases hk:A.has k;.rw[Af (.inl hk),Af hk];unfold Ar.has at hk;simp only[Ar.add,AJ];rw[Ak Ac]
  .rw[Ad (by simp[hk,e]),Ad hk]
def Tk:(A.Je h k).len=A.len:=rfl
def Oj{m:Int}:(A.Je h m).has k↔A.has k:=aFo
def Tl{m:Int}:(A.Je h m).nd k=A.nd k:=by rfl
def Qm{m:Int}(hl:A.i.length=A.n.length):(A.Je h m).inr k=if k=h/\A.has h then m else A.inr k:=by
 unfold Ar.inr;simp only[Oj];by_cases hk:A.has k
 .rw[Af hk,Af hk];simp only[Ar.Je];by_cases a:A.has h
  .rw[Af a];have h1:=a;have h2:=hk;unfold Ar.has at h1 h2;by_cases e:k=h;.subst e;rw[Af ⟨rfl,a⟩,AJ,AO Ac];rfl
   .rw[Ad (by simp[e]),AJ,As Ac,AJ]
  .rw[Ad a,Ad (by simp[a])]
 .rw[Ad hk,Ad hk,Ad];rintro⟨rfl,h2⟩;exact hk h2
end
def DD(a:A5):Int×Aj:=(a.Bb,a.name)
def HG(out:List A5):List A5->List A5
 |[]=>out
 |x::l=>if out.any (λy=>decide (DD x=DD y)) then HG out l else HG (out++[x]) l
def Cw(l:List A5):List A5:=HG [] l
def Se:∀{l out:List A5},(out.map DD).Nodup->((HG out l).map DD).Nodup
 |[],_,h=>h
 |x::l,out,h=>by
  rw[HG];split;.exact Se h
  .rename_i hn;refine Se ?_;rw[Bu,B3];refine⟨h,AH,?_⟩;rintro a ha b hb rfl;simp at hb;subst hb;simp at ha hn;obtain⟨y,hy,e⟩:=ha;exact hn y hy e.symm
def p8:∀{l out:List A5},((out++l).map DD).Nodup->HG out l=out++l
 |[],out,_=>by simp[HG]
 |x::l,out,h=>by
  rw[HG,Ad,p8 (by simpa using h)];.simp
  .intro ha;rw[Bu,B3] at h;simp at ha;obtain⟨y,hy,e⟩:=ha;exact h.2.2 _ (Bn.2 ⟨y,hy,e.symm⟩) _ AH rfl
def ml(l:List A5):((Cw l).map DD).Nodup:=Se AH
def ĥ{l:List A5}(h:(l.map DD).Nodup):Cw l=l:=by have:=p8 (out:=[]) (l:=l) (by simpa using h);simpa[Cw] using this
def cK(l:List A5):Cw (Cw l)=Cw l:=ĥ (ml l)
def Uq:∀{l out:List A5} {a:A5},a∈HG out l->a∈out\/a∈l
 |[],_,_,h=> .inl h
 |x::l,out,a,h=>by
  rw[HG] at h;split at h
  .rcases Uq h with h|h
   .exact .inl h
   .exact .inr (by simp[h])
  .rcases Uq h with h|h
   .simp at h;rcases h with h|rfl
    .exact .inl h
    .exact .inr AH
   .exact .inr (by simp[h])
def p9{l:List A5}{a:A5}(h:a∈Cw l):a∈l:=by simpa using Uq h
def YK:∀{l out:List A5},(HG out l).length<=out.length+l.length
 |[],out=>by simp[HG]
 |x::l,out=>by
  rw[HG];split;.have:=YK (l:=l) (out:=out);simp;omega
  .have:=YK (l:=l) (out:=out++[x]);simp at this⊢;omega
def QT{l:List A5}:(Cw l).length<=l.length:=by have:=YK (l:=l) (out:=[]);simpa[Cw] using this
structure qq(x:EW):Prop where
 k:1<=x.kind/\x.kind<=6
 Bc:x.Bc≠[]->x.kind=1\/x.kind=2\/x.kind=4
 elem:x.kind≠4->x.Bb=0/\x.Av=[]
 nm:x.kind≠4->x.kind≠3->x.name=[]
 dt:x.kind≠3->x.qp=[]/\x.sys=[]
 data:x.kind≠5->x.kind≠6->x.data=[]
 CL:x.kind≠1->x.CL=false
 sp:0<=x.Bb/\x.Bb<=7
 å:∀a∈x.Av,0<=a.Bb/\a.Bb<=7
 Cw:Cw x.Av=x.Av
 VC:x.cont≠0->gA x
 Qn:x.Eo≠0->x.kind=2
 root:x.FV≠0->x.kind≠1/\x.kind≠2
 mn:x.Bc.Nodup
structure EM(A:Ar)(e:Int):Prop where
 il:A.i.length=A.n.length
 Tm:∀h,A.has h->qq (A.nd h)
 CG:∀h,A.has h->A.has (A.nd h).CG/\(A.nd (A.nd h).CG).kind=1
 gB:∀h,A.has h->(A.nd h).kind=1->(A.nd h).CG=h
 FV:∀h,A.has h->(A.nd h).FV≠0->A.has (A.nd h).FV/\h∈(A.nd (A.nd h).FV).Bc
 Nl:∀h,A.has h->∀k∈(A.nd h).Bc,A.has k/\(A.nd k).FV=h
 gC:∀h,A.has h->h≠e->gA (A.nd h)->(A.nd h).cont≠0
 cont:∀h,A.has h->(A.nd h).cont≠0->A.has (A.nd h).cont/\(A.nd (A.nd h).cont).kind=2/\(A.nd (A.nd h).cont).Eo=h
 Eo:∀h,A.has h->(A.nd h).Eo≠0->A.has (A.nd h).Eo/\(A.nd (A.nd h).Eo).cont=h
 ine:∀h,A.has h->A.inr h≠0->A.has (A.inr h)/\(A.nd (A.inr h)).kind=1
 gD:∃r:Int->Nat,∀h,A.has h->A.up h≠0->r (A.up h)<r h
section
variable{A:Ar}{e h k:Int}{x y:EW}
def Sf:¬A.has (A.len+1):=by unfold Ar.has Ar.len;omega
def YL(a:¬A.has h):A.up h=0:=by unfold Ar.up;rw[HR a];simp
def vM(ok:EM A e)(a:A.has h)(hu:A.up h≠0):A.has (A.up h):=by
 unfold Ar.up at hu⊢;split;.rename_i h1;exact(ok.FV h a h1).1
 .rename_i h1;rw[Ad h1] at hu;exact(ok.Eo h a hu).1
def YM(ok:EM A e)(hx:qq x)(hd:(x.kind=1/\x.CG=A.len+1)\/(x.kind≠1/\A.has x.CG/\(A.nd x.CG).kind=1))(hp:x.FV=0)(hk:x.Bc=[])(hc:x.cont=0)(a:x.Eo=0)(b:gA x->e=A.len+1):EM (A.add x) e:=by
 have no:=Sf (A:=A);obtain⟨r,hr⟩:=ok.gD;have ne:∀{k},A.has k->k≠A.len+1:=λhk e=>no (e▸hk);refine⟨by simp[Ar.add,ok.il],?_,?_,?_,?_,?_,?_,?_,?_,?_,r,?_⟩<;>intro m hm<;>rw[DP] at hm<;>(try rw[WN ok.il])<;>simp only[Ar.up,IU,DP]<;>rcases hm with hm|rfl
 all_goals first|(rw[Ad (ne hm)])|(rw[Af rfl])|skip
 .exact ok.Tm m hm
 .exact hx
 .have:=ok.CG m hm;rw[Ad (ne this.1)];exact⟨.inl this.1,this.2⟩
 .rcases hd with⟨h1,h2⟩|⟨h1,h2,c⟩
  .rw[Af h2];exact⟨.inr h2,h1⟩
  .rw[Ad (ne h2)];exact⟨.inl h2,c⟩
 .exact ok.gB m hm
 .intro h1;rcases hd with⟨_,h2⟩|⟨h2,_⟩
  .exact h2
  .exact absurd h1 h2
 .intro h1;have:=ok.FV m hm h1;rw[Ad (ne this.1)];exact⟨.inl this.1,this.2⟩
 .intro h1;exact absurd hp h1
 .intro q hq;have:=ok.Nl m hm q hq;rw[Ad (ne this.1)];exact⟨.inl this.1,this.2⟩
 .intro q hq;rw[hk] at hq;cases hq
 .exact ok.gC m hm
 .intro h1 h2;exact absurd (b h2).symm h1
 .intro h1;have:=ok.cont m hm h1;rw[Ad (ne this.1)];exact⟨.inl this.1,this.2⟩
 .intro h1;exact absurd hc h1
 .intro h1;have:=ok.Eo m hm h1;rw[Ad (ne this.1)];exact⟨.inl this.1,this.2⟩
 .intro h1;exact absurd a h1
 .intro h1;have:=ok.ine m hm h1;rw[Ad (ne this.1)];exact⟨.inl this.1,this.2⟩
 .intro h1;exfalso;apply h1;unfold Ar.inr;rw[Ad no]
 .have:=hr m hm;unfold Ar.up at this;exact this
 .rw[hp,a];simp
inductive Reach(A:Ar)(t:Int):Int->Prop
 |refl:Reach A t t
 |step {h:Int}:A.up h≠0->Reach A t (A.up h)->Reach A t h
def Jm(l:List Int)(b n:Int):List Int:=if b=0 then l++[n] else l.takeWhile (λk=>decide (k≠b))++n::l.dropWhile (λk=>decide (k≠b))
def Ar.cut(A:Ar)(n:Int):Ar:=
 let q:=(A.nd n).FV
 if q=0 then A else
  let a:=A.set q {A.nd q with Bc:=(A.nd q).Bc.filter λk=>decide (k≠n)}
  a.set n {a.nd n with FV:=0}
def Ar.Na(A:Ar)(p n b:Int):Ar:=
 let a:=A.set p {A.nd p with Bc:=Jm (A.nd p).Bc b n}
 a.set n {a.nd n with FV:=p}
def LO(k:Int):Prop:=k=1\/k=2\/k=4
instance(k:Int):Decidable (LO k):=by unfold LO;infer_instance
structure xj(A:Ar)(p n b:Int):Prop where
 hp:A.has p
 hn:A.has n
 hb:b≠0->A.has b/\b≠n/\(A.nd b).FV=p
 kp:LO (A.nd p).kind
 kn:(A.nd n).kind≠1/\(A.nd n).kind≠2
 re:¬Reach A n p
open Classical in
def Ar.F0(A:Ar)(p n b:Int):Ar:=if xj A p n b then(A.cut n).Na p n b else A
def Ur{l:List Int}{b n k:Int}:k∈Jm l b n↔k=n\/k∈l:=by
 unfold Jm;split;.simp;exact Or.comm
 .have e:=sU (p:=λk=>decide (k≠b)) (l:=l);constructor
  .intro h;rw[Ay,AS] at h;rcases h with h|h|h
   .exact .inr (by rw[<-e];simp only[Ay];exact .inl h)
   .exact .inl h
   .exact .inr (by rw[<-e];simp only[Ay];exact .inr h)
  .intro h;rw[Ay,AS];rcases h with h|h
   .exact .inr (.inl h)
   .rw[<-e,Ay] at h;rcases h with h|h
    .exact .inl h
    .exact .inr (.inr h)
def qA{l:List Int}{b n:Int}(h:l.Nodup)(hn:n∉l):(Jm l b n).Nodup:=by
 unfold Jm;split;.rw[B3];refine⟨h,AH,?_⟩;rintro a ha c hc rfl;simp at hc;subst hc;exact hn ha
 .have e:=sU (p:=λk=>decide (k≠b)) (l:=l);generalize List.takeWhile _ l=u at e⊢;generalize List.dropWhile _ l=w at e⊢;subst e;rw[B3] at h⊢;simp at hn;refine⟨h.1,by simp[h.2.1,hn.2],?_⟩;rintro a ha c hc rfl;simp at hc;rcases hc with rfl|hc
  .exact hn.1 ha
  .exact h.2.2 _ ha _ hc rfl
def qB:(A.cut h).n.length=A.n.length:=by unfold Ar.cut;simp only;split<;>simp[JE]
def Ly:(A.cut h).has k↔A.has k:=by unfold Ar.has;rw[qB]
def qC{p n b:Int}:(A.Na p n b).n.length=A.n.length:=by unfold Ar.Na;simp[JE]
def af{p n b:Int}:(A.Na p n b).has k↔A.has k:=by unfold Ar.has;rw[qC]
def Ħ:(A.cut h).inr k=A.inr k:=by unfold Ar.cut;simp only;split<;>simp[Tj]
def ħ{p n b:Int}:(A.Na p n b).inr k=A.inr k:=by unfold Ar.Na;simp[Tj]
def aBL(ok:EM A e)(a:A.has h)(hu:A.up h≠0):A.up h≠h:=by obtain⟨r,hr⟩:=ok.gD;intro e;have:=hr h a hu;rw[e] at this;exact Dm _ this
def vN(ok:EM A e)(a:A.has h)(hu:(A.nd h).FV≠0):(A.nd h).FV≠h:=by
 have:A.up h=(A.nd h).FV:=by unfold Ar.up;rw[Af hu]
 have h2:=aBL ok a (by rw[this];exact hu);rwa [this] at h2
def Sg(ok:EM A e)(a:A.has h):(A.cut h).nd k=if k=h then{A.nd h with FV:=0} else if(A.nd h).FV≠0/\k=(A.nd h).FV then{A.nd k with Bc:=(A.nd k).Bc.filter λm=>decide (m≠h)} else A.nd k:=by
 unfold Ar.cut;simp only
 by_cases hp:(A.nd h).FV=0
 .rw[Af hp];by_cases e:k=h;.subst e;rw[Af rfl];have:A.nd k={A.nd k with FV:=(A.nd k).FV}:=rfl;rw[hp] at this;exact this
  .rw[Ad e,Ad (by simp[hp])]
 .have hn:=vN ok a hp;have hq:=(ok.FV h a hp).1;rw[Ad hp];simp only[J2,ID,a,hq,M3];by_cases e:k=h;.subst e;simp[Dz hn]
  .simp[e,hp];split;.rename_i e;simp[e]
   .rfl
def qD{x:EW}(hx:qq x){l:List Int}(h1:l.Nodup)(h2:l≠[]->LO x.kind):qq {x with Bc:=l}:=
 {k:=hx.k,Bc:=h2,elem:=hx.elem,nm:=hx.nm,dt:=hx.dt,data:=hx.data,CL:=hx.CL,sp:=hx.sp,å:=hx.å,Cw:=hx.Cw,VC:=hx.VC,Qn:=hx.Qn,root:=hx.root,mn:=h1}
def ag{x:EW}(hx:qq x){p:Int}(h2:p≠0->x.kind≠1/\x.kind≠2):qq {x with FV:=p}:=
 {k:=hx.k,Bc:=hx.Bc,elem:=hx.elem,nm:=hx.nm,dt:=hx.dt,data:=hx.data,CL:=hx.CL,sp:=hx.sp,å:=hx.å,Cw:=hx.Cw,VC:=hx.VC,Qn:=hx.Qn,root:=h2,mn:=hx.mn}
def aDM(ok:A.i.length=A.n.length):(A.cut h).i.length=(A.cut h).n.length:=by rw[qB];unfold Ar.cut;simp only;split<;>exact ok
def aDN{p n b:Int}(ok:A.i.length=A.n.length):(A.Na p n b).i.length=(A.Na p n b).n.length:=by rw[qC];exact ok
def Ĩ(ok:EM A e)(a:A.has h)(hk:k∈(A.nd h).Bc):k≠h/\(A.nd k).FV=h/\A.has k:=by have:=ok.Nl h a k hk;refine⟨?_,this.2,this.1⟩;rintro rfl;have h0:=this.1.1;exact vN ok a (by rw[this.2];omega) this.2
def xk(ok:EM A e)(a:A.has h):(A.cut h).up k=if k=h then(A.nd h).Eo else A.up k:=by
 unfold Ar.up;rw[Sg ok a];by_cases e:k=h;.simp[e]
 .simp only[e,DF];split<;>rfl
def vO(ok:EM A e)(c:A.has h)(ZN:(A.nd h).kind≠2):EM (A.cut h) e:=by
 obtain⟨r,hr⟩:=ok.gD;have a:=λm=>Sg (k:=m) ok c;have kd:∀m,((A.cut h).nd m).kind=(A.nd m).kind:=λm=>by rw[a];grind
 have l:∀m,((A.cut h).nd m).CG=(A.nd m).CG:=λm=>by rw[a];grind
 have n:∀m,((A.cut h).nd m).cont=(A.nd m).cont:=λm=>by rw[a];grind
 have ho:∀m,((A.cut h).nd m).Eo=(A.nd m).Eo:=λm=>by rw[a];grind
 have d:(A.nd h).Eo=0:=by
  by_cases h0:(A.nd h).Eo=0;.exact h0
  .exact absurd ((ok.Tm h c).Qn h0) ZN
 refine⟨aDM ok.il,?_,?_,?_,?_,?_,?_,?_,?_,?_,r,?_⟩<;>intro m hm<;>rw[Ly] at hm<;>(try simp only[kd,l,n,ho,Ly,Ħ])
 .rw[a];split;.exact ag (ok.Tm h c) AH
  .split;.exact qD (ok.Tm m hm) ((ok.Tm m hm).mn.filter _) λh1=>(ok.Tm m hm).Bc (by intro h2;rw[h2] at h1;simp at h1)
   .exact ok.Tm m hm
 .exact ok.CG m hm
 .exact ok.gB m hm
 .intro h1;have b:m≠h:=by rintro rfl;rw[a] at h1;simp at h1
  have j:((A.cut h).nd m).FV=(A.nd m).FV:=by rw[a,Ad b];split<;>rfl
  rw[j] at h1⊢;have h2:=ok.FV m hm h1;refine⟨h2.1,?_⟩;rw[a];split;.rename_i i;rw[<-i];exact h2.2
  .split;.simp only[DL,CO];exact⟨h2.2,b⟩
   .exact h2.2
 .intro q hq;have h1:q∈(A.nd m).Bc/\(m=(A.nd h).FV->q≠h):=by
   rw[a] at hq;split at hq;.rename_i b;subst b;have:=Ĩ ok hm hq;exact⟨hq,λ_=>this.1⟩
   .split at hq;.simp only[DL,CO] at hq;exact⟨hq.1,λ_=>hq.2⟩
    .rename_i g;refine⟨hq,λf o=>g ⟨?_,f⟩⟩;rw[<-f];have:=hm.1;omega
  have h2:=ok.Nl m hm q h1.1;refine⟨h2.1,?_⟩;have b:q≠h:=by rintro rfl;exact h1.2 h2.2.symm rfl
  rw[a,Ad b,<-h2.2];split<;>rfl
 .intro h1 h2;refine ok.gC m hm h1 ?_;rw[a] at h2;unfold gA at h2⊢;grind
 .exact ok.cont m hm
 .exact ok.Eo m hm
 .exact ok.ine m hm
 .rw[xk ok c];split;.rw[d];simp
  .exact hr m hm
def xl{p n b:Int}(hp:A.has p)(hn:A.has n)(hne:n≠p):(A.Na p n b).nd k=if k=n then{A.nd n with FV:=p} else if k=p then{A.nd p with Bc:=Jm (A.nd p).Bc b n} else A.nd k:=by
 unfold Ar.Na;simp only[J2,ID,hp,hn,M3];by_cases e:k=n;.subst e;simp[hne]
 .simp[e]
def mo{p n b:Int}(hp:A.has p)(hn:A.has n)(hne:n≠p)(h0:(A.nd n).FV=0)(a:(A.nd n).Eo=0)(hr:¬Reach A n p):∀{m},¬Reach A n m->(A.Na p n b).up m=A.up m:=by
 intro m hm;have e:m≠n:=by rintro rfl;exact hm .refl
 unfold Ar.up;rw[xl hp hn hne,Ad e];split;.rename_i e;subst e;rfl
 .rfl
open Classical in
def aDO(ok:EM A e){p n b:Int}(hp:A.has p)(hn:A.has n)(kp:LO (A.nd p).kind)(kn:(A.nd n).kind≠1/\(A.nd n).kind≠2)(re:¬Reach A n p)(h0:(A.nd n).FV=0):EM (A.Na p n b) e:=by
 obtain⟨r,hr⟩:=ok.gD;have hne:n≠p:=by rintro rfl;exact re .refl
 have a:=λm=>xl (k:=m) (b:=b) hp hn hne;have kd:∀m,((A.Na p n b).nd m).kind=(A.nd m).kind:=λm=>by rw[a];grind
 have l:∀m,((A.Na p n b).nd m).CG=(A.nd m).CG:=λm=>by rw[a];grind
 have o:∀m,((A.Na p n b).nd m).cont=(A.nd m).cont:=λm=>by rw[a];grind
 have ho:∀m,((A.Na p n b).nd m).Eo=(A.nd m).Eo:=λm=>by rw[a];grind
 have i:(A.nd n).Eo=0:=by
  by_cases h0:(A.nd n).Eo=0;.exact h0
  .exact absurd ((ok.Tm n hn).Qn h0) kn.2
 have g:∀m,A.has m->n∉(A.nd m).Bc:=by intro m hm h1;have:=ok.Nl m hm n h1;rw[h0] at this;have:=hm.1;omega
 refine⟨aDN ok.il,?_,?_,?_,?_,?_,?_,?_,?_,?_,λm=>if Reach A n m then r m+r p+1 else r m,?_⟩<;>intro m hm<;>rw[af] at hm<;>(try simp only[kd,l,o,ho,af,ħ])
 .rw[a];split;.exact ag (ok.Tm n hn) λ_=>kn
  .split;.exact qD (ok.Tm p hp) (qA (ok.Tm p hp).mn (g p hp)) λ_=>kp
   .exact ok.Tm m hm
 .exact ok.CG m hm
 .exact ok.gB m hm
 .intro h1;by_cases c:m=n
  .subst c;rw[a,Af rfl];refine⟨hp,?_⟩;simp only
   rw[a,Ad (Dz hne),Af rfl];exact Ur.2 (.inl rfl)
  .have f:((A.Na p n b).nd m).FV=(A.nd m).FV:=by rw[a,Ad c];split;rename_i e;rw[e];rfl
   rw[f] at h1⊢;have h2:=ok.FV m hm h1;refine⟨h2.1,?_⟩;rw[a];split;.rename_i j;rw[<-j];exact h2.2
   .split;.rename_i j;rw[<-j];exact Ur.2 (.inr h2.2)
    .exact h2.2
 .intro q hq;by_cases c:q=n
  .subst c;refine⟨hn,?_⟩;rw[a,Af rfl];rw[a] at hq;split at hq;.exact absurd hq (g q hn)
   .split at hq;.rename_i e;exact e.symm
    .exact absurd hq (g m hm)
  .have h1:q∈(A.nd m).Bc:=by
    rw[a] at hq;split at hq;.rename_i e;rw[e];exact hq
    .split at hq;.rename_i e;rw[e];exact(Ur.1 hq).resolve_left c
     .exact hq
   have h2:=ok.Nl m hm q h1;refine⟨h2.1,?_⟩;rw[a,Ad c,<-h2.2];split;.rename_i e;rw[e]
   .rfl
 .intro h1 h2;refine ok.gC m hm h1 ?_;rw[a] at h2;unfold gA at h2⊢;grind
 .exact ok.cont m hm
 .exact ok.Eo m hm
 .exact ok.ine m hm
 .intro hu;by_cases hR:Reach A n m
  .by_cases c:m=n
   .subst c;have f:(A.Na p m b).up m=p:=by unfold Ar.up;rw[a,Af rfl];simp only;rw[Af];have:=hp.1;omega
    rw[f,Ad re,Af hR];omega
   .have f:(A.Na p n b).up m=A.up m:=by
     unfold Ar.up;rw[a,Ad c];split;.rename_i e;rw[e]
     .rfl
    rw[f] at hu⊢;have d:Reach A n (A.up m):=by
     cases hR with
     |refl=>exact absurd rfl c
     |step _ hx=>exact hx
    rw[Af d,Af hR];have:=hr m hm hu;omega
  .have f:=mo (b:=b) hp hn hne h0 i re hR;rw[f] at hu⊢;have d:¬Reach A n (A.up m):=λh=>hR (.step hu h);rw[Ad d,Ad hR];exact hr m hm hu
def mq(ok:EM A e)(b:A.has h){m:Int}(hr:¬Reach A h m):¬Reach (A.cut h) h m:=by
 intro Mh;have key:∀m,Reach (A.cut h) h m->Reach A h m:=by
  intro m hm;induction hm with
  |refl=>exact .refl
  |@step q h1 _ ih=>
   by_cases a:q=h;.rw[a];exact .refl
   .rw[xk ok b,Ad a] at h1 ih;exact .step h1 ih
 exact hr (key m Mh)
def QU(ok:EM A e){p n b:Int}:EM (A.F0 p n b) e:=by
 unfold Ar.F0;split
 .rename_i f;have a:=vO ok f.hn f.kn.2;have kd:∀m,((A.cut n).nd m).kind=(A.nd m).kind:=λm=>by rw[Sg ok f.hn];grind
  refine aDO a (Ly.2 f.hp) (Ly.2 f.hn) ?_ ?_ (mq ok f.hn f.re) ?_;.rw[kd];exact f.kp
  .rw[kd];exact f.kn
  .rw[Sg ok f.hn,Af rfl]
 .exact ok
def xm(ok:EM A e)(g:A.has h)(hx:qq x)(h1:x.kind=(A.nd h).kind)(h2:x.FV=(A.nd h).FV)(o:x.Bc=(A.nd h).Bc)(d:A.has x.CG/\(A.nd x.CG).kind=1/\(x.kind=1->x.CG=h))(n:x.cont=(A.nd h).cont)(l:x.Eo=(A.nd h).Eo)(i:gA x->gA (A.nd h)):EM (A.set h x) e:=by
 obtain⟨r,hr⟩:=ok.gD;have a:∀m,(A.set h x).nd m=if m=h then x else A.nd m:=λm=>by rw[J2];simp[g]
 have kd:∀m,((A.set h x).nd m).kind=(A.nd m).kind:=λm=>by rw[a];grind
 have f:∀m,((A.set h x).nd m).FV=(A.nd m).FV:=λm=>by rw[a];grind
 have ks:∀m,((A.set h x).nd m).Bc=(A.nd m).Bc:=λm=>by rw[a];grind
 have j:∀m,((A.set h x).nd m).cont=(A.nd m).cont:=λm=>by rw[a];grind
 have ho:∀m,((A.set h x).nd m).Eo=(A.nd m).Eo:=λm=>by rw[a];grind
 have u:∀m,(A.set h x).up m=A.up m:=λm=>by unfold Ar.up;rw[f,ho]
 refine⟨by rw[JE];exact ok.il,?_,?_,?_,?_,?_,?_,?_,?_,?_,r,?_⟩<;>intro m hm<;>rw[ID] at hm<;>(try simp only[kd,f,ks,j,ho,u,ID,Tj])
 .rw[a];split;.exact hx
  .exact ok.Tm m hm
 .rw[a];split;.exact⟨d.1,d.2.1⟩
  .exact ok.CG m hm
 .rw[a];split;.rename_i e;intro c;rw[e,d.2.2 (by rw[h1,<-e];exact c)]
  .exact ok.gB m hm
 .exact ok.FV m hm
 .exact ok.Nl m hm
 .intro c b;refine ok.gC m hm c ?_;rw[a] at b;split at b;.rename_i e;rw[e];exact i b
  .exact b
 .exact ok.cont m hm
 .exact ok.Eo m hm
 .exact ok.ine m hm
 .exact hr m hm
def Ar.Fz(A:Ar)(d:Int):Int:=if A.inr d≠0 then A.inr d else A.len+1
def Ar.Dn(A:Ar)(d:Int):Ar:=if A.inr d≠0 then A else((A.add {kind:=1,CG:=A.len+1}).Je d (A.len+1)).Je (A.len+1) (A.len+1)
def ĩ:qq {kind:=1,CG:=k}:=by constructor<;>simp[Cw,HG]
def ah(ok:EM A e)(hk:A.has k/\(A.nd k).kind=1):EM (A.Je h k) e:=by
 refine⟨?_,ok.Tm,ok.CG,ok.gB,ok.FV,ok.Nl,ok.gC,ok.cont,ok.Eo,?_,ok.gD⟩;.simp only[Ar.Je];split<;>simp[ok.il]
 .intro m hm h1;rw[Oj] at hm;rw[Qm ok.il] at h1⊢;split at h1;.rename_i h2;rw[Af h2];exact hk
  .rename_i h2;rw[Ad h2];exact ok.ine m hm h1
def xn(ok:EM A e)(b:A.has h)(he:e≠A.len+1):EM (A.Dn h) e/\(A.Dn h).has (A.Fz h)/\((A.Dn h).nd (A.Fz h)).kind=1:=by
 unfold Ar.Dn Ar.Fz;split;.rename_i h1;exact⟨ok,ok.ine h b h1⟩
 .have a:=YM ok (x:={kind:=1,CG:=A.len+1}) ĩ (.inl ⟨rfl,rfl⟩) rfl rfl rfl rfl (by simp[gA]);have h2:(A.add {kind:=1,CG:=A.len+1}).has (A.len+1)/\((A.add {kind:=1,CG:=A.len+1}).nd (A.len+1)).kind=1:=by rw[DP,IU,Af rfl];exact⟨.inr rfl,rfl⟩
  exact⟨ah (ah a h2) h2,h2⟩
def YN(hk:k≠A.len+1\/A.inr h≠0):(A.Dn h).nd k=A.nd k:=by
 unfold Ar.Dn;split;.rfl
 .rename_i h1;rw[Tl,Tl,IU,Ad (hk.resolve_right h1)]
def mr:(A.Dn h).len=if A.inr h≠0 then A.len else A.len+1:=by
 unfold Ar.Dn;split;.rfl
 .rw[Tk,Tk,O2]
def Ok:A.has k->(A.Dn h).has k:=by
 unfold Ar.Dn;split;.exact id
 .intro hk;rw[Oj,Oj,DP];exact .inl hk
def Ī{d:Int}(ok:EM A e)(he:A.has e)(n:gA (A.nd e))(hc:(A.nd e).cont=0)(hd:A.has d/\(A.nd d).kind=1):EM ((A.add {kind:=2,Eo:=e,CG:=d}).set e {A.nd e with cont:=A.len+1}) 0:=by
 have no:=Sf (A:=A);obtain⟨r,hr⟩:=ok.gD;have ne:∀{k},A.has k->k≠A.len+1:=λhk e=>no (e▸hk);have l0:A.len+1≠0:=by have:=he.1;have:=he.2;unfold Ar.len;omega
 have b:∀m,(((A.add {kind:=2,Eo:=e,CG:=d}).set e {A.nd e with cont:=A.len+1}).nd m)=if m=e then{A.nd e with cont:=A.len+1} else if m=A.len+1 then{kind:=2,Eo:=e,CG:=d} else A.nd m:=λm=>by rw[J2,IU];simp[he,DP]
 have hk:(A.nd e).kind=4:=n.1;have h0:(A.nd e).Eo=0:=by
  by_cases h0:(A.nd e).Eo=0;.exact h0
  .have:=(ok.Tm e he).Qn h0;omega
 have e0:e≠0:=by have:=he.1;omega
 have i:qq {kind:=2,Eo:=e,CG:=d}:=by constructor<;>simp[Cw,HG]
 have Tm:=ok.Tm;have c:=Tm e he;have hne:qq {A.nd e with cont:=A.len+1}:={k:=c.k,Bc:=c.Bc,elem:=c.elem,nm:=c.nm,dt:=c.dt,data:=c.data,CL:=c.CL,sp:=c.sp,å:=c.å,Cw:=c.Cw,VC:=λ_=>n,Qn:=c.Qn,root:=c.root,mn:=c.mn};have hs:∀m,((A.add {kind:=2,Eo:=e,CG:=d}).set e {A.nd e with cont:=A.len+1}).has m↔A.has m\/m=A.len+1:=λm=>by rw[ID,DP]
 have hi:∀m,((A.add {kind:=2,Eo:=e,CG:=d}).set e {A.nd e with cont:=A.len+1}).inr m=A.inr m:=λm=>by rw[Tj,WN ok.il]
 have g:e≠A.len+1:=ne he;refine⟨by rw[JE];simp[Ar.add,Ar.set,ok.il],?_,?_,?_,?_,?_,?_,?_,?_,?_,λm=>if m=A.len+1 then r e+1 else r m,?_⟩<;>intro m hm<;>rw[hs] at hm<;>(try simp only[hs,hi])
 .rw[b];split;.exact hne
  .split;.exact i
   .rename_i h1 h2;exact Tm m (hm.resolve_right h2)
 .have key:∀q,A.has q/\(A.nd q).kind=1->(A.has q\/q=A.len+1)/\(((A.add {kind:=2,Eo:=e,CG:=d}).set e {A.nd e with cont:=A.len+1}).nd q).kind=1:=by
   intro q hq;refine⟨.inl hq.1,?_⟩;rw[b,Ad (ne hq.1)];split;.rename_i a;rw[a] at hq;exact hq.2
   .exact hq.2
  rw[b m];split;.exact key _ (ok.CG e he)
  .split;.exact key _ hd
   .rename_i h1 h2;exact key _ (ok.CG m (hm.resolve_right h2))
 .rw[b m];split;.rename_i a;intro h1;rw[a];exact ok.gB e he h1
  .split;.intro h1;simp at h1
   .rename_i h1 h2;exact ok.gB m (hm.resolve_right h2)
 .have key:∀q,A.has q->(A.nd q).FV≠0->(A.has (A.nd q).FV\/(A.nd q).FV=A.len+1)/\q∈(((A.add {kind:=2,Eo:=e,CG:=d}).set e {A.nd e with cont:=A.len+1}).nd (A.nd q).FV).Bc:=by
   intro q hq hp;have h1:=ok.FV q hq hp;refine⟨.inl h1.1,?_⟩;rw[b,Ad (ne h1.1)];split;.rename_i a;rw[a] at h1;exact h1.2
   .exact h1.2
  rw[b m];split;.rename_i a;rw[a];exact key e he
  .split;.intro h1;simp at h1
   .rename_i h1 h2;exact key m (hm.resolve_right h2)
 .have key:∀q,A.has q->∀k∈(A.nd q).Bc,(A.has k\/k=A.len+1)/\(((A.add {kind:=2,Eo:=e,CG:=d}).set e {A.nd e with cont:=A.len+1}).nd k).FV=q:=by
   intro q hq k hk;have h1:=ok.Nl q hq k hk;refine⟨.inl h1.1,?_⟩;rw[b,Ad (ne h1.1)];split;.rename_i a;rw[a] at h1;exact h1.2
   .exact h1.2
  rw[b m];split;.rename_i a;rw[a];exact key e he
  .split;.intro k hk;simp at hk
   .rename_i h1 h2;exact key m (hm.resolve_right h2)
 .intro _;rw[b m];split;.intro _;exact l0
  .split;.intro h1;simp[gA] at h1
   .rename_i h1 h2;exact ok.gC m (hm.resolve_right h2) h1
 .rw[b m];split
  .rename_i a;intro _;simp only
   rw[b,Ad (Dz g),Af rfl,a];exact⟨.inr trivial,rfl,rfl⟩
  .split;.intro h1;simp at h1
   .rename_i h1 h2;intro j;have f:=ok.cont m (hm.resolve_right h2) j;refine⟨.inl f.1,?_⟩;rw[b,Ad (ne f.1)];split;.rename_i a;rw[a,hk] at f;exact absurd f.2.1 AP
    .exact f.2
 .rw[b m];split;.intro h1;exact absurd h0 h1
  .split;.rename_i a;intro _;simp only;refine⟨.inl he,?_⟩;rw[b,Af rfl,a]
   .rename_i h1 h2;intro j;have f:=ok.Eo m (hm.resolve_right h2) j;refine⟨.inl f.1,?_⟩;rw[b,Ad (ne f.1)];split;.rename_i a;rw[a,hc] at f;have:=(hm.resolve_right h2).1;omega
    .exact f.2
 .intro h1;rcases hm with hm|rfl
  .have h2:=ok.ine m hm h1;refine⟨.inl h2.1,?_⟩;rw[b,Ad (ne h2.1)];split;.rename_i a;rw[a] at h2;exact h2.2
   .exact h2.2
  .exfalso;apply h1;unfold Ar.inr;rw[Ad no]
 .by_cases a:m=A.len+1
  .have l:((A.add {kind:=2,Eo:=e,CG:=d}).set e {A.nd e with cont:=A.len+1}).up m=e:=by
    have o:m≠e:=by rw[a];exact Dz g
    unfold Ar.up;rw[b m];simp[a,Dz g]
   rw[l,Ad g,Af a];intro _;omega
  .have hm:=hm.resolve_right a;have l:((A.add {kind:=2,Eo:=e,CG:=d}).set e {A.nd e with cont:=A.len+1}).up m=A.up m:=by
    unfold Ar.up;rw[b];split;.rename_i o;rw[o]
    .rfl
   rw[l,Ad a];intro h1;rw[Ad (ne (vM ok hm h1))];exact hr m hm h1
def Ar.elem(A:Ar)(d sp:Int)(nm:Aj)(at_:List A5):Ar:=
 let x:EW:={kind:=4,CG:=d,Bb:=sp,name:=nm,Av:=Cw at_}
 if gA x then
  let b:=A.add x
  let a:=b.Dn d
  (a.add {kind:=2,Eo:=A.len+1,CG:=b.Fz d}).set (A.len+1) {x with cont:=a.len+1}
 else A.add x
def aj{d sp:Int}{nm:Aj}{l:List A5}(ok:EM A 0)(hd:A.has d/\(A.nd d).kind=1)(hs:0<=sp/\sp<=7)(hl:∀a∈l,0<=a.Bb/\a.Bb<=7):EM (A.elem d sp nm l) 0:=by
 have hx:qq {kind:=4,CG:=d,Bb:=sp,name:=nm,Av:=Cw l}:=by constructor<;>simp[cK,hs];exact λa ha=>hl a (p9 ha)
 unfold Ar.elem;simp only
 split
 .rename_i c;have b:EM A (A.len+1):={ok with gC:=λh g _=>ok.gC h g (by have:=g.1;omega)};have j:=YM b hx (.inr ⟨AH,hd⟩) rfl rfl rfl rfl λ_=>rfl;have gE:(A.add {kind:=4,CG:=d,Bb:=sp,name:=nm,Av:=Cw l}).has d:=DP.2 (.inl hd.1);obtain⟨i,h2,m⟩:=xn j gE (by rw[O2];omega);have f:((A.add {kind:=4,CG:=d,Bb:=sp,name:=nm,Av:=Cw l}).Dn d).nd (A.len+1)={kind:=4,CG:=d,Bb:=sp,name:=nm,Av:=Cw l}:=by rw[YN (.inl (by rw[O2];omega)),IU,Af rfl]
  have:=Ī i (Ok (DP.2 (.inr rfl))) (by rw[f];exact c) (by rw[f]) ⟨h2,m⟩;rw[f] at this;exact this
 .rename_i c;exact YM ok hx (.inr ⟨AH,hd⟩) rfl rfl rfl rfl λh=>absurd h c
end
def aMy(e:Cb):Bool:=decide (e.node=0)
def YO(n:Int)(e:Cb):Bool:=decide (e.node=n)
def vP(l:List Cb):Int:=AV aMy l+1
def Fk(n:Int)(l:List Cb):Int:=if n=0 then -1 else AV (YO n) l
def Qo(name:Aj):List Cb->Int
 |[]=> -1
 |x::t=>if x.node=0 then -1 else if x.name=name then(t.length:Int) else Qo name t
def GL(name:Aj)(l:List Cb):Int:=Qo name l.reverse
def ak(e:Cb):List Cb->Nat
 |[]=>0
 |x::t=>if x.node=0 then 0 else ak e t+(if GO x e=true then 1 else 0)
def qE(e:Cb):List Cb->Int
 |[]=> -1
 |x::t=>if x.node=0 then -1 else if 0<=qE e t then qE e t else if GO x e=true then(t.length:Int) else -1
def qF(e:Cb)(l:List Cb):List Cb:=(if e.node≠0/\3<=ak e l.reverse then Bg l (qE e l.reverse).toNat else l)++[e]
def Ge(l:List Cb):List Cb:=l.take (vP l-1).toNat
structure BS where
 a:Ar
 CG:Int
 AQ:List Item
 A6:List Cb
 mode:Int
 Si:Int
 tm:List Int
 head:Int
 NH:Int
 Mo:Bool
 ctx:Item
 fs:Bool
 EX:Bool
 qG:Aj
 skip:Bool
 sw:Int
 stop:Bool
def Tn(s:List Aj)(A:Ar)(h:Int):Prop:=(A.nd h).kind=4/\(A.nd h).Bb=1/\(A.nd h).name∈s
instance(s:List Aj)(A:Ar)(h:Int):Decidable (Tn s A h):=by unfold Tn;infer_instance
abbrev Fa:Aj:=aVB
abbrev Us:Aj:=aV1
abbrev Ut:Aj:=aVY
abbrev Uu:Aj:=aV2
abbrev wTr:Aj:=[116,114]
abbrev wP:Aj:=[112]
def HW:List Aj:=[Fa,Us,Ut,Uu,wTr]
namespace BS
def Ko(b:BS):Int×Int:=
 let d:=AV (Bw [AM]) b.AQ
 let c:=AV (Bw [Fa]) b.AQ
 if c<d then((EI b.AQ d).node,0) else if c<0 then((EI b.AQ 0).node,0) else
 let t:=(EI b.AQ c).node
 if(b.a.nd t).FV≠0 then((b.a.nd t).FV,t) else((EI b.AQ (max (c-1) 0)).node,0)
def place(b:BS)(t:Int):Int×Int:=
 if t=0/\b.AQ=[] then(b.CG,0) else
 let t':=if t=0 then(Fy b.AQ).node else t
 let pb:=if b.EX=true/\Tn HW b.a t' then b.Ko else(t',0)
 if(b.a.nd pb.1).cont≠0 then((b.a.nd pb.1).cont,0) else pb
end BS
open Classical in
def Ar.Es(A:Ar)(h p bf:Int):Ar:=if(A.nd p).kind=1/\(A.nd h).kind=4/\(∃k∈(A.nd p).Bc,(A.nd k).kind=4) then A else A.F0 p h bf
namespace BS
def IV(b:BS)(p:Int):Int:=if(b.a.nd p).cont≠0 then(if(b.a.nd (b.a.nd p).cont).CG≠0 then(b.a.nd (b.a.nd p).cont).CG else b.CG) else if(b.a.nd p).CG≠0 then(b.a.nd p).CG else b.CG
def Ig(sp:Int):Prop:=0<=sp/\sp<=7
instance(sp:Int):Decidable (Ig sp):=by unfold Ig;infer_instance
def IW(sp:Int)(nm:Aj):Aj:=if sp=2 then Cp nm Jb else nm
def GG(b:BS)(nm:Aj)(at_:List A5)(sp:Int):Item:=if Ig sp then⟨b.a.len+1,sp,IW sp nm,Fp sp (IW sp nm) (at_.map (C6 sp))⟩ else Item.zero
def El(b:BS)(nm:Aj)(at_:List A5)(sp p:Int):BS:=if Ig sp then{b with a:=b.a.elem (b.IV p) sp (IW sp nm) (at_.map (C6 sp))} else b
def LP(b:BS)(sp:Int):Int:=if Ig sp then b.a.len+1 else 0
def Ej(b:BS)(nm:Aj)(at_:List A5)(sp:Int):BS:=
 if Ig sp then
  let pb:=b.place 0
  let b1:=b.El nm at_ sp pb.1
  {b1 with a:=b1.a.Es (b.a.len+1) pb.1 pb.2,AQ:=b1.AQ++[b.GG nm at_ sp]}
 else b
def KA(b:BS)(nm:Aj)(at_:List A5):BS:=
 let b1:=b.Ej nm at_ 1
 {b1 with A6:=qF ⟨b.a.len+1,nm,at_⟩ b1.A6}
end BS
def HX(r:Int):Aj:=
 if 0<=r/\r<128 then[UInt8.ofNat r.toNat]
 else if 128<=r/\r<2048 then[UInt8.ofNat (192+r.toNat/64),UInt8.ofNat (128+r.toNat%64)]
 else if 2048<=r/\r<65536/\¬(55296<=r/\r<57344) then[UInt8.ofNat (224+r.toNat/4096),UInt8.ofNat (128+r.toNat/64%64),UInt8.ofNat (128+r.toNat%64)]
 else if 65536<=r/\r<=1114111 then[UInt8.ofNat (240+r.toNat/262144),UInt8.ofNat (128+r.toNat/4096%64),UInt8.ofNat (128+r.toNat/64%64),UInt8.ofNat (128+r.toNat%64)]
 else[239,191,189]
def Uv(l:List Int)(bf:Int):Option Int:=if bf=0 then l.getLast? else(l.takeWhile λk=>decide (k≠bf)).getLast?
def Ar.To(A:Ar)(h:Int)(s:Aj):Ar:=A.set h {A.nd h with data:=s}
def Ar.JF(A:Ar)(h:Int)(l:List A5):Ar:=A.set h {A.nd h with Av:=Cw l}
namespace BS
def L5(A:Ar)(s:Aj)(p bf:Int):Ar:=
 if(A.nd p).kind=4\/(A.nd p).kind=2 then
  match Uv (A.nd p).Bc bf with
  |some t=>if(A.nd t).kind=5 then A.To t ((A.nd t).data++s) else(A.add {kind:=5,CG:=(A.nd p).CG,data:=s}).Es (A.len+1) p bf
  |none=>(A.add {kind:=5,CG:=(A.nd p).CG,data:=s}).Es (A.len+1) p bf
 else A
def Q6(b:BS)(r:Int):BS:={b with a:=L5 b.a (HX r) (b.place 0).1 (b.place 0).2}
def E4(A:Ar)(s:Aj)(p bf:Int):Ar:=
 if LO (A.nd p).kind then(A.add {kind:=6,CG:=(A.nd p).CG,data:=s}).Es (A.len+1) p bf else A
def Fc(b:BS)(s:Aj)(p:Int):BS:={b with a:=if p=0 then E4 b.a s (b.place 0).1 (b.place 0).2 else E4 b.a s p 0}
def Fe(b:BS)(nm:Aj)(at_:List A5)(st:Int):BS:=let b1:=b.Ej nm at_ 1;{b1 with sw:=st,Si:=b1.mode,mode:=8}
def J3(b:BS):BS:=if Kn (Bw [wP]) (JZ 3) b.AQ.reverse then{b with AQ:=DN CY (Bw [wP]) (DN (EA wP) CY b.AQ)} else b
def settled(b:BS)(e:Cb):Bool:=decide (e.node=0\/0<=AV (Bz e.node) b.AQ)
def JG:List Cb->BS->List Cb×BS
 |[],b=>([],b)
 |e::l,b=>let r:=JG l (b.Ej e.name e.Av 1);({e with node:=b.a.len+1}::r.1,r.2)
def LQ(b:BS):Nat:=(AV b.settled b.A6+1).toNat
def DV(b:BS):BS:=let r:=JG (b.A6.drop b.LQ) b;{r.2 with A6:=b.A6.take b.LQ++r.1}
def Du(b:BS)(nm:Aj):BS:=match b.AQ.reverse.find? λi=>Bw [nm] i||Hc i with
 |some i=>if Bw [nm] i then{b with AQ:=Hd i.node (DN (EA nm) CY b.AQ)} else b
 |none=>b
def JO(l:List Item):Int:=match l.reverse.find? λi=>Bw [AM] i||Bw [Fa] i with
 |some i=>if Bw [AM] i then 16 else 17
 |none=>16
end BS
abbrev Tp:Aj:=aVH
abbrev QV:Aj:=aVU
abbrev ao:Aj:=aVn
abbrev QW:Aj:=aVr
abbrev LA:Aj:=aV0
abbrev xo:Aj:=[116,100]
abbrev xq:Aj:=[116,104]
abbrev Rw:Aj:=aVk
abbrev DI:Aj:=aVh
def JH:List (Aj×Int):=[(wTr,14),(Us,13),(Uu,13),(Ut,13),(Tp,11),(QV,12),(Fa,9),(ao,7),(QW,20)]
namespace BS
def Hp(b:BS)(x:Item)(k:Nat):Option Int:=
 if x.Bb=1 then
  match JH.find? λr=>decide (r.1=x.name) with
  |some r=>some r.2
  |none=>
   if x.name=LA then some (JO (b.AQ.take k))
   else if(x.name=xo\/x.name=xq)/\0<k then some 15
   else if x.name=AM then some (b.tm.getLast?.getD 7)
   else if x.name=Rw/\0<k then some 4
   else if x.name=DI then some (if b.head=0 then 3 else 6)
   else if k=0 then some 7 else none
 else if k=0 then some 7 else none
def EF(b:BS)(k:Nat):Item:=if k=0/\b.Mo=true then b.ctx else b.AQ.getD k Item.zero
def L6(b:BS):Nat->Int
 |0=>7
 |k+1=>match b.Hp (b.EF k) k with
  |some m=>m
  |none=>b.L6 k
def HS(b:BS):BS:={b with mode:=b.L6 b.AQ.length}
def plain(l:List A5):List A5:=l.map λa=>⟨0,a.name,a.value⟩
def EL(b:BS)(l:List A5)(h:Int):BS:=if(b.a.nd h).kind=4 then{b with a:=b.a.JF h ((b.a.nd h).Av++plain l)} else b
def Cy(b:BS):BS:=
 if AV (Bw [AM]) b.AQ<0 then b
 else HS {b with AQ:=DN CY (Bw [AM]) (DN CK CY b.AQ),A6:=Ge b.A6,tm:=b.tm.dropLast}
def Jt(b:BS):BS:=if b.AQ.length<2 then b else{b with AQ:=b.AQ.take (b.AQ.length-1)}
def gF(b:BS):Item:=if b.AQ.length<2 then Item.zero else Fy b.AQ
end BS
def Cb.zero:Cb:=⟨0,[],[]⟩
namespace BS
def Fs(blk anc:Int)(far i:Nat)(b:BS)(l:Int)(m:Nat):BS×Int×Nat:=
 let x:=b.AQ.getD i Item.zero
 let e:=Fk x.node b.A6
 if e<0 then({b with AQ:=Bg b.AQ i},l,m)
 else if i+3<far then({b with A6:=Bg b.A6 e.toNat,AQ:=Bg b.AQ i},l,if e.toNat<m then m-1 else m)
 else
  let en:=b.A6.getD e.toNat Cb.zero
  let n:=b.GG en.name en.Av 1
  let b1:=b.El en.name en.Av 1 anc
  ({b1 with a:=b1.a.F0 n.node l 0,AQ:=b1.AQ.set i n,A6:=b1.A6.set e.toNat {en with node:=n.node}},n.node,if l=blk then e.toNat+1 else m)
def KV(blk anc:Int)(far k:Nat):Nat->BS×Int×Nat->BS×Int×Nat
 |0,s=>s
 |c+1,s=>KV blk anc far k c (Fs blk anc far (k+(c+1)) s.1 s.2.1 s.2.2)
def CB(A:Ar)(n:Int)(l:List Int):Ar:=l.foldl (λA x=>A.F0 n x 0) A
def GP(fe:Cb)(blk anc:Int)(s:BS×Int×Nat):BS:=
 let b1:=s.1
 let pb:=b1.place anc
 let b2:={b1 with a:=b1.a.Es s.2.1 pb.1 pb.2}
 let n:=b2.GG fe.name fe.Av 1
 let b3:=b2.El fe.name fe.Av 1 blk
 let b:=Fk fe.node b3.A6
 let mk:=if b.toNat<s.2.2 then s.2.2 -1 else s.2.2
 let ac:=Bg b3.A6 b.toNat
 let op:=CX fe.node b3.AQ
 let ip:=E3 (AV (Bz blk) op+1) op.length
 {b3 with a:=(CB b3.a n.node (b3.a.nd blk).Bc).F0 blk n.node 0,A6:=ac.take (CJ mk ac.length)++{fe with node:=n.node}::ac.drop (CJ mk ac.length),AQ:=op.take ip++n::op.drop ip}
def round(b:BS)(nm:Aj):Bool×BS:=
 let f:=GL nm b.A6
 if f<0 then(false,b.Du nm) else
 let fe:=b.A6.getD f.toNat Cb.zero
 let k:=AV (Bz fe.node) b.AQ
 if k<0 then(false,{b with A6:=Bg b.A6 f.toNat}) else
 if k=0\/Kn (Bz fe.node) (JZ 1) b.AQ.reverse=false then(false,b) else
 let far:=D2 fe.node b.AQ
 if far<0 then(false,{b with AQ:=Hd fe.node b.AQ,A6:=Bg b.A6 f.toNat}) else
 let blk:=(b.AQ.getD far.toNat Item.zero).node
 let anc:=(b.AQ.getD (k.toNat-1) Item.zero).node
 (true,GP fe blk anc (KV blk anc far.toNat k.toNat (far.toNat-1 -k.toNat) (b,blk,f.toNat)))
def Eg:Nat->BS->Aj->BS
 |0,b,_=>b
 |n+1,b,nm=>let r:=b.round nm;if r.1 then Eg n r.2 nm else r.2
def Iy(b:BS)(nm:Aj):BS:=
 if Bw [nm] (Fy b.AQ)/\Fk (Fy b.AQ).node b.A6<0 then b.Jt else Eg 8 b nm
end BS
structure Le(A A':Ar):Prop where
 has:∀h,A.has h->A'.has h
 kind:∀h,A.has h->(A'.nd h).kind=(A.nd h).kind
 Bb:∀h,A.has h->(A'.nd h).Bb=(A.nd h).Bb
 name:∀h,A.has h->(A'.nd h).name=(A.nd h).name
section
variable{A A' A'':Ar}{h k e p n b:Int}{x:EW}
def Le.refl:Le A A:=⟨λ_ h=>h,λ_ _=>rfl,λ_ _=>rfl,λ_ _=>rfl⟩
def Le.trans(h1:Le A A')(h2:Le A' A''):Le A A'':=⟨λh a=>h2.has h (h1.has h a),λh a=>by rw[h2.kind h (h1.has h a),h1.kind h a],λh a=>by rw[h2.Bb h (h1.has h a),h1.Bb h a],λh a=>by rw[h2.name h (h1.has h a),h1.name h a]⟩
def Le.aBM(h1:∀h,A.has h->A'.has h)(h2:∀h,A.has h->A'.nd h=A.nd h):Le A A':=⟨h1,λh a=>by rw[h2 h a],λh a=>by rw[h2 h a],λh a=>by rw[h2 h a]⟩
def YP(a:A.has h):h≠A.len+1:=λe=>Sf (A:=A) (e▸a)
def MO(a:A.has h):(A.add x).nd h=A.nd h:=by rw[IU,Ad (YP a)]
def vQ:Le A (A.add x):= .aBM (λh a=>DP.2 (.inl a)) λh a=>MO a
def gG(h1:x.kind=(A.nd h).kind)(h2:x.Bb=(A.nd h).Bb)(a:x.name=(A.nd h).name):Le A (A.set h x):=by
 refine⟨λk hk=>ID.2 hk,?_,?_,?_⟩<;>intro k hk<;>rw[J2]<;>split;.rename_i e;rw[e.1,h1]
 .rfl
 .rename_i e;rw[e.1,h2]
 .rfl
 .rename_i e;rw[e.1,a]
 .rfl
def aq{l:List Int}:Le A (A.set h {A.nd h with Bc:=l}):=gG rfl rfl rfl
def au:Le A (A.set h {A.nd h with FV:=p}):=gG rfl rfl rfl
def aDP:Le A (A.cut n):=by
 unfold Ar.cut;simp only;split;.exact .refl
 .exact Le.trans aq au
def aDQ:Le A (A.Na p n b):=Le.trans aq au
def O3:Le A (A.F0 p n b):=by unfold Ar.F0;split;exact aDP.trans aDQ;exact .refl
def IE:Le A (A.Es n p b):=by unfold Ar.Es;split;exact .refl;exact O3
def Np(ok:EM A e):EM (A.Es n p b) e:=by unfold Ar.Es;split;exact ok;exact QU ok
def qH{d sp:Int}{nm:Aj}{l:List A5}(a:A.has h):(A.elem d sp nm l).has h/\(A.elem d sp nm l).nd h=A.nd h:=by
 have hne:=YP a;unfold Ar.elem;simp only
 split;.have h1:(A.add {kind:=4,CG:=d,Bb:=sp,name:=nm,Av:=Cw l}).has h:=DP.2 (.inl a);refine⟨ID.2 (DP.2 (.inl (Ok h1))),?_⟩;rw[J2,Ad (λe=>hne e.1),MO (Ok h1),YN (.inl (YP h1)),MO a]
 .exact⟨DP.2 (.inl a),MO a⟩
def qI{d sp:Int}{nm:Aj}{l:List A5}:(A.elem d sp nm l).has (A.len+1)/\((A.elem d sp nm l).nd (A.len+1)).kind=4/\((A.elem d sp nm l).nd (A.len+1)).Bb=sp/\((A.elem d sp nm l).nd (A.len+1)).name=nm/\((A.elem d sp nm l).nd (A.len+1)).Bc=[]/\((A.elem d sp nm l).nd (A.len+1)).FV=0/\((A.elem d sp nm l).nd (A.len+1)).CG=d/\((A.elem d sp nm l).nd (A.len+1)).Av=Cw l:=by
 unfold Ar.elem;simp only
 split;.have h1:(A.add {kind:=4,CG:=d,Bb:=sp,name:=nm,Av:=Cw l}).has (A.len+1):=DP.2 (.inr rfl);have h2:=DP (x:={kind:=2,Eo:=A.len+1,CG:=(A.add {kind:=4,CG:=d,Bb:=sp,name:=nm,Av:=Cw l}).Fz d}).2 (.inl (Ok (h:=d) h1));rw[ID,J2,Af ⟨rfl,h2⟩];exact⟨h2,rfl,rfl,rfl,rfl,rfl,rfl,rfl⟩
 .rw[IU,Af rfl];exact⟨DP.2 (.inr rfl),rfl,rfl,rfl,rfl,rfl,rfl,rfl⟩
def WO{d sp:Int}{nm:Aj}{l:List A5}:Le A (A.elem d sp nm l):= .aBM (λ_ h=>(qH h).1) λ_ h=>(qH h).2
def qJ{l:List A5}(ok:EM A e)(c:A.has h)(hk:(A.nd h).kind=4)(hl:∀a∈l,0<=a.Bb/\a.Bb<=7):EM (A.JF h l) e:=by have hx:=ok.Tm h c;refine xm ok c ⟨hx.k,hx.Bc,λh=>absurd hk h,hx.nm,hx.dt,hx.data,hx.CL,hx.sp,λa ha=>hl a (p9 ha),cK l,hx.VC,hx.Qn,hx.root,hx.mn⟩ rfl rfl rfl ⟨(ok.CG h c).1,(ok.CG h c).2,ok.gB h c⟩ rfl rfl λd=>d
def vR{s:Aj}(ok:EM A e)(a:A.has h)(hk:(A.nd h).kind=5\/(A.nd h).kind=6):EM (A.To h s) e:=by have hx:=ok.Tm h a;refine xm ok a ⟨hx.k,hx.Bc,hx.elem,hx.nm,hx.dt,λf d=>by have:(A.nd h).kind≠5:=f;have:(A.nd h).kind≠6:=d;omega,hx.CL,hx.sp,hx.å,hx.Cw,hx.VC,hx.Qn,hx.root,hx.mn⟩ rfl rfl rfl ⟨(ok.CG h a).1,(ok.CG h a).2,ok.gB h a⟩ rfl rfl λc=>c
def gH{kd d:Int}{s:Aj}(ok:EM A e)(he:e≠A.len+1)(hd:A.has d/\(A.nd d).kind=1)(hk:kd=5\/kd=6):EM (A.add {kind:=kd,CG:=d,data:=s}) e:=by
 refine YM ok ?_ (.inr ⟨Ei,hd⟩) rfl rfl rfl rfl (λh=>?_);.constructor<;>simp[Cw,HG]<;>omega
 .have:=h.1;simp at this;omega
def vS{s:Aj}:Le A (A.To h s):=gG rfl rfl rfl
def qK{l:List A5}:Le A (A.JF h l):=gG rfl rfl rfl
def gI{sp:Int}{a:A5}:0<=(C6 sp a).Bb/\(C6 sp a).Bb<=7:=by
 unfold C6;split
 .split
  .rename_i s m he;have:∀x∈fT,0<=x.2.1/\x.2.1<=7:=AP;unfold Eb at he;cases hf:fT.find? λx=>decide (Kz sp a.name=x.1) with
   |none=>rw[hf] at he;cases he
   |some y=>rw[hf] at he;have:=this y (Re hf);simp at he;rw[he] at this;exact this
  .exact⟨GI 0,AH⟩
 .exact⟨GI 0,AH⟩
end
structure EB(b:BS):Prop where
 ok:EM b.a 0
 CG:b.a.has b.CG/\(b.a.nd b.CG).kind=1
 op:∀i∈b.AQ,b.a.has i.node/\(b.a.nd i.node).kind=4/\(b.a.nd i.node).Bb=i.Bb/\(b.a.nd i.node).name=i.name
 æ:(b.AQ.map Item.node).Nodup
 ac:∀e∈b.A6,e.node=0\/(b.a.has e.node/\(b.a.nd e.node).kind=4)
 mv:((b.A6.map Cb.node).filter λn=>decide (n≠0)).Nodup
structure BA(b:BS):Prop where
 ok:EM b.a 0
 CG:b.a.has b.CG/\(b.a.nd b.CG).kind=1
def EB.ba{b:BS}(o:EB b):BA b:=⟨o.ok,o.CG⟩
instance{b:BS}:Coe (EB b) (BA b):=⟨EB.ba⟩
section
variable{b:BS}{t:Int}
def ī{A A':Ar}{l:List Item}(hl:Le A A')(h:∀i∈l,A.has i.node/\(A.nd i.node).kind=4/\(A.nd i.node).Bb=i.Bb/\(A.nd i.node).name=i.name):∀i∈l,A'.has i.node/\(A'.nd i.node).kind=4/\(A'.nd i.node).Bb=i.Bb/\(A'.nd i.node).name=i.name:=by intro i hi;have:=h i hi;rw[hl.kind _ this.1,hl.Bb _ this.1,hl.name _ this.1];exact⟨hl.has _ this.1,this.2⟩
def aw{A A':Ar}{l:List Cb}(hl:Le A A')(h:∀e∈l,e.node=0\/(A.has e.node/\(A.nd e.node).kind=4)):∀e∈l,e.node=0\/(A'.has e.node/\(A'.nd e.node).kind=4):=by
 intro e he;rcases h e he with h|h
 .exact .inl h
 .rw[hl.kind _ h.1];exact .inr ⟨hl.has _ h.1,h.2⟩
def EB.KW(o:EB b){A:Ar}(ok:EM A 0)(hl:Le b.a A):EB {b with a:=A}:=
 ⟨ok,by rw[hl.kind _ o.CG.1];exact⟨hl.has _ o.CG.1,o.CG.2⟩,ī hl o.op,o.æ,aw hl o.ac,o.mv⟩
def EB.aMz(o:EB b){l:List Item}(h1:∀i∈l,i∈b.AQ)(h2:(l.map Item.node).Nodup):EB {b with AQ:=l}:=
 ⟨o.ok,o.CG,λi hi=>o.op i (h1 i hi),h2,o.ac,o.mv⟩
def EB.Sj(o:EB b){l:List Item}(h1:List.Sublist l b.AQ):EB {b with AQ:=l}:=o.aMz (λ_ hi=>h1.subset hi) (o.æ.sublist (h1.map _))
def EB.qL(o:EB b){l:List Cb}(h1:List.Sublist l b.A6):EB {b with A6:=l}:=
 ⟨o.ok,o.CG,o.op,o.æ,λe he=>o.ac e (h1.subset he),o.mv.sublist ((h1.map _).filter _)⟩
def EC{p q:Item->Bool}{l:List Item}:List.Sublist (DN p q l) l:=by
 have key:∀r:List Item,List.Sublist (Qi p q r) r:=by
  intro r;induction r with
  |nil=>exact A4 _
  |cons x r ih=>
   cases r with
   |nil=>exact A4 _
   |cons y r=>
    rw[Qi];split;.exact A4 _
    .split;.exact UU _ _
     .exact ih.trans (UU _ _)
 have:=(key l.reverse).reverse;rwa [Fm] at this
def IY{n:Int}{l:List Item}:List.Sublist (Hd n l) l:=by unfold Hd;split;exact A4 _;exact EC
def Dp{U:Type}{l:List U}{k:Nat}:List.Sublist (Bg l k) l:=by
 unfold Bg;conv=>rhs;rw[<-CH k l]
 refine List.Sublist.append (A4 _) ?_;rw[<-Em];exact aQX _ _
def Kh{n:Int}{l:List Item}:List.Sublist (CX n l) l:=by unfold CX;split;exact A4 _;exact Dp
def MP{l:List Item}{i:Int}(h0:0<=i)(h1:i<l.length):EI l i∈l:=by unfold EI;rw[Af h0,AJ,Ap Ac];exact AN _
def Lh{U:Type}{q:U->Bool}{l:List U}:AV q l<l.length∧-1<=AV q l:=by rcases Dj (q:=q) (l:=l) with⟨h1,_⟩|⟨n,hn,h1,_⟩<;>rw[h1]<;>omega
def mw{l:List Item}(h:l≠[]):Fy l∈l:=by have:0<l.length:=D7.2 h;exact MP Ac Ac
def Ĭ(o:EB b)(hn:b.AQ≠[]):b.a.has b.Ko.1/\(b.Ko.2≠0->b.a.has b.Ko.2/\(b.a.nd b.Ko.2).FV=b.Ko.1):=by
 have hl:0<b.AQ.length:=D7.2 hn;have h1:=Lh (q:=Bw [AM]) (l:=b.AQ);have h2:=Lh (q:=Bw [Fa]) (l:=b.AQ);unfold BS.Ko;simp only
 split;.exact⟨(o.op _ (MP Ac Ac)).1,λh=>absurd rfl h⟩
 .split;.exact⟨(o.op _ (MP Ac Ac)).1,λh=>absurd rfl h⟩
  .have c:=o.op _ (MP (l:=b.AQ) (i:=AV (Bw [Fa]) b.AQ) Ac Ac);split;.rename_i hp;exact⟨(o.ok.FV _ c.1 hp).1,λ_=>⟨c.1,rfl⟩⟩
   .exact⟨(o.op _ (MP Ac Ac)).1,λh=>absurd rfl h⟩
def YQ(o:EB b)(ht:t=0\/(b.a.has t/\b.AQ≠[])):b.a.has (b.place t).1/\((b.place t).2≠0->b.a.has (b.place t).2/\(b.a.nd (b.place t).2).FV=(b.place t).1):=by
 unfold BS.place;simp only
 split;.exact⟨o.CG.1,λh=>absurd rfl h⟩
 .rename_i h0;have hn:b.AQ≠[]:=by
   rcases ht with h|h
   .intro h2;exact h0 ⟨h,h2⟩
   .exact h.2
  have h1:b.a.has (if t=0 then(Fy b.AQ).node else t):=by
   split;.exact(o.op _ (mw hn)).1
   .rename_i h2;exact(ht.resolve_left h2).1
  generalize(if t=0 then(Fy b.AQ).node else t)=t' at h1;have h2:b.a.has (if b.EX=true/\Tn HW b.a t' then b.Ko else(t',0)).1/\((if b.EX=true/\Tn HW b.a t' then b.Ko else(t',0)).2≠0->b.a.has (if b.EX=true/\Tn HW b.a t' then b.Ko else(t',0)).2/\(b.a.nd (if b.EX=true/\Tn HW b.a t' then b.Ko else(t',0)).2).FV=(if b.EX=true/\Tn HW b.a t' then b.Ko else(t',0)).1):=by
   split;.exact Ĭ o hn
   .exact⟨h1,λh=>absurd rfl h⟩
  generalize(if b.EX=true/\Tn HW b.a t' then b.Ko else(t',0))=pb at h2;split;.rename_i hc;exact⟨(o.ok.cont _ h2.1 hc).1,λh=>absurd rfl h⟩
  .exact h2
def QX(o:BA b){p:Int}:b.a.has (b.IV p)/\(b.a.nd (b.IV p)).kind=1:=by
 unfold BS.IV;by_cases hp:b.a.has p
 .have key:∀q,b.a.has q->b.a.has (if(b.a.nd q).CG≠0 then(b.a.nd q).CG else b.CG)/\(b.a.nd (if(b.a.nd q).CG≠0 then(b.a.nd q).CG else b.CG)).kind=1:=by
   intro q hq;split;.exact o.ok.CG q hq
   .exact o.CG
  split;.rename_i hc;exact key _ (o.ok.cont p hp hc).1
  .exact key p hp
 .rw[HR hp];exact o.CG
variable{nm:Aj}{at_:List A5}{sp p:Int}
structure xr(b b1:BS)(i:Item):Prop where
 has:b1.a.has i.node
 kind:(b1.a.nd i.node).kind=4
 Bb:(b1.a.nd i.node).Bb=i.Bb
 name:(b1.a.nd i.node).name=i.name
 new:¬b.a.has i.node
def Qp(o:EB b)(hs:BS.Ig sp):EB (b.El nm at_ sp p)/\xr b (b.El nm at_ sp p) (b.GG nm at_ sp)/\Le b.a (b.El nm at_ sp p).a:=by
 have hd:=QX o.ba (p:=p);unfold BS.El BS.GG;rw[Af hs,Af hs];have ok:=aj (sp:=sp) (nm:=BS.IW sp nm) (l:=at_.map (C6 sp)) o.ok hd hs (by intro a ha;obtain⟨c,_,rfl⟩:=Bn.1 ha;exact gI)
 have hn:=qI (A:=b.a) (d:=b.IV p) (sp:=sp) (nm:=BS.IW sp nm) (l:=at_.map (C6 sp));exact⟨o.KW ok WO,⟨hn.1,hn.2.1,hn.2.2.1,hn.2.2.2.1,Sf⟩,WO⟩
def vT(o:BA b)(hs:BS.Ig sp):BA (b.El nm at_ sp p):=by
 have hd:=QX o (p:=p);unfold BS.El;rw[Af hs];have ok:=aj (sp:=sp) (nm:=BS.IW sp nm) (l:=at_.map (C6 sp)) o.ok hd hs (by intro a ha;obtain⟨c,_,rfl⟩:=Bn.1 ha;exact gI)
 have l:Le b.a _:=WO (A:=b.a) (d:=b.IV p) (sp:=sp) (nm:=BS.IW sp nm) (l:=at_.map (C6 sp));exact⟨ok,by rw[l.kind _ o.CG.1];exact⟨l.has _ o.CG.1,o.CG.2⟩⟩
def ĭ(o:BA b):BA (b.Ej nm at_ sp):=by
 unfold BS.Ej;split
 .rename_i hs;have c:=vT (nm:=nm) (at_:=at_) (p:=(b.place 0).1) o hs;have f:Le (b.El nm at_ sp (b.place 0).1).a ((b.El nm at_ sp (b.place 0).1).a.Es (b.a.len+1) (b.place 0).1 (b.place 0).2):=IE;exact⟨Np (n:=b.a.len+1) (p:=(b.place 0).1) (b:=(b.place 0).2) c.ok,by
   have e:(b.El nm at_ sp (b.place 0).1).CG=b.CG:=by unfold BS.El;split<;>rfl
   have d:=c.CG;rw[e] at d;show _/\_;simp only[e];rw[f.kind _ d.1];exact⟨f.has _ d.1,d.2⟩⟩
 .exact o
def Ol(o:EB b){b1:BS}{i:Item}(f:xr b b1 i):i.node∉b.AQ.map Item.node:=by intro h;obtain⟨j,hj,e⟩:=Bn.1 h;exact f.new (e▸(o.op j hj).1)
def QY(o:EB b){b1:BS}{i:Item}(f:xr b b1 i):i.node∉b.A6.map Cb.node:=by
 intro h;obtain⟨j,hj,e⟩:=Bn.1 h;rcases o.ac j hj with h1|h1
 .have:=f.has.1;omega
 .exact f.new (e▸h1.1)
def my{U:Type}[DecidableEq U]{l:List U}{k:Nat}{x:U}(h:l.Nodup)(hx:x∉l):(l.take k++x::l.drop k).Nodup:=by
 have e:=CH k l;rw[B3];rw[<-e,B3] at h;refine⟨h.1,B5.2 ⟨λh1=>hx (BD h1),h.2.1⟩,?_⟩;rintro a ha c hc rfl;rcases AS.1 hc with rfl|hc
 .exact hx (Bp ha)
 .exact h.2.2 _ ha _ hc rfl
def vU{U:Type}[DecidableEq U]{l:List U}{k:Nat}{x:U}(h:l.Nodup)(hx:x∉l):(l.set k x).Nodup:=by
 rw[B0];split
 .have e:=CH k l;rw[B3];rw[<-e,B3] at h;have hd:List.Sublist (l.drop (k+1)) (l.drop k):=by rw[<-Em];exact aQX _ _
  refine⟨h.1,B5.2 ⟨λh1=>hx (BD h1),h.2.1.sublist hd⟩,?_⟩;rintro a ha c hc rfl;rcases AS.1 hc with rfl|hc
  .exact hx (Bp ha)
  .exact h.2.2 _ ha _ (hd.subset hc) rfl
 .exact h
def cL{U Z:Type}(f:U->Z)(l:List U)(k:Nat)(x:U):(l.take k++x::l.drop k).map f=(l.map f).take k++f x::(l.map f).drop k:=AH
def EB.aDR(o:EB b){i:Item}{k:Nat}(h1:b.a.has i.node/\(b.a.nd i.node).kind=4/\(b.a.nd i.node).Bb=i.Bb/\(b.a.nd i.node).name=i.name)(h2:i.node∉b.AQ.map Item.node):EB {b with AQ:=b.AQ.take k++i::b.AQ.drop k}:=by
 refine⟨o.ok,o.CG,?_,by show((b.AQ.take k++i::b.AQ.drop k).map Item.node).Nodup;rw[cL];exact my o.æ h2,o.ac,o.mv⟩;intro j hj;rcases Ay.1 hj with hj|hj
 .exact o.op j (Bp hj)
 .rcases AS.1 hj with rfl|hj
  .exact h1
  .exact o.op j (BD hj)
def EB.vV(o:EB b){i:Item}{k:Nat}(h1:b.a.has i.node/\(b.a.nd i.node).kind=4/\(b.a.nd i.node).Bb=i.Bb/\(b.a.nd i.node).name=i.name)(h2:i.node∉b.AQ.map Item.node):EB {b with AQ:=b.AQ.set k i}:=by
 refine⟨o.ok,o.CG,?_,by show((b.AQ.set k i).map Item.node).Nodup;rw[Et];exact vU o.æ h2,o.ac,o.mv⟩;intro j hj;rcases De hj with hj|rfl
 .exact o.op j hj
 .exact h1
def xt{l:List Int}{k:Nat}{x:Int}(h:(l.filter λn=>decide (n≠0)).Nodup)(hx:x∉l):((l.take k++x::l.drop k).filter λn=>decide (n≠0)).Nodup:=by
 have e:=CH k l;rw[<-e,DY,B3] at h;rw[DY,B3];by_cases h0:x=0;.subst h0;simpa using h
 .rw[aCy (by simpa using h0)];refine⟨h.1,B5.2 ⟨λh1=>hx (BD ((DL.1 h1).1)),h.2.1⟩,?_⟩;rintro a ha c hc rfl;rcases AS.1 hc with rfl|hc
  .exact hx (Bp (DL.1 ha).1)
  .exact h.2.2 _ ha _ hc rfl
def xu{l:List Int}{k:Nat}{x:Int}(h:(l.filter λn=>decide (n≠0)).Nodup)(hx:x∉l):((l.set k x).filter λn=>decide (n≠0)).Nodup:=by
 rw[B0];split
 .have h2:(((l.take k++l.drop (k+1))).filter λn=>decide (n≠0)).Nodup:=h.sublist ((show List.Sublist (Bg l k) l from Dp).filter _);rw[DY,B3] at h2⊢;by_cases h0:x=0;.subst h0;simpa using h2
  .rw[aCy (by simpa using h0)];refine⟨h2.1,B5.2 ⟨λh1=>hx (BD ((DL.1 h1).1)),h2.2.1⟩,?_⟩;rintro a ha c hc rfl;rcases AS.1 hc with rfl|hc
   .exact hx (Bp (DL.1 ha).1)
   .exact h2.2.2 _ ha _ hc rfl
 .exact h
def EB.aDS(o:EB b){e:Cb}{k:Nat}(h1:e.node=0\/(b.a.has e.node/\(b.a.nd e.node).kind=4))(h2:e.node=0\/e.node∉b.A6.map Cb.node):EB {b with A6:=b.A6.take k++e::b.A6.drop k}:=by
 refine⟨o.ok,o.CG,o.op,o.æ,?_,?_⟩
 .intro j hj;rcases Ay.1 hj with hj|hj
  .exact o.ac j (Bp hj)
  .rcases AS.1 hj with rfl|hj
   .exact h1
   .exact o.ac j (BD hj)
 .show(((b.A6.take k++e::b.A6.drop k).map Cb.node).filter _).Nodup;rw[cL];rcases h2 with h2|h2
  .have:=o.mv;conv at this=>rw[<-CH k (b.A6.map Cb.node),DY]
   rw[DY,List.filter_cons_of_neg (by simp[h2])];exact this
  .exact xt o.mv h2
def EB.vW(o:EB b){e:Cb}{k:Nat}(h1:b.a.has e.node/\(b.a.nd e.node).kind=4)(h2:e.node∉b.A6.map Cb.node):EB {b with A6:=b.A6.set k e}:=by
 refine⟨o.ok,o.CG,o.op,o.æ,?_,?_⟩
 .intro j hj;rcases De hj with hj|rfl
  .exact o.ac j hj
  .exact .inr h1
 .show(((b.A6.set k e).map Cb.node).filter _).Nodup;rw[Et];exact xu o.mv h2
def Qq(o:EB b):EB (b.Ej nm at_ sp):=by
 unfold BS.Ej;split
 .rename_i hs;obtain⟨d,f,hl⟩:=Qp (nm:=nm) (at_:=at_) (p:=(b.place 0).1) o hs;have g:=d.KW (Np (n:=b.a.len+1) (p:=(b.place 0).1) (b:=(b.place 0).2) d.ok) IE;have hn:(b.GG nm at_ sp).node=b.a.len+1:=by unfold BS.GG;rw[Af hs]
  have c:Le (b.El nm at_ sp (b.place 0).1).a ((b.El nm at_ sp (b.place 0).1).a.Es (b.a.len+1) (b.place 0).1 (b.place 0).2):=IE;have ho:(b.El nm at_ sp (b.place 0).1).AQ=b.AQ:=by unfold BS.El;rw[Af hs]
  have:=g.aDR (i:=b.GG nm at_ sp) (k:=b.AQ.length) ⟨c.has _ f.has,by rw[c.kind _ f.has];exact f.kind,by rw[c.Bb _ f.has];exact f.Bb,by rw[c.name _ f.has];exact f.name⟩ (by simp only[ho];exact Ol o f);simp only[ho,Bx,Eu] at this;simp only[ho];exact this
 .exact o
def YR{l:List Cb}{e:Cb}:∃l',List.Sublist l' l/\qF e l=l'++[e]:=by
 unfold qF;split;.exact⟨_,Dp,rfl⟩
 .exact⟨_,A4 _,rfl⟩
def Į:Le b.a (b.Ej nm at_ sp).a:=by
 unfold BS.Ej BS.El;split;.exact Le.trans WO IE
 .exact .refl
def qM(hs:BS.Ig sp):(b.Ej nm at_ sp).a.has (b.a.len+1)/\((b.Ej nm at_ sp).a.nd (b.a.len+1)).kind=4:=by
 unfold BS.Ej BS.El;rw[Af hs];simp only
 rw[Af hs];have hn:=qI (A:=b.a) (d:=b.IV (b.place 0).1) (sp:=sp) (nm:=BS.IW sp nm) (l:=at_.map (C6 sp));exact⟨IE.has _ hn.1,by rw[IE.kind _ hn.1];exact hn.2.1⟩
def D3:(b.Ej nm at_ sp).A6=b.A6:=by unfold BS.Ej BS.El;split<;>rfl
def J9:BS.Ig 1:=⟨AP,AP⟩
def į(o:EB b):b.a.len+1∉b.A6.map Cb.node:=by
 intro h;obtain⟨j,hj,e⟩:=Bn.1 h;rcases o.ac j hj with h1|h1
 .unfold Ar.len at e;omega
 .exact Sf (e▸h1.1)
def mz(o:EB b):EB (b.KA nm at_):=by
 have d:=Qq (nm:=nm) (at_:=at_) (sp:=1) o;unfold BS.KA;simp only
 obtain⟨l',h1,h2⟩:=YR (l:=(b.Ej nm at_ 1).A6) (e:=⟨b.a.len+1,nm,at_⟩);rw[h2];have c:=d.qL h1;have:=c.aDS (e:=⟨b.a.len+1,nm,at_⟩) (k:=l'.length) (.inr (qM J9)) (.inr (by intro h;rw[D3] at h1;exact į o ((h1.map Cb.node).subset h)))
 simpa using this
def EB.of_eq{c:BS}(o:EB b)(h1:c.a=b.a)(h2:c.CG=b.CG)(f:c.AQ=b.AQ)(d:c.A6=b.A6):EB c:=
 ⟨h1▸o.ok,by rw[h1,h2];exact o.CG,by rw[h1,f];exact o.op,by rw[f];exact o.æ,by rw[h1,d];exact o.ac,by rw[d];exact o.mv⟩
def vX{l:List Int}{bf t:Int}(h:Uv l bf=some t):t∈l:=by
 unfold Uv at h;split at h;.exact aKv h
 .exact(List.takeWhile_sublist _).subset (aKv h)
def m_{A:Ar}{s:Aj}{p bf:Int}(ok:EM A 0)(hp:A.has p):EM (BS.L5 A s p bf) 0/\Le A (BS.L5 A s p bf):=by
 have h0:(0:Int)≠A.len+1:=by unfold Ar.len;omega
 have ha:=Np (n:=A.len+1) (p:=p) (b:=bf) (gH (s:=s) (kd:=5) ok h0 (ok.CG p hp) (.inl rfl));have hl:Le A ((A.add {kind:=5,CG:=(A.nd p).CG,data:=s}).Es (A.len+1) p bf):=Le.trans vQ IE;unfold BS.L5;split
 .split
  .rename_i t ht;split;.rename_i hk;exact⟨vR ok (ok.Nl p hp _ (vX ht)).1 (.inl hk),vS⟩
   .exact⟨ha,hl⟩
  .exact⟨ha,hl⟩
 .exact⟨ok,.refl⟩
def ax(o:EB b){r:Int}:EB (b.Q6 r):=by have h:=m_ (s:=HX r) (bf:=(b.place 0).2) o.ok (YQ o (.inl rfl)).1;exact o.KW h.1 h.2
def Tq{A:Ar}{s:Aj}{p bf:Int}(ok:EM A 0):EM (BS.E4 A s p bf) 0/\Le A (BS.E4 A s p bf):=by
 unfold BS.E4;split
 .rename_i hk;have hp:A.has p:=by
   by_cases hp:A.has p;.exact hp
   .rw[HR hp] at hk;unfold LO at hk;simp at hk
  have h0:(0:Int)≠A.len+1:=by unfold Ar.len;omega
  exact⟨Np (gH (s:=s) (kd:=6) ok h0 (ok.CG p hp) (.inr rfl)),Le.trans vQ IE⟩
 .exact⟨ok,.refl⟩
def YS(o:EB b){s:Aj}{p:Int}:EB (b.Fc s p):=by
 unfold BS.Fc;split;.have h:=Tq (s:=s) (p:=(b.place 0).1) (bf:=(b.place 0).2) o.ok;exact o.KW h.1 h.2
 .have h:=Tq (s:=s) (p:=p) (bf:=0) o.ok;exact o.KW h.1 h.2
def vY(o:EB b){st:Int}:EB (b.Fe nm at_ st):=(Qq o).of_eq rfl rfl rfl rfl
def nc(o:EB b):EB b.J3:=by
 unfold BS.J3;split;.exact o.Sj (EC.trans EC)
 .exact o
def cM(o:EB b):EB (b.Du nm):=by
 unfold BS.Du;split
 .split;.exact o.Sj (IY.trans EC)
  .exact o
 .exact o
def Tr(o:EB b):EB b.HS:=o.of_eq rfl rfl rfl rfl
def qN(o:EB b){l:List A5}{h:Int}:EB (b.EL l h):=by
 unfold BS.EL;split
 .rename_i hk;have d:b.a.has h:=by
   by_cases hp:b.a.has h;.exact hp
   .rw[HR hp] at hk;simp at hk
  refine o.KW (qJ o.ok d hk ?_) qK;intro a ha;rcases Ay.1 ha with ha|ha
  .exact(o.ok.Tm h d).å a ha
  .obtain⟨c,_,rfl⟩:=Bn.1 ha;simp
 .exact o
def YT(o:EB b):EB b.Cy:=by
 unfold BS.Cy;split;.exact o
 .have a:=(o.Sj (EC (p:=CY) (q:=Bw [AM]) (l:=DN CK CY b.AQ) |>.trans EC)).qL (l:=Ge b.A6) (Dq _ _);exact(Tr (b:={b with AQ:=DN CY (Bw [AM]) (DN CK CY b.AQ),A6:=Ge b.A6,tm:=b.tm.dropLast}) (a.of_eq rfl rfl rfl rfl))
def xw(o:EB b):EB b.Jt:=by
 unfold BS.Jt;split;.exact o
 .exact o.Sj (Dq _ _)
structure aHh(b:BS)(l:List Cb)(r:List Cb×BS):Prop where
 ok:EB r.2
 le:Le b.a r.2.a
 A6:r.2.A6=b.A6
 len:r.1.length=l.length
 nodes:∀e∈r.1,r.2.a.has e.node/\(r.2.a.nd e.node).kind=4/\¬b.a.has e.node
 aBN:(r.1.map Cb.node).Nodup
 aHi:r.1.map Cb.name=l.map Cb.name
def ay:∀{l:List Cb} {b:BS},EB b->aHh b l (BS.JG l b)
 |[],b,o=>by
  refine⟨o,.refl,rfl,rfl,?_,?_,rfl⟩;.intro e he;cases he
  .exact M4
 |e::l,b,o=>by
  have d:=Qq (nm:=e.name) (at_:=e.Av) (sp:=1) o;have r:=ay (l:=l) d;have hl:Le b.a (b.Ej e.name e.Av 1).a:=Į;have hn:=qM (b:=b) (nm:=e.name) (at_:=e.Av) J9;refine⟨r.ok,hl.trans r.le,r.A6.trans D3,by simp[BS.JG,r.len],?_,?_,by simp[BS.JG,r.aHi]⟩
  .intro c hc;rcases AS.1 hc with rfl|hc
   .exact⟨r.le.has _ hn.1,(r.le.kind _ hn.1).trans hn.2,Sf⟩
   .have:=r.nodes c hc;exact⟨this.1,this.2.1,λh=>this.2.2 (hl.has _ h)⟩
  .simp only[BS.JG,Bj,B5];refine⟨λh=>?_,r.aBN⟩;obtain⟨c,hc,f⟩:=Bn.1 h;exact(r.nodes c hc).2.2 (f▸hn.1)
def vZ(o:EB b):EB b.DV:=by
 have r:=ay (l:=b.A6.drop b.LQ) o;unfold BS.DV;simp only
 have hc:=aw r.le o.ac;refine⟨r.ok.ok,r.ok.CG,r.ok.op,r.ok.æ,?_,?_⟩
 .intro e he;rcases Ay.1 he with he|he
  .exact hc e (Bp he)
  .exact .inr ⟨(r.nodes e he).1,(r.nodes e he).2.1⟩
 .show(((b.A6.take b.LQ++(BS.JG (b.A6.drop b.LQ) b).1).map Cb.node).filter _).Nodup;rw[Bu,DY,B3];refine⟨o.mv.sublist (((Dq _ _).map _).filter _),r.aBN.filter _,?_⟩;rintro a ha c I7 rfl;obtain⟨j,h1,rfl⟩:=Bn.1 (DL.1 ha).1;obtain⟨i,h2,g⟩:=Bn.1 (DL.1 I7).1;have d:=(r.nodes i h2);rw[g] at d;rcases o.ac j (Bp h1) with f|f
  .have:=d.1.1;omega
  .exact d.2.2 f.1
def YU(o:EB b){blk anc:Int}{far i:Nat}{l:Int}{m:Nat}(hl:b.a.has l):EB (BS.Fs blk anc far i b l m).1/\(BS.Fs blk anc far i b l m).1.a.has (BS.Fs blk anc far i b l m).2.1/\Le b.a (BS.Fs blk anc far i b l m).1.a:=by
 unfold BS.Fs;simp only
 split;.exact⟨o.Sj Dp,hl,.refl⟩
 .split;.exact⟨(o.qL Dp).Sj Dp,hl,.refl⟩
  .generalize KX:b.A6.getD (Fk (b.AQ.getD i Item.zero).node b.A6).toNat Cb.zero=en;obtain⟨d,f,Er⟩:=Qp (nm:=en.name) (at_:=en.Av) (p:=anc) o J9;have c:Le (b.El en.name en.Av 1 anc).a ((b.El en.name en.Av 1 anc).a.F0 (b.GG en.name en.Av 1).node l 0):=O3;have OB:(b.El en.name en.Av 1 anc).AQ=b.AQ:=by unfold BS.El;rw[Af J9]
   have Rx:(b.El en.name en.Av 1 anc).A6=b.A6:=by unfold BS.El;rw[Af J9]
   have q:=d.KW (QU (p:=(b.GG en.name en.Av 1).node) (n:=l) (b:=0) d.ok) c;have j:=q.vV (i:=b.GG en.name en.Av 1) (k:=i) ⟨c.has _ f.has,by rw[c.kind _ f.has];exact f.kind,by rw[c.Bb _ f.has];exact f.Bb,by rw[c.name _ f.has];exact f.name⟩ (by simp only[OB];exact Ol o f);have g:=j.vW (e:={en with node:=(b.GG en.name en.Av 1).node}) (k:=(Fk (b.AQ.getD i Item.zero).node b.A6).toNat) ⟨c.has _ f.has,by rw[c.kind _ f.has];exact f.kind⟩ (by simp only[Rx];exact QY o f);exact⟨g,c.has _ f.has,Er.trans c⟩
def WQ{blk anc:Int}{far k:Nat}:∀{c:Nat} {s:BS×Int×Nat},EB s.1->s.1.a.has s.2.1->EB (BS.KV blk anc far k c s).1/\(BS.KV blk anc far k c s).1.a.has (BS.KV blk anc far k c s).2.1/\Le s.1.a (BS.KV blk anc far k c s).1.a
 |0,s,o,h=>⟨o,h,.refl⟩
 |c+1,s,o,h=>by obtain⟨f,h1,l1⟩:=YU (blk:=blk) (anc:=anc) (far:=far) (i:=k+(c+1)) (m:=s.2.2) o h;obtain⟨d,h2,g⟩:=WQ (blk:=blk) (anc:=anc) (far:=far) (k:=k) (c:=c) f h1;exact⟨d,h2,l1.trans g⟩
def Nq{n:Int}:∀{l:List Int} {A:Ar},EM A 0->EM (BS.CB A n l) 0/\Le A (BS.CB A n l)
 |[],A,ok=>⟨ok,.refl⟩
 |x::l,A,ok=>by have h:=Nq (n:=n) (l:=l) (QU (p:=n) (n:=x) (b:=0) ok);exact⟨h.1,Le.trans O3 h.2⟩
def ng{fe:Cb}{blk anc:Int}{s:BS×Int×Nat}(o:EB s.1):EB (BS.GP fe blk anc s)/\Le s.1.a (BS.GP fe blk anc s).a:=by
 unfold BS.GP;simp only
 generalize cN:s.1.place anc=pb;have l1:Le s.1.a (s.1.a.Es s.2.1 pb.1 pb.2):=IE;have d:=o.KW (Np (n:=s.2.1) (p:=pb.1) (b:=pb.2) o.ok) l1;generalize OC:({s.1 with a:=s.1.a.Es s.2.1 pb.1 pb.2}:BS)=b2 at d;have Pz:b2.a=s.1.a.Es s.2.1 pb.1 pb.2:=by rw[<-OC]
 have ZK:b2.AQ=s.1.AQ:=by rw[<-OC]
 have I7:b2.A6=s.1.A6:=by rw[<-OC]
 obtain⟨j,f,l3⟩:=Qp (nm:=fe.name) (at_:=fe.Av) (p:=blk) d J9;have OB:(b2.El fe.name fe.Av 1 blk).AQ=b2.AQ:=by unfold BS.El;rw[Af J9]
 have Rx:(b2.El fe.name fe.Av 1 blk).A6=b2.A6:=by unfold BS.El;rw[Af J9]
 generalize qo:b2.El fe.name fe.Av 1 blk=b3 at*;generalize hn:b2.GG fe.name fe.Av 1=n at*;obtain⟨qt,l4⟩:=Nq (n:=n.node) (l:=(b3.a.nd blk).Bc) j.ok;have g:=QU (p:=blk) (n:=n.node) (b:=0) qt;have c:Le b3.a ((BS.CB b3.a n.node (b3.a.nd blk).Bc).F0 blk n.node 0):=l4.trans O3;have q:=j.KW g c;have fr:((BS.CB b3.a n.node (b3.a.nd blk).Bc).F0 blk n.node 0).has n.node/\(((BS.CB b3.a n.node (b3.a.nd blk).Bc).F0 blk n.node 0).nd n.node).kind=4/\(((BS.CB b3.a n.node (b3.a.nd blk).Bc).F0 blk n.node 0).nd n.node).Bb=n.Bb/\(((BS.CB b3.a n.node (b3.a.nd blk).Bc).F0 blk n.node 0).nd n.node).name=n.name:=
  ⟨c.has _ f.has,by rw[c.kind _ f.has];exact f.kind,by rw[c.Bb _ f.has];exact f.Bb,by rw[c.name _ f.has];exact f.name⟩
 have m:=(q.qL (l:=Bg b3.A6 (Fk fe.node b3.A6).toNat) Dp).Sj (l:=CX fe.node b3.AQ) Kh;have u:n.node∉(CX fe.node b3.AQ).map Item.node:=λh=>Ol d f ((Kh.map Item.node).subset (by rw[OB] at h;exact h));have r:n.node∉(Bg b3.A6 (Fk fe.node b3.A6).toNat).map Cb.node:=λh=>QY d f ((Dp.map Cb.node).subset (by rw[Rx] at h;exact h));refine⟨(m.aDR (i:=n) fr u).aDS (e:={fe with node:=n.node}) (.inr ⟨fr.1,fr.2.1⟩) (.inr r),?_⟩;rw[Pz] at l3;exact l1.trans (l3.trans c)
def YV(o:EB b):EB (b.round nm).2/\Le b.a (b.round nm).2.a:=by
 have d:Le b.a (b.Du nm).a:=by
  unfold BS.Du;split;.split<;>exact .refl
  .exact .refl
 unfold BS.round;simp only
 split;.exact⟨cM o,d⟩
 .split;.exact⟨o.qL Dp,.refl⟩
  .split;.exact⟨o,.refl⟩
   .split;.exact⟨(o.Sj IY).qL Dp,.refl⟩
    .rename_i hf;have aSL:D2 (b.A6.getD (GL nm b.A6).toNat Cb.zero).node b.AQ<b.AQ.length:=by
      rw[IS];split;.omega
      .unfold E2;split;.rename_i k hk;have:=(EK.1 hk).1;rw[Be] at this;omega
       .omega
     have hb:b.a.has (b.AQ.getD (D2 (b.A6.getD (GL nm b.A6).toNat Cb.zero).node b.AQ).toNat Item.zero).node:=by rw[AJ,Ap Ac];exact(o.op _ (AN _)).1
     obtain⟨f,h1,l1⟩:=WQ (blk:=(b.AQ.getD (D2 (b.A6.getD (GL nm b.A6).toNat Cb.zero).node b.AQ).toNat Item.zero).node) (anc:=(b.AQ.getD ((AV (Bz (b.A6.getD (GL nm b.A6).toNat Cb.zero).node) b.AQ).toNat-1) Item.zero).node) (far:=(D2 (b.A6.getD (GL nm b.A6).toNat Cb.zero).node b.AQ).toNat) (k:=(AV (Bz (b.A6.getD (GL nm b.A6).toNat Cb.zero).node) b.AQ).toNat) (c:=(D2 (b.A6.getD (GL nm b.A6).toNat Cb.zero).node b.AQ).toNat-1 -(AV (Bz (b.A6.getD (GL nm b.A6).toNat Cb.zero).node) b.AQ).toNat) (s:=(b,(b.AQ.getD (D2 (b.A6.getD (GL nm b.A6).toNat Cb.zero).node b.AQ).toNat Item.zero).node,(GL nm b.A6).toNat)) o hb;have r:=ng (fe:=b.A6.getD (GL nm b.A6).toNat Cb.zero) (blk:=(b.AQ.getD (D2 (b.A6.getD (GL nm b.A6).toNat Cb.zero).node b.AQ).toNat Item.zero).node) (anc:=(b.AQ.getD ((AV (Bz (b.A6.getD (GL nm b.A6).toNat Cb.zero).node) b.AQ).toNat-1) Item.zero).node) f;exact⟨r.1,l1.trans r.2⟩
def cO:∀{n:Nat} {b:BS},EB b->EB (BS.Eg n b nm)/\Le b.a (BS.Eg n b nm).a
 |0,b,o=>⟨o,.refl⟩
 |n+1,b,o=>by
  obtain⟨c,l1⟩:=YV (nm:=nm) o;unfold BS.Eg;simp only
  split;.have r:=cO (n:=n) c;exact⟨r.1,l1.trans r.2⟩
  .exact⟨c,l1⟩
def nh(o:EB b):EB (b.Iy nm):=by
 unfold BS.Iy;split;.exact xw o
 .exact(cO o).1
end
structure NS(A:Ar):Prop where
 n:A.n.length<=1000000000
 at_:∀x,(A.nd x).Av.length<=1000000000
 data:∀x,(A.nd x).data.length<=1000000000
def DO(l:List A5):Prop:=l.length<=1000/\∀a∈l,a.name.length<=1000/\a.value.length<=1000
structure BM(b:BS)(m:Nat):Prop where
 n:b.a.n.length+m<=900000000
 at_:∀x,(b.a.nd x).Av.length+m<=1000000000
 data:∀x,(b.a.nd x).data.length+m<=1000000000
 AQ:b.AQ.length+m<=900000000
 A6:b.A6.length+m<=900000000
 tm:b.tm.length+m<=900000000
 DB:∀e∈b.A6,e.name.length<=1000/\DO e.Av
 Wg:∀i∈b.AQ,i.name.length<=1000
def BM.ZR{b:BS}{m:Nat}(r:BM b m):NS b.a:=⟨by have:=r.n;omega,λx=>by have:=r.at_ x;omega,λx=>by have:=r.data x;omega⟩
def BM.le{b:BS}{m m':Nat}(r:BM b m)(hm:m'<=m):BM b m':=⟨by have:=r.n;omega,λx=>by have:=r.at_ x;omega,λx=>by have:=r.data x;omega,by have:=r.AQ;omega,by have:=r.A6;omega,by have:=r.tm;omega,r.DB,r.Wg⟩
def cP{sp:Int}{y:A5}:(C6 sp y).value=y.value:=by
 unfold C6;split;.split<;>rfl
 .rfl
structure O4(A A':Ar):Prop where
 n:A'.n.length=A.n.length
 at_:∀x,(A'.nd x).Av=(A.nd x).Av
 data:∀x,(A'.nd x).data=(A.nd x).data
section
variable{A A' A'':Ar}{x p bf:Int}{b:BS}{m:Nat}
def O4.refl:O4 A A:=⟨rfl,λ_=>rfl,λ_=>rfl⟩
def O4.trans(h:O4 A A')(k:O4 A' A''):O4 A A'':=⟨k.n.trans h.n,λx=>(k.at_ x).trans (h.at_ x),λx=>(k.data x).trans (h.data x)⟩
def qO{y:EW}(h1:y.Av=(A.nd x).Av)(h2:y.data=(A.nd x).data):O4 A (A.set x y):=by
 refine⟨JE,λk=>?_,λk=>?_⟩<;>rw[J2]<;>split;.rename_i e;rw[h1,e.1]
 .rfl
 .rename_i e;rw[h2,e.1]
 .rfl
def cQ{l:List Int}:O4 A (A.set x {A.nd x with Bc:=l}):=qO rfl rfl
def cR:O4 A (A.set x {A.nd x with FV:=p}):=qO rfl rfl
def Ki:O4 A (A.F0 p x bf):=by
 unfold Ar.F0;split
 .refine O4.trans ?_ (O4.trans cQ cR);unfold Ar.cut;simp only;split;.exact .refl
  .exact O4.trans cQ cR
 .exact .refl
def Kj:O4 A (A.Es x p bf):=by unfold Ar.Es;split;exact .refl;exact Ki
def Ry{n:Int}:∀{l:List Int} {A:Ar},O4 A (BS.CB A n l)
 |[],A=> .refl
 |y::l,A=>O4.trans Ki (Ry (l:=l))
def BM.same{c:BS}(r:BM b m)(h:O4 b.a c.a)(h1:c.AQ.length<=b.AQ.length)(h2:c.A6.length<=b.A6.length)(g:c.tm.length<=b.tm.length)(f:∀e∈c.A6,e.name.length<=1000/\DO e.Av)(d:∀i∈c.AQ,i.name.length<=1000):BM c m:=
 ⟨by rw[h.n];exact r.n,λx=>by rw[h.at_];exact r.at_ x,λx=>by rw[h.data];exact r.data x,by have:=r.AQ;omega,by have:=r.A6;omega,by have:=r.tm;omega,f,d⟩
def BM.KW{A':Ar}(r:BM b m)(h:O4 b.a A'):BM {b with a:=A'} m:=r.same h (Ag _) (Ag _) (Ag _) r.DB r.Wg
def BM.Sj{l:List Item}(r:BM b m)(h:List.Sublist l b.AQ):BM {b with AQ:=l} m:=r.same .refl h.length_le (Ag _) (Ag _) r.DB λi hi=>r.Wg i (h.subset hi)
def BM.eq{c:BS}(r:BM b m)(h1:c.a=b.a)(h2:c.AQ=b.AQ)(d:c.A6=b.A6)(e:c.tm=b.tm):BM c m:=⟨by rw[h1];exact r.n,by rw[h1];exact r.at_,by rw[h1];exact r.data,by rw[h2];exact r.AQ,by rw[d];exact r.A6,by rw[e];exact r.tm,by rw[d];exact r.DB,by rw[h2];exact r.Wg⟩
structure Uw(A A':Ar)(k:Nat):Prop where
 n:A'.n.length<=A.n.length+k
 at_:∀x,(A'.nd x).Av.length<=max (A.nd x).Av.length 1000
 data:∀x,(A'.nd x).data.length<=max (A.nd x).data.length 100000
def Om{y:EW}(h1:y.Av.length<=1000)(h2:y.data.length<=100000):Uw A (A.add y) 1:=by refine⟨by simp[Ar.add],λx=>?_,λx=>?_⟩<;>rw[IU]<;>split<;>omega
def Uw.trans{k k':Nat}(h:Uw A A' k)(g:Uw A' A'' k'):Uw A A'' (k+k'):=
 ⟨by have:=h.n;have:=g.n;omega,λx=>by have:=h.at_ x;have:=g.at_ x;omega,λx=>by have:=h.data x;have:=g.data x;omega⟩
def Uw.le{k k':Nat}(h:Uw A A' k)(hk:k<=k'):Uw A A' k':=⟨by have:=h.n;omega,h.at_,h.data⟩
def ni(h:O4 A A'):Uw A A' 0:=⟨by rw[h.n];exact Ag _,λx=>by rw[h.at_];omega,λx=>by rw[h.data];omega⟩
def v8:Uw A (A.Dn x) 1:=by
 unfold Ar.Dn;split;.exact(ni .refl).le Ac
 .have:=Om (A:=A) (y:={kind:=1,CG:=A.len+1}) (AY _) (AY _);exact⟨this.n,this.at_,this.data⟩
def xy{y:EW}(h1:y.Av.length<=1000)(h2:y.data.length<=100000):Uw A (A.set x y) 0:=by refine⟨by rw[JE];exact Ag _,λx=>?_,λx=>?_⟩<;>rw[J2]<;>split<;>omega
def nj{d sp:Int}{nm:Aj}{l:List A5}(hl:l.length<=1000):Uw A (A.elem d sp nm l) 3:=by
 have ho:=Br (QT (l:=l)) hl;have g1:=Om (A:=A) (y:={kind:=4,CG:=d,Bb:=sp,name:=nm,Av:=Cw l}) ho (AY _);unfold Ar.elem;simp only
 split;.have g2:=v8 (A:=A.add {kind:=4,CG:=d,Bb:=sp,name:=nm,Av:=Cw l}) (x:=d);have g3:=Om (A:=(A.add {kind:=4,CG:=d,Bb:=sp,name:=nm,Av:=Cw l}).Dn d) (y:={kind:=2,Eo:=A.len+1,CG:=(A.add {kind:=4,CG:=d,Bb:=sp,name:=nm,Av:=Cw l}).Fz d}) (AY _) (AY _);exact g1.trans (k':=2) (g2.trans (k':=1) (g3.trans (k':=0) (xy ho (AY _))))
 .exact g1.le Ac
def BM.JT{A':Ar}{k:Nat}(r:BM b (m+k))(h:Uw b.a A' k):BM {b with a:=A'} m:=
 ⟨by have:=r.n;have:=h.n;simp only;omega,λx=>by have:=r.at_ x;have:=h.at_ x;have:=r.n;simp only;omega,λx=>by have:=r.data x;have:=h.data x;have:=r.n;simp only;omega,by have:=r.AQ;simp only;omega,by have:=r.A6;simp only;omega,by have:=r.tm;simp only;omega,r.DB,r.Wg⟩
def YW{sp:Int}{nm:Aj}:(BS.IW sp nm).length=nm.length:=by
 unfold BS.IW;split
 .rcases L4 nm Jb with h|h
  .rw[h]
  .conv=>rhs;rw[<-h.2,Tf]
 .rfl
variable{nm:Aj}{l:List A5}{sp:Int}
def Jf(r:BM b (m+3))(hl:DO l):BM (b.El nm l sp p) m:=by
 unfold BS.El;split;.exact r.JT (nj (by rw[Ao];exact hl.1))
 .exact r.le Ac
def On(hn:nm.length<=1000):(b.GG nm l sp).name.length<=1000:=by
 unfold BS.GG;split;.show(BS.IW sp nm).length<=1000;rw[YW];exact hn
 .exact AY _
def BM.xz{i:Item}{l':List Item}(r:BM b (m+1))(h1:l'.length<=b.AQ.length+1)(h2:∀j∈l',j∈b.AQ\/j=i)(hi:i.name.length<=1000):BM {b with AQ:=l'} m:=
 ⟨by have:=r.n;simp only;omega,λx=>by have:=r.at_ x;simp only;omega,λx=>by have:=r.data x;simp only;omega,by have:=r.AQ;simp only;omega,by have:=r.A6;simp only;omega,by have:=r.tm;simp only;omega,r.DB,λj hj=>by
  rcases h2 j hj with h|rfl
  .exact r.Wg j h
  .exact hi⟩
def BM.qP{e:Cb}{l':List Cb}(r:BM b (m+1))(h1:l'.length<=b.A6.length+1)(h2:∀j∈l',j∈b.A6\/j=e)(hi:e.name.length<=1000/\DO e.Av):BM {b with A6:=l'} m:=
 ⟨by have:=r.n;simp only;omega,λx=>by have:=r.at_ x;simp only;omega,λx=>by have:=r.data x;simp only;omega,by have:=r.AQ;simp only;omega,by have:=r.A6;simp only;omega,by have:=r.tm;simp only;omega,λj hj=>by
  rcases h2 j hj with h|rfl
  .exact r.DB j h
  .exact hi,r.Wg⟩
def Ih(r:BM b (m+4))(hl:DO l)(hn:nm.length<=1000):BM (b.Ej nm l sp) m:=by
 unfold BS.Ej;split
 .rename_i hs;have c:=Jf (m:=m+1) (nm:=nm) (sp:=sp) (p:=(b.place 0).1) (r.le Ac) hl;have r2:=c.KW (Kj (x:=b.a.len+1) (p:=(b.place 0).1) (bf:=(b.place 0).2));have ho:(b.El nm l sp (b.place 0).1).AQ=b.AQ:=by unfold BS.El;rw[Af hs]
  refine r2.xz (i:=b.GG nm l sp) (by simp only[Au,A9];exact Ag _) (λj hj=>?_) (On hn);rcases Ay.1 hj with h|h
  .exact .inl h
  .exact .inr (by simpa using h)
 .exact r.le Ac
def qQ(r:BM b (m+5))(hl:DO l)(hn:nm.length<=1000):BM (b.KA nm l) m:=by
 have c:=Ih (m:=m+1) (sp:=1) (nm:=nm) (r.le Ac) hl hn;unfold BS.KA;simp only
 obtain⟨l',h1,h2⟩:=YR (l:=(b.Ej nm l 1).A6) (e:=⟨b.a.len+1,nm,l⟩);rw[h2];refine c.qP (e:=⟨b.a.len+1,nm,l⟩) (by have:=h1.length_le;simp;omega) (λj hj=>?_) ⟨hn,hl⟩;rcases Ay.1 hj with h|h
 .exact .inl (h1.subset h)
 .exact .inr (by simpa using h)
end
end Go.Am
end
