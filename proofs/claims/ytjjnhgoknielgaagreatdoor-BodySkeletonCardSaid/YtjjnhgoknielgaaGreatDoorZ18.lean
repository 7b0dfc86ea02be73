/- Lemmas -/
import Derived.Test.YtjjnhgoknielgaaGreatDoorZ17
set_option linter.all false
noncomputable section
set_option maxRecDepth 100000
section
namespace Go.Am
open Go
section
section
variable{U:Type}{z:Nat}
def Ik{Ax:List (List U)}(h:∀r∈Ax,r.length=z):Ax.flatten.length=Ax.length*z:=by
 induction Ax with
 |nil=>simp
 |cons q Ax ih=>rw[CO,Ao,h q AB,ih λr hr=>h r (by simp[hr]),AK,BJ];omega
def cK{Ax:List (List U)}(h:∀r∈Ax,r.length=z):∀{k:Nat},Ax.flatten.take (k*z)=(Ax.take k).flatten:=by
 induction Ax with
 |nil=>intro k;simp
 |cons q Ax ih=>
  intro k;have hq:=h q AB;cases k with
  |zero=>simp
  |succ k=>rw[CO,BJ,ER,Qd,wC,Bf Ab,hq,Uh,ih λr hr=>h r (by simp[hr])];simp
def Jp{Ax:List (List U)}(h:∀r∈Ax,r.length=z):∀{k:Nat},Ax.flatten.drop (k*z)=(Ax.drop k).flatten:=by
 induction Ax with
 |nil=>intro k;simp
 |cons q Ax ih=>
  intro k;have hq:=h q AB;cases k with
  |zero=>simp
  |succ k=>rw[CO,BJ,ER,Qd,Jf,AR Ab,hq,Uh,ih λr hr=>h r (by simp[hr])];simp
def nJ{Ax:List (List U)}(h:∀r∈Ax,r.length=z){k:Nat}(hk:k<Ax.length)(q:List U):Ax.flatten.take (k*z)++q++Ax.flatten.drop (k*z+z)=(Ax.set k q).flatten:=by
 have e:k*z+z=(k+1)*z:=by rw[BJ,ER]
 rw[e,cK h,Jp h,B7,Af hk];simp
def cL{Ax:List (List Aa)}(h:∀r∈Ax,r.length=z):∀{n off:Nat},off+n<=Ax.length->CG Ax.flatten z (off*z) n=(Ax.drop off).take n:=by
 intro n;induction n with
 |zero=>intro off _;simp[CG]
 |succ n ih=>
  intro off hl;rw[CG];have e:off*z+z=(off+1)*z:=by rw[BJ,ER]
  rw[e,ih Ab,Jp h];have hlt:off<Ax.length:=Ab;rw[Az hlt,CO,Bi (by rw[h _ (AF hlt)];exact Ad _),Bf (by rw[h _ (AF hlt)];exact Ad _),LD]
def zf{Ax:List (List Aa)}(h:∀r∈Ax,r.length=z):CG Ax.flatten z 0 Ax.length=Ax:=by have:=cL h (n:=Ax.length) (off:=0) Ab;simpa using this
end
section
variable{h:Ai}{id z n:Nat}{Ax:List (List Aa)}
def OB(hr:∀r∈Ax,r.length=z)(hc:h[id]?=some (.cells Ax.flatten)):LW h (.Dn id 0 Ax.length z)=some (h.set id .Ef,.sl z Ax):=by unfold LW;simp only[hc,BE];rw[Af (by rw[Ik hr];exact Ad _),zf hr]
def Jq{k:IntKind}{i:Nat}(hi:i<n):AH (.GY z) [.Dn id 0 n z,.int k (i:Int)]=some (.ptr (some (id,i*z))):=by
 have:MX (i:Int) n=some i:=by unfold MX;rw[Af Ab];rfl
 simp[AH,elemOf,this]
def VI(hr:∀r∈Ax,r.length=z)(hc:h[id]?=some (.cells Ax.flatten)){i:Nat}(hi:i<Ax.length){q:List Aa}(hq:q.length=z):C9 h z (.ptr (some (id,i*z))) (.agg q)=some (h.set id (.cells (Ax.set i q).flatten)):=by
 simp only[C9,hc,Rm];have:i*z+z<=Ax.flatten.length:=by rw[Ik hr];have:=Ex z (Ab:i+1<=Ax.length);rwa [BJ,ER] at this
 rw[<-nJ hr hi];exact Af ⟨hq,this⟩
def nK(hr:∀r∈Ax,r.length=z){i:Nat}{q:List Aa}(hq:q.length=z):∀r∈Ax.set i q,r.length=z:=by
 intro r h;rcases DA h with h|rfl
 .exact hr r h
 .exact hq
def OC{U:Type}{f:U->List Aa}(hf:∀a,(f a).length=z)(l:List U):∀r∈l.map f,r.length=z:=by intro r h;obtain⟨a,_,rfl⟩:=A7.1 h;exact hf a
def QD{s v:Aa}{b:Nat}(hs:s= .slnil\/s= .sl z [])(hv:BB z Ax v)(hne:Ax≠[])(hb:Ax.length*b<=AV):Lf h z b s v=some (h++[.cells Ax.flatten],.Dn h.length 0 Ax.length z):=by
 rcases hv with rfl|⟨rfl,hv⟩
 .cases Ax with
  |nil=>exact absurd rfl hne
  |cons r Ax=>rw[AK] at hb;rcases hs with rfl|rfl<;>simp[Lf,O3,hb]
 .exact absurd hv hne
def nL{s v:Aa}{b:Nat}(hs:s= .slnil\/s= .sl z [])(hv:BB z [] v):Lf h z b s v=some (h,s):=by rcases hv with rfl|⟨rfl,hv⟩<;>rcases hs with rfl|rfl<;>simp[Lf,O3]
def Sq{v:Aa}{b:Nat}{r2:List (List Aa)}(hr:∀r∈Ax,r.length=z)(hz:0<z)(hc:h[id]?=some (.cells Ax.flatten))(hv:BB z r2 v)(hne:r2≠[])(hb:(Ax.length+r2.length)*b<=AV):
  GZ h z b (.Dn id 0 Ax.length z) v=some (h.set id .Ef++[.cells (Ax++r2).flatten],.Dn h.length 0 (Ax.length+r2.length) z):=by
 rcases hv with rfl|⟨rfl,hv⟩
 .cases r2 with
  |nil=>exact absurd rfl hne
  |cons r r2=>
   have hl:=Ik hr;have h1:¬(0+(Ax.length+(r::r2).length)*z<=Ax.flatten.length):=by rw[hl,AK,BE,BJ,BJ];omega
   have h2:Ax.flatten.take (Ax.length*z)=Ax.flatten:=Bf (by rw[hl];exact Ad _);unfold GZ;simp only[H0,BN,hc];rw[Ac h1,Af ⟨trivial,by rw[hl];exact Ad _,hb⟩,h2,P8]
 .exact absurd hv hne
end
end
section
section
end
def B1:List Ah:=[[97],[98],[98,105,103],[99,111,100,101],[101,109],aYt,[105],aWT,[115],aYk,aX8,aX9,[116,116],[117]]
def Fl:List Ah:=[[100,100],[100,116],[108,105],aXb,aWH,[112],[114,98],[114,112],[114,116],aXM]
def Ro:List Ah:=[aWV,aW3,aXi,[116,100],aXf,[116,104],aXj,[116,114]]
def Pp:List Ah:=[[109,105],[109,110],[109,111],[109,115],[109,116,101,120,116]]
def cM:List Ah:=[aYf,aXa,aWO]
section
end
def Dc:List Ah:=[[104,49],[104,50],[104,51],[104,52],[104,53],[104,54]]
def D4(k:Int)(s:Ah):Bool:=
 if k=3 then decide (s=aWM\/s∈Pp) else if k=2 then decide (s∈cM) else if k=1 then decide (s∈Tu) else false
def sw(s:Ah)(t e:IT):List Ah->IT
 |[]=>e
 |c::cs=> .op (.str .eql) [.str s,.str c] λv=> .A3 v t (sw s t e cs)
def zg{C:Gj}{Q:Lj}{h:Ai}{s:Ah}{t e:IT}:∀{cs:List Ah},W C (sw s t e cs) Q h↔(s∈cs->W C t Q h)/\(s∉cs->W C e Q h)
 |[]=>by simp[sw]
 |c::cs=>by
  simp only[sw,Ye,xW,M9,Oy,Yg,AE,PU];rw[zg];by_cases hc:s=c;.simp[hc]
  .simp[hc]
def Tv{C:Gj}{f:FuncId}{args:List Aa}{r:Aa}:Oz C f args r↔W C (Cd C f args) (λx vs _=>x= .ret/\vs=[r]) []:=by
 unfold Oz Ev;constructor;.exact λh=>W.mono h λ_ _ _ ⟨h1,r,h2,h3⟩=>⟨h1,by rw[h2,h3]⟩
 .exact λh=>W.mono h λ_ _ _ ⟨h1,h2⟩=>⟨h1,r,h2,rfl⟩
section
variable{Q:Lj}{h:Ai}{k:Aa->IT}{s:Ah}
end
section
variable{Q:Lj}{h:Ai}{k:Aa->IT}{s:Ah}{n:Int}
end
end
section
def zh{s:Ah}{a n:Nat}(ha:a<=n)(hn:n<s.length):(s.take (n+1)).drop a=(s.take n).drop a++[s[n]]:=by rw[Bd hn,OY Et]
end
section
section
variable{Q:Lj}{h:Ai}{k:Aa->IT}{s:Ah}
def OD:List Ah:=OA [] aWr
def OE:List Ah:=OA [] aWq
def Tw:List Ah:=[aWu,aWL,aWw]
def QE:List Ah:=[aXb,aWH]
def fY:List Ah:=[[111,108],[117,108]]
def Pq:List Ah:=[aXN,aWV,aWu,aXE,aXR,aWL,[116,100],aWw,[116,104]]
end
section
variable{Q:Lj}{h:Ai}{k:Aa->IT}{s:Ah}{n:Int}
end
end
section
def Km(c:UInt8):UInt8:=if 65<=c.toNat/\c.toNat<=90 then c+32 else c
def Fc(s:Ah):Ah:=s.map Km
def fZ{c:UInt8}(h:65<=c.toNat/\c.toNat<=90):((Km c).toNat:Int)=(c.toNat:Int)+32:=by unfold Km;rw[Af h,UInt8.toNat_add];have:UInt8.toNat 32=32:=AA;rw[this];omega
def Tx{c:UInt8}(h:¬(65<=c.toNat/\c.toNat<=90)):Km c=c:=by unfold Km;rw[Ac h]
def sW{s:Ah}{n:Nat}(hn:n<s.length):Fc (s.take (n+1))=Fc (s.take n)++[Km s[n]]:=by rw[Bd hn];unfold Fc;rw[Cg];rfl
def P2(b:UInt8):Aa:= .int .u8 (b.toNat:Int)
def H5(s:Ah)(n:Nat):Ah:=Fc (s.take n)++s.drop n
def Yt(s:Ah)(n:Nat):(H5 s n).length=s.length:=by simp[H5,Fc];omega
def Yu{s:Ah}{n:Nat}(hn:n<s.length):(H5 s n)[n]?=some s[n]:=by unfold H5 Fc;rw[Bu Et];simp only[Aw,Ay,BO (Ve hn),E9];rw[Az hn];rfl
def Tz{s:Ah}{n:Nat}(hn:n<s.length):H5 s (n+1)=(H5 s n).set n (Km s[n]):=by
 unfold H5;rw[sW hn,Cc _ _ (by simp[Fc];omega)];have e:n-(Fc (s.take n)).length=0:=by simp[Fc];omega
 rw[e,Az hn,lB,A6];rfl
def nM(s:Ah):H5 s s.length=Fc s:=by simp[H5,Fc]
def TA{U:Type}{l:List U}{i:Nat}{v:U}(h:l[i]?=some v):l.set i v=l:=by
 apply R7;intro j;rw[aRN];split
 .rename_i e;subst e;split;.exact h.symm
  .rename_i hl;rw[En Ab]
 .rfl
def sX{cs:List Aa}{i:Nat}{v:Aa}(h:cs[i]?=some v):Bn [.cells cs] none (.ptr (some (0,i)))=some v:=by simpa[Bn] using h
def Z5{U:Type}{l:List U}{i:Nat}{v:U}(h:i<l.length):l.take i++v::l.drop (i+1)=l.set i v:=by rw[B7,Af h]
def nN{cs:List Aa}{i:Nat}{v:Aa}(h:i<cs.length)(hv:v.cells=[v]):C9 [.cells cs] 1 (.ptr (some (0,i))) v=some [.cells (cs.set i v)]:=by simp only[C9,hv,Ji,AS];rw[Af ⟨trivial,Ab⟩,<-Z5 h];simp
def QF(s:Ah):∀(n o:Nat),o+n=s.length->CG (s.map P2) 1 o n=C8 (s.drop o)
 |0,o,h=>by rw[AR Ab];rfl
 |n+1,o,h=>by
  have ho:o<s.length:=Ab;have e:(s.map P2).drop o=P2 s[o]::(s.map P2).drop (o+1):=by rw[Az (by simpa using ho)];simp
  rw[CG,QF s n (o+1) Ab,Az ho,e];rfl
end
section
def Ea(name:Ah):List Ah->Ah
 |[]=>name
 |w::ws=>if Fc w=name then w else Ea name ws
def Cv(w:Ah):List Aa:=[.str w]
def UF:Ah:=aWr
def UG:Ah:=aWq
end
section
structure Be where
 A9:Int
 name:Ah
 value:Ah
 deriving DecidableEq
def Be.row(a:Be):List Aa:=[.int .i64 a.A9,.str a.name,.str a.value]
structure Item where
 node:Int
 A9:Int
 name:Ah
 QG:Bool
 deriving DecidableEq
def Item.row(a:Item):List Aa:=[.int .i64 a.node,.int .i64 a.A9,.str a.name,.bool a.QG]
def IB(ns:List Ah)(v:Aa):Prop:=BB 1 (ns.map Cv) v
def Bw(l:List Be)(v:Aa):Prop:=BB 3 (l.map Be.row) v
def D0(l:List Item)(v:Aa):Prop:=BB 4 (l.map Item.row) v
def xY(l:List Be):Prop:=l.length<=12/\∀x∈l,x.name.length<=60/\x.value.length<=200
instance(l:List Be):Decidable (xY l):=by unfold xY;infer_instance
def zi(l:List Ah):Prop:=l.length<=12/\∀x∈l,x.length<=60
instance(l:List Ah):Decidable (zi l):=by unfold zi;infer_instance
def xZ(l:List Item):Prop:=l.length<=60/\∀x∈l,x.name.length<=60
instance(l:List Item):Decidable (xZ l):=by unfold xZ;infer_instance
end
section
def Cr{U:Type}(p:U->Bool)(n:Nat):List U->Int
 |[]=> -1
 |a::l=>if p a then(n:Int) else Cr p (n+1) l
def He{U:Type}{p:U->Bool}:∀{l:List U} {k:Nat},(Cr p k l= -1/\l.find? p=none)\/∃(n:Nat) (a:U),Cr p k l=((k+n:Nat):Int)/\l[n]?=some a/\l.find? p=some a
 |[],k=> .inl ⟨rfl,rfl⟩
 |a::l,k=>by
  unfold Cr;by_cases h:p a=true;.exact .inr ⟨0,a,by rw[Af h];rfl,rfl,by simp[h]⟩
  .rw[Ac h];rcases He (p:=p) (l:=l) (k:=k+1) with⟨h1,h2⟩|⟨n,b,h1,h2,h3⟩
   .exact .inl ⟨h1,by simp[h,h2]⟩
   .exact .inr ⟨n+1,b,by rw[h1];congr 1;omega,by simpa using h2,by simp[h,h3]⟩
def yA(a:Be):Bool:=decide (a.A9=0/\a.name=aYg)
def QH{s:Ah}(h:s.all (λc=> !(65<=c.toNat&&c.toNat<=90))=true):Fc s=s:=by
 unfold Fc;conv=>rhs;rw[<-List.map_id s]
 apply aY;intro c hc;have:=DQ.1 h c hc;refine Tx λh2=>?_;simp[h2.1,h2.2] at this
abbrev aIs:Ah:=aWM
abbrev yB:Ah:=aYa
abbrev gA:Ah:=aXm
def Rp(n:Int)(s:Ah)(l:List Be):Bool:=
 if n=2 then D4 2 s else if n≠3 then false else if s≠aIs then false else match l.find? yA with
  |none=>false
  |some a=>decide (Fc a.value=yB\/Fc a.value=gA)
end
section
section
variable{U:Type}{f:U->List Aa}{l l2:List U}{v v2:Aa}{z b:Nat}{k k2:IntKind}
def BB.GN(hv:BB z (l.map f) v):AH (.len false) [v]=some (.int .i64 (l.length:Int)):=by have:=BB.len hv;rwa [Aw] at this
def BB.DN(hv:BB z (l.map f) v){n:Nat}(hn:n<l.length):AH (.GY z) [v,.int k (n:Int)]=some (.B9 (f l[n])):=by have:=BB.GY hv (k:=k) (n:=n) (by simpa using hn);simpa using this
def BB.TB(hv:BB z (l.map f) v){n:Nat}(hn:n<=l.length):∃u,AH (.Rb z false false true) [v,.int k (n:Int)]=some u/\BB z ((l.take n).map f) u:=by
 rcases hv with rfl|⟨rfl,h⟩
 .have a:EP (n:Int) (l.map f).length=some n:=by unfold EP;rw[Aw,Af Ab];rfl
  refine⟨.sl z ((l.map f).take n),?_,.inl (by rw[HA])⟩;simp only[AH,Jl,DY,a,BV,p9,BN,FO]
 .have:l=[]:=by simpa using h
  subst this;have:n=0:=by simpa using hn
  subst this;exact⟨.slnil,rfl,.inr ⟨rfl,rfl⟩⟩
def BB.yC(hv:BB z (l.map f) v){n:Nat}(hn:n<=l.length):∃u,AH (.Rb z false true false) [v,.int k (n:Int)]=some u/\BB z ((l.drop n).map f) u:=by
 rcases hv with rfl|⟨rfl,h⟩
 .have a:EP (n:Int) (l.map f).length=some n:=by unfold EP;rw[Aw,Af Ab];rfl
  refine⟨.sl z ((l.map f).drop n),?_,.inl (by rw[Mk])⟩;simp only[AH,Jl,DY,a,BV,p9,BN,Bk]
 .have:l=[]:=by simpa using h
  subst this;have:n=0:=by simpa using hn
  subst this;exact⟨.slnil,rfl,.inr ⟨rfl,rfl⟩⟩
def BB.Z6(hv:BB z (l.map f) v)(WD:BB z (l2.map f) v2)(hb:(l.length+l2.length)*b<=AV):∃u,AH (.append z b) [v,v2]=some u/\BB z ((l++l2).map f) u:=by obtain⟨u,e,hu⟩:=BB.Mo hv WD (b:=b) (by simpa using hb);exact⟨u,e,by rwa [Cg]⟩
def BB.gB(WD:BB z (l2.map f) v2)(hb:l2.length*b<=AV):∃u,AH (.append z b) [.slnil,v2]=some u/\BB z (l2.map f) u:=by obtain⟨u,e,hu⟩:=BB.Mo (v:= .slnil) (r:=[]) .nil WD (b:=b) (by simpa using hb);exact⟨u,e,by simpa using hu⟩
def BB.nO{a:U}(hv:BB z (l.map f) v)(hb:(l.length+1)*b<=AV):AH (.append z b) [v,.sl z [f a]]=some (.sl z ((l++[a]).map f)):=by rw[BB.aMX hv (by simpa using hb)];simp
end
def Ek{a b:Int}(h1: -9223372036854775808<=a-b)(h2:a-b<9223372036854775808):AH (.int .sub) [.int .i64 a,.int .i64 b]=some (.int .i64 (a-b)):=by rw[sT,wrap_i64 h1 h2]
def TC{a b:Int}(h1: -9223372036854775808<=a+b)(h2:a+b<9223372036854775808):AH (.int .add) [.int .i64 a,.int .i64 b]=some (.int .i64 (a+b)):=by rw[sS,wrap_i64 h1 h2]
def Item.zero:Item:=⟨0,0,[],false⟩
def Item.EL{a:Item}:a.row.length=4:=rfl
def Item.g0{a:Item}{d:Aa}:a.row.getD 0 d= .int .i64 a.node:=rfl
def Item.g1{a:Item}{d:Aa}:a.row.getD 1 d= .int .i64 a.A9:=rfl
def Item.g2{a:Item}{d:Aa}:a.row.getD 2 d= .str a.name:=rfl
def Item.g3{a:Item}{d:Aa}:a.row.getD 3 d= .bool a.QG:=rfl
def Item.at0{a:Item}:a.row[0]?=some (.int .i64 a.node):=rfl
def Item.OF{a:Item}:a.row.take 4=a.row:=rfl
def Item.zj{a:Item}:a.row.drop 1=[.int .i64 a.A9,.str a.name,.bool a.QG]:=rfl
def Item.aIu{a:Item}:a.row.drop 2=[.str a.name,.bool a.QG]:=rfl
def Item.aIv{a:Item}:a.row.drop 3=[.bool a.QG]:=rfl
def Item.Wj{a:Item}:[Aa.int .i64 a.node,.int .i64 a.A9,.str a.name,.bool a.QG]=a.row:=rfl
def Item.fill{a:Item}:Cl [.int .i64 0,.int .i64 0,.str [],.bool false] ([(0,1),(1,1),(2,1),(3,1)].zip a.row)=some a.row:=rfl
def Lo:=ai @Item.fill (ai @Item.EL (ai @Item.g0 (ai @Item.g1 (ai @Item.g2 (ai @Item.g3 (ai @Item.at0 (ai @Item.OF (ai @Item.zj (ai @Item.aIu (ai @Item.aIv (ai @Item.Wj (ai @FW (@Bg.{0})))))))))))))
def El(l:List Item)(i:Int):Item:=if 0<=i then l.getD i.toNat Item.zero else Item.zero
def D1(l:List Item):Item:=El l ((l.length:Int)-1)
def AD{U:Type}(q:U->Bool)(l:List U):Int:=match l.reverse.findIdx? q with
 |some k=>(l.length:Int)-1 -k
 |none=> -1
def L3{U:Type}{q:U->Bool}:AD q []= -1:=rfl
def H6{U:Type}{q:U->Bool}{l:List U}{a:U}:AD q (l++[a])=if q a then(l.length:Int) else AD q l:=by
 unfold AD;rw[EO,Hy,HX,aQl];by_cases h:q a=true;.simp only[h,BN,Ao,AS];omega
 .simp only[h,DP,Cb,Ao,AS];cases List.findIdx? q l.reverse with
  |none=>rfl
  |some k=>simp only[BV];omega
def Pr{U:Type}{q:U->Bool}{l:List U}{n:Nat}(hn:n<l.length):AD q (l.take (n+1))=if q l[n] then(n:Int) else AD q (l.take n):=by rw[Bd hn,H6,Ay,BO (Ve hn)]
def BY{U:Type}{q:U->Bool}{l:List U}:(AD q l= -1/\∀a∈l,q a=false)\/∃(n:Nat) (hn:n<l.length),AD q l=(n:Int)/\q l[n]=true/\∀m (hm:m<l.length),n<m->q l[m]=false:=by
 have key:∀r:List U,(AD q r.reverse= -1/\∀a∈r.reverse,q a=false)\/∃(n:Nat) (hn:n<r.reverse.length),AD q r.reverse=(n:Int)/\q r.reverse[n]=true/\∀m (hm:m<r.reverse.length),n<m->q r.reverse[m]=false:=by
  intro r;induction r with
  |nil=>exact .inl ⟨rfl,AB⟩
  |cons a r ih=>
   rw[ES,H6];by_cases h:q a=true;.refine .inr ⟨r.reverse.length,AB,by rw[Af h],by simp[h],λm hm hlt=>?_⟩;simp at hm hlt;omega
   .rw[Ac h];rcases ih with⟨h1,h2⟩|⟨n,hn,h1,h2,h3⟩
    .exact .inl ⟨h1,λb hb=>by
      rcases An.1 hb with hb|hb
      .exact h2 b hb
      .simp at hb;subst hb;simpa using h⟩
    .refine .inr ⟨n,by simp at hn⊢;omega,h1,by rw[SU hn];exact h2,λm hm hlt=>?_⟩;by_cases XV:m<r.reverse.length;.rw[SU XV];exact h3 m XV hlt
     .have:m=r.reverse.length:=by simp at hm XV⊢;omega
      subst this;simpa using h
 have:=key l.reverse;rwa [DE] at this
def At(h:Ai)(id o:Nat)(v:Aa):Prop:=∃cs,h[id]?=some (.cells cs)/\cs[o]?=some v
def put(h:Ai)(id o:Nat)(u:Aa):Ai:=match h[id]? with
 |some (.cells cs)=>h.set id (.cells (cs.set o u))
 |_=>h
section
variable{h t:Ai}{id o:Nat}{u v w:Aa}
def IC{cs:List Aa}(hc:h[id]?=some (.cells cs)):put h id o u=h.set id (.cells (cs.set o u)):=by unfold put;rw[hc]
def MK:(put h id o u).length=h.length:=by unfold put;split<;>simp
def At.lt(ha:At h id o v):id<h.length:=by obtain⟨cs,hc,_⟩:=ha;exact(Aj.1 hc).1
def At.load(ha:At h id o v):Bn h none (.ptr (some (id,o)))=some v:=by obtain⟨cs,hc,e⟩:=ha;simp only[Bn,hc,I4,e]
def At.store(ha:At h id o v)(hu:u.cells=[u]):C9 h 1 (.ptr (some (id,o))) u=some (put h id o u):=by
 obtain⟨cs,hc,e⟩:=ha;have hl:=(Aj.1 e).1;rw[IC hc];simp only[C9,hc,hu,AS,OX];have a:cs.set o u=cs.take o++[u]++cs.drop (o+1):=by rw[B7,Af hl];simp
 rw[Af (Ab:o+1<=cs.length),a]
def At.put(ha:At h id o v):At (put h id o u) id o u:=by obtain⟨cs,hc,e⟩:=ha;have hl:=(Aj.1 e).1;have hi:=(Aj.1 hc).1;rw[IC hc];exact⟨cs.set o u,by simp[hi],by simp[hl]⟩
def At.same(ha:At h id o v):Am.put h id o v=h:=by obtain⟨cs,hc,e⟩:=ha;obtain⟨hl,e⟩:=Aj.1 e;obtain⟨hi,a⟩:=Aj.1 hc;rw[IC hc,<-e,N0,<-a,N0]
def gC:Am.put (Am.put h id o u) id o w=Am.put h id o w:=by
 cases hc:h[id]? with
 |none=>
  have e:∀u,Am.put h id o u=h:=λu=>by unfold Am.put;rw[hc]
  rw[e,e]
 |some x=>cases x with
  |cells cs=>have hi:=(Aj.1 hc).1;rw[IC hc,IC hc,IC (cs:=cs.set o u) (by simp[hi])];simp
  |_=>
   have e:∀u,Am.put h id o u=h:=λu=>by unfold Am.put;rw[hc]
   rw[e,e]
def At.Mo(ha:At h id o v):At (h++t) id o v:=by obtain⟨cs,hc,e⟩:=ha;exact⟨cs,by rw[Al (Aj.1 hc).1];exact hc,e⟩
def gD(ha:At h id o v):Am.put (h++t) id o u=Am.put h id o u++t:=by have hi:=ha.lt;obtain⟨cs,hc,e⟩:=ha;rw[IC hc,IC (by rw[Al hi];exact hc),aKY _ _ hi]
def C5{i:Nat}(hn:i≠id):(Am.put h id o u)[i]?=h[i]?:=by
 unfold Am.put;split;.rw[Aq (CZ hn)]
 .rfl
end
def og(h:Ai)(p:Aa)(l:List Item):Prop:=(p= .ptr none/\l=[])\/∃id o v,p= .ptr (some (id,o))/\At h id o v/\D0 l v
def Iw{l:List Item}{n:Nat}(hn:n<l.length):El l (n:Int)=l[n]:=by have:(0:Int)<=(n:Int):=Ab;simp[El,this,hn]
def Yv{l:List Item}{i:Int}(h:i<0\/(l.length:Int)<=i):El l i=Item.zero:=by
 unfold El;rcases h with h|h
 .rw[Ac Ab]
 .rw[Af Ab,AJ,En Ab];rfl
section
variable{h:Ai}{p:Aa}{l:List Item}
def ŵ{s:Ah}{ws:List Ah}:decide (0<=Cr (λw=>decide (s=w)) 0 ws)=decide (s∈ws):=by
 rcases He (p:=λw=>decide (s=w)) (l:=ws) (k:=0) with⟨h1,h2⟩|⟨n,a,h1,h2,h3⟩
 .rw[h1,EF];have:=MC.1 h2;exact⟨λh=>Ab,λh=>absurd (show s=s from rfl) (by simpa using this s h)⟩
 .rw[h1,EF];have e:s=a:=by simpa using VW h3
  have:a∈ws:=CH h2;refine⟨λ_=>e▸this,λ_=>Ab⟩
def AG(ws:List Ah)(a:Item):Bool:=decide (a.A9=1/\a.name∈ws)
def Dg{ws:List Ah}:IB ws (.sl 1 (ws.map Cv)):= .mk
def H7(n:Int)(a:Item):Bool:=
 if n=4 then AG Tw a else if n=5 then !AG QE a else if a.A9=3\/a.A9=2 then D4 a.A9 a.name
 else AG Pq a||(decide (n=2)&&AG fY a)||(decide (n=3)&&AG [aWx] a)
def Fh{ws:List Ah}{args:List Aa}(e:args=ws.map Aa.str)(h:ws.length<=16777216):AH (.CC 1) args=some (.sl 1 (ws.map Cv)):=by
 subst e;have g:(ws.map Aa.str).all (λa=>a.cells.length==1)=true:=AB;have c:(ws.map Aa.str).map (·.cells)=ws.map Cv:=by simp[Cv]
 rw[xX,g,c];simp[h]
def sY:AH (.CC 1) [S aWu,S aWL,S aWw]=some (.sl 1 (Tw.map Cv)):=Fh (ws:=Tw) rfl AA
def nQ:AH (.CC 1) [S aXb,S aWH]=some (.sl 1 (QE.map Cv)):=Fh (ws:=QE) rfl AA
def oj:AH (.CC 1) [S [111,108],S [117,108]]=some (.sl 1 (fY.map Cv)):=Fh (ws:=fY) rfl AA
def sZ:AH (.CC 1) [S aXN,S aWV,S aWu,S aXE,S aXR,S aWL,S [116,100],S aWw,S [116,104]]=some (.sl 1 (Pq.map Cv)):=Fh (ws:=Pq) rfl AA
def om:AH (.CC 1) [S aWx]=some (.sl 1 ([aWx].map Cv)):=Fh (ws:=[aWx]) rfl AA
def Il{U:Type}(q e:U->Bool):List U->Bool
 |[]=>false
 |a::r=>if q a then true else if e a then false else Il q e r
def tC{U:Type}{q e:U->Bool}(l:List U)(b:Bool):(if h:0<=AD (λa=>q a||e a) l/\(AD (λa=>q a||e a) l).toNat<l.length then q (l[(AD (λa=>q a||e a) l).toNat]'h.2) else false)=Il q e l.reverse:=by
 have key:∀r:List U,(if h:0<=AD (λa=>q a||e a) r.reverse/\(AD (λa=>q a||e a) r.reverse).toNat<r.reverse.length then q (r.reverse[(AD (λa=>q a||e a) r.reverse).toNat]'h.2) else false)=Il q e r:=by
  intro r;induction r with
  |nil=>simp[Il,L3]
  |cons a r ih=>
   simp only[ES,Il];have e0:=H6 (q:=λa=>q a||e a) (l:=r.reverse) (a:=a);by_cases hq:q a=true
   .rw[Af (by simp[hq])] at e0;have c:(AD (λa=>q a||e a) (r.reverse++[a])).toNat=r.reverse.length:=by rw[e0];omega
    simp only[c];rw[qC ⟨by rw[e0];omega,AB⟩];simp[hq]
   .by_cases he:e a=true
    .rw[Af (by simp[he])] at e0;have c:(AD (λa=>q a||e a) (r.reverse++[a])).toNat=r.reverse.length:=by rw[e0];omega
     simp only[c];rw[qC ⟨by rw[e0];omega,AB⟩];simp[hq,he]
    .rw[Ac (by simp[hq,he])] at e0;simp only[hq,he,DP,Cb,<-ih,e0];rcases BY (q:=λa=>q a||e a) (l:=r.reverse) with⟨h1,h2⟩|⟨n,hn,h1,h2,h3⟩
     .simp[h1]
     .have g:(0:Int)<=(n:Int)/\(n:Int).toNat<r.reverse.length:=⟨Ab,by simpa using hn⟩;have i:(0:Int)<=(n:Int)/\(n:Int).toNat<(r.reverse++[a]).length:=⟨Ab,by simp at hn⊢;omega⟩;simp only[h1];rw[qC g,qC i,SU g.2]
 have:=key l.reverse;rwa [DE] at this
def IB.cells{v:Aa}{ws:List Ah}(hv:IB ws v):v.cells=[v]:=BB.cells hv
def Bt(node:Int)(a:Item):Bool:=decide (a.node=node)
end
end
section
section
variable{h:Ai}{p v:Aa}{l:List Item}
def oq{n s:Int}{t:Ah}{b:Bool}:AH (.C7 [I 0,I 0,S [],ff] [(0,1),(1,1),(2,1),(3,1)]) [.int .i64 n,.int .i64 s,.str t,.bool b]=some (.agg (Item.row ⟨n,s,t,b⟩)):=by simp only[Cx];rfl
def zk{a:Item}:AH (.CC 4) [.agg a.row]=some (.sl 4 [a.row]):=Ys rfl AA
def ML(h:Ai)(id o:Nat)(l:List Item):Prop:=∃v,At h id o v/\D0 l v
def ML.at{id o:Nat}(hs:ML h id o l):og h (.ptr (some (id,o))) l:=let⟨v,h1,h2⟩:=hs; .inr ⟨id,o,v,rfl,h1,h2⟩
def D0.cells(hv:D0 l v):v.cells=[v]:=BB.cells hv
def AO(a:Item):Bool:=D4 a.A9 a.name
def Eb(node:Int)(l:List Item):Int:=if AD (Bt node) l<0 then -1 else match(l.drop ((AD (Bt node) l).toNat+1)).findIdx? AO with
 |some k=>AD (Bt node) l+1+k
 |none=> -1
def Gl{U:Type}(q:U->Bool)(l:List U)(n:Nat):Int:=match(l.drop n).findIdx? q with
 |some k=>(n:Int)+k
 |none=> -1
def Z7{U:Type}{q:U->Bool}{l:List U}{n:Nat}(h:l.length<=n):Gl q l n= -1:=by unfold Gl;rw[AR h];rfl
def gE{U:Type}{q:U->Bool}{l:List U}{n:Nat}(h:n<l.length):Gl q l n=if q l[n] then(n:Int) else Gl q l (n+1):=by
 unfold Gl;rw[Az h,aQl];by_cases hq:q l[n]=true;.simp only[hq,BN];omega
 .simp only[hq,Cb,DP];cases List.findIdx? q (l.drop (n+1)) with
  |none=>rfl
  |some k=>simp only[BV];omega
def L4{node:Int}:Eb node l=if AD (Bt node) l<0 then -1 else Gl AO l ((AD (Bt node) l).toNat+1):=by
 unfold Eb Gl;by_cases h:AD (Bt node) l<0;.simp only[h,BN]
 .simp only[h,DP];cases(l.drop ((AD (Bt node) l).toNat+1)).findIdx? AO with
  |none=>rfl
  |some k=>simp only;omega
end
end
section
def Ev.ret{C:Gj}{f:FuncId}{args:List Aa}{h:Ai}{R:Aa->Ai->Prop}(hw:Ev C f args h R):∃r h',Cy C f args h r h'/\R r h':=by obtain⟨n,x,vs,h',e,hx,r,hv,hR⟩:=hw;exact⟨r,h',⟨n,x,vs,h',e,hx,hv,rfl⟩,hR⟩
def P3(b a:Item->Bool):List Item->List Item
 |x::y::r=>if b x then x::y::r else if a x then y::r else P3 b a (y::r)
 |r=>r
def D5(b a:Item->Bool)(l:List Item):List Item:=(P3 b a l.reverse).reverse
def ot{b a:Item->Bool}{l:List Item}(h:l.length<=1):P3 b a l=l:=by
 match l with
 |[]=>rfl
 |[x]=>rfl
 |x::y::r=>simp at h
def nR{b a:Item->Bool}{l:List Item}(h:l.length<=1):D5 b a l=l:=by unfold D5;rw[ot (by simpa using h),DE]
def UH{b a:Item->Bool}{l:List Item}{x:Item}(h:1<=l.length):D5 b a (l++[x])=if b x then l++[x] else if a x then l else D5 b a l:=by
 unfold D5;rw[EO,Hy,HX];cases hr:l.reverse with
 |nil=>
  have:l=[]:=by simpa using hr
  subst this;simp at h
 |cons y r=>
  have hl:l=r.reverse++[y]:=by rw[<-DE l,hr,ES]
  rw[P3];by_cases h1:b x=true;.rw[Af h1,Af h1];rw[hl];simp
  .rw[Ac h1,Ac h1];by_cases h2:a x=true;.rw[Af h2,Af h2];rw[hl];simp
   .rw[Ac h2,Ac h2]
def ou{b a:Item->Bool}{l:List Item}{n:Nat}(hn:n+1<l.length):D5 b a (l.take (n+2))=if b l[n+1] then l.take (n+2) else if a l[n+1] then l.take (n+1) else D5 b a (l.take (n+1)):=by have e:l.take (n+2)=l.take (n+1)++[l[n+1]]:=Bd hn;rw[e,UH (by rw[Ay];omega)]
def gF{b a:Item->Bool}:∀{l:List Item},(D5 b a l).length<=l.length:=by
 have key:∀r:List Item,(P3 b a r).length<=r.length:=by
  intro r;induction r with
  |nil=>simp[P3]
  |cons x r ih=>
   cases r with
   |nil=>simp[P3]
   |cons y r=>
    rw[P3];split;.simp
    .split;.simp
     .exact Bv ih AB
 intro l;have:=key l.reverse;simpa[D5] using this
section
variable{h:Ai}{p v:Aa}{l:List Item}
def J9{n:Nat}(hn:n<l.length):D1 (l.take (n+1))=l[n]:=by
 have e:((l.take (n+1)).length:Int)-1=(n:Int):=by rw[Ay];omega
 unfold D1;rw[e,Iw (by rw[Ay];omega)];simp
def ML.gG{id o:Nat}(hs:ML h id o l):∃u,h=put h id o u/\D0 l u:=by obtain⟨u,hc,hu⟩:=hs;exact⟨u,hc.same.symm,hu⟩
def ML.lt{id o:Nat}(hs:ML h id o l):∃v,At h id o v:=let⟨u,hc,_⟩:=hs;⟨u,hc⟩
def ML.aDM{id o:Nat}{u:Aa}(hlt:∃v,At h id o v)(hu:D0 l u):ML (put h id o u) id o l:=let⟨_,ha⟩:=hlt;⟨u,ha.put,hu⟩
def Dh(_:Item):Bool:=false
def CJ(s:Ah)(a:Item):Bool:=decide (a.A9≠1\/a.name∉Fl\/a.name=s)
def EC(a:Item):Bool:=decide (a.A9≠1\/¬(a.name∈Ro\/a.name∈Fl))
def Hg(node:Int)(l:List Item):List Item:=if AD (Bt node) l<0 then l else D5 Dh (Bt node) l
def GQ(l:List Item)(i:Int):List Item:=l.take (max 1 i.toNat)
def Ps{q:Item->Bool}(l:List Item):D5 Dh q l=GQ l (AD q l):=by
 have key:∀r:List Item,D5 Dh q r.reverse=GQ r.reverse (AD q r.reverse):=by
  intro r;induction r with
  |nil=>rfl
  |cons x r ih=>
   rw[ES,H6];rcases Ge r.length with h0|h0
   .have:r=[]:=Fs.1 h0;subst this;by_cases hq:q x=true<;>simp[hq,GQ,D5,P3,L3]
   .have h1:1<=r.reverse.length:=by rw[LJ];omega
    rw[UH h1];by_cases hq:q x=true;.rw[Ac (by simp[Dh]),Af hq,Af hq];unfold GQ;rw[BF,Nat.max_eq_right h1,Bi (Ad _),Bk]
    .rw[Ac (by simp[Dh]),Ac hq,Ac hq,ih];unfold GQ;rw[Bi];rcases BY (q:=q) (l:=r.reverse) with⟨a,_⟩|⟨n,hn,a,_⟩<;>rw[a]<;>omega
 have:=key l.reverse;rwa [DE] at this
def Sr{q:Item->Bool}(l:List Item):D5 q Dh l=GQ l (AD q l+1):=by
 have key:∀r:List Item,D5 q Dh r.reverse=GQ r.reverse (AD q r.reverse+1):=by
  intro r;induction r with
  |nil=>rfl
  |cons x r ih=>
   rw[ES,H6];rcases Ge r.length with h0|h0
   .have:r=[]:=Fs.1 h0;subst this;by_cases hq:q x=true<;>simp[hq,GQ,D5,P3,L3]
   .have h1:1<=r.reverse.length:=by rw[LJ];omega
    rw[UH h1];by_cases hq:q x=true;.rw[Af hq,Af hq];unfold GQ;rw[Bf];rw[Ao,AS];omega
    .rw[Ac hq,Ac (by simp[Dh]),Ac hq,ih];unfold GQ;rw[Bi];rcases BY (q:=q) (l:=r.reverse) with⟨a,_⟩|⟨n,hn,a,_⟩<;>rw[a]<;>omega
 have:=key l.reverse;rwa [DE] at this
def VJ{node:Int}(l:List Item):Hg node l=if AD (Bt node) l<0 then l else GQ l (AD (Bt node) l):=by unfold Hg;rw[Ps]
end
end
section
section
variable{h:Ai}{p v:Aa}{l:List Item}
def aIw(l:List Item):∀r∈l.map Item.row,r.length=4:=OC (f:=Item.row) (λa=>Item.EL) l
def yD{n:Nat}(h:n<=2000000000):n*40<=AV:=by have:AV=140737488355328:=rfl;omega
def Bx{U:Type}(l:List U)(k:Nat):List U:=l.take k++l.drop (k+1)
def Ce(node:Int)(l:List Item):List Item:=if AD (Bt node) l<1 then l else Bx l (AD (Bt node) l).toNat
def HO(i:Int)(n:Nat):Nat:=min (max i 1).toNat n
def QI(node:Int)(a:Item)(l:List Item):List Item:=if AD (Bt node) l<1 then l else l.set (AD (Bt node) l).toNat a
end
end
section
end
section
section
variable{h:Ai}{p v w:Aa}{l:List Item}{ws:List Ah}
end
end
section
def fT:List (Ah×Int×Ah):=[(aXs,4,aX2),(aXq,4,aX0),(aXx,4,aYu),(aXy,4,aYv),(aXz,4,aYw),(aXt,4,aWO),(aXA,4,aXD),(aXP,5,[108,97,110,103]),(aXI,5,aYn),(aXw,6,aXw),(aXu,6,aYh)]
def Yw(x:Ah×Int×Ah):Aa×Aa:=(.str x.1,.agg [.int .i64 x.2.1,.str x.2.2,.str []])
def ft(n:Nat):List (Aa×Aa):=(fT.take n).map Yw
def aIx:Oh aXs (.agg [.int .i64 4,.str aX2,.str []]) (ft 0)=some (ft 1):=by kernel_rfl
def aIy:Oh aXq (.agg [.int .i64 4,.str aX0,.str []]) (ft 1)=some (ft 2):=by kernel_rfl
def aIz:Oh aXx (.agg [.int .i64 4,.str aYu,.str []]) (ft 2)=some (ft 3):=by kernel_rfl
def aIA:Oh aXy (.agg [.int .i64 4,.str aYv,.str []]) (ft 3)=some (ft 4):=by kernel_rfl
def aIB:Oh aXz (.agg [.int .i64 4,.str aYw,.str []]) (ft 4)=some (ft 5):=by kernel_rfl
def aIC:Oh aXt (.agg [.int .i64 4,.str aWO,.str []]) (ft 5)=some (ft 6):=by kernel_rfl
def aID:Oh aXA (.agg [.int .i64 4,.str aXD,.str []]) (ft 6)=some (ft 7):=by kernel_rfl
def aIE:Oh aXP (.agg [.int .i64 5,.str [108,97,110,103],.str []]) (ft 7)=some (ft 8):=by kernel_rfl
def aIF:Oh aXI (.agg [.int .i64 5,.str aYn,.str []]) (ft 8)=some (ft 9):=by kernel_rfl
def aIG:Oh aXw (.agg [.int .i64 6,.str aXw,.str []]) (ft 9)=some (ft 10):=by kernel_rfl
def aDN:Oh aXu (.agg [.int .i64 6,.str aYh,.str []]) (ft 10)=some (ft 11):=by kernel_rfl
def tD{h:Ai}{es:List (Aa×Aa)}{s:Ah}{v:Aa}:RN (h++[.map es]) (.map (some h.length)) (.str s) v=(Oh s v es).map λes=>h++[.map es]:=by simp[RN]
def Ko(n:Ah):Option (Int×Ah):=(fT.find? λx=>decide (n=x.1)).map (·.2)
def Yx(n:Ah):∀l:List (Ah×Int×Ah),S1 n (l.map Yw)=some ((l.find? λx=>decide (n=x.1)).map λx=>(Yw x).2)
 |[]=>rfl
 |x::l=>by
  rw[Bj,If,Yw,S1];by_cases e:n=x.1;.rw[Af e,Ak e];rfl
  .rw[Ac e,Ap e];exact Yx n l
def Na{h:Ai}{n:Ah}:PV (h++[.map (ft 11)]) (.agg [.int .i64 0,.str [],.str []]) true (.map (some h.length)) (.str n)=
  some (match Ko n with|some (s,m)=> .tuple [.agg [.int .i64 s,.str m,.str []],.bool true]|none=> .tuple [.agg [.int .i64 0,.str [],.str []],.bool false]):=by
 have e:Uq (h++[.map (ft 11)]) (.map (some h.length)) (.str n)=S1 n (fT.map Yw):=by simp[Uq,ft,fT]
 rw[PV,e,Yx,Ko];cases fT.find? λx=>decide (n=x.1)<;>rfl
abbrev aIH:Ah:=aXH
abbrev aDO:Ah:=aXJ
def NQ(sp:Int)(n:Ah):Ah:=if sp=2 then Ea n OE else if sp=3/\n=aIH then aDO else n
def D2(sp:Int)(a:Be):Be:=
 if sp=2\/sp=3 then match Ko (NQ sp a.name) with
  |some (s,m)=>⟨s,m,a.value⟩
  |none=>⟨0,NQ sp a.name,a.value⟩
 else⟨0,a.name,a.value⟩
def gH(s:Ah):(Fc s).length=s.length:=by simp[Fc]
def P4(n:Ah):∀ws,Ea n ws=n\/(Ea n ws∈ws/\Fc (Ea n ws)=n)
 |[]=> .inl rfl
 |w::ws=>by
  rw[Ea];split;.rename_i e;exact .inr ⟨List.mem_cons_self,e⟩
  .rcases P4 n ws with h|⟨h1,h2⟩
   .exact .inl h
   .exact .inr ⟨OW _ h1,h2⟩
def Nb{a b c:Aa}:AH (.CC 3) [.agg [a,b,c]]=some (.sl 3 [[a,b,c]]):=rfl
def Be.EL{a:Be}:a.row.length=3:=rfl
def Be.OF{a:Be}:a.row.take 3=a.row:=rfl
section
variable{v:Aa}{l:List Be}{h:Ai}
def zl{a b:Be}{neg:Bool}:AH (.geq neg [.i,.s,.s]) [.agg a.row,.agg b.row]=some (.bool (decide (a=b) != neg)):=by
 rw[sU];have:Ez [.i,.s,.s] a.row b.row=some (decide (a=b)):=by simp only[Ez,N2,Be.row,BN,BL];cases a;cases b;simp only[Be.mk.injEq];rw[Mq];simp
 rw[this];rfl
def ov{k:IntKind}{s:Ah}{a z:Nat}(ha:a<=s.length):AH (.Rb z true true false) [.str s,.int k (a:Int)]=some (.str (s.drop a)):=by
 have c:EP (a:Int) s.length=some a:=by unfold EP;rw[Af Ab];rfl
 simp[AH,Jl,DY,c]
end
end
section
structure Ck where
 node:Int
 name:Ah
 As:List Be
deriving DecidableEq
structure DG where
 c:Ck
 v:Aa
 ok:Bw c.As v
def DG.row(e:DG):List Aa:=[.int .i64 e.c.node,.str e.c.name,e.v]
def Ff(l:List DG)(v:Aa):Prop:=BB 3 (l.map DG.row) v
section
variable{e:DG}{d:Aa}
def DG.EL:e.row.length=3:=rfl
def DG.g0:e.row.getD 0 d= .int .i64 e.c.node:=rfl
def DG.g1:e.row.getD 1 d= .str e.c.name:=rfl
def DG.g2:e.row.getD 2 d=e.v:=rfl
def DG.at0:e.row[0]?=some (.int .i64 e.c.node):=rfl
def DG.OF:e.row.take 3=e.row:=rfl
def DG.zj:e.row.drop 1=[.str e.c.name,e.v]:=rfl
def DG.Wj:[Aa.int .i64 e.c.node,.str e.c.name,e.v]=e.row:=rfl
def DG.aM4:AH (.len false) [e.v]=some (.int .i64 (e.c.As.length:Int)):=BB.GN e.ok
end
def Be.g0{a:Be}{d:Aa}:a.row.getD 0 d= .int .i64 a.A9:=rfl
def Be.g1{a:Be}{d:Aa}:a.row.getD 1 d= .str a.name:=rfl
def Be.g2{a:Be}{d:Aa}:a.row.getD 2 d= .str a.value:=rfl
def Be.Wj{a:Be}:[Aa.int .i64 a.A9,.str a.name,.str a.value]=a.row:=rfl
def cN{n:Nat}(h:n<=2000000000):n*48<=AV:=by have:AV=140737488355328:=rfl;omega
def UI(e:DG):Bool:=decide (e.c.node=0)
def UJ(n:Int)(e:DG):Bool:=decide (e.c.node=n)
def since(l:List DG):Int:=AD UI l+1
def oz:since []=0:=rfl
def tE{l:List DG}{e:DG}:since (l++[e])=if e.c.node=0 then(l.length:Int)+1 else since l:=by unfold since;rw[H6];by_cases h:e.c.node=0<;>simp[UI,h]
def tF{l:List DG}{n:Nat}(hn:n<l.length):since (l.take (n+1))=if l[n].c.node=0 then(n:Int)+1 else since (l.take n):=by rw[Bd hn,tE,Ay,BO (Ve hn)]
def Ss(l:List DG):∃s:Nat,since l=(s:Int)/\s<=l.length/\(∀m (hm:m<l.length),s<=m->l[m].c.node≠0)/\(∀t,s=t+1->∃ht:t<l.length,l[t].c.node=0):=by
 rcases BY (q:=UI) (l:=l) with⟨h1,h2⟩|⟨n,hn,h1,h2,h3⟩
 .refine⟨0,by unfold since;rw[h1];rfl,Bp _,λm hm _=>?_,λt ht=>by omega⟩;have:=h2 _ (AF hm);simpa[UI] using this
 .refine⟨n+1,by unfold since;rw[h1];rfl,hn,λm hm EU=>?_,λt ht=>?_⟩;.have:=h3 m hm Ab;simpa[UI] using this
  .obtain rfl:t=n:=by omega
   exact⟨hn,by simpa[UI] using h2⟩
section
variable{h:Ai}{v:Aa}{l:List DG}{id:Nat}
def yE(name:Ah):List DG->Int
 |[]=> -1
 |e::t=>if e.c.node=0 then -1 else if e.c.name=name then(t.length:Int) else yE name t
def RY(name:Ah)(l:List DG):Int:=yE name l.reverse
def tG{name:Ah}{n:Nat}(hn:n<l.length):RY name (l.take (n+1))=if l[n].c.node=0 then -1 else if l[n].c.name=name then(n:Int) else RY name (l.take n):=by rw[Bd hn,RY,EO,Hy,HX,yE,LJ,Ay,BO (Ve hn),RY]
def o_{name:Ah}:RY name []= -1:=rfl
def Lp(node:Int)(l:List DG):Int:=if node=0 then -1 else AD (UJ node) l
end
section
variable{h:Ai}{v:Aa}{l:List Be}
def Mv(a b:Ck):Bool:=decide (a.name=b.name/\a.As.length=b.As.length/\(∀x∈a.As,x∈b.As)/\∀x∈b.As,x∈a.As)
def uq(e:DG):Prop:=e.c.As.length<=1000000000
end
end
section
mutual
def Aa.TD:∀a:Aa,Aa.beq a a=true
 | .bool a=>by simp[Aa.beq]
 | .int k a=>by simp[Aa.beq]
 | .str a=>by simp[Aa.beq]
 | .ptr a=>by simp[Aa.beq]
 | .B9 a=>by simp[Aa.beq,Aa.Lq a]
 | .sl n a=>by simp[Aa.beq,Aa.Yy a]
 | .GX _=>by simp[Aa.beq]
 | .slnil=>by simp[Aa.beq]
 | .Dn a c d e=>by simp[Aa.beq]
 | .map a=>by simp[Aa.beq]
 | .func f a c=>by simp[Aa.beq,Aa.Lq a,Aa.Lq c]
 | .nilFunc=>by simp[Aa.beq]
 | .iface t a=>by simp[Aa.beq,Aa.TD a]
 | .nilIface=>by simp[Aa.beq]
 | .agg a=>by simp[Aa.beq,Aa.Lq a]
 | .tuple a=>by simp[Aa.beq,Aa.Lq a]
def Aa.Lq:∀a:List Aa,Aa.SZ a a=true
 |[]=>by simp[Aa.SZ]
 |a::x=>by simp[Aa.SZ,Aa.TD a,Aa.Lq x]
def Aa.Yy:∀a:List (List Aa),Aa.S0 a a=true
 |[]=>by simp[Aa.S0]
 |a::x=>by simp[Aa.S0,Aa.Lq a,Aa.Yy x]
end
def UK(h:Ai)(id o:Nat)(l:List DG):Prop:=∃u,At h id o u/\Ff l u
def Ff.cells{l:List DG}{v:Aa}(hv:Ff l v):v.cells=[v]:=BB.cells hv
def UK.lt{h:Ai}{id o:Nat}{l:List DG}(hs:UK h id o l):∃v,At h id o v:=let⟨u,hc,_⟩:=hs;⟨u,hc⟩
def gI(l:List DG):∀r∈l.map DG.row,r.length=3:=OC (f:=DG.row) (λa=>DG.EL) l
section
variable{h:Ai}{v:Aa}{l:List DG}{id:Nat}
def pc{r:List Aa}(h:r.length=3):AH (.CC 3) [.agg r]=some (.sl 3 [r]):=Ys (a:= .agg r) h AA
def nS(n:Int)(l:List DG):Lp n l= -1\/∃k:Nat,k<l.length/\Lp n l=(k:Int):=by
 unfold Lp;split;.exact .inl rfl
 .rcases BY (q:=UJ n) (l:=l) with⟨h1,_⟩|⟨k,hk,h1,_⟩
  .exact .inl h1
  .exact .inr ⟨k,hk,h1⟩
def gJ:DG:=⟨⟨0,[],[]⟩,.slnil,.nil⟩
def zm:[I 0,S [],Aa.slnil]=gJ.row:=rfl
def Hh(i:Int)(n:Nat):Nat:=min (max i 0).toNat n
def Im(l:List DG):Nat:=(since l-1).toNat
end
end
section
def Ŷ(e:Ck):List DG->Nat
 |[]=>0
 |x::t=>if x.c.node=0 then 0 else Ŷ e t+(if Mv x.c e=true then 1 else 0)
def tH(e:Ck):List DG->Int
 |[]=> -1
 |x::t=>if x.c.node=0 then -1 else if 0<=tH e t then tH e t else if Mv x.c e=true then(t.length:Int) else -1
def Z8(e:Ck)(l:List DG):Nat:=Ŷ e l.reverse
def Su(e:Ck)(l:List DG):Int:=tH e l.reverse
section
variable{e:Ck}{l:List DG}{n s:Nat}
def cO(hn:n<l.length):Z8 e (l.take (n+1))=if l[n].c.node=0 then 0 else Z8 e (l.take n)+(if Mv l[n].c e=true then 1 else 0):=by rw[Bd hn,Z8,EO,Hy,HX,Ŷ,Z8]
def cP(hn:n<l.length):Su e (l.take (n+1))=if l[n].c.node=0 then -1 else if 0<=Su e (l.take n) then Su e (l.take n) else if Mv l[n].c e=true then(n:Int) else -1:=by rw[Bd hn,Su,EO,Hy,HX,tH,Su,LJ,Ay,BO (Ve hn)]
def tI(hs:since l=(s:Int)):Z8 e (l.take s)=0/\Su e (l.take s)= -1:=by
 obtain⟨s',e,h1,h2,h3⟩:=Ss l;obtain rfl:s=s':=Ab;cases s with
 |zero=>exact⟨rfl,rfl⟩
 |succ t=>obtain⟨ht,h0⟩:=h3 t rfl;exact⟨by rw[cO ht,Af h0],by rw[cP ht,Af h0]⟩
end
def Sv(e:Ck)(l:List DG):List DG:=if e.node≠0/\3<=Z8 e l then Bx l (Su e l).toNat else l
section
variable{h:Ai}{v:Aa}{l:List DG}{id:Nat}
end
end
section
section
variable{h:Ai}{v:Aa}{l:List DG}{id:Nat}
end
end
end Go.Am
end
section
namespace Go.Am
structure HP where
 kind:Int:=0
 GR:Int:=0
 Bm:List Int:=[]
 BM:Int:=0
 A9:Int:=0
 name:Ah:=[]
 As:List Be:=[]
 data:Ah:=[]
 KB:Ah:=[]
 sys:Ah:=[]
 DW:Bool:=false
 cont:Int:=0
 Fm:Int:=0
deriving DecidableEq
structure Ar where
 n:List HP
 i:List Int
abbrev AT:Ah:=aWw
def cQ(x:HP):Prop:=x.kind=4/\x.A9=1/\x.name=AT
instance(x:HP):Decidable (cQ x):=by unfold cQ;infer_instance
namespace Ar
def len(A:Ar):Int:=A.n.length
def has(A:Ar)(h:Int):Prop:=1<=h/\h<=A.n.length
instance(A:Ar)(h:Int):Decidable (A.has h):=by unfold has;infer_instance
def nd(A:Ar)(h:Int):HP:=if A.has h then A.n.getD (h.toNat-1) {} else{}
def inr(A:Ar)(h:Int):Int:=if A.has h then A.i.getD (h.toNat-1) 0 else 0
def set(A:Ar)(h:Int)(x:HP):Ar:={n:=if A.has h then A.n.set (h.toNat-1) x else A.n,i:=A.i}
def OG(A:Ar)(h:Int)(x:Int):Ar:={n:=A.n,i:=if A.has h then A.i.set (h.toNat-1) x else A.i}
def add(A:Ar)(x:HP):Ar:={n:=A.n++[x],i:=A.i++[0]}
def up(A:Ar)(h:Int):Int:=if(A.nd h).GR≠0 then(A.nd h).GR else(A.nd h).Fm
end Ar
section
variable{A:Ar}{h k:Int}{x y:HP}
def OH(a:¬A.has h):A.nd h={}:=by unfold Ar.nd;rw[Ac a]
def JT:(A.set h x).n.length=A.n.length:=by simp only[Ar.set];split<;>simp
def ŷ:(A.set h x).len=A.len:=by unfold Ar.len;rw[JT]
def J1:(A.set h x).has k↔A.has k:=by unfold Ar.has;rw[JT]
def Ka:(A.set h x).nd k=if k=h/\A.has h then x else A.nd k:=by
 unfold Ar.nd;simp only[J1];by_cases hk:A.has k
 .rw[Af hk,Af hk];simp only[Ar.set];by_cases a:A.has h
  .rw[Af a];have h1:=a;have h2:=hk;unfold Ar.has at h1 h2;by_cases e:k=h;.subst e;rw[Af ⟨rfl,a⟩,AJ,AI Ab];rfl
   .rw[Ac (by simp[e]),AJ,Aq Ab,AJ]
  .rw[Ac a,Ac (by simp[a])]
 .rw[Ac hk,Ac hk,Ac];rintro⟨rfl,h2⟩;exact hk h2
def TE:(A.set h x).inr k=A.inr k:=by unfold Ar.inr;simp only[J1];rfl
def Rq:(A.add x).len=A.len+1:=by simp[Ar.len,Ar.add]
def Em:(A.add x).has k↔A.has k\/k=A.len+1:=by simp[Ar.has,Ar.add,Ar.len];omega
def Kb:(A.add x).nd k=if k=A.len+1 then x else A.nd k:=by
 unfold Ar.nd;simp only[Em];by_cases e:k=A.len+1;.subst e;simp[Ar.add,Ar.len]
 .by_cases hk:A.has k;.rw[Af (.inl hk),Ac e,Af hk];unfold Ar.has at hk;simp only[Ar.add,AJ];rw[Al Ab]
  .rw[Ac (by simp[hk,e]),Ac e,Ac hk]
def WL(hl:A.i.length=A.n.length):(A.add x).inr k=A.inr k:=by
 unfold Ar.inr;simp only[Em];by_cases e:k=A.len+1
 .subst e;have:¬A.has (A.len+1):=by unfold Ar.has Ar.len;omega
  rw[Af (.inr rfl),Ac this];simp[Ar.add,Ar.len,<-hl]
 .by_cases hk:A.has k;.rw[Af (.inl hk),Af hk];unfold Ar.has at hk;simp only[Ar.add,AJ];rw[Al Ab]
  .rw[Ac (by simp[hk,e]),Ac hk]
def nU:(A.OG h k).len=A.len:=rfl
def TF{m:Int}:(A.OG h m).has k↔A.has k:=aGY
def yF{m:Int}:(A.OG h m).nd k=A.nd k:=by rfl
def Yz{m:Int}(hl:A.i.length=A.n.length):(A.OG h m).inr k=if k=h/\A.has h then m else A.inr k:=by
 unfold Ar.inr;simp only[TF];by_cases hk:A.has k
 .rw[Af hk,Af hk];simp only[Ar.OG];by_cases a:A.has h
  .rw[Af a];have h1:=a;have h2:=hk;unfold Ar.has at h1 h2;by_cases e:k=h;.subst e;rw[Af ⟨rfl,a⟩,AJ,AI Ab];rfl
   .rw[Ac (by simp[e]),AJ,Aq Ab,AJ]
  .rw[Ac a,Ac (by simp[a])]
 .rw[Ac hk,Ac hk,Ac];rintro⟨rfl,h2⟩;exact hk h2
end
def FT(a:Be):Int×Ah:=(a.A9,a.name)
def GB(out:List Be):List Be->List Be
 |[]=>out
 |x::l=>if out.any (λy=>decide (FT x=FT y)) then GB out l else GB (out++[x]) l
def Dt(l:List Be):List Be:=GB [] l
def Sw:∀{l out:List Be},(out.map FT).Nodup->((GB out l).map FT).Nodup
 |[],_,h=>h
 |x::l,out,h=>by
  rw[GB];split;.exact Sw h
  .rename_i hn;refine Sw ?_;rw[Cg,BW];refine⟨h,AB,?_⟩;rintro a ha b hb rfl;simp at hb;subst hb;simp at ha hn;obtain⟨y,hy,e⟩:=ha;exact hn y hy e.symm
def nV:∀{l out:List Be},((out++l).map FT).Nodup->GB out l=out++l
 |[],out,_=>by simp[GB]
 |x::l,out,h=>by
  rw[GB,Ac,nV (by simpa using h)];.simp
  .intro ha;rw[Cg,BW] at h;simp at ha;obtain⟨y,hy,e⟩:=ha;exact h.2.2 _ (A7.2 ⟨y,hy,e.symm⟩) _ AB rfl
def pd(l:List Be):((Dt l).map FT).Nodup:=Sw AB
def Ÿ{l:List Be}(h:(l.map FT).Nodup):Dt l=l:=by have:=nV (out:=[]) (l:=l) (by simpa using h);simpa[Dt] using this
def cR(l:List Be):Dt (Dt l)=Dt l:=Ÿ (pd l)
def UL:∀{l out:List Be} {a:Be},a∈GB out l->a∈out\/a∈l
 |[],_,_,h=> .inl h
 |x::l,out,a,h=>by
  rw[GB] at h;split at h
  .rcases UL h with h|h
   .exact .inl h
   .exact .inr (by simp[h])
  .rcases UL h with h|h
   .simp at h;rcases h with h|rfl
    .exact .inl h
    .exact .inr AB
   .exact .inr (by simp[h])
def nW{l:List Be}{a:Be}(h:a∈Dt l):a∈l:=by simpa using UL h
def YA:∀{l out:List Be},(GB out l).length<=out.length+l.length
 |[],out=>by simp[GB]
 |x::l,out=>by
  rw[GB];split;.have:=YA (l:=l) (out:=out);simp;omega
  .have:=YA (l:=l) (out:=out++[x]);simp at this⊢;omega
def TG{l:List Be}:(Dt l).length<=l.length:=by have:=YA (l:=l) (out:=[]);simpa[Dt] using this
structure qK(x:HP):Prop where
 k:1<=x.kind/\x.kind<=6
 Bm:x.Bm≠[]->x.kind=1\/x.kind=2\/x.kind=4
 elem:x.kind≠4->x.A9=0/\x.As=[]
 nm:x.kind≠4->x.kind≠3->x.name=[]
 dt:x.kind≠3->x.KB=[]/\x.sys=[]
 data:x.kind≠5->x.kind≠6->x.data=[]
 DW:x.kind≠1->x.DW=false
 sp:0<=x.A9/\x.A9<=7
 zn:∀a∈x.As,0<=a.A9/\a.A9<=7
 Dt:Dt x.As=x.As
 RZ:x.cont≠0->cQ x
 OI:x.Fm≠0->x.kind=2
 root:x.GR≠0->x.kind≠1/\x.kind≠2
 yG:x.Bm.Nodup
structure EA(A:Ar)(e:Int):Prop where
 il:A.i.length=A.n.length
 TH:∀h,A.has h->qK (A.nd h)
 BM:∀h,A.has h->A.has (A.nd h).BM/\(A.nd (A.nd h).BM).kind=1
 YB:∀h,A.has h->(A.nd h).kind=1->(A.nd h).BM=h
 GR:∀h,A.has h->(A.nd h).GR≠0->A.has (A.nd h).GR/\h∈(A.nd (A.nd h).GR).Bm
 N7:∀h,A.has h->∀k∈(A.nd h).Bm,A.has k/\(A.nd k).GR=h
 Of:∀h,A.has h->h≠e->cQ (A.nd h)->(A.nd h).cont≠0
 cont:∀h,A.has h->(A.nd h).cont≠0->A.has (A.nd h).cont/\(A.nd (A.nd h).cont).kind=2/\(A.nd (A.nd h).cont).Fm=h
 Fm:∀h,A.has h->(A.nd h).Fm≠0->A.has (A.nd h).Fm/\(A.nd (A.nd h).Fm).cont=h
 ine:∀h,A.has h->A.inr h≠0->A.has (A.inr h)/\(A.nd (A.inr h)).kind=1
 L5:∃r:Int->Nat,∀h,A.has h->A.up h≠0->r (A.up h)<r h
section
variable{A:Ar}{e h k:Int}{x y:HP}
def Pu:¬A.has (A.len+1):=by unfold Ar.has Ar.len;omega
def YC(a:¬A.has h):A.up h=0:=by unfold Ar.up;rw[OH a];simp
def gK(ok:EA A e)(a:A.has h)(hu:A.up h≠0):A.has (A.up h):=by
 unfold Ar.up at hu⊢;split;.rename_i h1;exact(ok.GR h a h1).1
 .rename_i h1;rw[Ac h1] at hu;exact(ok.Fm h a hu).1
def Pv(ok:EA A e)(hx:qK x)(hd:(x.kind=1/\x.BM=A.len+1)\/(x.kind≠1/\A.has x.BM/\(A.nd x.BM).kind=1))(hp:x.GR=0)(hk:x.Bm=[])(hc:x.cont=0)(a:x.Fm=0)(b:cQ x->e=A.len+1):EA (A.add x) e:=by
 have no:=Pu (A:=A);obtain⟨r,hr⟩:=ok.L5;have ne:∀{k},A.has k->k≠A.len+1:=λhk e=>no (e▸hk);refine⟨by simp[Ar.add,ok.il],?_,?_,?_,?_,?_,?_,?_,?_,?_,r,?_⟩<;>intro m hm<;>rw[Em] at hm<;>(try rw[WL ok.il])<;>simp only[Ar.up,Kb,Em]<;>rcases hm with hm|rfl
 all_goals first|(rw[Ac (ne hm)])|(rw[Af rfl])|skip
 .exact ok.TH m hm
 .exact hx
 .have:=ok.BM m hm;rw[Ac (ne this.1)];exact⟨.inl this.1,this.2⟩
 .rcases hd with⟨h1,h2⟩|⟨h1,h2,h3⟩
  .rw[Af h2];exact⟨.inr h2,h1⟩
  .rw[Ac (ne h2)];exact⟨.inl h2,h3⟩
 .exact ok.YB m hm
 .intro h1;rcases hd with⟨_,h2⟩|⟨h2,_⟩
  .exact h2
  .exact absurd h1 h2
 .intro h1;have:=ok.GR m hm h1;rw[Ac (ne this.1)];exact⟨.inl this.1,this.2⟩
 .intro h1;exact absurd hp h1
 .intro q hq;have:=ok.N7 m hm q hq;rw[Ac (ne this.1)];exact⟨.inl this.1,this.2⟩
 .intro q hq;rw[hk] at hq;cases hq
 .exact ok.Of m hm
 .intro h1 h2;exact absurd (b h2).symm h1
 .intro h1;have:=ok.cont m hm h1;rw[Ac (ne this.1)];exact⟨.inl this.1,this.2⟩
 .intro h1;exact absurd hc h1
 .intro h1;have:=ok.Fm m hm h1;rw[Ac (ne this.1)];exact⟨.inl this.1,this.2⟩
 .intro h1;exact absurd a h1
 .intro h1;have:=ok.ine m hm h1;rw[Ac (ne this.1)];exact⟨.inl this.1,this.2⟩
 .intro h1;exfalso;apply h1;unfold Ar.inr;rw[Ac no]
 .have:=hr m hm;unfold Ar.up at this;exact this
 .rw[hp,a];simp
inductive Reach(A:Ar)(t:Int):Int->Prop
 |refl:Reach A t t
 |step {h:Int}:A.up h≠0->Reach A t (A.up h)->Reach A t h
def JC(l:List Int)(b n:Int):List Int:=if b=0 then l++[n] else l.takeWhile (λk=>decide (k≠b))++n::l.dropWhile (λk=>decide (k≠b))
def Ar.cut(A:Ar)(n:Int):Ar:=
 let q:=(A.nd n).GR
 if q=0 then A else
  let a:=A.set q {A.nd q with Bm:=(A.nd q).Bm.filter λk=>decide (k≠n)}
  a.set n {a.nd n with GR:=0}
def Ar.Mm(A:Ar)(p n b:Int):Ar:=
 let a:=A.set p {A.nd p with Bm:=JC (A.nd p).Bm b n}
 a.set n {a.nd n with GR:=p}
def NR(k:Int):Prop:=k=1\/k=2\/k=4
instance(k:Int):Decidable (NR k):=by unfold NR;infer_instance
structure zo(A:Ar)(p n b:Int):Prop where
 hp:A.has p
 hn:A.has n
 hb:b≠0->A.has b/\b≠n/\(A.nd b).GR=p
 kp:NR (A.nd p).kind
 kn:(A.nd n).kind≠1/\(A.nd n).kind≠2
 re:¬Reach A n p
open Classical in
def Ar.GC(A:Ar)(p n b:Int):Ar:=if zo A p n b then(A.cut n).Mm p n b else A
def Lr{l:List Int}{b n k:Int}:k∈JC l b n↔k=n\/k∈l:=by
 unfold JC;split;.simp;exact Or.comm
 .have e:=ND (p:=λk=>decide (k≠b)) (l:=l);constructor
  .intro h;rw[An,AE] at h;rcases h with h|h|h
   .exact .inr (by rw[<-e];simp only[An];exact .inl h)
   .exact .inl h
   .exact .inr (by rw[<-e];simp only[An];exact .inr h)
  .intro h;rw[An,AE];rcases h with h|h
   .exact .inr (.inl h)
   .rw[<-e,An] at h;rcases h with h|h
    .exact .inl h
    .exact .inr (.inr h)
def nX{l:List Int}{b n:Int}(h:l.Nodup)(hn:n∉l):(JC l b n).Nodup:=by
 unfold JC;split;.rw[BW];refine⟨h,AB,?_⟩;rintro a ha c hc rfl;simp at hc;subst hc;exact hn ha
 .have e:=ND (p:=λk=>decide (k≠b)) (l:=l);generalize List.takeWhile _ l=u at e⊢;generalize List.dropWhile _ l=w at e⊢;subst e;rw[BW] at h⊢;simp at hn;refine⟨h.1,by simp[h.2.1,hn.2],?_⟩;rintro a ha c hc rfl;simp at hc;rcases hc with rfl|hc
  .exact hn.1 ha
  .exact h.2.2 _ ha _ hc rfl
def nY:(A.cut h).n.length=A.n.length:=by unfold Ar.cut;simp only;split<;>simp[JT]
def KK:(A.cut h).has k↔A.has k:=by unfold Ar.has;rw[nY]
def nZ{p n b:Int}:(A.Mm p n b).n.length=A.n.length:=by unfold Ar.Mm;simp[JT]
def yH{p n b:Int}:(A.Mm p n b).has k↔A.has k:=by unfold Ar.has;rw[nZ]
def Ź:(A.cut h).inr k=A.inr k:=by unfold Ar.cut;simp only;split<;>simp[TE]
def ź{p n b:Int}:(A.Mm p n b).inr k=A.inr k:=by unfold Ar.Mm;simp[TE]
def aB4(ok:EA A e)(a:A.has h)(hu:A.up h≠0):A.up h≠h:=by obtain⟨r,hr⟩:=ok.L5;intro e;have:=hr h a hu;rw[e] at this;exact DH _ this
def tJ(ok:EA A e)(a:A.has h)(hu:(A.nd h).GR≠0):(A.nd h).GR≠h:=by
 have:A.up h=(A.nd h).GR:=by unfold Ar.up;rw[Af hu]
 have h2:=aB4 ok a (by rw[this];exact hu);rwa [this] at h2
def QJ(ok:EA A e)(a:A.has h):(A.cut h).nd k=if k=h then{A.nd h with GR:=0} else if(A.nd h).GR≠0/\k=(A.nd h).GR then{A.nd k with Bm:=(A.nd k).Bm.filter λm=>decide (m≠h)} else A.nd k:=by
 unfold Ar.cut;simp only
 by_cases hp:(A.nd h).GR=0
 .rw[Af hp];by_cases e:k=h;.subst e;rw[Af rfl];have:A.nd k={A.nd k with GR:=(A.nd k).GR}:=rfl;rw[hp] at this;exact this
  .rw[Ac e,Ac (by simp[hp])]
 .have hn:=tJ ok a hp;have hq:=(ok.GR h a hp).1;rw[Ac hp];simp only[Ka,J1,a,hq,Jh];by_cases e:k=h;.subst e;simp[CZ hn]
  .simp[e,hp];split;.rename_i e;simp[e]
   .rfl
def n0{x:HP}(hx:qK x){l:List Int}(h1:l.Nodup)(h2:l≠[]->NR x.kind):qK {x with Bm:=l}:=
 {k:=hx.k,Bm:=h2,elem:=hx.elem,nm:=hx.nm,dt:=hx.dt,data:=hx.data,DW:=hx.DW,sp:=hx.sp,zn:=hx.zn,Dt:=hx.Dt,RZ:=hx.RZ,OI:=hx.OI,root:=hx.root,yG:=h1}
def yI{x:HP}(hx:qK x){p:Int}(h2:p≠0->x.kind≠1/\x.kind≠2):qK {x with GR:=p}:=
 {k:=hx.k,Bm:=hx.Bm,elem:=hx.elem,nm:=hx.nm,dt:=hx.dt,data:=hx.data,DW:=hx.DW,sp:=hx.sp,zn:=hx.zn,Dt:=hx.Dt,RZ:=hx.RZ,OI:=hx.OI,root:=h2,yG:=hx.yG}
def aDQ(ok:A.i.length=A.n.length):(A.cut h).i.length=(A.cut h).n.length:=by rw[nY];unfold Ar.cut;simp only;split<;>exact ok
def aDR{p n b:Int}(ok:A.i.length=A.n.length):(A.Mm p n b).i.length=(A.Mm p n b).n.length:=by rw[nZ];exact ok
def Ż(ok:EA A e)(a:A.has h)(hk:k∈(A.nd h).Bm):k≠h/\(A.nd k).GR=h/\A.has k:=by have:=ok.N7 h a k hk;refine⟨?_,this.2,this.1⟩;rintro rfl;have h0:=this.1.1;exact tJ ok a (by rw[this.2];omega) this.2
def zp(ok:EA A e)(a:A.has h):(A.cut h).up k=if k=h then(A.nd h).Fm else A.up k:=by
 unfold Ar.up;rw[QJ ok a];by_cases e:k=h;.simp[e]
 .simp only[e,DP];split<;>rfl
def gL(ok:EA A e)(c:A.has h)(Um:(A.nd h).kind≠2):EA (A.cut h) e:=by
 obtain⟨r,hr⟩:=ok.L5;have a:=λm=>QJ (k:=m) ok c;have kd:∀m,((A.cut h).nd m).kind=(A.nd m).kind:=λm=>by rw[a];grind
 have j:∀m,((A.cut h).nd m).BM=(A.nd m).BM:=λm=>by rw[a];grind
 have l:∀m,((A.cut h).nd m).cont=(A.nd m).cont:=λm=>by rw[a];grind
 have ho:∀m,((A.cut h).nd m).Fm=(A.nd m).Fm:=λm=>by rw[a];grind
 have d:(A.nd h).Fm=0:=by
  by_cases h0:(A.nd h).Fm=0;.exact h0
  .exact absurd ((ok.TH h c).OI h0) Um
 refine⟨aDQ ok.il,?_,?_,?_,?_,?_,?_,?_,?_,?_,r,?_⟩<;>intro m hm<;>rw[KK] at hm<;>(try simp only[kd,j,l,ho,KK,Ź])
 .rw[a];split;.exact yI (ok.TH h c) AB
  .split;.exact n0 (ok.TH m hm) ((ok.TH m hm).yG.filter _) λh1=>(ok.TH m hm).Bm (by intro h2;rw[h2] at h1;simp at h1)
   .exact ok.TH m hm
 .exact ok.BM m hm
 .exact ok.YB m hm
 .intro h1;have b:m≠h:=by rintro rfl;rw[a] at h1;simp at h1
  have i:((A.cut h).nd m).GR=(A.nd m).GR:=by rw[a,Ac b];split<;>rfl
  rw[i] at h1⊢;have h2:=ok.GR m hm h1;refine⟨h2.1,?_⟩;rw[a];split;.rename_i g;rw[<-g];exact h2.2
  .split;.simp only[BD,Ct];exact⟨h2.2,b⟩
   .exact h2.2
 .intro q hq;have h1:q∈(A.nd m).Bm/\(m=(A.nd h).GR->q≠h):=by
   rw[a] at hq;split at hq;.rename_i b;subst b;have:=Ż ok hm hq;exact⟨hq,λ_=>this.1⟩
   .split at hq;.simp only[BD,Ct] at hq;exact⟨hq.1,λ_=>hq.2⟩
    .rename_i h3;refine⟨hq,λf n=>h3 ⟨?_,f⟩⟩;rw[<-f];have:=hm.1;omega
  have h2:=ok.N7 m hm q h1.1;refine⟨h2.1,?_⟩;have b:q≠h:=by rintro rfl;exact h1.2 h2.2.symm rfl
  rw[a,Ac b,<-h2.2];split<;>rfl
 .intro h1 h2;refine ok.Of m hm h1 ?_;rw[a] at h2;unfold cQ at h2⊢;grind
 .exact ok.cont m hm
 .exact ok.Fm m hm
 .exact ok.ine m hm
 .rw[zp ok c];split;.rw[d];simp
  .exact hr m hm
def YD{p n b:Int}(hp:A.has p)(hn:A.has n)(hne:n≠p):(A.Mm p n b).nd k=if k=n then{A.nd n with GR:=p} else if k=p then{A.nd p with Bm:=JC (A.nd p).Bm b n} else A.nd k:=by
 unfold Ar.Mm;simp only[Ka,J1,hp,hn,Jh];by_cases e:k=n;.subst e;simp[hne]
 .simp[e]
def pg{p n b:Int}(hp:A.has p)(hn:A.has n)(hne:n≠p)(h0:(A.nd n).GR=0)(a:(A.nd n).Fm=0)(hr:¬Reach A n p):∀{m},¬Reach A n m->(A.Mm p n b).up m=A.up m:=by
 intro m hm;have e:m≠n:=by rintro rfl;exact hm .refl
 unfold Ar.up;rw[YD hp hn hne,Ac e];split;.rename_i e;subst e;rfl
 .rfl
open Classical in
def aDT(ok:EA A e){p n b:Int}(hp:A.has p)(hn:A.has n)(kp:NR (A.nd p).kind)(kn:(A.nd n).kind≠1/\(A.nd n).kind≠2)(re:¬Reach A n p)(h0:(A.nd n).GR=0):EA (A.Mm p n b) e:=by
 obtain⟨r,hr⟩:=ok.L5;have hne:n≠p:=by rintro rfl;exact re .refl
 have a:=λm=>YD (k:=m) (b:=b) hp hn hne;have kd:∀m,((A.Mm p n b).nd m).kind=(A.nd m).kind:=λm=>by rw[a];grind
 have l:∀m,((A.Mm p n b).nd m).BM=(A.nd m).BM:=λm=>by rw[a];grind
 have o:∀m,((A.Mm p n b).nd m).cont=(A.nd m).cont:=λm=>by rw[a];grind
 have ho:∀m,((A.Mm p n b).nd m).Fm=(A.nd m).Fm:=λm=>by rw[a];grind
 have i:(A.nd n).Fm=0:=by
  by_cases h0:(A.nd n).Fm=0;.exact h0
  .exact absurd ((ok.TH n hn).OI h0) kn.2
 have g:∀m,A.has m->n∉(A.nd m).Bm:=by intro m hm h1;have:=ok.N7 m hm n h1;rw[h0] at this;have:=hm.1;omega
 refine⟨aDR ok.il,?_,?_,?_,?_,?_,?_,?_,?_,?_,λm=>if Reach A n m then r m+r p+1 else r m,?_⟩<;>intro m hm<;>rw[yH] at hm<;>(try simp only[kd,l,o,ho,yH,ź])
 .rw[a];split;.exact yI (ok.TH n hn) λ_=>kn
  .split;.exact n0 (ok.TH p hp) (nX (ok.TH p hp).yG (g p hp)) λ_=>kp
   .exact ok.TH m hm
 .exact ok.BM m hm
 .exact ok.YB m hm
 .intro h1;by_cases c:m=n
  .subst c;rw[a,Af rfl];refine⟨hp,?_⟩;simp only
   rw[a,Ac (CZ hne),Af rfl];exact Lr.2 (.inl rfl)
  .have f:((A.Mm p n b).nd m).GR=(A.nd m).GR:=by rw[a,Ac c];split;rename_i e;rw[e];rfl
   rw[f] at h1⊢;have h2:=ok.GR m hm h1;refine⟨h2.1,?_⟩;rw[a];split;.rename_i j;rw[<-j];exact h2.2
   .split;.rename_i j;rw[<-j];exact Lr.2 (.inr h2.2)
    .exact h2.2
 .intro q hq;by_cases c:q=n
  .subst c;refine⟨hn,?_⟩;rw[a,Af rfl];rw[a] at hq;split at hq;.exact absurd hq (g q hn)
   .split at hq;.rename_i e;exact e.symm
    .exact absurd hq (g m hm)
  .have h1:q∈(A.nd m).Bm:=by
    rw[a] at hq;split at hq;.rename_i e;rw[e];exact hq
    .split at hq;.rename_i e;rw[e];exact(Lr.1 hq).resolve_left c
     .exact hq
   have h2:=ok.N7 m hm q h1;refine⟨h2.1,?_⟩;rw[a,Ac c,<-h2.2];split;.rename_i e;rw[e]
   .rfl
 .intro h1 h2;refine ok.Of m hm h1 ?_;rw[a] at h2;unfold cQ at h2⊢;grind
 .exact ok.cont m hm
 .exact ok.Fm m hm
 .exact ok.ine m hm
 .intro hu;by_cases hR:Reach A n m
  .by_cases c:m=n
   .subst c;have f:(A.Mm p m b).up m=p:=by unfold Ar.up;rw[a,Af rfl];simp only;rw[Af];have:=hp.1;omega
    rw[f,Ac re,Af hR];omega
   .have f:(A.Mm p n b).up m=A.up m:=by
     unfold Ar.up;rw[a,Ac c];split;.rename_i e;rw[e]
     .rfl
    rw[f] at hu⊢;have d:Reach A n (A.up m):=by
     cases hR with
     |refl=>exact absurd rfl c
     |step _ hx=>exact hx
    rw[Af d,Af hR];have:=hr m hm hu;omega
  .have f:=pg (b:=b) hp hn hne h0 i re hR;rw[f] at hu⊢;have d:¬Reach A n (A.up m):=λh=>hR (.step hu h);rw[Ac d,Ac hR];exact hr m hm hu
def ph(ok:EA A e)(b:A.has h){m:Int}(hr:¬Reach A h m):¬Reach (A.cut h) h m:=by
 intro M5;have key:∀m,Reach (A.cut h) h m->Reach A h m:=by
  intro m hm;induction hm with
  |refl=>exact .refl
  |@step q h1 _ ih=>
   by_cases a:q=h;.rw[a];exact .refl
   .rw[zp ok b,Ac a] at h1 ih;exact .step h1 ih
 exact hr (key m M5)
def NT(ok:EA A e){p n b:Int}:EA (A.GC p n b) e:=by
 unfold Ar.GC;split
 .rename_i f;have a:=gL ok f.hn f.kn.2;have kd:∀m,((A.cut n).nd m).kind=(A.nd m).kind:=λm=>by rw[QJ ok f.hn];grind
  refine aDT a (KK.2 f.hp) (KK.2 f.hn) ?_ ?_ (ph ok f.hn f.re) ?_;.rw[kd];exact f.kp
  .rw[kd];exact f.kn
  .rw[QJ ok f.hn,Af rfl]
 .exact ok
def gM(ok:EA A e)(g:A.has h)(hx:qK x)(h1:x.kind=(A.nd h).kind)(h2:x.GR=(A.nd h).GR)(h3:x.Bm=(A.nd h).Bm)(d:A.has x.BM/\(A.nd x.BM).kind=1/\(x.kind=1->x.BM=h))(n:x.cont=(A.nd h).cont)(l:x.Fm=(A.nd h).Fm)(i:cQ x->cQ (A.nd h)):EA (A.set h x) e:=by
 obtain⟨r,hr⟩:=ok.L5;have a:∀m,(A.set h x).nd m=if m=h then x else A.nd m:=λm=>by rw[Ka];simp[g]
 have kd:∀m,((A.set h x).nd m).kind=(A.nd m).kind:=λm=>by rw[a];grind
 have f:∀m,((A.set h x).nd m).GR=(A.nd m).GR:=λm=>by rw[a];grind
 have ks:∀m,((A.set h x).nd m).Bm=(A.nd m).Bm:=λm=>by rw[a];grind
 have j:∀m,((A.set h x).nd m).cont=(A.nd m).cont:=λm=>by rw[a];grind
 have ho:∀m,((A.set h x).nd m).Fm=(A.nd m).Fm:=λm=>by rw[a];grind
 have u:∀m,(A.set h x).up m=A.up m:=λm=>by unfold Ar.up;rw[f,ho]
 refine⟨by rw[JT];exact ok.il,?_,?_,?_,?_,?_,?_,?_,?_,?_,r,?_⟩<;>intro m hm<;>rw[J1] at hm<;>(try simp only[kd,f,ks,j,ho,u,J1,TE])
 .rw[a];split;.exact hx
  .exact ok.TH m hm
 .rw[a];split;.exact⟨d.1,d.2.1⟩
  .exact ok.BM m hm
 .rw[a];split;.rename_i e;intro c;rw[e,d.2.2 (by rw[h1,<-e];exact c)]
  .exact ok.YB m hm
 .exact ok.GR m hm
 .exact ok.N7 m hm
 .intro c b;refine ok.Of m hm c ?_;rw[a] at b;split at b;.rename_i e;rw[e];exact i b
  .exact b
 .exact ok.cont m hm
 .exact ok.Fm m hm
 .exact ok.ine m hm
 .exact hr m hm
def Ar.ID(A:Ar)(d:Int):Int:=if A.inr d≠0 then A.inr d else A.len+1
def Ar.Fg(A:Ar)(d:Int):Ar:=if A.inr d≠0 then A else((A.add {kind:=1,BM:=A.len+1}).OG d (A.len+1)).OG (A.len+1) (A.len+1)
def ż:qK {kind:=1,BM:=k}:=by constructor<;>simp[Dt,GB]
def yJ(ok:EA A e)(hk:A.has k/\(A.nd k).kind=1):EA (A.OG h k) e:=by
 refine⟨?_,ok.TH,ok.BM,ok.YB,ok.GR,ok.N7,ok.Of,ok.cont,ok.Fm,?_,ok.L5⟩;.simp only[Ar.OG];split<;>simp[ok.il]
 .intro m hm h1;rw[TF] at hm;rw[Yz ok.il] at h1⊢;split at h1;.rename_i h2;rw[Af h2];exact hk
  .rename_i h2;rw[Ac h2];exact ok.ine m hm h1
def zq(ok:EA A e)(b:A.has h)(he:e≠A.len+1):EA (A.Fg h) e/\(A.Fg h).has (A.ID h)/\((A.Fg h).nd (A.ID h)).kind=1:=by
 unfold Ar.Fg Ar.ID;split;.rename_i h1;exact⟨ok,ok.ine h b h1⟩
 .have a:=Pv ok (x:={kind:=1,BM:=A.len+1}) ż (.inl ⟨rfl,rfl⟩) rfl rfl rfl rfl (by simp[cQ]);have h2:(A.add {kind:=1,BM:=A.len+1}).has (A.len+1)/\((A.add {kind:=1,BM:=A.len+1}).nd (A.len+1)).kind=1:=by rw[Em,Kb,Af rfl];exact⟨.inr rfl,rfl⟩
  exact⟨yJ (yJ a h2) h2,h2⟩
def YE(hk:k≠A.len+1\/A.inr h≠0):(A.Fg h).nd k=A.nd k:=by
 unfold Ar.Fg;split;.rfl
 .rename_i h1;rw[yF,yF,Kb,Ac (hk.resolve_right h1)]
def pj:(A.Fg h).len=if A.inr h≠0 then A.len else A.len+1:=by
 unfold Ar.Fg;split;.rfl
 .rw[nU,nU,Rq]
def OJ:A.has k->(A.Fg h).has k:=by
 unfold Ar.Fg;split;.exact id
 .intro hk;rw[TF,TF,Em];exact .inl hk
def Ž{d:Int}(ok:EA A e)(he:A.has e)(l:cQ (A.nd e))(hc:(A.nd e).cont=0)(hd:A.has d/\(A.nd d).kind=1):EA ((A.add {kind:=2,Fm:=e,BM:=d}).set e {A.nd e with cont:=A.len+1}) 0:=by
 have no:=Pu (A:=A);obtain⟨r,hr⟩:=ok.L5;have ne:∀{k},A.has k->k≠A.len+1:=λhk e=>no (e▸hk);have l0:A.len+1≠0:=by have:=he.1;have:=he.2;unfold Ar.len;omega
 have b:∀m,(((A.add {kind:=2,Fm:=e,BM:=d}).set e {A.nd e with cont:=A.len+1}).nd m)=if m=e then{A.nd e with cont:=A.len+1} else if m=A.len+1 then{kind:=2,Fm:=e,BM:=d} else A.nd m:=λm=>by rw[Ka,Kb];simp[he,Em]
 have hk:(A.nd e).kind=4:=l.1;have h0:(A.nd e).Fm=0:=by
  by_cases h0:(A.nd e).Fm=0;.exact h0
  .have:=(ok.TH e he).OI h0;omega
 have e0:e≠0:=by have:=he.1;omega
 have i:qK {kind:=2,Fm:=e,BM:=d}:=by constructor<;>simp[Dt,GB]
 have TH:=ok.TH;have c:=TH e he;have hne:qK {A.nd e with cont:=A.len+1}:={k:=c.k,Bm:=c.Bm,elem:=c.elem,nm:=c.nm,dt:=c.dt,data:=c.data,DW:=c.DW,sp:=c.sp,zn:=c.zn,Dt:=c.Dt,RZ:=λ_=>l,OI:=c.OI,root:=c.root,yG:=c.yG};have hs:∀m,((A.add {kind:=2,Fm:=e,BM:=d}).set e {A.nd e with cont:=A.len+1}).has m↔A.has m\/m=A.len+1:=λm=>by rw[J1,Em]
 have hi:∀m,((A.add {kind:=2,Fm:=e,BM:=d}).set e {A.nd e with cont:=A.len+1}).inr m=A.inr m:=λm=>by rw[TE,WL ok.il]
 have g:e≠A.len+1:=ne he;refine⟨by rw[JT];simp[Ar.add,Ar.set,ok.il],?_,?_,?_,?_,?_,?_,?_,?_,?_,λm=>if m=A.len+1 then r e+1 else r m,?_⟩<;>intro m hm<;>rw[hs] at hm<;>(try simp only[hs,hi])
 .rw[b];split;.exact hne
  .split;.exact i
   .rename_i h1 h2;exact TH m (hm.resolve_right h2)
 .have key:∀q,A.has q/\(A.nd q).kind=1->(A.has q\/q=A.len+1)/\(((A.add {kind:=2,Fm:=e,BM:=d}).set e {A.nd e with cont:=A.len+1}).nd q).kind=1:=by
   intro q hq;refine⟨.inl hq.1,?_⟩;rw[b,Ac (ne hq.1)];split;.rename_i a;rw[a] at hq;exact hq.2
   .exact hq.2
  rw[b m];split;.exact key _ (ok.BM e he)
  .split;.exact key _ hd
   .rename_i h1 h2;exact key _ (ok.BM m (hm.resolve_right h2))
 .rw[b m];split;.rename_i a;intro h1;rw[a];exact ok.YB e he h1
  .split;.intro h1;simp at h1
   .rename_i h1 h2;exact ok.YB m (hm.resolve_right h2)
 .have key:∀q,A.has q->(A.nd q).GR≠0->(A.has (A.nd q).GR\/(A.nd q).GR=A.len+1)/\q∈(((A.add {kind:=2,Fm:=e,BM:=d}).set e {A.nd e with cont:=A.len+1}).nd (A.nd q).GR).Bm:=by
   intro q hq hp;have h1:=ok.GR q hq hp;refine⟨.inl h1.1,?_⟩;rw[b,Ac (ne h1.1)];split;.rename_i a;rw[a] at h1;exact h1.2
   .exact h1.2
  rw[b m];split;.rename_i a;rw[a];exact key e he
  .split;.intro h1;simp at h1
   .rename_i h1 h2;exact key m (hm.resolve_right h2)
 .have key:∀q,A.has q->∀k∈(A.nd q).Bm,(A.has k\/k=A.len+1)/\(((A.add {kind:=2,Fm:=e,BM:=d}).set e {A.nd e with cont:=A.len+1}).nd k).GR=q:=by
   intro q hq k hk;have h1:=ok.N7 q hq k hk;refine⟨.inl h1.1,?_⟩;rw[b,Ac (ne h1.1)];split;.rename_i a;rw[a] at h1;exact h1.2
   .exact h1.2
  rw[b m];split;.rename_i a;rw[a];exact key e he
  .split;.intro k hk;simp at hk
   .rename_i h1 h2;exact key m (hm.resolve_right h2)
 .intro _;rw[b m];split;.intro _;exact l0
  .split;.intro h1;simp[cQ] at h1
   .rename_i h1 h2;exact ok.Of m (hm.resolve_right h2) h1
 .rw[b m];split
  .rename_i a;intro _;simp only
   rw[b,Ac (CZ g),Af rfl,a];exact⟨.inr trivial,rfl,rfl⟩
  .split;.intro h1;simp at h1
   .rename_i h1 h2;intro h3;have f:=ok.cont m (hm.resolve_right h2) h3;refine⟨.inl f.1,?_⟩;rw[b,Ac (ne f.1)];split;.rename_i a;rw[a,hk] at f;exact absurd f.2.1 AA
    .exact f.2
 .rw[b m];split;.intro h1;exact absurd h0 h1
  .split;.rename_i a;intro _;simp only;refine⟨.inl he,?_⟩;rw[b,Af rfl,a]
   .rename_i h1 h2;intro h3;have f:=ok.Fm m (hm.resolve_right h2) h3;refine⟨.inl f.1,?_⟩;rw[b,Ac (ne f.1)];split;.rename_i a;rw[a,hc] at f;have:=(hm.resolve_right h2).1;omega
    .exact f.2
 .intro h1;rcases hm with hm|rfl
  .have h2:=ok.ine m hm h1;refine⟨.inl h2.1,?_⟩;rw[b,Ac (ne h2.1)];split;.rename_i a;rw[a] at h2;exact h2.2
   .exact h2.2
  .exfalso;apply h1;unfold Ar.inr;rw[Ac no]
 .by_cases a:m=A.len+1
  .have j:((A.add {kind:=2,Fm:=e,BM:=d}).set e {A.nd e with cont:=A.len+1}).up m=e:=by
    have n:m≠e:=by rw[a];exact CZ g
    unfold Ar.up;rw[b m];simp[a,CZ g]
   rw[j,Ac g,Af a];intro _;omega
  .have hm:=hm.resolve_right a;have j:((A.add {kind:=2,Fm:=e,BM:=d}).set e {A.nd e with cont:=A.len+1}).up m=A.up m:=by
    unfold Ar.up;rw[b];split;.rename_i n;rw[n]
    .rfl
   rw[j,Ac a];intro h1;rw[Ac (ne (gK ok hm h1))];exact hr m hm h1
def Ar.elem(A:Ar)(d sp:Int)(nm:Ah)(at_:List Be):Ar:=
 let x:HP:={kind:=4,BM:=d,A9:=sp,name:=nm,As:=Dt at_}
 if cQ x then
  let b:=A.add x
  let a:=b.Fg d
  (a.add {kind:=2,Fm:=A.len+1,BM:=b.ID d}).set (A.len+1) {x with cont:=a.len+1}
 else A.add x
def ž{d sp:Int}{nm:Ah}{l:List Be}(ok:EA A 0)(hd:A.has d/\(A.nd d).kind=1)(hs:0<=sp/\sp<=7)(hl:∀a∈l,0<=a.A9/\a.A9<=7):EA (A.elem d sp nm l) 0:=by
 have hx:qK {kind:=4,BM:=d,A9:=sp,name:=nm,As:=Dt l}:=by constructor<;>simp[cR,hs];exact λa ha=>hl a (nW ha)
 unfold Ar.elem;simp only
 split
 .rename_i c;have b:EA A (A.len+1):={ok with Of:=λh g _=>ok.Of h g (by have:=g.1;omega)};have j:=Pv b hx (.inr ⟨AB,hd⟩) rfl rfl rfl rfl λ_=>rfl;have ĺ:(A.add {kind:=4,BM:=d,A9:=sp,name:=nm,As:=Dt l}).has d:=Em.2 (.inl hd.1);obtain⟨i,h2,h3⟩:=zq j ĺ (by rw[Rq];omega);have f:((A.add {kind:=4,BM:=d,A9:=sp,name:=nm,As:=Dt l}).Fg d).nd (A.len+1)={kind:=4,BM:=d,A9:=sp,name:=nm,As:=Dt l}:=by rw[YE (.inl (by rw[Rq];omega)),Kb,Af rfl]
  have:=Ž i (OJ (Em.2 (.inr rfl))) (by rw[f];exact c) (by rw[f]) ⟨h2,h3⟩;rw[f] at this;exact this
 .rename_i c;exact Pv ok hx (.inr ⟨AB,hd⟩) rfl rfl rfl rfl λh=>absurd h c
end
def aM5(e:Ck):Bool:=decide (e.node=0)
def VK(n:Int)(e:Ck):Bool:=decide (e.node=n)
def tK(l:List Ck):Int:=AD aM5 l+1
def FL(n:Int)(l:List Ck):Int:=if n=0 then -1 else AD (VK n) l
def Pw(name:Ah):List Ck->Int
 |[]=> -1
 |x::t=>if x.node=0 then -1 else if x.name=name then(t.length:Int) else Pw name t
def DS(name:Ah)(l:List Ck):Int:=Pw name l.reverse
def yK(e:Ck):List Ck->Nat
 |[]=>0
 |x::t=>if x.node=0 then 0 else yK e t+(if Mv x e=true then 1 else 0)
def n7(e:Ck):List Ck->Int
 |[]=> -1
 |x::t=>if x.node=0 then -1 else if 0<=n7 e t then n7 e t else if Mv x e=true then(t.length:Int) else -1
def n8(e:Ck)(l:List Ck):List Ck:=(if e.node≠0/\3<=yK e l.reverse then Bx l (n7 e l.reverse).toNat else l)++[e]
def Fw(l:List Ck):List Ck:=l.take (tK l-1).toNat
structure BS where
 a:Ar
 BM:Int
 Au:List Item
 A4:List Ck
 mode:Int
 IE:Int
 tm:List Int
 head:Int
 GO:Int
 K8:Bool
 ctx:Item
 fs:Bool
 Ec:Bool
 aII:Ah
 skip:Bool
 sw:Int
 stop:Bool
def qL(s:List Ah)(A:Ar)(h:Int):Prop:=(A.nd h).kind=4/\(A.nd h).A9=1/\(A.nd h).name∈s
instance(s:List Ah)(A:Ar)(h:Int):Decidable (qL s A h):=by unfold qL;infer_instance
abbrev JF:Ah:=aWL
abbrev tL:Ah:=aXi
abbrev tM:Ah:=aXf
abbrev tN:Ah:=aXj
abbrev wTr:Ah:=[116,114]
abbrev wP:Ah:=[112]
def Kc:List Ah:=[JF,tL,tM,tN,wTr]
namespace BS
def N9(b:BS):Int×Int:=
 let d:=AD (AG [AT]) b.Au
 let c:=AD (AG [JF]) b.Au
 if c<d then((El b.Au d).node,0) else if c<0 then((El b.Au 0).node,0) else
 let t:=(El b.Au c).node
 if(b.a.nd t).GR≠0 then((b.a.nd t).GR,t) else((El b.Au (max (c-1) 0)).node,0)
def place(b:BS)(t:Int):Int×Int:=
 if t=0/\b.Au=[] then(b.BM,0) else
 let t':=if t=0 then(D1 b.Au).node else t
 let pb:=if b.Ec=true/\qL Kc b.a t' then b.N9 else(t',0)
 if(b.a.nd pb.1).cont≠0 then((b.a.nd pb.1).cont,0) else pb
end BS
open Classical in
def Ar.E1(A:Ar)(h p bf:Int):Ar:=if(A.nd p).kind=1/\(A.nd h).kind=4/\(∃k∈(A.nd p).Bm,(A.nd k).kind=4) then A else A.GC p h bf
namespace BS
def KL(b:BS)(p:Int):Int:=if(b.a.nd p).cont≠0 then(if(b.a.nd (b.a.nd p).cont).BM≠0 then(b.a.nd (b.a.nd p).cont).BM else b.BM) else if(b.a.nd p).BM≠0 then(b.a.nd p).BM else b.BM
def L6(sp:Int):Prop:=0<=sp/\sp<=7
instance(sp:Int):Decidable (L6 sp):=by unfold L6;infer_instance
def MM(sp:Int)(nm:Ah):Ah:=if sp=2 then Ea nm OD else nm
def HQ(b:BS)(nm:Ah)(at_:List Be)(sp:Int):Item:=if L6 sp then⟨b.a.len+1,sp,MM sp nm,Rp sp (MM sp nm) (at_.map (D2 sp))⟩ else Item.zero
def Gm(b:BS)(nm:Ah)(at_:List Be)(sp p:Int):BS:=if L6 sp then{b with a:=b.a.elem (b.KL p) sp (MM sp nm) (at_.map (D2 sp))} else b
def Mw(b:BS)(sp:Int):Int:=if L6 sp then b.a.len+1 else 0
def Cu(b:BS)(nm:Ah)(at_:List Be)(sp:Int):BS:=
 if L6 sp then
  let pb:=b.place 0
  let b1:=b.Gm nm at_ sp pb.1
  {b1 with a:=b1.a.E1 (b.a.len+1) pb.1 pb.2,Au:=b1.Au++[b.HQ nm at_ sp]}
 else b
def Er(b:BS)(nm:Ah)(at_:List Be):BS:=
 let b1:=b.Cu nm at_ 1
 {b1 with A4:=n8 ⟨b.a.len+1,nm,at_⟩ b1.A4}
end BS
def Nc(r:Int):Ah:=
 if 0<=r/\r<128 then[UInt8.ofNat r.toNat]
 else if 128<=r/\r<2048 then[UInt8.ofNat (192+r.toNat/64),UInt8.ofNat (128+r.toNat%64)]
 else if 2048<=r/\r<65536/\¬(55296<=r/\r<57344) then[UInt8.ofNat (224+r.toNat/4096),UInt8.ofNat (128+r.toNat/64%64),UInt8.ofNat (128+r.toNat%64)]
 else if 65536<=r/\r<=1114111 then[UInt8.ofNat (240+r.toNat/262144),UInt8.ofNat (128+r.toNat/4096%64),UInt8.ofNat (128+r.toNat/64%64),UInt8.ofNat (128+r.toNat%64)]
 else[239,191,189]
def UM(l:List Int)(bf:Int):Option Int:=if bf=0 then l.getLast? else(l.takeWhile λk=>decide (k≠bf)).getLast?
def Ar.Rr(A:Ar)(h:Int)(s:Ah):Ar:=A.set h {A.nd h with data:=s}
def Ar.Nd(A:Ar)(h:Int)(l:List Be):Ar:=A.set h {A.nd h with As:=Dt l}
namespace BS
def QK(A:Ar)(s:Ah)(p bf:Int):Ar:=
 if(A.nd p).kind=4\/(A.nd p).kind=2 then
  match UM (A.nd p).Bm bf with
  |some t=>if(A.nd t).kind=5 then A.Rr t ((A.nd t).data++s) else(A.add {kind:=5,BM:=(A.nd p).BM,data:=s}).E1 (A.len+1) p bf
  |none=>(A.add {kind:=5,BM:=(A.nd p).BM,data:=s}).E1 (A.len+1) p bf
 else A
def Kx(b:BS)(r:Int):BS:={b with a:=QK b.a (Nc r) (b.place 0).1 (b.place 0).2}
def HR(A:Ar)(s:Ah)(p bf:Int):Ar:=
 if NR (A.nd p).kind then(A.add {kind:=6,BM:=(A.nd p).BM,data:=s}).E1 (A.len+1) p bf else A
def DB(b:BS)(s:Ah)(p:Int):BS:={b with a:=if p=0 then HR b.a s (b.place 0).1 (b.place 0).2 else HR b.a s p 0}
def Df(b:BS)(nm:Ah)(at_:List Be)(st:Int):BS:=let b1:=b.Cu nm at_ 1;{b1 with sw:=st,IE:=b1.mode,mode:=8}
def B4(b:BS):BS:=if Il (AG [wP]) (H7 3) b.Au.reverse then{b with Au:=D5 Dh (AG [wP]) (D5 (CJ wP) Dh b.Au)} else b
def settled(b:BS)(e:Ck):Bool:=decide (e.node=0\/0<=AD (Bt e.node) b.Au)
def JG:List Ck->BS->List Ck×BS
 |[],b=>([],b)
 |e::l,b=>let r:=JG l (b.Cu e.name e.As 1);({e with node:=b.a.len+1}::r.1,r.2)
def NA(b:BS):Nat:=(AD b.settled b.A4+1).toNat
def AL(b:BS):BS:=let r:=JG (b.A4.drop b.NA) b;{r.2 with A4:=b.A4.take b.NA++r.1}
def CV(b:BS)(nm:Ah):BS:=match b.Au.reverse.find? λi=>AG [nm] i||AO i with
 |some i=>if AG [nm] i then{b with Au:=Hg i.node (D5 (CJ nm) Dh b.Au)} else b
 |none=>b
def Rs(l:List Item):Int:=match l.reverse.find? λi=>AG [AT] i||AG [JF] i with
 |some i=>if AG [AT] i then 16 else 17
 |none=>16
end BS
abbrev zr:Ah:=aWV
abbrev pk:Ah:=aW3
abbrev Io:Ah:=aWz
abbrev pq:Ah:=aWA
abbrev KN:Ah:=aW6
abbrev ur:Ah:=[116,100]
abbrev uv:Ah:=[116,104]
abbrev IL:Ah:=aWy
abbrev IF:Ah:=aWu
def Ip:List (Ah×Int):=[(wTr,14),(tL,13),(tN,13),(tM,13),(zr,11),(pk,12),(JF,9),(Io,7),(pq,20)]
namespace BS
def Hu(b:BS)(x:Item)(k:Nat):Option Int:=
 if x.A9=1 then
  match Ip.find? λr=>decide (r.1=x.name) with
  |some r=>some r.2
  |none=>
   if x.name=KN then some (Rs (b.Au.take k))
   else if(x.name=ur\/x.name=uv)/\0<k then some 15
   else if x.name=AT then some (b.tm.getLast?.getD 7)
   else if x.name=IL/\0<k then some 4
   else if x.name=IF then some (if b.head=0 then 3 else 6)
   else if k=0 then some 7 else none
 else if k=0 then some 7 else none
def D6(b:BS)(k:Nat):Item:=if k=0/\b.K8=true then b.ctx else b.Au.getD k Item.zero
def H8(b:BS):Nat->Int
 |0=>7
 |k+1=>match b.Hu (b.D6 k) k with
  |some m=>m
  |none=>b.H8 k
def JD(b:BS):BS:={b with mode:=b.H8 b.Au.length}
def plain(l:List Be):List Be:=l.map λa=>⟨0,a.name,a.value⟩
def FD(b:BS)(l:List Be)(h:Int):BS:=if(b.a.nd h).kind=4 then{b with a:=b.a.Nd h ((b.a.nd h).As++plain l)} else b
def Di(b:BS):BS:=
 if AD (AG [AT]) b.Au<0 then b
 else JD {b with Au:=D5 Dh (AG [AT]) (D5 EC Dh b.Au),A4:=Fw b.A4,tm:=b.tm.dropLast}
def FY(b:BS):BS:=if b.Au.length<2 then b else{b with Au:=b.Au.take (b.Au.length-1)}
def aDU(b:BS):Item:=if b.Au.length<2 then Item.zero else D1 b.Au
end BS
def Ck.zero:Ck:=⟨0,[],[]⟩
namespace BS
def Gi(blk anc:Int)(far i:Nat)(b:BS)(l:Int)(m:Nat):BS×Int×Nat:=
 let x:=b.Au.getD i Item.zero
 let e:=FL x.node b.A4
 if e<0 then({b with Au:=Bx b.Au i},l,m)
 else if i+3<far then({b with A4:=Bx b.A4 e.toNat,Au:=Bx b.Au i},l,if e.toNat<m then m-1 else m)
 else
  let en:=b.A4.getD e.toNat Ck.zero
  let n:=b.HQ en.name en.As 1
  let b1:=b.Gm en.name en.As 1 anc
  ({b1 with a:=b1.a.GC n.node l 0,Au:=b1.Au.set i n,A4:=b1.A4.set e.toNat {en with node:=n.node}},n.node,if l=blk then e.toNat+1 else m)
def Nf(blk anc:Int)(far k:Nat):Nat->BS×Int×Nat->BS×Int×Nat
 |0,s=>s
 |c+1,s=>Nf blk anc far k c (Gi blk anc far (k+(c+1)) s.1 s.2.1 s.2.2)
def Dz(A:Ar)(n:Int)(l:List Int):Ar:=l.foldl (λA x=>A.GC n x 0) A
def IG(fe:Ck)(blk anc:Int)(s:BS×Int×Nat):BS:=
 let b1:=s.1
 let pb:=b1.place anc
 let b2:={b1 with a:=b1.a.E1 s.2.1 pb.1 pb.2}
 let n:=b2.HQ fe.name fe.As 1
 let b3:=b2.Gm fe.name fe.As 1 blk
 let b:=FL fe.node b3.A4
 let mk:=if b.toNat<s.2.2 then s.2.2 -1 else s.2.2
 let ac:=Bx b3.A4 b.toNat
 let op:=Ce fe.node b3.Au
 let ip:=HO (AD (Bt blk) op+1) op.length
 {b3 with a:=(Dz b3.a n.node (b3.a.nd blk).Bm).GC blk n.node 0,A4:=ac.take (Hh mk ac.length)++{fe with node:=n.node}::ac.drop (Hh mk ac.length),Au:=op.take ip++n::op.drop ip}
def round(b:BS)(nm:Ah):Bool×BS:=
 let f:=DS nm b.A4
 if f<0 then(false,b.CV nm) else
 let fe:=b.A4.getD f.toNat Ck.zero
 let k:=AD (Bt fe.node) b.Au
 if k<0 then(false,{b with A4:=Bx b.A4 f.toNat}) else
 if k=0\/Il (Bt fe.node) (H7 1) b.Au.reverse=false then(false,b) else
 let far:=Eb fe.node b.Au
 if far<0 then(false,{b with Au:=Hg fe.node b.Au,A4:=Bx b.A4 f.toNat}) else
 let blk:=(b.Au.getD far.toNat Item.zero).node
 let anc:=(b.Au.getD (k.toNat-1) Item.zero).node
 (true,IG fe blk anc (Nf blk anc far.toNat k.toNat (far.toNat-1 -k.toNat) (b,blk,f.toNat)))
def Gd:Nat->BS->Ah->BS
 |0,b,_=>b
 |n+1,b,nm=>let r:=b.round nm;if r.1 then Gd n r.2 nm else r.2
def C1(b:BS)(nm:Ah):BS:=
 if AG [nm] (D1 b.Au)/\FL (D1 b.Au).node b.A4<0 then b.FY else Gd 8 b nm
end BS
structure Le(A A':Ar):Prop where
 has:∀h,A.has h->A'.has h
 kind:∀h,A.has h->(A'.nd h).kind=(A.nd h).kind
 A9:∀h,A.has h->(A'.nd h).A9=(A.nd h).A9
 name:∀h,A.has h->(A'.nd h).name=(A.nd h).name
section
variable{A A' A'':Ar}{h k e p n b:Int}{x:HP}
def Le.refl:Le A A:=⟨λ_ h=>h,λ_ _=>rfl,λ_ _=>rfl,λ_ _=>rfl⟩
def Le.trans(h1:Le A A')(h2:Le A' A''):Le A A'':=⟨λh a=>h2.has h (h1.has h a),λh a=>by rw[h2.kind h (h1.has h a),h1.kind h a],λh a=>by rw[h2.A9 h (h1.has h a),h1.A9 h a],λh a=>by rw[h2.name h (h1.has h a),h1.name h a]⟩
def Le.aB5(h1:∀h,A.has h->A'.has h)(h2:∀h,A.has h->A'.nd h=A.nd h):Le A A':=⟨h1,λh a=>by rw[h2 h a],λh a=>by rw[h2 h a],λh a=>by rw[h2 h a]⟩
def Sx(a:A.has h):h≠A.len+1:=λe=>Pu (A:=A) (e▸a)
def Ls(a:A.has h):(A.add x).nd h=A.nd h:=by rw[Kb,Ac (Sx a)]
def Px:Le A (A.add x):= .aB5 (λh a=>Em.2 (.inl a)) λh a=>Ls a
def Py(h1:x.kind=(A.nd h).kind)(h2:x.A9=(A.nd h).A9)(h3:x.name=(A.nd h).name):Le A (A.set h x):=by
 refine⟨λk hk=>J1.2 hk,?_,?_,?_⟩<;>intro k hk<;>rw[Ka]<;>split;.rename_i e;rw[e.1,h1]
 .rfl
 .rename_i e;rw[e.1,h2]
 .rfl
 .rename_i e;rw[e.1,h3]
 .rfl
def yL{l:List Int}:Le A (A.set h {A.nd h with Bm:=l}):=Py rfl rfl rfl
def yM:Le A (A.set h {A.nd h with GR:=p}):=Py rfl rfl rfl
def tO:Le A (A.cut n):=by
 unfold Ar.cut;simp only;split;.exact .refl
 .exact Le.trans yL yM
def zt:Le A (A.Mm p n b):=Le.trans yL yM
def Hi:Le A (A.GC p n b):=by unfold Ar.GC;split;exact tO.trans zt;exact .refl
def Jr:Le A (A.E1 n p b):=by unfold Ar.E1;split;exact .refl;exact Hi
def Pz(ok:EA A e):EA (A.E1 n p b) e:=by unfold Ar.E1;split;exact ok;exact NT ok
def TI{d sp:Int}{nm:Ah}{l:List Be}(a:A.has h):(A.elem d sp nm l).has h/\(A.elem d sp nm l).nd h=A.nd h:=by
 have hne:=Sx a;unfold Ar.elem;simp only
 split;.have h1:(A.add {kind:=4,BM:=d,A9:=sp,name:=nm,As:=Dt l}).has h:=Em.2 (.inl a);refine⟨J1.2 (Em.2 (.inl (OJ h1))),?_⟩;rw[Ka,Ac (λe=>hne e.1),Ls (OJ h1),YE (.inl (Sx h1)),Ls a]
 .exact⟨Em.2 (.inl a),Ls a⟩
def QL{d sp:Int}{nm:Ah}{l:List Be}:(A.elem d sp nm l).has (A.len+1)/\((A.elem d sp nm l).nd (A.len+1)).kind=4/\((A.elem d sp nm l).nd (A.len+1)).A9=sp/\((A.elem d sp nm l).nd (A.len+1)).name=nm/\((A.elem d sp nm l).nd (A.len+1)).Bm=[]/\((A.elem d sp nm l).nd (A.len+1)).GR=0/\((A.elem d sp nm l).nd (A.len+1)).BM=d/\((A.elem d sp nm l).nd (A.len+1)).As=Dt l:=by
 unfold Ar.elem;simp only
 split;.have h1:(A.add {kind:=4,BM:=d,A9:=sp,name:=nm,As:=Dt l}).has (A.len+1):=Em.2 (.inr rfl);have h2:=Em (x:={kind:=2,Fm:=A.len+1,BM:=(A.add {kind:=4,BM:=d,A9:=sp,name:=nm,As:=Dt l}).ID d}).2 (.inl (OJ (h:=d) h1));rw[J1,Ka,Af ⟨rfl,h2⟩];exact⟨h2,rfl,rfl,rfl,rfl,rfl,rfl,rfl⟩
 .rw[Kb,Af rfl];exact⟨Em.2 (.inr rfl),rfl,rfl,rfl,rfl,rfl,rfl,rfl⟩
def WM{d sp:Int}{nm:Ah}{l:List Be}:Le A (A.elem d sp nm l):= .aB5 (λ_ h=>(TI h).1) λ_ h=>(TI h).2
def n9{l:List Be}(ok:EA A e)(c:A.has h)(hk:(A.nd h).kind=4)(hl:∀a∈l,0<=a.A9/\a.A9<=7):EA (A.Nd h l) e:=by have hx:=ok.TH h c;refine gM ok c ⟨hx.k,hx.Bm,λh=>absurd hk h,hx.nm,hx.dt,hx.data,hx.DW,hx.sp,λa ha=>hl a (nW ha),cR l,hx.RZ,hx.OI,hx.root,hx.yG⟩ rfl rfl rfl ⟨(ok.BM h c).1,(ok.BM h c).2,ok.YB h c⟩ rfl rfl λd=>d
def tP{s:Ah}(ok:EA A e)(a:A.has h)(hk:(A.nd h).kind=5\/(A.nd h).kind=6):EA (A.Rr h s) e:=by have hx:=ok.TH h a;refine gM ok a ⟨hx.k,hx.Bm,hx.elem,hx.nm,hx.dt,λf d=>by have:(A.nd h).kind≠5:=f;have:(A.nd h).kind≠6:=d;omega,hx.DW,hx.sp,hx.zn,hx.Dt,hx.RZ,hx.OI,hx.root,hx.yG⟩ rfl rfl rfl ⟨(ok.BM h a).1,(ok.BM h a).2,ok.YB h a⟩ rfl rfl λc=>c
def TJ{kd d:Int}{s:Ah}(ok:EA A e)(he:e≠A.len+1)(hd:A.has d/\(A.nd d).kind=1)(hk:kd=5\/kd=6):EA (A.add {kind:=kd,BM:=d,data:=s}) e:=by
 refine Pv ok ?_ (.inr ⟨Et,hd⟩) rfl rfl rfl rfl (λh=>?_);.constructor<;>simp[Dt,GB]<;>omega
 .have:=h.1;simp at this;omega
def tQ{s:Ah}:Le A (A.Rr h s):=Py rfl rfl rfl
def QM{l:List Be}:Le A (A.Nd h l):=Py rfl rfl rfl
def zu{sp:Int}{a:Be}:0<=(D2 sp a).A9/\(D2 sp a).A9<=7:=by
 unfold D2;split
 .split
  .rename_i s m he;have:∀x∈fT,0<=x.2.1/\x.2.1<=7:=AA;unfold Ko at he;cases hf:fT.find? λx=>decide (NQ sp a.name=x.1) with
   |none=>rw[hf] at he;cases he
   |some y=>rw[hf] at he;have:=this y (RL hf);simp at he;rw[he] at this;exact this
  .exact⟨OZ 0,AB⟩
 .exact⟨OZ 0,AB⟩
end
structure Ey(b:BS):Prop where
 ok:EA b.a 0
 BM:b.a.has b.BM/\(b.a.nd b.BM).kind=1
 op:∀i∈b.Au,b.a.has i.node/\(b.a.nd i.node).kind=4/\(b.a.nd i.node).A9=i.A9/\(b.a.nd i.node).name=i.name
 lH:(b.Au.map Item.node).Nodup
 ac:∀e∈b.A4,e.node=0\/(b.a.has e.node/\(b.a.nd e.node).kind=4)
 uw:((b.A4.map Ck.node).filter λn=>decide (n≠0)).Nodup
section
variable{b:BS}{t:Int}
def ſ{A A':Ar}{l:List Item}(hl:Le A A')(h:∀i∈l,A.has i.node/\(A.nd i.node).kind=4/\(A.nd i.node).A9=i.A9/\(A.nd i.node).name=i.name):∀i∈l,A'.has i.node/\(A'.nd i.node).kind=4/\(A'.nd i.node).A9=i.A9/\(A'.nd i.node).name=i.name:=by intro i hi;have:=h i hi;rw[hl.kind _ this.1,hl.A9 _ this.1,hl.name _ this.1];exact⟨hl.has _ this.1,this.2⟩
def WN{A A':Ar}{l:List Ck}(hl:Le A A')(h:∀e∈l,e.node=0\/(A.has e.node/\(A.nd e.node).kind=4)):∀e∈l,e.node=0\/(A'.has e.node/\(A'.nd e.node).kind=4):=by
 intro e he;rcases h e he with h|h
 .exact .inl h
 .rw[hl.kind _ h.1];exact .inr ⟨hl.has _ h.1,h.2⟩
def Ey.IP(o:Ey b){A:Ar}(ok:EA A 0)(hl:Le b.a A):Ey {b with a:=A}:=
 ⟨ok,by rw[hl.kind _ o.BM.1];exact⟨hl.has _ o.BM.1,o.BM.2⟩,ſ hl o.op,o.lH,WN hl o.ac,o.uw⟩
def Ey.aM7(o:Ey b){l:List Item}(h1:∀i∈l,i∈b.Au)(h2:(l.map Item.node).Nodup):Ey {b with Au:=l}:=
 ⟨o.ok,o.BM,λi hi=>o.op i (h1 i hi),h2,o.ac,o.uw⟩
def Ey.Ky(o:Ey b){l:List Item}(h1:List.Sublist l b.Au):Ey {b with Au:=l}:=o.aM7 (λ_ hi=>h1.subset hi) (o.lH.sublist (h1.map _))
def Ey.gN(o:Ey b){l:List Ck}(h1:List.Sublist l b.A4):Ey {b with A4:=l}:=
 ⟨o.ok,o.BM,o.op,o.lH,λe he=>o.ac e (h1.subset he),o.uw.sublist ((h1.map _).filter _)⟩
def Ng{l:List Item}{i:Int}:List.Sublist (GQ l i) l:=Cf _ _
def Dd{p q:Item->Bool}{l:List Item}:List.Sublist (D5 p q l) l:=by
 have key:∀r:List Item,List.Sublist (P3 p q r) r:=by
  intro r;induction r with
  |nil=>exact BQ _
  |cons x r ih=>
   cases r with
   |nil=>exact BQ _
   |cons y r=>
    rw[P3];split;.exact BQ _
    .split;.exact Vd _ _
     .exact ih.trans (Vd _ _)
 have:=(key l.reverse).reverse;rwa [DE] at this
def I6{n:Int}{l:List Item}:List.Sublist (Hg n l) l:=by unfold Hg;split;exact BQ _;exact Dd
def CL{U:Type}{l:List U}{k:Nat}:List.Sublist (Bx l k) l:=by
 unfold Bx;conv=>rhs;rw[<-Br k l]
 refine List.Sublist.append (BQ _) ?_;rw[<-Ew];exact aRR _ _
def EI{n:Int}{l:List Item}:List.Sublist (Ce n l) l:=by unfold Ce;split;exact BQ _;exact CL
def Lt{l:List Item}{i:Int}(h0:0<=i)(h1:i<l.length):El l i∈l:=by unfold El;rw[Af h0,AJ,Av Ab];exact AF _
def Lu{U:Type}{q:U->Bool}{l:List U}:AD q l<l.length∧-1<=AD q l:=by rcases BY (q:=q) (l:=l) with⟨h1,_⟩|⟨n,hn,h1,_⟩<;>rw[h1]<;>omega
def UN{l:List Item}(h:l≠[]):D1 l∈l:=by have:0<l.length:=CB.2 h;exact Lt Ab Ab
def aAa(o:Ey b)(hn:b.Au≠[]):b.a.has b.N9.1/\(b.N9.2≠0->b.a.has b.N9.2/\(b.a.nd b.N9.2).GR=b.N9.1):=by
 have hl:0<b.Au.length:=CB.2 hn;have h1:=Lu (q:=AG [AT]) (l:=b.Au);have h2:=Lu (q:=AG [JF]) (l:=b.Au);unfold BS.N9;simp only
 split;.exact⟨(o.op _ (Lt Ab Ab)).1,λh=>absurd rfl h⟩
 .split;.exact⟨(o.op _ (Lt Ab Ab)).1,λh=>absurd rfl h⟩
  .have h3:=o.op _ (Lt (l:=b.Au) (i:=AD (AG [JF]) b.Au) Ab Ab);split;.rename_i hp;exact⟨(o.ok.GR _ h3.1 hp).1,λ_=>⟨h3.1,rfl⟩⟩
   .exact⟨(o.op _ (Lt Ab Ab)).1,λh=>absurd rfl h⟩
def TK(o:Ey b)(ht:t=0\/(b.a.has t/\b.Au≠[])):b.a.has (b.place t).1/\((b.place t).2≠0->b.a.has (b.place t).2/\(b.a.nd (b.place t).2).GR=(b.place t).1):=by
 unfold BS.place;simp only
 split;.exact⟨o.BM.1,λh=>absurd rfl h⟩
 .rename_i h0;have hn:b.Au≠[]:=by
   rcases ht with h|h
   .intro h2;exact h0 ⟨h,h2⟩
   .exact h.2
  have h1:b.a.has (if t=0 then(D1 b.Au).node else t):=by
   split;.exact(o.op _ (UN hn)).1
   .rename_i h2;exact(ht.resolve_left h2).1
  generalize(if t=0 then(D1 b.Au).node else t)=t' at h1;have h2:b.a.has (if b.Ec=true/\qL Kc b.a t' then b.N9 else(t',0)).1/\((if b.Ec=true/\qL Kc b.a t' then b.N9 else(t',0)).2≠0->b.a.has (if b.Ec=true/\qL Kc b.a t' then b.N9 else(t',0)).2/\(b.a.nd (if b.Ec=true/\qL Kc b.a t' then b.N9 else(t',0)).2).GR=(if b.Ec=true/\qL Kc b.a t' then b.N9 else(t',0)).1):=by
   split;.exact aAa o hn
   .exact⟨h1,λh=>absurd rfl h⟩
  generalize(if b.Ec=true/\qL Kc b.a t' then b.N9 else(t',0))=pb at h2;split;.rename_i hc;exact⟨(o.ok.cont _ h2.1 hc).1,λh=>absurd rfl h⟩
  .exact h2
def cS(o:Ey b){p:Int}:b.a.has (b.KL p)/\(b.a.nd (b.KL p)).kind=1:=by
 unfold BS.KL;by_cases hp:b.a.has p
 .have key:∀q,b.a.has q->b.a.has (if(b.a.nd q).BM≠0 then(b.a.nd q).BM else b.BM)/\(b.a.nd (if(b.a.nd q).BM≠0 then(b.a.nd q).BM else b.BM)).kind=1:=by
   intro q hq;split;.exact o.ok.BM q hq
   .exact o.BM
  split;.rename_i hc;exact key _ (o.ok.cont p hp hc).1
  .exact key p hp
 .rw[OH hp];exact o.BM
variable{nm:Ah}{at_:List Be}{sp p:Int}
structure zw(b b1:BS)(i:Item):Prop where
 has:b1.a.has i.node
 kind:(b1.a.nd i.node).kind=4
 A9:(b1.a.nd i.node).A9=i.A9
 name:(b1.a.nd i.node).name=i.name
 new:¬b.a.has i.node
def P5(o:Ey b)(hs:BS.L6 sp):Ey (b.Gm nm at_ sp p)/\zw b (b.Gm nm at_ sp p) (b.HQ nm at_ sp)/\Le b.a (b.Gm nm at_ sp p).a:=by
 have hd:=cS o (p:=p);unfold BS.Gm BS.HQ;rw[Af hs,Af hs];have ok:=ž (sp:=sp) (nm:=BS.MM sp nm) (l:=at_.map (D2 sp)) o.ok hd hs (by intro a ha;obtain⟨c,_,rfl⟩:=A7.1 ha;exact zu)
 have hn:=QL (A:=b.a) (d:=b.KL p) (sp:=sp) (nm:=BS.MM sp nm) (l:=at_.map (D2 sp));exact⟨o.IP ok WM,⟨hn.1,hn.2.1,hn.2.2.1,hn.2.2.2.1,Pu⟩,WM⟩
def Rt(o:Ey b){b1:BS}{i:Item}(f:zw b b1 i):i.node∉b.Au.map Item.node:=by intro h;obtain⟨j,hj,e⟩:=A7.1 h;exact f.new (e▸(o.op j hj).1)
def UO(o:Ey b){b1:BS}{i:Item}(f:zw b b1 i):i.node∉b.A4.map Ck.node:=by
 intro h;obtain⟨j,hj,e⟩:=A7.1 h;rcases o.ac j hj with h1|h1
 .have:=f.has.1;omega
 .exact f.new (e▸h1.1)
def pt{U:Type}[DecidableEq U]{l:List U}{k:Nat}{x:U}(h:l.Nodup)(hx:x∉l):(l.take k++x::l.drop k).Nodup:=by
 have e:=Br k l;rw[BW];rw[<-e,BW] at h;refine⟨h.1,B6.2 ⟨λh1=>hx (AY h1),h.2.1⟩,?_⟩;rintro a ha c hc rfl;rcases AE.1 hc with rfl|hc
 .exact hx (AZ ha)
 .exact h.2.2 _ ha _ hc rfl
def tR{U:Type}[DecidableEq U]{l:List U}{k:Nat}{x:U}(h:l.Nodup)(hx:x∉l):(l.set k x).Nodup:=by
 rw[B7];split
 .have e:=Br k l;rw[BW];rw[<-e,BW] at h;have hd:List.Sublist (l.drop (k+1)) (l.drop k):=by rw[<-Ew];exact aRR _ _
  refine⟨h.1,B6.2 ⟨λh1=>hx (AY h1),h.2.1.sublist hd⟩,?_⟩;rintro a ha c hc rfl;rcases AE.1 hc with rfl|hc
  .exact hx (AZ ha)
  .exact h.2.2 _ ha _ (hd.subset hc) rfl
 .exact h
def cT{U Z:Type}(f:U->Z)(l:List U)(k:Nat)(x:U):(l.take k++x::l.drop k).map f=(l.map f).take k++f x::(l.map f).drop k:=AB
def Ey.aAb(o:Ey b){i:Item}{k:Nat}(h1:b.a.has i.node/\(b.a.nd i.node).kind=4/\(b.a.nd i.node).A9=i.A9/\(b.a.nd i.node).name=i.name)(h2:i.node∉b.Au.map Item.node):Ey {b with Au:=b.Au.take k++i::b.Au.drop k}:=by
 refine⟨o.ok,o.BM,?_,by show((b.Au.take k++i::b.Au.drop k).map Item.node).Nodup;rw[cT];exact pt o.lH h2,o.ac,o.uw⟩;intro j hj;rcases An.1 hj with hj|hj
 .exact o.op j (AZ hj)
 .rcases AE.1 hj with rfl|hj
  .exact h1
  .exact o.op j (AY hj)
def Ey.zx(o:Ey b){i:Item}{k:Nat}(h1:b.a.has i.node/\(b.a.nd i.node).kind=4/\(b.a.nd i.node).A9=i.A9/\(b.a.nd i.node).name=i.name)(h2:i.node∉b.Au.map Item.node):Ey {b with Au:=b.Au.set k i}:=by
 refine⟨o.ok,o.BM,?_,by show((b.Au.set k i).map Item.node).Nodup;rw[JJ];exact tR o.lH h2,o.ac,o.uw⟩;intro j hj;rcases DA hj with hj|rfl
 .exact o.op j hj
 .exact h1
def zy{l:List Int}{k:Nat}{x:Int}(h:(l.filter λn=>decide (n≠0)).Nodup)(hx:x∉l):((l.take k++x::l.drop k).filter λn=>decide (n≠0)).Nodup:=by
 have e:=Br k l;rw[<-e,Bc,BW] at h;rw[Bc,BW];by_cases h0:x=0;.subst h0;simpa using h
 .rw[Du (by simpa using h0)];refine⟨h.1,B6.2 ⟨λh1=>hx (AY ((BD.1 h1).1)),h.2.1⟩,?_⟩;rintro a ha c hc rfl;rcases AE.1 hc with rfl|hc
  .exact hx (AZ (BD.1 ha).1)
  .exact h.2.2 _ ha _ hc rfl
def z_{l:List Int}{k:Nat}{x:Int}(h:(l.filter λn=>decide (n≠0)).Nodup)(hx:x∉l):((l.set k x).filter λn=>decide (n≠0)).Nodup:=by
 rw[B7];split
 .have h2:(((l.take k++l.drop (k+1))).filter λn=>decide (n≠0)).Nodup:=h.sublist ((show List.Sublist (Bx l k) l from CL).filter _);rw[Bc,BW] at h2⊢;by_cases h0:x=0;.subst h0;simpa using h2
  .rw[Du (by simpa using h0)];refine⟨h2.1,B6.2 ⟨λh1=>hx (AY ((BD.1 h1).1)),h2.2.1⟩,?_⟩;rintro a ha c hc rfl;rcases AE.1 hc with rfl|hc
   .exact hx (AZ (BD.1 ha).1)
   .exact h2.2.2 _ ha _ hc rfl
 .exact h
def Ey.aDV(o:Ey b){e:Ck}{k:Nat}(h1:e.node=0\/(b.a.has e.node/\(b.a.nd e.node).kind=4))(h2:e.node=0\/e.node∉b.A4.map Ck.node):Ey {b with A4:=b.A4.take k++e::b.A4.drop k}:=by
 refine⟨o.ok,o.BM,o.op,o.lH,?_,?_⟩
 .intro j hj;rcases An.1 hj with hj|hj
  .exact o.ac j (AZ hj)
  .rcases AE.1 hj with rfl|hj
   .exact h1
   .exact o.ac j (AY hj)
 .show(((b.A4.take k++e::b.A4.drop k).map Ck.node).filter _).Nodup;rw[cT];rcases h2 with h2|h2
  .have:=o.uw;conv at this=>rw[<-Br k (b.A4.map Ck.node),Bc]
   rw[Bc,Dv (by simp[h2])];exact this
  .exact zy o.uw h2
def Ey.A_(o:Ey b){e:Ck}{k:Nat}(h1:b.a.has e.node/\(b.a.nd e.node).kind=4)(h2:e.node∉b.A4.map Ck.node):Ey {b with A4:=b.A4.set k e}:=by
 refine⟨o.ok,o.BM,o.op,o.lH,?_,?_⟩
 .intro j hj;rcases DA hj with hj|rfl
  .exact o.ac j hj
  .exact .inr h1
 .show(((b.A4.set k e).map Ck.node).filter _).Nodup;rw[JJ];exact z_ o.uw h2
def YF(o:Ey b):Ey (b.Cu nm at_ sp):=by
 unfold BS.Cu;split
 .rename_i hs;obtain⟨c,f,hl⟩:=P5 (nm:=nm) (at_:=at_) (p:=(b.place 0).1) o hs;have d:=c.IP (Pz (n:=b.a.len+1) (p:=(b.place 0).1) (b:=(b.place 0).2) c.ok) Jr;have hn:(b.HQ nm at_ sp).node=b.a.len+1:=by unfold BS.HQ;rw[Af hs]
  have l2:Le (b.Gm nm at_ sp (b.place 0).1).a ((b.Gm nm at_ sp (b.place 0).1).a.E1 (b.a.len+1) (b.place 0).1 (b.place 0).2):=Jr;have ho:(b.Gm nm at_ sp (b.place 0).1).Au=b.Au:=by unfold BS.Gm;rw[Af hs]
  have:=d.aAb (i:=b.HQ nm at_ sp) (k:=b.Au.length) ⟨l2.has _ f.has,by rw[l2.kind _ f.has];exact f.kind,by rw[l2.A9 _ f.has];exact f.A9,by rw[l2.name _ f.has];exact f.name⟩ (by simp only[ho];exact Rt o f);simp only[ho,Bk,Ft] at this;simp only[ho];exact this
 .exact o
def TL{l:List Ck}{e:Ck}:∃l',List.Sublist l' l/\n8 e l=l'++[e]:=by
 unfold n8;split;.exact⟨_,CL,rfl⟩
 .exact⟨_,BQ _,rfl⟩
def PC:Le b.a (b.Cu nm at_ sp).a:=by
 unfold BS.Cu BS.Gm;split;.exact Le.trans WM Jr
 .exact .refl
def YG(hs:BS.L6 sp):(b.Cu nm at_ sp).a.has (b.a.len+1)/\((b.Cu nm at_ sp).a.nd (b.a.len+1)).kind=4:=by
 unfold BS.Cu BS.Gm;rw[Af hs];simp only
 rw[Af hs];have hn:=QL (A:=b.a) (d:=b.KL (b.place 0).1) (sp:=sp) (nm:=BS.MM sp nm) (l:=at_.map (D2 sp));exact⟨Jr.has _ hn.1,by rw[Jr.kind _ hn.1];exact hn.2.1⟩
def HS:(b.Cu nm at_ sp).A4=b.A4:=by unfold BS.Cu BS.Gm;split<;>rfl
def YH:(b.Cu nm at_ sp).BM=b.BM:=by unfold BS.Cu BS.Gm;split<;>rfl
def Kw:BS.L6 1:=⟨AA,AA⟩
def aAc(o:Ey b):b.a.len+1∉b.A4.map Ck.node:=by
 intro h;obtain⟨j,hj,e⟩:=A7.1 h;rcases o.ac j hj with h1|h1
 .unfold Ar.len at e;omega
 .exact Pu (e▸h1.1)
def cU(o:Ey b):Ey (b.Er nm at_):=by
 have d:=YF (nm:=nm) (at_:=at_) (sp:=1) o;unfold BS.Er;simp only
 obtain⟨l',h1,h2⟩:=TL (l:=(b.Cu nm at_ 1).A4) (e:=⟨b.a.len+1,nm,at_⟩);rw[h2];have c:=d.gN h1;have:=c.aDV (e:=⟨b.a.len+1,nm,at_⟩) (k:=l'.length) (.inr (YG Kw)) (.inr (by intro h;rw[HS] at h1;exact aAc o ((h1.map Ck.node).subset h)))
 simpa using this
def Ey.of_eq{c:BS}(o:Ey b)(h1:c.a=b.a)(h2:c.BM=b.BM)(h3:c.Au=b.Au)(d:c.A4=b.A4):Ey c:=
 ⟨h1▸o.ok,by rw[h1,h2];exact o.BM,by rw[h1,h3];exact o.op,by rw[h3];exact o.lH,by rw[h1,d];exact o.ac,by rw[d];exact o.uw⟩
def tS{l:List Int}{bf t:Int}(h:UM l bf=some t):t∈l:=by
 unfold UM at h;split at h;.exact aKZ h
 .exact(List.takeWhile_sublist _).subset (aKZ h)
def cV{A:Ar}{s:Ah}{p bf:Int}(ok:EA A 0)(hp:A.has p):EA (BS.QK A s p bf) 0/\Le A (BS.QK A s p bf):=by
 have h0:(0:Int)≠A.len+1:=by unfold Ar.len;omega
 have ha:=Pz (n:=A.len+1) (p:=p) (b:=bf) (TJ (s:=s) (kd:=5) ok h0 (ok.BM p hp) (.inl rfl));have hl:Le A ((A.add {kind:=5,BM:=(A.nd p).BM,data:=s}).E1 (A.len+1) p bf):=Le.trans Px Jr;unfold BS.QK;split
 .split
  .rename_i t ht;split;.rename_i hk;exact⟨tP ok (ok.N7 p hp _ (tS ht)).1 (.inl hk),tQ⟩
   .exact⟨ha,hl⟩
  .exact⟨ha,hl⟩
 .exact⟨ok,.refl⟩
def yN(o:Ey b){r:Int}:Ey (b.Kx r):=by have h:=cV (s:=Nc r) (bf:=(b.place 0).2) o.ok (TK o (.inl rfl)).1;exact o.IP h.1 h.2
def MN{A:Ar}{s:Ah}{p bf:Int}(ok:EA A 0):EA (BS.HR A s p bf) 0/\Le A (BS.HR A s p bf):=by
 unfold BS.HR;split
 .rename_i hk;have hp:A.has p:=by
   by_cases hp:A.has p;.exact hp
   .rw[OH hp] at hk;unfold NR at hk;simp at hk
  have h0:(0:Int)≠A.len+1:=by unfold Ar.len;omega
  exact⟨Pz (TJ (s:=s) (kd:=6) ok h0 (ok.BM p hp) (.inr rfl)),Le.trans Px Jr⟩
 .exact⟨ok,.refl⟩
def YI(o:Ey b){s:Ah}{p:Int}:Ey (b.DB s p):=by
 unfold BS.DB;split;.have h:=MN (s:=s) (p:=(b.place 0).1) (bf:=(b.place 0).2) o.ok;exact o.IP h.1 h.2
 .have h:=MN (s:=s) (p:=p) (bf:=0) o.ok;exact o.IP h.1 h.2
def cW(o:Ey b):Ey (b.CV nm):=by
 unfold BS.CV;split
 .split;.exact o.Ky (I6.trans Dd)
  .exact o
 .exact o
def oA(o:Ey b){l:List Be}{h:Int}:Ey (b.FD l h):=by
 unfold BS.FD;split
 .rename_i hk;have d:b.a.has h:=by
   by_cases hp:b.a.has h;.exact hp
   .rw[OH hp] at hk;simp at hk
  refine o.IP (n9 o.ok d hk ?_) QM;intro a ha;rcases An.1 ha with ha|ha
  .exact(o.ok.TH h d).zn a ha
  .obtain⟨c,_,rfl⟩:=A7.1 ha;simp
 .exact o
def aDW(o:Ey b):Ey b.FY:=by
 unfold BS.FY;split;.exact o
 .exact o.Ky (Cf _ _)
structure aIJ(b:BS)(l:List Ck)(r:List Ck×BS):Prop where
 ok:Ey r.2
 le:Le b.a r.2.a
 A4:r.2.A4=b.A4
 len:r.1.length=l.length
 nodes:∀e∈r.1,r.2.a.has e.node/\(r.2.a.nd e.node).kind=4/\¬b.a.has e.node
 aB6:(r.1.map Ck.node).Nodup
 aIK:r.1.map Ck.name=l.map Ck.name
def yO:∀{l:List Ck} {b:BS},Ey b->aIJ b l (BS.JG l b)
 |[],b,o=>by
  refine⟨o,.refl,rfl,rfl,?_,?_,rfl⟩;.intro e he;cases he
  .exact ĳ
 |e::l,b,o=>by
  have d:=YF (nm:=e.name) (at_:=e.As) (sp:=1) o;have r:=yO (l:=l) d;have hl:Le b.a (b.Cu e.name e.As 1).a:=PC;have hn:=YG (b:=b) (nm:=e.name) (at_:=e.As) Kw;refine⟨r.ok,hl.trans r.le,r.A4.trans HS,by simp[BS.JG,r.len],?_,?_,by simp[BS.JG,r.aIK]⟩
  .intro c hc;rcases AE.1 hc with rfl|hc
   .exact⟨r.le.has _ hn.1,(r.le.kind _ hn.1).trans hn.2,Pu⟩
   .have:=r.nodes c hc;exact⟨this.1,this.2.1,λh=>this.2.2 (hl.has _ h)⟩
  .simp only[BS.JG,Bj,B6];refine⟨λh=>?_,r.aB6⟩;obtain⟨c,hc,f⟩:=A7.1 h;exact(r.nodes c hc).2.2 (f▸hn.1)
def YJ(o:Ey b):Ey b.AL:=by
 have r:=yO (l:=b.A4.drop b.NA) o;unfold BS.AL;simp only
 have hc:=WN r.le o.ac;refine⟨r.ok.ok,r.ok.BM,r.ok.op,r.ok.lH,?_,?_⟩
 .intro e he;rcases An.1 he with he|he
  .exact hc e (AZ he)
  .exact .inr ⟨(r.nodes e he).1,(r.nodes e he).2.1⟩
 .show(((b.A4.take b.NA++(BS.JG (b.A4.drop b.NA) b).1).map Ck.node).filter _).Nodup;rw[Cg,Bc,BW];refine⟨o.uw.sublist (((Cf _ _).map _).filter _),r.aB6.filter _,?_⟩;rintro a ha c Mn rfl;obtain⟨i,h1,rfl⟩:=A7.1 (BD.1 ha).1;obtain⟨g,h2,f⟩:=A7.1 (BD.1 Mn).1;have h3:=(r.nodes g h2);rw[f] at h3;rcases o.ac i (AZ h1) with d|d
  .have:=h3.1.1;omega
  .exact h3.2.2 d.1
def OK(o:Ey b){blk anc:Int}{far i:Nat}{l:Int}{m:Nat}(hl:b.a.has l):Ey (BS.Gi blk anc far i b l m).1/\(BS.Gi blk anc far i b l m).1.a.has (BS.Gi blk anc far i b l m).2.1/\Le b.a (BS.Gi blk anc far i b l m).1.a:=by
 unfold BS.Gi;simp only
 split;.exact⟨o.Ky CL,hl,.refl⟩
 .split;.exact⟨(o.gN CL).Ky CL,hl,.refl⟩
  .generalize Ru:b.A4.getD (FL (b.Au.getD i Item.zero).node b.A4).toNat Ck.zero=en;obtain⟨c,f,EU⟩:=P5 (nm:=en.name) (at_:=en.As) (p:=anc) o Kw;have l2:Le (b.Gm en.name en.As 1 anc).a ((b.Gm en.name en.As 1 anc).a.GC (b.HQ en.name en.As 1).node l 0):=Hi;have NH:(b.Gm en.name en.As 1 anc).Au=b.Au:=by unfold BS.Gm;rw[Af Kw]
   have oB:(b.Gm en.name en.As 1 anc).A4=b.A4:=by unfold BS.Gm;rw[Af Kw]
   have j:=c.IP (NT (p:=(b.HQ en.name en.As 1).node) (n:=l) (b:=0) c.ok) l2;have g:=j.zx (i:=b.HQ en.name en.As 1) (k:=i) ⟨l2.has _ f.has,by rw[l2.kind _ f.has];exact f.kind,by rw[l2.A9 _ f.has];exact f.A9,by rw[l2.name _ f.has];exact f.name⟩ (by simp only[NH];exact Rt o f);have d:=g.A_ (e:={en with node:=(b.HQ en.name en.As 1).node}) (k:=(FL (b.Au.getD i Item.zero).node b.A4).toNat) ⟨l2.has _ f.has,by rw[l2.kind _ f.has];exact f.kind⟩ (by simp only[oB];exact UO o f);exact⟨d,l2.has _ f.has,EU.trans l2⟩
def gO{blk anc:Int}{far k:Nat}:∀{c:Nat} {s:BS×Int×Nat},Ey s.1->s.1.a.has s.2.1->Ey (BS.Nf blk anc far k c s).1/\(BS.Nf blk anc far k c s).1.a.has (BS.Nf blk anc far k c s).2.1/\Le s.1.a (BS.Nf blk anc far k c s).1.a
 |0,s,o,h=>⟨o,h,.refl⟩
 |c+1,s,o,h=>by obtain⟨f,h1,l1⟩:=OK (blk:=blk) (anc:=anc) (far:=far) (i:=k+(c+1)) (m:=s.2.2) o h;obtain⟨d,h2,l2⟩:=gO (blk:=blk) (anc:=anc) (far:=far) (k:=k) (c:=c) f h1;exact⟨d,h2,l1.trans l2⟩
def Kq{n:Int}:∀{l:List Int} {A:Ar},EA A 0->EA (BS.Dz A n l) 0/\Le A (BS.Dz A n l)
 |[],A,ok=>⟨ok,.refl⟩
 |x::l,A,ok=>by have h:=Kq (n:=n) (l:=l) (NT (p:=n) (n:=x) (b:=0) ok);exact⟨h.1,Le.trans Hi h.2⟩
def UP{fe:Ck}{blk anc:Int}{s:BS×Int×Nat}(o:Ey s.1):Ey (BS.IG fe blk anc s)/\Le s.1.a (BS.IG fe blk anc s).a:=by
 unfold BS.IG;simp only
 generalize ux:s.1.place anc=pb;have l1:Le s.1.a (s.1.a.E1 s.2.1 pb.1 pb.2):=Jr;have d:=o.IP (Pz (n:=s.2.1) (p:=pb.1) (b:=pb.2) o.ok) l1;generalize Qb:({s.1 with a:=s.1.a.E1 s.2.1 pb.1 pb.2}:BS)=b2 at d;have UB:b2.a=s.1.a.E1 s.2.1 pb.1 pb.2:=by rw[<-Qb]
 have mF:b2.Au=s.1.Au:=by rw[<-Qb]
 have Mn:b2.A4=s.1.A4:=by rw[<-Qb]
 obtain⟨m,f,l3⟩:=P5 (nm:=fe.name) (at_:=fe.As) (p:=blk) d Kw;have NH:(b2.Gm fe.name fe.As 1 blk).Au=b2.Au:=by unfold BS.Gm;rw[Af Kw]
 have oB:(b2.Gm fe.name fe.As 1 blk).A4=b2.A4:=by unfold BS.Gm;rw[Af Kw]
 generalize w:b2.Gm fe.name fe.As 1 blk=b3 at*;generalize hn:b2.HQ fe.name fe.As 1=n at*;obtain⟨j,l4⟩:=Kq (n:=n.node) (l:=(b3.a.nd blk).Bm) m.ok;have g:=NT (p:=blk) (n:=n.node) (b:=0) j;have c:Le b3.a ((BS.Dz b3.a n.node (b3.a.nd blk).Bm).GC blk n.node 0):=l4.trans Hi;have r:=m.IP g c;have fr:((BS.Dz b3.a n.node (b3.a.nd blk).Bm).GC blk n.node 0).has n.node/\(((BS.Dz b3.a n.node (b3.a.nd blk).Bm).GC blk n.node 0).nd n.node).kind=4/\(((BS.Dz b3.a n.node (b3.a.nd blk).Bm).GC blk n.node 0).nd n.node).A9=n.A9/\(((BS.Dz b3.a n.node (b3.a.nd blk).Bm).GC blk n.node 0).nd n.node).name=n.name:=
  ⟨c.has _ f.has,by rw[c.kind _ f.has];exact f.kind,by rw[c.A9 _ f.has];exact f.A9,by rw[c.name _ f.has];exact f.name⟩
 have q:=(r.gN (l:=Bx b3.A4 (FL fe.node b3.A4).toNat) CL).Ky (l:=Ce fe.node b3.Au) EI;have v:n.node∉(Ce fe.node b3.Au).map Item.node:=λh=>Rt d f ((EI.map Item.node).subset (by rw[NH] at h;exact h));have u:n.node∉(Bx b3.A4 (FL fe.node b3.A4).toNat).map Ck.node:=λh=>UO d f ((CL.map Ck.node).subset (by rw[oB] at h;exact h));refine⟨(q.aAb (i:=n) fr v).aDV (e:={fe with node:=n.node}) (.inr ⟨fr.1,fr.2.1⟩) (.inr u),?_⟩;rw[UB] at l3;exact l1.trans (l3.trans c)
def YK(o:Ey b):Ey (b.round nm).2/\Le b.a (b.round nm).2.a:=by
 have d:Le b.a (b.CV nm).a:=by
  unfold BS.CV;split;.split<;>exact .refl
  .exact .refl
 unfold BS.round;simp only
 split;.exact⟨cW o,d⟩
 .split;.exact⟨o.gN CL,.refl⟩
  .split;.exact⟨o,.refl⟩
   .split;.exact⟨(o.Ky I6).gN CL,.refl⟩
    .rename_i hf;have aTF:Eb (b.A4.getD (DS nm b.A4).toNat Ck.zero).node b.Au<b.Au.length:=by
      rw[L4];split;.omega
      .unfold Gl;split;.rename_i k hk;have:=(LK.1 hk).1;rw[AX] at this;omega
       .omega
     have hb:b.a.has (b.Au.getD (Eb (b.A4.getD (DS nm b.A4).toNat Ck.zero).node b.Au).toNat Item.zero).node:=by rw[AJ,Av Ab];exact(o.op _ (AF _)).1
     obtain⟨f,h1,l1⟩:=gO (blk:=(b.Au.getD (Eb (b.A4.getD (DS nm b.A4).toNat Ck.zero).node b.Au).toNat Item.zero).node) (anc:=(b.Au.getD ((AD (Bt (b.A4.getD (DS nm b.A4).toNat Ck.zero).node) b.Au).toNat-1) Item.zero).node) (far:=(Eb (b.A4.getD (DS nm b.A4).toNat Ck.zero).node b.Au).toNat) (k:=(AD (Bt (b.A4.getD (DS nm b.A4).toNat Ck.zero).node) b.Au).toNat) (c:=(Eb (b.A4.getD (DS nm b.A4).toNat Ck.zero).node b.Au).toNat-1 -(AD (Bt (b.A4.getD (DS nm b.A4).toNat Ck.zero).node) b.Au).toNat) (s:=(b,(b.Au.getD (Eb (b.A4.getD (DS nm b.A4).toNat Ck.zero).node b.Au).toNat Item.zero).node,(DS nm b.A4).toNat)) o hb;have r:=UP (fe:=b.A4.getD (DS nm b.A4).toNat Ck.zero) (blk:=(b.Au.getD (Eb (b.A4.getD (DS nm b.A4).toNat Ck.zero).node b.Au).toNat Item.zero).node) (anc:=(b.Au.getD ((AD (Bt (b.A4.getD (DS nm b.A4).toNat Ck.zero).node) b.Au).toNat-1) Item.zero).node) f;exact⟨r.1,l1.trans r.2⟩
def cX:∀{n:Nat} {b:BS},Ey b->Ey (BS.Gd n b nm)/\Le b.a (BS.Gd n b nm).a
 |0,b,o=>⟨o,.refl⟩
 |n+1,b,o=>by
  obtain⟨c,l1⟩:=YK (nm:=nm) o;unfold BS.Gd;simp only
  split;.have r:=cX (n:=n) c;exact⟨r.1,l1.trans r.2⟩
  .exact⟨c,l1⟩
def cY(o:Ey b):Ey (b.C1 nm):=by
 unfold BS.C1;split;.exact aDW o
 .exact(cX o).1
end
structure NB(A:Ar):Prop where
 n:A.n.length<=1000000000
 at_:∀x,(A.nd x).As.length<=1000000000
 data:∀x,(A.nd x).data.length<=1000000000
def GD(l:List Be):Prop:=l.length<=1000/\∀a∈l,a.name.length<=1000/\a.value.length<=1000
structure CK(b:BS)(m:Nat):Prop where
 n:b.a.n.length+m<=900000000
 at_:∀x,(b.a.nd x).As.length+m<=1000000000
 data:∀x,(b.a.nd x).data.length+m<=1000000000
 Au:b.Au.length+m<=900000000
 A4:b.A4.length+m<=900000000
 tm:b.tm.length+m<=900000000
 Ep:∀e∈b.A4,e.name.length<=1000/\GD e.As
 tT:∀i∈b.Au,i.name.length<=1000
def CK.Wk{b:BS}{m:Nat}(r:CK b m):NB b.a:=⟨by have:=r.n;omega,λx=>by have:=r.at_ x;omega,λx=>by have:=r.data x;omega⟩
def CK.le{b:BS}{m m':Nat}(r:CK b m)(hm:m'<=m):CK b m':=⟨by have:=r.n;omega,λx=>by have:=r.at_ x;omega,λx=>by have:=r.data x;omega,by have:=r.Au;omega,by have:=r.A4;omega,by have:=r.tm;omega,r.Ep,r.tT⟩
def pv{sp:Int}{y:Be}:(D2 sp y).value=y.value:=by
 unfold D2;split;.split<;>rfl
 .rfl
structure Oa(A A':Ar):Prop where
 n:A'.n.length=A.n.length
 at_:∀x,(A'.nd x).As=(A.nd x).As
 data:∀x,(A'.nd x).data=(A.nd x).data
section
variable{A A' A'':Ar}{x p bf:Int}{b:BS}{m:Nat}
def Oa.refl:Oa A A:=⟨rfl,λ_=>rfl,λ_=>rfl⟩
def Oa.trans(h:Oa A A')(k:Oa A' A''):Oa A A'':=⟨k.n.trans h.n,λx=>(k.at_ x).trans (h.at_ x),λx=>(k.data x).trans (h.data x)⟩
def TM{y:HP}(h1:y.As=(A.nd x).As)(h2:y.data=(A.nd x).data):Oa A (A.set x y):=by
 refine⟨JT,λk=>?_,λk=>?_⟩<;>rw[Ka]<;>split;.rename_i e;rw[h1,e.1]
 .rfl
 .rename_i e;rw[h2,e.1]
 .rfl
def UQ{l:List Int}:Oa A (A.set x {A.nd x with Bm:=l}):=TM rfl rfl
def UR:Oa A (A.set x {A.nd x with GR:=p}):=TM rfl rfl
def Lv:Oa A (A.GC p x bf):=by
 unfold Ar.GC;split
 .refine Oa.trans ?_ (Oa.trans UQ UR);unfold Ar.cut;simp only;split;.exact .refl
  .exact Oa.trans UQ UR
 .exact .refl
def OL:Oa A (A.E1 x p bf):=by unfold Ar.E1;split;exact .refl;exact Lv
def R2{n:Int}:∀{l:List Int} {A:Ar},Oa A (BS.Dz A n l)
 |[],A=> .refl
 |y::l,A=>Oa.trans Lv (R2 (l:=l))
def CK.same{c:BS}(r:CK b m)(h:Oa b.a c.a)(h1:c.Au.length<=b.Au.length)(h2:c.A4.length<=b.A4.length)(h3:c.tm.length<=b.tm.length)(f:∀e∈c.A4,e.name.length<=1000/\GD e.As)(d:∀i∈c.Au,i.name.length<=1000):CK c m:=
 ⟨by rw[h.n];exact r.n,λx=>by rw[h.at_];exact r.at_ x,λx=>by rw[h.data];exact r.data x,by have:=r.Au;omega,by have:=r.A4;omega,by have:=r.tm;omega,f,d⟩
def CK.IP{A':Ar}(r:CK b m)(h:Oa b.a A'):CK {b with a:=A'} m:=r.same h (Ad _) (Ad _) (Ad _) r.Ep r.tT
def CK.Ky{l:List Item}(r:CK b m)(h:List.Sublist l b.Au):CK {b with Au:=l} m:=r.same .refl h.length_le (Ad _) (Ad _) r.Ep λi hi=>r.tT i (h.subset hi)
def CK.eq{c:BS}(r:CK b m)(h1:c.a=b.a)(h2:c.Au=b.Au)(h3:c.A4=b.A4)(d:c.tm=b.tm):CK c m:=⟨by rw[h1];exact r.n,by rw[h1];exact r.at_,by rw[h1];exact r.data,by rw[h2];exact r.Au,by rw[h3];exact r.A4,by rw[d];exact r.tm,by rw[h3];exact r.Ep,by rw[h2];exact r.tT⟩
structure US(A A':Ar)(k:Nat):Prop where
 n:A'.n.length<=A.n.length+k
 at_:∀x,(A'.nd x).As.length<=max (A.nd x).As.length 1000
 data:∀x,(A'.nd x).data.length<=max (A.nd x).data.length 100000
def L7{y:HP}(h1:y.As.length<=1000)(h2:y.data.length<=100000):US A (A.add y) 1:=by refine⟨by simp[Ar.add],λx=>?_,λx=>?_⟩<;>rw[Kb]<;>split<;>omega
def US.trans{k k':Nat}(h:US A A' k)(g:US A' A'' k'):US A A'' (k+k'):=
 ⟨by have:=h.n;have:=g.n;omega,λx=>by have:=h.at_ x;have:=g.at_ x;omega,λx=>by have:=h.data x;have:=g.data x;omega⟩
def US.le{k k':Nat}(h:US A A' k)(hk:k<=k'):US A A' k':=⟨by have:=h.n;omega,h.at_,h.data⟩
def px(h:Oa A A'):US A A' 0:=⟨by rw[h.n];exact Ad _,λx=>by rw[h.at_];omega,λx=>by rw[h.data];omega⟩
def tU:US A (A.Fg x) 1:=by
 unfold Ar.Fg;split;.exact(px .refl).le Ab
 .have:=L7 (A:=A) (y:={kind:=1,BM:=A.len+1}) (Bp _) (Bp _);exact⟨this.n,this.at_,this.data⟩
def B_{y:HP}(h1:y.As.length<=1000)(h2:y.data.length<=100000):US A (A.set x y) 0:=by refine⟨by rw[JT];exact Ad _,λx=>?_,λx=>?_⟩<;>rw[Ka]<;>split<;>omega
def py{d sp:Int}{nm:Ah}{l:List Be}(hl:l.length<=1000):US A (A.elem d sp nm l) 3:=by
 have ho:=Bv (TG (l:=l)) hl;have g1:=L7 (A:=A) (y:={kind:=4,BM:=d,A9:=sp,name:=nm,As:=Dt l}) ho (Bp _);unfold Ar.elem;simp only
 split;.have g2:=tU (A:=A.add {kind:=4,BM:=d,A9:=sp,name:=nm,As:=Dt l}) (x:=d);have g3:=L7 (A:=(A.add {kind:=4,BM:=d,A9:=sp,name:=nm,As:=Dt l}).Fg d) (y:={kind:=2,Fm:=A.len+1,BM:=(A.add {kind:=4,BM:=d,A9:=sp,name:=nm,As:=Dt l}).ID d}) (Bp _) (Bp _);exact g1.trans (k':=2) (g2.trans (k':=1) (g3.trans (k':=0) (B_ ho (Bp _))))
 .exact g1.le Ab
def CK.GL{A':Ar}{k:Nat}(r:CK b (m+k))(h:US b.a A' k):CK {b with a:=A'} m:=
 ⟨by have:=r.n;have:=h.n;simp only;omega,λx=>by have:=r.at_ x;have:=h.at_ x;have:=r.n;simp only;omega,λx=>by have:=r.data x;have:=h.data x;have:=r.n;simp only;omega,by have:=r.Au;simp only;omega,by have:=r.A4;simp only;omega,by have:=r.tm;simp only;omega,r.Ep,r.tT⟩
def C_{sp:Int}{nm:Ah}:(BS.MM sp nm).length=nm.length:=by
 unfold BS.MM;split
 .rcases P4 nm OD with h|h
  .rw[h]
  .conv=>rhs;rw[<-h.2,gH]
 .rfl
variable{nm:Ah}{l:List Be}{sp:Int}
def Rv(r:CK b (m+3))(hl:GD l):CK (b.Gm nm l sp p) m:=by
 unfold BS.Gm;split;.exact r.GL (py (by rw[Aw];exact hl.1))
 .exact r.le Ab
def TN(hn:nm.length<=1000):(b.HQ nm l sp).name.length<=1000:=by
 unfold BS.HQ;split;.show(BS.MM sp nm).length<=1000;rw[C_];exact hn
 .exact Bp _
def CK.aB7{i:Item}{l':List Item}(r:CK b (m+1))(h1:l'.length<=b.Au.length+1)(h2:∀j∈l',j∈b.Au\/j=i)(hi:i.name.length<=1000):CK {b with Au:=l'} m:=
 ⟨by have:=r.n;simp only;omega,λx=>by have:=r.at_ x;simp only;omega,λx=>by have:=r.data x;simp only;omega,by have:=r.Au;simp only;omega,by have:=r.A4;simp only;omega,by have:=r.tm;simp only;omega,r.Ep,λj hj=>by
  rcases h2 j hj with h|rfl
  .exact r.tT j h
  .exact hi⟩
def CK.aB8{e:Ck}{l':List Ck}(r:CK b (m+1))(h1:l'.length<=b.A4.length+1)(h2:∀j∈l',j∈b.A4\/j=e)(hi:e.name.length<=1000/\GD e.As):CK {b with A4:=l'} m:=
 ⟨by have:=r.n;simp only;omega,λx=>by have:=r.at_ x;simp only;omega,λx=>by have:=r.data x;simp only;omega,by have:=r.Au;simp only;omega,by have:=r.A4;simp only;omega,by have:=r.tm;simp only;omega,λj hj=>by
  rcases h2 j hj with h|rfl
  .exact r.Ep j h
  .exact hi,r.tT⟩
def QN(r:CK b (m+4))(hl:GD l)(hn:nm.length<=1000):CK (b.Cu nm l sp) m:=by
 unfold BS.Cu;split
 .rename_i hs;have c:=Rv (m:=m+1) (nm:=nm) (sp:=sp) (p:=(b.place 0).1) (r.le Ab) hl;have r2:=c.IP (OL (x:=b.a.len+1) (p:=(b.place 0).1) (bf:=(b.place 0).2));have ho:(b.Gm nm l sp (b.place 0).1).Au=b.Au:=by unfold BS.Gm;rw[Af hs]
  refine r2.aB7 (i:=b.HQ nm l sp) (by simp only[Ao,AS];exact Ad _) (λj hj=>?_) (TN hn);rcases An.1 hj with h|h
  .exact .inl h
  .exact .inr (by simpa using h)
 .exact r.le Ab
def oC(r:CK b (m+5))(hl:GD l)(hn:nm.length<=1000):CK (b.Er nm l) m:=by
 have c:=QN (m:=m+1) (sp:=1) (nm:=nm) (r.le Ab) hl hn;unfold BS.Er;simp only
 obtain⟨l',h1,h2⟩:=TL (l:=(b.Cu nm l 1).A4) (e:=⟨b.a.len+1,nm,l⟩);rw[h2];refine c.aB8 (e:=⟨b.a.len+1,nm,l⟩) (by have:=h1.length_le;simp;omega) (λj hj=>?_) ⟨hn,hl⟩;rcases An.1 hj with h|h
 .exact .inl (h1.subset h)
 .exact .inr (by simpa using h)
end
end Go.Am
end
