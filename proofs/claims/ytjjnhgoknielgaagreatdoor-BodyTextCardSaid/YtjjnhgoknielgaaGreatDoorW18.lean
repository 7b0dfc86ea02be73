/- Lemmas -/
import Derived.Test.YtjjnhgoknielgaaGreatDoorW17
set_option linter.all false
noncomputable section
set_option maxRecDepth 100000
section
namespace Go.Am
open Go
section
section
variable{U:Type}{z:Nat}
def IB{Ay:List (List U)}(h:∀r∈Ay,r.length=z):Ay.flatten.length=Ay.length*z:=by
 induction Ay with
 |nil=>simp
 |cons q Ay ih=>rw[CS,An,h q AB,ih λr hr=>h r (by simp[hr]),AJ,BK];omega
def dK{Ay:List (List U)}(h:∀r∈Ay,r.length=z):∀{k:Nat},Ay.flatten.take (k*z)=(Ay.take k).flatten:=by
 induction Ay with
 |nil=>intro k;simp
 |cons q Ay ih=>
  intro k;have hq:=h q AB;cases k with
  |zero=>simp
  |succ k=>rw[CS,BK,EW,Qn,yD,Bf Ac,hq,Uy,ih λr hr=>h r (by simp[hr])];simp
def JG{Ay:List (List U)}(h:∀r∈Ay,r.length=z):∀{k:Nat},Ay.flatten.drop (k*z)=(Ay.drop k).flatten:=by
 induction Ay with
 |nil=>intro k;simp
 |cons q Ay ih=>
  intro k;have hq:=h q AB;cases k with
  |zero=>simp
  |succ k=>rw[CS,BK,EW,Qn,Jv,AX Ac,hq,Uy,ih λr hr=>h r (by simp[hr])];simp
def o8{Ay:List (List U)}(h:∀r∈Ay,r.length=z){k:Nat}(hk:k<Ay.length)(q:List U):Ay.flatten.take (k*z)++q++Ay.flatten.drop (k*z+z)=(Ay.set k q).flatten:=by
 have e:k*z+z=(k+1)*z:=by rw[BK,EW]
 rw[e,dK h,JG h,Cc,Ae hk];simp
def dL{Ay:List (List Ab)}(h:∀r∈Ay,r.length=z):∀{n off:Nat},off+n<=Ay.length->CI Ay.flatten z (off*z) n=(Ay.drop off).take n:=by
 intro n;induction n with
 |zero=>intro off _;simp[CI]
 |succ n ih=>
  intro off hl;rw[CI];have e:off*z+z=(off+1)*z:=by rw[BK,EW]
  rw[e,ih Ac,JG h];have hlt:off<Ay.length:=Ac;rw[AA hlt,CS,Bk (by rw[h _ (AG hlt)];exact Ad _),Bf (by rw[h _ (AG hlt)];exact Ad _),LN]
def Ì{Ay:List (List Ab)}(h:∀r∈Ay,r.length=z):CI Ay.flatten z 0 Ay.length=Ay:=by have:=dL h (n:=Ay.length) (off:=0) Ac;simpa using this
end
section
variable{h:Ai}{id z n:Nat}{Ay:List (List Ab)}
def OP(hr:∀r∈Ay,r.length=z)(hc:h[id]?=some (.cells Ay.flatten)):L6 h (.Du id 0 Ay.length z)=some (h.set id .Ef,.sl z Ay):=by unfold L6;simp only[hc,BG];rw[Ae (by rw[IB hr];exact Ad _),Ì hr]
def JH{k:IntKind}{i:Nat}(hi:i<n):AE (.Hj z) [.Du id 0 n z,.int k (i:Int)]=some (.ptr (some (id,i*z))):=by
 have:M7 (i:Int) n=some i:=by unfold M7;rw[Ae Ac];rfl
 simp[AE,elemOf,this]
def VX(hr:∀r∈Ay,r.length=z)(hc:h[id]?=some (.cells Ay.flatten)){i:Nat}(hi:i<Ay.length){q:List Ab}(hq:q.length=z):Dd h z (.ptr (some (id,i*z))) (.agg q)=some (h.set id (.cells (Ay.set i q).flatten)):=by
 simp only[Dd,hc,RA];have:i*z+z<=Ay.flatten.length:=by rw[IB hr];have:=EA z (Ac:i+1<=Ay.length);rwa [BK,EW] at this
 rw[<-o8 hr hi];exact Ae ⟨hq,this⟩
def o9(hr:∀r∈Ay,r.length=z){i:Nat}{q:List Ab}(hq:q.length=z):∀r∈Ay.set i q,r.length=z:=by
 intro r h;rcases DC h with h|rfl
 .exact hr r h
 .exact hq
def OQ{U:Type}{f:U->List Ab}(hf:∀a,(f a).length=z)(l:List U):∀r∈l.map f,r.length=z:=by intro r h;obtain⟨a,_,rfl⟩:=A5.1 h;exact hf a
def QQ{s v:Ab}{b:Nat}(hs:s= .slnil\/s= .sl z [])(hv:Bx z Ay v)(hne:Ay≠[])(hb:Ay.length*b<=AY):Lp h z b s v=some (h++[.cells Ay.flatten],.Du h.length 0 Ay.length z):=by
 rcases hv with rfl|⟨rfl,hv⟩
 .cases Ay with
  |nil=>exact absurd rfl hne
  |cons r Ay=>rw[AJ] at hb;rcases hs with rfl|rfl<;>simp[Lp,Pj,hb]
 .exact absurd hv hne
def pA{s v:Ab}{b:Nat}(hs:s= .slnil\/s= .sl z [])(hv:Bx z [] v):Lp h z b s v=some (h,s):=by rcases hv with rfl|⟨rfl,hv⟩<;>rcases hs with rfl|rfl<;>simp[Lp,Pj]
def SH{v:Ab}{b:Nat}{r2:List (List Ab)}(hr:∀r∈Ay,r.length=z)(hz:0<z)(hc:h[id]?=some (.cells Ay.flatten))(hv:Bx z r2 v)(hne:r2≠[])(hb:(Ay.length+r2.length)*b<=AY):
  Hk h z b (.Du id 0 Ay.length z) v=some (h.set id .Ef++[.cells (Ay++r2).flatten],.Du h.length 0 (Ay.length+r2.length) z):=by
 rcases hv with rfl|⟨rfl,hv⟩
 .cases r2 with
  |nil=>exact absurd rfl hne
  |cons r r2=>
   have hl:=IB hr;have h1:¬(0+(Ay.length+(r::r2).length)*z<=Ay.flatten.length):=by rw[hl,AJ,BG,BK,BK];omega
   have h2:Ay.flatten.take (Ay.length*z)=Ay.flatten:=Bf (by rw[hl];exact Ad _);unfold Hk;simp only[Ij,BN,hc];rw[Aa h1,Ae ⟨trivial,by rw[hl];exact Ad _,hb⟩,h2,Qj]
 .exact absurd hv hne
end
end
section
section
end
def B2:List Ah:=[[97],[98],[98,105,103],[99,111,100,101],[101,109],aZM,[105],aYc,[115],aZD,aZr,aZs,[116,116],[117]]
def Fu:List Ah:=[[100,100],[100,116],[108,105],aYu,aX0,[112],[114,98],[114,112],[114,116],aY5]
def RC:List Ah:=[aYe,aYm,aYB,[116,100],aYy,[116,104],aYC,[116,114]]
def PE:List Ah:=[[109,105],[109,110],[109,111],[109,115],[109,116,101,120,116]]
def dM:List Ah:=[aZy,aYt,aX7]
section
end
def Dg:List Ah:=[[104,49],[104,50],[104,51],[104,52],[104,53],[104,54]]
def D5(k:Int)(s:Ah):Bool:=
 if k=3 then decide (s=aX5\/s∈PE) else if k=2 then decide (s∈dM) else if k=1 then decide (s∈TN) else false
def sw(s:Ah)(t e:IT):List Ah->IT
 |[]=>e
 |c::cs=> .op (.str .eql) [.str s,.str c] λv=> .A0 v t (sw s t e cs)
def Í{C:Gw}{Q:Lt}{h:Ai}{s:Ah}{t e:IT}:∀{cs:List Ah},W C (sw s t e cs) Q h↔(s∈cs->W C t Q h)/\(s∉cs->W C e Q h)
 |[]=>by simp[sw]
 |c::cs=>by
  simp only[sw,Yw,zR,Nk,ON,Yy,AF,P5];rw[Í];by_cases hc:s=c;.simp[hc]
  .simp[hc]
def RU{C:Gw}{f:FuncId}{args:List Ab}{r:Ab}:NL C f args r↔W C (Cf C f args) (λx vs _=>x= .ret/\vs=[r]) []:=by
 unfold NL Ev;constructor;.exact λh=>W.mono h λ_ _ _ ⟨h1,r,h2,h3⟩=>⟨h1,by rw[h2,h3]⟩
 .exact λh=>W.mono h λ_ _ _ ⟨h1,h2⟩=>⟨h1,r,h2,rfl⟩
section
variable{Q:Lt}{h:Ai}{k:Ab->IT}{s:Ah}
end
section
variable{Q:Lt}{h:Ai}{k:Ab->IT}{s:Ah}{n:Int}
end
end
section
def Î{s:Ah}{a n:Nat}(ha:a<=n)(hn:n<s.length):(s.take (n+1)).drop a=(s.take n).drop a++[s[n]]:=by rw[Bb hn,Pd EE]
end
section
section
variable{Q:Lt}{h:Ai}{k:Ab->IT}{s:Ah}
def OR:List Ah:=OO [] aXK
def OS:List Ah:=OO [] aXJ
def TO:List Ah:=[aXM,aX4,aXP]
def QR:List Ah:=[aYu,aX0]
def iA:List Ah:=[[111,108],[117,108]]
def PF:List Ah:=[aY6,aYe,aXM,aYX,aZa,aX4,[116,100],aXP,[116,104]]
end
section
variable{Q:Lt}{h:Ai}{k:Ab->IT}{s:Ah}{n:Int}
end
end
section
def Kz(c:UInt8):UInt8:=if 65<=c.toNat/\c.toNat<=90 then c+32 else c
def Fk(s:Ah):Ah:=s.map Kz
def iB{c:UInt8}(h:65<=c.toNat/\c.toNat<=90):((Kz c).toNat:Int)=(c.toNat:Int)+32:=by unfold Kz;rw[Ae h,UInt8.toNat_add];have:UInt8.toNat 32=32:=Az;rw[this];omega
def TP{c:UInt8}(h:¬(65<=c.toNat/\c.toNat<=90)):Kz c=c:=by unfold Kz;rw[Aa h]
def uV{s:Ah}{n:Nat}(hn:n<s.length):Fk (s.take (n+1))=Fk (s.take n)++[Kz s[n]]:=by rw[Bb hn];unfold Fk;rw[B3];rfl
def Qc(b:UInt8):Ab:= .int .u8 (b.toNat:Int)
def Ik(s:Ah)(n:Nat):Ah:=Fk (s.take n)++s.drop n
def YL(s:Ah)(n:Nat):(Ik s n).length=s.length:=by simp[Ik,Fk];omega
def YM{s:Ah}{n:Nat}(hn:n<s.length):(Ik s n)[n]?=some s[n]:=by unfold Ik Fk;rw[Bu EE];simp only[Aw,Ax,BP (Vt hn),Fh];rw[AA hn];rfl
def TQ{s:Ah}{n:Nat}(hn:n<s.length):Ik s (n+1)=(Ik s n).set n (Kz s[n]):=by
 unfold Ik;rw[uV hn,Ce _ _ (by simp[Fk];omega)];have e:n-(Fk (s.take n)).length=0:=by simp[Fk];omega
 rw[e,AA hn,mO,A7];rfl
def pB(s:Ah):Ik s s.length=Fk s:=by simp[Ik,Fk]
def TR{U:Type}{l:List U}{i:Nat}{v:U}(h:l[i]?=some v):l.set i v=l:=by
 apply So;intro j;rw[aS8];split
 .rename_i e;subst e;split;.exact h.symm
  .rename_i hl;rw[En Ac]
 .rfl
def uW{cs:List Ab}{i:Nat}{v:Ab}(h:cs[i]?=some v):Bp [.cells cs] none (.ptr (some (0,i)))=some v:=by simpa[Bp] using h
def aU{U:Type}{l:List U}{i:Nat}{v:U}(h:i<l.length):l.take i++v::l.drop (i+1)=l.set i v:=by rw[Cc,Ae h]
def pC{cs:List Ab}{i:Nat}{v:Ab}(h:i<cs.length)(hv:v.cells=[v]):Dd [.cells cs] 1 (.ptr (some (0,i))) v=some [.cells (cs.set i v)]:=by simp only[Dd,hv,Jy,AQ];rw[Ae ⟨trivial,Ac⟩,<-aU h];simp
def QS(s:Ah):∀(n o:Nat),o+n=s.length->CI (s.map Qc) 1 o n=CN (s.drop o)
 |0,o,h=>by rw[AX Ac];rfl
 |n+1,o,h=>by
  have ho:o<s.length:=Ac;have e:(s.map Qc).drop o=Qc s[o]::(s.map Qc).drop (o+1):=by rw[AA (by simpa using ho)];simp
  rw[CI,QS s n (o+1) Ac,AA ho,e];rfl
end
section
def Eb(name:Ah):List Ah->Ah
 |[]=>name
 |w::ws=>if Fk w=name then w else Eb name ws
def Cw(w:Ah):List Ab:=[.str w]
def UW:Ah:=aXK
def UX:Ah:=aXJ
end
section
structure Bj where
 Bd:Int
 name:Ah
 value:Ah
 deriving DecidableEq
def Bj.row(a:Bj):List Ab:=[.int .i64 a.Bd,.str a.name,.str a.value]
structure Item where
 node:Int
 Bd:Int
 name:Ah
 QT:Bool
 deriving DecidableEq
def Item.row(a:Item):List Ab:=[.int .i64 a.node,.int .i64 a.Bd,.str a.name,.bool a.QT]
def IP(ns:List Ah)(v:Ab):Prop:=Bx 1 (ns.map Cw) v
def BF(l:List Bj)(v:Ab):Prop:=Bx 3 (l.map Bj.row) v
def D3(l:List Item)(v:Ab):Prop:=Bx 4 (l.map Item.row) v
def zT(l:List Bj):Prop:=l.length<=12/\∀x∈l,x.name.length<=60/\x.value.length<=200
instance(l:List Bj):Decidable (zT l):=by unfold zT;infer_instance
def Ï(l:List Ah):Prop:=l.length<=12/\∀x∈l,x.length<=60
instance(l:List Ah):Decidable (Ï l):=by unfold Ï;infer_instance
def zU(l:List Item):Prop:=l.length<=60/\∀x∈l,x.name.length<=60
instance(l:List Item):Decidable (zU l):=by unfold zU;infer_instance
end
section
def Ct{U:Type}(p:U->Bool)(n:Nat):List U->Int
 |[]=> -1
 |a::l=>if p a then(n:Int) else Ct p (n+1) l
def Hp{U:Type}{p:U->Bool}:∀{l:List U} {k:Nat},(Ct p k l= -1/\l.find? p=none)\/∃(n:Nat) (a:U),Ct p k l=((k+n:Nat):Int)/\l[n]?=some a/\l.find? p=some a
 |[],k=> .inl ⟨rfl,rfl⟩
 |a::l,k=>by
  unfold Ct;by_cases h:p a=true;.exact .inr ⟨0,a,by rw[Ae h];rfl,rfl,by simp[h]⟩
  .rw[Aa h];rcases Hp (p:=p) (l:=l) (k:=k+1) with⟨h1,h2⟩|⟨n,b,h1,h2,h3⟩
   .exact .inl ⟨h1,by simp[h,h2]⟩
   .exact .inr ⟨n+1,b,by rw[h1];congr 1;omega,by simpa using h2,by simp[h,h3]⟩
def zV(a:Bj):Bool:=decide (a.Bd=0/\a.name=aZz)
def QU{s:Ah}(h:s.all (λc=> !(65<=c.toNat&&c.toNat<=90))=true):Fk s=s:=by
 unfold Fk;conv=>rhs;rw[<-List.map_id s]
 apply bY;intro c hc;have:=Eg.1 h c hc;refine TP λh2=>?_;simp[h2.1,h2.2] at this
abbrev aJG:Ah:=aX5
abbrev zW:Ah:=aZt
abbrev iC:Ah:=aYF
def RD(n:Int)(s:Ah)(l:List Bj):Bool:=
 if n=2 then D5 2 s else if n≠3 then false else if s≠aJG then false else match l.find? zV with
  |none=>false
  |some a=>decide (Fk a.value=zW\/Fk a.value=iC)
end
section
section
variable{U:Type}{f:U->List Ab}{l l2:List U}{v v2:Ab}{z b:Nat}{k k2:IntKind}
def Bx.GN(hv:Bx z (l.map f) v):AE (.len false) [v]=some (.int .i64 (l.length:Int)):=by have:=Bx.len hv;rwa [Aw] at this
def Bx.DN(hv:Bx z (l.map f) v){n:Nat}(hn:n<l.length):AE (.Hj z) [v,.int k (n:Int)]=some (.Cd (f l[n])):=by have:=Bx.Hj hv (k:=k) (n:=n) (by simpa using hn);simpa using this
def Bx.TS(hv:Bx z (l.map f) v){n:Nat}(hn:n<=l.length):∃u,AE (.Ro z false false true) [v,.int k (n:Int)]=some u/\Bx z ((l.take n).map f) u:=by
 rcases hv with rfl|⟨rfl,h⟩
 .have a:EU (n:Int) (l.map f).length=some n:=by unfold EU;rw[Aw,Ae Ac];rfl
  refine⟨.sl z ((l.map f).take n),?_,.inl (by rw[HN])⟩;simp only[AE,JC,D1,a,BW,rY,BN,K8]
 .have:l=[]:=by simpa using h
  subst this;have:n=0:=by simpa using hn
  subst this;exact⟨.slnil,rfl,.inr ⟨rfl,rfl⟩⟩
def Bx.zX(hv:Bx z (l.map f) v){n:Nat}(hn:n<=l.length):∃u,AE (.Ro z false true false) [v,.int k (n:Int)]=some u/\Bx z ((l.drop n).map f) u:=by
 rcases hv with rfl|⟨rfl,h⟩
 .have a:EU (n:Int) (l.map f).length=some n:=by unfold EU;rw[Aw,Ae Ac];rfl
  refine⟨.sl z ((l.map f).drop n),?_,.inl (by rw[Mu])⟩;simp only[AE,JC,D1,a,BW,rY,BN,Bl]
 .have:l=[]:=by simpa using h
  subst this;have:n=0:=by simpa using hn
  subst this;exact⟨.slnil,rfl,.inr ⟨rfl,rfl⟩⟩
def Bx.Wy(hv:Bx z (l.map f) v)(WU:Bx z (l2.map f) v2)(hb:(l.length+l2.length)*b<=AY):∃u,AE (.append z b) [v,v2]=some u/\Bx z ((l++l2).map f) u:=by obtain⟨u,e,hu⟩:=Bx.L1 hv WU (b:=b) (by simpa using hb);exact⟨u,e,by rwa [B3]⟩
def Bx.iD(WU:Bx z (l2.map f) v2)(hb:l2.length*b<=AY):∃u,AE (.append z b) [.slnil,v2]=some u/\Bx z (l2.map f) u:=by obtain⟨u,e,hu⟩:=Bx.L1 (v:= .slnil) (r:=[]) .nil WU (b:=b) (by simpa using hb);exact⟨u,e,by simpa using hu⟩
def Bx.pD{a:U}(hv:Bx z (l.map f) v)(hb:(l.length+1)*b<=AY):AE (.append z b) [v,.sl z [f a]]=some (.sl z ((l++[a]).map f)):=by rw[Bx.aOc hv (by simpa using hb)];simp
end
def Ek{a b:Int}(h1: -9223372036854775808<=a-b)(h2:a-b<9223372036854775808):AE (.int .sub) [.int .i64 a,.int .i64 b]=some (.int .i64 (a-b)):=by rw[uS,wrap_i64 h1 h2]
def RE{a b:Int}(h1: -9223372036854775808<=a+b)(h2:a+b<9223372036854775808):AE (.int .add) [.int .i64 a,.int .i64 b]=some (.int .i64 (a+b)):=by rw[uR,wrap_i64 h1 h2]
def Item.zero:Item:=⟨0,0,[],false⟩
def Item.EP{a:Item}:a.row.length=4:=rfl
def Item.g0{a:Item}{d:Ab}:a.row.getD 0 d= .int .i64 a.node:=rfl
def Item.g1{a:Item}{d:Ab}:a.row.getD 1 d= .int .i64 a.Bd:=rfl
def Item.g2{a:Item}{d:Ab}:a.row.getD 2 d= .str a.name:=rfl
def Item.g3{a:Item}{d:Ab}:a.row.getD 3 d= .bool a.QT:=rfl
def Item.at0{a:Item}:a.row[0]?=some (.int .i64 a.node):=rfl
def Item.OT{a:Item}:a.row.take 4=a.row:=rfl
def Item.Ð{a:Item}:a.row.drop 1=[.int .i64 a.Bd,.str a.name,.bool a.QT]:=rfl
def Item.aJI{a:Item}:a.row.drop 2=[.str a.name,.bool a.QT]:=rfl
def Item.aJJ{a:Item}:a.row.drop 3=[.bool a.QT]:=rfl
def Item.Wz{a:Item}:[Ab.int .i64 a.node,.int .i64 a.Bd,.str a.name,.bool a.QT]=a.row:=rfl
def Item.fill{a:Item}:Cl [.int .i64 0,.int .i64 0,.str [],.bool false] ([(0,1),(1,1),(2,1),(3,1)].zip a.row)=some a.row:=rfl
def Ly:=ai @Item.fill (ai @Item.EP (ai @Item.g0 (ai @Item.g1 (ai @Item.g2 (ai @Item.g3 (ai @Item.at0 (ai @Item.OT (ai @Item.Ð (ai @Item.aJI (ai @Item.aJJ (ai @Item.Wz (ai @F7 (@A8.{0})))))))))))))
def El(l:List Item)(i:Int):Item:=if 0<=i then l.getD i.toNat Item.zero else Item.zero
def DP(l:List Item):Item:=El l ((l.length:Int)-1)
def AD{U:Type}(q:U->Bool)(l:List U):Int:=match l.reverse.findIdx? q with
 |some k=>(l.length:Int)-1 -k
 |none=> -1
def Md{U:Type}{q:U->Bool}:AD q []= -1:=rfl
def Il{U:Type}{q:U->Bool}{l:List U}{a:U}:AD q (l++[a])=if q a then(l.length:Int) else AD q l:=by
 unfold AD;rw[ET,HJ,Ie,aRB];by_cases h:q a=true;.simp only[h,BN,An,AQ];omega
 .simp only[h,DK,B5,An,AQ];cases List.findIdx? q l.reverse with
  |none=>rfl
  |some k=>simp only[BW];omega
def PG{U:Type}{q:U->Bool}{l:List U}{n:Nat}(hn:n<l.length):AD q (l.take (n+1))=if q l[n] then(n:Int) else AD q (l.take n):=by rw[Bb hn,Il,Ax,BP (Vt hn)]
def BZ{U:Type}{q:U->Bool}{l:List U}:(AD q l= -1/\∀a∈l,q a=false)\/∃(n:Nat) (hn:n<l.length),AD q l=(n:Int)/\q l[n]=true/\∀m (hm:m<l.length),n<m->q l[m]=false:=by
 have key:∀r:List U,(AD q r.reverse= -1/\∀a∈r.reverse,q a=false)\/∃(n:Nat) (hn:n<r.reverse.length),AD q r.reverse=(n:Int)/\q r.reverse[n]=true/\∀m (hm:m<r.reverse.length),n<m->q r.reverse[m]=false:=by
  intro r;induction r with
  |nil=>exact .inl ⟨rfl,AB⟩
  |cons a r ih=>
   rw[EX,Il];by_cases h:q a=true;.refine .inr ⟨r.reverse.length,AB,by rw[Ae h],by simp[h],λm hm hlt=>?_⟩;simp at hm hlt;omega
   .rw[Aa h];rcases ih with⟨h1,h2⟩|⟨n,hn,h1,h2,h3⟩
    .exact .inl ⟨h1,λb hb=>by
      rcases Ao.1 hb with hb|hb
      .exact h2 b hb
      .simp at hb;subst hb;simpa using h⟩
    .refine .inr ⟨n,by simp at hn⊢;omega,h1,by rw[Ta hn];exact h2,λm hm hlt=>?_⟩;by_cases Yd:m<r.reverse.length;.rw[Ta Yd];exact h3 m Yd hlt
     .have:m=r.reverse.length:=by simp at hm Yd⊢;omega
      subst this;simpa using h
 have:=key l.reverse;rwa [DG] at this
def At(h:Ai)(id o:Nat)(v:Ab):Prop:=∃cs,h[id]?=some (.cells cs)/\cs[o]?=some v
def put(h:Ai)(id o:Nat)(u:Ab):Ai:=match h[id]? with
 |some (.cells cs)=>h.set id (.cells (cs.set o u))
 |_=>h
section
variable{h t:Ai}{id o:Nat}{u v w:Ab}
def IQ{cs:List Ab}(hc:h[id]?=some (.cells cs)):put h id o u=h.set id (.cells (cs.set o u)):=by unfold put;rw[hc]
def MU:(put h id o u).length=h.length:=by unfold put;split<;>simp
def At.lt(ha:At h id o v):id<h.length:=by obtain⟨cs,hc,_⟩:=ha;exact(Aj.1 hc).1
def At.load(ha:At h id o v):Bp h none (.ptr (some (id,o)))=some v:=by obtain⟨cs,hc,e⟩:=ha;simp only[Bp,hc,Jh,e]
def At.store(ha:At h id o v)(hu:u.cells=[u]):Dd h 1 (.ptr (some (id,o))) u=some (put h id o u):=by
 obtain⟨cs,hc,e⟩:=ha;have hl:=(Aj.1 e).1;rw[IQ hc];simp only[Dd,hc,hu,AQ,GV];have a:cs.set o u=cs.take o++[u]++cs.drop (o+1):=by rw[Cc,Ae hl];simp
 rw[Ae (Ac:o+1<=cs.length),a]
def At.put(ha:At h id o v):At (put h id o u) id o u:=by obtain⟨cs,hc,e⟩:=ha;have hl:=(Aj.1 e).1;have hi:=(Aj.1 hc).1;rw[IQ hc];exact⟨cs.set o u,by simp[hi],by simp[hl]⟩
def At.same(ha:At h id o v):Am.put h id o v=h:=by obtain⟨cs,hc,e⟩:=ha;obtain⟨hl,e⟩:=Aj.1 e;obtain⟨hi,a⟩:=Aj.1 hc;rw[IQ hc,<-e,Oc,<-a,Oc]
def iE:Am.put (Am.put h id o u) id o w=Am.put h id o w:=by
 cases hc:h[id]? with
 |none=>
  have e:∀u,Am.put h id o u=h:=λu=>by unfold Am.put;rw[hc]
  rw[e,e]
 |some x=>cases x with
  |cells cs=>have hi:=(Aj.1 hc).1;rw[IQ hc,IQ hc,IQ (cs:=cs.set o u) (by simp[hi])];simp
  |_=>
   have e:∀u,Am.put h id o u=h:=λu=>by unfold Am.put;rw[hc]
   rw[e,e]
def At.L1(ha:At h id o v):At (h++t) id o v:=by obtain⟨cs,hc,e⟩:=ha;exact⟨cs,by rw[Al (Aj.1 hc).1];exact hc,e⟩
def iF(ha:At h id o v):Am.put (h++t) id o u=Am.put h id o u++t:=by have hi:=ha.lt;obtain⟨cs,hc,e⟩:=ha;rw[IQ hc,IQ (by rw[Al hi];exact hc),aMd _ _ hi]
def Da{i:Nat}(hn:i≠id):(Am.put h id o u)[i]?=h[i]?:=by
 unfold Am.put;split;.rw[Aq (C3 hn)]
 .rfl
end
def r_(h:Ai)(p:Ab)(l:List Item):Prop:=(p= .ptr none/\l=[])\/∃id o v,p= .ptr (some (id,o))/\At h id o v/\D3 l v
def IK{l:List Item}{n:Nat}(hn:n<l.length):El l (n:Int)=l[n]:=by have:(0:Int)<=(n:Int):=Ac;simp[El,this,hn]
def YN{l:List Item}{i:Int}(h:i<0\/(l.length:Int)<=i):El l i=Item.zero:=by
 unfold El;rcases h with h|h
 .rw[Aa Ac]
 .rw[Ae Ac,AL,En Ac];rfl
section
variable{h:Ai}{p:Ab}{l:List Item}
def aAT{s:Ah}{ws:List Ah}:decide (0<=Ct (λw=>decide (s=w)) 0 ws)=decide (s∈ws):=by
 rcases Hp (p:=λw=>decide (s=w)) (l:=ws) (k:=0) with⟨h1,h2⟩|⟨n,a,h1,h2,h3⟩
 .rw[h1,Fy];have:=MK.1 h2;exact⟨λh=>Ac,λh=>absurd (show s=s from rfl) (by simpa using this s h)⟩
 .rw[h1,Fy];have e:s=a:=by simpa using Wf h3
  have:a∈ws:=CJ h2;refine⟨λ_=>e▸this,λ_=>Ac⟩
def AH(ws:List Ah)(a:Item):Bool:=decide (a.Bd=1/\a.name∈ws)
def Dl{ws:List Ah}:IP ws (.sl 1 (ws.map Cw)):= .mk
def Im(n:Int)(a:Item):Bool:=
 if n=4 then AH TO a else if n=5 then !AH QR a else if a.Bd=3\/a.Bd=2 then D5 a.Bd a.name
 else AH PF a||(decide (n=2)&&AH iA a)||(decide (n=3)&&AH [aXQ] a)
def Fp{ws:List Ah}{args:List Ab}(e:args=ws.map Ab.str)(h:ws.length<=16777216):AE (.Cb 1) args=some (.sl 1 (ws.map Cw)):=by
 subst e;have g:(ws.map Ab.str).all (λa=>a.cells.length==1)=true:=AB;have c:(ws.map Ab.str).map (·.cells)=ws.map Cw:=by simp[Cw]
 rw[zS,g,c];simp[h]
def uX:AE (.Cb 1) [S aXM,S aX4,S aXP]=some (.sl 1 (TO.map Cw)):=Fp (ws:=TO) rfl Az
def pE:AE (.Cb 1) [S aYu,S aX0]=some (.sl 1 (QR.map Cw)):=Fp (ws:=QR) rfl Az
def sd:AE (.Cb 1) [S [111,108],S [117,108]]=some (.sl 1 (iA.map Cw)):=Fp (ws:=iA) rfl Az
def uY:AE (.Cb 1) [S aY6,S aYe,S aXM,S aYX,S aZa,S aX4,S [116,100],S aXP,S [116,104]]=some (.sl 1 (PF.map Cw)):=Fp (ws:=PF) rfl Az
def sg:AE (.Cb 1) [S aXQ]=some (.sl 1 ([aXQ].map Cw)):=Fp (ws:=[aXQ]) rfl Az
def IC{U:Type}(q e:U->Bool):List U->Bool
 |[]=>false
 |a::r=>if q a then true else if e a then false else IC q e r
def uZ{U:Type}{q e:U->Bool}(l:List U)(b:Bool):(if h:0<=AD (λa=>q a||e a) l/\(AD (λa=>q a||e a) l).toNat<l.length then q (l[(AD (λa=>q a||e a) l).toNat]'h.2) else false)=IC q e l.reverse:=by
 have key:∀r:List U,(if h:0<=AD (λa=>q a||e a) r.reverse/\(AD (λa=>q a||e a) r.reverse).toNat<r.reverse.length then q (r.reverse[(AD (λa=>q a||e a) r.reverse).toNat]'h.2) else false)=IC q e r:=by
  intro r;induction r with
  |nil=>simp[IC,Md]
  |cons a r ih=>
   simp only[EX,IC];have e0:=Il (q:=λa=>q a||e a) (l:=r.reverse) (a:=a);by_cases hq:q a=true
   .rw[Ae (by simp[hq])] at e0;have c:(AD (λa=>q a||e a) (r.reverse++[a])).toNat=r.reverse.length:=by rw[e0];omega
    simp only[c];rw[rZ ⟨by rw[e0];omega,AB⟩];simp[hq]
   .by_cases he:e a=true
    .rw[Ae (by simp[he])] at e0;have c:(AD (λa=>q a||e a) (r.reverse++[a])).toNat=r.reverse.length:=by rw[e0];omega
     simp only[c];rw[rZ ⟨by rw[e0];omega,AB⟩];simp[hq,he]
    .rw[Aa (by simp[hq,he])] at e0;simp only[hq,he,DK,B5,<-ih,e0];rcases BZ (q:=λa=>q a||e a) (l:=r.reverse) with⟨h1,h2⟩|⟨n,hn,h1,h2,h3⟩
     .simp[h1]
     .have g:(0:Int)<=(n:Int)/\(n:Int).toNat<r.reverse.length:=⟨Ac,by simpa using hn⟩;have i:(0:Int)<=(n:Int)/\(n:Int).toNat<(r.reverse++[a]).length:=⟨Ac,by simp at hn⊢;omega⟩;simp only[h1];rw[rZ g,rZ i,Ta g.2]
 have:=key l.reverse;rwa [DG] at this
def IP.cells{v:Ab}{ws:List Ah}(hv:IP ws v):v.cells=[v]:=Bx.cells hv
def Bt(node:Int)(a:Item):Bool:=decide (a.node=node)
end
end
section
section
variable{h:Ai}{p v:Ab}{l:List Item}
def sj{n s:Int}{t:Ah}{b:Bool}:AE (.Dc [I 0,I 0,S [],ff] [(0,1),(1,1),(2,1),(3,1)]) [.int .i64 n,.int .i64 s,.str t,.bool b]=some (.agg (Item.row ⟨n,s,t,b⟩)):=by simp only[Cy];rfl
def Ñ{a:Item}:AE (.Cb 4) [.agg a.row]=some (.sl 4 [a.row]):=YK rfl Az
def MV(h:Ai)(id o:Nat)(l:List Item):Prop:=∃v,At h id o v/\D3 l v
def MV.at{id o:Nat}(hs:MV h id o l):r_ h (.ptr (some (id,o))) l:=let⟨v,h1,h2⟩:=hs; .inr ⟨id,o,v,rfl,h1,h2⟩
def D3.cells(hv:D3 l v):v.cells=[v]:=Bx.cells hv
def AS(a:Item):Bool:=D5 a.Bd a.name
def Ec(node:Int)(l:List Item):Int:=if AD (Bt node) l<0 then -1 else match(l.drop ((AD (Bt node) l).toNat+1)).findIdx? AS with
 |some k=>AD (Bt node) l+1+k
 |none=> -1
def Gy{U:Type}(q:U->Bool)(l:List U)(n:Nat):Int:=match(l.drop n).findIdx? q with
 |some k=>(n:Int)+k
 |none=> -1
def aV{U:Type}{q:U->Bool}{l:List U}{n:Nat}(h:l.length<=n):Gy q l n= -1:=by unfold Gy;rw[AX h];rfl
def iG{U:Type}{q:U->Bool}{l:List U}{n:Nat}(h:n<l.length):Gy q l n=if q l[n] then(n:Int) else Gy q l (n+1):=by
 unfold Gy;rw[AA h,aRB];by_cases hq:q l[n]=true;.simp only[hq,BN];omega
 .simp only[hq,B5,DK];cases List.findIdx? q (l.drop (n+1)) with
  |none=>rfl
  |some k=>simp only[BW];omega
def Me{node:Int}:Ec node l=if AD (Bt node) l<0 then -1 else Gy AS l ((AD (Bt node) l).toNat+1):=by
 unfold Ec Gy;by_cases h:AD (Bt node) l<0;.simp only[h,BN]
 .simp only[h,DK];cases(l.drop ((AD (Bt node) l).toNat+1)).findIdx? AS with
  |none=>rfl
  |some k=>simp only;omega
end
end
section
def Ev.ret{C:Gw}{f:FuncId}{args:List Ab}{h:Ai}{R:Ab->Ai->Prop}(hw:Ev C f args h R):∃r h',CD C f args h r h'/\R r h':=by obtain⟨n,x,vs,h',e,hx,r,hv,hR⟩:=hw;exact⟨r,h',⟨n,x,vs,h',e,hx,hv,rfl⟩,hR⟩
def Qd(b a:Item->Bool):List Item->List Item
 |x::y::r=>if b x then x::y::r else if a x then y::r else Qd b a (y::r)
 |r=>r
def D6(b a:Item->Bool)(l:List Item):List Item:=(Qd b a l.reverse).reverse
def sk{b a:Item->Bool}{l:List Item}(h:l.length<=1):Qd b a l=l:=by
 match l with
 |[]=>rfl
 |[x]=>rfl
 |x::y::r=>simp at h
def pF{b a:Item->Bool}{l:List Item}(h:l.length<=1):D6 b a l=l:=by unfold D6;rw[sk (by simpa using h),DG]
def UY{b a:Item->Bool}{l:List Item}{x:Item}(h:1<=l.length):D6 b a (l++[x])=if b x then l++[x] else if a x then l else D6 b a l:=by
 unfold D6;rw[ET,HJ,Ie];cases hr:l.reverse with
 |nil=>
  have:l=[]:=by simpa using hr
  subst this;simp at h
 |cons y r=>
  have hl:l=r.reverse++[y]:=by rw[<-DG l,hr,EX]
  rw[Qd];by_cases h1:b x=true;.rw[Ae h1,Ae h1];rw[hl];simp
  .rw[Aa h1,Aa h1];by_cases h2:a x=true;.rw[Ae h2,Ae h2];rw[hl];simp
   .rw[Aa h2,Aa h2]
def sn{b a:Item->Bool}{l:List Item}{n:Nat}(hn:n+1<l.length):D6 b a (l.take (n+2))=if b l[n+1] then l.take (n+2) else if a l[n+1] then l.take (n+1) else D6 b a (l.take (n+1)):=by have e:l.take (n+2)=l.take (n+1)++[l[n+1]]:=Bb hn;rw[e,UY (by rw[Ax];omega)]
def iH{b a:Item->Bool}:∀{l:List Item},(D6 b a l).length<=l.length:=by
 have key:∀r:List Item,(Qd b a r).length<=r.length:=by
  intro r;induction r with
  |nil=>simp[Qd]
  |cons x r ih=>
   cases r with
   |nil=>simp[Qd]
   |cons y r=>
    rw[Qd];split;.simp
    .split;.simp
     .exact Bw ih AB
 intro l;have:=key l.reverse;simpa[D6] using this
section
variable{h:Ai}{p v:Ab}{l:List Item}
def Km{n:Nat}(hn:n<l.length):DP (l.take (n+1))=l[n]:=by
 have e:((l.take (n+1)).length:Int)-1=(n:Int):=by rw[Ax];omega
 unfold DP;rw[e,IK (by rw[Ax];omega)];simp
def MV.iI{id o:Nat}(hs:MV h id o l):∃u,h=put h id o u/\D3 l u:=by obtain⟨u,hc,hu⟩:=hs;exact⟨u,hc.same.symm,hu⟩
def MV.lt{id o:Nat}(hs:MV h id o l):∃v,At h id o v:=let⟨u,hc,_⟩:=hs;⟨u,hc⟩
def MV.aEP{id o:Nat}{u:Ab}(hlt:∃v,At h id o v)(hu:D3 l u):MV (put h id o u) id o l:=let⟨_,ha⟩:=hlt;⟨u,ha.put,hu⟩
def Dm(_:Item):Bool:=false
def CL(s:Ah)(a:Item):Bool:=decide (a.Bd≠1\/a.name∉Fu\/a.name=s)
def EG(a:Item):Bool:=decide (a.Bd≠1\/¬(a.name∈RC\/a.name∈Fu))
def Hq(node:Int)(l:List Item):List Item:=if AD (Bt node) l<0 then l else D6 Dm (Bt node) l
def Hc(l:List Item)(i:Int):List Item:=l.take (max 1 i.toNat)
def PH{q:Item->Bool}(l:List Item):D6 Dm q l=Hc l (AD q l):=by
 have key:∀r:List Item,D6 Dm q r.reverse=Hc r.reverse (AD q r.reverse):=by
  intro r;induction r with
  |nil=>rfl
  |cons x r ih=>
   rw[EX,Il];rcases Gr r.length with h0|h0
   .have:r=[]:=Fz.1 h0;subst this;by_cases hq:q x=true<;>simp[hq,Hc,D6,Qd,Md]
   .have h1:1<=r.reverse.length:=by rw[LR];omega
    rw[UY h1];by_cases hq:q x=true;.rw[Aa (by simp[Dm]),Ae hq,Ae hq];unfold Hc;rw[BH,Nat.max_eq_right h1,Bk (Ad _),Bl]
    .rw[Aa (by simp[Dm]),Aa hq,Aa hq,ih];unfold Hc;rw[Bk];rcases BZ (q:=q) (l:=r.reverse) with⟨a,_⟩|⟨n,hn,a,_⟩<;>rw[a]<;>omega
 have:=key l.reverse;rwa [DG] at this
def SI{q:Item->Bool}(l:List Item):D6 q Dm l=Hc l (AD q l+1):=by
 have key:∀r:List Item,D6 q Dm r.reverse=Hc r.reverse (AD q r.reverse+1):=by
  intro r;induction r with
  |nil=>rfl
  |cons x r ih=>
   rw[EX,Il];rcases Gr r.length with h0|h0
   .have:r=[]:=Fz.1 h0;subst this;by_cases hq:q x=true<;>simp[hq,Hc,D6,Qd,Md]
   .have h1:1<=r.reverse.length:=by rw[LR];omega
    rw[UY h1];by_cases hq:q x=true;.rw[Ae hq,Ae hq];unfold Hc;rw[Bf];rw[An,AQ];omega
    .rw[Aa hq,Aa (by simp[Dm]),Aa hq,ih];unfold Hc;rw[Bk];rcases BZ (q:=q) (l:=r.reverse) with⟨a,_⟩|⟨n,hn,a,_⟩<;>rw[a]<;>omega
 have:=key l.reverse;rwa [DG] at this
def VY{node:Int}(l:List Item):Hq node l=if AD (Bt node) l<0 then l else Hc l (AD (Bt node) l):=by unfold Hq;rw[PH]
end
end
section
section
variable{h:Ai}{p v:Ab}{l:List Item}
def aJK(l:List Item):∀r∈l.map Item.row,r.length=4:=OQ (f:=Item.row) (λa=>Item.EP) l
def zY{n:Nat}(h:n<=2000000000):n*40<=AY:=by have:AY=140737488355328:=rfl;omega
def BA{U:Type}(l:List U)(k:Nat):List U:=l.take k++l.drop (k+1)
def Cg(node:Int)(l:List Item):List Item:=if AD (Bt node) l<1 then l else BA l (AD (Bt node) l).toNat
def H0(i:Int)(n:Nat):Nat:=min (max i 1).toNat n
def QV(node:Int)(a:Item)(l:List Item):List Item:=if AD (Bt node) l<1 then l else l.set (AD (Bt node) l).toNat a
end
end
section
end
section
section
variable{h:Ai}{p v w:Ab}{l:List Item}{ws:List Ah}
end
end
section
def fT:List (Ah×Int×Ah):=[(aYL,4,aZl),(aYJ,4,aZj),(aYQ,4,aZN),(aYR,4,aZO),(aYS,4,aZP),(aYM,4,aX7),(aYT,4,aYW),(aY8,5,[108,97,110,103]),(aY1,5,aZG),(aYP,6,aYP),(aYN,6,aZA)]
def YO(x:Ah×Int×Ah):Ab×Ab:=(.str x.1,.agg [.int .i64 x.2.1,.str x.2.2,.str []])
def ft(n:Nat):List (Ab×Ab):=(fT.take n).map YO
def aJL:Oz aYL (.agg [.int .i64 4,.str aZl,.str []]) (ft 0)=some (ft 1):=by kernel_rfl
def aJM:Oz aYJ (.agg [.int .i64 4,.str aZj,.str []]) (ft 1)=some (ft 2):=by kernel_rfl
def aJN:Oz aYQ (.agg [.int .i64 4,.str aZN,.str []]) (ft 2)=some (ft 3):=by kernel_rfl
def aJO:Oz aYR (.agg [.int .i64 4,.str aZO,.str []]) (ft 3)=some (ft 4):=by kernel_rfl
def aJP:Oz aYS (.agg [.int .i64 4,.str aZP,.str []]) (ft 4)=some (ft 5):=by kernel_rfl
def aJQ:Oz aYM (.agg [.int .i64 4,.str aX7,.str []]) (ft 5)=some (ft 6):=by kernel_rfl
def aJR:Oz aYT (.agg [.int .i64 4,.str aYW,.str []]) (ft 6)=some (ft 7):=by kernel_rfl
def aJS:Oz aY8 (.agg [.int .i64 5,.str [108,97,110,103],.str []]) (ft 7)=some (ft 8):=by kernel_rfl
def aJT:Oz aY1 (.agg [.int .i64 5,.str aZG,.str []]) (ft 8)=some (ft 9):=by kernel_rfl
def aJU:Oz aYP (.agg [.int .i64 6,.str aYP,.str []]) (ft 9)=some (ft 10):=by kernel_rfl
def aEQ:Oz aYN (.agg [.int .i64 6,.str aZA,.str []]) (ft 10)=some (ft 11):=by kernel_rfl
def u0{h:Ai}{es:List (Ab×Ab)}{s:Ah}{v:Ab}:R2 (h++[.map es]) (.map (some h.length)) (.str s) v=(Oz s v es).map λes=>h++[.map es]:=by simp[R2]
def KA(n:Ah):Option (Int×Ah):=(fT.find? λx=>decide (n=x.1)).map (·.2)
def YP(n:Ah):∀l:List (Ah×Int×Ah),Tj n (l.map YO)=some ((l.find? λx=>decide (n=x.1)).map λx=>(YO x).2)
 |[]=>rfl
 |x::l=>by
  rw[AV,Iv,YO,Tj];by_cases e:n=x.1;.rw[Ae e,Ak e];rfl
  .rw[Aa e,Ap e];exact YP n l
def Nl{h:Ai}{n:Ah}:P6 (h++[.map (ft 11)]) (.agg [.int .i64 0,.str [],.str []]) true (.map (some h.length)) (.str n)=
  some (match KA n with|some (s,m)=> .tuple [.agg [.int .i64 s,.str m,.str []],.bool true]|none=> .tuple [.agg [.int .i64 0,.str [],.str []],.bool false]):=by
 have e:UG (h++[.map (ft 11)]) (.map (some h.length)) (.str n)=Tj n (fT.map YO):=by simp[UG,ft,fT]
 rw[P6,e,YP,KA];cases fT.find? λx=>decide (n=x.1)<;>rfl
abbrev aJV:Ah:=aY0
abbrev aER:Ah:=aY2
def N4(sp:Int)(n:Ah):Ah:=if sp=2 then Eb n OS else if sp=3/\n=aJV then aER else n
def DR(sp:Int)(a:Bj):Bj:=
 if sp=2\/sp=3 then match KA (N4 sp a.name) with
  |some (s,m)=>⟨s,m,a.value⟩
  |none=>⟨0,N4 sp a.name,a.value⟩
 else⟨0,a.name,a.value⟩
def iJ(s:Ah):(Fk s).length=s.length:=by simp[Fk]
def Qe(n:Ah):∀ws,Eb n ws=n\/(Eb n ws∈ws/\Fk (Eb n ws)=n)
 |[]=> .inl rfl
 |w::ws=>by
  rw[Eb];split;.rename_i e;exact .inr ⟨List.mem_cons_self,e⟩
  .rcases Qe n ws with h|⟨h1,h2⟩
   .exact .inl h
   .exact .inr ⟨Pc _ h1,h2⟩
def Nn{a b c:Ab}:AE (.Cb 3) [.agg [a,b,c]]=some (.sl 3 [[a,b,c]]):=rfl
def Bj.EP{a:Bj}:a.row.length=3:=rfl
def Bj.OT{a:Bj}:a.row.take 3=a.row:=rfl
section
variable{v:Ab}{l:List Bj}{h:Ai}
def Ò{a b:Bj}{neg:Bool}:AE (.geq neg [.i,.s,.s]) [.agg a.row,.agg b.row]=some (.bool (decide (a=b) != neg)):=by
 rw[uT];have:ED [.i,.s,.s] a.row b.row=some (decide (a=b)):=by simp only[ED,Of,Bj.row,BN,BO];cases a;cases b;simp only[Bj.mk.injEq];rw[Mz];simp
 rw[this];rfl
def so{k:IntKind}{s:Ah}{a z:Nat}(ha:a<=s.length):AE (.Ro z true true false) [.str s,.int k (a:Int)]=some (.str (s.drop a)):=by
 have c:EU (a:Int) s.length=some a:=by unfold EU;rw[Ae Ac];rfl
 simp[AE,JC,D1,c]
end
end
section
structure Cn where
 node:Int
 name:Ah
 As:List Bj
deriving DecidableEq
structure DH where
 c:Cn
 v:Ab
 ok:BF c.As v
def DH.row(e:DH):List Ab:=[.int .i64 e.c.node,.str e.c.name,e.v]
def Fm(l:List DH)(v:Ab):Prop:=Bx 3 (l.map DH.row) v
section
variable{e:DH}{d:Ab}
def DH.EP:e.row.length=3:=rfl
def DH.g0:e.row.getD 0 d= .int .i64 e.c.node:=rfl
def DH.g1:e.row.getD 1 d= .str e.c.name:=rfl
def DH.g2:e.row.getD 2 d=e.v:=rfl
def DH.at0:e.row[0]?=some (.int .i64 e.c.node):=rfl
def DH.OT:e.row.take 3=e.row:=rfl
def DH.Ð:e.row.drop 1=[.str e.c.name,e.v]:=rfl
def DH.Wz:[Ab.int .i64 e.c.node,.str e.c.name,e.v]=e.row:=rfl
def DH.aOj:AE (.len false) [e.v]=some (.int .i64 (e.c.As.length:Int)):=Bx.GN e.ok
end
def Bj.g0{a:Bj}{d:Ab}:a.row.getD 0 d= .int .i64 a.Bd:=rfl
def Bj.g1{a:Bj}{d:Ab}:a.row.getD 1 d= .str a.name:=rfl
def Bj.g2{a:Bj}{d:Ab}:a.row.getD 2 d= .str a.value:=rfl
def Bj.Wz{a:Bj}:[Ab.int .i64 a.Bd,.str a.name,.str a.value]=a.row:=rfl
def dN{n:Nat}(h:n<=2000000000):n*48<=AY:=by have:AY=140737488355328:=rfl;omega
def UZ(e:DH):Bool:=decide (e.c.node=0)
def U4(n:Int)(e:DH):Bool:=decide (e.c.node=n)
def since(l:List DH):Int:=AD UZ l+1
def sq:since []=0:=rfl
def u9{l:List DH}{e:DH}:since (l++[e])=if e.c.node=0 then(l.length:Int)+1 else since l:=by unfold since;rw[Il];by_cases h:e.c.node=0<;>simp[UZ,h]
def vA{l:List DH}{n:Nat}(hn:n<l.length):since (l.take (n+1))=if l[n].c.node=0 then(n:Int)+1 else since (l.take n):=by rw[Bb hn,u9,Ax,BP (Vt hn)]
def SJ(l:List DH):∃s:Nat,since l=(s:Int)/\s<=l.length/\(∀m (hm:m<l.length),s<=m->l[m].c.node≠0)/\(∀t,s=t+1->∃ht:t<l.length,l[t].c.node=0):=by
 rcases BZ (q:=UZ) (l:=l) with⟨h1,h2⟩|⟨n,hn,h1,h2,h3⟩
 .refine⟨0,by unfold since;rw[h1];rfl,Bn _,λm hm _=>?_,λt ht=>by omega⟩;have:=h2 _ (AG hm);simpa[UZ] using this
 .refine⟨n+1,by unfold since;rw[h1];rfl,hn,λm hm E0=>?_,λt ht=>?_⟩;.have:=h3 m hm Ac;simpa[UZ] using this
  .obtain rfl:t=n:=by omega
   exact⟨hn,by simpa[UZ] using h2⟩
section
variable{h:Ai}{v:Ab}{l:List DH}{id:Nat}
def zZ(name:Ah):List DH->Int
 |[]=> -1
 |e::t=>if e.c.node=0 then -1 else if e.c.name=name then(t.length:Int) else zZ name t
def Sg(name:Ah)(l:List DH):Int:=zZ name l.reverse
def vB{name:Ah}{n:Nat}(hn:n<l.length):Sg name (l.take (n+1))=if l[n].c.node=0 then -1 else if l[n].c.name=name then(n:Int) else Sg name (l.take n):=by rw[Bb hn,Sg,ET,HJ,Ie,zZ,LR,Ax,BP (Vt hn),Sg]
def sr{name:Ah}:Sg name []= -1:=rfl
def LA(node:Int)(l:List DH):Int:=if node=0 then -1 else AD (U4 node) l
end
section
variable{h:Ai}{v:Ab}{l:List Bj}
def ME(a b:Cn):Bool:=decide (a.name=b.name/\a.As.length=b.As.length/\(∀x∈a.As,x∈b.As)/\∀x∈b.As,x∈a.As)
def xo(e:DH):Prop:=e.c.As.length<=1000000000
end
end
section
mutual
def Ab.TT:∀a:Ab,Ab.beq a a=true
 | .bool a=>by simp[Ab.beq]
 | .int k a=>by simp[Ab.beq]
 | .str a=>by simp[Ab.beq]
 | .ptr a=>by simp[Ab.beq]
 | .Cd a=>by simp[Ab.beq,Ab.LB a]
 | .sl n a=>by simp[Ab.beq,Ab.YQ a]
 | .Hi _=>by simp[Ab.beq]
 | .slnil=>by simp[Ab.beq]
 | .Du a c d e=>by simp[Ab.beq]
 | .map a=>by simp[Ab.beq]
 | .func f a c=>by simp[Ab.beq,Ab.LB a,Ab.LB c]
 | .nilFunc=>by simp[Ab.beq]
 | .iface t a=>by simp[Ab.beq,Ab.TT a]
 | .nilIface=>by simp[Ab.beq]
 | .agg a=>by simp[Ab.beq,Ab.LB a]
 | .tuple a=>by simp[Ab.beq,Ab.LB a]
def Ab.LB:∀a:List Ab,Ab.Th a a=true
 |[]=>by simp[Ab.Th]
 |a::x=>by simp[Ab.Th,Ab.TT a,Ab.LB x]
def Ab.YQ:∀a:List (List Ab),Ab.Ti a a=true
 |[]=>by simp[Ab.Ti]
 |a::x=>by simp[Ab.Ti,Ab.LB a,Ab.YQ x]
end
def U5(h:Ai)(id o:Nat)(l:List DH):Prop:=∃u,At h id o u/\Fm l u
def Fm.cells{l:List DH}{v:Ab}(hv:Fm l v):v.cells=[v]:=Bx.cells hv
def U5.lt{h:Ai}{id o:Nat}{l:List DH}(hs:U5 h id o l):∃v,At h id o v:=let⟨u,hc,_⟩:=hs;⟨u,hc⟩
def iK(l:List DH):∀r∈l.map DH.row,r.length=3:=OQ (f:=DH.row) (λa=>DH.EP) l
section
variable{h:Ai}{v:Ab}{l:List DH}{id:Nat}
def su{r:List Ab}(h:r.length=3):AE (.Cb 3) [.agg r]=some (.sl 3 [r]):=YK (a:= .agg r) h Az
def pG(n:Int)(l:List DH):LA n l= -1\/∃k:Nat,k<l.length/\LA n l=(k:Int):=by
 unfold LA;split;.exact .inl rfl
 .rcases BZ (q:=U4 n) (l:=l) with⟨h1,_⟩|⟨k,hk,h1,_⟩
  .exact .inl h1
  .exact .inr ⟨k,hk,h1⟩
def iL:DH:=⟨⟨0,[],[]⟩,.slnil,.nil⟩
def Ó:[I 0,S [],Ab.slnil]=iL.row:=rfl
def Hr(i:Int)(n:Nat):Nat:=min (max i 0).toNat n
def ID(l:List DH):Nat:=(since l-1).toNat
end
end
section
def aAU(e:Cn):List DH->Nat
 |[]=>0
 |x::t=>if x.c.node=0 then 0 else aAU e t+(if ME x.c e=true then 1 else 0)
def vC(e:Cn):List DH->Int
 |[]=> -1
 |x::t=>if x.c.node=0 then -1 else if 0<=vC e t then vC e t else if ME x.c e=true then(t.length:Int) else -1
def aW(e:Cn)(l:List DH):Nat:=aAU e l.reverse
def SK(e:Cn)(l:List DH):Int:=vC e l.reverse
section
variable{e:Cn}{l:List DH}{n s:Nat}
def dO(hn:n<l.length):aW e (l.take (n+1))=if l[n].c.node=0 then 0 else aW e (l.take n)+(if ME l[n].c e=true then 1 else 0):=by rw[Bb hn,aW,ET,HJ,Ie,aAU,aW]
def dP(hn:n<l.length):SK e (l.take (n+1))=if l[n].c.node=0 then -1 else if 0<=SK e (l.take n) then SK e (l.take n) else if ME l[n].c e=true then(n:Int) else -1:=by rw[Bb hn,SK,ET,HJ,Ie,vC,SK,LR,Ax,BP (Vt hn)]
def vD(hs:since l=(s:Int)):aW e (l.take s)=0/\SK e (l.take s)= -1:=by
 obtain⟨s',e,h1,h2,h3⟩:=SJ l;obtain rfl:s=s':=Ac;cases s with
 |zero=>exact⟨rfl,rfl⟩
 |succ t=>obtain⟨ht,h0⟩:=h3 t rfl;exact⟨by rw[dO ht,Ae h0],by rw[dP ht,Ae h0]⟩
end
def SL(e:Cn)(l:List DH):List DH:=if e.node≠0/\3<=aW e l then BA l (SK e l).toNat else l
section
variable{h:Ai}{v:Ab}{l:List DH}{id:Nat}
end
end
section
section
variable{h:Ai}{v:Ab}{l:List DH}{id:Nat}
end
end
end Go.Am
end
section
namespace Go.Am
structure HK where
 kind:Int:=0
 GO:Int:=0
 Bi:List Int:=[]
 BM:Int:=0
 Bd:Int:=0
 name:Ah:=[]
 As:List Bj:=[]
 data:Ah:=[]
 Lg:Ah:=[]
 sys:Ah:=[]
 DX:Bool:=false
 cont:Int:=0
 Fv:Int:=0
deriving DecidableEq
structure Ar where
 n:List HK
 i:List Int
abbrev AW:Ah:=aXP
def dQ(x:HK):Prop:=x.kind=4/\x.Bd=1/\x.name=AW
instance(x:HK):Decidable (dQ x):=by unfold dQ;infer_instance
namespace Ar
def len(A:Ar):Int:=A.n.length
def has(A:Ar)(h:Int):Prop:=1<=h/\h<=A.n.length
instance(A:Ar)(h:Int):Decidable (A.has h):=by unfold has;infer_instance
def nd(A:Ar)(h:Int):HK:=if A.has h then A.n.getD (h.toNat-1) {} else{}
def inr(A:Ar)(h:Int):Int:=if A.has h then A.i.getD (h.toNat-1) 0 else 0
def set(A:Ar)(h:Int)(x:HK):Ar:={n:=if A.has h then A.n.set (h.toNat-1) x else A.n,i:=A.i}
def OU(A:Ar)(h:Int)(x:Int):Ar:={n:=A.n,i:=if A.has h then A.i.set (h.toNat-1) x else A.i}
def add(A:Ar)(x:HK):Ar:={n:=A.n++[x],i:=A.i++[0]}
def up(A:Ar)(h:Int):Int:=if(A.nd h).GO≠0 then(A.nd h).GO else(A.nd h).Fv
end Ar
section
variable{A:Ar}{h k:Int}{x y:HK}
def OV(a:¬A.has h):A.nd h={}:=by unfold Ar.nd;rw[Aa a]
def J6:(A.set h x).n.length=A.n.length:=by simp only[Ar.set];split<;>simp
def aAV:(A.set h x).len=A.len:=by unfold Ar.len;rw[J6]
def JI:(A.set h x).has k↔A.has k:=by unfold Ar.has;rw[J6]
def IS:(A.set h x).nd k=if k=h/\A.has h then x else A.nd k:=by
 unfold Ar.nd;simp only[JI];by_cases hk:A.has k
 .rw[Ae hk,Ae hk];simp only[Ar.set];by_cases a:A.has h
  .rw[Ae a];have h1:=a;have h2:=hk;unfold Ar.has at h1 h2;by_cases e:k=h;.subst e;rw[Ae ⟨rfl,a⟩,AL,AI Ac];rfl
   .rw[Aa (by simp[e]),AL,Aq Ac,AL]
  .rw[Aa a,Aa (by simp[a])]
 .rw[Aa hk,Aa hk,Aa];rintro⟨rfl,h2⟩;exact hk h2
def TU:(A.set h x).inr k=A.inr k:=by unfold Ar.inr;simp only[JI];rfl
def RF:(A.add x).len=A.len+1:=by simp[Ar.len,Ar.add]
def DO:(A.add x).has k↔A.has k\/k=A.len+1:=by simp[Ar.has,Ar.add,Ar.len];omega
def Jj:(A.add x).nd k=if k=A.len+1 then x else A.nd k:=by
 unfold Ar.nd;simp only[DO];by_cases e:k=A.len+1;.subst e;simp[Ar.add,Ar.len]
 .by_cases hk:A.has k;.rw[Ae (.inl hk),Aa e,Ae hk];unfold Ar.has at hk;simp only[Ar.add,AL];rw[Al Ac]
  .rw[Aa (by simp[hk,e]),Aa e,Aa hk]
def W0(hl:A.i.length=A.n.length):(A.add x).inr k=A.inr k:=by
 unfold Ar.inr;simp only[DO];by_cases e:k=A.len+1
 .subst e;have:¬A.has (A.len+1):=by unfold Ar.has Ar.len;omega
  rw[Ae (.inr rfl),Aa this];simp[Ar.add,Ar.len,<-hl]
 .by_cases hk:A.has k;.rw[Ae (.inl hk),Ae hk];unfold Ar.has at hk;simp only[Ar.add,AL];rw[Al Ac]
  .rw[Aa (by simp[hk,e]),Aa hk]
def pH:(A.OU h k).len=A.len:=rfl
def TV{m:Int}:(A.OU h m).has k↔A.has k:=aH9
def ae{m:Int}:(A.OU h m).nd k=A.nd k:=by rfl
def YR{m:Int}(hl:A.i.length=A.n.length):(A.OU h m).inr k=if k=h/\A.has h then m else A.inr k:=by
 unfold Ar.inr;simp only[TV];by_cases hk:A.has k
 .rw[Ae hk,Ae hk];simp only[Ar.OU];by_cases a:A.has h
  .rw[Ae a];have h1:=a;have h2:=hk;unfold Ar.has at h1 h2;by_cases e:k=h;.subst e;rw[Ae ⟨rfl,a⟩,AL,AI Ac];rfl
   .rw[Aa (by simp[e]),AL,Aq Ac,AL]
  .rw[Aa a,Aa (by simp[a])]
 .rw[Aa hk,Aa hk,Aa];rintro⟨rfl,h2⟩;exact hk h2
end
def F0(a:Bj):Int×Ah:=(a.Bd,a.name)
def GP(out:List Bj):List Bj->List Bj
 |[]=>out
 |x::l=>if out.any (λy=>decide (F0 x=F0 y)) then GP out l else GP (out++[x]) l
def Dx(l:List Bj):List Bj:=GP [] l
def SM:∀{l out:List Bj},(out.map F0).Nodup->((GP out l).map F0).Nodup
 |[],_,h=>h
 |x::l,out,h=>by
  rw[GP];split;.exact SM h
  .rename_i hn;refine SM ?_;rw[B3,BY];refine⟨h,AB,?_⟩;rintro a ha b hb rfl;simp at hb;subst hb;simp at ha hn;obtain⟨y,hy,e⟩:=ha;exact hn y hy e.symm
def pI:∀{l out:List Bj},((out++l).map F0).Nodup->GP out l=out++l
 |[],out,_=>by simp[GP]
 |x::l,out,h=>by
  rw[GP,Aa,pI (by simpa using h)];.simp
  .intro ha;rw[B3,BY] at h;simp at ha;obtain⟨y,hy,e⟩:=ha;exact h.2.2 _ (A5.2 ⟨y,hy,e.symm⟩) _ AB rfl
def sx(l:List Bj):((Dx l).map F0).Nodup:=SM AB
def aAW{l:List Bj}(h:(l.map F0).Nodup):Dx l=l:=by have:=pI (out:=[]) (l:=l) (by simpa using h);simpa[Dx] using this
def dR(l:List Bj):Dx (Dx l)=Dx l:=aAW (sx l)
def U7:∀{l out:List Bj} {a:Bj},a∈GP out l->a∈out\/a∈l
 |[],_,_,h=> .inl h
 |x::l,out,a,h=>by
  rw[GP] at h;split at h
  .rcases U7 h with h|h
   .exact .inl h
   .exact .inr (by simp[h])
  .rcases U7 h with h|h
   .simp at h;rcases h with h|rfl
    .exact .inl h
    .exact .inr AB
   .exact .inr (by simp[h])
def pJ{l:List Bj}{a:Bj}(h:a∈Dx l):a∈l:=by simpa using U7 h
def YS:∀{l out:List Bj},(GP out l).length<=out.length+l.length
 |[],out=>by simp[GP]
 |x::l,out=>by
  rw[GP];split;.have:=YS (l:=l) (out:=out);simp;omega
  .have:=YS (l:=l) (out:=out++[x]);simp at this⊢;omega
def TW{l:List Bj}:(Dx l).length<=l.length:=by have:=YS (l:=l) (out:=[]);simpa[Dx] using this
structure sJ(x:HK):Prop where
 k:1<=x.kind/\x.kind<=6
 Bi:x.Bi≠[]->x.kind=1\/x.kind=2\/x.kind=4
 elem:x.kind≠4->x.Bd=0/\x.As=[]
 nm:x.kind≠4->x.kind≠3->x.name=[]
 dt:x.kind≠3->x.Lg=[]/\x.sys=[]
 data:x.kind≠5->x.kind≠6->x.data=[]
 DX:x.kind≠1->x.DX=false
 sp:0<=x.Bd/\x.Bd<=7
 Ô:∀a∈x.As,0<=a.Bd/\a.Bd<=7
 Dx:Dx x.As=x.As
 QW:x.cont≠0->dQ x
 OW:x.Fv≠0->x.kind=2
 root:x.GO≠0->x.kind≠1/\x.kind≠2
 af:x.Bi.Nodup
structure Eo(A:Ar)(e:Int):Prop where
 il:A.i.length=A.n.length
 Tg:∀h,A.has h->sJ (A.nd h)
 BM:∀h,A.has h->A.has (A.nd h).BM/\(A.nd (A.nd h).BM).kind=1
 YT:∀h,A.has h->(A.nd h).kind=1->(A.nd h).BM=h
 GO:∀h,A.has h->(A.nd h).GO≠0->A.has (A.nd h).GO/\h∈(A.nd (A.nd h).GO).Bi
 Ok:∀h,A.has h->∀k∈(A.nd h).Bi,A.has k/\(A.nd k).GO=h
 Ox:∀h,A.has h->h≠e->dQ (A.nd h)->(A.nd h).cont≠0
 cont:∀h,A.has h->(A.nd h).cont≠0->A.has (A.nd h).cont/\(A.nd (A.nd h).cont).kind=2/\(A.nd (A.nd h).cont).Fv=h
 Fv:∀h,A.has h->(A.nd h).Fv≠0->A.has (A.nd h).Fv/\(A.nd (A.nd h).Fv).cont=h
 ine:∀h,A.has h->A.inr h≠0->A.has (A.inr h)/\(A.nd (A.inr h)).kind=1
 MF:∃r:Int->Nat,∀h,A.has h->A.up h≠0->r (A.up h)<r h
section
variable{A:Ar}{e h k:Int}{x y:HK}
def Om:¬A.has (A.len+1):=by unfold Ar.has Ar.len;omega
def YU(a:¬A.has h):A.up h=0:=by unfold Ar.up;rw[OV a];simp
def YV(ok:Eo A e)(a:A.has h)(hu:A.up h≠0):A.has (A.up h):=by
 unfold Ar.up at hu⊢;split;.rename_i h1;exact(ok.GO h a h1).1
 .rename_i h1;rw[Aa h1] at hu;exact(ok.Fv h a hu).1
def PI(ok:Eo A e)(hx:sJ x)(hd:(x.kind=1/\x.BM=A.len+1)\/(x.kind≠1/\A.has x.BM/\(A.nd x.BM).kind=1))(hp:x.GO=0)(hk:x.Bi=[])(hc:x.cont=0)(a:x.Fv=0)(b:dQ x->e=A.len+1):Eo (A.add x) e:=by
 have no:=Om (A:=A);obtain⟨r,hr⟩:=ok.MF;have ne:∀{k},A.has k->k≠A.len+1:=λhk e=>no (e▸hk);refine⟨by simp[Ar.add,ok.il],?_,?_,?_,?_,?_,?_,?_,?_,?_,r,?_⟩<;>intro m hm<;>rw[DO] at hm<;>(try rw[W0 ok.il])<;>simp only[Ar.up,Jj,DO]<;>rcases hm with hm|rfl
 all_goals first|(rw[Aa (ne hm)])|(rw[Ae rfl])|skip
 .exact ok.Tg m hm
 .exact hx
 .have:=ok.BM m hm;rw[Aa (ne this.1)];exact⟨.inl this.1,this.2⟩
 .rcases hd with⟨h1,h2⟩|⟨h1,h2,h3⟩
  .rw[Ae h2];exact⟨.inr h2,h1⟩
  .rw[Aa (ne h2)];exact⟨.inl h2,h3⟩
 .exact ok.YT m hm
 .intro h1;rcases hd with⟨_,h2⟩|⟨h2,_⟩
  .exact h2
  .exact absurd h1 h2
 .intro h1;have:=ok.GO m hm h1;rw[Aa (ne this.1)];exact⟨.inl this.1,this.2⟩
 .intro h1;exact absurd hp h1
 .intro q hq;have:=ok.Ok m hm q hq;rw[Aa (ne this.1)];exact⟨.inl this.1,this.2⟩
 .intro q hq;rw[hk] at hq;cases hq
 .exact ok.Ox m hm
 .intro h1 h2;exact absurd (b h2).symm h1
 .intro h1;have:=ok.cont m hm h1;rw[Aa (ne this.1)];exact⟨.inl this.1,this.2⟩
 .intro h1;exact absurd hc h1
 .intro h1;have:=ok.Fv m hm h1;rw[Aa (ne this.1)];exact⟨.inl this.1,this.2⟩
 .intro h1;exact absurd a h1
 .intro h1;have:=ok.ine m hm h1;rw[Aa (ne this.1)];exact⟨.inl this.1,this.2⟩
 .intro h1;exfalso;apply h1;unfold Ar.inr;rw[Aa no]
 .have:=hr m hm;unfold Ar.up at this;exact this
 .rw[hp,a];simp
inductive Reach(A:Ar)(t:Int):Int->Prop
 |refl:Reach A t t
 |step {h:Int}:A.up h≠0->Reach A t (A.up h)->Reach A t h
def I1(l:List Int)(b n:Int):List Int:=if b=0 then l++[n] else l.takeWhile (λk=>decide (k≠b))++n::l.dropWhile (λk=>decide (k≠b))
def Ar.cut(A:Ar)(n:Int):Ar:=
 let q:=(A.nd n).GO
 if q=0 then A else
  let a:=A.set q {A.nd q with Bi:=(A.nd q).Bi.filter λk=>decide (k≠n)}
  a.set n {a.nd n with GO:=0}
def Ar.Mw(A:Ar)(p n b:Int):Ar:=
 let a:=A.set p {A.nd p with Bi:=I1 (A.nd p).Bi b n}
 a.set n {a.nd n with GO:=p}
def MO(k:Int):Prop:=k=1\/k=2\/k=4
instance(k:Int):Decidable (MO k):=by unfold MO;infer_instance
structure sy(A:Ar)(p n b:Int):Prop where
 hp:A.has p
 hn:A.has n
 hb:b≠0->A.has b/\b≠n/\(A.nd b).GO=p
 kp:MO (A.nd p).kind
 kn:(A.nd n).kind≠1/\(A.nd n).kind≠2
 re:¬Reach A n p
open Classical in
def Ar.F9(A:Ar)(p n b:Int):Ar:=if sy A p n b then(A.cut n).Mw p n b else A
def LC{l:List Int}{b n k:Int}:k∈I1 l b n↔k=n\/k∈l:=by
 unfold I1;split;.simp;exact Or.comm
 .have e:=NR (p:=λk=>decide (k≠b)) (l:=l);constructor
  .intro h;rw[Ao,AF] at h;rcases h with h|h|h
   .exact .inr (by rw[<-e];simp only[Ao];exact .inl h)
   .exact .inl h
   .exact .inr (by rw[<-e];simp only[Ao];exact .inr h)
  .intro h;rw[Ao,AF];rcases h with h|h
   .exact .inr (.inl h)
   .rw[<-e,Ao] at h;rcases h with h|h
    .exact .inl h
    .exact .inr (.inr h)
def pK{l:List Int}{b n:Int}(h:l.Nodup)(hn:n∉l):(I1 l b n).Nodup:=by
 unfold I1;split;.rw[BY];refine⟨h,AB,?_⟩;rintro a ha c hc rfl;simp at hc;subst hc;exact hn ha
 .have e:=NR (p:=λk=>decide (k≠b)) (l:=l);generalize List.takeWhile _ l=u at e⊢;generalize List.dropWhile _ l=w at e⊢;subst e;rw[BY] at h⊢;simp at hn;refine⟨h.1,by simp[h.2.1,hn.2],?_⟩;rintro a ha c hc rfl;simp at hc;rcases hc with rfl|hc
  .exact hn.1 ha
  .exact h.2.2 _ ha _ hc rfl
def YW:(A.cut h).n.length=A.n.length:=by unfold Ar.cut;simp only;split<;>simp[J6]
def KT:(A.cut h).has k↔A.has k:=by unfold Ar.has;rw[YW]
def YX{p n b:Int}:(A.Mw p n b).n.length=A.n.length:=by unfold Ar.Mw;simp[J6]
def ag{p n b:Int}:(A.Mw p n b).has k↔A.has k:=by unfold Ar.has;rw[YX]
def aAX:(A.cut h).inr k=A.inr k:=by unfold Ar.cut;simp only;split<;>simp[TU]
def aAY{p n b:Int}:(A.Mw p n b).inr k=A.inr k:=by unfold Ar.Mw;simp[TU]
def aC5(ok:Eo A e)(a:A.has h)(hu:A.up h≠0):A.up h≠h:=by obtain⟨r,hr⟩:=ok.MF;intro e;have:=hr h a hu;rw[e] at this;exact DI _ this
def vE(ok:Eo A e)(a:A.has h)(hu:(A.nd h).GO≠0):(A.nd h).GO≠h:=by
 have:A.up h=(A.nd h).GO:=by unfold Ar.up;rw[Ae hu]
 have h2:=aC5 ok a (by rw[this];exact hu);rwa [this] at h2
def QX(ok:Eo A e)(a:A.has h):(A.cut h).nd k=if k=h then{A.nd h with GO:=0} else if(A.nd h).GO≠0/\k=(A.nd h).GO then{A.nd k with Bi:=(A.nd k).Bi.filter λm=>decide (m≠h)} else A.nd k:=by
 unfold Ar.cut;simp only
 by_cases hp:(A.nd h).GO=0
 .rw[Ae hp];by_cases e:k=h;.subst e;rw[Ae rfl];have:A.nd k={A.nd k with GO:=(A.nd k).GO}:=rfl;rw[hp] at this;exact this
  .rw[Aa e,Aa (by simp[hp])]
 .have hn:=vE ok a hp;have hq:=(ok.GO h a hp).1;rw[Aa hp];simp only[IS,JI,a,hq,EN];by_cases e:k=h;.subst e;simp[C3 hn]
  .simp[e,hp];split;.rename_i e;simp[e]
   .rfl
def pL{x:HK}(hx:sJ x){l:List Int}(h1:l.Nodup)(h2:l≠[]->MO x.kind):sJ {x with Bi:=l}:=
 {k:=hx.k,Bi:=h2,elem:=hx.elem,nm:=hx.nm,dt:=hx.dt,data:=hx.data,DX:=hx.DX,sp:=hx.sp,Ô:=hx.Ô,Dx:=hx.Dx,QW:=hx.QW,OW:=hx.OW,root:=hx.root,af:=h1}
def ah{x:HK}(hx:sJ x){p:Int}(h2:p≠0->x.kind≠1/\x.kind≠2):sJ {x with GO:=p}:=
 {k:=hx.k,Bi:=hx.Bi,elem:=hx.elem,nm:=hx.nm,dt:=hx.dt,data:=hx.data,DX:=hx.DX,sp:=hx.sp,Ô:=hx.Ô,Dx:=hx.Dx,QW:=hx.QW,OW:=hx.OW,root:=h2,af:=hx.af}
def aET(ok:A.i.length=A.n.length):(A.cut h).i.length=(A.cut h).n.length:=by rw[YW];unfold Ar.cut;simp only;split<;>exact ok
def aEU{p n b:Int}(ok:A.i.length=A.n.length):(A.Mw p n b).i.length=(A.Mw p n b).n.length:=by rw[YX];exact ok
def aAZ(ok:Eo A e)(a:A.has h)(hk:k∈(A.nd h).Bi):k≠h/\(A.nd k).GO=h/\A.has k:=by have:=ok.Ok h a k hk;refine⟨?_,this.2,this.1⟩;rintro rfl;have h0:=this.1.1;exact vE ok a (by rw[this.2];omega) this.2
def Õ(ok:Eo A e)(a:A.has h):(A.cut h).up k=if k=h then(A.nd h).Fv else A.up k:=by
 unfold Ar.up;rw[QX ok a];by_cases e:k=h;.simp[e]
 .simp only[e,DK];split<;>rfl
def iM(ok:Eo A e)(c:A.has h)(UC:(A.nd h).kind≠2):Eo (A.cut h) e:=by
 obtain⟨r,hr⟩:=ok.MF;have a:=λm=>QX (k:=m) ok c;have kd:∀m,((A.cut h).nd m).kind=(A.nd m).kind:=λm=>by rw[a];grind
 have j:∀m,((A.cut h).nd m).BM=(A.nd m).BM:=λm=>by rw[a];grind
 have l:∀m,((A.cut h).nd m).cont=(A.nd m).cont:=λm=>by rw[a];grind
 have ho:∀m,((A.cut h).nd m).Fv=(A.nd m).Fv:=λm=>by rw[a];grind
 have d:(A.nd h).Fv=0:=by
  by_cases h0:(A.nd h).Fv=0;.exact h0
  .exact absurd ((ok.Tg h c).OW h0) UC
 refine⟨aET ok.il,?_,?_,?_,?_,?_,?_,?_,?_,?_,r,?_⟩<;>intro m hm<;>rw[KT] at hm<;>(try simp only[kd,j,l,ho,KT,aAX])
 .rw[a];split;.exact ah (ok.Tg h c) AB
  .split;.exact pL (ok.Tg m hm) ((ok.Tg m hm).af.filter _) λh1=>(ok.Tg m hm).Bi (by intro h2;rw[h2] at h1;simp at h1)
   .exact ok.Tg m hm
 .exact ok.BM m hm
 .exact ok.YT m hm
 .intro h1;have b:m≠h:=by rintro rfl;rw[a] at h1;simp at h1
  have i:((A.cut h).nd m).GO=(A.nd m).GO:=by rw[a,Aa b];split<;>rfl
  rw[i] at h1⊢;have h2:=ok.GO m hm h1;refine⟨h2.1,?_⟩;rw[a];split;.rename_i g;rw[<-g];exact h2.2
  .split;.simp only[BE,CF];exact⟨h2.2,b⟩
   .exact h2.2
 .intro q hq;have h1:q∈(A.nd m).Bi/\(m=(A.nd h).GO->q≠h):=by
   rw[a] at hq;split at hq;.rename_i b;subst b;have:=aAZ ok hm hq;exact⟨hq,λ_=>this.1⟩
   .split at hq;.simp only[BE,CF] at hq;exact⟨hq.1,λ_=>hq.2⟩
    .rename_i h3;refine⟨hq,λf n=>h3 ⟨?_,f⟩⟩;rw[<-f];have:=hm.1;omega
  have h2:=ok.Ok m hm q h1.1;refine⟨h2.1,?_⟩;have b:q≠h:=by rintro rfl;exact h1.2 h2.2.symm rfl
  rw[a,Aa b,<-h2.2];split<;>rfl
 .intro h1 h2;refine ok.Ox m hm h1 ?_;rw[a] at h2;unfold dQ at h2⊢;grind
 .exact ok.cont m hm
 .exact ok.Fv m hm
 .exact ok.ine m hm
 .rw[Õ ok c];split;.rw[d];simp
  .exact hr m hm
def SN{p n b:Int}(hp:A.has p)(hn:A.has n)(hne:n≠p):(A.Mw p n b).nd k=if k=n then{A.nd n with GO:=p} else if k=p then{A.nd p with Bi:=I1 (A.nd p).Bi b n} else A.nd k:=by
 unfold Ar.Mw;simp only[IS,JI,hp,hn,EN];by_cases e:k=n;.subst e;simp[hne]
 .simp[e]
def s_{p n b:Int}(hp:A.has p)(hn:A.has n)(hne:n≠p)(h0:(A.nd n).GO=0)(a:(A.nd n).Fv=0)(hr:¬Reach A n p):∀{m},¬Reach A n m->(A.Mw p n b).up m=A.up m:=by
 intro m hm;have e:m≠n:=by rintro rfl;exact hm .refl
 unfold Ar.up;rw[SN hp hn hne,Aa e];split;.rename_i e;subst e;rfl
 .rfl
open Classical in
def aEW(ok:Eo A e){p n b:Int}(hp:A.has p)(hn:A.has n)(kp:MO (A.nd p).kind)(kn:(A.nd n).kind≠1/\(A.nd n).kind≠2)(re:¬Reach A n p)(h0:(A.nd n).GO=0):Eo (A.Mw p n b) e:=by
 obtain⟨r,hr⟩:=ok.MF;have hne:n≠p:=by rintro rfl;exact re .refl
 have a:=λm=>SN (k:=m) (b:=b) hp hn hne;have kd:∀m,((A.Mw p n b).nd m).kind=(A.nd m).kind:=λm=>by rw[a];grind
 have l:∀m,((A.Mw p n b).nd m).BM=(A.nd m).BM:=λm=>by rw[a];grind
 have o:∀m,((A.Mw p n b).nd m).cont=(A.nd m).cont:=λm=>by rw[a];grind
 have ho:∀m,((A.Mw p n b).nd m).Fv=(A.nd m).Fv:=λm=>by rw[a];grind
 have i:(A.nd n).Fv=0:=by
  by_cases h0:(A.nd n).Fv=0;.exact h0
  .exact absurd ((ok.Tg n hn).OW h0) kn.2
 have g:∀m,A.has m->n∉(A.nd m).Bi:=by intro m hm h1;have:=ok.Ok m hm n h1;rw[h0] at this;have:=hm.1;omega
 refine⟨aEU ok.il,?_,?_,?_,?_,?_,?_,?_,?_,?_,λm=>if Reach A n m then r m+r p+1 else r m,?_⟩<;>intro m hm<;>rw[ag] at hm<;>(try simp only[kd,l,o,ho,ag,aAY])
 .rw[a];split;.exact ah (ok.Tg n hn) λ_=>kn
  .split;.exact pL (ok.Tg p hp) (pK (ok.Tg p hp).af (g p hp)) λ_=>kp
   .exact ok.Tg m hm
 .exact ok.BM m hm
 .exact ok.YT m hm
 .intro h1;by_cases c:m=n
  .subst c;rw[a,Ae rfl];refine⟨hp,?_⟩;simp only
   rw[a,Aa (C3 hne),Ae rfl];exact LC.2 (.inl rfl)
  .have f:((A.Mw p n b).nd m).GO=(A.nd m).GO:=by rw[a,Aa c];split;rename_i e;rw[e];rfl
   rw[f] at h1⊢;have h2:=ok.GO m hm h1;refine⟨h2.1,?_⟩;rw[a];split;.rename_i j;rw[<-j];exact h2.2
   .split;.rename_i j;rw[<-j];exact LC.2 (.inr h2.2)
    .exact h2.2
 .intro q hq;by_cases c:q=n
  .subst c;refine⟨hn,?_⟩;rw[a,Ae rfl];rw[a] at hq;split at hq;.exact absurd hq (g q hn)
   .split at hq;.rename_i e;exact e.symm
    .exact absurd hq (g m hm)
  .have h1:q∈(A.nd m).Bi:=by
    rw[a] at hq;split at hq;.rename_i e;rw[e];exact hq
    .split at hq;.rename_i e;rw[e];exact(LC.1 hq).resolve_left c
     .exact hq
   have h2:=ok.Ok m hm q h1;refine⟨h2.1,?_⟩;rw[a,Aa c,<-h2.2];split;.rename_i e;rw[e]
   .rfl
 .intro h1 h2;refine ok.Ox m hm h1 ?_;rw[a] at h2;unfold dQ at h2⊢;grind
 .exact ok.cont m hm
 .exact ok.Fv m hm
 .exact ok.ine m hm
 .intro hu;by_cases hR:Reach A n m
  .by_cases c:m=n
   .subst c;have f:(A.Mw p m b).up m=p:=by unfold Ar.up;rw[a,Ae rfl];simp only;rw[Ae];have:=hp.1;omega
    rw[f,Aa re,Ae hR];omega
   .have f:(A.Mw p n b).up m=A.up m:=by
     unfold Ar.up;rw[a,Aa c];split;.rename_i e;rw[e]
     .rfl
    rw[f] at hu⊢;have d:Reach A n (A.up m):=by
     cases hR with
     |refl=>exact absurd rfl c
     |step _ hx=>exact hx
    rw[Ae d,Ae hR];have:=hr m hm hu;omega
  .have f:=s_ (b:=b) hp hn hne h0 i re hR;rw[f] at hu⊢;have d:¬Reach A n (A.up m):=λh=>hR (.step hu h);rw[Aa d,Aa hR];exact hr m hm hu
def ta(ok:Eo A e)(b:A.has h){m:Int}(hr:¬Reach A h m):¬Reach (A.cut h) h m:=by
 intro Ng;have key:∀m,Reach (A.cut h) h m->Reach A h m:=by
  intro m hm;induction hm with
  |refl=>exact .refl
  |@step q h1 _ ih=>
   by_cases a:q=h;.rw[a];exact .refl
   .rw[Õ ok b,Aa a] at h1 ih;exact .step h1 ih
 exact hr (key m Ng)
def N5(ok:Eo A e){p n b:Int}:Eo (A.F9 p n b) e:=by
 unfold Ar.F9;split
 .rename_i f;have a:=iM ok f.hn f.kn.2;have kd:∀m,((A.cut n).nd m).kind=(A.nd m).kind:=λm=>by rw[QX ok f.hn];grind
  refine aEW a (KT.2 f.hp) (KT.2 f.hn) ?_ ?_ (ta ok f.hn f.re) ?_;.rw[kd];exact f.kp
  .rw[kd];exact f.kn
  .rw[QX ok f.hn,Ae rfl]
 .exact ok
def iN(ok:Eo A e)(g:A.has h)(hx:sJ x)(h1:x.kind=(A.nd h).kind)(h2:x.GO=(A.nd h).GO)(h3:x.Bi=(A.nd h).Bi)(d:A.has x.BM/\(A.nd x.BM).kind=1/\(x.kind=1->x.BM=h))(n:x.cont=(A.nd h).cont)(l:x.Fv=(A.nd h).Fv)(i:dQ x->dQ (A.nd h)):Eo (A.set h x) e:=by
 obtain⟨r,hr⟩:=ok.MF;have a:∀m,(A.set h x).nd m=if m=h then x else A.nd m:=λm=>by rw[IS];simp[g]
 have kd:∀m,((A.set h x).nd m).kind=(A.nd m).kind:=λm=>by rw[a];grind
 have f:∀m,((A.set h x).nd m).GO=(A.nd m).GO:=λm=>by rw[a];grind
 have ks:∀m,((A.set h x).nd m).Bi=(A.nd m).Bi:=λm=>by rw[a];grind
 have j:∀m,((A.set h x).nd m).cont=(A.nd m).cont:=λm=>by rw[a];grind
 have ho:∀m,((A.set h x).nd m).Fv=(A.nd m).Fv:=λm=>by rw[a];grind
 have u:∀m,(A.set h x).up m=A.up m:=λm=>by unfold Ar.up;rw[f,ho]
 refine⟨by rw[J6];exact ok.il,?_,?_,?_,?_,?_,?_,?_,?_,?_,r,?_⟩<;>intro m hm<;>rw[JI] at hm<;>(try simp only[kd,f,ks,j,ho,u,JI,TU])
 .rw[a];split;.exact hx
  .exact ok.Tg m hm
 .rw[a];split;.exact⟨d.1,d.2.1⟩
  .exact ok.BM m hm
 .rw[a];split;.rename_i e;intro c;rw[e,d.2.2 (by rw[h1,<-e];exact c)]
  .exact ok.YT m hm
 .exact ok.GO m hm
 .exact ok.Ok m hm
 .intro c b;refine ok.Ox m hm c ?_;rw[a] at b;split at b;.rename_i e;rw[e];exact i b
  .exact b
 .exact ok.cont m hm
 .exact ok.Fv m hm
 .exact ok.ine m hm
 .exact hr m hm
def Ar.IU(A:Ar)(d:Int):Int:=if A.inr d≠0 then A.inr d else A.len+1
def Ar.Fo(A:Ar)(d:Int):Ar:=if A.inr d≠0 then A else((A.add {kind:=1,BM:=A.len+1}).OU d (A.len+1)).OU (A.len+1) (A.len+1)
def aA0:sJ {kind:=1,BM:=k}:=by constructor<;>simp[Dx,GP]
def aj(ok:Eo A e)(hk:A.has k/\(A.nd k).kind=1):Eo (A.OU h k) e:=by
 refine⟨?_,ok.Tg,ok.BM,ok.YT,ok.GO,ok.Ok,ok.Ox,ok.cont,ok.Fv,?_,ok.MF⟩;.simp only[Ar.OU];split<;>simp[ok.il]
 .intro m hm h1;rw[TV] at hm;rw[YR ok.il] at h1⊢;split at h1;.rename_i h2;rw[Ae h2];exact hk
  .rename_i h2;rw[Aa h2];exact ok.ine m hm h1
def Ö(ok:Eo A e)(b:A.has h)(he:e≠A.len+1):Eo (A.Fo h) e/\(A.Fo h).has (A.IU h)/\((A.Fo h).nd (A.IU h)).kind=1:=by
 unfold Ar.Fo Ar.IU;split;.rename_i h1;exact⟨ok,ok.ine h b h1⟩
 .have a:=PI ok (x:={kind:=1,BM:=A.len+1}) aA0 (.inl ⟨rfl,rfl⟩) rfl rfl rfl rfl (by simp[dQ]);have h2:(A.add {kind:=1,BM:=A.len+1}).has (A.len+1)/\((A.add {kind:=1,BM:=A.len+1}).nd (A.len+1)).kind=1:=by rw[DO,Jj,Ae rfl];exact⟨.inr rfl,rfl⟩
  exact⟨aj (aj a h2) h2,h2⟩
def YY(hk:k≠A.len+1\/A.inr h≠0):(A.Fo h).nd k=A.nd k:=by
 unfold Ar.Fo;split;.rfl
 .rename_i h1;rw[ae,ae,Jj,Aa (hk.resolve_right h1)]
def tc:(A.Fo h).len=if A.inr h≠0 then A.len else A.len+1:=by
 unfold Ar.Fo;split;.rfl
 .rw[pH,pH,RF]
def OX:A.has k->(A.Fo h).has k:=by
 unfold Ar.Fo;split;.exact id
 .intro hk;rw[TV,TV,DO];exact .inl hk
def aA1{d:Int}(ok:Eo A e)(he:A.has e)(l:dQ (A.nd e))(hc:(A.nd e).cont=0)(hd:A.has d/\(A.nd d).kind=1):Eo ((A.add {kind:=2,Fv:=e,BM:=d}).set e {A.nd e with cont:=A.len+1}) 0:=by
 have no:=Om (A:=A);obtain⟨r,hr⟩:=ok.MF;have ne:∀{k},A.has k->k≠A.len+1:=λhk e=>no (e▸hk);have l0:A.len+1≠0:=by have:=he.1;have:=he.2;unfold Ar.len;omega
 have b:∀m,(((A.add {kind:=2,Fv:=e,BM:=d}).set e {A.nd e with cont:=A.len+1}).nd m)=if m=e then{A.nd e with cont:=A.len+1} else if m=A.len+1 then{kind:=2,Fv:=e,BM:=d} else A.nd m:=λm=>by rw[IS,Jj];simp[he,DO]
 have hk:(A.nd e).kind=4:=l.1;have h0:(A.nd e).Fv=0:=by
  by_cases h0:(A.nd e).Fv=0;.exact h0
  .have:=(ok.Tg e he).OW h0;omega
 have e0:e≠0:=by have:=he.1;omega
 have i:sJ {kind:=2,Fv:=e,BM:=d}:=by constructor<;>simp[Dx,GP]
 have Tg:=ok.Tg;have c:=Tg e he;have hne:sJ {A.nd e with cont:=A.len+1}:={k:=c.k,Bi:=c.Bi,elem:=c.elem,nm:=c.nm,dt:=c.dt,data:=c.data,DX:=c.DX,sp:=c.sp,Ô:=c.Ô,Dx:=c.Dx,QW:=λ_=>l,OW:=c.OW,root:=c.root,af:=c.af};have hs:∀m,((A.add {kind:=2,Fv:=e,BM:=d}).set e {A.nd e with cont:=A.len+1}).has m↔A.has m\/m=A.len+1:=λm=>by rw[JI,DO]
 have hi:∀m,((A.add {kind:=2,Fv:=e,BM:=d}).set e {A.nd e with cont:=A.len+1}).inr m=A.inr m:=λm=>by rw[TU,W0 ok.il]
 have g:e≠A.len+1:=ne he;refine⟨by rw[J6];simp[Ar.add,Ar.set,ok.il],?_,?_,?_,?_,?_,?_,?_,?_,?_,λm=>if m=A.len+1 then r e+1 else r m,?_⟩<;>intro m hm<;>rw[hs] at hm<;>(try simp only[hs,hi])
 .rw[b];split;.exact hne
  .split;.exact i
   .rename_i h1 h2;exact Tg m (hm.resolve_right h2)
 .have key:∀q,A.has q/\(A.nd q).kind=1->(A.has q\/q=A.len+1)/\(((A.add {kind:=2,Fv:=e,BM:=d}).set e {A.nd e with cont:=A.len+1}).nd q).kind=1:=by
   intro q hq;refine⟨.inl hq.1,?_⟩;rw[b,Aa (ne hq.1)];split;.rename_i a;rw[a] at hq;exact hq.2
   .exact hq.2
  rw[b m];split;.exact key _ (ok.BM e he)
  .split;.exact key _ hd
   .rename_i h1 h2;exact key _ (ok.BM m (hm.resolve_right h2))
 .rw[b m];split;.rename_i a;intro h1;rw[a];exact ok.YT e he h1
  .split;.intro h1;simp at h1
   .rename_i h1 h2;exact ok.YT m (hm.resolve_right h2)
 .have key:∀q,A.has q->(A.nd q).GO≠0->(A.has (A.nd q).GO\/(A.nd q).GO=A.len+1)/\q∈(((A.add {kind:=2,Fv:=e,BM:=d}).set e {A.nd e with cont:=A.len+1}).nd (A.nd q).GO).Bi:=by
   intro q hq hp;have h1:=ok.GO q hq hp;refine⟨.inl h1.1,?_⟩;rw[b,Aa (ne h1.1)];split;.rename_i a;rw[a] at h1;exact h1.2
   .exact h1.2
  rw[b m];split;.rename_i a;rw[a];exact key e he
  .split;.intro h1;simp at h1
   .rename_i h1 h2;exact key m (hm.resolve_right h2)
 .have key:∀q,A.has q->∀k∈(A.nd q).Bi,(A.has k\/k=A.len+1)/\(((A.add {kind:=2,Fv:=e,BM:=d}).set e {A.nd e with cont:=A.len+1}).nd k).GO=q:=by
   intro q hq k hk;have h1:=ok.Ok q hq k hk;refine⟨.inl h1.1,?_⟩;rw[b,Aa (ne h1.1)];split;.rename_i a;rw[a] at h1;exact h1.2
   .exact h1.2
  rw[b m];split;.rename_i a;rw[a];exact key e he
  .split;.intro k hk;simp at hk
   .rename_i h1 h2;exact key m (hm.resolve_right h2)
 .intro _;rw[b m];split;.intro _;exact l0
  .split;.intro h1;simp[dQ] at h1
   .rename_i h1 h2;exact ok.Ox m (hm.resolve_right h2) h1
 .rw[b m];split
  .rename_i a;intro _;simp only
   rw[b,Aa (C3 g),Ae rfl,a];exact⟨.inr trivial,rfl,rfl⟩
  .split;.intro h1;simp at h1
   .rename_i h1 h2;intro h3;have f:=ok.cont m (hm.resolve_right h2) h3;refine⟨.inl f.1,?_⟩;rw[b,Aa (ne f.1)];split;.rename_i a;rw[a,hk] at f;exact absurd f.2.1 Az
    .exact f.2
 .rw[b m];split;.intro h1;exact absurd h0 h1
  .split;.rename_i a;intro _;simp only;refine⟨.inl he,?_⟩;rw[b,Ae rfl,a]
   .rename_i h1 h2;intro h3;have f:=ok.Fv m (hm.resolve_right h2) h3;refine⟨.inl f.1,?_⟩;rw[b,Aa (ne f.1)];split;.rename_i a;rw[a,hc] at f;have:=(hm.resolve_right h2).1;omega
    .exact f.2
 .intro h1;rcases hm with hm|rfl
  .have h2:=ok.ine m hm h1;refine⟨.inl h2.1,?_⟩;rw[b,Aa (ne h2.1)];split;.rename_i a;rw[a] at h2;exact h2.2
   .exact h2.2
  .exfalso;apply h1;unfold Ar.inr;rw[Aa no]
 .by_cases a:m=A.len+1
  .have j:((A.add {kind:=2,Fv:=e,BM:=d}).set e {A.nd e with cont:=A.len+1}).up m=e:=by
    have n:m≠e:=by rw[a];exact C3 g
    unfold Ar.up;rw[b m];simp[a,C3 g]
   rw[j,Aa g,Ae a];intro _;omega
  .have hm:=hm.resolve_right a;have j:((A.add {kind:=2,Fv:=e,BM:=d}).set e {A.nd e with cont:=A.len+1}).up m=A.up m:=by
    unfold Ar.up;rw[b];split;.rename_i n;rw[n]
    .rfl
   rw[j,Aa a];intro h1;rw[Aa (ne (YV ok hm h1))];exact hr m hm h1
def Ar.elem(A:Ar)(d sp:Int)(nm:Ah)(at_:List Bj):Ar:=
 let x:HK:={kind:=4,BM:=d,Bd:=sp,name:=nm,As:=Dx at_}
 if dQ x then
  let b:=A.add x
  let a:=b.Fo d
  (a.add {kind:=2,Fv:=A.len+1,BM:=b.IU d}).set (A.len+1) {x with cont:=a.len+1}
 else A.add x
def aA2{d sp:Int}{nm:Ah}{l:List Bj}(ok:Eo A 0)(hd:A.has d/\(A.nd d).kind=1)(hs:0<=sp/\sp<=7)(hl:∀a∈l,0<=a.Bd/\a.Bd<=7):Eo (A.elem d sp nm l) 0:=by
 have hx:sJ {kind:=4,BM:=d,Bd:=sp,name:=nm,As:=Dx l}:=by constructor<;>simp[dR,hs];exact λa ha=>hl a (pJ ha)
 unfold Ar.elem;simp only
 split
 .rename_i c;have b:Eo A (A.len+1):={ok with Ox:=λh g _=>ok.Ox h g (by have:=g.1;omega)};have j:=PI b hx (.inr ⟨AB,hd⟩) rfl rfl rfl rfl λ_=>rfl;have ŵ:(A.add {kind:=4,BM:=d,Bd:=sp,name:=nm,As:=Dx l}).has d:=DO.2 (.inl hd.1);obtain⟨i,h2,h3⟩:=Ö j ŵ (by rw[RF];omega);have f:((A.add {kind:=4,BM:=d,Bd:=sp,name:=nm,As:=Dx l}).Fo d).nd (A.len+1)={kind:=4,BM:=d,Bd:=sp,name:=nm,As:=Dx l}:=by rw[YY (.inl (by rw[RF];omega)),Jj,Ae rfl]
  have:=aA1 i (OX (DO.2 (.inr rfl))) (by rw[f];exact c) (by rw[f]) ⟨h2,h3⟩;rw[f] at this;exact this
 .rename_i c;exact PI ok hx (.inr ⟨AB,hd⟩) rfl rfl rfl rfl λh=>absurd h c
end
def aOk(e:Cn):Bool:=decide (e.node=0)
def VZ(n:Int)(e:Cn):Bool:=decide (e.node=n)
def vF(l:List Cn):Int:=AD aOk l+1
def FU(n:Int)(l:List Cn):Int:=if n=0 then -1 else AD (VZ n) l
def PJ(name:Ah):List Cn->Int
 |[]=> -1
 |x::t=>if x.node=0 then -1 else if x.name=name then(t.length:Int) else PJ name t
def DT(name:Ah)(l:List Cn):Int:=PJ name l.reverse
def ak(e:Cn):List Cn->Nat
 |[]=>0
 |x::t=>if x.node=0 then 0 else ak e t+(if ME x e=true then 1 else 0)
def pM(e:Cn):List Cn->Int
 |[]=> -1
 |x::t=>if x.node=0 then -1 else if 0<=pM e t then pM e t else if ME x e=true then(t.length:Int) else -1
def pO(e:Cn)(l:List Cn):List Cn:=(if e.node≠0/\3<=ak e l.reverse then BA l (pM e l.reverse).toNat else l)++[e]
def FF(l:List Cn):List Cn:=l.take (vF l-1).toNat
structure BS where
 a:Ar
 BM:Int
 Au:List Item
 A3:List Cn
 mode:Int
 IV:Int
 tm:List Int
 head:Int
 Ha:Int
 Lh:Bool
 ctx:Item
 fs:Bool
 D4:Bool
 aJW:Ah
 skip:Bool
 sw:Int
 stop:Bool
def sK(s:List Ah)(A:Ar)(h:Int):Prop:=(A.nd h).kind=4/\(A.nd h).Bd=1/\(A.nd h).name∈s
instance(s:List Ah)(A:Ar)(h:Int):Decidable (sK s A h):=by unfold sK;infer_instance
abbrev JS:Ah:=aX4
abbrev vG:Ah:=aYB
abbrev vH:Ah:=aYy
abbrev vI:Ah:=aYC
abbrev wTr:Ah:=[116,114]
abbrev wP:Ah:=[112]
def Kn:List Ah:=[JS,vG,vH,vI,wTr]
namespace BS
def On(b:BS):Int×Int:=
 let d:=AD (AH [AW]) b.Au
 let c:=AD (AH [JS]) b.Au
 if c<d then((El b.Au d).node,0) else if c<0 then((El b.Au 0).node,0) else
 let t:=(El b.Au c).node
 if(b.a.nd t).GO≠0 then((b.a.nd t).GO,t) else((El b.Au (max (c-1) 0)).node,0)
def place(b:BS)(t:Int):Int×Int:=
 if t=0/\b.Au=[] then(b.BM,0) else
 let t':=if t=0 then(DP b.Au).node else t
 let pb:=if b.D4=true/\sK Kn b.a t' then b.On else(t',0)
 if(b.a.nd pb.1).cont≠0 then((b.a.nd pb.1).cont,0) else pb
end BS
open Classical in
def Ar.Et(A:Ar)(h p bf:Int):Ar:=if(A.nd p).kind=1/\(A.nd h).kind=4/\(∃k∈(A.nd p).Bi,(A.nd k).kind=4) then A else A.F9 p h bf
namespace BS
def Ko(b:BS)(p:Int):Int:=if(b.a.nd p).cont≠0 then(if(b.a.nd (b.a.nd p).cont).BM≠0 then(b.a.nd (b.a.nd p).cont).BM else b.BM) else if(b.a.nd p).BM≠0 then(b.a.nd p).BM else b.BM
def LD(sp:Int):Prop:=0<=sp/\sp<=7
instance(sp:Int):Decidable (LD sp):=by unfold LD;infer_instance
def Mf(sp:Int)(nm:Ah):Ah:=if sp=2 then Eb nm OR else nm
def HA(b:BS)(nm:Ah)(at_:List Bj)(sp:Int):Item:=if LD sp then⟨b.a.len+1,sp,Mf sp nm,RD sp (Mf sp nm) (at_.map (DR sp))⟩ else Item.zero
def Gf(b:BS)(nm:Ah)(at_:List Bj)(sp p:Int):BS:=if LD sp then{b with a:=b.a.elem (b.Ko p) sp (Mf sp nm) (at_.map (DR sp))} else b
def Li(b:BS)(sp:Int):Int:=if LD sp then b.a.len+1 else 0
def Co(b:BS)(nm:Ah)(at_:List Bj)(sp:Int):BS:=
 if LD sp then
  let pb:=b.place 0
  let b1:=b.Gf nm at_ sp pb.1
  {b1 with a:=b1.a.Et (b.a.len+1) pb.1 pb.2,Au:=b1.Au++[b.HA nm at_ sp]}
 else b
def Eu(b:BS)(nm:Ah)(at_:List Bj):BS:=
 let b1:=b.Co nm at_ 1
 {b1 with A3:=pO ⟨b.a.len+1,nm,at_⟩ b1.A3}
end BS
def Ga(r:Int):Ah:=
 if 0<=r/\r<128 then[UInt8.ofNat r.toNat]
 else if 128<=r/\r<2048 then[UInt8.ofNat (192+r.toNat/64),UInt8.ofNat (128+r.toNat%64)]
 else if 2048<=r/\r<65536/\¬(55296<=r/\r<57344) then[UInt8.ofNat (224+r.toNat/4096),UInt8.ofNat (128+r.toNat/64%64),UInt8.ofNat (128+r.toNat%64)]
 else if 65536<=r/\r<=1114111 then[UInt8.ofNat (240+r.toNat/262144),UInt8.ofNat (128+r.toNat/4096%64),UInt8.ofNat (128+r.toNat/64%64),UInt8.ofNat (128+r.toNat%64)]
 else[239,191,189]
def QY(l:List Int)(bf:Int):Option Int:=if bf=0 then l.getLast? else(l.takeWhile λk=>decide (k≠bf)).getLast?
def Ar.N6(A:Ar)(h:Int)(s:Ah):Ar:=A.set h {A.nd h with data:=s}
def Ar.No(A:Ar)(h:Int)(l:List Bj):Ar:=A.set h {A.nd h with As:=Dx l}
namespace BS
def JT(A:Ar)(s:Ah)(p bf:Int):Ar:=
 if(A.nd p).kind=4\/(A.nd p).kind=2 then
  match QY (A.nd p).Bi bf with
  |some t=>if(A.nd t).kind=5 then A.N6 t ((A.nd t).data++s) else(A.add {kind:=5,BM:=(A.nd p).BM,data:=s}).Et (A.len+1) p bf
  |none=>(A.add {kind:=5,BM:=(A.nd p).BM,data:=s}).Et (A.len+1) p bf
 else A
def Jk(b:BS)(r:Int):BS:={b with a:=JT b.a (Ga r) (b.place 0).1 (b.place 0).2}
def H5(A:Ar)(s:Ah)(p bf:Int):Ar:=
 if MO (A.nd p).kind then(A.add {kind:=6,BM:=(A.nd p).BM,data:=s}).Et (A.len+1) p bf else A
def DD(b:BS)(s:Ah)(p:Int):BS:={b with a:=if p=0 then H5 b.a s (b.place 0).1 (b.place 0).2 else H5 b.a s p 0}
def Dj(b:BS)(nm:Ah)(at_:List Bj)(st:Int):BS:=let b1:=b.Co nm at_ 1;{b1 with sw:=st,IV:=b1.mode,mode:=8}
def B7(b:BS):BS:=if IC (AH [wP]) (Im 3) b.Au.reverse then{b with Au:=D6 Dm (AH [wP]) (D6 (CL wP) Dm b.Au)} else b
def settled(b:BS)(e:Cn):Bool:=decide (e.node=0\/0<=AD (Bt e.node) b.Au)
def JJ:List Cn->BS->List Cn×BS
 |[],b=>([],b)
 |e::l,b=>let r:=JJ l (b.Co e.name e.As 1);({e with node:=b.a.len+1}::r.1,r.2)
def NM(b:BS):Nat:=(AD b.settled b.A3+1).toNat
def AM(b:BS):BS:=let r:=JJ (b.A3.drop b.NM) b;{r.2 with A3:=b.A3.take b.NM++r.1}
def C1(b:BS)(nm:Ah):BS:=match b.Au.reverse.find? λi=>AH [nm] i||AS i with
 |some i=>if AH [nm] i then{b with Au:=Hq i.node (D6 (CL nm) Dm b.Au)} else b
 |none=>b
def RG(l:List Item):Int:=match l.reverse.find? λi=>AH [AW] i||AH [JS] i with
 |some i=>if AH [AW] i then 16 else 17
 |none=>16
end BS
abbrev Ø:Ah:=aYe
abbrev td:Ah:=aYm
abbrev Ii:Ah:=aXS
abbrev tg:Ah:=aXV
abbrev KU:Ah:=aYp
abbrev xq:Ah:=[116,100]
abbrev xr:Ah:=[116,104]
abbrev I2:Ah:=aXR
abbrev IW:Ah:=aXM
def IE:List (Ah×Int):=[(wTr,14),(vG,13),(vI,13),(vH,13),(Ø,11),(td,12),(JS,9),(Ii,7),(tg,20)]
namespace BS
def HF(b:BS)(x:Item)(k:Nat):Option Int:=
 if x.Bd=1 then
  match IE.find? λr=>decide (r.1=x.name) with
  |some r=>some r.2
  |none=>
   if x.name=KU then some (RG (b.Au.take k))
   else if(x.name=xq\/x.name=xr)/\0<k then some 15
   else if x.name=AW then some (b.tm.getLast?.getD 7)
   else if x.name=I2/\0<k then some 4
   else if x.name=IW then some (if b.head=0 then 3 else 6)
   else if k=0 then some 7 else none
 else if k=0 then some 7 else none
def D7(b:BS)(k:Nat):Item:=if k=0/\b.Lh=true then b.ctx else b.Au.getD k Item.zero
def Io(b:BS):Nat->Int
 |0=>7
 |k+1=>match b.HF (b.D7 k) k with
  |some m=>m
  |none=>b.Io k
def JR(b:BS):BS:={b with mode:=b.Io b.Au.length}
def plain(l:List Bj):List Bj:=l.map λa=>⟨0,a.name,a.value⟩
def FJ(b:BS)(l:List Bj)(h:Int):BS:=if(b.a.nd h).kind=4 then{b with a:=b.a.No h ((b.a.nd h).As++plain l)} else b
def Dn(b:BS):BS:=
 if AD (AH [AW]) b.Au<0 then b
 else JR {b with Au:=D6 Dm (AH [AW]) (D6 EG Dm b.Au),A3:=FF b.A3,tm:=b.tm.dropLast}
def FB(b:BS):BS:=if b.Au.length<2 then b else{b with Au:=b.Au.take (b.Au.length-1)}
def aEX(b:BS):Item:=if b.Au.length<2 then Item.zero else DP b.Au
end BS
def Cn.zero:Cn:=⟨0,[],[]⟩
namespace BS
def Gu(blk anc:Int)(far i:Nat)(b:BS)(l:Int)(m:Nat):BS×Int×Nat:=
 let x:=b.Au.getD i Item.zero
 let e:=FU x.node b.A3
 if e<0 then({b with Au:=BA b.Au i},l,m)
 else if i+3<far then({b with A3:=BA b.A3 e.toNat,Au:=BA b.Au i},l,if e.toNat<m then m-1 else m)
 else
  let en:=b.A3.getD e.toNat Cn.zero
  let n:=b.HA en.name en.As 1
  let b1:=b.Gf en.name en.As 1 anc
  ({b1 with a:=b1.a.F9 n.node l 0,Au:=b1.Au.set i n,A3:=b1.A3.set e.toNat {en with node:=n.node}},n.node,if l=blk then e.toNat+1 else m)
def Np(blk anc:Int)(far k:Nat):Nat->BS×Int×Nat->BS×Int×Nat
 |0,s=>s
 |c+1,s=>Np blk anc far k c (Gu blk anc far (k+(c+1)) s.1 s.2.1 s.2.2)
def DA(A:Ar)(n:Int)(l:List Int):Ar:=l.foldl (λA x=>A.F9 n x 0) A
def IX(fe:Cn)(blk anc:Int)(s:BS×Int×Nat):BS:=
 let b1:=s.1
 let pb:=b1.place anc
 let b2:={b1 with a:=b1.a.Et s.2.1 pb.1 pb.2}
 let n:=b2.HA fe.name fe.As 1
 let b3:=b2.Gf fe.name fe.As 1 blk
 let b:=FU fe.node b3.A3
 let mk:=if b.toNat<s.2.2 then s.2.2 -1 else s.2.2
 let ac:=BA b3.A3 b.toNat
 let op:=Cg fe.node b3.Au
 let ip:=H0 (AD (Bt blk) op+1) op.length
 {b3 with a:=(DA b3.a n.node (b3.a.nd blk).Bi).F9 blk n.node 0,A3:=ac.take (Hr mk ac.length)++{fe with node:=n.node}::ac.drop (Hr mk ac.length),Au:=op.take ip++n::op.drop ip}
def round(b:BS)(nm:Ah):Bool×BS:=
 let f:=DT nm b.A3
 if f<0 then(false,b.C1 nm) else
 let fe:=b.A3.getD f.toNat Cn.zero
 let k:=AD (Bt fe.node) b.Au
 if k<0 then(false,{b with A3:=BA b.A3 f.toNat}) else
 if k=0\/IC (Bt fe.node) (Im 1) b.Au.reverse=false then(false,b) else
 let far:=Ec fe.node b.Au
 if far<0 then(false,{b with Au:=Hq fe.node b.Au,A3:=BA b.A3 f.toNat}) else
 let blk:=(b.Au.getD far.toNat Item.zero).node
 let anc:=(b.Au.getD (k.toNat-1) Item.zero).node
 (true,IX fe blk anc (Np blk anc far.toNat k.toNat (far.toNat-1 -k.toNat) (b,blk,f.toNat)))
def Gp:Nat->BS->Ah->BS
 |0,b,_=>b
 |n+1,b,nm=>let r:=b.round nm;if r.1 then Gp n r.2 nm else r.2
def C7(b:BS)(nm:Ah):BS:=
 if AH [nm] (DP b.Au)/\FU (DP b.Au).node b.A3<0 then b.FB else Gp 8 b nm
end BS
structure Le(A A':Ar):Prop where
 has:∀h,A.has h->A'.has h
 kind:∀h,A.has h->(A'.nd h).kind=(A.nd h).kind
 Bd:∀h,A.has h->(A'.nd h).Bd=(A.nd h).Bd
 name:∀h,A.has h->(A'.nd h).name=(A.nd h).name
section
variable{A A' A'':Ar}{h k e p n b:Int}{x:HK}
def Le.refl:Le A A:=⟨λ_ h=>h,λ_ _=>rfl,λ_ _=>rfl,λ_ _=>rfl⟩
def Le.trans(h1:Le A A')(h2:Le A' A''):Le A A'':=⟨λh a=>h2.has h (h1.has h a),λh a=>by rw[h2.kind h (h1.has h a),h1.kind h a],λh a=>by rw[h2.Bd h (h1.has h a),h1.Bd h a],λh a=>by rw[h2.name h (h1.has h a),h1.name h a]⟩
def Le.aC6(h1:∀h,A.has h->A'.has h)(h2:∀h,A.has h->A'.nd h=A.nd h):Le A A':=⟨h1,λh a=>by rw[h2 h a],λh a=>by rw[h2 h a],λh a=>by rw[h2 h a]⟩
def Oo(a:A.has h):h≠A.len+1:=λe=>Om (A:=A) (e▸a)
def Jl(a:A.has h):(A.add x).nd h=A.nd h:=by rw[Jj,Aa (Oo a)]
def PK:Le A (A.add x):= .aC6 (λh a=>DO.2 (.inl a)) λh a=>Jl a
def PL(h1:x.kind=(A.nd h).kind)(h2:x.Bd=(A.nd h).Bd)(h3:x.name=(A.nd h).name):Le A (A.set h x):=by
 refine⟨λk hk=>JI.2 hk,?_,?_,?_⟩<;>intro k hk<;>rw[IS]<;>split;.rename_i e;rw[e.1,h1]
 .rfl
 .rename_i e;rw[e.1,h2]
 .rfl
 .rename_i e;rw[e.1,h3]
 .rfl
def al{l:List Int}:Le A (A.set h {A.nd h with Bi:=l}):=PL rfl rfl rfl
def ao:Le A (A.set h {A.nd h with GO:=p}):=PL rfl rfl rfl
def vJ:Le A (A.cut n):=by
 unfold Ar.cut;simp only;split;.exact .refl
 .exact Le.trans al ao
def Ù:Le A (A.Mw p n b):=Le.trans al ao
def Hs:Le A (A.F9 p n b):=by unfold Ar.F9;split;exact vJ.trans Ù;exact .refl
def JK:Le A (A.Et n p b):=by unfold Ar.Et;split;exact .refl;exact Hs
def PM(ok:Eo A e):Eo (A.Et n p b) e:=by unfold Ar.Et;split;exact ok;exact N5 ok
def Ú:(A.F9 p n b).len=A.len:=by unfold Ar.len Ar.F9;split;rw[YX,YW];rfl
def Û:(A.Et n p b).len=A.len:=by unfold Ar.Et;split;rfl;exact Ú
def TX{d sp:Int}{nm:Ah}{l:List Bj}(a:A.has h):(A.elem d sp nm l).has h/\(A.elem d sp nm l).nd h=A.nd h:=by
 have hne:=Oo a;unfold Ar.elem;simp only
 split;.have h1:(A.add {kind:=4,BM:=d,Bd:=sp,name:=nm,As:=Dx l}).has h:=DO.2 (.inl a);refine⟨JI.2 (DO.2 (.inl (OX h1))),?_⟩;rw[IS,Aa (λe=>hne e.1),Jl (OX h1),YY (.inl (Oo h1)),Jl a]
 .exact⟨DO.2 (.inl a),Jl a⟩
def OY{d sp:Int}{nm:Ah}{l:List Bj}:(A.elem d sp nm l).has (A.len+1)/\((A.elem d sp nm l).nd (A.len+1)).kind=4/\((A.elem d sp nm l).nd (A.len+1)).Bd=sp/\((A.elem d sp nm l).nd (A.len+1)).name=nm/\((A.elem d sp nm l).nd (A.len+1)).Bi=[]/\((A.elem d sp nm l).nd (A.len+1)).GO=0/\((A.elem d sp nm l).nd (A.len+1)).BM=d/\((A.elem d sp nm l).nd (A.len+1)).As=Dx l:=by
 unfold Ar.elem;simp only
 split;.have h1:(A.add {kind:=4,BM:=d,Bd:=sp,name:=nm,As:=Dx l}).has (A.len+1):=DO.2 (.inr rfl);have h2:=DO (x:={kind:=2,Fv:=A.len+1,BM:=(A.add {kind:=4,BM:=d,Bd:=sp,name:=nm,As:=Dx l}).IU d}).2 (.inl (OX (h:=d) h1));rw[JI,IS,Ae ⟨rfl,h2⟩];exact⟨h2,rfl,rfl,rfl,rfl,rfl,rfl,rfl⟩
 .rw[Jj,Ae rfl];exact⟨DO.2 (.inr rfl),rfl,rfl,rfl,rfl,rfl,rfl,rfl⟩
def W8{d sp:Int}{nm:Ah}{l:List Bj}:Le A (A.elem d sp nm l):= .aC6 (λ_ h=>(TX h).1) λ_ h=>(TX h).2
def pP{l:List Bj}(ok:Eo A e)(c:A.has h)(hk:(A.nd h).kind=4)(hl:∀a∈l,0<=a.Bd/\a.Bd<=7):Eo (A.No h l) e:=by have hx:=ok.Tg h c;refine iN ok c ⟨hx.k,hx.Bi,λh=>absurd hk h,hx.nm,hx.dt,hx.data,hx.DX,hx.sp,λa ha=>hl a (pJ ha),dR l,hx.QW,hx.OW,hx.root,hx.af⟩ rfl rfl rfl ⟨(ok.BM h c).1,(ok.BM h c).2,ok.YT h c⟩ rfl rfl λd=>d
def vK{s:Ah}(ok:Eo A e)(a:A.has h)(hk:(A.nd h).kind=5\/(A.nd h).kind=6):Eo (A.N6 h s) e:=by have hx:=ok.Tg h a;refine iN ok a ⟨hx.k,hx.Bi,hx.elem,hx.nm,hx.dt,λf d=>by have:(A.nd h).kind≠5:=f;have:(A.nd h).kind≠6:=d;omega,hx.DX,hx.sp,hx.Ô,hx.Dx,hx.QW,hx.OW,hx.root,hx.af⟩ rfl rfl rfl ⟨(ok.BM h a).1,(ok.BM h a).2,ok.YT h a⟩ rfl rfl λc=>c
def TY{kd d:Int}{s:Ah}(ok:Eo A e)(he:e≠A.len+1)(hd:A.has d/\(A.nd d).kind=1)(hk:kd=5\/kd=6):Eo (A.add {kind:=kd,BM:=d,data:=s}) e:=by
 refine PI ok ?_ (.inr ⟨EE,hd⟩) rfl rfl rfl rfl (λh=>?_);.constructor<;>simp[Dx,GP]<;>omega
 .have:=h.1;simp at this;omega
def vL{s:Ah}:Le A (A.N6 h s):=PL rfl rfl rfl
def QZ{l:List Bj}:Le A (A.No h l):=PL rfl rfl rfl
def Ü{sp:Int}{a:Bj}:0<=(DR sp a).Bd/\(DR sp a).Bd<=7:=by
 unfold DR;split
 .split
  .rename_i s m he;have:∀x∈fT,0<=x.2.1/\x.2.1<=7:=Az;unfold KA at he;cases hf:fT.find? λx=>decide (N4 sp a.name=x.1) with
   |none=>rw[hf] at he;cases he
   |some y=>rw[hf] at he;have:=this y (RX hf);simp at he;rw[he] at this;exact this
  .exact⟨Lb 0,AB⟩
 .exact⟨Lb 0,AB⟩
end
structure EC(b:BS):Prop where
 ok:Eo b.a 0
 BM:b.a.has b.BM/\(b.a.nd b.BM).kind=1
 op:∀i∈b.Au,b.a.has i.node/\(b.a.nd i.node).kind=4/\(b.a.nd i.node).Bd=i.Bd/\(b.a.nd i.node).name=i.name
 mU:(b.Au.map Item.node).Nodup
 ac:∀e∈b.A3,e.node=0\/(b.a.has e.node/\(b.a.nd e.node).kind=4)
 xt:((b.A3.map Cn.node).filter λn=>decide (n≠0)).Nodup
section
variable{b:BS}{t:Int}
def aA3{A A':Ar}{l:List Item}(hl:Le A A')(h:∀i∈l,A.has i.node/\(A.nd i.node).kind=4/\(A.nd i.node).Bd=i.Bd/\(A.nd i.node).name=i.name):∀i∈l,A'.has i.node/\(A'.nd i.node).kind=4/\(A'.nd i.node).Bd=i.Bd/\(A'.nd i.node).name=i.name:=by intro i hi;have:=h i hi;rw[hl.kind _ this.1,hl.Bd _ this.1,hl.name _ this.1];exact⟨hl.has _ this.1,this.2⟩
def W9{A A':Ar}{l:List Cn}(hl:Le A A')(h:∀e∈l,e.node=0\/(A.has e.node/\(A.nd e.node).kind=4)):∀e∈l,e.node=0\/(A'.has e.node/\(A'.nd e.node).kind=4):=by
 intro e he;rcases h e he with h|h
 .exact .inl h
 .rw[hl.kind _ h.1];exact .inr ⟨hl.has _ h.1,h.2⟩
def EC.I5(o:EC b){A:Ar}(ok:Eo A 0)(hl:Le b.a A):EC {b with a:=A}:=
 ⟨ok,by rw[hl.kind _ o.BM.1];exact⟨hl.has _ o.BM.1,o.BM.2⟩,aA3 hl o.op,o.mU,W9 hl o.ac,o.xt⟩
def EC.aOm(o:EC b){l:List Item}(h1:∀i∈l,i∈b.Au)(h2:(l.map Item.node).Nodup):EC {b with Au:=l}:=
 ⟨o.ok,o.BM,λi hi=>o.op i (h1 i hi),h2,o.ac,o.xt⟩
def EC.KH(o:EC b){l:List Item}(h1:List.Sublist l b.Au):EC {b with Au:=l}:=o.aOm (λ_ hi=>h1.subset hi) (o.mU.sublist (h1.map _))
def EC.iO(o:EC b){l:List Cn}(h1:List.Sublist l b.A3):EC {b with A3:=l}:=
 ⟨o.ok,o.BM,o.op,o.mU,λe he=>o.ac e (h1.subset he),o.xt.sublist ((h1.map _).filter _)⟩
def Nq{l:List Item}{i:Int}:List.Sublist (Hc l i) l:=Ch _ _
def Dh{p q:Item->Bool}{l:List Item}:List.Sublist (D6 p q l) l:=by
 have key:∀r:List Item,List.Sublist (Qd p q r) r:=by
  intro r;induction r with
  |nil=>exact BR _
  |cons x r ih=>
   cases r with
   |nil=>exact BR _
   |cons y r=>
    rw[Qd];split;.exact BR _
    .split;.exact Vs _ _
     .exact ih.trans (Vs _ _)
 have:=(key l.reverse).reverse;rwa [DG] at this
def Jm{n:Int}{l:List Item}:List.Sublist (Hq n l) l:=by unfold Hq;split;exact BR _;exact Dh
def CO{U:Type}{l:List U}{k:Nat}:List.Sublist (BA l k) l:=by
 unfold BA;conv=>rhs;rw[<-Br k l]
 refine List.Sublist.append (BR _) ?_;rw[<-Ez];exact aTc _ _
def EL{n:Int}{l:List Item}:List.Sublist (Cg n l) l:=by unfold Cg;split;exact BR _;exact CO
def LF{l:List Item}{i:Int}(h0:0<=i)(h1:i<l.length):El l i∈l:=by unfold El;rw[Ae h0,AL,Av Ac];exact AG _
def LG{U:Type}{q:U->Bool}{l:List U}:AD q l<l.length∧-1<=AD q l:=by rcases BZ (q:=q) (l:=l) with⟨h1,_⟩|⟨n,hn,h1,_⟩<;>rw[h1]<;>omega
def U8{l:List Item}(h:l≠[]):DP l∈l:=by have:0<l.length:=CB.2 h;exact LF Ac Ac
def aA4(o:EC b)(hn:b.Au≠[]):b.a.has b.On.1/\(b.On.2≠0->b.a.has b.On.2/\(b.a.nd b.On.2).GO=b.On.1):=by
 have hl:0<b.Au.length:=CB.2 hn;have h1:=LG (q:=AH [AW]) (l:=b.Au);have h2:=LG (q:=AH [JS]) (l:=b.Au);unfold BS.On;simp only
 split;.exact⟨(o.op _ (LF Ac Ac)).1,λh=>absurd rfl h⟩
 .split;.exact⟨(o.op _ (LF Ac Ac)).1,λh=>absurd rfl h⟩
  .have h3:=o.op _ (LF (l:=b.Au) (i:=AD (AH [JS]) b.Au) Ac Ac);split;.rename_i hp;exact⟨(o.ok.GO _ h3.1 hp).1,λ_=>⟨h3.1,rfl⟩⟩
   .exact⟨(o.op _ (LF Ac Ac)).1,λh=>absurd rfl h⟩
def TZ(o:EC b)(ht:t=0\/(b.a.has t/\b.Au≠[])):b.a.has (b.place t).1/\((b.place t).2≠0->b.a.has (b.place t).2/\(b.a.nd (b.place t).2).GO=(b.place t).1):=by
 unfold BS.place;simp only
 split;.exact⟨o.BM.1,λh=>absurd rfl h⟩
 .rename_i h0;have hn:b.Au≠[]:=by
   rcases ht with h|h
   .intro h2;exact h0 ⟨h,h2⟩
   .exact h.2
  have h1:b.a.has (if t=0 then(DP b.Au).node else t):=by
   split;.exact(o.op _ (U8 hn)).1
   .rename_i h2;exact(ht.resolve_left h2).1
  generalize(if t=0 then(DP b.Au).node else t)=t' at h1;have h2:b.a.has (if b.D4=true/\sK Kn b.a t' then b.On else(t',0)).1/\((if b.D4=true/\sK Kn b.a t' then b.On else(t',0)).2≠0->b.a.has (if b.D4=true/\sK Kn b.a t' then b.On else(t',0)).2/\(b.a.nd (if b.D4=true/\sK Kn b.a t' then b.On else(t',0)).2).GO=(if b.D4=true/\sK Kn b.a t' then b.On else(t',0)).1):=by
   split;.exact aA4 o hn
   .exact⟨h1,λh=>absurd rfl h⟩
  generalize(if b.D4=true/\sK Kn b.a t' then b.On else(t',0))=pb at h2;split;.rename_i hc;exact⟨(o.ok.cont _ h2.1 hc).1,λh=>absurd rfl h⟩
  .exact h2
def dS(o:EC b){p:Int}:b.a.has (b.Ko p)/\(b.a.nd (b.Ko p)).kind=1:=by
 unfold BS.Ko;by_cases hp:b.a.has p
 .have key:∀q,b.a.has q->b.a.has (if(b.a.nd q).BM≠0 then(b.a.nd q).BM else b.BM)/\(b.a.nd (if(b.a.nd q).BM≠0 then(b.a.nd q).BM else b.BM)).kind=1:=by
   intro q hq;split;.exact o.ok.BM q hq
   .exact o.BM
  split;.rename_i hc;exact key _ (o.ok.cont p hp hc).1
  .exact key p hp
 .rw[OV hp];exact o.BM
variable{nm:Ah}{at_:List Bj}{sp p:Int}
structure Ý(b b1:BS)(i:Item):Prop where
 has:b1.a.has i.node
 kind:(b1.a.nd i.node).kind=4
 Bd:(b1.a.nd i.node).Bd=i.Bd
 name:(b1.a.nd i.node).name=i.name
 new:¬b.a.has i.node
def Qf(o:EC b)(hs:BS.LD sp):EC (b.Gf nm at_ sp p)/\Ý b (b.Gf nm at_ sp p) (b.HA nm at_ sp)/\Le b.a (b.Gf nm at_ sp p).a:=by
 have hd:=dS o (p:=p);unfold BS.Gf BS.HA;rw[Ae hs,Ae hs];have ok:=aA2 (sp:=sp) (nm:=BS.Mf sp nm) (l:=at_.map (DR sp)) o.ok hd hs (by intro a ha;obtain⟨c,_,rfl⟩:=A5.1 ha;exact Ü)
 have hn:=OY (A:=b.a) (d:=b.Ko p) (sp:=sp) (nm:=BS.Mf sp nm) (l:=at_.map (DR sp));exact⟨o.I5 ok W8,⟨hn.1,hn.2.1,hn.2.2.1,hn.2.2.2.1,Om⟩,W8⟩
def RH(o:EC b){b1:BS}{i:Item}(f:Ý b b1 i):i.node∉b.Au.map Item.node:=by intro h;obtain⟨j,hj,e⟩:=A5.1 h;exact f.new (e▸(o.op j hj).1)
def U9(o:EC b){b1:BS}{i:Item}(f:Ý b b1 i):i.node∉b.A3.map Cn.node:=by
 intro h;obtain⟨j,hj,e⟩:=A5.1 h;rcases o.ac j hj with h1|h1
 .have:=f.has.1;omega
 .exact f.new (e▸h1.1)
def th{U:Type}[DecidableEq U]{l:List U}{k:Nat}{x:U}(h:l.Nodup)(hx:x∉l):(l.take k++x::l.drop k).Nodup:=by
 have e:=Br k l;rw[BY];rw[<-e,BY] at h;refine⟨h.1,Ca.2 ⟨λh1=>hx (A6 h1),h.2.1⟩,?_⟩;rintro a ha c hc rfl;rcases AF.1 hc with rfl|hc
 .exact hx (A9 ha)
 .exact h.2.2 _ ha _ hc rfl
def vM{U:Type}[DecidableEq U]{l:List U}{k:Nat}{x:U}(h:l.Nodup)(hx:x∉l):(l.set k x).Nodup:=by
 rw[Cc];split
 .have e:=Br k l;rw[BY];rw[<-e,BY] at h;have hd:List.Sublist (l.drop (k+1)) (l.drop k):=by rw[<-Ez];exact aTc _ _
  refine⟨h.1,Ca.2 ⟨λh1=>hx (A6 h1),h.2.1.sublist hd⟩,?_⟩;rintro a ha c hc rfl;rcases AF.1 hc with rfl|hc
  .exact hx (A9 ha)
  .exact h.2.2 _ ha _ (hd.subset hc) rfl
 .exact h
def dT{U Z:Type}(f:U->Z)(l:List U)(k:Nat)(x:U):(l.take k++x::l.drop k).map f=(l.map f).take k++f x::(l.map f).drop k:=AB
def EC.aA5(o:EC b){i:Item}{k:Nat}(h1:b.a.has i.node/\(b.a.nd i.node).kind=4/\(b.a.nd i.node).Bd=i.Bd/\(b.a.nd i.node).name=i.name)(h2:i.node∉b.Au.map Item.node):EC {b with Au:=b.Au.take k++i::b.Au.drop k}:=by
 refine⟨o.ok,o.BM,?_,by show((b.Au.take k++i::b.Au.drop k).map Item.node).Nodup;rw[dT];exact th o.mU h2,o.ac,o.xt⟩;intro j hj;rcases Ao.1 hj with hj|hj
 .exact o.op j (A9 hj)
 .rcases AF.1 hj with rfl|hj
  .exact h1
  .exact o.op j (A6 hj)
def EC.Þ(o:EC b){i:Item}{k:Nat}(h1:b.a.has i.node/\(b.a.nd i.node).kind=4/\(b.a.nd i.node).Bd=i.Bd/\(b.a.nd i.node).name=i.name)(h2:i.node∉b.Au.map Item.node):EC {b with Au:=b.Au.set k i}:=by
 refine⟨o.ok,o.BM,?_,by show((b.Au.set k i).map Item.node).Nodup;rw[JW];exact vM o.mU h2,o.ac,o.xt⟩;intro j hj;rcases DC hj with hj|rfl
 .exact o.op j hj
 .exact h1
def ß{l:List Int}{k:Nat}{x:Int}(h:(l.filter λn=>decide (n≠0)).Nodup)(hx:x∉l):((l.take k++x::l.drop k).filter λn=>decide (n≠0)).Nodup:=by
 have e:=Br k l;rw[<-e,Be,BY] at h;rw[Be,BY];by_cases h0:x=0;.subst h0;simpa using h
 .rw[CW (by simpa using h0)];refine⟨h.1,Ca.2 ⟨λh1=>hx (A6 ((BE.1 h1).1)),h.2.1⟩,?_⟩;rintro a ha c hc rfl;rcases AF.1 hc with rfl|hc
  .exact hx (A9 (BE.1 ha).1)
  .exact h.2.2 _ ha _ hc rfl
def à{l:List Int}{k:Nat}{x:Int}(h:(l.filter λn=>decide (n≠0)).Nodup)(hx:x∉l):((l.set k x).filter λn=>decide (n≠0)).Nodup:=by
 rw[Cc];split
 .have h2:(((l.take k++l.drop (k+1))).filter λn=>decide (n≠0)).Nodup:=h.sublist ((show List.Sublist (BA l k) l from CO).filter _);rw[Be,BY] at h2⊢;by_cases h0:x=0;.subst h0;simpa using h2
  .rw[CW (by simpa using h0)];refine⟨h2.1,Ca.2 ⟨λh1=>hx (A6 ((BE.1 h1).1)),h2.2.1⟩,?_⟩;rintro a ha c hc rfl;rcases AF.1 hc with rfl|hc
   .exact hx (A9 (BE.1 ha).1)
   .exact h2.2.2 _ ha _ hc rfl
 .exact h
def EC.aEY(o:EC b){e:Cn}{k:Nat}(h1:e.node=0\/(b.a.has e.node/\(b.a.nd e.node).kind=4))(h2:e.node=0\/e.node∉b.A3.map Cn.node):EC {b with A3:=b.A3.take k++e::b.A3.drop k}:=by
 refine⟨o.ok,o.BM,o.op,o.mU,?_,?_⟩
 .intro j hj;rcases Ao.1 hj with hj|hj
  .exact o.ac j (A9 hj)
  .rcases AF.1 hj with rfl|hj
   .exact h1
   .exact o.ac j (A6 hj)
 .show(((b.A3.take k++e::b.A3.drop k).map Cn.node).filter _).Nodup;rw[dT];rcases h2 with h2|h2
  .have:=o.xt;conv at this=>rw[<-Br k (b.A3.map Cn.node),Be]
   rw[Be,CX (by simp[h2])];exact this
  .exact ß o.xt h2
def EC.á(o:EC b){e:Cn}{k:Nat}(h1:b.a.has e.node/\(b.a.nd e.node).kind=4)(h2:e.node∉b.A3.map Cn.node):EC {b with A3:=b.A3.set k e}:=by
 refine⟨o.ok,o.BM,o.op,o.mU,?_,?_⟩
 .intro j hj;rcases DC hj with hj|rfl
  .exact o.ac j hj
  .exact .inr h1
 .show(((b.A3.set k e).map Cn.node).filter _).Nodup;rw[JW];exact à o.xt h2
def YZ(o:EC b):EC (b.Co nm at_ sp):=by
 unfold BS.Co;split
 .rename_i hs;obtain⟨c,f,hl⟩:=Qf (nm:=nm) (at_:=at_) (p:=(b.place 0).1) o hs;have d:=c.I5 (PM (n:=b.a.len+1) (p:=(b.place 0).1) (b:=(b.place 0).2) c.ok) JK;have hn:(b.HA nm at_ sp).node=b.a.len+1:=by unfold BS.HA;rw[Ae hs]
  have l2:Le (b.Gf nm at_ sp (b.place 0).1).a ((b.Gf nm at_ sp (b.place 0).1).a.Et (b.a.len+1) (b.place 0).1 (b.place 0).2):=JK;have ho:(b.Gf nm at_ sp (b.place 0).1).Au=b.Au:=by unfold BS.Gf;rw[Ae hs]
  have:=d.aA5 (i:=b.HA nm at_ sp) (k:=b.Au.length) ⟨l2.has _ f.has,by rw[l2.kind _ f.has];exact f.kind,by rw[l2.Bd _ f.has];exact f.Bd,by rw[l2.name _ f.has];exact f.name⟩ (by simp only[ho];exact RH o f);simp only[ho,Bl,FA] at this;simp only[ho];exact this
 .exact o
def T0{l:List Cn}{e:Cn}:∃l',List.Sublist l' l/\pO e l=l'++[e]:=by
 unfold pO;split;.exact⟨_,CO,rfl⟩
 .exact⟨_,BR _,rfl⟩
def PO:Le b.a (b.Co nm at_ sp).a:=by
 unfold BS.Co BS.Gf;split;.exact Le.trans W8 JK
 .exact .refl
def Y0(hs:BS.LD sp):(b.Co nm at_ sp).a.has (b.a.len+1)/\((b.Co nm at_ sp).a.nd (b.a.len+1)).kind=4:=by
 unfold BS.Co BS.Gf;rw[Ae hs];simp only
 rw[Ae hs];have hn:=OY (A:=b.a) (d:=b.Ko (b.place 0).1) (sp:=sp) (nm:=BS.Mf sp nm) (l:=at_.map (DR sp));exact⟨JK.has _ hn.1,by rw[JK.kind _ hn.1];exact hn.2.1⟩
def H6:(b.Co nm at_ sp).A3=b.A3:=by unfold BS.Co BS.Gf;split<;>rfl
def Y1:(b.Co nm at_ sp).BM=b.BM:=by unfold BS.Co BS.Gf;split<;>rfl
def KG:BS.LD 1:=⟨Az,Az⟩
def aA6(o:EC b):b.a.len+1∉b.A3.map Cn.node:=by
 intro h;obtain⟨j,hj,e⟩:=A5.1 h;rcases o.ac j hj with h1|h1
 .unfold Ar.len at e;omega
 .exact Om (e▸h1.1)
def dU(o:EC b):EC (b.Eu nm at_):=by
 have d:=YZ (nm:=nm) (at_:=at_) (sp:=1) o;unfold BS.Eu;simp only
 obtain⟨l',h1,h2⟩:=T0 (l:=(b.Co nm at_ 1).A3) (e:=⟨b.a.len+1,nm,at_⟩);rw[h2];have c:=d.iO h1;have:=c.aEY (e:=⟨b.a.len+1,nm,at_⟩) (k:=l'.length) (.inr (Y0 KG)) (.inr (by intro h;rw[H6] at h1;exact aA6 o ((h1.map Cn.node).subset h)))
 simpa using this
def EC.of_eq{c:BS}(o:EC b)(h1:c.a=b.a)(h2:c.BM=b.BM)(h3:c.Au=b.Au)(d:c.A3=b.A3):EC c:=
 ⟨h1▸o.ok,by rw[h1,h2];exact o.BM,by rw[h1,h3];exact o.op,by rw[h3];exact o.mU,by rw[h1,d];exact o.ac,by rw[d];exact o.xt⟩
def vN{l:List Int}{bf t:Int}(h:QY l bf=some t):t∈l:=by
 unfold QY at h;split at h;.exact aMe h
 .exact(List.takeWhile_sublist _).subset (aMe h)
def dV{A:Ar}{s:Ah}{p bf:Int}(ok:Eo A 0)(hp:A.has p):Eo (BS.JT A s p bf) 0/\Le A (BS.JT A s p bf):=by
 have h0:(0:Int)≠A.len+1:=by unfold Ar.len;omega
 have ha:=PM (n:=A.len+1) (p:=p) (b:=bf) (TY (s:=s) (kd:=5) ok h0 (ok.BM p hp) (.inl rfl));have hl:Le A ((A.add {kind:=5,BM:=(A.nd p).BM,data:=s}).Et (A.len+1) p bf):=Le.trans PK JK;unfold BS.JT;split
 .split
  .rename_i t ht;split;.rename_i hk;exact⟨vK ok (ok.Ok p hp _ (vN ht)).1 (.inl hk),vL⟩
   .exact⟨ha,hl⟩
  .exact⟨ha,hl⟩
 .exact⟨ok,.refl⟩
def aq(o:EC b){r:Int}:EC (b.Jk r):=by have h:=dV (s:=Ga r) (bf:=(b.place 0).2) o.ok (TZ o (.inl rfl)).1;exact o.I5 h.1 h.2
def MW{A:Ar}{s:Ah}{p bf:Int}(ok:Eo A 0):Eo (BS.H5 A s p bf) 0/\Le A (BS.H5 A s p bf):=by
 unfold BS.H5;split
 .rename_i hk;have hp:A.has p:=by
   by_cases hp:A.has p;.exact hp
   .rw[OV hp] at hk;unfold MO at hk;simp at hk
  have h0:(0:Int)≠A.len+1:=by unfold Ar.len;omega
  exact⟨PM (TY (s:=s) (kd:=6) ok h0 (ok.BM p hp) (.inr rfl)),Le.trans PK JK⟩
 .exact⟨ok,.refl⟩
def Y2(o:EC b){s:Ah}{p:Int}:EC (b.DD s p):=by
 unfold BS.DD;split;.have h:=MW (s:=s) (p:=(b.place 0).1) (bf:=(b.place 0).2) o.ok;exact o.I5 h.1 h.2
 .have h:=MW (s:=s) (p:=p) (bf:=0) o.ok;exact o.I5 h.1 h.2
def dW(o:EC b):EC (b.C1 nm):=by
 unfold BS.C1;split
 .split;.exact o.KH (Jm.trans Dh)
  .exact o
 .exact o
def pQ(o:EC b){l:List Bj}{h:Int}:EC (b.FJ l h):=by
 unfold BS.FJ;split
 .rename_i hk;have d:b.a.has h:=by
   by_cases hp:b.a.has h;.exact hp
   .rw[OV hp] at hk;simp at hk
  refine o.I5 (pP o.ok d hk ?_) QZ;intro a ha;rcases Ao.1 ha with ha|ha
  .exact(o.ok.Tg h d).Ô a ha
  .obtain⟨c,_,rfl⟩:=A5.1 ha;simp
 .exact o
def aEZ(o:EC b):EC b.FB:=by
 unfold BS.FB;split;.exact o
 .exact o.KH (Ch _ _)
structure aJX(b:BS)(l:List Cn)(r:List Cn×BS):Prop where
 ok:EC r.2
 le:Le b.a r.2.a
 A3:r.2.A3=b.A3
 len:r.1.length=l.length
 nodes:∀e∈r.1,r.2.a.has e.node/\(r.2.a.nd e.node).kind=4/\¬b.a.has e.node
 aC7:(r.1.map Cn.node).Nodup
 aJY:r.1.map Cn.name=l.map Cn.name
def au:∀{l:List Cn} {b:BS},EC b->aJX b l (BS.JJ l b)
 |[],b,o=>by
  refine⟨o,.refl,rfl,rfl,?_,?_,rfl⟩;.intro e he;cases he
  .exact ŭ
 |e::l,b,o=>by
  have d:=YZ (nm:=e.name) (at_:=e.As) (sp:=1) o;have r:=au (l:=l) d;have hl:Le b.a (b.Co e.name e.As 1).a:=PO;have hn:=Y0 (b:=b) (nm:=e.name) (at_:=e.As) KG;refine⟨r.ok,hl.trans r.le,r.A3.trans H6,by simp[BS.JJ,r.len],?_,?_,by simp[BS.JJ,r.aJY]⟩
  .intro c hc;rcases AF.1 hc with rfl|hc
   .exact⟨r.le.has _ hn.1,(r.le.kind _ hn.1).trans hn.2,Om⟩
   .have:=r.nodes c hc;exact⟨this.1,this.2.1,λh=>this.2.2 (hl.has _ h)⟩
  .simp only[BS.JJ,AV,Ca];refine⟨λh=>?_,r.aC7⟩;obtain⟨c,hc,f⟩:=A5.1 h;exact(r.nodes c hc).2.2 (f▸hn.1)
def Y3(o:EC b):EC b.AM:=by
 have r:=au (l:=b.A3.drop b.NM) o;unfold BS.AM;simp only
 have hc:=W9 r.le o.ac;refine⟨r.ok.ok,r.ok.BM,r.ok.op,r.ok.mU,?_,?_⟩
 .intro e he;rcases Ao.1 he with he|he
  .exact hc e (A9 he)
  .exact .inr ⟨(r.nodes e he).1,(r.nodes e he).2.1⟩
 .show(((b.A3.take b.NM++(BS.JJ (b.A3.drop b.NM) b).1).map Cn.node).filter _).Nodup;rw[B3,Be,BY];refine⟨o.xt.sublist (((Ch _ _).map _).filter _),r.aC7.filter _,?_⟩;rintro a ha c Mx rfl;obtain⟨i,h1,rfl⟩:=A5.1 (BE.1 ha).1;obtain⟨g,h2,f⟩:=A5.1 (BE.1 Mx).1;have h3:=(r.nodes g h2);rw[f] at h3;rcases o.ac i (A9 h1) with d|d
  .have:=h3.1.1;omega
  .exact h3.2.2 d.1
def OZ(o:EC b){blk anc:Int}{far i:Nat}{l:Int}{m:Nat}(hl:b.a.has l):EC (BS.Gu blk anc far i b l m).1/\(BS.Gu blk anc far i b l m).1.a.has (BS.Gu blk anc far i b l m).2.1/\Le b.a (BS.Gu blk anc far i b l m).1.a:=by
 unfold BS.Gu;simp only
 split;.exact⟨o.KH CO,hl,.refl⟩
 .split;.exact⟨(o.iO CO).KH CO,hl,.refl⟩
  .generalize RI:b.A3.getD (FU (b.Au.getD i Item.zero).node b.A3).toNat Cn.zero=en;obtain⟨c,f,E0⟩:=Qf (nm:=en.name) (at_:=en.As) (p:=anc) o KG;have l2:Le (b.Gf en.name en.As 1 anc).a ((b.Gf en.name en.As 1 anc).a.F9 (b.HA en.name en.As 1).node l 0):=Hs;have NV:(b.Gf en.name en.As 1 anc).Au=b.Au:=by unfold BS.Gf;rw[Ae KG]
   have pR:(b.Gf en.name en.As 1 anc).A3=b.A3:=by unfold BS.Gf;rw[Ae KG]
   have j:=c.I5 (N5 (p:=(b.HA en.name en.As 1).node) (n:=l) (b:=0) c.ok) l2;have g:=j.Þ (i:=b.HA en.name en.As 1) (k:=i) ⟨l2.has _ f.has,by rw[l2.kind _ f.has];exact f.kind,by rw[l2.Bd _ f.has];exact f.Bd,by rw[l2.name _ f.has];exact f.name⟩ (by simp only[NV];exact RH o f);have d:=g.á (e:={en with node:=(b.HA en.name en.As 1).node}) (k:=(FU (b.Au.getD i Item.zero).node b.A3).toNat) ⟨l2.has _ f.has,by rw[l2.kind _ f.has];exact f.kind⟩ (by simp only[pR];exact U9 o f);exact⟨d,l2.has _ f.has,E0.trans l2⟩
def iP{blk anc:Int}{far k:Nat}:∀{c:Nat} {s:BS×Int×Nat},EC s.1->s.1.a.has s.2.1->EC (BS.Np blk anc far k c s).1/\(BS.Np blk anc far k c s).1.a.has (BS.Np blk anc far k c s).2.1/\Le s.1.a (BS.Np blk anc far k c s).1.a
 |0,s,o,h=>⟨o,h,.refl⟩
 |c+1,s,o,h=>by obtain⟨f,h1,l1⟩:=OZ (blk:=blk) (anc:=anc) (far:=far) (i:=k+(c+1)) (m:=s.2.2) o h;obtain⟨d,h2,l2⟩:=iP (blk:=blk) (anc:=anc) (far:=far) (k:=k) (c:=c) f h1;exact⟨d,h2,l1.trans l2⟩
def KB{n:Int}:∀{l:List Int} {A:Ar},Eo A 0->Eo (BS.DA A n l) 0/\Le A (BS.DA A n l)
 |[],A,ok=>⟨ok,.refl⟩
 |x::l,A,ok=>by have h:=KB (n:=n) (l:=l) (N5 (p:=n) (n:=x) (b:=0) ok);exact⟨h.1,Le.trans Hs h.2⟩
def Va{fe:Cn}{blk anc:Int}{s:BS×Int×Nat}(o:EC s.1):EC (BS.IX fe blk anc s)/\Le s.1.a (BS.IX fe blk anc s).a:=by
 unfold BS.IX;simp only
 generalize xw:s.1.place anc=pb;have l1:Le s.1.a (s.1.a.Et s.2.1 pb.1 pb.2):=JK;have d:=o.I5 (PM (n:=s.2.1) (p:=pb.1) (b:=pb.2) o.ok) l1;generalize Qq:({s.1 with a:=s.1.a.Et s.2.1 pb.1 pb.2}:BS)=b2 at d;have UR:b2.a=s.1.a.Et s.2.1 pb.1 pb.2:=by rw[<-Qq]
 have y5:b2.Au=s.1.Au:=by rw[<-Qq]
 have Mx:b2.A3=s.1.A3:=by rw[<-Qq]
 obtain⟨m,f,l3⟩:=Qf (nm:=fe.name) (at_:=fe.As) (p:=blk) d KG;have NV:(b2.Gf fe.name fe.As 1 blk).Au=b2.Au:=by unfold BS.Gf;rw[Ae KG]
 have pR:(b2.Gf fe.name fe.As 1 blk).A3=b2.A3:=by unfold BS.Gf;rw[Ae KG]
 generalize w:b2.Gf fe.name fe.As 1 blk=b3 at*;generalize hn:b2.HA fe.name fe.As 1=n at*;obtain⟨j,l4⟩:=KB (n:=n.node) (l:=(b3.a.nd blk).Bi) m.ok;have g:=N5 (p:=blk) (n:=n.node) (b:=0) j;have c:Le b3.a ((BS.DA b3.a n.node (b3.a.nd blk).Bi).F9 blk n.node 0):=l4.trans Hs;have r:=m.I5 g c;have fr:((BS.DA b3.a n.node (b3.a.nd blk).Bi).F9 blk n.node 0).has n.node/\(((BS.DA b3.a n.node (b3.a.nd blk).Bi).F9 blk n.node 0).nd n.node).kind=4/\(((BS.DA b3.a n.node (b3.a.nd blk).Bi).F9 blk n.node 0).nd n.node).Bd=n.Bd/\(((BS.DA b3.a n.node (b3.a.nd blk).Bi).F9 blk n.node 0).nd n.node).name=n.name:=
  ⟨c.has _ f.has,by rw[c.kind _ f.has];exact f.kind,by rw[c.Bd _ f.has];exact f.Bd,by rw[c.name _ f.has];exact f.name⟩
 have q:=(r.iO (l:=BA b3.A3 (FU fe.node b3.A3).toNat) CO).KH (l:=Cg fe.node b3.Au) EL;have v:n.node∉(Cg fe.node b3.Au).map Item.node:=λh=>RH d f ((EL.map Item.node).subset (by rw[NV] at h;exact h));have u:n.node∉(BA b3.A3 (FU fe.node b3.A3).toNat).map Cn.node:=λh=>U9 d f ((CO.map Cn.node).subset (by rw[pR] at h;exact h));refine⟨(q.aA5 (i:=n) fr v).aEY (e:={fe with node:=n.node}) (.inr ⟨fr.1,fr.2.1⟩) (.inr u),?_⟩;rw[UR] at l3;exact l1.trans (l3.trans c)
def Y4(o:EC b):EC (b.round nm).2/\Le b.a (b.round nm).2.a:=by
 have d:Le b.a (b.C1 nm).a:=by
  unfold BS.C1;split;.split<;>exact .refl
  .exact .refl
 unfold BS.round;simp only
 split;.exact⟨dW o,d⟩
 .split;.exact⟨o.iO CO,.refl⟩
  .split;.exact⟨o,.refl⟩
   .split;.exact⟨(o.KH Jm).iO CO,.refl⟩
    .rename_i hf;have aU0:Ec (b.A3.getD (DT nm b.A3).toNat Cn.zero).node b.Au<b.Au.length:=by
      rw[Me];split;.omega
      .unfold Gy;split;.rename_i k hk;have:=(LS.1 hk).1;rw[A4] at this;omega
       .omega
     have hb:b.a.has (b.Au.getD (Ec (b.A3.getD (DT nm b.A3).toNat Cn.zero).node b.Au).toNat Item.zero).node:=by rw[AL,Av Ac];exact(o.op _ (AG _)).1
     obtain⟨f,h1,l1⟩:=iP (blk:=(b.Au.getD (Ec (b.A3.getD (DT nm b.A3).toNat Cn.zero).node b.Au).toNat Item.zero).node) (anc:=(b.Au.getD ((AD (Bt (b.A3.getD (DT nm b.A3).toNat Cn.zero).node) b.Au).toNat-1) Item.zero).node) (far:=(Ec (b.A3.getD (DT nm b.A3).toNat Cn.zero).node b.Au).toNat) (k:=(AD (Bt (b.A3.getD (DT nm b.A3).toNat Cn.zero).node) b.Au).toNat) (c:=(Ec (b.A3.getD (DT nm b.A3).toNat Cn.zero).node b.Au).toNat-1 -(AD (Bt (b.A3.getD (DT nm b.A3).toNat Cn.zero).node) b.Au).toNat) (s:=(b,(b.Au.getD (Ec (b.A3.getD (DT nm b.A3).toNat Cn.zero).node b.Au).toNat Item.zero).node,(DT nm b.A3).toNat)) o hb;have r:=Va (fe:=b.A3.getD (DT nm b.A3).toNat Cn.zero) (blk:=(b.Au.getD (Ec (b.A3.getD (DT nm b.A3).toNat Cn.zero).node b.Au).toNat Item.zero).node) (anc:=(b.Au.getD ((AD (Bt (b.A3.getD (DT nm b.A3).toNat Cn.zero).node) b.Au).toNat-1) Item.zero).node) f;exact⟨r.1,l1.trans r.2⟩
def dX:∀{n:Nat} {b:BS},EC b->EC (BS.Gp n b nm)/\Le b.a (BS.Gp n b nm).a
 |0,b,o=>⟨o,.refl⟩
 |n+1,b,o=>by
  obtain⟨c,l1⟩:=Y4 (nm:=nm) o;unfold BS.Gp;simp only
  split;.have r:=dX (n:=n) c;exact⟨r.1,l1.trans r.2⟩
  .exact⟨c,l1⟩
def dY(o:EC b):EC (b.C7 nm):=by
 unfold BS.C7;split;.exact aEZ o
 .exact(dX o).1
end
structure NN(A:Ar):Prop where
 n:A.n.length<=1000000000
 at_:∀x,(A.nd x).As.length<=1000000000
 data:∀x,(A.nd x).data.length<=1000000000
def GQ(l:List Bj):Prop:=l.length<=1000/\∀a∈l,a.name.length<=1000/\a.value.length<=1000
structure CH(b:BS)(m:Nat):Prop where
 n:b.a.n.length+m<=900000000
 at_:∀x,(b.a.nd x).As.length+m<=1000000000
 data:∀x,(b.a.nd x).data.length+m<=1000000000
 Au:b.Au.length+m<=900000000
 A3:b.A3.length+m<=900000000
 tm:b.tm.length+m<=900000000
 Es:∀e∈b.A3,e.name.length<=1000/\GQ e.As
 vO:∀i∈b.Au,i.name.length<=1000
def CH.WA{b:BS}{m:Nat}(r:CH b m):NN b.a:=⟨by have:=r.n;omega,λx=>by have:=r.at_ x;omega,λx=>by have:=r.data x;omega⟩
def CH.le{b:BS}{m m':Nat}(r:CH b m)(hm:m'<=m):CH b m':=⟨by have:=r.n;omega,λx=>by have:=r.at_ x;omega,λx=>by have:=r.data x;omega,by have:=r.Au;omega,by have:=r.A3;omega,by have:=r.tm;omega,r.Es,r.vO⟩
def tj{sp:Int}{y:Bj}:(DR sp y).value=y.value:=by
 unfold DR;split;.split<;>rfl
 .rfl
structure Oq(A A':Ar):Prop where
 n:A'.n.length=A.n.length
 at_:∀x,(A'.nd x).As=(A.nd x).As
 data:∀x,(A'.nd x).data=(A.nd x).data
section
variable{A A' A'':Ar}{x p bf:Int}{b:BS}{m:Nat}
def Oq.refl:Oq A A:=⟨rfl,λ_=>rfl,λ_=>rfl⟩
def Oq.trans(h:Oq A A')(k:Oq A' A''):Oq A A'':=⟨k.n.trans h.n,λx=>(k.at_ x).trans (h.at_ x),λx=>(k.data x).trans (h.data x)⟩
def T1{y:HK}(h1:y.As=(A.nd x).As)(h2:y.data=(A.nd x).data):Oq A (A.set x y):=by
 refine⟨J6,λk=>?_,λk=>?_⟩<;>rw[IS]<;>split;.rename_i e;rw[h1,e.1]
 .rfl
 .rename_i e;rw[h2,e.1]
 .rfl
def Vb{l:List Int}:Oq A (A.set x {A.nd x with Bi:=l}):=T1 rfl rfl
def Vc:Oq A (A.set x {A.nd x with GO:=p}):=T1 rfl rfl
def LH:Oq A (A.F9 p x bf):=by
 unfold Ar.F9;split
 .refine Oq.trans ?_ (Oq.trans Vb Vc);unfold Ar.cut;simp only;split;.exact .refl
  .exact Oq.trans Vb Vc
 .exact .refl
def O0:Oq A (A.Et x p bf):=by unfold Ar.Et;split;exact .refl;exact LH
def Si{n:Int}:∀{l:List Int} {A:Ar},Oq A (BS.DA A n l)
 |[],A=> .refl
 |y::l,A=>Oq.trans LH (Si (l:=l))
def CH.same{c:BS}(r:CH b m)(h:Oq b.a c.a)(h1:c.Au.length<=b.Au.length)(h2:c.A3.length<=b.A3.length)(h3:c.tm.length<=b.tm.length)(f:∀e∈c.A3,e.name.length<=1000/\GQ e.As)(d:∀i∈c.Au,i.name.length<=1000):CH c m:=
 ⟨by rw[h.n];exact r.n,λx=>by rw[h.at_];exact r.at_ x,λx=>by rw[h.data];exact r.data x,by have:=r.Au;omega,by have:=r.A3;omega,by have:=r.tm;omega,f,d⟩
def CH.I5{A':Ar}(r:CH b m)(h:Oq b.a A'):CH {b with a:=A'} m:=r.same h (Ad _) (Ad _) (Ad _) r.Es r.vO
def CH.KH{l:List Item}(r:CH b m)(h:List.Sublist l b.Au):CH {b with Au:=l} m:=r.same .refl h.length_le (Ad _) (Ad _) r.Es λi hi=>r.vO i (h.subset hi)
def CH.eq{c:BS}(r:CH b m)(h1:c.a=b.a)(h2:c.Au=b.Au)(h3:c.A3=b.A3)(d:c.tm=b.tm):CH c m:=⟨by rw[h1];exact r.n,by rw[h1];exact r.at_,by rw[h1];exact r.data,by rw[h2];exact r.Au,by rw[h3];exact r.A3,by rw[d];exact r.tm,by rw[h3];exact r.Es,by rw[h2];exact r.vO⟩
structure Vd(A A':Ar)(k:Nat):Prop where
 n:A'.n.length<=A.n.length+k
 at_:∀x,(A'.nd x).As.length<=max (A.nd x).As.length 1000
 data:∀x,(A'.nd x).data.length<=max (A.nd x).data.length 100000
def Mg{y:HK}(h1:y.As.length<=1000)(h2:y.data.length<=100000):Vd A (A.add y) 1:=by refine⟨by simp[Ar.add],λx=>?_,λx=>?_⟩<;>rw[Jj]<;>split<;>omega
def Vd.trans{k k':Nat}(h:Vd A A' k)(g:Vd A' A'' k'):Vd A A'' (k+k'):=
 ⟨by have:=h.n;have:=g.n;omega,λx=>by have:=h.at_ x;have:=g.at_ x;omega,λx=>by have:=h.data x;have:=g.data x;omega⟩
def Vd.le{k k':Nat}(h:Vd A A' k)(hk:k<=k'):Vd A A' k':=⟨by have:=h.n;omega,h.at_,h.data⟩
def tk(h:Oq A A'):Vd A A' 0:=⟨by rw[h.n];exact Ad _,λx=>by rw[h.at_];omega,λx=>by rw[h.data];omega⟩
def vP:Vd A (A.Fo x) 1:=by
 unfold Ar.Fo;split;.exact(tk .refl).le Ac
 .have:=Mg (A:=A) (y:={kind:=1,BM:=A.len+1}) (Bn _) (Bn _);exact⟨this.n,this.at_,this.data⟩
def â{y:HK}(h1:y.As.length<=1000)(h2:y.data.length<=100000):Vd A (A.set x y) 0:=by refine⟨by rw[J6];exact Ad _,λx=>?_,λx=>?_⟩<;>rw[IS]<;>split<;>omega
def tl{d sp:Int}{nm:Ah}{l:List Bj}(hl:l.length<=1000):Vd A (A.elem d sp nm l) 3:=by
 have ho:=Bw (TW (l:=l)) hl;have g1:=Mg (A:=A) (y:={kind:=4,BM:=d,Bd:=sp,name:=nm,As:=Dx l}) ho (Bn _);unfold Ar.elem;simp only
 split;.have g2:=vP (A:=A.add {kind:=4,BM:=d,Bd:=sp,name:=nm,As:=Dx l}) (x:=d);have g3:=Mg (A:=(A.add {kind:=4,BM:=d,Bd:=sp,name:=nm,As:=Dx l}).Fo d) (y:={kind:=2,Fv:=A.len+1,BM:=(A.add {kind:=4,BM:=d,Bd:=sp,name:=nm,As:=Dx l}).IU d}) (Bn _) (Bn _);exact g1.trans (k':=2) (g2.trans (k':=1) (g3.trans (k':=0) (â ho (Bn _))))
 .exact g1.le Ac
def CH.GZ{A':Ar}{k:Nat}(r:CH b (m+k))(h:Vd b.a A' k):CH {b with a:=A'} m:=
 ⟨by have:=r.n;have:=h.n;simp only;omega,λx=>by have:=r.at_ x;have:=h.at_ x;have:=r.n;simp only;omega,λx=>by have:=r.data x;have:=h.data x;have:=r.n;simp only;omega,by have:=r.Au;simp only;omega,by have:=r.A3;simp only;omega,by have:=r.tm;simp only;omega,r.Es,r.vO⟩
def ã{sp:Int}{nm:Ah}:(BS.Mf sp nm).length=nm.length:=by
 unfold BS.Mf;split
 .rcases Qe nm OR with h|h
  .rw[h]
  .conv=>rhs;rw[<-h.2,iJ]
 .rfl
variable{nm:Ah}{l:List Bj}{sp:Int}
def RJ(r:CH b (m+3))(hl:GQ l):CH (b.Gf nm l sp p) m:=by
 unfold BS.Gf;split;.exact r.GZ (tl (by rw[Aw];exact hl.1))
 .exact r.le Ac
def T2(hn:nm.length<=1000):(b.HA nm l sp).name.length<=1000:=by
 unfold BS.HA;split;.show(BS.Mf sp nm).length<=1000;rw[ã];exact hn
 .exact Bn _
def CH.aC8{i:Item}{l':List Item}(r:CH b (m+1))(h1:l'.length<=b.Au.length+1)(h2:∀j∈l',j∈b.Au\/j=i)(hi:i.name.length<=1000):CH {b with Au:=l'} m:=
 ⟨by have:=r.n;simp only;omega,λx=>by have:=r.at_ x;simp only;omega,λx=>by have:=r.data x;simp only;omega,by have:=r.Au;simp only;omega,by have:=r.A3;simp only;omega,by have:=r.tm;simp only;omega,r.Es,λj hj=>by
  rcases h2 j hj with h|rfl
  .exact r.vO j h
  .exact hi⟩
def CH.aC9{e:Cn}{l':List Cn}(r:CH b (m+1))(h1:l'.length<=b.A3.length+1)(h2:∀j∈l',j∈b.A3\/j=e)(hi:e.name.length<=1000/\GQ e.As):CH {b with A3:=l'} m:=
 ⟨by have:=r.n;simp only;omega,λx=>by have:=r.at_ x;simp only;omega,λx=>by have:=r.data x;simp only;omega,by have:=r.Au;simp only;omega,by have:=r.A3;simp only;omega,by have:=r.tm;simp only;omega,λj hj=>by
  rcases h2 j hj with h|rfl
  .exact r.Es j h
  .exact hi,r.vO⟩
def Q0(r:CH b (m+4))(hl:GQ l)(hn:nm.length<=1000):CH (b.Co nm l sp) m:=by
 unfold BS.Co;split
 .rename_i hs;have c:=RJ (m:=m+1) (nm:=nm) (sp:=sp) (p:=(b.place 0).1) (r.le Ac) hl;have r2:=c.I5 (O0 (x:=b.a.len+1) (p:=(b.place 0).1) (bf:=(b.place 0).2));have ho:(b.Gf nm l sp (b.place 0).1).Au=b.Au:=by unfold BS.Gf;rw[Ae hs]
  refine r2.aC8 (i:=b.HA nm l sp) (by simp only[An,AQ];exact Ad _) (λj hj=>?_) (T2 hn);rcases Ao.1 hj with h|h
  .exact .inl h
  .exact .inr (by simpa using h)
 .exact r.le Ac
def pS(r:CH b (m+5))(hl:GQ l)(hn:nm.length<=1000):CH (b.Eu nm l) m:=by
 have c:=Q0 (m:=m+1) (sp:=1) (nm:=nm) (r.le Ac) hl hn;unfold BS.Eu;simp only
 obtain⟨l',h1,h2⟩:=T0 (l:=(b.Co nm l 1).A3) (e:=⟨b.a.len+1,nm,l⟩);rw[h2];refine c.aC9 (e:=⟨b.a.len+1,nm,l⟩) (by have:=h1.length_le;simp;omega) (λj hj=>?_) ⟨hn,hl⟩;rcases Ao.1 hj with h|h
 .exact .inl (h1.subset h)
 .exact .inr (by simpa using h)
end
end Go.Am
end
