/- Lemmas -/
import Derived.Test.YtdbnpiefklklhaaGreatDoorH18
set_option linter.all false
noncomputable section
set_option maxRecDepth 100000
section
namespace Go.Am
open Go
section
section
variable{U:Type}{z:Nat}
def Gt{Aw:List (List U)}(h:∀r∈Aw,r.length=z):Aw.flatten.length=Aw.length*z:=by
 induction Aw with
 |nil=>simp
 |cons q Aw ih=>rw[CH,Aq,h q Ax,ih λr hr=>h r (by simp[hr]),AJ,BA];omega
def Zt{Aw:List (List U)}(h:∀r∈Aw,r.length=z):∀{k:Nat},Aw.flatten.take (k*z)=(Aw.take k).flatten:=by
 induction Aw with
 |nil=>intro k;simp
 |cons q Aw ih=>
  intro k;have hq:=h q Ax;cases k with
  |zero=>simp
  |succ k=>rw[CH,BA,Ed,OJ,qR,A8 Ab,hq,S1,ih λr hr=>h r (by simp[hr])];simp
def Iu{Aw:List (List U)}(h:∀r∈Aw,r.length=z):∀{k:Nat},Aw.flatten.drop (k*z)=(Aw.drop k).flatten:=by
 induction Aw with
 |nil=>intro k;simp
 |cons q Aw ih=>
  intro k;have hq:=h q Ax;cases k with
  |zero=>simp
  |succ k=>rw[CH,BA,Ed,OJ,SV,AT Ab,hq,S1,ih λr hr=>h r (by simp[hr])];simp
def iJ{Aw:List (List U)}(h:∀r∈Aw,r.length=z){k:Nat}(hk:k<Aw.length)(q:List U):Aw.flatten.take (k*z)++q++Aw.flatten.drop (k*z+z)=(Aw.set k q).flatten:=by
 have e:k*z+z=(k+1)*z:=by rw[BA,Ed]
 rw[e,Zt h,Iu h,Cv,Af hk];simp
def Zu{Aw:List (List Aa)}(h:∀r∈Aw,r.length=z):∀{n off:Nat},off+n<=Aw.length->Cr Aw.flatten z (off*z) n=(Aw.drop off).take n:=by
 intro n;induction n with
 |zero=>intro off _;simp[Cr]
 |succ n ih=>
  intro off hl;rw[Cr];have e:off*z+z=(off+1)*z:=by rw[BA,Ed]
  rw[e,ih Ab,Iu h];have hlt:off<Aw.length:=Ab;rw[Ay hlt,CH,Du (by rw[h _ (AY hlt)];exact Ae _),A8 (by rw[h _ (AY hlt)];exact Ae _),YH]
def nc{Aw:List (List Aa)}(h:∀r∈Aw,r.length=z):Cr Aw.flatten z 0 Aw.length=Aw:=by have:=Zu h (n:=Aw.length) (off:=0) Ab;simpa using this
end
section
variable{h:Ai}{id z n:Nat}{Aw:List (List Aa)}
def P2(hr:∀r∈Aw,r.length=z)(hc:h[id]?=some (.cells Aw.flatten)):Li h (.C3 id 0 Aw.length z)=some (h.set id .DF,.sl z Aw):=by unfold Li;simp only[hc,BJ];rw[Af (by rw[Gt hr];exact Ae _),nc hr]
def Fe{k:IntKind}{i:Nat}(hi:i<n):Az (.FA z) [.C3 id 0 n z,.int k (i:Int)]=some (.ptr (some (id,i*z))):=by
 have:LH (i:Int) n=some i:=by unfold LH;rw[Af Ab];rfl
 simp[Az,elemOf,this]
def Uv(hr:∀r∈Aw,r.length=z)(hc:h[id]?=some (.cells Aw.flatten)){i:Nat}(hi:i<Aw.length){q:List Aa}(hq:q.length=z):CL h z (.ptr (some (id,i*z))) (.agg q)=some (h.set id (.cells (Aw.set i q).flatten)):=by
 simp only[CL,hc,P0];have:i*z+z<=Aw.flatten.length:=by rw[Gt hr];have:=DV z (Ab:i+1<=Aw.length);rwa [BA,Ed] at this
 rw[<-iJ hr hi];exact Af ⟨hq,this⟩
def iK(hr:∀r∈Aw,r.length=z){i:Nat}{q:List Aa}(hq:q.length=z):∀r∈Aw.set i q,r.length=z:=by
 intro r h;rcases Dv h with h|rfl
 .exact hr r h
 .exact hq
def Pd{U:Type}{f:U->List Aa}(hf:∀a,(f a).length=z)(l:List U):∀r∈l.map f,r.length=z:=by intro r h;obtain⟨a,_,rfl⟩:=A4.1 h;exact hf a
def Pe{s v:Aa}{b:Nat}(hs:s= .slnil\/s= .sl z [])(hv:Bv z Aw v)(hne:Aw≠[])(hb:Aw.length*b<=AO):MH h z b s v=some (h++[.cells Aw.flatten],.C3 h.length 0 Aw.length z):=by
 rcases hv with rfl|⟨rfl,hv⟩
 .cases Aw with
  |nil=>exact absurd rfl hne
  |cons r Aw=>rw[AJ] at hb;rcases hs with rfl|rfl<;>simp[MH,OO,hb]
 .exact absurd hv hne
def iL{s v:Aa}{b:Nat}(hs:s= .slnil\/s= .sl z [])(hv:Bv z [] v):MH h z b s v=some (h,s):=by rcases hv with rfl|⟨rfl,hv⟩<;>rcases hs with rfl|rfl<;>simp[MH,OO]
def Q4{v:Aa}{b:Nat}{r2:List (List Aa)}(hr:∀r∈Aw,r.length=z)(hz:0<z)(hc:h[id]?=some (.cells Aw.flatten))(hv:Bv z r2 v)(hne:r2≠[])(hb:(Aw.length+r2.length)*b<=AO):
  GP h z b (.C3 id 0 Aw.length z) v=some (h.set id .DF++[.cells (Aw++r2).flatten],.C3 h.length 0 (Aw.length+r2.length) z):=by
 rcases hv with rfl|⟨rfl,hv⟩
 .cases r2 with
  |nil=>exact absurd rfl hne
  |cons r r2=>
   have hl:=Gt hr;have h1:¬(0+(Aw.length+(r::r2).length)*z<=Aw.flatten.length):=by rw[hl,AJ,BJ,BA,BA];omega
   have h2:Aw.flatten.take (Aw.length*z)=Aw.flatten:=A8 (by rw[hl];exact Ae _);unfold GP;simp only[Ha,BE,hc];rw[Ad h1,Af ⟨trivial,by rw[hl];exact Ae _,hb⟩,h2,Ko]
 .exact absurd hv hne
end
end
section
section
end
def JE:List Ah:=[[100,100],[100,116],[108,105],aUc,aTT,[112],[114,98],[114,112],[114,116],aUP]
def P3:List Ah:=[aT0,aUe,aUn,[116,100],aUm,[116,104],aUo,[116,114]]
def NP:List Ah:=[[109,105],[109,110],[109,111],[109,115],[109,116,101,120,116]]
def Zv:List Ah:=[aVf,aUb,aTX]
section
end
def CT:List Ah:=[[104,49],[104,50],[104,51],[104,52],[104,53],[104,54]]
def D6(k:Int)(s:Ah):Bool:=
 if k=3 then decide (s=aTP\/s∈NP) else if k=2 then decide (s∈Zv) else if k=1 then decide (s∈Sb) else false
def sw(s:Ah)(t e:IT):List Ah->IT
 |[]=>e
 |c::cs=> .op (.str .eql) [.str s,.str c] λv=> .AD v t (sw s t e cs)
def ng{C:Fv}{Q:J7}{h:Ai}{s:Ah}{t e:IT}:∀{cs:List Ah},W C (sw s t e cs) Q h↔(s∈cs->W C t Q h)/\(s∉cs->W C e Q h)
 |[]=>by simp[sw]
 |c::cs=>by
  simp only[sw,Wy,sN,LS,Nf,WA,AG,Oi];rw[ng];by_cases hc:s=c;.simp[hc]
  .simp[hc]
def Q5{C:Fv}{f:FuncId}{args:List Aa}{r:Aa}:Lm C f args r↔W C (B4 C f args) (λx vs _=>x= .ret/\vs=[r]) []:=by
 unfold Lm Ev;constructor;.exact λh=>W.mono h λ_ _ _ ⟨h1,r,h2,a⟩=>⟨h1,by rw[h2,a]⟩
 .exact λh=>W.mono h λ_ _ _ ⟨h1,h2⟩=>⟨h1,r,h2,rfl⟩
section
variable{Q:J7}{h:Ai}{k:Aa->IT}{s:Ah}
end
section
variable{Q:J7}{h:Ai}{k:Aa->IT}{s:Ah}{n:Int}
end
end
section
def Yr{cur:Ah}:DR cur []=[cur]:=by unfold DR;rfl
def WR{cur r:Ah}{c:UInt8}:DR cur (c::r)=if c=32 then cur::DR [] r else DR (cur++[c]) r:=by rw[DR]
def Pf(l s:Ah):Bool:=decide (s≠[]/\(32:UInt8)∉s/\s∈DR [] l)
def iM{s:Ah}{a n:Nat}(ha:a<=n)(hn:n<s.length):(s.take (n+1)).drop a=(s.take n).drop a++[s[n]]:=by rw[AQ hn,yZ Ei]
end
section
def Sc{l:Ah}{ws:List Ah}{s:Ah}(h1:DR [] l=ws)(h2:ws.all (λw=> !w.isEmpty&& !w.contains 32)=true):Pf l s=decide (s∈ws):=by
 unfold Pf;rw[h1,C9];refine⟨λh=>h.2.2,λh=>⟨?_,?_,h⟩⟩;.have:=Cg.1 h2 s h;rintro rfl;simp at this
 .have:=Cg.1 h2 s h;intro a;simp[a] at this
section
variable{Q:J7}{h:Ai}{k:Aa->IT}{s:Ah}
def Ng:List Ah:=DR [] aTt
def Nh:List Ah:=DR [] aTs
def Sd:List Ah:=[aTA,aTO,aTz]
def Pg:List Ah:=[aUc,aTT]
def bL:List Ah:=[[111,108],[117,108]]
def Vn:List Ah:=[aUQ,aT0,aTA,aUH,aUW,aTO,[116,100],aTz,[116,104]]
end
section
variable{Q:J7}{h:Ai}{k:Aa->IT}{s:Ah}{n:Int}
end
end
section
def Jl(c:UInt8):UInt8:=if 65<=c.toNat/\c.toNat<=90 then c+32 else c
def EC(s:Ah):Ah:=s.map Jl
def bM{c:UInt8}(h:65<=c.toNat/\c.toNat<=90):((Jl c).toNat:Int)=(c.toNat:Int)+32:=by unfold Jl;rw[Af h,UInt8.toNat_add];have:UInt8.toNat 32=32:=AM;rw[this];omega
def Se{c:UInt8}(h:¬(65<=c.toNat/\c.toNat<=90)):Jl c=c:=by unfold Jl;rw[Ad h]
def nY{s:Ah}{n:Nat}(hn:n<s.length):EC (s.take (n+1))=EC (s.take n)++[Jl s[n]]:=by rw[AQ hn];unfold EC;rw[BU];rfl
def Oq(b:UInt8):Aa:= .int .u8 (b.toNat:Int)
def Hm(s:Ah)(n:Nat):Ah:=EC (s.take n)++s.drop n
def WS(s:Ah)(n:Nat):(Hm s n).length=s.length:=by simp[Hm,EC];omega
def WT{s:Ah}{n:Nat}(hn:n<s.length):(Hm s n)[n]?=some s[n]:=by unfold Hm EC;rw[BI Ei];simp only[Av,AB,CE (TZ hn),Dy];rw[Ay hn];rfl
def Sf{s:Ah}{n:Nat}(hn:n<s.length):Hm s (n+1)=(Hm s n).set n (Jl s[n]):=by
 unfold Hm;rw[nY hn,B5 _ _ (by simp[EC];omega)];have e:n-(EC (s.take n)).length=0:=by simp[EC];omega
 rw[e,Ay hn,eS,AS];rfl
def iN(s:Ah):Hm s s.length=EC s:=by simp[Hm,EC]
def nh{U:Type}{l:List U}{i:Nat}{v:U}(h:l[i]?=some v):l.set i v=l:=by
 apply L7;intro j;rw[aOZ];split
 .rename_i e;subst e;split;.exact h.symm
  .rename_i hl;rw[C5 Ab]
 .rfl
def nZ{cs:List Aa}{i:Nat}{v:Aa}(h:cs[i]?=some v):Bj [.cells cs] none (.ptr (some (0,i)))=some v:=by simpa[Bj] using h
def Ys{U:Type}{l:List U}{i:Nat}{v:U}(h:i<l.length):l.take i++v::l.drop (i+1)=l.set i v:=by rw[Cv,Af h]
def iO{cs:List Aa}{i:Nat}{v:Aa}(h:i<cs.length)(hv:v.cells=[v]):CL [.cells cs] 1 (.ptr (some (0,i))) v=some [.cells (cs.set i v)]:=by simp only[CL,hv,Im,Bl];rw[Af ⟨trivial,Ab⟩,<-Ys h];simp
def Ph(s:Ah):∀(n o:Nat),o+n=s.length->Cr (s.map Oq) 1 o n=CY (s.drop o)
 |0,o,h=>by rw[AT Ab];rfl
 |n+1,o,h=>by
  have ho:o<s.length:=Ab;have e:(s.map Oq).drop o=Oq s[o]::(s.map Oq).drop (o+1):=by rw[Ay (by simpa using ho)];simp
  rw[Cr,Ph s n (o+1) Ab,Ay ho,e];rfl
end
section
def DD(name:Ah):List Ah->Ah
 |[]=>name
 |w::ws=>if EC w=name then w else DD name ws
def Ca(w:Ah):List Aa:=[.str w]
def Tp:Ah:=aTt
def Tq:Ah:=aTs
end
section
structure A3 where
 A6:Int
 name:Ah
 value:Ah
 deriving DecidableEq
def A3.row(a:A3):List Aa:=[.int .i64 a.A6,.str a.name,.str a.value]
structure Item where
 node:Int
 A6:Int
 name:Ah
 Ot:Bool
 deriving DecidableEq
def Item.row(a:Item):List Aa:=[.int .i64 a.node,.int .i64 a.A6,.str a.name,.bool a.Ot]
def HN(ns:List Ah)(v:Aa):Prop:=Bv 1 (ns.map Ca) v
def Bb(l:List A3)(v:Aa):Prop:=Bv 3 (l.map A3.row) v
def Ds(l:List Item)(v:Aa):Prop:=Bv 4 (l.map Item.row) v
def sQ(l:List A3):Prop:=l.length<=12/\∀x∈l,x.name.length<=60/\x.value.length<=200
instance(l:List A3):Decidable (sQ l):=by unfold sQ;infer_instance
def ni(l:List Ah):Prop:=l.length<=12/\∀x∈l,x.length<=60
instance(l:List Ah):Decidable (ni l):=by unfold ni;infer_instance
def sR(l:List Item):Prop:=l.length<=60/\∀x∈l,x.name.length<=60
instance(l:List Item):Decidable (sR l):=by unfold sR;infer_instance
end
section
def Cc{U:Type}(p:U->Bool)(n:Nat):List U->Int
 |[]=> -1
 |a::l=>if p a then(n:Int) else Cc p (n+1) l
def Gu{U:Type}{p:U->Bool}:∀{l:List U} {k:Nat},(Cc p k l= -1/\l.find? p=none)\/∃(n:Nat) (a:U),Cc p k l=((k+n:Nat):Int)/\l[n]?=some a/\l.find? p=some a
 |[],k=> .inl ⟨rfl,rfl⟩
 |a::l,k=>by
  unfold Cc;by_cases h:p a=true;.exact .inr ⟨0,a,by rw[Af h];rfl,rfl,by simp[h]⟩
  .rw[Ad h];rcases Gu (p:=p) (l:=l) (k:=k+1) with⟨h1,h2⟩|⟨n,b,h1,h2,c⟩
   .exact .inl ⟨h1,by simp[h,h2]⟩
   .exact .inr ⟨n+1,b,by rw[h1];congr 1;omega,by simpa using h2,by simp[h,c]⟩
def sS(a:A3):Bool:=decide (a.A6=0/\a.name=aVg)
def Pj{s:Ah}(h:s.all (λc=> !(65<=c.toNat&&c.toNat<=90))=true):EC s=s:=by
 unfold EC;conv=>rhs;rw[<-List.map_id s]
 apply YK;intro c hc;have:=Cg.1 h c hc;refine Se λh2=>?_;simp[h2.1,h2.2] at this
abbrev aFd:Ah:=aTP
abbrev sT:Ah:=aVb
abbrev bN:Ah:=aUp
def Iv(n:Int)(s:Ah)(l:List A3):Bool:=
 if n=2 then D6 2 s else if n≠3 then false else if s≠aFd then false else match l.find? sS with
  |none=>false
  |some a=>decide (EC a.value=sT\/EC a.value=bN)
end
section
section
variable{U:Type}{f:U->List Aa}{l l2:List U}{v v2:Aa}{z b:Nat}{k k2:IntKind}
def Bv.F0(hv:Bv z (l.map f) v):Az (.len false) [v]=some (.int .i64 (l.length:Int)):=by have:=Bv.len hv;rwa [Av] at this
def Bv.Df(hv:Bv z (l.map f) v){n:Nat}(hn:n<l.length):Az (.FA z) [v,.int k (n:Int)]=some (.BR (f l[n])):=by have:=Bv.FA hv (k:=k) (n:=n) (by simpa using hn);simpa using this
def Bv.Sg(hv:Bv z (l.map f) v){n:Nat}(hn:n<=l.length):∃u,Az (.OM z false false true) [v,.int k (n:Int)]=some u/\Bv z ((l.take n).map f) u:=by
 rcases hv with rfl|⟨rfl,h⟩
 .have a:Ey (n:Int) (l.map f).length=some n:=by unfold Ey;rw[Av,Af Ab];rfl
  refine⟨.sl z ((l.map f).take n),?_,.inl (by rw[HQ])⟩;simp only[Az,IY,Dz,a,By,lJ,BE,L8]
 .have:l=[]:=by simpa using h
  subst this;have:n=0:=by simpa using hn
  subst this;exact⟨.slnil,rfl,.inr ⟨rfl,rfl⟩⟩
def Bv.sU(hv:Bv z (l.map f) v){n:Nat}(hn:n<=l.length):∃u,Az (.OM z false true false) [v,.int k (n:Int)]=some u/\Bv z ((l.drop n).map f) u:=by
 rcases hv with rfl|⟨rfl,h⟩
 .have a:Ey (n:Int) (l.map f).length=some n:=by unfold Ey;rw[Av,Af Ab];rfl
  refine⟨.sl z ((l.map f).drop n),?_,.inl (by rw[KV])⟩;simp only[Az,IY,Dz,a,By,lJ,BE,BW]
 .have:l=[]:=by simpa using h
  subst this;have:n=0:=by simpa using hn
  subst this;exact⟨.slnil,rfl,.inr ⟨rfl,rfl⟩⟩
def Bv.be(hv:Bv z (l.map f) v)(Qi:Bv z (l2.map f) v2)(hb:(l.length+l2.length)*b<=AO):∃u,Az (.append z b) [v,v2]=some u/\Bv z ((l++l2).map f) u:=by obtain⟨u,e,hu⟩:=Bv.JX hv Qi (b:=b) (by simpa using hb);exact⟨u,e,by rwa [BU]⟩
def Bv.Q6(Qi:Bv z (l2.map f) v2)(hb:l2.length*b<=AO):∃u,Az (.append z b) [.slnil,v2]=some u/\Bv z (l2.map f) u:=by obtain⟨u,e,hu⟩:=Bv.JX (v:= .slnil) (r:=[]) .nil Qi (b:=b) (by simpa using hb);exact⟨u,e,by simpa using hu⟩
def Bv.Zw{a:U}(hv:Bv z (l.map f) v)(hb:(l.length+1)*b<=AO):Az (.append z b) [v,.sl z [f a]]=some (.sl z ((l++[a]).map f)):=by rw[Bv.aJS hv (by simpa using hb)];simp
end
def DI{a b:Int}(h1: -9223372036854775808<=a-b)(h2:a-b<9223372036854775808):Az (.int .sub) [.int .i64 a,.int .i64 b]=some (.int .i64 (a-b)):=by rw[nX,wrap_i64 h1 h2]
def Vo{a b:Int}(h1: -9223372036854775808<=a+b)(h2:a+b<9223372036854775808):Az (.int .add) [.int .i64 a,.int .i64 b]=some (.int .i64 (a+b)):=by rw[nW,wrap_i64 h1 h2]
def Item.zero:Item:=⟨0,0,[],false⟩
def Item.DP{a:Item}:a.row.length=4:=rfl
def Item.g0{a:Item}{d:Aa}:a.row.getD 0 d= .int .i64 a.node:=rfl
def Item.g1{a:Item}{d:Aa}:a.row.getD 1 d= .int .i64 a.A6:=rfl
def Item.g2{a:Item}{d:Aa}:a.row.getD 2 d= .str a.name:=rfl
def Item.g3{a:Item}{d:Aa}:a.row.getD 3 d= .bool a.Ot:=rfl
def Item.at0{a:Item}:a.row[0]?=some (.int .i64 a.node):=rfl
def Item.KH{a:Item}:a.row.take 4=a.row:=rfl
def Item.nj{a:Item}:a.row.drop 1=[.int .i64 a.A6,.str a.name,.bool a.Ot]:=rfl
def Item.aFf{a:Item}:a.row.drop 2=[.str a.name,.bool a.Ot]:=rfl
def Item.aFg{a:Item}:a.row.drop 3=[.bool a.Ot]:=rfl
def Item.UY{a:Item}:[Aa.int .i64 a.node,.int .i64 a.A6,.str a.name,.bool a.Ot]=a.row:=rfl
def Item.fill{a:Item}:Br [.int .i64 0,.int .i64 0,.str [],.bool false] ([(0,1),(1,1),(2,1),(3,1)].zip a.row)=some a.row:=rfl
def Jr:=ai @Item.fill (ai @Item.DP (ai @Item.g0 (ai @Item.g1 (ai @Item.g2 (ai @Item.g3 (ai @Item.at0 (ai @Item.KH (ai @Item.nj (ai @Item.aFf (ai @Item.aFg (ai @Item.UY (ai @Fi (@BB.{0})))))))))))))
def DJ(l:List Item)(i:Int):Item:=if 0<=i then l.getD i.toNat Item.zero else Item.zero
def E3(l:List Item):Item:=DJ l ((l.length:Int)-1)
def AX{U:Type}(q:U->Bool)(l:List U):Int:=match l.reverse.findIdx? q with
 |some k=>(l.length:Int)-1 -k
 |none=> -1
def Pk{U:Type}{q:U->Bool}:AX q []= -1:=rfl
def Ln{U:Type}{q:U->Bool}{l:List U}{a:U}:AX q (l++[a])=if q a then(l.length:Int) else AX q l:=by
 unfold AX;rw[HY,II,Jc,aM5];by_cases h:q a=true;.simp only[h,BE,Aq,Bl];omega
 .simp only[h,DU,Ck,Aq,Bl];cases List.findIdx? q l.reverse with
  |none=>rfl
  |some k=>simp only[By];omega
def NQ{U:Type}{q:U->Bool}{l:List U}{n:Nat}(hn:n<l.length):AX q (l.take (n+1))=if q l[n] then(n:Int) else AX q (l.take n):=by rw[AQ hn,Ln,AB,CE (TZ hn)]
def DX{U:Type}{q:U->Bool}{l:List U}:(AX q l= -1/\∀a∈l,q a=false)\/∃(n:Nat) (hn:n<l.length),AX q l=(n:Int)/\q l[n]=true/\∀m (hm:m<l.length),n<m->q l[m]=false:=by
 have key:∀r:List U,(AX q r.reverse= -1/\∀a∈r.reverse,q a=false)\/∃(n:Nat) (hn:n<r.reverse.length),AX q r.reverse=(n:Int)/\q r.reverse[n]=true/\∀m (hm:m<r.reverse.length),n<m->q r.reverse[m]=false:=by
  intro r;induction r with
  |nil=>exact .inl ⟨rfl,Ax⟩
  |cons a r ih=>
   rw[HD,Ln];by_cases h:q a=true;.refine .inr ⟨r.reverse.length,Ax,by rw[Af h],by simp[h],λm hm hlt=>?_⟩;simp at hm hlt;omega
   .rw[Ad h];rcases ih with⟨h1,h2⟩|⟨n,hn,h1,h2,c⟩
    .exact .inl ⟨h1,λb hb=>by
      rcases Ap.1 hb with hb|hb
      .exact h2 b hb
      .simp at hb;subst hb;simpa using h⟩
    .refine .inr ⟨n,by simp at hn⊢;omega,h1,by rw[Rt hn];exact h2,λm hm hlt=>?_⟩;by_cases UQ:m<r.reverse.length;.rw[Rt UQ];exact c m UQ hlt
     .have:m=r.reverse.length:=by simp at hm UQ⊢;omega
      subst this;simpa using h
 have:=key l.reverse;rwa [JT] at this
def At(h:Ai)(id o:Nat)(v:Aa):Prop:=∃cs,h[id]?=some (.cells cs)/\cs[o]?=some v
def put(h:Ai)(id o:Nat)(u:Aa):Ai:=match h[id]? with
 |some (.cells cs)=>h.set id (.cells (cs.set o u))
 |_=>h
section
variable{h t:Ai}{id o:Nat}{u v w:Aa}
def IF{cs:List Aa}(hc:h[id]?=some (.cells cs)):put h id o u=h.set id (.cells (cs.set o u)):=by unfold put;rw[hc]
def Lo:(put h id o u).length=h.length:=by unfold put;split<;>simp
def At.lt(ha:At h id o v):id<h.length:=by obtain⟨cs,hc,_⟩:=ha;exact(Aj.1 hc).1
def At.load(ha:At h id o v):Bj h none (.ptr (some (id,o)))=some v:=by obtain⟨cs,hc,e⟩:=ha;simp only[Bj,hc,Gr,e]
def At.store(ha:At h id o v)(hu:u.cells=[u]):CL h 1 (.ptr (some (id,o))) u=some (put h id o u):=by
 obtain⟨cs,hc,e⟩:=ha;have hl:=(Aj.1 e).1;rw[IF hc];simp only[CL,hc,hu,Bl,Nq];have a:cs.set o u=cs.take o++[u]++cs.drop (o+1):=by rw[Cv,Af hl];simp
 rw[Af (Ab:o+1<=cs.length),a]
def At.put(ha:At h id o v):At (put h id o u) id o u:=by obtain⟨cs,hc,e⟩:=ha;have hl:=(Aj.1 e).1;have hi:=(Aj.1 hc).1;rw[IF hc];exact⟨cs.set o u,by simp[hi],by simp[hl]⟩
def At.same(ha:At h id o v):Am.put h id o v=h:=by obtain⟨cs,hc,e⟩:=ha;obtain⟨hl,e⟩:=Aj.1 e;obtain⟨hi,a⟩:=Aj.1 hc;rw[IF hc,<-e,Jd,<-a,Jd]
def bO:Am.put (Am.put h id o u) id o w=Am.put h id o w:=by
 cases hc:h[id]? with
 |none=>
  have e:∀u,Am.put h id o u=h:=λu=>by unfold Am.put;rw[hc]
  rw[e,e]
 |some x=>cases x with
  |cells cs=>have hi:=(Aj.1 hc).1;rw[IF hc,IF hc,IF (cs:=cs.set o u) (by simp[hi])];simp
  |_=>
   have e:∀u,Am.put h id o u=h:=λu=>by unfold Am.put;rw[hc]
   rw[e,e]
def At.JX(ha:At h id o v):At (h++t) id o v:=by obtain⟨cs,hc,e⟩:=ha;exact⟨cs,by rw[An (Aj.1 hc).1];exact hc,e⟩
def bP(ha:At h id o v):Am.put (h++t) id o u=Am.put h id o u++t:=by have hi:=ha.lt;obtain⟨cs,hc,e⟩:=ha;rw[IF hc,IF (by rw[An hi];exact hc),List.set_append_left _ _ hi]
def CV{i:Nat}(hn:i≠id):(Am.put h id o u)[i]?=h[i]?:=by
 unfold Am.put;split;.rw[Ao (Dx hn)]
 .rfl
end
def bg(h:Ai)(p:Aa)(l:List Item):Prop:=(p= .ptr none/\l=[])\/∃id o v,p= .ptr (some (id,o))/\At h id o v/\Ds l v
def HH{l:List Item}{n:Nat}(hn:n<l.length):DJ l (n:Int)=l[n]:=by have:(0:Int)<=(n:Int):=Ab;simp[DJ,this,hn]
def WU{l:List Item}{i:Int}(h:i<0\/(l.length:Int)<=i):DJ l i=Item.zero:=by
 unfold DJ;rcases h with h|h
 .rw[Ad Ab]
 .rw[Af Ab,AR,C5 Ab];rfl
section
variable{h:Ai}{p:Aa}{l:List Item}
def zu{s:Ah}{ws:List Ah}:decide (0<=Cc (λw=>decide (s=w)) 0 ws)=decide (s∈ws):=by
 rcases Gu (p:=λw=>decide (s=w)) (l:=ws) (k:=0) with⟨h1,h2⟩|⟨n,a,h1,h2,c⟩
 .rw[h1,C9];have:=IJ.1 h2;exact⟨λh=>Ab,λh=>absurd (show s=s from rfl) (by simpa using this s h)⟩
 .rw[h1,C9];have e:s=a:=by simpa using KZ c
  have:a∈ws:=Ct h2;refine⟨λ_=>e▸this,λ_=>Ab⟩
def Be(ws:List Ah)(a:Item):Bool:=decide (a.A6=1/\a.name∈ws)
def CP{ws:List Ah}:HN ws (.sl 1 (ws.map Ca)):= .mk
def NR(n:Int)(a:Item):Bool:=
 if n=4 then Be Sd a else if n=5 then !Be Pg a else if a.A6=3\/a.A6=2 then D6 a.A6 a.name
 else Be Vn a||(decide (n=2)&&Be bL a)||(decide (n=3)&&Be [aTC] a)
def El{ws:List Ah}{args:List Aa}(e:args=ws.map Aa.str)(h:ws.length<=16777216):Az (.Ch 1) args=some (.sl 1 (ws.map Ca)):=by
 subst e;have g:(ws.map Aa.str).all (λa=>a.cells.length==1)=true:=Ax;have c:(ws.map Aa.str).map (·.cells)=ws.map Ca:=by simp[Ca]
 rw[sP,g,c];simp[h]
def oA:Az (.Ch 1) [S aTA,S aTO,S aTz]=some (.sl 1 (Sd.map Ca)):=El (ws:=Sd) rfl AM
def iP:Az (.Ch 1) [S aUc,S aTT]=some (.sl 1 (Pg.map Ca)):=El (ws:=Pg) rfl AM
def bh:Az (.Ch 1) [S [111,108],S [117,108]]=some (.sl 1 (bL.map Ca)):=El (ws:=bL) rfl AM
def oB:Az (.Ch 1) [S aUQ,S aT0,S aTA,S aUH,S aUW,S aTO,S [116,100],S aTz,S [116,104]]=some (.sl 1 (Vn.map Ca)):=El (ws:=Vn) rfl AM
def bk:Az (.Ch 1) [S aTC]=some (.sl 1 ([aTC].map Ca)):=El (ws:=[aTC]) rfl AM
def Pl{U:Type}(q e:U->Bool):List U->Bool
 |[]=>false
 |a::r=>if q a then true else if e a then false else Pl q e r
def oC{U:Type}{q e:U->Bool}(l:List U)(b:Bool):(if h:0<=AX (λa=>q a||e a) l/\(AX (λa=>q a||e a) l).toNat<l.length then q (l[(AX (λa=>q a||e a) l).toNat]'h.2) else false)=Pl q e l.reverse:=by
 have key:∀r:List U,(if h:0<=AX (λa=>q a||e a) r.reverse/\(AX (λa=>q a||e a) r.reverse).toNat<r.reverse.length then q (r.reverse[(AX (λa=>q a||e a) r.reverse).toNat]'h.2) else false)=Pl q e r:=by
  intro r;induction r with
  |nil=>simp[Pl,Pk]
  |cons a r ih=>
   simp only[HD,Pl];have e0:=Ln (q:=λa=>q a||e a) (l:=r.reverse) (a:=a);by_cases hq:q a=true
   .rw[Af (by simp[hq])] at e0;have c:(AX (λa=>q a||e a) (r.reverse++[a])).toNat=r.reverse.length:=by rw[e0];omega
    simp only[c];rw[lK ⟨by rw[e0];omega,Ax⟩];simp[hq]
   .by_cases he:e a=true
    .rw[Af (by simp[he])] at e0;have c:(AX (λa=>q a||e a) (r.reverse++[a])).toNat=r.reverse.length:=by rw[e0];omega
     simp only[c];rw[lK ⟨by rw[e0];omega,Ax⟩];simp[hq,he]
    .rw[Ad (by simp[hq,he])] at e0;simp only[hq,he,DU,Ck,<-ih,e0];rcases DX (q:=λa=>q a||e a) (l:=r.reverse) with⟨h1,h2⟩|⟨n,hn,h1,h2,j⟩
     .simp[h1]
     .have g:(0:Int)<=(n:Int)/\(n:Int).toNat<r.reverse.length:=⟨Ab,by simpa using hn⟩;have i:(0:Int)<=(n:Int)/\(n:Int).toNat<(r.reverse++[a]).length:=⟨Ab,by simp at hn⊢;omega⟩;simp only[h1];rw[lK g,lK i,Rt g.2]
 have:=key l.reverse;rwa [JT] at this
def HN.cells{v:Aa}{ws:List Ah}(hv:HN ws v):v.cells=[v]:=Bv.cells hv
def BQ(node:Int)(a:Item):Bool:=decide (a.node=node)
end
end
section
section
variable{h:Ai}{p v:Aa}{l:List Item}
def bl{n s:Int}{t:Ah}{b:Bool}:Az (.B6 [I 0,I 0,S [],ff] [(0,1),(1,1),(2,1),(3,1)]) [.int .i64 n,.int .i64 s,.str t,.bool b]=some (.agg (Item.row ⟨n,s,t,b⟩)):=by simp only[Cf];rfl
def nl{a:Item}:Az (.Ch 4) [.agg a.row]=some (.sl 4 [a.row]):=WQ rfl AM
def Lp(h:Ai)(id o:Nat)(l:List Item):Prop:=∃v,At h id o v/\Ds l v
def Lp.at{id o:Nat}(hs:Lp h id o l):bg h (.ptr (some (id,o))) l:=let⟨v,h1,h2⟩:=hs; .inr ⟨id,o,v,rfl,h1,h2⟩
def Ds.cells(hv:Ds l v):v.cells=[v]:=Bv.cells hv
def Dj(a:Item):Bool:=D6 a.A6 a.name
def Em(node:Int)(l:List Item):Int:=if AX (BQ node) l<0 then -1 else match(l.drop ((AX (BQ node) l).toNat+1)).findIdx? Dj with
 |some k=>AX (BQ node) l+1+k
 |none=> -1
def Gj{U:Type}(q:U->Bool)(l:List U)(n:Nat):Int:=match(l.drop n).findIdx? q with
 |some k=>(n:Int)+k
 |none=> -1
def Yt{U:Type}{q:U->Bool}{l:List U}{n:Nat}(h:l.length<=n):Gj q l n= -1:=by unfold Gj;rw[AT h];rfl
def bQ{U:Type}{q:U->Bool}{l:List U}{n:Nat}(h:n<l.length):Gj q l n=if q l[n] then(n:Int) else Gj q l (n+1):=by
 unfold Gj;rw[Ay h,aM5];by_cases hq:q l[n]=true;.simp only[hq,BE];omega
 .simp only[hq,Ck,DU];cases List.findIdx? q (l.drop (n+1)) with
  |none=>rfl
  |some k=>simp only[By];omega
def Mt{node:Int}:Em node l=if AX (BQ node) l<0 then -1 else Gj Dj l ((AX (BQ node) l).toNat+1):=by
 unfold Em Gj;by_cases h:AX (BQ node) l<0;.simp only[h,BE]
 .simp only[h,DU];cases(l.drop ((AX (BQ node) l).toNat+1)).findIdx? Dj with
  |none=>rfl
  |some k=>simp only;omega
end
end
section
def Ev.ret{C:Fv}{f:FuncId}{args:List Aa}{h:Ai}{R:Aa->Ai->Prop}(hw:Ev C f args h R):∃r h',B9 C f args h r h'/\R r h':=by obtain⟨n,x,vs,h',e,hx,r,hv,hR⟩:=hw;exact⟨r,h',⟨n,x,vs,h',e,hx,hv,rfl⟩,hR⟩
def QC(b a:Item->Bool):List Item->List Item
 |x::y::r=>if b x then x::y::r else if a x then y::r else QC b a (y::r)
 |r=>r
def DT(b a:Item->Bool)(l:List Item):List Item:=(QC b a l.reverse).reverse
def bm{b a:Item->Bool}{l:List Item}(h:l.length<=1):QC b a l=l:=by
 match l with
 |[]=>rfl
 |[x]=>rfl
 |x::y::r=>simp at h
def iQ{b a:Item->Bool}{l:List Item}(h:l.length<=1):DT b a l=l:=by unfold DT;rw[bm (by simpa using h),JT]
def bn{b a:Item->Bool}{l:List Item}{x:Item}(h:1<=l.length):DT b a (l++[x])=if b x then l++[x] else if a x then l else DT b a l:=by
 unfold DT;rw[HY,II,Jc];cases hr:l.reverse with
 |nil=>
  have:l=[]:=by simpa using hr
  subst this;simp at h
 |cons y r=>
  have hl:l=r.reverse++[y]:=by rw[<-JT l,hr,HD]
  rw[QC];by_cases h1:b x=true;.rw[Af h1,Af h1];rw[hl];simp
  .rw[Ad h1,Ad h1];by_cases h2:a x=true;.rw[Af h2,Af h2];rw[hl];simp
   .rw[Ad h2,Ad h2]
def bo{b a:Item->Bool}{l:List Item}{n:Nat}(hn:n+1<l.length):DT b a (l.take (n+2))=if b l[n+1] then l.take (n+2) else if a l[n+1] then l.take (n+1) else DT b a (l.take (n+1)):=by have e:l.take (n+2)=l.take (n+1)++[l[n+1]]:=AQ hn;rw[e,bn (by rw[AB];omega)]
def bR{b a:Item->Bool}:∀{l:List Item},(DT b a l).length<=l.length:=by
 have key:∀r:List Item,(QC b a r).length<=r.length:=by
  intro r;induction r with
  |nil=>simp[QC]
  |cons x r ih=>
   cases r with
   |nil=>simp[QC]
   |cons y r=>
    rw[QC];split;.simp
    .split;.simp
     .exact Bp ih Ax
 intro l;have:=key l.reverse;simpa[DT] using this
section
variable{h:Ai}{p v:Aa}{l:List Item}
def WV{n:Nat}(hn:n<l.length):E3 (l.take (n+1))=l[n]:=by
 have e:((l.take (n+1)).length:Int)-1=(n:Int):=by rw[AB];omega
 unfold E3;rw[e,HH (by rw[AB];omega)];simp
def Lp.bS{id o:Nat}(hs:Lp h id o l):∃u,h=put h id o u/\Ds l u:=by obtain⟨u,hc,hu⟩:=hs;exact⟨u,hc.same.symm,hu⟩
def Lp.lt{id o:Nat}(hs:Lp h id o l):∃v,At h id o v:=let⟨u,hc,_⟩:=hs;⟨u,hc⟩
def Lp.aAk{id o:Nat}{u:Aa}(hlt:∃v,At h id o v)(hu:Ds l u):Lp (put h id o u) id o l:=let⟨_,ha⟩:=hlt;⟨u,ha.put,hu⟩
def Db(_:Item):Bool:=false
def Eu(s:Ah)(a:Item):Bool:=decide (a.A6≠1\/a.name∉JE\/a.name=s)
def DM(a:Item):Bool:=decide (a.A6≠1\/¬(a.name∈P3\/a.name∈JE))
def I0(node:Int)(l:List Item):List Item:=if AX (BQ node) l<0 then l else DT Db (BQ node) l
end
end
section
section
variable{h:Ai}{p v:Aa}{l:List Item}
def aFh(l:List Item):∀r∈l.map Item.row,r.length=4:=Pd (f:=Item.row) (λa=>Item.DP) l
def sV{n:Nat}(h:n<=2000000000):n*40<=AO:=by have:AO=140737488355328:=rfl;omega
def Bz{U:Type}(l:List U)(k:Nat):List U:=l.take k++l.drop (k+1)
def Dt(node:Int)(l:List Item):List Item:=if AX (BQ node) l<1 then l else Bz l (AX (BQ node) l).toNat
def Iw(i:Int)(n:Nat):Nat:=min (max i 1).toNat n
def Pm(node:Int)(a:Item)(l:List Item):List Item:=if AX (BQ node) l<1 then l else l.set (AX (BQ node) l).toNat a
end
end
section
end
section
section
variable{h:Ai}{p v w:Aa}{l:List Item}{ws:List Ah}
end
end
section
def fT:List (Ah×Int×Ah):=[(aUt,4,aU5),(aUr,4,aU3),(aUB,4,aVt),(aUC,4,aVu),(aUD,4,aVv),(aUx,4,aTX),(aUE,4,aUG),(aUU,5,[108,97,110,103]),(aUL,5,aVm),(aUz,6,aUz),(aUy,6,aVh)]
def WW(x:Ah×Int×Ah):Aa×Aa:=(.str x.1,.agg [.int .i64 x.2.1,.str x.2.2,.str []])
def ft(n:Nat):List (Aa×Aa):=(fT.take n).map WW
def aFi:MY aUt (.agg [.int .i64 4,.str aU5,.str []]) (ft 0)=some (ft 1):=by kernel_rfl
def aFj:MY aUr (.agg [.int .i64 4,.str aU3,.str []]) (ft 1)=some (ft 2):=by kernel_rfl
def aFk:MY aUB (.agg [.int .i64 4,.str aVt,.str []]) (ft 2)=some (ft 3):=by kernel_rfl
def aFl:MY aUC (.agg [.int .i64 4,.str aVu,.str []]) (ft 3)=some (ft 4):=by kernel_rfl
def aFm:MY aUD (.agg [.int .i64 4,.str aVv,.str []]) (ft 4)=some (ft 5):=by kernel_rfl
def aFn:MY aUx (.agg [.int .i64 4,.str aTX,.str []]) (ft 5)=some (ft 6):=by kernel_rfl
def aFo:MY aUE (.agg [.int .i64 4,.str aUG,.str []]) (ft 6)=some (ft 7):=by kernel_rfl
def aFp:MY aUU (.agg [.int .i64 5,.str [108,97,110,103],.str []]) (ft 7)=some (ft 8):=by kernel_rfl
def aFq:MY aUL (.agg [.int .i64 5,.str aVm,.str []]) (ft 8)=some (ft 9):=by kernel_rfl
def aFr:MY aUz (.agg [.int .i64 6,.str aUz,.str []]) (ft 9)=some (ft 10):=by kernel_rfl
def aAl:MY aUy (.agg [.int .i64 6,.str aVh,.str []]) (ft 10)=some (ft 11):=by kernel_rfl
def oD{h:Ai}{es:List (Aa×Aa)}{s:Ah}{v:Aa}:Qq (h++[.map es]) (.map (some h.length)) (.str s) v=(MY s v es).map λes=>h++[.map es]:=by simp[Qq]
def Jm(n:Ah):Option (Int×Ah):=(fT.find? λx=>decide (n=x.1)).map (·.2)
def WX(n:Ah):∀l:List (Ah×Int×Ah),RA n (l.map WW)=some ((l.find? λx=>decide (n=x.1)).map λx=>(WW x).2)
 |[]=>rfl
 |x::l=>by
  rw[A9,Hv,WW,RA];by_cases e:n=x.1;.rw[Af e,Al e];rfl
  .rw[Ad e,Ak e];exact WX n l
def LU{h:Ai}{n:Ah}:Oj (h++[.map (ft 11)]) (.agg [.int .i64 0,.str [],.str []]) true (.map (some h.length)) (.str n)=
  some (match Jm n with|some (s,m)=> .tuple [.agg [.int .i64 s,.str m,.str []],.bool true]|none=> .tuple [.agg [.int .i64 0,.str [],.str []],.bool false]):=by
 have e:S9 (h++[.map (ft 11)]) (.map (some h.length)) (.str n)=RA n (fT.map WW):=by simp[S9,ft,fT]
 rw[Oj,e,WX,Jm];cases fT.find? λx=>decide (n=x.1)<;>rfl
abbrev aFs:Ah:=aUK
abbrev aAm:Ah:=aUM
def Mu(sp:Int)(n:Ah):Ah:=if sp=2 then DD n Nh else if sp=3/\n=aFs then aAm else n
def DY(sp:Int)(a:A3):A3:=
 if sp=2\/sp=3 then match Jm (Mu sp a.name) with
  |some (s,m)=>⟨s,m,a.value⟩
  |none=>⟨0,Mu sp a.name,a.value⟩
 else⟨0,a.name,a.value⟩
def bT(s:Ah):(EC s).length=s.length:=by simp[EC]
def Ou(n:Ah):∀ws,DD n ws=n\/(DD n ws∈ws/\EC (DD n ws)=n)
 |[]=> .inl rfl
 |w::ws=>by
  rw[DD];split;.rename_i e;exact .inr ⟨List.mem_cons_self,e⟩
  .rcases Ou n ws with h|⟨h1,h2⟩
   .exact .inl h
   .exact .inr ⟨X2 _ h1,h2⟩
def LV{a b c:Aa}:Az (.Ch 3) [.agg [a,b,c]]=some (.sl 3 [[a,b,c]]):=rfl
def A3.DP{a:A3}:a.row.length=3:=rfl
def A3.KH{a:A3}:a.row.take 3=a.row:=rfl
section
variable{v:Aa}{l:List A3}{h:Ai}
def np{a b:A3}{neg:Bool}:Az (.geq neg [.i,.s,.s]) [.agg a.row,.agg b.row]=some (.bool (decide (a=b) != neg)):=by
 rw[WJ];have:DO [.i,.s,.s] a.row b.row=some (decide (a=b)):=by simp only[DO,LG,A3.row,BE,Bx];cases a;cases b;simp only[A3.mk.injEq];rw[K0];simp
 rw[this];rfl
def bp{k:IntKind}{s:Ah}{a z:Nat}(ha:a<=s.length):Az (.OM z true true false) [.str s,.int k (a:Int)]=some (.str (s.drop a)):=by
 have c:Ey (a:Int) s.length=some a:=by unfold Ey;rw[Af Ab];rfl
 simp[Az,IY,Dz,c]
end
end
section
structure Co where
 node:Int
 name:Ah
 Au:List A3
deriving DecidableEq
structure C1 where
 c:Co
 v:Aa
 ok:Bb c.Au v
def C1.row(e:C1):List Aa:=[.int .i64 e.c.node,.str e.c.name,e.v]
def EF(l:List C1)(v:Aa):Prop:=Bv 3 (l.map C1.row) v
section
variable{e:C1}{d:Aa}
def C1.DP:e.row.length=3:=rfl
def C1.g0:e.row.getD 0 d= .int .i64 e.c.node:=rfl
def C1.g1:e.row.getD 1 d= .str e.c.name:=rfl
def C1.g2:e.row.getD 2 d=e.v:=rfl
def C1.at0:e.row[0]?=some (.int .i64 e.c.node):=rfl
def C1.KH:e.row.take 3=e.row:=rfl
def C1.nj:e.row.drop 1=[.str e.c.name,e.v]:=rfl
def C1.UY:[Aa.int .i64 e.c.node,.str e.c.name,e.v]=e.row:=rfl
def C1.aJZ:Az (.len false) [e.v]=some (.int .i64 (e.c.Au.length:Int)):=Bv.F0 e.ok
end
def A3.g0{a:A3}{d:Aa}:a.row.getD 0 d= .int .i64 a.A6:=rfl
def A3.g1{a:A3}{d:Aa}:a.row.getD 1 d= .str a.name:=rfl
def A3.g2{a:A3}{d:Aa}:a.row.getD 2 d= .str a.value:=rfl
def A3.UY{a:A3}:[Aa.int .i64 a.A6,.str a.name,.str a.value]=a.row:=rfl
def Zx{n:Nat}(h:n<=2000000000):n*48<=AO:=by have:AO=140737488355328:=rfl;omega
def Tr(e:C1):Bool:=decide (e.c.node=0)
def Ts(n:Int)(e:C1):Bool:=decide (e.c.node=n)
def since(l:List C1):Int:=AX Tr l+1
def bq:since []=0:=rfl
def oE{l:List C1}{e:C1}:since (l++[e])=if e.c.node=0 then(l.length:Int)+1 else since l:=by unfold since;rw[Ln];by_cases h:e.c.node=0<;>simp[Tr,h]
def oF{l:List C1}{n:Nat}(hn:n<l.length):since (l.take (n+1))=if l[n].c.node=0 then(n:Int)+1 else since (l.take n):=by rw[AQ hn,oE,AB,CE (TZ hn)]
def Q7(l:List C1):∃s:Nat,since l=(s:Int)/\s<=l.length/\(∀m (hm:m<l.length),s<=m->l[m].c.node≠0)/\(∀t,s=t+1->∃ht:t<l.length,l[t].c.node=0):=by
 rcases DX (q:=Tr) (l:=l) with⟨h1,h2⟩|⟨n,hn,h1,h2,a⟩
 .refine⟨0,by unfold since;rw[h1];rfl,A7 _,λm hm _=>?_,λt ht=>by omega⟩;have:=h2 _ (AY hm);simpa[Tr] using this
 .refine⟨n+1,by unfold since;rw[h1];rfl,hn,λm hm Ee=>?_,λt ht=>?_⟩;.have:=a m hm Ab;simpa[Tr] using this
  .obtain rfl:t=n:=by omega
   exact⟨hn,by simpa[Tr] using h2⟩
section
variable{h:Ai}{v:Aa}{l:List C1}{id:Nat}
def sW(name:Ah):List C1->Int
 |[]=> -1
 |e::t=>if e.c.node=0 then -1 else if e.c.name=name then(t.length:Int) else sW name t
def QD(name:Ah)(l:List C1):Int:=sW name l.reverse
def oG{name:Ah}{n:Nat}(hn:n<l.length):QD name (l.take (n+1))=if l[n].c.node=0 then -1 else if l[n].c.name=name then(n:Int) else QD name (l.take n):=by rw[AQ hn,QD,HY,II,Jc,sW,YM,AB,CE (TZ hn),QD]
def br{name:Ah}:QD name []= -1:=rfl
def Kd(node:Int)(l:List C1):Int:=if node=0 then -1 else AX (Ts node) l
end
section
variable{h:Ai}{v:Aa}{l:List A3}
def La(a b:Co):Bool:=decide (a.name=b.name/\a.Au.length=b.Au.length/\(∀x∈a.Au,x∈b.Au)/\∀x∈b.Au,x∈a.Au)
def gi(e:C1):Prop:=e.c.Au.length<=1000000000
end
end
section
mutual
def Aa.Si:∀a:Aa,Aa.beq a a=true
 | .bool a=>by simp[Aa.beq]
 | .int k a=>by simp[Aa.beq]
 | .str a=>by simp[Aa.beq]
 | .ptr a=>by simp[Aa.beq]
 | .BR a=>by simp[Aa.beq,Aa.Ke a]
 | .sl n a=>by simp[Aa.beq,Aa.WY a]
 | .H5 _=>by simp[Aa.beq]
 | .slnil=>by simp[Aa.beq]
 | .C3 a c d e=>by simp[Aa.beq]
 | .map a=>by simp[Aa.beq]
 | .func f a c=>by simp[Aa.beq,Aa.Ke a,Aa.Ke c]
 | .nilFunc=>by simp[Aa.beq]
 | .iface t a=>by simp[Aa.beq,Aa.Si a]
 | .nilIface=>by simp[Aa.beq]
 | .agg a=>by simp[Aa.beq,Aa.Ke a]
 | .tuple a=>by simp[Aa.beq,Aa.Ke a]
def Aa.Ke:∀a:List Aa,Aa.Rx a a=true
 |[]=>by simp[Aa.Rx]
 |a::x=>by simp[Aa.Rx,Aa.Si a,Aa.Ke x]
def Aa.WY:∀a:List (List Aa),Aa.Ry a a=true
 |[]=>by simp[Aa.Ry]
 |a::x=>by simp[Aa.Ry,Aa.Ke a,Aa.WY x]
end
def Tt(h:Ai)(id o:Nat)(l:List C1):Prop:=∃u,At h id o u/\EF l u
def EF.cells{l:List C1}{v:Aa}(hv:EF l v):v.cells=[v]:=Bv.cells hv
def Tt.lt{h:Ai}{id o:Nat}{l:List C1}(hs:Tt h id o l):∃v,At h id o v:=let⟨u,hc,_⟩:=hs;⟨u,hc⟩
def Tu(l:List C1):∀r∈l.map C1.row,r.length=3:=Pd (f:=C1.row) (λa=>C1.DP) l
section
variable{h:Ai}{v:Aa}{l:List C1}{id:Nat}
def bt{r:List Aa}(h:r.length=3):Az (.Ch 3) [.agg r]=some (.sl 3 [r]):=WQ (a:= .agg r) h AM
def iR(n:Int)(l:List C1):Kd n l= -1\/∃k:Nat,k<l.length/\Kd n l=(k:Int):=by
 unfold Kd;split;.exact .inl rfl
 .rcases DX (q:=Ts n) (l:=l) with⟨h1,_⟩|⟨k,hk,h1,_⟩
  .exact .inl h1
  .exact .inr ⟨k,hk,h1⟩
def bU:C1:=⟨⟨0,[],[]⟩,.slnil,.nil⟩
def nr:[I 0,S [],Aa.slnil]=bU.row:=rfl
def Gv(i:Int)(n:Nat):Nat:=min (max i 0).toNat n
def HB(l:List C1):Nat:=(since l-1).toNat
end
end
section
def zw(e:Co):List C1->Nat
 |[]=>0
 |x::t=>if x.c.node=0 then 0 else zw e t+(if La x.c e=true then 1 else 0)
def oH(e:Co):List C1->Int
 |[]=> -1
 |x::t=>if x.c.node=0 then -1 else if 0<=oH e t then oH e t else if La x.c e=true then(t.length:Int) else -1
def Yu(e:Co)(l:List C1):Nat:=zw e l.reverse
def Q8(e:Co)(l:List C1):Int:=oH e l.reverse
section
variable{e:Co}{l:List C1}{n s:Nat}
def Zy(hn:n<l.length):Yu e (l.take (n+1))=if l[n].c.node=0 then 0 else Yu e (l.take n)+(if La l[n].c e=true then 1 else 0):=by rw[AQ hn,Yu,HY,II,Jc,zw,Yu]
def Zz(hn:n<l.length):Q8 e (l.take (n+1))=if l[n].c.node=0 then -1 else if 0<=Q8 e (l.take n) then Q8 e (l.take n) else if La l[n].c e=true then(n:Int) else -1:=by rw[AQ hn,Q8,HY,II,Jc,oH,Q8,YM,AB,CE (TZ hn)]
def oI(hs:since l=(s:Int)):Yu e (l.take s)=0/\Q8 e (l.take s)= -1:=by
 obtain⟨s',e,h1,h2,a⟩:=Q7 l;obtain rfl:s=s':=Ab;cases s with
 |zero=>exact⟨rfl,rfl⟩
 |succ t=>obtain⟨ht,h0⟩:=a t rfl;exact⟨by rw[Zy ht,Af h0],by rw[Zz ht,Af h0]⟩
end
def Q9(e:Co)(l:List C1):List C1:=if e.node≠0/\3<=Yu e l then Bz l (Q8 e l).toNat else l
section
variable{h:Ai}{v:Aa}{l:List C1}{id:Nat}
end
end
section
section
variable{h:Ai}{v:Aa}{l:List C1}{id:Nat}
end
end
end Go.Am
end
section
namespace Go.Am
structure GQ where
 kind:Int:=0
 Hi:Int:=0
 Bw:List Int:=[]
 CK:Int:=0
 A6:Int:=0
 name:Ah:=[]
 Au:List A3:=[]
 data:Ah:=[]
 JV:Ah:=[]
 sys:Ah:=[]
 CS:Bool:=false
 cont:Int:=0
 EG:Int:=0
deriving DecidableEq
structure Ar where
 n:List GQ
 i:List Int
abbrev Bc:Ah:=aTz
def fB(x:GQ):Prop:=x.kind=4/\x.A6=1/\x.name=Bc
instance(x:GQ):Decidable (fB x):=by unfold fB;infer_instance
namespace Ar
def len(A:Ar):Int:=A.n.length
def has(A:Ar)(h:Int):Prop:=1<=h/\h<=A.n.length
instance(A:Ar)(h:Int):Decidable (A.has h):=by unfold has;infer_instance
def nd(A:Ar)(h:Int):GQ:=if A.has h then A.n.getD (h.toNat-1) {} else{}
def inr(A:Ar)(h:Int):Int:=if A.has h then A.i.getD (h.toNat-1) 0 else 0
def set(A:Ar)(h:Int)(x:GQ):Ar:={n:=if A.has h then A.n.set (h.toNat-1) x else A.n,i:=A.i}
def Ni(A:Ar)(h:Int)(x:Int):Ar:={n:=A.n,i:=if A.has h then A.i.set (h.toNat-1) x else A.i}
def add(A:Ar)(x:GQ):Ar:={n:=A.n++[x],i:=A.i++[0]}
def up(A:Ar)(h:Int):Int:=if(A.nd h).Hi≠0 then(A.nd h).Hi else(A.nd h).EG
end Ar
section
variable{A:Ar}{h k:Int}{x y:GQ}
def Ov(a:¬A.has h):A.nd h={}:=by unfold Ar.nd;rw[Ad a]
def IP:(A.set h x).n.length=A.n.length:=by simp only[Ar.set];split<;>simp
def zx:(A.set h x).len=A.len:=by unfold Ar.len;rw[IP]
def I1:(A.set h x).has k↔A.has k:=by unfold Ar.has;rw[IP]
def JF:(A.set h x).nd k=if k=h/\A.has h then x else A.nd k:=by
 unfold Ar.nd;simp only[I1];by_cases hk:A.has k
 .rw[Af hk,Af hk];simp only[Ar.set];by_cases a:A.has h
  .rw[Af a];have h1:=a;have h2:=hk;unfold Ar.has at h1 h2;by_cases e:k=h;.subst e;rw[Af ⟨rfl,a⟩,AR,AE Ab];rfl
   .rw[Ad (by simp[e]),AR,Ao Ab,AR]
  .rw[Ad a,Ad (by simp[a])]
 .rw[Ad hk,Ad hk,Ad];rintro⟨rfl,h2⟩;exact hk h2
def Sj:(A.set h x).inr k=A.inr k:=by unfold Ar.inr;simp only[I1];rfl
def NS:(A.add x).len=A.len+1:=by simp[Ar.len,Ar.add]
def D8:(A.add x).has k↔A.has k\/k=A.len+1:=by simp[Ar.has,Ar.add,Ar.len];omega
def Lb:(A.add x).nd k=if k=A.len+1 then x else A.nd k:=by
 unfold Ar.nd;simp only[D8];by_cases e:k=A.len+1;.subst e;simp[Ar.add,Ar.len]
 .by_cases hk:A.has k;.rw[Af (.inl hk),Ad e,Af hk];unfold Ar.has at hk;simp only[Ar.add,AR];rw[An Ab]
  .rw[Ad (by simp[hk,e]),Ad e,Ad hk]
def Vp(hl:A.i.length=A.n.length):(A.add x).inr k=A.inr k:=by
 unfold Ar.inr;simp only[D8];by_cases e:k=A.len+1
 .subst e;have:¬A.has (A.len+1):=by unfold Ar.has Ar.len;omega
  rw[Af (.inr rfl),Ad this];simp[Ar.add,Ar.len,<-hl]
 .by_cases hk:A.has k;.rw[Af (.inl hk),Af hk];unfold Ar.has at hk;simp only[Ar.add,AR];rw[An Ab]
  .rw[Ad (by simp[hk,e]),Ad hk]
def iS:(A.Ni h k).len=A.len:=rfl
def Sk{m:Int}:(A.Ni h m).has k↔A.has k:=Iff.rfl
def sX{m:Int}:(A.Ni h m).nd k=A.nd k:=by rfl
def WZ{m:Int}(hl:A.i.length=A.n.length):(A.Ni h m).inr k=if k=h/\A.has h then m else A.inr k:=by
 unfold Ar.inr;simp only[Sk];by_cases hk:A.has k
 .rw[Af hk,Af hk];simp only[Ar.Ni];by_cases a:A.has h
  .rw[Af a];have h1:=a;have h2:=hk;unfold Ar.has at h1 h2;by_cases e:k=h;.subst e;rw[Af ⟨rfl,a⟩,AR,AE Ab];rfl
   .rw[Ad (by simp[e]),AR,Ao Ab,AR]
  .rw[Ad a,Ad (by simp[a])]
 .rw[Ad hk,Ad hk,Ad];rintro⟨rfl,h2⟩;exact hk h2
end
def keyOf(a:A3):Int×Ah:=(a.A6,a.name)
def Gw(out:List A3):List A3->List A3
 |[]=>out
 |x::l=>if out.any (λy=>decide (keyOf x=keyOf y)) then Gw out l else Gw (out++[x]) l
def C8(l:List A3):List A3:=Gw [] l
def Ra:∀{l out:List A3},(out.map keyOf).Nodup->((Gw out l).map keyOf).Nodup
 |[],_,h=>h
 |x::l,out,h=>by
  rw[Gw];split;.exact Ra h
  .rename_i hn;refine Ra ?_;rw[BU,BN];refine⟨h,Ax,?_⟩;rintro a ha b hb rfl;simp at hb;subst hb;simp at ha hn;obtain⟨y,hy,e⟩:=ha;exact hn y hy e.symm
def iT:∀{l out:List A3},((out++l).map keyOf).Nodup->Gw out l=out++l
 |[],out,_=>by simp[Gw]
 |x::l,out,h=>by
  rw[Gw,Ad,iT (by simpa using h)];.simp
  .intro ha;rw[BU,BN] at h;simp at ha;obtain⟨y,hy,e⟩:=ha;exact h.2.2 _ (A4.2 ⟨y,hy,e.symm⟩) _ Ax rfl
def bu(l:List A3):((C8 l).map keyOf).Nodup:=Ra Ax
def zy{l:List A3}(h:(l.map keyOf).Nodup):C8 l=l:=by have:=iT (out:=[]) (l:=l) (by simpa using h);simpa[C8] using this
def ZA(l:List A3):C8 (C8 l)=C8 l:=zy (bu l)
def Tv:∀{l out:List A3} {a:A3},a∈Gw out l->a∈out\/a∈l
 |[],_,_,h=> .inl h
 |x::l,out,a,h=>by
  rw[Gw] at h;split at h
  .rcases Tv h with h|h
   .exact .inl h
   .exact .inr (by simp[h])
  .rcases Tv h with h|h
   .simp at h;rcases h with h|rfl
    .exact .inl h
    .exact .inr Ax
   .exact .inr (by simp[h])
def iU{l:List A3}{a:A3}(h:a∈C8 l):a∈l:=by simpa using Tv h
def W0:∀{l out:List A3},(Gw out l).length<=out.length+l.length
 |[],out=>by simp[Gw]
 |x::l,out=>by
  rw[Gw];split;.have:=W0 (l:=l) (out:=out);simp;omega
  .have:=W0 (l:=l) (out:=out++[x]);simp at this⊢;omega
def Sl{l:List A3}:(C8 l).length<=l.length:=by have:=W0 (l:=l) (out:=[]);simpa[C8] using this
structure sY(x:GQ):Prop where
 k:1<=x.kind/\x.kind<=6
 Bw:x.Bw≠[]->x.kind=1\/x.kind=2\/x.kind=4
 elem:x.kind≠4->x.A6=0/\x.Au=[]
 nm:x.kind≠4->x.kind≠3->x.name=[]
 dt:x.kind≠3->x.JV=[]/\x.sys=[]
 data:x.kind≠5->x.kind≠6->x.data=[]
 CS:x.kind≠1->x.CS=false
 sp:0<=x.A6/\x.A6<=7
 z_:∀a∈x.Au,0<=a.A6/\a.A6<=7
 C8:C8 x.Au=x.Au
 W8:x.cont≠0->fB x
 Pn:x.EG≠0->x.kind=2
 root:x.Hi≠0->x.kind≠1/\x.kind≠2
 gj:x.Bw.Nodup
structure EZ(A:Ar)(e:Int):Prop where
 il:A.i.length=A.n.length
 Uw:∀h,A.has h->sY (A.nd h)
 CK:∀h,A.has h->A.has (A.nd h).CK/\(A.nd (A.nd h).CK).kind=1
 bV:∀h,A.has h->(A.nd h).kind=1->(A.nd h).CK=h
 Hi:∀h,A.has h->(A.nd h).Hi≠0->A.has (A.nd h).Hi/\h∈(A.nd (A.nd h).Hi).Bw
 PZ:∀h,A.has h->∀k∈(A.nd h).Bw,A.has k/\(A.nd k).Hi=h
 W9:∀h,A.has h->h≠e->fB (A.nd h)->(A.nd h).cont≠0
 cont:∀h,A.has h->(A.nd h).cont≠0->A.has (A.nd h).cont/\(A.nd (A.nd h).cont).kind=2/\(A.nd (A.nd h).cont).EG=h
 EG:∀h,A.has h->(A.nd h).EG≠0->A.has (A.nd h).EG/\(A.nd (A.nd h).EG).cont=h
 ine:∀h,A.has h->A.inr h≠0->A.has (A.inr h)/\(A.nd (A.inr h)).kind=1
 iV:∃r:Int->Nat,∀h,A.has h->A.up h≠0->r (A.up h)<r h
section
variable{A:Ar}{e h k:Int}{x y:GQ}
def Rb:¬A.has (A.len+1):=by unfold Ar.has Ar.len;omega
def Xa(a:¬A.has h):A.up h=0:=by unfold Ar.up;rw[Ov a];simp
def oJ(ok:EZ A e)(a:A.has h)(hu:A.up h≠0):A.has (A.up h):=by
 unfold Ar.up at hu⊢;split;.rename_i h1;exact(ok.Hi h a h1).1
 .rename_i h1;rw[Ad h1] at hu;exact(ok.EG h a hu).1
def Rc(ok:EZ A e)(hx:sY x)(hd:(x.kind=1/\x.CK=A.len+1)\/(x.kind≠1/\A.has x.CK/\(A.nd x.CK).kind=1))(hp:x.Hi=0)(hk:x.Bw=[])(hc:x.cont=0)(a:x.EG=0)(b:fB x->e=A.len+1):EZ (A.add x) e:=by
 have no:=Rb (A:=A);obtain⟨r,hr⟩:=ok.iV;have ne:∀{k},A.has k->k≠A.len+1:=λhk e=>no (e▸hk);refine⟨by simp[Ar.add,ok.il],?_,?_,?_,?_,?_,?_,?_,?_,?_,r,?_⟩<;>intro m hm<;>rw[D8] at hm<;>(try rw[Vp ok.il])<;>simp only[Ar.up,Lb,D8]<;>rcases hm with hm|rfl
 all_goals first|(rw[Ad (ne hm)])|(rw[Af rfl])|skip
 .exact ok.Uw m hm
 .exact hx
 .have:=ok.CK m hm;rw[Ad (ne this.1)];exact⟨.inl this.1,this.2⟩
 .rcases hd with⟨h1,h2⟩|⟨h1,h2,c⟩
  .rw[Af h2];exact⟨.inr h2,h1⟩
  .rw[Ad (ne h2)];exact⟨.inl h2,c⟩
 .exact ok.bV m hm
 .intro h1;rcases hd with⟨_,h2⟩|⟨h2,_⟩
  .exact h2
  .exact absurd h1 h2
 .intro h1;have:=ok.Hi m hm h1;rw[Ad (ne this.1)];exact⟨.inl this.1,this.2⟩
 .intro h1;exact absurd hp h1
 .intro q hq;have:=ok.PZ m hm q hq;rw[Ad (ne this.1)];exact⟨.inl this.1,this.2⟩
 .intro q hq;rw[hk] at hq;cases hq
 .exact ok.W9 m hm
 .intro h1 h2;exact absurd (b h2).symm h1
 .intro h1;have:=ok.cont m hm h1;rw[Ad (ne this.1)];exact⟨.inl this.1,this.2⟩
 .intro h1;exact absurd hc h1
 .intro h1;have:=ok.EG m hm h1;rw[Ad (ne this.1)];exact⟨.inl this.1,this.2⟩
 .intro h1;exact absurd a h1
 .intro h1;have:=ok.ine m hm h1;rw[Ad (ne this.1)];exact⟨.inl this.1,this.2⟩
 .intro h1;exfalso;apply h1;unfold Ar.inr;rw[Ad no]
 .have:=hr m hm;unfold Ar.up at this;exact this
 .rw[hp,a];simp
inductive Reach(A:Ar)(t:Int):Int->Prop
 |refl:Reach A t t
 |step {h:Int}:A.up h≠0->Reach A t (A.up h)->Reach A t h
def Mv(l:List Int)(b n:Int):List Int:=if b=0 then l++[n] else l.takeWhile (λk=>decide (k≠b))++n::l.dropWhile (λk=>decide (k≠b))
def Ar.cut(A:Ar)(n:Int):Ar:=
 let q:=(A.nd n).Hi
 if q=0 then A else
  let a:=A.set q {A.nd q with Bw:=(A.nd q).Bw.filter λk=>decide (k≠n)}
  a.set n {a.nd n with Hi:=0}
def Ar.MI(A:Ar)(p n b:Int):Ar:=
 let a:=A.set p {A.nd p with Bw:=Mv (A.nd p).Bw b n}
 a.set n {a.nd n with Hi:=p}
def Ow(k:Int):Prop:=k=1\/k=2\/k=4
instance(k:Int):Decidable (Ow k):=by unfold Ow;infer_instance
structure aAo(A:Ar)(p n b:Int):Prop where
 hp:A.has p
 hn:A.has n
 hb:b≠0->A.has b/\b≠n/\(A.nd b).Hi=p
 kp:Ow (A.nd p).kind
 kn:(A.nd n).kind≠1/\(A.nd n).kind≠2
 re:¬Reach A n p
open Classical in
def Ar.Ie(A:Ar)(p n b:Int):Ar:=if aAo A p n b then(A.cut n).MI p n b else A
def Tw{l:List Int}{b n k:Int}:k∈Mv l b n↔k=n\/k∈l:=by
 unfold Mv;split;.simp;exact Or.comm
 .have e:=lY (p:=λk=>decide (k≠b)) (l:=l);constructor
  .intro h;rw[Ap,AG] at h;rcases h with h|h|h
   .exact .inr (by rw[<-e];simp only[Ap];exact .inl h)
   .exact .inl h
   .exact .inr (by rw[<-e];simp only[Ap];exact .inr h)
  .intro h;rw[Ap,AG];rcases h with h|h
   .exact .inr (.inl h)
   .rw[<-e,Ap] at h;rcases h with h|h
    .exact .inl h
    .exact .inr (.inr h)
def iW{l:List Int}{b n:Int}(h:l.Nodup)(hn:n∉l):(Mv l b n).Nodup:=by
 unfold Mv;split;.rw[BN];refine⟨h,Ax,?_⟩;rintro a ha c hc rfl;simp at hc;subst hc;exact hn ha
 .have e:=lY (p:=λk=>decide (k≠b)) (l:=l);generalize List.takeWhile _ l=u at e⊢;generalize List.dropWhile _ l=w at e⊢;subst e;rw[BN] at h⊢;simp at hn;refine⟨h.1,by simp[h.2.1,hn.2],?_⟩;rintro a ha c hc rfl;simp at hc;rcases hc with rfl|hc
  .exact hn.1 ha
  .exact h.2.2 _ ha _ hc rfl
def iX:(A.cut h).n.length=A.n.length:=by unfold Ar.cut;simp only;split<;>simp[IP]
def NT:(A.cut h).has k↔A.has k:=by unfold Ar.has;rw[iX]
def iY{p n b:Int}:(A.MI p n b).n.length=A.n.length:=by unfold Ar.MI;simp[IP]
def sZ{p n b:Int}:(A.MI p n b).has k↔A.has k:=by unfold Ar.has;rw[iY]
def A_:(A.cut h).inr k=A.inr k:=by unfold Ar.cut;simp only;split<;>simp[Sj]
def B_{p n b:Int}:(A.MI p n b).inr k=A.inr k:=by unfold Ar.MI;simp[Sj]
def ģ(ok:EZ A e)(a:A.has h)(hu:A.up h≠0):A.up h≠h:=by obtain⟨r,hr⟩:=ok.iV;intro e;have:=hr h a hu;rw[e] at this;exact Dc _ this
def oK(ok:EZ A e)(a:A.has h)(hu:(A.nd h).Hi≠0):(A.nd h).Hi≠h:=by
 have:A.up h=(A.nd h).Hi:=by unfold Ar.up;rw[Af hu]
 have h2:=ģ ok a (by rw[this];exact hu);rwa [this] at h2
def Xb(ok:EZ A e)(a:A.has h):(A.cut h).nd k=if k=h then{A.nd h with Hi:=0} else if(A.nd h).Hi≠0/\k=(A.nd h).Hi then{A.nd k with Bw:=(A.nd k).Bw.filter λm=>decide (m≠h)} else A.nd k:=by
 unfold Ar.cut;simp only
 by_cases hp:(A.nd h).Hi=0
 .rw[Af hp];by_cases e:k=h;.subst e;rw[Af rfl];have:A.nd k={A.nd k with Hi:=(A.nd k).Hi}:=rfl;rw[hp] at this;exact this
  .rw[Ad e,Ad (by simp[hp])]
 .have hn:=oK ok a hp;have hq:=(ok.Hi h a hp).1;rw[Ad hp];simp only[JF,I1,a,hq,Mb];by_cases e:k=h;.subst e;simp[Dx hn]
  .simp[e,hp];split;.rename_i e;simp[e]
   .rfl
def iZ{x:GQ}(hx:sY x){l:List Int}(h1:l.Nodup)(h2:l≠[]->Ow x.kind):sY {x with Bw:=l}:=
 {k:=hx.k,Bw:=h2,elem:=hx.elem,nm:=hx.nm,dt:=hx.dt,data:=hx.data,CS:=hx.CS,sp:=hx.sp,z_:=hx.z_,C8:=hx.C8,W8:=hx.W8,Pn:=hx.Pn,root:=hx.root,gj:=h1}
def tC{x:GQ}(hx:sY x){p:Int}(h2:p≠0->x.kind≠1/\x.kind≠2):sY {x with Hi:=p}:=
 {k:=hx.k,Bw:=hx.Bw,elem:=hx.elem,nm:=hx.nm,dt:=hx.dt,data:=hx.data,CS:=hx.CS,sp:=hx.sp,z_:=hx.z_,C8:=hx.C8,W8:=hx.W8,Pn:=hx.Pn,root:=h2,gj:=hx.gj}
def aAp(ok:A.i.length=A.n.length):(A.cut h).i.length=(A.cut h).n.length:=by rw[iX];unfold Ar.cut;simp only;split<;>exact ok
def aAq{p n b:Int}(ok:A.i.length=A.n.length):(A.MI p n b).i.length=(A.MI p n b).n.length:=by rw[iY];exact ok
def C_(ok:EZ A e)(a:A.has h)(hk:k∈(A.nd h).Bw):k≠h/\(A.nd k).Hi=h/\A.has k:=by have:=ok.PZ h a k hk;refine⟨?_,this.2,this.1⟩;rintro rfl;have h0:=this.1.1;exact oK ok a (by rw[this.2];omega) this.2
def nu(ok:EZ A e)(a:A.has h):(A.cut h).up k=if k=h then(A.nd h).EG else A.up k:=by
 unfold Ar.up;rw[Xb ok a];by_cases e:k=h;.simp[e]
 .simp only[e,DU];split<;>rfl
def bW(ok:EZ A e)(c:A.has h)(X5:(A.nd h).kind≠2):EZ (A.cut h) e:=by
 obtain⟨r,hr⟩:=ok.iV;have a:=λm=>Xb (k:=m) ok c;have kd:∀m,((A.cut h).nd m).kind=(A.nd m).kind:=λm=>by rw[a];grind
 have l:∀m,((A.cut h).nd m).CK=(A.nd m).CK:=λm=>by rw[a];grind
 have n:∀m,((A.cut h).nd m).cont=(A.nd m).cont:=λm=>by rw[a];grind
 have ho:∀m,((A.cut h).nd m).EG=(A.nd m).EG:=λm=>by rw[a];grind
 have d:(A.nd h).EG=0:=by
  by_cases h0:(A.nd h).EG=0;.exact h0
  .exact absurd ((ok.Uw h c).Pn h0) X5
 refine⟨aAp ok.il,?_,?_,?_,?_,?_,?_,?_,?_,?_,r,?_⟩<;>intro m hm<;>rw[NT] at hm<;>(try simp only[kd,l,n,ho,NT,A_])
 .rw[a];split;.exact tC (ok.Uw h c) Ax
  .split;.exact iZ (ok.Uw m hm) ((ok.Uw m hm).gj.filter _) λh1=>(ok.Uw m hm).Bw (by intro h2;rw[h2] at h1;simp at h1)
   .exact ok.Uw m hm
 .exact ok.CK m hm
 .exact ok.bV m hm
 .intro h1;have b:m≠h:=by rintro rfl;rw[a] at h1;simp at h1
  have j:((A.cut h).nd m).Hi=(A.nd m).Hi:=by rw[a,Ad b];split<;>rfl
  rw[j] at h1⊢;have h2:=ok.Hi m hm h1;refine⟨h2.1,?_⟩;rw[a];split;.rename_i i;rw[<-i];exact h2.2
  .split;.simp only[Dg,B0];exact⟨h2.2,b⟩
   .exact h2.2
 .intro q hq;have h1:q∈(A.nd m).Bw/\(m=(A.nd h).Hi->q≠h):=by
   rw[a] at hq;split at hq;.rename_i b;subst b;have:=C_ ok hm hq;exact⟨hq,λ_=>this.1⟩
   .split at hq;.simp only[Dg,B0] at hq;exact⟨hq.1,λ_=>hq.2⟩
    .rename_i g;refine⟨hq,λf o=>g ⟨?_,f⟩⟩;rw[<-f];have:=hm.1;omega
  have h2:=ok.PZ m hm q h1.1;refine⟨h2.1,?_⟩;have b:q≠h:=by rintro rfl;exact h1.2 h2.2.symm rfl
  rw[a,Ad b,<-h2.2];split<;>rfl
 .intro h1 h2;refine ok.W9 m hm h1 ?_;rw[a] at h2;unfold fB at h2⊢;grind
 .exact ok.cont m hm
 .exact ok.EG m hm
 .exact ok.ine m hm
 .rw[nu ok c];split;.rw[d];simp
  .exact hr m hm
def nv{p n b:Int}(hp:A.has p)(hn:A.has n)(hne:n≠p):(A.MI p n b).nd k=if k=n then{A.nd n with Hi:=p} else if k=p then{A.nd p with Bw:=Mv (A.nd p).Bw b n} else A.nd k:=by
 unfold Ar.MI;simp only[JF,I1,hp,hn,Mb];by_cases e:k=n;.subst e;simp[hne]
 .simp[e]
def bw{p n b:Int}(hp:A.has p)(hn:A.has n)(hne:n≠p)(h0:(A.nd n).Hi=0)(a:(A.nd n).EG=0)(hr:¬Reach A n p):∀{m},¬Reach A n m->(A.MI p n b).up m=A.up m:=by
 intro m hm;have e:m≠n:=by rintro rfl;exact hm .refl
 unfold Ar.up;rw[nv hp hn hne,Ad e];split;.rename_i e;subst e;rfl
 .rfl
open Classical in
def aAr(ok:EZ A e){p n b:Int}(hp:A.has p)(hn:A.has n)(kp:Ow (A.nd p).kind)(kn:(A.nd n).kind≠1/\(A.nd n).kind≠2)(re:¬Reach A n p)(h0:(A.nd n).Hi=0):EZ (A.MI p n b) e:=by
 obtain⟨r,hr⟩:=ok.iV;have hne:n≠p:=by rintro rfl;exact re .refl
 have a:=λm=>nv (k:=m) (b:=b) hp hn hne;have kd:∀m,((A.MI p n b).nd m).kind=(A.nd m).kind:=λm=>by rw[a];grind
 have l:∀m,((A.MI p n b).nd m).CK=(A.nd m).CK:=λm=>by rw[a];grind
 have o:∀m,((A.MI p n b).nd m).cont=(A.nd m).cont:=λm=>by rw[a];grind
 have ho:∀m,((A.MI p n b).nd m).EG=(A.nd m).EG:=λm=>by rw[a];grind
 have i:(A.nd n).EG=0:=by
  by_cases h0:(A.nd n).EG=0;.exact h0
  .exact absurd ((ok.Uw n hn).Pn h0) kn.2
 have g:∀m,A.has m->n∉(A.nd m).Bw:=by intro m hm h1;have:=ok.PZ m hm n h1;rw[h0] at this;have:=hm.1;omega
 refine⟨aAq ok.il,?_,?_,?_,?_,?_,?_,?_,?_,?_,λm=>if Reach A n m then r m+r p+1 else r m,?_⟩<;>intro m hm<;>rw[sZ] at hm<;>(try simp only[kd,l,o,ho,sZ,B_])
 .rw[a];split;.exact tC (ok.Uw n hn) λ_=>kn
  .split;.exact iZ (ok.Uw p hp) (iW (ok.Uw p hp).gj (g p hp)) λ_=>kp
   .exact ok.Uw m hm
 .exact ok.CK m hm
 .exact ok.bV m hm
 .intro h1;by_cases c:m=n
  .subst c;rw[a,Af rfl];refine⟨hp,?_⟩;simp only
   rw[a,Ad (Dx hne),Af rfl];exact Tw.2 (.inl rfl)
  .have f:((A.MI p n b).nd m).Hi=(A.nd m).Hi:=by rw[a,Ad c];split;rename_i e;rw[e];rfl
   rw[f] at h1⊢;have h2:=ok.Hi m hm h1;refine⟨h2.1,?_⟩;rw[a];split;.rename_i j;rw[<-j];exact h2.2
   .split;.rename_i j;rw[<-j];exact Tw.2 (.inr h2.2)
    .exact h2.2
 .intro q hq;by_cases c:q=n
  .subst c;refine⟨hn,?_⟩;rw[a,Af rfl];rw[a] at hq;split at hq;.exact absurd hq (g q hn)
   .split at hq;.rename_i e;exact e.symm
    .exact absurd hq (g m hm)
  .have h1:q∈(A.nd m).Bw:=by
    rw[a] at hq;split at hq;.rename_i e;rw[e];exact hq
    .split at hq;.rename_i e;rw[e];exact(Tw.1 hq).resolve_left c
     .exact hq
   have h2:=ok.PZ m hm q h1;refine⟨h2.1,?_⟩;rw[a,Ad c,<-h2.2];split;.rename_i e;rw[e]
   .rfl
 .intro h1 h2;refine ok.W9 m hm h1 ?_;rw[a] at h2;unfold fB at h2⊢;grind
 .exact ok.cont m hm
 .exact ok.EG m hm
 .exact ok.ine m hm
 .intro hu;by_cases hR:Reach A n m
  .by_cases c:m=n
   .subst c;have f:(A.MI p m b).up m=p:=by unfold Ar.up;rw[a,Af rfl];simp only;rw[Af];have:=hp.1;omega
    rw[f,Ad re,Af hR];omega
   .have f:(A.MI p n b).up m=A.up m:=by
     unfold Ar.up;rw[a,Ad c];split;.rename_i e;rw[e]
     .rfl
    rw[f] at hu⊢;have d:Reach A n (A.up m):=by
     cases hR with
     |refl=>exact absurd rfl c
     |step _ hx=>exact hx
    rw[Af d,Af hR];have:=hr m hm hu;omega
  .have f:=bw (b:=b) hp hn hne h0 i re hR;rw[f] at hu⊢;have d:¬Reach A n (A.up m):=λh=>hR (.step hu h);rw[Ad d,Ad hR];exact hr m hm hu
def bx(ok:EZ A e)(b:A.has h){m:Int}(hr:¬Reach A h m):¬Reach (A.cut h) h m:=by
 intro LP;have key:∀m,Reach (A.cut h) h m->Reach A h m:=by
  intro m hm;induction hm with
  |refl=>exact .refl
  |@step q h1 _ ih=>
   by_cases a:q=h;.rw[a];exact .refl
   .rw[nu ok b,Ad a] at h1 ih;exact .step h1 ih
 exact hr (key m LP)
def P4(ok:EZ A e){p n b:Int}:EZ (A.Ie p n b) e:=by
 unfold Ar.Ie;split
 .rename_i f;have a:=bW ok f.hn f.kn.2;have kd:∀m,((A.cut n).nd m).kind=(A.nd m).kind:=λm=>by rw[Xb ok f.hn];grind
  refine aAr a (NT.2 f.hp) (NT.2 f.hn) ?_ ?_ (bx ok f.hn f.re) ?_;.rw[kd];exact f.kp
  .rw[kd];exact f.kn
  .rw[Xb ok f.hn,Af rfl]
 .exact ok
def ny(ok:EZ A e)(g:A.has h)(hx:sY x)(h1:x.kind=(A.nd h).kind)(h2:x.Hi=(A.nd h).Hi)(o:x.Bw=(A.nd h).Bw)(d:A.has x.CK/\(A.nd x.CK).kind=1/\(x.kind=1->x.CK=h))(n:x.cont=(A.nd h).cont)(l:x.EG=(A.nd h).EG)(i:fB x->fB (A.nd h)):EZ (A.set h x) e:=by
 obtain⟨r,hr⟩:=ok.iV;have a:∀m,(A.set h x).nd m=if m=h then x else A.nd m:=λm=>by rw[JF];simp[g]
 have kd:∀m,((A.set h x).nd m).kind=(A.nd m).kind:=λm=>by rw[a];grind
 have f:∀m,((A.set h x).nd m).Hi=(A.nd m).Hi:=λm=>by rw[a];grind
 have ks:∀m,((A.set h x).nd m).Bw=(A.nd m).Bw:=λm=>by rw[a];grind
 have j:∀m,((A.set h x).nd m).cont=(A.nd m).cont:=λm=>by rw[a];grind
 have ho:∀m,((A.set h x).nd m).EG=(A.nd m).EG:=λm=>by rw[a];grind
 have u:∀m,(A.set h x).up m=A.up m:=λm=>by unfold Ar.up;rw[f,ho]
 refine⟨by rw[IP];exact ok.il,?_,?_,?_,?_,?_,?_,?_,?_,?_,r,?_⟩<;>intro m hm<;>rw[I1] at hm<;>(try simp only[kd,f,ks,j,ho,u,I1,Sj])
 .rw[a];split;.exact hx
  .exact ok.Uw m hm
 .rw[a];split;.exact⟨d.1,d.2.1⟩
  .exact ok.CK m hm
 .rw[a];split;.rename_i e;intro c;rw[e,d.2.2 (by rw[h1,<-e];exact c)]
  .exact ok.bV m hm
 .exact ok.Hi m hm
 .exact ok.PZ m hm
 .intro c b;refine ok.W9 m hm c ?_;rw[a] at b;split at b;.rename_i e;rw[e];exact i b
  .exact b
 .exact ok.cont m hm
 .exact ok.EG m hm
 .exact ok.ine m hm
 .exact hr m hm
def Ar.HO(A:Ar)(d:Int):Int:=if A.inr d≠0 then A.inr d else A.len+1
def Ar.EH(A:Ar)(d:Int):Ar:=if A.inr d≠0 then A else((A.add {kind:=1,CK:=A.len+1}).Ni d (A.len+1)).Ni (A.len+1) (A.len+1)
def D_:sY {kind:=1,CK:=k}:=by constructor<;>simp[C8,Gw]
def tD(ok:EZ A e)(hk:A.has k/\(A.nd k).kind=1):EZ (A.Ni h k) e:=by
 refine⟨?_,ok.Uw,ok.CK,ok.bV,ok.Hi,ok.PZ,ok.W9,ok.cont,ok.EG,?_,ok.iV⟩;.simp only[Ar.Ni];split<;>simp[ok.il]
 .intro m hm h1;rw[Sk] at hm;rw[WZ ok.il] at h1⊢;split at h1;.rename_i h2;rw[Af h2];exact hk
  .rename_i h2;rw[Ad h2];exact ok.ine m hm h1
def nz(ok:EZ A e)(b:A.has h)(he:e≠A.len+1):EZ (A.EH h) e/\(A.EH h).has (A.HO h)/\((A.EH h).nd (A.HO h)).kind=1:=by
 unfold Ar.EH Ar.HO;split;.rename_i h1;exact⟨ok,ok.ine h b h1⟩
 .have a:=Rc ok (x:={kind:=1,CK:=A.len+1}) D_ (.inl ⟨rfl,rfl⟩) rfl rfl rfl rfl (by simp[fB]);have h2:(A.add {kind:=1,CK:=A.len+1}).has (A.len+1)/\((A.add {kind:=1,CK:=A.len+1}).nd (A.len+1)).kind=1:=by rw[D8,Lb,Af rfl];exact⟨.inr rfl,rfl⟩
  exact⟨tD (tD a h2) h2,h2⟩
def Xc(hk:k≠A.len+1\/A.inr h≠0):(A.EH h).nd k=A.nd k:=by
 unfold Ar.EH;split;.rfl
 .rename_i h1;rw[sX,sX,Lb,Ad (hk.resolve_right h1)]
def bz:(A.EH h).len=if A.inr h≠0 then A.len else A.len+1:=by
 unfold Ar.EH;split;.rfl
 .rw[iS,iS,NS]
def Nj:A.has k->(A.EH h).has k:=by
 unfold Ar.EH;split;.exact id
 .intro hk;rw[Sk,Sk,D8];exact .inl hk
def E_{d:Int}(ok:EZ A e)(he:A.has e)(n:fB (A.nd e))(hc:(A.nd e).cont=0)(hd:A.has d/\(A.nd d).kind=1):EZ ((A.add {kind:=2,EG:=e,CK:=d}).set e {A.nd e with cont:=A.len+1}) 0:=by
 have no:=Rb (A:=A);obtain⟨r,hr⟩:=ok.iV;have ne:∀{k},A.has k->k≠A.len+1:=λhk e=>no (e▸hk);have l0:A.len+1≠0:=by have:=he.1;have:=he.2;unfold Ar.len;omega
 have b:∀m,(((A.add {kind:=2,EG:=e,CK:=d}).set e {A.nd e with cont:=A.len+1}).nd m)=if m=e then{A.nd e with cont:=A.len+1} else if m=A.len+1 then{kind:=2,EG:=e,CK:=d} else A.nd m:=λm=>by rw[JF,Lb];simp[he,D8]
 have hk:(A.nd e).kind=4:=n.1;have h0:(A.nd e).EG=0:=by
  by_cases h0:(A.nd e).EG=0;.exact h0
  .have:=(ok.Uw e he).Pn h0;omega
 have e0:e≠0:=by have:=he.1;omega
 have i:sY {kind:=2,EG:=e,CK:=d}:=by constructor<;>simp[C8,Gw]
 have Uw:=ok.Uw;have c:=Uw e he;have hne:sY {A.nd e with cont:=A.len+1}:={k:=c.k,Bw:=c.Bw,elem:=c.elem,nm:=c.nm,dt:=c.dt,data:=c.data,CS:=c.CS,sp:=c.sp,z_:=c.z_,C8:=c.C8,W8:=λ_=>n,Pn:=c.Pn,root:=c.root,gj:=c.gj};have hs:∀m,((A.add {kind:=2,EG:=e,CK:=d}).set e {A.nd e with cont:=A.len+1}).has m↔A.has m\/m=A.len+1:=λm=>by rw[I1,D8]
 have hi:∀m,((A.add {kind:=2,EG:=e,CK:=d}).set e {A.nd e with cont:=A.len+1}).inr m=A.inr m:=λm=>by rw[Sj,Vp ok.il]
 have g:e≠A.len+1:=ne he;refine⟨by rw[IP];simp[Ar.add,Ar.set,ok.il],?_,?_,?_,?_,?_,?_,?_,?_,?_,λm=>if m=A.len+1 then r e+1 else r m,?_⟩<;>intro m hm<;>rw[hs] at hm<;>(try simp only[hs,hi])
 .rw[b];split;.exact hne
  .split;.exact i
   .rename_i h1 h2;exact Uw m (hm.resolve_right h2)
 .have key:∀q,A.has q/\(A.nd q).kind=1->(A.has q\/q=A.len+1)/\(((A.add {kind:=2,EG:=e,CK:=d}).set e {A.nd e with cont:=A.len+1}).nd q).kind=1:=by
   intro q hq;refine⟨.inl hq.1,?_⟩;rw[b,Ad (ne hq.1)];split;.rename_i a;rw[a] at hq;exact hq.2
   .exact hq.2
  rw[b m];split;.exact key _ (ok.CK e he)
  .split;.exact key _ hd
   .rename_i h1 h2;exact key _ (ok.CK m (hm.resolve_right h2))
 .rw[b m];split;.rename_i a;intro h1;rw[a];exact ok.bV e he h1
  .split;.intro h1;simp at h1
   .rename_i h1 h2;exact ok.bV m (hm.resolve_right h2)
 .have key:∀q,A.has q->(A.nd q).Hi≠0->(A.has (A.nd q).Hi\/(A.nd q).Hi=A.len+1)/\q∈(((A.add {kind:=2,EG:=e,CK:=d}).set e {A.nd e with cont:=A.len+1}).nd (A.nd q).Hi).Bw:=by
   intro q hq hp;have h1:=ok.Hi q hq hp;refine⟨.inl h1.1,?_⟩;rw[b,Ad (ne h1.1)];split;.rename_i a;rw[a] at h1;exact h1.2
   .exact h1.2
  rw[b m];split;.rename_i a;rw[a];exact key e he
  .split;.intro h1;simp at h1
   .rename_i h1 h2;exact key m (hm.resolve_right h2)
 .have key:∀q,A.has q->∀k∈(A.nd q).Bw,(A.has k\/k=A.len+1)/\(((A.add {kind:=2,EG:=e,CK:=d}).set e {A.nd e with cont:=A.len+1}).nd k).Hi=q:=by
   intro q hq k hk;have h1:=ok.PZ q hq k hk;refine⟨.inl h1.1,?_⟩;rw[b,Ad (ne h1.1)];split;.rename_i a;rw[a] at h1;exact h1.2
   .exact h1.2
  rw[b m];split;.rename_i a;rw[a];exact key e he
  .split;.intro k hk;simp at hk
   .rename_i h1 h2;exact key m (hm.resolve_right h2)
 .intro _;rw[b m];split;.intro _;exact l0
  .split;.intro h1;simp[fB] at h1
   .rename_i h1 h2;exact ok.W9 m (hm.resolve_right h2) h1
 .rw[b m];split
  .rename_i a;intro _;simp only
   rw[b,Ad (Dx g),Af rfl,a];exact⟨.inr trivial,rfl,rfl⟩
  .split;.intro h1;simp at h1
   .rename_i h1 h2;intro j;have f:=ok.cont m (hm.resolve_right h2) j;refine⟨.inl f.1,?_⟩;rw[b,Ad (ne f.1)];split;.rename_i a;rw[a,hk] at f;exact absurd f.2.1 AM
    .exact f.2
 .rw[b m];split;.intro h1;exact absurd h0 h1
  .split;.rename_i a;intro _;simp only;refine⟨.inl he,?_⟩;rw[b,Af rfl,a]
   .rename_i h1 h2;intro j;have f:=ok.EG m (hm.resolve_right h2) j;refine⟨.inl f.1,?_⟩;rw[b,Ad (ne f.1)];split;.rename_i a;rw[a,hc] at f;have:=(hm.resolve_right h2).1;omega
    .exact f.2
 .intro h1;rcases hm with hm|rfl
  .have h2:=ok.ine m hm h1;refine⟨.inl h2.1,?_⟩;rw[b,Ad (ne h2.1)];split;.rename_i a;rw[a] at h2;exact h2.2
   .exact h2.2
  .exfalso;apply h1;unfold Ar.inr;rw[Ad no]
 .by_cases a:m=A.len+1
  .have l:((A.add {kind:=2,EG:=e,CK:=d}).set e {A.nd e with cont:=A.len+1}).up m=e:=by
    have o:m≠e:=by rw[a];exact Dx g
    unfold Ar.up;rw[b m];simp[a,Dx g]
   rw[l,Ad g,Af a];intro _;omega
  .have hm:=hm.resolve_right a;have l:((A.add {kind:=2,EG:=e,CK:=d}).set e {A.nd e with cont:=A.len+1}).up m=A.up m:=by
    unfold Ar.up;rw[b];split;.rename_i o;rw[o]
    .rfl
   rw[l,Ad a];intro h1;rw[Ad (ne (oJ ok hm h1))];exact hr m hm h1
def Ar.elem(A:Ar)(d sp:Int)(nm:Ah)(at_:List A3):Ar:=
 let x:GQ:={kind:=4,CK:=d,A6:=sp,name:=nm,Au:=C8 at_}
 if fB x then
  let b:=A.add x
  let a:=b.EH d
  (a.add {kind:=2,EG:=A.len+1,CK:=b.HO d}).set (A.len+1) {x with cont:=a.len+1}
 else A.add x
def F_{d sp:Int}{nm:Ah}{l:List A3}(ok:EZ A 0)(hd:A.has d/\(A.nd d).kind=1)(hs:0<=sp/\sp<=7)(hl:∀a∈l,0<=a.A6/\a.A6<=7):EZ (A.elem d sp nm l) 0:=by
 have hx:sY {kind:=4,CK:=d,A6:=sp,name:=nm,Au:=C8 l}:=by constructor<;>simp[ZA,hs];exact λa ha=>hl a (iU ha)
 unfold Ar.elem;simp only
 split
 .rename_i f;have b:EZ A (A.len+1):={ok with W9:=λh i _=>ok.W9 h i (by have:=i.1;omega)};have m:=Rc b hx (.inr ⟨Ax,hd⟩) rfl rfl rfl rfl λ_=>rfl;have c:(A.add {kind:=4,CK:=d,A6:=sp,name:=nm,Au:=C8 l}).has d:=D8.2 (.inl hd.1);obtain⟨j,h2,n⟩:=nz m c (by rw[NS];omega);have g:((A.add {kind:=4,CK:=d,A6:=sp,name:=nm,Au:=C8 l}).EH d).nd (A.len+1)={kind:=4,CK:=d,A6:=sp,name:=nm,Au:=C8 l}:=by rw[Xc (.inl (by rw[NS];omega)),Lb,Af rfl]
  have:=E_ j (Nj (D8.2 (.inr rfl))) (by rw[g];exact f) (by rw[g]) ⟨h2,n⟩;rw[g] at this;exact this
 .rename_i f;exact Rc ok hx (.inr ⟨Ax,hd⟩) rfl rfl rfl rfl λh=>absurd h f
end
def aJ0(e:Co):Bool:=decide (e.node=0)
def Xd(n:Int)(e:Co):Bool:=decide (e.node=n)
def oL(l:List Co):Int:=AX aJ0 l+1
def Fw(n:Int)(l:List Co):Int:=if n=0 then -1 else AX (Xd n) l
def Xe(name:Ah):List Co->Int
 |[]=> -1
 |x::t=>if x.node=0 then -1 else if x.name=name then(t.length:Int) else Xe name t
def Ff(name:Ah)(l:List Co):Int:=Xe name l.reverse
def tE(e:Co):List Co->Nat
 |[]=>0
 |x::t=>if x.node=0 then 0 else tE e t+(if La x e=true then 1 else 0)
def i5(e:Co):List Co->Int
 |[]=> -1
 |x::t=>if x.node=0 then -1 else if 0<=i5 e t then i5 e t else if La x e=true then(t.length:Int) else -1
def i6(e:Co)(l:List Co):List Co:=(if e.node≠0/\3<=tE e l.reverse then Bz l (i5 e l.reverse).toNat else l)++[e]
def Fx(l:List Co):List Co:=l.take (oL l-1).toNat
structure BS where
 a:Ar
 CK:Int
 AK:List Item
 AZ:List Co
 mode:Int
 OE:Int
 tm:List Int
 head:Int
 HP:Int
 Po:Bool
 ctx:Item
 fs:Bool
 FT:Bool
 b_:Ah
 skip:Bool
 sw:Int
 stop:Bool
def lU(s:List Ah)(A:Ar)(h:Int):Prop:=(A.nd h).kind=4/\(A.nd h).A6=1/\(A.nd h).name∈s
instance(s:List Ah)(A:Ar)(h:Int):Decidable (lU s A h):=by unfold lU;infer_instance
abbrev IG:Ah:=aTO
abbrev oM:Ah:=aUn
abbrev oN:Ah:=aUm
abbrev oO:Ah:=aUo
abbrev wTr:Ah:=[116,114]
abbrev wP:Ah:=[112]
def I7:List Ah:=[IG,oM,oN,oO,wTr]
namespace BS
def MQ(b:BS):Int×Int:=
 let d:=AX (Be [Bc]) b.AK
 let c:=AX (Be [IG]) b.AK
 if c<d then((DJ b.AK d).node,0) else if c<0 then((DJ b.AK 0).node,0) else
 let t:=(DJ b.AK c).node
 if(b.a.nd t).Hi≠0 then((b.a.nd t).Hi,t) else((DJ b.AK (max (c-1) 0)).node,0)
def place(b:BS)(t:Int):Int×Int:=
 if t=0/\b.AK=[] then(b.CK,0) else
 let t':=if t=0 then(E3 b.AK).node else t
 let pb:=if b.FT=true/\lU I7 b.a t' then b.MQ else(t',0)
 if(b.a.nd pb.1).cont≠0 then((b.a.nd pb.1).cont,0) else pb
end BS
open Classical in
def Ar.If(A:Ar)(h p bf:Int):Ar:=if(A.nd p).kind=1/\(A.nd h).kind=4/\(∃k∈(A.nd p).Bw,(A.nd k).kind=4) then A else A.Ie p h bf
namespace BS
def MR(b:BS)(p:Int):Int:=if(b.a.nd p).cont≠0 then(if(b.a.nd (b.a.nd p).cont).CK≠0 then(b.a.nd (b.a.nd p).cont).CK else b.CK) else if(b.a.nd p).CK≠0 then(b.a.nd p).CK else b.CK
def LW(sp:Int):Prop:=0<=sp/\sp<=7
instance(sp:Int):Decidable (LW sp):=by unfold LW;infer_instance
def NU(sp:Int)(nm:Ah):Ah:=if sp=2 then DD nm Ng else nm
def JG(b:BS)(nm:Ah)(at_:List A3)(sp:Int):Item:=if LW sp then⟨b.a.len+1,sp,NU sp nm,Iv sp (NU sp nm) (at_.map (DY sp))⟩ else Item.zero
def FY(b:BS)(nm:Ah)(at_:List A3)(sp p:Int):BS:=if LW sp then{b with a:=b.a.elem (b.MR p) sp (NU sp nm) (at_.map (DY sp))} else b
def OF(b:BS)(sp:Int):Int:=if LW sp then b.a.len+1 else 0
def Fq(b:BS)(nm:Ah)(at_:List A3)(sp:Int):BS:=
 if LW sp then
  let pb:=b.place 0
  let b1:=b.FY nm at_ sp pb.1
  {b1 with a:=b1.a.If (b.a.len+1) pb.1 pb.2,AK:=b1.AK++[b.JG nm at_ sp]}
 else b
def Hn(b:BS)(nm:Ah)(at_:List A3):BS:=
 let b1:=b.Fq nm at_ 1
 {b1 with AZ:=i6 ⟨b.a.len+1,nm,at_⟩ b1.AZ}
end BS
def LX(r:Int):Ah:=
 if 0<=r/\r<128 then[UInt8.ofNat r.toNat]
 else if 128<=r/\r<2048 then[UInt8.ofNat (192+r.toNat/64),UInt8.ofNat (128+r.toNat%64)]
 else if 2048<=r/\r<65536/\¬(55296<=r/\r<57344) then[UInt8.ofNat (224+r.toNat/4096),UInt8.ofNat (128+r.toNat/64%64),UInt8.ofNat (128+r.toNat%64)]
 else if 65536<=r/\r<=1114111 then[UInt8.ofNat (240+r.toNat/262144),UInt8.ofNat (128+r.toNat/4096%64),UInt8.ofNat (128+r.toNat/64%64),UInt8.ofNat (128+r.toNat%64)]
 else[239,191,189]
def Tx(l:List Int)(bf:Int):Option Int:=if bf=0 then l.getLast? else(l.takeWhile λk=>decide (k≠bf)).getLast?
def Ar.Sn(A:Ar)(h:Int)(s:Ah):Ar:=A.set h {A.nd h with data:=s}
def Ar.LY(A:Ar)(h:Int)(l:List A3):Ar:=A.set h {A.nd h with Au:=C8 l}
namespace BS
def Rd(A:Ar)(s:Ah)(p bf:Int):Ar:=
 if(A.nd p).kind=4\/(A.nd p).kind=2 then
  match Tx (A.nd p).Bw bf with
  |some t=>if(A.nd t).kind=5 then A.Sn t ((A.nd t).data++s) else(A.add {kind:=5,CK:=(A.nd p).CK,data:=s}).If (A.len+1) p bf
  |none=>(A.add {kind:=5,CK:=(A.nd p).CK,data:=s}).If (A.len+1) p bf
 else A
def Re(b:BS)(r:Int):BS:={b with a:=Rd b.a (LX r) (b.place 0).1 (b.place 0).2}
def Iy(A:Ar)(s:Ah)(p bf:Int):Ar:=
 if Ow (A.nd p).kind then(A.add {kind:=6,CK:=(A.nd p).CK,data:=s}).If (A.len+1) p bf else A
def EL(b:BS)(s:Ah)(p:Int):BS:={b with a:=if p=0 then Iy b.a s (b.place 0).1 (b.place 0).2 else Iy b.a s p 0}
def EM(b:BS)(nm:Ah)(at_:List A3)(st:Int):BS:=let b1:=b.Fq nm at_ 1;{b1 with sw:=st,OE:=b1.mode,mode:=8}
def CA(b:BS):BS:=if Pl (Be [wP]) (NR 3) b.AK.reverse then{b with AK:=DT Db (Be [wP]) (DT (Eu wP) Db b.AK)} else b
def settled(b:BS)(e:Co):Bool:=decide (e.node=0\/0<=AX (BQ e.node) b.AK)
def Lq:List Co->BS->List Co×BS
 |[],b=>([],b)
 |e::l,b=>let r:=Lq l (b.Fq e.name e.Au 1);({e with node:=b.a.len+1}::r.1,r.2)
def OG(b:BS):Nat:=(AX b.settled b.AZ+1).toNat
def Bf(b:BS):BS:=let r:=Lq (b.AZ.drop b.OG) b;{r.2 with AZ:=b.AZ.take b.OG++r.1}
def Dq(b:BS)(nm:Ah):BS:=match b.AK.reverse.find? λi=>Be [nm] i||Dj i with
 |some i=>if Be [nm] i then{b with AK:=I0 i.node (DT (Eu nm) Db b.AK)} else b
 |none=>b
def P5(l:List Item):Int:=match l.reverse.find? λi=>Be [Bc] i||Be [IG] i with
 |some i=>if Be [Bc] i then 16 else 17
 |none=>16
end BS
abbrev n_:Ah:=aT0
abbrev cf:Ah:=aUe
abbrev aFt:Ah:=aTF
abbrev cg:Ah:=aTJ
abbrev NV:Ah:=aUf
abbrev Ĥ:Ah:=[116,100]
abbrev ĥ:Ah:=[116,104]
abbrev Xf:Ah:=aTB
abbrev Gb:Ah:=aTA
def JH:List (Ah×Int):=[(wTr,14),(oM,13),(oO,13),(oN,13),(n_,11),(cf,12),(IG,9),(aFt,7),(cg,20)]
namespace BS
def NW(b:BS)(x:Item)(k:Nat):Option Int:=
 if x.A6=1 then
  match JH.find? λr=>decide (r.1=x.name) with
  |some r=>some r.2
  |none=>
   if x.name=NV then some (P5 (b.AK.take k))
   else if(x.name=Ĥ\/x.name=ĥ)/\0<k then some 15
   else if x.name=Bc then some (b.tm.getLast?.getD 7)
   else if x.name=Xf/\0<k then some 4
   else if x.name=Gb then some (if b.head=0 then 3 else 6)
   else if k=0 then some 7 else none
 else if k=0 then some 7 else none
def GY(b:BS)(k:Nat):Item:=if k=0/\b.Po=true then b.ctx else b.AK.getD k Item.zero
def Tz(b:BS):Nat->Int
 |0=>7
 |k+1=>match b.NW (b.GY k) k with
  |some m=>m
  |none=>b.Tz k
def IQ(b:BS):BS:={b with mode:=b.Tz b.AK.length}
def plain(l:List A3):List A3:=l.map λa=>⟨0,a.name,a.value⟩
def GR(b:BS)(l:List A3)(h:Int):BS:=if(b.a.nd h).kind=4 then{b with a:=b.a.LY h ((b.a.nd h).Au++plain l)} else b
def Dd(b:BS):BS:=
 if AX (Be [Bc]) b.AK<0 then b
 else IQ {b with AK:=DT Db (Be [Bc]) (DT DM Db b.AK),AZ:=Fx b.AZ,tm:=b.tm.dropLast}
def KI(b:BS):BS:=if b.AK.length<2 then b else{b with AK:=b.AK.take (b.AK.length-1)}
def cj(b:BS):Item:=if b.AK.length<2 then Item.zero else E3 b.AK
end BS
def Co.zero:Co:=⟨0,[],[]⟩
namespace BS
def Ig(blk anc:Int)(far i:Nat)(b:BS)(l:Int)(m:Nat):BS×Int×Nat:=
 let x:=b.AK.getD i Item.zero
 let e:=Fw x.node b.AZ
 if e<0 then({b with AK:=Bz b.AK i},l,m)
 else if i+3<far then({b with AZ:=Bz b.AZ e.toNat,AK:=Bz b.AK i},l,if e.toNat<m then m-1 else m)
 else
  let en:=b.AZ.getD e.toNat Co.zero
  let n:=b.JG en.name en.Au 1
  let b1:=b.FY en.name en.Au 1 anc
  ({b1 with a:=b1.a.Ie n.node l 0,AK:=b1.AK.set i n,AZ:=b1.AZ.set e.toNat {en with node:=n.node}},n.node,if l=blk then e.toNat+1 else m)
def Pp(blk anc:Int)(far k:Nat):Nat->BS×Int×Nat->BS×Int×Nat
 |0,s=>s
 |c+1,s=>Pp blk anc far k c (Ig blk anc far (k+(c+1)) s.1 s.2.1 s.2.2)
def Dh(A:Ar)(n:Int)(l:List Int):Ar:=l.foldl (λA x=>A.Ie n x 0) A
def Kf(fe:Co)(blk anc:Int)(s:BS×Int×Nat):BS:=
 let b1:=s.1
 let pb:=b1.place anc
 let b2:={b1 with a:=b1.a.If s.2.1 pb.1 pb.2}
 let n:=b2.JG fe.name fe.Au 1
 let b3:=b2.FY fe.name fe.Au 1 blk
 let b:=Fw fe.node b3.AZ
 let mk:=if b.toNat<s.2.2 then s.2.2 -1 else s.2.2
 let ac:=Bz b3.AZ b.toNat
 let op:=Dt fe.node b3.AK
 let ip:=Iw (AX (BQ blk) op+1) op.length
 {b3 with a:=(Dh b3.a n.node (b3.a.nd blk).Bw).Ie blk n.node 0,AZ:=ac.take (Gv mk ac.length)++{fe with node:=n.node}::ac.drop (Gv mk ac.length),AK:=op.take ip++n::op.drop ip}
def round(b:BS)(nm:Ah):Bool×BS:=
 let f:=Ff nm b.AZ
 if f<0 then(false,b.Dq nm) else
 let fe:=b.AZ.getD f.toNat Co.zero
 let k:=AX (BQ fe.node) b.AK
 if k<0 then(false,{b with AZ:=Bz b.AZ f.toNat}) else
 if k=0\/Pl (BQ fe.node) (NR 1) b.AK.reverse=false then(false,b) else
 let far:=Em fe.node b.AK
 if far<0 then(false,{b with AK:=I0 fe.node b.AK,AZ:=Bz b.AZ f.toNat}) else
 let blk:=(b.AK.getD far.toNat Item.zero).node
 let anc:=(b.AK.getD (k.toNat-1) Item.zero).node
 (true,Kf fe blk anc (Pp blk anc far.toNat k.toNat (far.toNat-1 -k.toNat) (b,blk,f.toNat)))
def Ho:Nat->BS->Ah->BS
 |0,b,_=>b
 |n+1,b,nm=>let r:=b.round nm;if r.1 then Ho n r.2 nm else r.2
def DK(b:BS)(nm:Ah):BS:=
 if Be [nm] (E3 b.AK)/\Fw (E3 b.AK).node b.AZ<0 then b.KI else Ho 8 b nm
end BS
structure Le(A A':Ar):Prop where
 has:∀h,A.has h->A'.has h
 kind:∀h,A.has h->(A'.nd h).kind=(A.nd h).kind
 A6:∀h,A.has h->(A'.nd h).A6=(A.nd h).A6
 name:∀h,A.has h->(A'.nd h).name=(A.nd h).name
section
variable{A A' A'':Ar}{h k e p n b:Int}{x:GQ}
def Le.refl:Le A A:=⟨λ_ h=>h,λ_ _=>rfl,λ_ _=>rfl,λ_ _=>rfl⟩
def Le.trans(h1:Le A A')(h2:Le A' A''):Le A A'':=⟨λh a=>h2.has h (h1.has h a),λh a=>by rw[h2.kind h (h1.has h a),h1.kind h a],λh a=>by rw[h2.A6 h (h1.has h a),h1.A6 h a],λh a=>by rw[h2.name h (h1.has h a),h1.name h a]⟩
def Le.Ħ(h1:∀h,A.has h->A'.has h)(h2:∀h,A.has h->A'.nd h=A.nd h):Le A A':=⟨h1,λh a=>by rw[h2 h a],λh a=>by rw[h2 h a],λh a=>by rw[h2 h a]⟩
def Xg(a:A.has h):h≠A.len+1:=λe=>Rb (A:=A) (e▸a)
def LZ(a:A.has h):(A.add x).nd h=A.nd h:=by rw[Lb,Ad (Xg a)]
def Xh:Le A (A.add x):= .Ħ (λh a=>D8.2 (.inl a)) λh a=>LZ a
def bX(h1:x.kind=(A.nd h).kind)(h2:x.A6=(A.nd h).A6)(a:x.name=(A.nd h).name):Le A (A.set h x):=by
 refine⟨λk hk=>I1.2 hk,?_,?_,?_⟩<;>intro k hk<;>rw[JF]<;>split;.rename_i e;rw[e.1,h1]
 .rfl
 .rename_i e;rw[e.1,h2]
 .rfl
 .rename_i e;rw[e.1,a]
 .rfl
def tF{l:List Int}:Le A (A.set h {A.nd h with Bw:=l}):=bX rfl rfl rfl
def tG:Le A (A.set h {A.nd h with Hi:=p}):=bX rfl rfl rfl
def oP:Le A (A.cut n):=by
 unfold Ar.cut;simp only;split;.exact .refl
 .exact Le.trans tF tG
def aAt:Le A (A.MI p n b):=Le.trans tF tG
def P6:Le A (A.Ie p n b):=by unfold Ar.Ie;split;exact oP.trans aAt;exact .refl
def JI:Le A (A.If n p b):=by unfold Ar.If;split;exact .refl;exact P6
def P7(ok:EZ A e):EZ (A.If n p b) e:=by unfold Ar.If;split;exact ok;exact P4 ok
def i7{d sp:Int}{nm:Ah}{l:List A3}(a:A.has h):(A.elem d sp nm l).has h/\(A.elem d sp nm l).nd h=A.nd h:=by
 have hne:=Xg a;unfold Ar.elem;simp only
 split;.have h1:(A.add {kind:=4,CK:=d,A6:=sp,name:=nm,Au:=C8 l}).has h:=D8.2 (.inl a);refine⟨I1.2 (D8.2 (.inl (Nj h1))),?_⟩;rw[JF,Ad (λe=>hne e.1),LZ (Nj h1),Xc (.inl (Xg h1)),LZ a]
 .exact⟨D8.2 (.inl a),LZ a⟩
def jA{d sp:Int}{nm:Ah}{l:List A3}:(A.elem d sp nm l).has (A.len+1)/\((A.elem d sp nm l).nd (A.len+1)).kind=4/\((A.elem d sp nm l).nd (A.len+1)).A6=sp/\((A.elem d sp nm l).nd (A.len+1)).name=nm/\((A.elem d sp nm l).nd (A.len+1)).Bw=[]/\((A.elem d sp nm l).nd (A.len+1)).Hi=0/\((A.elem d sp nm l).nd (A.len+1)).CK=d/\((A.elem d sp nm l).nd (A.len+1)).Au=C8 l:=by
 unfold Ar.elem;simp only
 split;.have h1:(A.add {kind:=4,CK:=d,A6:=sp,name:=nm,Au:=C8 l}).has (A.len+1):=D8.2 (.inr rfl);have h2:=D8 (x:={kind:=2,EG:=A.len+1,CK:=(A.add {kind:=4,CK:=d,A6:=sp,name:=nm,Au:=C8 l}).HO d}).2 (.inl (Nj (h:=d) h1));rw[I1,JF,Af ⟨rfl,h2⟩];exact⟨h2,rfl,rfl,rfl,rfl,rfl,rfl,rfl⟩
 .rw[Lb,Af rfl];exact⟨D8.2 (.inr rfl),rfl,rfl,rfl,rfl,rfl,rfl,rfl⟩
def bY{d sp:Int}{nm:Ah}{l:List A3}:Le A (A.elem d sp nm l):= .Ħ (λ_ h=>(i7 h).1) λ_ h=>(i7 h).2
def jB{l:List A3}(ok:EZ A e)(c:A.has h)(hk:(A.nd h).kind=4)(hl:∀a∈l,0<=a.A6/\a.A6<=7):EZ (A.LY h l) e:=by have hx:=ok.Uw h c;refine ny ok c ⟨hx.k,hx.Bw,λh=>absurd hk h,hx.nm,hx.dt,hx.data,hx.CS,hx.sp,λa ha=>hl a (iU ha),ZA l,hx.W8,hx.Pn,hx.root,hx.gj⟩ rfl rfl rfl ⟨(ok.CK h c).1,(ok.CK h c).2,ok.bV h c⟩ rfl rfl λd=>d
def oQ{s:Ah}(ok:EZ A e)(a:A.has h)(hk:(A.nd h).kind=5\/(A.nd h).kind=6):EZ (A.Sn h s) e:=by have hx:=ok.Uw h a;refine ny ok a ⟨hx.k,hx.Bw,hx.elem,hx.nm,hx.dt,λf d=>by have:(A.nd h).kind≠5:=f;have:(A.nd h).kind≠6:=d;omega,hx.CS,hx.sp,hx.z_,hx.C8,hx.W8,hx.Pn,hx.root,hx.gj⟩ rfl rfl rfl ⟨(ok.CK h a).1,(ok.CK h a).2,ok.bV h a⟩ rfl rfl λc=>c
def bZ{kd d:Int}{s:Ah}(ok:EZ A e)(he:e≠A.len+1)(hd:A.has d/\(A.nd d).kind=1)(hk:kd=5\/kd=6):EZ (A.add {kind:=kd,CK:=d,data:=s}) e:=by
 refine Rc ok ?_ (.inr ⟨Ei,hd⟩) rfl rfl rfl rfl (λh=>?_);.constructor<;>simp[C8,Gw]<;>omega
 .have:=h.1;simp at this;omega
def oR{s:Ah}:Le A (A.Sn h s):=bX rfl rfl rfl
def jC{l:List A3}:Le A (A.LY h l):=bX rfl rfl rfl
def oa{sp:Int}{a:A3}:0<=(DY sp a).A6/\(DY sp a).A6<=7:=by
 unfold DY;split
 .split
  .rename_i s m he;have:∀x∈fT,0<=x.2.1/\x.2.1<=7:=AM;unfold Jm at he;cases hf:fT.find? λx=>decide (Mu sp a.name=x.1) with
   |none=>rw[hf] at he;cases he
   |some y=>rw[hf] at he;have:=this y (Ht hf);simp at he;rw[he] at this;exact this
  .exact⟨Lh 0,Ax⟩
 .exact⟨Lh 0,Ax⟩
end
structure EI(b:BS):Prop where
 ok:EZ b.a 0
 CK:b.a.has b.CK/\(b.a.nd b.CK).kind=1
 op:∀i∈b.AK,b.a.has i.node/\(b.a.nd i.node).kind=4/\(b.a.nd i.node).A6=i.A6/\(b.a.nd i.node).name=i.name
 xj:(b.AK.map Item.node).Nodup
 ac:∀e∈b.AZ,e.node=0\/(b.a.has e.node/\(b.a.nd e.node).kind=4)
 gl:((b.AZ.map Co.node).filter λn=>decide (n≠0)).Nodup
section
variable{b:BS}{t:Int}
def G_{A A':Ar}{l:List Item}(hl:Le A A')(h:∀i∈l,A.has i.node/\(A.nd i.node).kind=4/\(A.nd i.node).A6=i.A6/\(A.nd i.node).name=i.name):∀i∈l,A'.has i.node/\(A'.nd i.node).kind=4/\(A'.nd i.node).A6=i.A6/\(A'.nd i.node).name=i.name:=by intro i hi;have:=h i hi;rw[hl.kind _ this.1,hl.A6 _ this.1,hl.name _ this.1];exact⟨hl.has _ this.1,this.2⟩
def tH{A A':Ar}{l:List Co}(hl:Le A A')(h:∀e∈l,e.node=0\/(A.has e.node/\(A.nd e.node).kind=4)):∀e∈l,e.node=0\/(A'.has e.node/\(A'.nd e.node).kind=4):=by
 intro e he;rcases h e he with h|h
 .exact .inl h
 .rw[hl.kind _ h.1];exact .inr ⟨hl.has _ h.1,h.2⟩
def EI.I8(o:EI b){A:Ar}(ok:EZ A 0)(hl:Le b.a A):EI {b with a:=A}:=
 ⟨ok,by rw[hl.kind _ o.CK.1];exact⟨hl.has _ o.CK.1,o.CK.2⟩,G_ hl o.op,o.xj,tH hl o.ac,o.gl⟩
def EI.aJ2(o:EI b){l:List Item}(h1:∀i∈l,i∈b.AK)(h2:(l.map Item.node).Nodup):EI {b with AK:=l}:=
 ⟨o.ok,o.CK,λi hi=>o.op i (h1 i hi),h2,o.ac,o.gl⟩
def EI.Js(o:EI b){l:List Item}(h1:List.Sublist l b.AK):EI {b with AK:=l}:=o.aJ2 (λ_ hi=>h1.subset hi) (o.xj.sublist (h1.map _))
def EI.jD(o:EI b){l:List Co}(h1:List.Sublist l b.AZ):EI {b with AZ:=l}:=
 ⟨o.ok,o.CK,o.op,o.xj,λe he=>o.ac e (h1.subset he),o.gl.sublist ((h1.map _).filter _)⟩
def Cs{p q:Item->Bool}{l:List Item}:List.Sublist (DT p q l) l:=by
 have key:∀r:List Item,List.Sublist (QC p q r) r:=by
  intro r;induction r with
  |nil=>exact AF _
  |cons x r ih=>
   cases r with
   |nil=>exact AF _
   |cons y r=>
    rw[QC];split;.exact AF _
    .split;.exact TY _ _
     .exact ih.trans (TY _ _)
 have:=(key l.reverse).reverse;rwa [JT] at this
def Hl{n:Int}{l:List Item}:List.Sublist (I0 n l) l:=by unfold I0;split;exact AF _;exact Cs
def C0{U:Type}{l:List U}{k:Nat}:List.Sublist (Bz l k) l:=by
 unfold Bz;conv=>rhs;rw[<-Cw k l]
 refine List.Sublist.append (AF _) ?_;rw[<-Es];exact aO3 _ _
def Ih{n:Int}{l:List Item}:List.Sublist (Dt n l) l:=by unfold Dt;split;exact AF _;exact C0
def Kg{l:List Item}{i:Int}(h0:0<=i)(h1:i<l.length):DJ l i∈l:=by unfold DJ;rw[Af h0,AR,As Ab];exact AY _
def NX{U:Type}{q:U->Bool}{l:List U}:AX q l<l.length∧-1<=AX q l:=by rcases DX (q:=q) (l:=l) with⟨h1,_⟩|⟨n,hn,h1,_⟩<;>rw[h1]<;>omega
def cl{l:List Item}(h:l≠[]):E3 l∈l:=by have:0<l.length:=Fa.2 h;exact Kg Ab Ab
def H_(o:EI b)(hn:b.AK≠[]):b.a.has b.MQ.1/\(b.MQ.2≠0->b.a.has b.MQ.2/\(b.a.nd b.MQ.2).Hi=b.MQ.1):=by
 have hl:0<b.AK.length:=Fa.2 hn;have h1:=NX (q:=Be [Bc]) (l:=b.AK);have h2:=NX (q:=Be [IG]) (l:=b.AK);unfold BS.MQ;simp only
 split;.exact⟨(o.op _ (Kg Ab Ab)).1,λh=>absurd rfl h⟩
 .split;.exact⟨(o.op _ (Kg Ab Ab)).1,λh=>absurd rfl h⟩
  .have c:=o.op _ (Kg (l:=b.AK) (i:=AX (Be [IG]) b.AK) Ab Ab);split;.rename_i hp;exact⟨(o.ok.Hi _ c.1 hp).1,λ_=>⟨c.1,rfl⟩⟩
   .exact⟨(o.op _ (Kg Ab Ab)).1,λh=>absurd rfl h⟩
def jE(o:EI b)(ht:t=0\/(b.a.has t/\b.AK≠[])):b.a.has (b.place t).1/\((b.place t).2≠0->b.a.has (b.place t).2/\(b.a.nd (b.place t).2).Hi=(b.place t).1):=by
 unfold BS.place;simp only
 split;.exact⟨o.CK.1,λh=>absurd rfl h⟩
 .rename_i h0;have hn:b.AK≠[]:=by
   rcases ht with h|h
   .intro h2;exact h0 ⟨h,h2⟩
   .exact h.2
  have h1:b.a.has (if t=0 then(E3 b.AK).node else t):=by
   split;.exact(o.op _ (cl hn)).1
   .rename_i h2;exact(ht.resolve_left h2).1
  generalize(if t=0 then(E3 b.AK).node else t)=t' at h1;have h2:b.a.has (if b.FT=true/\lU I7 b.a t' then b.MQ else(t',0)).1/\((if b.FT=true/\lU I7 b.a t' then b.MQ else(t',0)).2≠0->b.a.has (if b.FT=true/\lU I7 b.a t' then b.MQ else(t',0)).2/\(b.a.nd (if b.FT=true/\lU I7 b.a t' then b.MQ else(t',0)).2).Hi=(if b.FT=true/\lU I7 b.a t' then b.MQ else(t',0)).1):=by
   split;.exact H_ o hn
   .exact⟨h1,λh=>absurd rfl h⟩
  generalize(if b.FT=true/\lU I7 b.a t' then b.MQ else(t',0))=pb at h2;split;.rename_i hc;exact⟨(o.ok.cont _ h2.1 hc).1,λh=>absurd rfl h⟩
  .exact h2
def ZB(o:EI b){p:Int}:b.a.has (b.MR p)/\(b.a.nd (b.MR p)).kind=1:=by
 unfold BS.MR;by_cases hp:b.a.has p
 .have key:∀q,b.a.has q->b.a.has (if(b.a.nd q).CK≠0 then(b.a.nd q).CK else b.CK)/\(b.a.nd (if(b.a.nd q).CK≠0 then(b.a.nd q).CK else b.CK)).kind=1:=by
   intro q hq;split;.exact o.ok.CK q hq
   .exact o.CK
  split;.rename_i hc;exact key _ (o.ok.cont p hp hc).1
  .exact key p hp
 .rw[Ov hp];exact o.CK
variable{nm:Ah}{at_:List A3}{sp p:Int}
structure ob(b b1:BS)(i:Item):Prop where
 has:b1.a.has i.node
 kind:(b1.a.nd i.node).kind=4
 A6:(b1.a.nd i.node).A6=i.A6
 name:(b1.a.nd i.node).name=i.name
 new:¬b.a.has i.node
def So(o:EI b)(hs:BS.LW sp):EI (b.FY nm at_ sp p)/\ob b (b.FY nm at_ sp p) (b.JG nm at_ sp)/\Le b.a (b.FY nm at_ sp p).a:=by
 have hd:=ZB o (p:=p);unfold BS.FY BS.JG;rw[Af hs,Af hs];have ok:=F_ (sp:=sp) (nm:=BS.NU sp nm) (l:=at_.map (DY sp)) o.ok hd hs (by intro a ha;obtain⟨c,_,rfl⟩:=A4.1 ha;exact oa)
 have hn:=jA (A:=b.a) (d:=b.MR p) (sp:=sp) (nm:=BS.NU sp nm) (l:=at_.map (DY sp));exact⟨o.I8 ok bY,⟨hn.1,hn.2.1,hn.2.2.1,hn.2.2.2.1,Rb⟩,bY⟩
def P8(o:EI b){b1:BS}{i:Item}(f:ob b b1 i):i.node∉b.AK.map Item.node:=by intro h;obtain⟨j,hj,e⟩:=A4.1 h;exact f.new (e▸(o.op j hj).1)
def TA(o:EI b){b1:BS}{i:Item}(f:ob b b1 i):i.node∉b.AZ.map Co.node:=by
 intro h;obtain⟨j,hj,e⟩:=A4.1 h;rcases o.ac j hj with h1|h1
 .have:=f.has.1;omega
 .exact f.new (e▸h1.1)
def cm{U:Type}[DecidableEq U]{l:List U}{k:Nat}{x:U}(h:l.Nodup)(hx:x∉l):(l.take k++x::l.drop k).Nodup:=by
 have e:=Cw k l;rw[BN];rw[<-e,BN] at h;refine⟨h.1,B3.2 ⟨λh1=>hx (Bu h1),h.2.1⟩,?_⟩;rintro a ha c hc rfl;rcases AG.1 hc with rfl|hc
 .exact hx (A0 ha)
 .exact h.2.2 _ ha _ hc rfl
def oS{U:Type}[DecidableEq U]{l:List U}{k:Nat}{x:U}(h:l.Nodup)(hx:x∉l):(l.set k x).Nodup:=by
 rw[Cv];split
 .have e:=Cw k l;rw[BN];rw[<-e,BN] at h;have hd:List.Sublist (l.drop (k+1)) (l.drop k):=by rw[<-Es];exact aO3 _ _
  refine⟨h.1,B3.2 ⟨λh1=>hx (Bu h1),h.2.1.sublist hd⟩,?_⟩;rintro a ha c hc rfl;rcases AG.1 hc with rfl|hc
  .exact hx (A0 ha)
  .exact h.2.2 _ ha _ (hd.subset hc) rfl
 .exact h
def ZC{U Z:Type}(f:U->Z)(l:List U)(k:Nat)(x:U):(l.take k++x::l.drop k).map f=(l.map f).take k++f x::(l.map f).drop k:=Ax
def EI.I_(o:EI b){i:Item}{k:Nat}(h1:b.a.has i.node/\(b.a.nd i.node).kind=4/\(b.a.nd i.node).A6=i.A6/\(b.a.nd i.node).name=i.name)(h2:i.node∉b.AK.map Item.node):EI {b with AK:=b.AK.take k++i::b.AK.drop k}:=by
 refine⟨o.ok,o.CK,?_,by show((b.AK.take k++i::b.AK.drop k).map Item.node).Nodup;rw[ZC];exact cm o.xj h2,o.ac,o.gl⟩;intro j hj;rcases Ap.1 hj with hj|hj
 .exact o.op j (A0 hj)
 .rcases AG.1 hj with rfl|hj
  .exact h1
  .exact o.op j (Bu hj)
def EI.oe(o:EI b){i:Item}{k:Nat}(h1:b.a.has i.node/\(b.a.nd i.node).kind=4/\(b.a.nd i.node).A6=i.A6/\(b.a.nd i.node).name=i.name)(h2:i.node∉b.AK.map Item.node):EI {b with AK:=b.AK.set k i}:=by
 refine⟨o.ok,o.CK,?_,by show((b.AK.set k i).map Item.node).Nodup;rw[GO];exact oS o.xj h2,o.ac,o.gl⟩;intro j hj;rcases Dv hj with hj|rfl
 .exact o.op j hj
 .exact h1
def og{l:List Int}{k:Nat}{x:Int}(h:(l.filter λn=>decide (n≠0)).Nodup)(hx:x∉l):((l.take k++x::l.drop k).filter λn=>decide (n≠0)).Nodup:=by
 have e:=Cw k l;rw[<-e,EK,BN] at h;rw[EK,BN];by_cases h0:x=0;.subst h0;simpa using h
 .rw[ŉ (by simpa using h0)];refine⟨h.1,B3.2 ⟨λh1=>hx (Bu ((Dg.1 h1).1)),h.2.1⟩,?_⟩;rintro a ha c hc rfl;rcases AG.1 hc with rfl|hc
  .exact hx (A0 (Dg.1 ha).1)
  .exact h.2.2 _ ha _ hc rfl
def oh{l:List Int}{k:Nat}{x:Int}(h:(l.filter λn=>decide (n≠0)).Nodup)(hx:x∉l):((l.set k x).filter λn=>decide (n≠0)).Nodup:=by
 rw[Cv];split
 .have h2:(((l.take k++l.drop (k+1))).filter λn=>decide (n≠0)).Nodup:=h.sublist ((show List.Sublist (Bz l k) l from C0).filter _);rw[EK,BN] at h2⊢;by_cases h0:x=0;.subst h0;simpa using h2
  .rw[ŉ (by simpa using h0)];refine⟨h2.1,B3.2 ⟨λh1=>hx (Bu ((Dg.1 h1).1)),h2.2.1⟩,?_⟩;rintro a ha c hc rfl;rcases AG.1 hc with rfl|hc
   .exact hx (A0 (Dg.1 ha).1)
   .exact h2.2.2 _ ha _ hc rfl
 .exact h
def EI.aAu(o:EI b){e:Co}{k:Nat}(h1:e.node=0\/(b.a.has e.node/\(b.a.nd e.node).kind=4))(h2:e.node=0\/e.node∉b.AZ.map Co.node):EI {b with AZ:=b.AZ.take k++e::b.AZ.drop k}:=by
 refine⟨o.ok,o.CK,o.op,o.xj,?_,?_⟩
 .intro j hj;rcases Ap.1 hj with hj|hj
  .exact o.ac j (A0 hj)
  .rcases AG.1 hj with rfl|hj
   .exact h1
   .exact o.ac j (Bu hj)
 .show(((b.AZ.take k++e::b.AZ.drop k).map Co.node).filter _).Nodup;rw[ZC];rcases h2 with h2|h2
  .have:=o.gl;conv at this=>rw[<-Cw k (b.AZ.map Co.node),EK]
   rw[EK,List.filter_cons_of_neg (by simp[h2])];exact this
  .exact og o.gl h2
def EI.oj(o:EI b){e:Co}{k:Nat}(h1:b.a.has e.node/\(b.a.nd e.node).kind=4)(h2:e.node∉b.AZ.map Co.node):EI {b with AZ:=b.AZ.set k e}:=by
 refine⟨o.ok,o.CK,o.op,o.xj,?_,?_⟩
 .intro j hj;rcases Dv hj with hj|rfl
  .exact o.ac j hj
  .exact .inr h1
 .show(((b.AZ.set k e).map Co.node).filter _).Nodup;rw[GO];exact oh o.gl h2
def Rf(o:EI b):EI (b.Fq nm at_ sp):=by
 unfold BS.Fq;split
 .rename_i hs;obtain⟨d,f,hl⟩:=So (nm:=nm) (at_:=at_) (p:=(b.place 0).1) o hs;have g:=d.I8 (P7 (n:=b.a.len+1) (p:=(b.place 0).1) (b:=(b.place 0).2) d.ok) JI;have hn:(b.JG nm at_ sp).node=b.a.len+1:=by unfold BS.JG;rw[Af hs]
  have c:Le (b.FY nm at_ sp (b.place 0).1).a ((b.FY nm at_ sp (b.place 0).1).a.If (b.a.len+1) (b.place 0).1 (b.place 0).2):=JI;have ho:(b.FY nm at_ sp (b.place 0).1).AK=b.AK:=by unfold BS.FY;rw[Af hs]
  have:=g.I_ (i:=b.JG nm at_ sp) (k:=b.AK.length) ⟨c.has _ f.has,by rw[c.kind _ f.has];exact f.kind,by rw[c.A6 _ f.has];exact f.A6,by rw[c.name _ f.has];exact f.name⟩ (by simp only[ho];exact P8 o f);simp only[ho,BW,GV] at this;simp only[ho];exact this
 .exact o
def Sp{l:List Co}{e:Co}:∃l',List.Sublist l' l/\i6 e l=l'++[e]:=by
 unfold i6;split;.exact⟨_,C0,rfl⟩
 .exact⟨_,AF _,rfl⟩
def J_:Le b.a (b.Fq nm at_ sp).a:=by
 unfold BS.Fq BS.FY;split;.exact Le.trans bY JI
 .exact .refl
def jF(hs:BS.LW sp):(b.Fq nm at_ sp).a.has (b.a.len+1)/\((b.Fq nm at_ sp).a.nd (b.a.len+1)).kind=4:=by
 unfold BS.Fq BS.FY;rw[Af hs];simp only
 rw[Af hs];have hn:=jA (A:=b.a) (d:=b.MR (b.place 0).1) (sp:=sp) (nm:=BS.NU sp nm) (l:=at_.map (DY sp));exact⟨JI.has _ hn.1,by rw[JI.kind _ hn.1];exact hn.2.1⟩
def FU:(b.Fq nm at_ sp).AZ=b.AZ:=by unfold BS.Fq BS.FY;split<;>rfl
def Mg:BS.LW 1:=⟨AM,AM⟩
def K_(o:EI b):b.a.len+1∉b.AZ.map Co.node:=by
 intro h;obtain⟨j,hj,e⟩:=A4.1 h;rcases o.ac j hj with h1|h1
 .unfold Ar.len at e;omega
 .exact Rb (e▸h1.1)
def ZD(o:EI b):EI (b.Hn nm at_):=by
 have d:=Rf (nm:=nm) (at_:=at_) (sp:=1) o;unfold BS.Hn;simp only
 obtain⟨l',h1,h2⟩:=Sp (l:=(b.Fq nm at_ 1).AZ) (e:=⟨b.a.len+1,nm,at_⟩);rw[h2];have c:=d.jD h1;have:=c.aAu (e:=⟨b.a.len+1,nm,at_⟩) (k:=l'.length) (.inr (jF Mg)) (.inr (by intro h;rw[FU] at h1;exact K_ o ((h1.map Co.node).subset h)))
 simpa using this
def EI.of_eq{c:BS}(o:EI b)(h1:c.a=b.a)(h2:c.CK=b.CK)(f:c.AK=b.AK)(d:c.AZ=b.AZ):EI c:=
 ⟨h1▸o.ok,by rw[h1,h2];exact o.CK,by rw[h1,f];exact o.op,by rw[f];exact o.xj,by rw[h1,d];exact o.ac,by rw[d];exact o.gl⟩
def oT{l:List Int}{bf t:Int}(h:Tx l bf=some t):t∈l:=by
 unfold Tx at h;split at h;.exact aHR h
 .exact(List.takeWhile_sublist _).subset (aHR h)
def cq{A:Ar}{s:Ah}{p bf:Int}(ok:EZ A 0)(hp:A.has p):EZ (BS.Rd A s p bf) 0/\Le A (BS.Rd A s p bf):=by
 have h0:(0:Int)≠A.len+1:=by unfold Ar.len;omega
 have ha:=P7 (n:=A.len+1) (p:=p) (b:=bf) (bZ (s:=s) (kd:=5) ok h0 (ok.CK p hp) (.inl rfl));have hl:Le A ((A.add {kind:=5,CK:=(A.nd p).CK,data:=s}).If (A.len+1) p bf):=Le.trans Xh JI;unfold BS.Rd;split
 .split
  .rename_i t ht;split;.rename_i hk;exact⟨oQ ok (ok.PZ p hp _ (oT ht)).1 (.inl hk),oR⟩
   .exact⟨ha,hl⟩
  .exact⟨ha,hl⟩
 .exact⟨ok,.refl⟩
def tI(o:EI b){r:Int}:EI (b.Re r):=by have h:=cq (s:=LX r) (bf:=(b.place 0).2) o.ok (jE o (.inl rfl)).1;exact o.I8 h.1 h.2
def Sq{A:Ar}{s:Ah}{p bf:Int}(ok:EZ A 0):EZ (BS.Iy A s p bf) 0/\Le A (BS.Iy A s p bf):=by
 unfold BS.Iy;split
 .rename_i hk;have hp:A.has p:=by
   by_cases hp:A.has p;.exact hp
   .rw[Ov hp] at hk;unfold Ow at hk;simp at hk
  have h0:(0:Int)≠A.len+1:=by unfold Ar.len;omega
  exact⟨P7 (bZ (s:=s) (kd:=6) ok h0 (ok.CK p hp) (.inr rfl)),Le.trans Xh JI⟩
 .exact⟨ok,.refl⟩
def Xi(o:EI b){s:Ah}{p:Int}:EI (b.EL s p):=by
 unfold BS.EL;split;.have h:=Sq (s:=s) (p:=(b.place 0).1) (bf:=(b.place 0).2) o.ok;exact o.I8 h.1 h.2
 .have h:=Sq (s:=s) (p:=p) (bf:=0) o.ok;exact o.I8 h.1 h.2
def oU(o:EI b){st:Int}:EI (b.EM nm at_ st):=(Rf o).of_eq rfl rfl rfl rfl
def cr(o:EI b):EI b.CA:=by
 unfold BS.CA;split;.exact o.Js (Cs.trans Cs)
 .exact o
def ZE(o:EI b):EI (b.Dq nm):=by
 unfold BS.Dq;split
 .split;.exact o.Js (Hl.trans Cs)
  .exact o
 .exact o
def Sr(o:EI b):EI b.IQ:=o.of_eq rfl rfl rfl rfl
def jG(o:EI b){l:List A3}{h:Int}:EI (b.GR l h):=by
 unfold BS.GR;split
 .rename_i hk;have d:b.a.has h:=by
   by_cases hp:b.a.has h;.exact hp
   .rw[Ov hp] at hk;simp at hk
  refine o.I8 (jB o.ok d hk ?_) jC;intro a ha;rcases Ap.1 ha with ha|ha
  .exact(o.ok.Uw h d).z_ a ha
  .obtain⟨c,_,rfl⟩:=A4.1 ha;simp
 .exact o
def Xj(o:EI b):EI b.Dd:=by
 unfold BS.Dd;split;.exact o
 .have a:=(o.Js (Cs (p:=Db) (q:=Be [Bc]) (l:=DT DM Db b.AK) |>.trans Cs)).jD (l:=Fx b.AZ) (Cl _ _);exact(Sr (b:={b with AK:=DT Db (Be [Bc]) (DT DM Db b.AK),AZ:=Fx b.AZ,tm:=b.tm.dropLast}) (a.of_eq rfl rfl rfl rfl))
def om(o:EI b):EI b.KI:=by
 unfold BS.KI;split;.exact o
 .exact o.Js (Cl _ _)
structure aFu(b:BS)(l:List Co)(r:List Co×BS):Prop where
 ok:EI r.2
 le:Le b.a r.2.a
 AZ:r.2.AZ=b.AZ
 len:r.1.length=l.length
 nodes:∀e∈r.1,r.2.a.has e.node/\(r.2.a.nd e.node).kind=4/\¬b.a.has e.node
 ħ:(r.1.map Co.node).Nodup
 aFv:r.1.map Co.name=l.map Co.name
def tJ:∀{l:List Co} {b:BS},EI b->aFu b l (BS.Lq l b)
 |[],b,o=>by
  refine⟨o,.refl,rfl,rfl,?_,?_,rfl⟩;.intro e he;cases he
  .exact JQ
 |e::l,b,o=>by
  have d:=Rf (nm:=e.name) (at_:=e.Au) (sp:=1) o;have r:=tJ (l:=l) d;have hl:Le b.a (b.Fq e.name e.Au 1).a:=J_;have hn:=jF (b:=b) (nm:=e.name) (at_:=e.Au) Mg;refine⟨r.ok,hl.trans r.le,r.AZ.trans FU,by simp[BS.Lq,r.len],?_,?_,by simp[BS.Lq,r.aFv]⟩
  .intro c hc;rcases AG.1 hc with rfl|hc
   .exact⟨r.le.has _ hn.1,(r.le.kind _ hn.1).trans hn.2,Rb⟩
   .have:=r.nodes c hc;exact⟨this.1,this.2.1,λh=>this.2.2 (hl.has _ h)⟩
  .simp only[BS.Lq,A9,B3];refine⟨λh=>?_,r.ħ⟩;obtain⟨c,hc,f⟩:=A4.1 h;exact(r.nodes c hc).2.2 (f▸hn.1)
def Xk(o:EI b):EI b.Bf:=by
 have r:=tJ (l:=b.AZ.drop b.OG) o;unfold BS.Bf;simp only
 have hc:=tH r.le o.ac;refine⟨r.ok.ok,r.ok.CK,r.ok.op,r.ok.xj,?_,?_⟩
 .intro e he;rcases Ap.1 he with he|he
  .exact hc e (A0 he)
  .exact .inr ⟨(r.nodes e he).1,(r.nodes e he).2.1⟩
 .show(((b.AZ.take b.OG++(BS.Lq (b.AZ.drop b.OG) b).1).map Co.node).filter _).Nodup;rw[BU,EK,BN];refine⟨o.gl.sublist (((Cl _ _).map _).filter _),r.ħ.filter _,?_⟩;rintro a ha c KX rfl;obtain⟨j,h1,rfl⟩:=A4.1 (Dg.1 ha).1;obtain⟨i,h2,g⟩:=A4.1 (Dg.1 KX).1;have d:=(r.nodes i h2);rw[g] at d;rcases o.ac j (A0 h1) with f|f
  .have:=d.1.1;omega
  .exact d.2.2 f.1
def jH(o:EI b){blk anc:Int}{far i:Nat}{l:Int}{m:Nat}(hl:b.a.has l):EI (BS.Ig blk anc far i b l m).1/\(BS.Ig blk anc far i b l m).1.a.has (BS.Ig blk anc far i b l m).2.1/\Le b.a (BS.Ig blk anc far i b l m).1.a:=by
 unfold BS.Ig;simp only
 split;.exact⟨o.Js C0,hl,.refl⟩
 .split;.exact⟨(o.jD C0).Js C0,hl,.refl⟩
  .generalize Rg:b.AZ.getD (Fw (b.AK.getD i Item.zero).node b.AZ).toNat Co.zero=en;obtain⟨d,f,Ee⟩:=So (nm:=en.name) (at_:=en.Au) (p:=anc) o Mg;have c:Le (b.FY en.name en.Au 1 anc).a ((b.FY en.name en.Au 1 anc).a.Ie (b.JG en.name en.Au 1).node l 0):=P6;have Qs:(b.FY en.name en.Au 1 anc).AK=b.AK:=by unfold BS.FY;rw[Af Mg]
   have X7:(b.FY en.name en.Au 1 anc).AZ=b.AZ:=by unfold BS.FY;rw[Af Mg]
   have q:=d.I8 (P4 (p:=(b.JG en.name en.Au 1).node) (n:=l) (b:=0) d.ok) c;have j:=q.oe (i:=b.JG en.name en.Au 1) (k:=i) ⟨c.has _ f.has,by rw[c.kind _ f.has];exact f.kind,by rw[c.A6 _ f.has];exact f.A6,by rw[c.name _ f.has];exact f.name⟩ (by simp only[Qs];exact P8 o f);have g:=j.oj (e:={en with node:=(b.JG en.name en.Au 1).node}) (k:=(Fw (b.AK.getD i Item.zero).node b.AZ).toNat) ⟨c.has _ f.has,by rw[c.kind _ f.has];exact f.kind⟩ (by simp only[X7];exact TA o f);exact⟨g,c.has _ f.has,Ee.trans c⟩
def cA{blk anc:Int}{far k:Nat}:∀{c:Nat} {s:BS×Int×Nat},EI s.1->s.1.a.has s.2.1->EI (BS.Pp blk anc far k c s).1/\(BS.Pp blk anc far k c s).1.a.has (BS.Pp blk anc far k c s).2.1/\Le s.1.a (BS.Pp blk anc far k c s).1.a
 |0,s,o,h=>⟨o,h,.refl⟩
 |c+1,s,o,h=>by obtain⟨f,h1,l1⟩:=jH (blk:=blk) (anc:=anc) (far:=far) (i:=k+(c+1)) (m:=s.2.2) o h;obtain⟨d,h2,g⟩:=cA (blk:=blk) (anc:=anc) (far:=far) (k:=k) (c:=c) f h1;exact⟨d,h2,l1.trans g⟩
def Mw{n:Int}:∀{l:List Int} {A:Ar},EZ A 0->EZ (BS.Dh A n l) 0/\Le A (BS.Dh A n l)
 |[],A,ok=>⟨ok,.refl⟩
 |x::l,A,ok=>by have h:=Mw (n:=n) (l:=l) (P4 (p:=n) (n:=x) (b:=0) ok);exact⟨h.1,Le.trans P6 h.2⟩
def ct{fe:Co}{blk anc:Int}{s:BS×Int×Nat}(o:EI s.1):EI (BS.Kf fe blk anc s)/\Le s.1.a (BS.Kf fe blk anc s).a:=by
 unfold BS.Kf;simp only
 generalize oq:s.1.place anc=pb;have l1:Le s.1.a (s.1.a.If s.2.1 pb.1 pb.2):=JI;have d:=o.I8 (P7 (n:=s.2.1) (p:=pb.1) (b:=pb.2) o.ok) l1;generalize Qk:({s.1 with a:=s.1.a.If s.2.1 pb.1 pb.2}:BS)=b2 at d;have RV:b2.a=s.1.a.If s.2.1 pb.1 pb.2:=by rw[<-Qk]
 have rQ:b2.AK=s.1.AK:=by rw[<-Qk]
 have KX:b2.AZ=s.1.AZ:=by rw[<-Qk]
 obtain⟨j,f,l3⟩:=So (nm:=fe.name) (at_:=fe.Au) (p:=blk) d Mg;have Qs:(b2.FY fe.name fe.Au 1 blk).AK=b2.AK:=by unfold BS.FY;rw[Af Mg]
 have X7:(b2.FY fe.name fe.Au 1 blk).AZ=b2.AZ:=by unfold BS.FY;rw[Af Mg]
 generalize Ž:b2.FY fe.name fe.Au 1 blk=b3 at*;generalize hn:b2.JG fe.name fe.Au 1=n at*;obtain⟨Ĩ,l4⟩:=Mw (n:=n.node) (l:=(b3.a.nd blk).Bw) j.ok;have g:=P4 (p:=blk) (n:=n.node) (b:=0) Ĩ;have c:Le b3.a ((BS.Dh b3.a n.node (b3.a.nd blk).Bw).Ie blk n.node 0):=l4.trans P6;have q:=j.I8 g c;have fr:((BS.Dh b3.a n.node (b3.a.nd blk).Bw).Ie blk n.node 0).has n.node/\(((BS.Dh b3.a n.node (b3.a.nd blk).Bw).Ie blk n.node 0).nd n.node).kind=4/\(((BS.Dh b3.a n.node (b3.a.nd blk).Bw).Ie blk n.node 0).nd n.node).A6=n.A6/\(((BS.Dh b3.a n.node (b3.a.nd blk).Bw).Ie blk n.node 0).nd n.node).name=n.name:=
  ⟨c.has _ f.has,by rw[c.kind _ f.has];exact f.kind,by rw[c.A6 _ f.has];exact f.A6,by rw[c.name _ f.has];exact f.name⟩
 have m:=(q.jD (l:=Bz b3.AZ (Fw fe.node b3.AZ).toNat) C0).Js (l:=Dt fe.node b3.AK) Ih;have u:n.node∉(Dt fe.node b3.AK).map Item.node:=λh=>P8 d f ((Ih.map Item.node).subset (by rw[Qs] at h;exact h));have r:n.node∉(Bz b3.AZ (Fw fe.node b3.AZ).toNat).map Co.node:=λh=>TA d f ((C0.map Co.node).subset (by rw[X7] at h;exact h));refine⟨(m.I_ (i:=n) fr u).aAu (e:={fe with node:=n.node}) (.inr ⟨fr.1,fr.2.1⟩) (.inr r),?_⟩;rw[RV] at l3;exact l1.trans (l3.trans c)
def jI(o:EI b):EI (b.round nm).2/\Le b.a (b.round nm).2.a:=by
 have d:Le b.a (b.Dq nm).a:=by
  unfold BS.Dq;split;.split<;>exact .refl
  .exact .refl
 unfold BS.round;simp only
 split;.exact⟨ZE o,d⟩
 .split;.exact⟨o.jD C0,.refl⟩
  .split;.exact⟨o,.refl⟩
   .split;.exact⟨(o.Js Hl).jD C0,.refl⟩
    .rename_i hf;have aQH:Em (b.AZ.getD (Ff nm b.AZ).toNat Co.zero).node b.AK<b.AK.length:=by
      rw[Mt];split;.omega
      .unfold Gj;split;.rename_i k hk;have:=(Kr.1 hk).1;rw[Bg] at this;omega
       .omega
     have hb:b.a.has (b.AK.getD (Em (b.AZ.getD (Ff nm b.AZ).toNat Co.zero).node b.AK).toNat Item.zero).node:=by rw[AR,As Ab];exact(o.op _ (AY _)).1
     obtain⟨f,h1,l1⟩:=cA (blk:=(b.AK.getD (Em (b.AZ.getD (Ff nm b.AZ).toNat Co.zero).node b.AK).toNat Item.zero).node) (anc:=(b.AK.getD ((AX (BQ (b.AZ.getD (Ff nm b.AZ).toNat Co.zero).node) b.AK).toNat-1) Item.zero).node) (far:=(Em (b.AZ.getD (Ff nm b.AZ).toNat Co.zero).node b.AK).toNat) (k:=(AX (BQ (b.AZ.getD (Ff nm b.AZ).toNat Co.zero).node) b.AK).toNat) (c:=(Em (b.AZ.getD (Ff nm b.AZ).toNat Co.zero).node b.AK).toNat-1 -(AX (BQ (b.AZ.getD (Ff nm b.AZ).toNat Co.zero).node) b.AK).toNat) (s:=(b,(b.AK.getD (Em (b.AZ.getD (Ff nm b.AZ).toNat Co.zero).node b.AK).toNat Item.zero).node,(Ff nm b.AZ).toNat)) o hb;have r:=ct (fe:=b.AZ.getD (Ff nm b.AZ).toNat Co.zero) (blk:=(b.AK.getD (Em (b.AZ.getD (Ff nm b.AZ).toNat Co.zero).node b.AK).toNat Item.zero).node) (anc:=(b.AK.getD ((AX (BQ (b.AZ.getD (Ff nm b.AZ).toNat Co.zero).node) b.AK).toNat-1) Item.zero).node) f;exact⟨r.1,l1.trans r.2⟩
def ZF:∀{n:Nat} {b:BS},EI b->EI (BS.Ho n b nm)/\Le b.a (BS.Ho n b nm).a
 |0,b,o=>⟨o,.refl⟩
 |n+1,b,o=>by
  obtain⟨c,l1⟩:=jI (nm:=nm) o;unfold BS.Ho;simp only
  split;.have r:=ZF (n:=n) c;exact⟨r.1,l1.trans r.2⟩
  .exact⟨c,l1⟩
def ZG(o:EI b):EI (b.DK nm):=by
 unfold BS.DK;split;.exact om o
 .exact(ZF o).1
end
structure Mh(A:Ar):Prop where
 n:A.n.length<=1000000000
 at_:∀x,(A.nd x).Au.length<=1000000000
 data:∀x,(A.nd x).data.length<=1000000000
def Eb(l:List A3):Prop:=l.length<=1000/\∀a∈l,a.name.length<=1000/\a.value.length<=1000
structure Cx(b:BS)(m:Nat):Prop where
 n:b.a.n.length+m<=900000000
 at_:∀x,(b.a.nd x).Au.length+m<=1000000000
 data:∀x,(b.a.nd x).data.length+m<=1000000000
 AK:b.AK.length+m<=900000000
 AZ:b.AZ.length+m<=900000000
 tm:b.tm.length+m<=900000000
 C7:∀e∈b.AZ,e.name.length<=1000/\Eb e.Au
 cB:∀i∈b.AK,i.name.length<=1000
def Cx.UZ{b:BS}{m:Nat}(r:Cx b m):Mh b.a:=⟨by have:=r.n;omega,λx=>by have:=r.at_ x;omega,λx=>by have:=r.data x;omega⟩
def Cx.le{b:BS}{m m':Nat}(r:Cx b m)(hm:m'<=m):Cx b m':=⟨by have:=r.n;omega,λx=>by have:=r.at_ x;omega,λx=>by have:=r.data x;omega,by have:=r.AK;omega,by have:=r.AZ;omega,by have:=r.tm;omega,r.C7,r.cB⟩
def cu{sp:Int}{y:A3}:(DY sp y).value=y.value:=by
 unfold DY;split;.split<;>rfl
 .rfl
structure MS(A A':Ar):Prop where
 n:A'.n.length=A.n.length
 at_:∀x,(A'.nd x).Au=(A.nd x).Au
 data:∀x,(A'.nd x).data=(A.nd x).data
section
variable{A A' A'':Ar}{x p bf:Int}{b:BS}{m:Nat}
def MS.refl:MS A A:=⟨rfl,λ_=>rfl,λ_=>rfl⟩
def MS.trans(h:MS A A')(k:MS A' A''):MS A A'':=⟨k.n.trans h.n,λx=>(k.at_ x).trans (h.at_ x),λx=>(k.data x).trans (h.data x)⟩
def jJ{y:GQ}(h1:y.Au=(A.nd x).Au)(h2:y.data=(A.nd x).data):MS A (A.set x y):=by
 refine⟨IP,λk=>?_,λk=>?_⟩<;>rw[JF]<;>split;.rename_i e;rw[h1,e.1]
 .rfl
 .rename_i e;rw[h2,e.1]
 .rfl
def TB{l:List Int}:MS A (A.set x {A.nd x with Bw:=l}):=jJ rfl rfl
def TC:MS A (A.set x {A.nd x with Hi:=p}):=jJ rfl rfl
def Kh:MS A (A.Ie p x bf):=by
 unfold Ar.Ie;split
 .refine MS.trans ?_ (MS.trans TB TC);unfold Ar.cut;simp only;split;.exact .refl
  .exact MS.trans TB TC
 .exact .refl
def LB:MS A (A.If x p bf):=by unfold Ar.If;split;exact .refl;exact Kh
def QE{n:Int}:∀{l:List Int} {A:Ar},MS A (BS.Dh A n l)
 |[],A=> .refl
 |y::l,A=>MS.trans Kh (QE (l:=l))
def Cx.same{c:BS}(r:Cx b m)(h:MS b.a c.a)(h1:c.AK.length<=b.AK.length)(h2:c.AZ.length<=b.AZ.length)(g:c.tm.length<=b.tm.length)(f:∀e∈c.AZ,e.name.length<=1000/\Eb e.Au)(d:∀i∈c.AK,i.name.length<=1000):Cx c m:=
 ⟨by rw[h.n];exact r.n,λx=>by rw[h.at_];exact r.at_ x,λx=>by rw[h.data];exact r.data x,by have:=r.AK;omega,by have:=r.AZ;omega,by have:=r.tm;omega,f,d⟩
def Cx.I8{A':Ar}(r:Cx b m)(h:MS b.a A'):Cx {b with a:=A'} m:=r.same h (Ae _) (Ae _) (Ae _) r.C7 r.cB
def Cx.Js{l:List Item}(r:Cx b m)(h:List.Sublist l b.AK):Cx {b with AK:=l} m:=r.same .refl h.length_le (Ae _) (Ae _) r.C7 λi hi=>r.cB i (h.subset hi)
def Cx.eq{c:BS}(r:Cx b m)(h1:c.a=b.a)(h2:c.AK=b.AK)(d:c.AZ=b.AZ)(e:c.tm=b.tm):Cx c m:=⟨by rw[h1];exact r.n,by rw[h1];exact r.at_,by rw[h1];exact r.data,by rw[h2];exact r.AK,by rw[d];exact r.AZ,by rw[e];exact r.tm,by rw[d];exact r.C7,by rw[h2];exact r.cB⟩
structure TD(A A':Ar)(k:Nat):Prop where
 n:A'.n.length<=A.n.length+k
 at_:∀x,(A'.nd x).Au.length<=max (A.nd x).Au.length 1000
 data:∀x,(A'.nd x).data.length<=max (A.nd x).data.length 100000
def KJ{y:GQ}(h1:y.Au.length<=1000)(h2:y.data.length<=100000):TD A (A.add y) 1:=by refine⟨by simp[Ar.add],λx=>?_,λx=>?_⟩<;>rw[Lb]<;>split<;>omega
def TD.trans{k k':Nat}(h:TD A A' k)(g:TD A' A'' k'):TD A A'' (k+k'):=
 ⟨by have:=h.n;have:=g.n;omega,λx=>by have:=h.at_ x;have:=g.at_ x;omega,λx=>by have:=h.data x;have:=g.data x;omega⟩
def TD.le{k k':Nat}(h:TD A A' k)(hk:k<=k'):TD A A' k':=⟨by have:=h.n;omega,h.at_,h.data⟩
def cw(h:MS A A'):TD A A' 0:=⟨by rw[h.n];exact Ae _,λx=>by rw[h.at_];omega,λx=>by rw[h.data];omega⟩
def oV:TD A (A.EH x) 1:=by
 unfold Ar.EH;split;.exact(cw .refl).le Ab
 .have:=KJ (A:=A) (y:={kind:=1,CK:=A.len+1}) (A7 _) (A7 _);exact⟨this.n,this.at_,this.data⟩
def ot{y:GQ}(h1:y.Au.length<=1000)(h2:y.data.length<=100000):TD A (A.set x y) 0:=by refine⟨by rw[IP];exact Ae _,λx=>?_,λx=>?_⟩<;>rw[JF]<;>split<;>omega
def cy{d sp:Int}{nm:Ah}{l:List A3}(hl:l.length<=1000):TD A (A.elem d sp nm l) 3:=by
 have ho:=Bp (Sl (l:=l)) hl;have g1:=KJ (A:=A) (y:={kind:=4,CK:=d,A6:=sp,name:=nm,Au:=C8 l}) ho (A7 _);unfold Ar.elem;simp only
 split;.have g2:=oV (A:=A.add {kind:=4,CK:=d,A6:=sp,name:=nm,Au:=C8 l}) (x:=d);have g3:=KJ (A:=(A.add {kind:=4,CK:=d,A6:=sp,name:=nm,Au:=C8 l}).EH d) (y:={kind:=2,EG:=A.len+1,CK:=(A.add {kind:=4,CK:=d,A6:=sp,name:=nm,Au:=C8 l}).HO d}) (A7 _) (A7 _);exact g1.trans (k':=2) (g2.trans (k':=1) (g3.trans (k':=0) (ot ho (A7 _))))
 .exact g1.le Ab
def Cx.FH{A':Ar}{k:Nat}(r:Cx b (m+k))(h:TD b.a A' k):Cx {b with a:=A'} m:=
 ⟨by have:=r.n;have:=h.n;simp only;omega,λx=>by have:=r.at_ x;have:=h.at_ x;have:=r.n;simp only;omega,λx=>by have:=r.data x;have:=h.data x;have:=r.n;simp only;omega,by have:=r.AK;simp only;omega,by have:=r.AZ;simp only;omega,by have:=r.tm;simp only;omega,r.C7,r.cB⟩
def ou{sp:Int}{nm:Ah}:(BS.NU sp nm).length=nm.length:=by
 unfold BS.NU;split
 .rcases Ou nm Ng with h|h
  .rw[h]
  .conv=>rhs;rw[<-h.2,bT]
 .rfl
variable{nm:Ah}{l:List A3}{sp:Int}
def Lr(r:Cx b (m+3))(hl:Eb l):Cx (b.FY nm l sp p) m:=by
 unfold BS.FY;split;.exact r.FH (cy (by rw[Av];exact hl.1))
 .exact r.le Ab
def Pq(hn:nm.length<=1000):(b.JG nm l sp).name.length<=1000:=by
 unfold BS.JG;split;.show(BS.NU sp nm).length<=1000;rw[ou];exact hn
 .exact A7 _
def Cx.ov{i:Item}{l':List Item}(r:Cx b (m+1))(h1:l'.length<=b.AK.length+1)(h2:∀j∈l',j∈b.AK\/j=i)(hi:i.name.length<=1000):Cx {b with AK:=l'} m:=
 ⟨by have:=r.n;simp only;omega,λx=>by have:=r.at_ x;simp only;omega,λx=>by have:=r.data x;simp only;omega,by have:=r.AK;simp only;omega,by have:=r.AZ;simp only;omega,by have:=r.tm;simp only;omega,r.C7,λj hj=>by
  rcases h2 j hj with h|rfl
  .exact r.cB j h
  .exact hi⟩
def Cx.oz{e:Co}{l':List Co}(r:Cx b (m+1))(h1:l'.length<=b.AZ.length+1)(h2:∀j∈l',j∈b.AZ\/j=e)(hi:e.name.length<=1000/\Eb e.Au):Cx {b with AZ:=l'} m:=
 ⟨by have:=r.n;simp only;omega,λx=>by have:=r.at_ x;simp only;omega,λx=>by have:=r.data x;simp only;omega,by have:=r.AK;simp only;omega,by have:=r.AZ;simp only;omega,by have:=r.tm;simp only;omega,λj hj=>by
  rcases h2 j hj with h|rfl
  .exact r.C7 j h
  .exact hi,r.cB⟩
def L0(r:Cx b (m+4))(hl:Eb l)(hn:nm.length<=1000):Cx (b.Fq nm l sp) m:=by
 unfold BS.Fq;split
 .rename_i hs;have c:=Lr (m:=m+1) (nm:=nm) (sp:=sp) (p:=(b.place 0).1) (r.le Ab) hl;have r2:=c.I8 (LB (x:=b.a.len+1) (p:=(b.place 0).1) (bf:=(b.place 0).2));have ho:(b.FY nm l sp (b.place 0).1).AK=b.AK:=by unfold BS.FY;rw[Af hs]
  refine r2.ov (i:=b.JG nm l sp) (by simp only[Aq,Bl];exact Ae _) (λj hj=>?_) (Pq hn);rcases Ap.1 hj with h|h
  .exact .inl h
  .exact .inr (by simpa using h)
 .exact r.le Ab
def Ux(r:Cx b (m+5))(hl:Eb l)(hn:nm.length<=1000):Cx (b.Hn nm l) m:=by
 have c:=L0 (m:=m+1) (sp:=1) (nm:=nm) (r.le Ab) hl hn;unfold BS.Hn;simp only
 obtain⟨l',h1,h2⟩:=Sp (l:=(b.Fq nm l 1).AZ) (e:=⟨b.a.len+1,nm,l⟩);rw[h2];refine c.oz (e:=⟨b.a.len+1,nm,l⟩) (by have:=h1.length_le;simp;omega) (λj hj=>?_) ⟨hn,hl⟩;rcases Ap.1 hj with h|h
 .exact .inl (h1.subset h)
 .exact .inr (by simpa using h)
end
end Go.Am
end
