/- Lemmas -/
import Derived.Test.YtmfdhadocnndiaaGreatDoorS18
set_option linter.all false
noncomputable section
set_option maxRecDepth 100000
section
namespace Go.Am
open Go
section
section
variable{U:Type}{z:Nat}
def FI{Af:List (List U)}(h:∀r∈Af,r.length=z):Af.flatten.length=Af.length*z:=by
 induction Af with
 |nil=>simp
 |cons q Af ih=>rw[Cy,Ap,h q Av,ih λr hr=>h r (by simp[hr]),AO,Bp];omega
def V0{Af:List (List U)}(h:∀r∈Af,r.length=z):∀{k:Nat},Af.flatten.take (k*z)=(Af.take k).flatten:=by
 induction Af with
 |nil=>intro k;simp
 |cons q Af ih=>
  intro k;have hq:=h q Av;cases k with
  |zero=>simp
  |succ k=>rw[Cy,Bp,DZ,KF,gB,AT Ab,hq,Qi,ih λr hr=>h r (by simp[hr])];simp
def Hq{Af:List (List U)}(h:∀r∈Af,r.length=z):∀{k:Nat},Af.flatten.drop (k*z)=(Af.drop k).flatten:=by
 induction Af with
 |nil=>intro k;simp
 |cons q Af ih=>
  intro k;have hq:=h q Av;cases k with
  |zero=>simp
  |succ k=>rw[Cy,Bp,DZ,KF,Qe,A6 Ab,hq,Qi,ih λr hr=>h r (by simp[hr])];simp
def Zk{Af:List (List U)}(h:∀r∈Af,r.length=z){k:Nat}(hk:k<Af.length)(q:List U):Af.flatten.take (k*z)++q++Af.flatten.drop (k*z+z)=(Af.set k q).flatten:=by
 have e:k*z+z=(k+1)*z:=by rw[Bp,DZ]
 rw[e,V0 h,Hq h,Cc,Ad hk];simp
def V4{Af:List (List Aa)}(h:∀r∈Af,r.length=z):∀{n off:Nat},off+n<=Af.length->Cf Af.flatten z (off*z) n=(Af.drop off).take n:=by
 intro n;induction n with
 |zero=>intro off _;simp[Cf]
 |succ n ih=>
  intro off hl;rw[Cf];have e:off*z+z=(off+1)*z:=by rw[Bp,DZ]
  rw[e,ih Ab,Hq h];have hlt:off<Af.length:=Ab;rw[AB hlt,Cy,Da (by rw[h _ (AP hlt)];exact Ae _),AT (by rw[h _ (AP hlt)];exact Ae _),Vg]
def tS{Af:List (List Aa)}(h:∀r∈Af,r.length=z):Cf Af.flatten z 0 Af.length=Af:=by have:=V4 h (n:=Af.length) (off:=0) Ab;simpa using this
end
section
variable{h:Ah}{id z n:Nat}{Af:List (List Aa)}
def QJ(hr:∀r∈Af,r.length=z)(hc:h[id]?=some (.cells Af.flatten)):Lf h (.CI id 0 Af.length z)=some (h.set id .DD,.sl z Af):=by unfold Lf;simp only[hc,By];rw[Ad (by rw[FI hr];exact Ae _),tS hr]
def E8{k:IntKind}{i:Nat}(hi:i<n):Ax (.ER z) [.CI id 0 n z,.int k (i:Int)]=some (.ptr (some (id,i*z))):=by
 have:Lx (i:Int) n=some i:=by unfold Lx;rw[Ad Ab];rfl
 simp[Ax,elemOf,this]
def RI(hr:∀r∈Af,r.length=z)(hc:h[id]?=some (.cells Af.flatten)){i:Nat}(hi:i<Af.length){q:List Aa}(hq:q.length=z):CK h z (.ptr (some (id,i*z))) (.agg q)=some (h.set id (.cells (Af.set i q).flatten)):=by
 simp only[CK,hc,QH];have:i*z+z<=Af.flatten.length:=by rw[FI hr];have:=DB z (Ab:i+1<=Af.length);rwa [Bp,DZ] at this
 rw[<-Zk hr hi];exact Ad ⟨hq,this⟩
def Zl(hr:∀r∈Af,r.length=z){i:Nat}{q:List Aa}(hq:q.length=z):∀r∈Af.set i q,r.length=z:=by
 intro r h;rcases Db h with h|rfl
 .exact hr r h
 .exact hq
def LR{U:Type}{f:U->List Aa}(hf:∀a,(f a).length=z)(l:List U):∀r∈l.map f,r.length=z:=by intro r h;obtain⟨a,_,rfl⟩:=A3.1 h;exact hf a
def No{s v:Aa}{b:Nat}(hs:s= .slnil\/s= .sl z [])(hv:Bn z Af v)(hne:Af≠[])(hb:Af.length*b<=AN):Ld h z b s v=some (h++[.cells Af.flatten],.CI h.length 0 Af.length z):=by
 rcases hv with rfl|⟨rfl,hv⟩
 .cases Af with
  |nil=>exact absurd rfl hne
  |cons r Af=>rw[AO] at hb;rcases hs with rfl|rfl<;>simp[Ld,MX,hb]
 .exact absurd hv hne
def Zm{s v:Aa}{b:Nat}(hs:s= .slnil\/s= .sl z [])(hv:Bn z [] v):Ld h z b s v=some (h,s):=by rcases hv with rfl|⟨rfl,hv⟩<;>rcases hs with rfl|rfl<;>simp[Ld,MX]
def Mp{v:Aa}{b:Nat}{r2:List (List Aa)}(hr:∀r∈Af,r.length=z)(hz:0<z)(hc:h[id]?=some (.cells Af.flatten))(hv:Bn z r2 v)(hne:r2≠[])(hb:(Af.length+r2.length)*b<=AN):
  ET h z b (.CI id 0 Af.length z) v=some (h.set id .DD++[.cells (Af++r2).flatten],.CI h.length 0 (Af.length+r2.length) z):=by
 rcases hv with rfl|⟨rfl,hv⟩
 .cases r2 with
  |nil=>exact absurd rfl hne
  |cons r r2=>
   have hl:=FI hr;have h1:¬(0+(Af.length+(r::r2).length)*z<=Af.flatten.length):=by rw[hl,AO,By,Bp,Bp];omega
   have h2:Af.flatten.take (Af.length*z)=Af.flatten:=AT (by rw[hl];exact Ae _);unfold ET;simp only[Gc,BE,hc];rw[Ac h1,Ad ⟨trivial,by rw[hl];exact Ae _,hb⟩,h2,Jh]
 .exact absurd hv hne
end
end
section
section
end
def IF:List Au:=[[100,100],[100,116],[108,105],aLP,aLZ,[112],[114,98],[114,112],[114,116],[114,116,99]]
def NW:List Au:=[aLM,aLV,aL0,[116,100],aLW,[116,104],aL1,[116,114]]
def Mq:List Au:=[[109,105],[109,110],[109,111],[109,115],[109,116,101,120,116]]
def V5:List Au:=[aMh,aLL,aLX]
section
end
def Hr(k:Int)(s:Au):Bool:=
 if k=3 then decide (s=aLJ\/s∈Mq) else if k=2 then decide (s∈V5) else if k=1 then decide (s∈PI) else false
def sw(s:Au)(t e:IT):List Au->IT
 |[]=>e
 |c::cs=> .op (.str .eql) [.str s,.str c] λv=> .AM v t (sw s t e cs)
def tT{C:Fo}{Q:Iw}{h:Ah}{s:Au}{t e:IT}:∀{cs:List Au},W C (sw s t e cs) Q h↔(s∈cs->W C t Q h)/\(s∉cs->W C e Q h)
 |[]=>by simp[sw]
 |c::cs=>by
  simp only[sw,TA,iN,Nk,LP,TB,Az,O2];rw[tT];by_cases hc:s=c;.simp[hc]
  .simp[hc]
def TN{C:Fo}{f:FuncId}{args:List Aa}{r:Aa}:N7 C f args r↔W C (BY C f args) (λx vs _=>x= .ret/\vs=[r]) []:=by
 unfold N7 Ev;constructor;.exact λh=>W.mono h λ_ _ _ ⟨h1,r,h2,h3⟩=>⟨h1,by rw[h2,h3]⟩
 .exact λh=>W.mono h λ_ _ _ ⟨h1,h2⟩=>⟨h1,r,h2,rfl⟩
section
variable{Q:Iw}{h:Ah}{k:Aa->IT}{s:Au}
end
section
variable{Q:Iw}{h:Ah}{k:Aa->IT}{s:Au}{n:Int}
end
end
section
end
section
section
variable{Q:Iw}{h:Ah}{k:Aa->IT}{s:Au}
def LS:List Au:=LQ [] aLH
def LU:List Au:=LQ [] aLG
def PJ:List Au:=[aLN,aLK,aLI]
def Np:List Au:=[aLP,aLZ]
def Xp:List Au:=[[111,108],[117,108]]
def Sq:List Au:=[aMd,aLM,aLN,aMa,aMg,aLK,[116,100],aLI,[116,104]]
end
section
variable{Q:Iw}{h:Ah}{k:Aa->IT}{s:Au}{n:Int}
end
end
section
def Ik(c:UInt8):UInt8:=if 65<=c.toNat/\c.toNat<=90 then c+32 else c
def FJ(s:Au):Au:=s.map Ik
def Xq{c:UInt8}(h:65<=c.toNat/\c.toNat<=90):((Ik c).toNat:Int)=(c.toNat:Int)+32:=by unfold Ik;rw[Ad h,UInt8.toNat_add];have:UInt8.toNat 32=32:=Br;rw[this];omega
def PK{c:UInt8}(h:¬(65<=c.toNat/\c.toNat<=90)):Ik c=c:=by unfold Ik;rw[Ac h]
def dH{s:Au}{n:Nat}(hn:n<s.length):FJ (s.take (n+1))=FJ (s.take n)++[Ik s[n]]:=by rw[AL hn];unfold FJ;rw[BW];rfl
def MI(b:UInt8):Aa:= .int .u8 (b.toNat:Int)
def Gr(s:Au)(n:Nat):Au:=FJ (s.take n)++s.drop n
def TO(s:Au)(n:Nat):(Gr s n).length=s.length:=by simp[Gr,FJ];omega
def TP{s:Au}{n:Nat}(hn:n<s.length):(Gr s n)[n]?=some s[n]:=by unfold Gr FJ;rw[BD Ew];simp only[As,Aw,Cr (Rc hn),DL];rw[AB hn];rfl
def PL{s:Au}{n:Nat}(hn:n<s.length):Gr s (n+1)=(Gr s n).set n (Ik s[n]):=by
 unfold Gr;rw[dH hn,Ce _ _ (by simp[FJ];omega)];have e:n-(FJ (s.take n)).length=0:=by simp[FJ];omega
 rw[e,AB hn,aEy,AA];rfl
def Zn(s:Au):Gr s s.length=FJ s:=by simp[Gr,FJ]
def tU{U:Type}{l:List U}{i:Nat}{v:U}(h:l[i]?=some v):l.set i v=l:=by
 apply Oy;intro j;rw[aG5];split
 .rename_i e;subst e;split;.exact h.symm
  .rename_i hl;rw[CZ Ab]
 .rfl
def dI{cs:List Aa}{i:Nat}{v:Aa}(h:cs[i]?=some v):Bk [.cells cs] none (.ptr (some (0,i)))=some v:=by simpa[Bk] using h
def Oq{U:Type}{l:List U}{i:Nat}{v:U}(h:i<l.length):l.take i++v::l.drop (i+1)=l.set i v:=by rw[Cc,Ad h]
def Zo{cs:List Aa}{i:Nat}{v:Aa}(h:i<cs.length)(hv:v.cells=[v]):CK [.cells cs] 1 (.ptr (some (0,i))) v=some [.cells (cs.set i v)]:=by simp only[CK,hv,J1,BN];rw[Ad ⟨trivial,Ab⟩,<-Oq h];simp
def Nq(s:Au):∀(n o:Nat),o+n=s.length->Cf (s.map MI) 1 o n=CG (s.drop o)
 |0,o,h=>by rw[A6 Ab];rfl
 |n+1,o,h=>by
  have ho:o<s.length:=Ab;have e:(s.map MI).drop o=MI s[o]::(s.map MI).drop (o+1):=by rw[AB (by simpa using ho)];simp
  rw[Cf,Nq s n (o+1) Ab,AB ho,e];rfl
end
section
def Dl(name:Au):List Au->Au
 |[]=>name
 |w::ws=>if FJ w=name then w else Dl name ws
def CW(w:Au):List Aa:=[.str w]
def QK:Au:=aLH
def QL:Au:=aLG
end
section
structure A0 where
 AY:Int
 name:Au
 value:Au
 deriving DecidableEq
def A0.row(a:A0):List Aa:=[.int .i64 a.AY,.str a.name,.str a.value]
structure Item where
 node:Int
 AY:Int
 name:Au
 MJ:Bool
 deriving DecidableEq
def Item.row(a:Item):List Aa:=[.int .i64 a.node,.int .i64 a.AY,.str a.name,.bool a.MJ]
def JR(ns:List Au)(v:Aa):Prop:=Bn 1 (ns.map CW) v
def Cw(l:List A0)(v:Aa):Prop:=Bn 3 (l.map A0.row) v
def C9(l:List Item)(v:Aa):Prop:=Bn 4 (l.map Item.row) v
def iP(l:List A0):Prop:=l.length<=12/\∀x∈l,x.name.length<=60/\x.value.length<=200
instance(l:List A0):Decidable (iP l):=by unfold iP;infer_instance
def tV(l:List Au):Prop:=l.length<=12/\∀x∈l,x.length<=60
instance(l:List Au):Decidable (tV l):=by unfold tV;infer_instance
def iQ(l:List Item):Prop:=l.length<=60/\∀x∈l,x.name.length<=60
instance(l:List Item):Decidable (iQ l):=by unfold iQ;infer_instance
end
section
def BV{U:Type}(p:U->Bool)(n:Nat):List U->Int
 |[]=> -1
 |a::l=>if p a then(n:Int) else BV p (n+1) l
def Gs{U:Type}{p:U->Bool}:∀{l:List U} {k:Nat},(BV p k l= -1/\l.find? p=none)\/∃(n:Nat) (a:U),BV p k l=((k+n:Nat):Int)/\l[n]?=some a/\l.find? p=some a
 |[],k=> .inl ⟨rfl,rfl⟩
 |a::l,k=>by
  unfold BV;by_cases h:p a=true;.exact .inr ⟨0,a,by rw[Ad h];rfl,rfl,by simp[h]⟩
  .rw[Ac h];rcases Gs (p:=p) (l:=l) (k:=k+1) with⟨h1,h2⟩|⟨n,b,h1,h2,h3⟩
   .exact .inl ⟨h1,by simp[h,h2]⟩
   .exact .inr ⟨n+1,b,by rw[h1];congr 1;omega,by simpa using h2,by simp[h,h3]⟩
def iR(a:A0):Bool:=decide (a.AY=0/\a.name=aMi)
def RJ{s:Au}(h:s.all (λc=> !(65<=c.toNat&&c.toNat<=90))=true):FJ s=s:=by
 unfold FJ;conv=>rhs;rw[<-List.map_id s]
 apply Vk;intro c hc;have:=Dq.1 h c hc;refine PK λh2=>?_;simp[h2.1,h2.2] at this
abbrev ü:Au:=aLJ
abbrev iS:Au:=aMe
abbrev Xr:Au:=aLQ
def Hs(n:Int)(s:Au)(l:List A0):Bool:=
 if n=2 then Hr 2 s else if n≠3 then false else if s≠ü then false else match l.find? iR with
  |none=>false
  |some a=>decide (FJ a.value=iS\/FJ a.value=Xr)
end
section
section
variable{U:Type}{f:U->List Aa}{l l2:List U}{v v2:Aa}{z b:Nat}{k k2:IntKind}
def Bn.FL(hv:Bn z (l.map f) v):Ax (.len false) [v]=some (.int .i64 (l.length:Int)):=by have:=Bn.len hv;rwa [As] at this
def Bn.Dw(hv:Bn z (l.map f) v){n:Nat}(hn:n<l.length):Ax (.ER z) [v,.int k (n:Int)]=some (.B3 (f l[n])):=by have:=Bn.ER hv (k:=k) (n:=n) (by simpa using hn);simpa using this
def Bn.RK(hv:Bn z (l.map f) v){n:Nat}(hn:n<=l.length):∃u,Ax (.Qo z false false true) [v,.int k (n:Int)]=some u/\Bn z ((l.take n).map f) u:=by
 rcases hv with rfl|⟨rfl,h⟩
 .have a:Fq (n:Int) (l.map f).length=some n:=by unfold Fq;rw[As,Ad Ab];rfl
  refine⟨.sl z ((l.map f).take n),?_,.inl (by rw[HW])⟩;simp only[Ax,J3,DO,a,BO,aG,BE,KG]
 .have:l=[]:=by simpa using h
  subst this;have:n=0:=by simpa using hn
  subst this;exact⟨.slnil,rfl,.inr ⟨rfl,rfl⟩⟩
def Bn.iT(hv:Bn z (l.map f) v){n:Nat}(hn:n<=l.length):∃u,Ax (.Qo z false true false) [v,.int k (n:Int)]=some u/\Bn z ((l.drop n).map f) u:=by
 rcases hv with rfl|⟨rfl,h⟩
 .have a:Fq (n:Int) (l.map f).length=some n:=by unfold Fq;rw[As,Ad Ab];rfl
  refine⟨.sl z ((l.map f).drop n),?_,.inl (by rw[Lw])⟩;simp only[Ax,J3,DO,a,BO,aG,BE,B6]
 .have:l=[]:=by simpa using h
  subst this;have:n=0:=by simpa using hn
  subst this;exact⟨.slnil,rfl,.inr ⟨rfl,rfl⟩⟩
def Bn.bk(hv:Bn z (l.map f) v)(YJ:Bn z (l2.map f) v2)(hb:(l.length+l2.length)*b<=AN):∃u,Ax (.append z b) [v,v2]=some u/\Bn z ((l++l2).map f) u:=by obtain⟨u,e,hu⟩:=Bn.Ja hv YJ (b:=b) (by simpa using hb);exact⟨u,e,by rwa [BW]⟩
def Bn.Nr(YJ:Bn z (l2.map f) v2)(hb:l2.length*b<=AN):∃u,Ax (.append z b) [.slnil,v2]=some u/\Bn z (l2.map f) u:=by obtain⟨u,e,hu⟩:=Bn.Ja (v:= .slnil) (r:=[]) .nil YJ (b:=b) (by simpa using hb);exact⟨u,e,by simpa using hu⟩
def Bn.V6{a:U}(hv:Bn z (l.map f) v)(hb:(l.length+1)*b<=AN):Ax (.append z b) [v,.sl z [f a]]=some (.sl z ((l++[a]).map f)):=by rw[Bn.ù hv (by simpa using hb)];simp
end
def D7{a b:Int}(h1: -9223372036854775808<=a-b)(h2:a-b<9223372036854775808):Ax (.int .sub) [.int .i64 a,.int .i64 b]=some (.int .i64 (a-b)):=by rw[dE,wrap_i64 h1 h2]
def Xs{a b:Int}(h1: -9223372036854775808<=a+b)(h2:a+b<9223372036854775808):Ax (.int .add) [.int .i64 a,.int .i64 b]=some (.int .i64 (a+b)):=by rw[dD,wrap_i64 h1 h2]
def Item.zero:Item:=⟨0,0,[],false⟩
def Item.Df{a:Item}:a.row.length=4:=rfl
def Item.g0{a:Item}{d:Aa}:a.row.getD 0 d= .int .i64 a.node:=rfl
def Item.g1{a:Item}{d:Aa}:a.row.getD 1 d= .int .i64 a.AY:=rfl
def Item.g2{a:Item}{d:Aa}:a.row.getD 2 d= .str a.name:=rfl
def Item.g3{a:Item}{d:Aa}:a.row.getD 3 d= .bool a.MJ:=rfl
def Item.bl{a:Item}:a.row[0]?=some (.int .i64 a.node):=rfl
def Item.HN{a:Item}:a.row.take 4=a.row:=rfl
def Item.tW{a:Item}:a.row.drop 1=[.int .i64 a.AY,.str a.name,.bool a.MJ]:=rfl
def Item.ý{a:Item}:a.row.drop 2=[.str a.name,.bool a.MJ]:=rfl
def Item.þ{a:Item}:a.row.drop 3=[.bool a.MJ]:=rfl
def Item.R6{a:Item}:[Aa.int .i64 a.node,.int .i64 a.AY,.str a.name,.bool a.MJ]=a.row:=rfl
def Item.fill{a:Item}:Bl [.int .i64 0,.int .i64 0,.str [],.bool false] ([(0,1),(1,1),(2,1),(3,1)].zip a.row)=some a.row:=rfl
def Iq:=ai @Item.fill (ai @Item.Df (ai @Item.g0 (ai @Item.g1 (ai @Item.g2 (ai @Item.g3 (ai @Item.bl (ai @Item.HN (ai @Item.tW (ai @Item.ý (ai @Item.þ (ai @Item.R6 (ai @EN (@Bi.{0})))))))))))))
def Ft(l:List Item)(i:Int):Item:=if 0<=i then l.getD i.toNat Item.zero else Item.zero
def Hz(l:List Item):Item:=Ft l ((l.length:Int)-1)
def AR{U:Type}(q:U->Bool)(l:List U):Int:=match l.reverse.findIdx? q with
 |some k=>(l.length:Int)-1 -k
 |none=> -1
def Ns{U:Type}{q:U->Bool}:AR q []= -1:=rfl
def J8{U:Type}{q:U->Bool}{l:List U}{a:U}:AR q (l++[a])=if q a then(l.length:Int) else AR q l:=by
 unfold AR;rw[GU,HH,Ib,aEA];by_cases h:q a=true;.simp only[h,BE,Ap,BN];omega
 .simp only[h,EX,Dd,Ap,BN];cases List.findIdx? q l.reverse with
  |none=>rfl
  |some k=>simp only[BO];omega
def Mr{U:Type}{q:U->Bool}{l:List U}{n:Nat}(hn:n<l.length):AR q (l.take (n+1))=if q l[n] then(n:Int) else AR q (l.take n):=by rw[AL hn,J8,Aw,Cr (Rc hn)]
def DF{U:Type}{q:U->Bool}{l:List U}:(AR q l= -1/\∀a∈l,q a=false)\/∃(n:Nat) (hn:n<l.length),AR q l=(n:Int)/\q l[n]=true/\∀m (hm:m<l.length),n<m->q l[m]=false:=by
 have key:∀r:List U,(AR q r.reverse= -1/\∀a∈r.reverse,q a=false)\/∃(n:Nat) (hn:n<r.reverse.length),AR q r.reverse=(n:Int)/\q r.reverse[n]=true/\∀m (hm:m<r.reverse.length),n<m->q r.reverse[m]=false:=by
  intro r;induction r with
  |nil=>exact .inl ⟨rfl,Av⟩
  |cons a r ih=>
   rw[GD,J8];by_cases h:q a=true;.refine .inr ⟨r.reverse.length,Av,by rw[Ad h],by simp[h],λm hm hlt=>?_⟩;simp at hm hlt;omega
   .rw[Ac h];rcases ih with⟨h1,h2⟩|⟨n,hn,h1,h2,h3⟩
    .exact .inl ⟨h1,λb hb=>by
      rcases An.1 hb with hb|hb
      .exact h2 b hb
      .simp at hb;subst hb;simpa using h⟩
    .refine .inr ⟨n,by simp at hn⊢;omega,h1,by rw[JI hn];exact h2,λm hm hlt=>?_⟩;by_cases Td:m<r.reverse.length;.rw[JI Td];exact h3 m Td hlt
     .have:m=r.reverse.length:=by simp at hm Td⊢;omega
      subst this;simpa using h
 have:=key l.reverse;rwa [IQ] at this
def At(h:Ah)(id o:Nat)(v:Aa):Prop:=∃cs,h[id]?=some (.cells cs)/\cs[o]?=some v
def put(h:Ah)(id o:Nat)(u:Aa):Ah:=match h[id]? with
 |some (.cells cs)=>h.set id (.cells (cs.set o u))
 |_=>h
section
variable{h t:Ah}{id o:Nat}{u v w:Aa}
def HD{cs:List Aa}(hc:h[id]?=some (.cells cs)):put h id o u=h.set id (.cells (cs.set o u)):=by unfold put;rw[hc]
def KY:(put h id o u).length=h.length:=by unfold put;split<;>simp
def At.lt(ha:At h id o v):id<h.length:=by obtain⟨cs,hc,_⟩:=ha;exact(Ai.1 hc).1
def At.load(ha:At h id o v):Bk h none (.ptr (some (id,o)))=some v:=by obtain⟨cs,hc,e⟩:=ha;simp only[Bk,hc,E5,e]
def At.store(ha:At h id o v)(hu:u.cells=[u]):CK h 1 (.ptr (some (id,o))) u=some (put h id o u):=by
 obtain⟨cs,hc,e⟩:=ha;have hl:=(Ai.1 e).1;rw[HD hc];simp only[CK,hc,hu,BN,IP];have a:cs.set o u=cs.take o++[u]++cs.drop (o+1):=by rw[Cc,Ad hl];simp
 rw[Ad (Ab:o+1<=cs.length),a]
def At.put(ha:At h id o v):At (put h id o u) id o u:=by obtain⟨cs,hc,e⟩:=ha;have hl:=(Ai.1 e).1;have hi:=(Ai.1 hc).1;rw[HD hc];exact⟨cs.set o u,by simp[hi],by simp[hl]⟩
def At.same(ha:At h id o v):Am.put h id o v=h:=by obtain⟨cs,hc,e⟩:=ha;obtain⟨hl,e⟩:=Ai.1 e;obtain⟨hi,a⟩:=Ai.1 hc;rw[HD hc,<-e,Ic,<-a,Ic]
def Xt:Am.put (Am.put h id o u) id o w=Am.put h id o w:=by
 cases hc:h[id]? with
 |none=>
  have e:∀u,Am.put h id o u=h:=λu=>by unfold Am.put;rw[hc]
  rw[e,e]
 |some x=>cases x with
  |cells cs=>have hi:=(Ai.1 hc).1;rw[HD hc,HD hc,HD (cs:=cs.set o u) (by simp[hi])];simp
  |_=>
   have e:∀u,Am.put h id o u=h:=λu=>by unfold Am.put;rw[hc]
   rw[e,e]
def At.Ja(ha:At h id o v):At (h++t) id o v:=by obtain⟨cs,hc,e⟩:=ha;exact⟨cs,by rw[Al (Ai.1 hc).1];exact hc,e⟩
def Xu(ha:At h id o v):Am.put (h++t) id o u=Am.put h id o u++t:=by have hi:=ha.lt;obtain⟨cs,hc,e⟩:=ha;rw[HD hc,HD (by rw[Al hi];exact hc),List.set_append_left _ _ hi]
def CO{i:Nat}(hn:i≠id):(Am.put h id o u)[i]?=h[i]?:=by
 unfold Am.put;split;.rw[Ao (DK hn)]
 .rfl
end
def qJ(h:Ah)(p:Aa)(l:List Item):Prop:=(p= .ptr none/\l=[])\/∃id o v,p= .ptr (some (id,o))/\At h id o v/\C9 l v
def Il{l:List Item}{n:Nat}(hn:n<l.length):Ft l (n:Int)=l[n]:=by have:(0:Int)<=(n:Int):=Ab;simp[Ft,this,hn]
def TQ{l:List Item}{i:Int}(h:i<0\/(l.length:Int)<=i):Ft l i=Item.zero:=by
 unfold Ft;rcases h with h|h
 .rw[Ac Ab]
 .rw[Ad Ab,Ay,CZ Ab];rfl
section
variable{h:Ah}{p:Aa}{l:List Item}
def bm{s:Au}{ws:List Au}:decide (0<=BV (λw=>decide (s=w)) 0 ws)=decide (s∈ws):=by
 rcases Gs (p:=λw=>decide (s=w)) (l:=ws) (k:=0) with⟨h1,h2⟩|⟨n,a,h1,h2,h3⟩
 .rw[h1,DM];have:=HG.1 h2;exact⟨λh=>Ab,λh=>absurd (show s=s from rfl) (by simpa using this s h)⟩
 .rw[h1,DM];have e:s=a:=by simpa using RQ h3
  have:a∈ws:=Ca h2;refine⟨λ_=>e▸this,λ_=>Ab⟩
def BK(ws:List Au)(a:Item):Bool:=decide (a.AY=1/\a.name∈ws)
def DR{ws:List Au}:JR ws (.sl 1 (ws.map CW)):= .mk
def Nt(n:Int)(a:Item):Bool:=
 if n=4 then BK PJ a else if n=5 then !BK Np a else if a.AY=3\/a.AY=2 then Hr a.AY a.name
 else BK Sq a||(decide (n=2)&&BK Xp a)||(decide (n=3)&&BK [aLO] a)
def EI{ws:List Au}{args:List Aa}(e:args=ws.map Aa.str)(h:ws.length<=16777216):Ax (.Cb 1) args=some (.sl 1 (ws.map CW)):=by
 subst e;have g:(ws.map Aa.str).all (λa=>a.cells.length==1)=true:=Av;have c:(ws.map Aa.str).map (·.cells)=ws.map CW:=by simp[CW]
 rw[iO,g,c];simp[h]
def dJ:Ax (.Cb 1) [S aLN,S aLK,S aLI]=some (.sl 1 (PJ.map CW)):=EI (ws:=PJ) rfl Br
def Zp:Ax (.Cb 1) [S aLP,S aLZ]=some (.sl 1 (Np.map CW)):=EI (ws:=Np) rfl Br
def oG:Ax (.Cb 1) [S [111,108],S [117,108]]=some (.sl 1 (Xp.map CW)):=EI (ws:=Xp) rfl Br
def dK:Ax (.Cb 1) [S aMd,S aLM,S aLN,S aMa,S aMg,S aLK,S [116,100],S aLI,S [116,104]]=some (.sl 1 (Sq.map CW)):=EI (ws:=Sq) rfl Br
def oH:Ax (.Cb 1) [S aLO]=some (.sl 1 ([aLO].map CW)):=EI (ws:=[aLO]) rfl Br
def OQ{U:Type}(q e:U->Bool):List U->Bool
 |[]=>false
 |a::r=>if q a then true else if e a then false else OQ q e r
def dL{U:Type}{q e:U->Bool}(l:List U)(b:Bool):(if h:0<=AR (λa=>q a||e a) l/\(AR (λa=>q a||e a) l).toNat<l.length then q (l[(AR (λa=>q a||e a) l).toNat]'h.2) else false)=OQ q e l.reverse:=by
 have key:∀r:List U,(if h:0<=AR (λa=>q a||e a) r.reverse/\(AR (λa=>q a||e a) r.reverse).toNat<r.reverse.length then q (r.reverse[(AR (λa=>q a||e a) r.reverse).toNat]'h.2) else false)=OQ q e r:=by
  intro r;induction r with
  |nil=>simp[OQ,Ns]
  |cons a r ih=>
   simp only[GD,OQ];have e0:=J8 (q:=λa=>q a||e a) (l:=r.reverse) (a:=a);by_cases hq:q a=true
   .rw[Ad (by simp[hq])] at e0;have c:(AR (λa=>q a||e a) (r.reverse++[a])).toNat=r.reverse.length:=by rw[e0];omega
    simp only[c];rw[aH ⟨by rw[e0];omega,Av⟩];simp[hq]
   .by_cases he:e a=true
    .rw[Ad (by simp[he])] at e0;have c:(AR (λa=>q a||e a) (r.reverse++[a])).toNat=r.reverse.length:=by rw[e0];omega
     simp only[c];rw[aH ⟨by rw[e0];omega,Av⟩];simp[hq,he]
    .rw[Ac (by simp[hq,he])] at e0;simp only[hq,he,EX,Dd,<-ih,e0];rcases DF (q:=λa=>q a||e a) (l:=r.reverse) with⟨h1,h2⟩|⟨n,hn,h1,h2,h3⟩
     .simp[h1]
     .have g:(0:Int)<=(n:Int)/\(n:Int).toNat<r.reverse.length:=⟨Ab,by simpa using hn⟩;have i:(0:Int)<=(n:Int)/\(n:Int).toNat<(r.reverse++[a]).length:=⟨Ab,by simp at hn⊢;omega⟩;simp only[h1];rw[aH g,aH i,JI g.2]
 have:=key l.reverse;rwa [IQ] at this
def JR.cells{v:Aa}{ws:List Au}(hv:JR ws v):v.cells=[v]:=Bn.cells hv
def BL(node:Int)(a:Item):Bool:=decide (a.node=node)
end
end
section
section
variable{h:Ah}{p v:Aa}{l:List Item}
def oI{n s:Int}{t:Au}{b:Bool}:Ax (.B0 [I 0,I 0,S [],ff] [(0,1),(1,1),(2,1),(3,1)]) [.int .i64 n,.int .i64 s,.str t,.bool b]=some (.agg (Item.row ⟨n,s,t,b⟩)):=by simp only[Cn];rfl
def tX{a:Item}:Ax (.Cb 4) [.agg a.row]=some (.sl 4 [a.row]):=PH rfl Br
def J9(h:Ah)(id o:Nat)(l:List Item):Prop:=∃v,At h id o v/\C9 l v
def J9.at{id o:Nat}(hs:J9 h id o l):qJ h (.ptr (some (id,o))) l:=let⟨v,h1,h2⟩:=hs; .inr ⟨id,o,v,rfl,h1,h2⟩
def C9.cells(hv:C9 l v):v.cells=[v]:=Bn.cells hv
def IG(a:Item):Bool:=Hr a.AY a.name
def D8(node:Int)(l:List Item):Int:=if AR (BL node) l<0 then -1 else match(l.drop ((AR (BL node) l).toNat+1)).findIdx? IG with
 |some k=>AR (BL node) l+1+k
 |none=> -1
def FA{U:Type}(q:U->Bool)(l:List U)(n:Nat):Int:=match(l.drop n).findIdx? q with
 |some k=>(n:Int)+k
 |none=> -1
def UY{U:Type}{q:U->Bool}{l:List U}{n:Nat}(h:l.length<=n):FA q l n= -1:=by unfold FA;rw[A6 h];rfl
def Xv{U:Type}{q:U->Bool}{l:List U}{n:Nat}(h:n<l.length):FA q l n=if q l[n] then(n:Int) else FA q l (n+1):=by
 unfold FA;rw[AB h,aEA];by_cases hq:q l[n]=true;.simp only[hq,BE];omega
 .simp only[hq,Dd,EX];cases List.findIdx? q (l.drop (n+1)) with
  |none=>rfl
  |some k=>simp only[BO];omega
def KZ{node:Int}:D8 node l=if AR (BL node) l<0 then -1 else FA IG l ((AR (BL node) l).toNat+1):=by
 unfold D8 FA;by_cases h:AR (BL node) l<0;.simp only[h,BE]
 .simp only[h,EX];cases(l.drop ((AR (BL node) l).toNat+1)).findIdx? IG with
  |none=>rfl
  |some k=>simp only;omega
end
end
section
def Ev.ret{C:Fo}{f:FuncId}{args:List Aa}{h:Ah}{R:Aa->Ah->Prop}(hw:Ev C f args h R):∃r h',Co C f args h r h'/\R r h':=by obtain⟨n,x,vs,h',e,hx,r,hv,hR⟩:=hw;exact⟨r,h',⟨n,x,vs,h',e,hx,hv,rfl⟩,hR⟩
def MK(b a:Item->Bool):List Item->List Item
 |x::y::r=>if b x then x::y::r else if a x then y::r else MK b a (y::r)
 |r=>r
def D9(b a:Item->Bool)(l:List Item):List Item:=(MK b a l.reverse).reverse
def oJ{b a:Item->Bool}{l:List Item}(h:l.length<=1):MK b a l=l:=by
 match l with
 |[]=>rfl
 |[x]=>rfl
 |x::y::r=>simp at h
def Zq{b a:Item->Bool}{l:List Item}(h:l.length<=1):D9 b a l=l:=by unfold D9;rw[oJ (by simpa using h),IQ]
def oK{b a:Item->Bool}{l:List Item}{x:Item}(h:1<=l.length):D9 b a (l++[x])=if b x then l++[x] else if a x then l else D9 b a l:=by
 unfold D9;rw[GU,HH,Ib];cases hr:l.reverse with
 |nil=>
  have:l=[]:=by simpa using hr
  subst this;simp at h
 |cons y r=>
  have hl:l=r.reverse++[y]:=by rw[<-IQ l,hr,GD]
  rw[MK];by_cases h1:b x=true;.rw[Ad h1,Ad h1];rw[hl];simp
  .rw[Ac h1,Ac h1];by_cases h2:a x=true;.rw[Ad h2,Ad h2];rw[hl];simp
   .rw[Ac h2,Ac h2]
def oL{b a:Item->Bool}{l:List Item}{n:Nat}(hn:n+1<l.length):D9 b a (l.take (n+2))=if b l[n+1] then l.take (n+2) else if a l[n+1] then l.take (n+1) else D9 b a (l.take (n+1)):=by have e:l.take (n+2)=l.take (n+1)++[l[n+1]]:=AL hn;rw[e,oK (by rw[Aw];omega)]
def Xw{b a:Item->Bool}:∀{l:List Item},(D9 b a l).length<=l.length:=by
 have key:∀r:List Item,(MK b a r).length<=r.length:=by
  intro r;induction r with
  |nil=>simp[MK]
  |cons x r ih=>
   cases r with
   |nil=>simp[MK]
   |cons y r=>
    rw[MK];split;.simp
    .split;.simp
     .exact Bj ih Av
 intro l;have:=key l.reverse;simpa[D9] using this
section
variable{h:Ah}{p v:Aa}{l:List Item}
def TR{n:Nat}(hn:n<l.length):Hz (l.take (n+1))=l[n]:=by
 have e:((l.take (n+1)).length:Int)-1=(n:Int):=by rw[Aw];omega
 unfold Hz;rw[e,Il (by rw[Aw];omega)];simp
def J9.Xx{id o:Nat}(hs:J9 h id o l):∃u,h=put h id o u/\C9 l u:=by obtain⟨u,hc,hu⟩:=hs;exact⟨u,hc.same.symm,hu⟩
def J9.lt{id o:Nat}(hs:J9 h id o l):∃v,At h id o v:=let⟨u,hc,_⟩:=hs;⟨u,hc⟩
def J9.rk{id o:Nat}{u:Aa}(hlt:∃v,At h id o v)(hu:C9 l u):J9 (put h id o u) id o l:=let⟨_,ha⟩:=hlt;⟨u,ha.put,hu⟩
def Ee(_:Item):Bool:=false
def Ht(s:Au)(a:Item):Bool:=decide (a.AY≠1\/a.name∉IF\/a.name=s)
def DI(a:Item):Bool:=decide (a.AY≠1\/¬(a.name∈NW\/a.name∈IF))
def FM(node:Int)(l:List Item):List Item:=if AR (BL node) l<0 then l else D9 Ee (BL node) l
end
end
section
section
variable{h:Ah}{p v:Aa}{l:List Item}
def ÿ(l:List Item):∀r∈l.map Item.row,r.length=4:=LR (f:=Item.row) (λa=>Item.Df) l
def iU{n:Nat}(h:n<=2000000000):n*40<=AN:=by have:AN=140737488355328:=rfl;omega
def Bm{U:Type}(l:List U)(k:Nat):List U:=l.take k++l.drop (k+1)
def Dg(node:Int)(l:List Item):List Item:=if AR (BL node) l<1 then l else Bm l (AR (BL node) l).toNat
def GI(i:Int)(n:Nat):Nat:=min (max i 1).toNat n
def Nu(node:Int)(a:Item)(l:List Item):List Item:=if AR (BL node) l<1 then l else l.set (AR (BL node) l).toNat a
end
end
section
end
section
section
variable{h:Ah}{p v w:Aa}{l:List Item}{ws:List Au}
end
end
section
def fT:List (Au×Int×Au):=[(aLS,4,aMc),(aLR,4,aMb),(aL2,4,aMm),(aL3,4,aMn),(aL4,4,aMo),(aLT,4,aLX),(aL5,4,aMp),(aL9,5,[108,97,110,103]),(aL7,5,aMl),(aLY,6,aLY),(aLU,6,aMk)]
def TS(x:Au×Int×Au):Aa×Aa:=(.str x.1,.agg [.int .i64 x.2.1,.str x.2.2,.str []])
def ft(n:Nat):List (Aa×Aa):=(fT.take n).map TS
def Ā:MP aLS (.agg [.int .i64 4,.str aMc,.str []]) (ft 0)=some (ft 1):=by kernel_rfl
def ā:MP aLR (.agg [.int .i64 4,.str aMb,.str []]) (ft 1)=some (ft 2):=by kernel_rfl
def Ă:MP aL2 (.agg [.int .i64 4,.str aMm,.str []]) (ft 2)=some (ft 3):=by kernel_rfl
def ă:MP aL3 (.agg [.int .i64 4,.str aMn,.str []]) (ft 3)=some (ft 4):=by kernel_rfl
def Ą:MP aL4 (.agg [.int .i64 4,.str aMo,.str []]) (ft 4)=some (ft 5):=by kernel_rfl
def ą:MP aLT (.agg [.int .i64 4,.str aLX,.str []]) (ft 5)=some (ft 6):=by kernel_rfl
def Ć:MP aL5 (.agg [.int .i64 4,.str aMp,.str []]) (ft 6)=some (ft 7):=by kernel_rfl
def ć:MP aL9 (.agg [.int .i64 5,.str [108,97,110,103],.str []]) (ft 7)=some (ft 8):=by kernel_rfl
def Ĉ:MP aL7 (.agg [.int .i64 5,.str aMl,.str []]) (ft 8)=some (ft 9):=by kernel_rfl
def ĉ:MP aLY (.agg [.int .i64 6,.str aLY,.str []]) (ft 9)=some (ft 10):=by kernel_rfl
def rl:MP aLU (.agg [.int .i64 6,.str aMk,.str []]) (ft 10)=some (ft 11):=by kernel_rfl
def dM{h:Ah}{es:List (Aa×Aa)}{s:Au}{v:Aa}:Re (h++[.map es]) (.map (some h.length)) (.str s) v=(MP s v es).map λes=>h++[.map es]:=by simp[Re]
def Im(n:Au):Option (Int×Au):=(fT.find? λx=>decide (n=x.1)).map (·.2)
def TT(n:Au):∀l:List (Au×Int×Au),SD n (l.map TS)=some ((l.find? λx=>decide (n=x.1)).map λx=>(TS x).2)
 |[]=>rfl
 |x::l=>by
  rw[Be,MC,TS,SD];by_cases e:n=x.1;.rw[Ad e,AW e];rfl
  .rw[Ac e,A4 e];exact TT n l
def Ks{h:Ah}{n:Au}:Rf (h++[.map (ft 11)]) (.agg [.int .i64 0,.str [],.str []]) true (.map (some h.length)) (.str n)=
  some (match Im n with|some (s,m)=> .tuple [.agg [.int .i64 s,.str m,.str []],.bool true]|none=> .tuple [.agg [.int .i64 0,.str [],.str []],.bool false]):=by
 have e:SE (h++[.map (ft 11)]) (.map (some h.length)) (.str n)=SD n (fT.map TS):=by simp[SE,ft,fT]
 rw[Rf,e,TT,Im];cases fT.find? λx=>decide (n=x.1)<;>rfl
abbrev Ċ:Au:=aL6
abbrev rp:Au:=aL8
def K0(sp:Int)(n:Au):Au:=if sp=2 then Dl n LU else if sp=3/\n=Ċ then rp else n
def Dt(sp:Int)(a:A0):A0:=
 if sp=2\/sp=3 then match Im (K0 sp a.name) with
  |some (s,m)=>⟨s,m,a.value⟩
  |none=>⟨0,K0 sp a.name,a.value⟩
 else⟨0,a.name,a.value⟩
def Xy(s:Au):(FJ s).length=s.length:=by simp[FJ]
def ML(n:Au):∀ws,Dl n ws=n\/(Dl n ws∈ws/\FJ (Dl n ws)=n)
 |[]=> .inl rfl
 |w::ws=>by
  rw[Dl];split;.rename_i e;exact .inr ⟨List.mem_cons_self,e⟩
  .rcases ML n ws with h|⟨h1,h2⟩
   .exact .inl h
   .exact .inr ⟨IM _ h1,h2⟩
def Kt{a b c:Aa}:Ax (.Cb 3) [.agg [a,b,c]]=some (.sl 3 [[a,b,c]]):=rfl
def A0.Df{a:A0}:a.row.length=3:=rfl
def A0.HN{a:A0}:a.row.take 3=a.row:=rfl
section
variable{v:Aa}{l:List A0}{h:Ah}
def tY{a b:A0}{neg:Bool}:Ax (.geq neg [.i,.s,.s]) [.agg a.row,.agg b.row]=some (.bool (decide (a=b) != neg)):=by
 rw[Mo];have:De [.i,.s,.s] a.row b.row=some (decide (a=b)):=by simp only[De,I2,A0.row,BE,Bs];cases a;cases b;simp only[A0.mk.injEq];rw[qB];simp
 rw[this];rfl
end
end
section
structure Cv where
 node:Int
 name:Au
 AE:List A0
deriving DecidableEq
structure CM where
 c:Cv
 v:Aa
 ok:Cw c.AE v
def CM.row(e:CM):List Aa:=[.int .i64 e.c.node,.str e.c.name,e.v]
def Er(l:List CM)(v:Aa):Prop:=Bn 3 (l.map CM.row) v
section
variable{e:CM}{d:Aa}
def CM.Df:e.row.length=3:=rfl
def CM.g0:e.row.getD 0 d= .int .i64 e.c.node:=rfl
def CM.g1:e.row.getD 1 d= .str e.c.name:=rfl
def CM.g2:e.row.getD 2 d=e.v:=rfl
def CM.bl:e.row[0]?=some (.int .i64 e.c.node):=rfl
def CM.HN:e.row.take 3=e.row:=rfl
def CM.tW:e.row.drop 1=[.str e.c.name,e.v]:=rfl
def CM.R6:[Aa.int .i64 e.c.node,.str e.c.name,e.v]=e.row:=rfl
def CM.aB2:Ax (.len false) [e.v]=some (.int .i64 (e.c.AE.length:Int)):=Bn.FL e.ok
end
def A0.g0{a:A0}{d:Aa}:a.row.getD 0 d= .int .i64 a.AY:=rfl
def A0.g1{a:A0}{d:Aa}:a.row.getD 1 d= .str a.name:=rfl
def A0.g2{a:A0}{d:Aa}:a.row.getD 2 d= .str a.value:=rfl
def A0.R6{a:A0}:[Aa.int .i64 a.AY,.str a.name,.str a.value]=a.row:=rfl
def V8{n:Nat}(h:n<=2000000000):n*48<=AN:=by have:AN=140737488355328:=rfl;omega
def QM(e:CM):Bool:=decide (e.c.node=0)
def QN(n:Int)(e:CM):Bool:=decide (e.c.node=n)
def since(l:List CM):Int:=AR QM l+1
def oM:since []=0:=rfl
def dN{l:List CM}{e:CM}:since (l++[e])=if e.c.node=0 then(l.length:Int)+1 else since l:=by unfold since;rw[J8];by_cases h:e.c.node=0<;>simp[QM,h]
def dO{l:List CM}{n:Nat}(hn:n<l.length):since (l.take (n+1))=if l[n].c.node=0 then(n:Int)+1 else since (l.take n):=by rw[AL hn,dN,Aw,Cr (Rc hn)]
def OR(l:List CM):∃s:Nat,since l=(s:Int)/\s<=l.length/\(∀m (hm:m<l.length),s<=m->l[m].c.node≠0)/\(∀t,s=t+1->∃ht:t<l.length,l[t].c.node=0):=by
 rcases DF (q:=QM) (l:=l) with⟨h1,h2⟩|⟨n,hn,h1,h2,h3⟩
 .refine⟨0,by unfold since;rw[h1];rfl,AZ _,λm hm _=>?_,λt ht=>by omega⟩;have:=h2 _ (AP hm);simpa[QM] using this
 .refine⟨n+1,by unfold since;rw[h1];rfl,hn,λm hm D0=>?_,λt ht=>?_⟩;.have:=h3 m hm Ab;simpa[QM] using this
  .obtain rfl:t=n:=by omega
   exact⟨hn,by simpa[QM] using h2⟩
section
variable{h:Ah}{v:Aa}{l:List CM}{id:Nat}
def iV(name:Au):List CM->Int
 |[]=> -1
 |e::t=>if e.c.node=0 then -1 else if e.c.name=name then(t.length:Int) else iV name t
def Ot(name:Au)(l:List CM):Int:=iV name l.reverse
def dP{name:Au}{n:Nat}(hn:n<l.length):Ot name (l.take (n+1))=if l[n].c.node=0 then -1 else if l[n].c.name=name then(n:Int) else Ot name (l.take n):=by rw[AL hn,Ot,GU,HH,Ib,iV,Vl,Aw,Cr (Rc hn),Ot]
def oN{name:Au}:Ot name []= -1:=rfl
def Jb(node:Int)(l:List CM):Int:=if node=0 then -1 else AR (QN node) l
end
section
variable{h:Ah}{v:Aa}{l:List A0}
def JS(a b:Cv):Bool:=decide (a.name=b.name/\a.AE.length=b.AE.length/\(∀x∈a.AE,x∈b.AE)/\∀x∈b.AE,x∈a.AE)
def qK(e:CM):Prop:=e.c.AE.length<=1000000000
end
end
section
mutual
def Aa.PM:∀a:Aa,Aa.beq a a=true
 | .bool a=>by simp[Aa.beq]
 | .int k a=>by simp[Aa.beq]
 | .str a=>by simp[Aa.beq]
 | .ptr a=>by simp[Aa.beq]
 | .B3 a=>by simp[Aa.beq,Aa.Jc a]
 | .sl n a=>by simp[Aa.beq,Aa.TU a]
 | .Fb _=>by simp[Aa.beq]
 | .slnil=>by simp[Aa.beq]
 | .CI a c d e=>by simp[Aa.beq]
 | .map a=>by simp[Aa.beq]
 | .func f a c=>by simp[Aa.beq,Aa.Jc a,Aa.Jc c]
 | .nilFunc=>by simp[Aa.beq]
 | .iface t a=>by simp[Aa.beq,Aa.PM a]
 | .nilIface=>by simp[Aa.beq]
 | .agg a=>by simp[Aa.beq,Aa.Jc a]
 | .tuple a=>by simp[Aa.beq,Aa.Jc a]
def Aa.Jc:∀a:List Aa,Aa.O9 a a=true
 |[]=>by simp[Aa.O9]
 |a::x=>by simp[Aa.O9,Aa.PM a,Aa.Jc x]
def Aa.TU:∀a:List (List Aa),Aa.Pb a a=true
 |[]=>by simp[Aa.Pb]
 |a::x=>by simp[Aa.Pb,Aa.Jc a,Aa.TU x]
end
def QP(h:Ah)(id o:Nat)(l:List CM):Prop:=∃u,At h id o u/\Er l u
def Er.cells{l:List CM}{v:Aa}(hv:Er l v):v.cells=[v]:=Bn.cells hv
def QP.lt{h:Ah}{id o:Nat}{l:List CM}(hs:QP h id o l):∃v,At h id o v:=let⟨u,hc,_⟩:=hs;⟨u,hc⟩
def R7(l:List CM):∀r∈l.map CM.row,r.length=3:=LR (f:=CM.row) (λa=>CM.Df) l
section
variable{h:Ah}{v:Aa}{l:List CM}{id:Nat}
def oO{r:List Aa}(h:r.length=3):Ax (.Cb 3) [.agg r]=some (.sl 3 [r]):=PH (a:= .agg r) h Br
def Zr(n:Int)(l:List CM):Jb n l= -1\/∃k:Nat,k<l.length/\Jb n l=(k:Int):=by
 unfold Jb;split;.exact .inl rfl
 .rcases DF (q:=QN n) (l:=l) with⟨h1,_⟩|⟨k,hk,h1,_⟩
  .exact .inl h1
  .exact .inr ⟨k,hk,h1⟩
def Xz:CM:=⟨⟨0,[],[]⟩,.slnil,.nil⟩
def tZ:[I 0,S [],Aa.slnil]=Xz.row:=rfl
def FN(i:Int)(n:Nat):Nat:=min (max i 0).toNat n
def Gz(l:List CM):Nat:=(since l-1).toNat
end
end
section
def bn(e:Cv):List CM->Nat
 |[]=>0
 |x::t=>if x.c.node=0 then 0 else bn e t+(if JS x.c e=true then 1 else 0)
def dQ(e:Cv):List CM->Int
 |[]=> -1
 |x::t=>if x.c.node=0 then -1 else if 0<=dQ e t then dQ e t else if JS x.c e=true then(t.length:Int) else -1
def UZ(e:Cv)(l:List CM):Nat:=bn e l.reverse
def OS(e:Cv)(l:List CM):Int:=dQ e l.reverse
section
variable{e:Cv}{l:List CM}{n s:Nat}
def V9(hn:n<l.length):UZ e (l.take (n+1))=if l[n].c.node=0 then 0 else UZ e (l.take n)+(if JS l[n].c e=true then 1 else 0):=by rw[AL hn,UZ,GU,HH,Ib,bn,UZ]
def Wa(hn:n<l.length):OS e (l.take (n+1))=if l[n].c.node=0 then -1 else if 0<=OS e (l.take n) then OS e (l.take n) else if JS l[n].c e=true then(n:Int) else -1:=by rw[AL hn,OS,GU,HH,Ib,dQ,OS,Vl,Aw,Cr (Rc hn)]
def dR(hs:since l=(s:Int)):UZ e (l.take s)=0/\OS e (l.take s)= -1:=by
 obtain⟨s',e,h1,h2,h3⟩:=OR l;obtain rfl:s=s':=Ab;cases s with
 |zero=>exact⟨rfl,rfl⟩
 |succ t=>obtain⟨ht,h0⟩:=h3 t rfl;exact⟨by rw[V9 ht,Ad h0],by rw[Wa ht,Ad h0]⟩
end
def OT(e:Cv)(l:List CM):List CM:=if e.node≠0/\3<=UZ e l then Bm l (OS e l).toNat else l
section
variable{h:Ah}{v:Aa}{l:List CM}{id:Nat}
end
end
section
section
variable{h:Ah}{v:Aa}{l:List CM}{id:Nat}
end
end
end Go.Am
end
section
namespace Go.Am
structure Ek where
 kind:Int:=0
 DA:Int:=0
 AX:List Int:=[]
 CQ:Int:=0
 AY:Int:=0
 name:Au:=[]
 AE:List A0:=[]
 data:Au:=[]
 z_:Au:=[]
 sys:Au:=[]
 CS:Bool:=false
 cont:Int:=0
 CJ:Int:=0
deriving DecidableEq
structure Ar where
 n:List Ek
 i:List Int
abbrev BG:Au:=aLI
def PO(x:Ek):Prop:=x.kind=4/\x.AY=1/\x.name=BG
instance(x:Ek):Decidable (PO x):=by unfold PO;infer_instance
namespace Ar
def len(A:Ar):Int:=A.n.length
def has(A:Ar)(h:Int):Prop:=1<=h/\h<=A.n.length
instance(A:Ar)(h:Int):Decidable (A.has h):=by unfold has;infer_instance
def nd(A:Ar)(h:Int):Ek:=if A.has h then A.n.getD (h.toNat-1) {} else{}
def inr(A:Ar)(h:Int):Int:=if A.has h then A.i.getD (h.toNat-1) 0 else 0
def set(A:Ar)(h:Int)(x:Ek):Ar:={n:=if A.has h then A.n.set (h.toNat-1) x else A.n,i:=A.i}
def LV(A:Ar)(h:Int)(x:Int):Ar:={n:=A.n,i:=if A.has h then A.i.set (h.toNat-1) x else A.i}
def add(A:Ar)(x:Ek):Ar:={n:=A.n++[x],i:=A.i++[0]}
def up(A:Ar)(h:Int):Int:=if(A.nd h).DA≠0 then(A.nd h).DA else(A.nd h).CJ
end Ar
section
variable{A:Ar}{h k:Int}{x y:Ek}
def LW(a:¬A.has h):A.nd h={}:=by unfold Ar.nd;rw[Ac a]
def HO:(A.set h x).n.length=A.n.length:=by simp only[Ar.set];split<;>simp
def bo:(A.set h x).len=A.len:=by unfold Ar.len;rw[HO]
def HU:(A.set h x).has k↔A.has k:=by unfold Ar.has;rw[HO]
def IH:(A.set h x).nd k=if k=h/\A.has h then x else A.nd k:=by
 unfold Ar.nd;simp only[HU];by_cases hk:A.has k
 .rw[Ad hk,Ad hk];simp only[Ar.set];by_cases a:A.has h
  .rw[Ad a];have h1:=a;have h2:=hk;unfold Ar.has at h1 h2;by_cases e:k=h;.subst e;rw[Ad ⟨rfl,a⟩,Ay,AJ Ab];rfl
   .rw[Ac (by simp[e]),Ay,Ao Ab,Ay]
  .rw[Ac a,Ac (by simp[a])]
 .rw[Ac hk,Ac hk,Ac];rintro⟨rfl,h2⟩;exact hk h2
def PQ:(A.set h x).inr k=A.inr k:=by unfold Ar.inr;simp only[HU];rfl
def Ms:(A.add x).len=A.len+1:=by simp[Ar.len,Ar.add]
def DU:(A.add x).has k↔A.has k\/k=A.len+1:=by simp[Ar.has,Ar.add,Ar.len];omega
def JT:(A.add x).nd k=if k=A.len+1 then x else A.nd k:=by
 unfold Ar.nd;simp only[DU];by_cases e:k=A.len+1;.subst e;simp[Ar.add,Ar.len]
 .by_cases hk:A.has k;.rw[Ad (.inl hk),Ac e,Ad hk];unfold Ar.has at hk;simp only[Ar.add,Ay];rw[Al Ab]
  .rw[Ac (by simp[hk,e]),Ac e,Ac hk]
def Sr(hl:A.i.length=A.n.length):(A.add x).inr k=A.inr k:=by
 unfold Ar.inr;simp only[DU];by_cases e:k=A.len+1
 .subst e;have:¬A.has (A.len+1):=by unfold Ar.has Ar.len;omega
  rw[Ad (.inr rfl),Ac this];simp[Ar.add,Ar.len,<-hl]
 .by_cases hk:A.has k;.rw[Ad (.inl hk),Ad hk];unfold Ar.has at hk;simp only[Ar.add,Ay];rw[Al Ab]
  .rw[Ac (by simp[hk,e]),Ac hk]
def Zs:(A.LV h k).len=A.len:=rfl
def PR{m:Int}:(A.LV h m).has k↔A.has k:=Iff.rfl
def iW{m:Int}:(A.LV h m).nd k=A.nd k:=by rfl
def TV{m:Int}(hl:A.i.length=A.n.length):(A.LV h m).inr k=if k=h/\A.has h then m else A.inr k:=by
 unfold Ar.inr;simp only[PR];by_cases hk:A.has k
 .rw[Ad hk,Ad hk];simp only[Ar.LV];by_cases a:A.has h
  .rw[Ad a];have h1:=a;have h2:=hk;unfold Ar.has at h1 h2;by_cases e:k=h;.subst e;rw[Ad ⟨rfl,a⟩,Ay,AJ Ab];rfl
   .rw[Ac (by simp[e]),Ay,Ao Ab,Ay]
  .rw[Ac a,Ac (by simp[a])]
 .rw[Ac hk,Ac hk,Ac];rintro⟨rfl,h2⟩;exact hk h2
end
def CV(a:A0):Int×Au:=(a.AY,a.name)
def Gi(out:List A0):List A0->List A0
 |[]=>out
 |x::l=>if out.any (λy=>decide (CV x=CV y)) then Gi out l else Gi (out++[x]) l
def Cp(l:List A0):List A0:=Gi [] l
def OU:∀{l out:List A0},(out.map CV).Nodup->((Gi out l).map CV).Nodup
 |[],_,h=>h
 |x::l,out,h=>by
  rw[Gi];split;.exact OU h
  .rename_i hn;refine OU ?_;rw[BW,BH];refine⟨h,Av,?_⟩;rintro a ha b hb rfl;simp at hb;subst hb;simp at ha hn;obtain⟨y,hy,e⟩:=ha;exact hn y hy e.symm
def Zt:∀{l out:List A0},((out++l).map CV).Nodup->Gi out l=out++l
 |[],out,_=>by simp[Gi]
 |x::l,out,h=>by
  rw[Gi,Ac,Zt (by simpa using h)];.simp
  .intro ha;rw[BW,BH] at h;simp at ha;obtain⟨y,hy,e⟩:=ha;exact h.2.2 _ (A3.2 ⟨y,hy,e.symm⟩) _ Av rfl
def oP(l:List A0):((Cp l).map CV).Nodup:=OU Av
def bp{l:List A0}(h:(l.map CV).Nodup):Cp l=l:=by have:=Zt (out:=[]) (l:=l) (by simpa using h);simpa[Cp] using this
def Wb(l:List A0):Cp (Cp l)=Cp l:=bp (oP l)
def QQ:∀{l out:List A0} {a:A0},a∈Gi out l->a∈out\/a∈l
 |[],_,_,h=> .inl h
 |x::l,out,a,h=>by
  rw[Gi] at h;split at h
  .rcases QQ h with h|h
   .exact .inl h
   .exact .inr (by simp[h])
  .rcases QQ h with h|h
   .simp at h;rcases h with h|rfl
    .exact .inl h
    .exact .inr Av
   .exact .inr (by simp[h])
def Zu{l:List A0}{a:A0}(h:a∈Cp l):a∈l:=by simpa using QQ h
def TW:∀{l out:List A0},(Gi out l).length<=out.length+l.length
 |[],out=>by simp[Gi]
 |x::l,out=>by
  rw[Gi];split;.have:=TW (l:=l) (out:=out);simp;omega
  .have:=TW (l:=l) (out:=out++[x]);simp at this⊢;omega
def NX{l:List A0}:(Cp l).length<=l.length:=by have:=TW (l:=l) (out:=[]);simpa[Cp] using this
structure iX(x:Ek):Prop where
 k:1<=x.kind/\x.kind<=6
 AX:x.AX≠[]->x.kind=1\/x.kind=2\/x.kind=4
 elem:x.kind≠4->x.AY=0/\x.AE=[]
 nm:x.kind≠4->x.kind≠3->x.name=[]
 dt:x.kind≠3->x.z_=[]/\x.sys=[]
 data:x.kind≠5->x.kind≠6->x.data=[]
 CS:x.kind≠1->x.CS=false
 sp:0<=x.AY/\x.AY<=7
 uA:∀a∈x.AE,0<=a.AY/\a.AY<=7
 Cp:Cp x.AE=x.AE
 MM:x.cont≠0->PO x
 K4:x.CJ≠0->x.kind=2
 root:x.DA≠0->x.kind≠1/\x.kind≠2
 Zv:x.AX.Nodup
structure DS(A:Ar)(e:Int):Prop where
 il:A.i.length=A.n.length
 Nv:∀h,A.has h->iX (A.nd h)
 CQ:∀h,A.has h->A.has (A.nd h).CQ/\(A.nd (A.nd h).CQ).kind=1
 TX:∀h,A.has h->(A.nd h).kind=1->(A.nd h).CQ=h
 DA:∀h,A.has h->(A.nd h).DA≠0->A.has (A.nd h).DA/\h∈(A.nd (A.nd h).DA).AX
 Kq:∀h,A.has h->∀k∈(A.nd h).AX,A.has k/\(A.nd k).DA=h
 yR:∀h,A.has h->h≠e->PO (A.nd h)->(A.nd h).cont≠0
 cont:∀h,A.has h->(A.nd h).cont≠0->A.has (A.nd h).cont/\(A.nd (A.nd h).cont).kind=2/\(A.nd (A.nd h).cont).CJ=h
 CJ:∀h,A.has h->(A.nd h).CJ≠0->A.has (A.nd h).CJ/\(A.nd (A.nd h).CJ).cont=h
 rq:∀h,A.has h->A.inr h≠0->A.has (A.inr h)/\(A.nd (A.inr h)).kind=1
 U4:∃r:Int->Nat,∀h,A.has h->A.up h≠0->r (A.up h)<r h
section
variable{A:Ar}{e h k:Int}{x y:Ek}
def OV:¬A.has (A.len+1):=by unfold Ar.has Ar.len;omega
def TY(a:¬A.has h):A.up h=0:=by unfold Ar.up;rw[LW a];simp
def TZ(ok:DS A e)(a:A.has h)(hu:A.up h≠0):A.has (A.up h):=by
 unfold Ar.up at hu⊢;split;.rename_i h1;exact(ok.DA h a h1).1
 .rename_i h1;rw[Ac h1] at hu;exact(ok.CJ h a hu).1
def T0(ok:DS A e)(hx:iX x)(hd:(x.kind=1/\x.CQ=A.len+1)\/(x.kind≠1/\A.has x.CQ/\(A.nd x.CQ).kind=1))(hp:x.DA=0)(hk:x.AX=[])(hc:x.cont=0)(a:x.CJ=0)(b:PO x->e=A.len+1):DS (A.add x) e:=by
 have no:=OV (A:=A);obtain⟨r,hr⟩:=ok.U4;have ne:∀{k},A.has k->k≠A.len+1:=λhk e=>no (e▸hk);refine⟨by simp[Ar.add,ok.il],?_,?_,?_,?_,?_,?_,?_,?_,?_,r,?_⟩<;>intro m hm<;>rw[DU] at hm<;>(try rw[Sr ok.il])<;>simp only[Ar.up,JT,DU]<;>rcases hm with hm|rfl
 all_goals first|(rw[Ac (ne hm)])|(rw[Ad rfl])|skip
 .exact ok.Nv m hm
 .exact hx
 .have:=ok.CQ m hm;rw[Ac (ne this.1)];exact⟨.inl this.1,this.2⟩
 .rcases hd with⟨h1,h2⟩|⟨h1,h2,h3⟩
  .rw[Ad h2];exact⟨.inr h2,h1⟩
  .rw[Ac (ne h2)];exact⟨.inl h2,h3⟩
 .exact ok.TX m hm
 .intro h1;rcases hd with⟨_,h2⟩|⟨h2,_⟩
  .exact h2
  .exact absurd h1 h2
 .intro h1;have:=ok.DA m hm h1;rw[Ac (ne this.1)];exact⟨.inl this.1,this.2⟩
 .intro h1;exact absurd hp h1
 .intro q hq;have:=ok.Kq m hm q hq;rw[Ac (ne this.1)];exact⟨.inl this.1,this.2⟩
 .intro q hq;rw[hk] at hq;cases hq
 .exact ok.yR m hm
 .intro h1 h2;exact absurd (b h2).symm h1
 .intro h1;have:=ok.cont m hm h1;rw[Ac (ne this.1)];exact⟨.inl this.1,this.2⟩
 .intro h1;exact absurd hc h1
 .intro h1;have:=ok.CJ m hm h1;rw[Ac (ne this.1)];exact⟨.inl this.1,this.2⟩
 .intro h1;exact absurd a h1
 .intro h1;have:=ok.rq m hm h1;rw[Ac (ne this.1)];exact⟨.inl this.1,this.2⟩
 .intro h1;exfalso;apply h1;unfold Ar.inr;rw[Ac no]
 .have:=hr m hm;unfold Ar.up at this;exact this
 .rw[hp,a];simp
inductive Reach(A:Ar)(t:Int):Int->Prop
 |refl:Reach A t t
 |step {h:Int}:A.up h≠0->Reach A t (A.up h)->Reach A t h
def K5(l:List Int)(b n:Int):List Int:=if b=0 then l++[n] else l.takeWhile (λk=>decide (k≠b))++n::l.dropWhile (λk=>decide (k≠b))
def Ar.cut(A:Ar)(n:Int):Ar:=
 let q:=(A.nd n).DA
 if q=0 then A else
  let a:=A.set q {A.nd q with AX:=(A.nd q).AX.filter λk=>decide (k≠n)}
  a.set n {a.nd n with DA:=0}
def Ar.MZ(A:Ar)(p n b:Int):Ar:=
 let a:=A.set p {A.nd p with AX:=K5 (A.nd p).AX b n}
 a.set n {a.nd n with DA:=p}
def MN(k:Int):Prop:=k=1\/k=2\/k=4
instance(k:Int):Decidable (MN k):=by unfold MN;infer_instance
structure r_(A:Ar)(p n b:Int):Prop where
 hp:A.has p
 hn:A.has n
 hb:b≠0->A.has b/\b≠n/\(A.nd b).DA=p
 kp:MN (A.nd p).kind
 kn:(A.nd n).kind≠1/\(A.nd n).kind≠2
 re:¬Reach A n p
open Classical in
def Ar.HP(A:Ar)(p n b:Int):Ar:=if r_ A p n b then(A.cut n).MZ p n b else A
def QR{l:List Int}{b n k:Int}:k∈K5 l b n↔k=n\/k∈l:=by
 unfold K5;split;.simp;exact Or.comm
 .have e:=aX (p:=λk=>decide (k≠b)) (l:=l);constructor
  .intro h;rw[An,Az] at h;rcases h with h|h|h
   .exact .inr (by rw[<-e];simp only[An];exact .inl h)
   .exact .inl h
   .exact .inr (by rw[<-e];simp only[An];exact .inr h)
  .intro h;rw[An,Az];rcases h with h|h
   .exact .inr (.inl h)
   .rw[<-e,An] at h;rcases h with h|h
    .exact .inl h
    .exact .inr (.inr h)
def Zw{l:List Int}{b n:Int}(h:l.Nodup)(hn:n∉l):(K5 l b n).Nodup:=by
 unfold K5;split;.rw[BH];refine⟨h,Av,?_⟩;rintro a ha c hc rfl;simp at hc;subst hc;exact hn ha
 .have e:=aX (p:=λk=>decide (k≠b)) (l:=l);generalize List.takeWhile _ l=u at e⊢;generalize List.dropWhile _ l=w at e⊢;subst e;rw[BH] at h⊢;simp at hn;refine⟨h.1,by simp[h.2.1,hn.2],?_⟩;rintro a ha c hc rfl;simp at hc;rcases hc with rfl|hc
  .exact hn.1 ha
  .exact h.2.2 _ ha _ hc rfl
def Zx:(A.cut h).n.length=A.n.length:=by unfold Ar.cut;simp only;split<;>simp[HO]
def Mt:(A.cut h).has k↔A.has k:=by unfold Ar.has;rw[Zx]
def Zy{p n b:Int}:(A.MZ p n b).n.length=A.n.length:=by unfold Ar.MZ;simp[HO]
def iY{p n b:Int}:(A.MZ p n b).has k↔A.has k:=by unfold Ar.has;rw[Zy]
def bq:(A.cut h).inr k=A.inr k:=by unfold Ar.cut;simp only;split<;>simp[PQ]
def br{p n b:Int}:(A.MZ p n b).inr k=A.inr k:=by unfold Ar.MZ;simp[PQ]
def jt(ok:DS A e)(a:A.has h)(hu:A.up h≠0):A.up h≠h:=by obtain⟨r,hr⟩:=ok.U4;intro e;have:=hr h a hu;rw[e] at this;exact CX _ this
def dS(ok:DS A e)(a:A.has h)(hu:(A.nd h).DA≠0):(A.nd h).DA≠h:=by
 have:A.up h=(A.nd h).DA:=by unfold Ar.up;rw[Ad hu]
 have h2:=jt ok a (by rw[this];exact hu);rwa [this] at h2
def T1(ok:DS A e)(a:A.has h):(A.cut h).nd k=if k=h then{A.nd h with DA:=0} else if(A.nd h).DA≠0/\k=(A.nd h).DA then{A.nd k with AX:=(A.nd k).AX.filter λm=>decide (m≠h)} else A.nd k:=by
 unfold Ar.cut;simp only
 by_cases hp:(A.nd h).DA=0
 .rw[Ad hp];by_cases e:k=h;.subst e;rw[Ad rfl];have:A.nd k={A.nd k with DA:=(A.nd k).DA}:=rfl;rw[hp] at this;exact this
  .rw[Ac e,Ac (by simp[hp])]
 .have hn:=dS ok a hp;have hq:=(ok.DA h a hp).1;rw[Ac hp];simp only[IH,HU,a,hq,Hl];by_cases e:k=h;.subst e;simp[DK hn]
  .simp[e,hp];split;.rename_i e;simp[e]
   .rfl
def Zz{x:Ek}(hx:iX x){l:List Int}(h1:l.Nodup)(h2:l≠[]->MN x.kind):iX {x with AX:=l}:=
 {k:=hx.k,AX:=h2,elem:=hx.elem,nm:=hx.nm,dt:=hx.dt,data:=hx.data,CS:=hx.CS,sp:=hx.sp,uA:=hx.uA,Cp:=hx.Cp,MM:=hx.MM,K4:=hx.K4,root:=hx.root,Zv:=h1}
def iZ{x:Ek}(hx:iX x){p:Int}(h2:p≠0->x.kind≠1/\x.kind≠2):iX {x with DA:=p}:=
 {k:=hx.k,AX:=hx.AX,elem:=hx.elem,nm:=hx.nm,dt:=hx.dt,data:=hx.data,CS:=hx.CS,sp:=hx.sp,uA:=hx.uA,Cp:=hx.Cp,MM:=hx.MM,K4:=hx.K4,root:=h2,Zv:=hx.Zv}
def sa(ok:A.i.length=A.n.length):(A.cut h).i.length=(A.cut h).n.length:=by rw[Zx];unfold Ar.cut;simp only;split<;>exact ok
def sg{p n b:Int}(ok:A.i.length=A.n.length):(A.MZ p n b).i.length=(A.MZ p n b).n.length:=by rw[Zy];exact ok
def bt(ok:DS A e)(a:A.has h)(hk:k∈(A.nd h).AX):k≠h/\(A.nd k).DA=h/\A.has k:=by have:=ok.Kq h a k hk;refine⟨?_,this.2,this.1⟩;rintro rfl;have h0:=this.1.1;exact dS ok a (by rw[this.2];omega) this.2
def uB(ok:DS A e)(a:A.has h):(A.cut h).up k=if k=h then(A.nd h).CJ else A.up k:=by
 unfold Ar.up;rw[T1 ok a];by_cases e:k=h;.simp[e]
 .simp only[e,EX];split<;>rfl
def uC(ok:DS A e)(c:A.has h)(O7:(A.nd h).kind≠2):DS (A.cut h) e:=by
 obtain⟨r,hr⟩:=ok.U4;have a:=λm=>T1 (k:=m) ok c;have kd:∀m,((A.cut h).nd m).kind=(A.nd m).kind:=λm=>by rw[a];grind
 have j:∀m,((A.cut h).nd m).CQ=(A.nd m).CQ:=λm=>by rw[a];grind
 have l:∀m,((A.cut h).nd m).cont=(A.nd m).cont:=λm=>by rw[a];grind
 have ho:∀m,((A.cut h).nd m).CJ=(A.nd m).CJ:=λm=>by rw[a];grind
 have d:(A.nd h).CJ=0:=by
  by_cases h0:(A.nd h).CJ=0;.exact h0
  .exact absurd ((ok.Nv h c).K4 h0) O7
 refine⟨sa ok.il,?_,?_,?_,?_,?_,?_,?_,?_,?_,r,?_⟩<;>intro m hm<;>rw[Mt] at hm<;>(try simp only[kd,j,l,ho,Mt,bq])
 .rw[a];split;.exact iZ (ok.Nv h c) Av
  .split;.exact Zz (ok.Nv m hm) ((ok.Nv m hm).Zv.filter _) λh1=>(ok.Nv m hm).AX (by intro h2;rw[h2] at h1;simp at h1)
   .exact ok.Nv m hm
 .exact ok.CQ m hm
 .exact ok.TX m hm
 .intro h1;have b:m≠h:=by rintro rfl;rw[a] at h1;simp at h1
  have i:((A.cut h).nd m).DA=(A.nd m).DA:=by rw[a,Ac b];split<;>rfl
  rw[i] at h1⊢;have h2:=ok.DA m hm h1;refine⟨h2.1,?_⟩;rw[a];split;.rename_i g;rw[<-g];exact h2.2
  .split;.simp only[CU,C6];exact⟨h2.2,b⟩
   .exact h2.2
 .intro q hq;have h1:q∈(A.nd m).AX/\(m=(A.nd h).DA->q≠h):=by
   rw[a] at hq;split at hq;.rename_i b;subst b;have:=bt ok hm hq;exact⟨hq,λ_=>this.1⟩
   .split at hq;.simp only[CU,C6] at hq;exact⟨hq.1,λ_=>hq.2⟩
    .rename_i h3;refine⟨hq,λf n=>h3 ⟨?_,f⟩⟩;rw[<-f];have:=hm.1;omega
  have h2:=ok.Kq m hm q h1.1;refine⟨h2.1,?_⟩;have b:q≠h:=by rintro rfl;exact h1.2 h2.2.symm rfl
  rw[a,Ac b,<-h2.2];split<;>rfl
 .intro h1 h2;refine ok.yR m hm h1 ?_;rw[a] at h2;unfold PO at h2⊢;grind
 .exact ok.cont m hm
 .exact ok.CJ m hm
 .exact ok.rq m hm
 .rw[uB ok c];split;.rw[d];simp
  .exact hr m hm
def uD{p n b:Int}(hp:A.has p)(hn:A.has n)(hne:n≠p):(A.MZ p n b).nd k=if k=n then{A.nd n with DA:=p} else if k=p then{A.nd p with AX:=K5 (A.nd p).AX b n} else A.nd k:=by
 unfold Ar.MZ;simp only[IH,HU,hp,hn,Hl];by_cases e:k=n;.subst e;simp[hne]
 .simp[e]
def oQ{p n b:Int}(hp:A.has p)(hn:A.has n)(hne:n≠p)(h0:(A.nd n).DA=0)(a:(A.nd n).CJ=0)(hr:¬Reach A n p):∀{m},¬Reach A n m->(A.MZ p n b).up m=A.up m:=by
 intro m hm;have e:m≠n:=by rintro rfl;exact hm .refl
 unfold Ar.up;rw[uD hp hn hne,Ac e];split;.rename_i e;subst e;rfl
 .rfl
open Classical in
def si(ok:DS A e){p n b:Int}(hp:A.has p)(hn:A.has n)(kp:MN (A.nd p).kind)(kn:(A.nd n).kind≠1/\(A.nd n).kind≠2)(re:¬Reach A n p)(h0:(A.nd n).DA=0):DS (A.MZ p n b) e:=by
 obtain⟨r,hr⟩:=ok.U4;have hne:n≠p:=by rintro rfl;exact re .refl
 have a:=λm=>uD (k:=m) (b:=b) hp hn hne;have kd:∀m,((A.MZ p n b).nd m).kind=(A.nd m).kind:=λm=>by rw[a];grind
 have j:∀m,((A.MZ p n b).nd m).CQ=(A.nd m).CQ:=λm=>by rw[a];grind
 have l:∀m,((A.MZ p n b).nd m).cont=(A.nd m).cont:=λm=>by rw[a];grind
 have ho:∀m,((A.MZ p n b).nd m).CJ=(A.nd m).CJ:=λm=>by rw[a];grind
 have g:(A.nd n).CJ=0:=by
  by_cases h0:(A.nd n).CJ=0;.exact h0
  .exact absurd ((ok.Nv n hn).K4 h0) kn.2
 have f:∀m,A.has m->n∉(A.nd m).AX:=by intro m hm h1;have:=ok.Kq m hm n h1;rw[h0] at this;have:=hm.1;omega
 refine⟨sg ok.il,?_,?_,?_,?_,?_,?_,?_,?_,?_,λm=>if Reach A n m then r m+r p+1 else r m,?_⟩<;>intro m hm<;>rw[iY] at hm<;>(try simp only[kd,j,l,ho,iY,br])
 .rw[a];split;.exact iZ (ok.Nv n hn) λ_=>kn
  .split;.exact Zz (ok.Nv p hp) (Zw (ok.Nv p hp).Zv (f p hp)) λ_=>kp
   .exact ok.Nv m hm
 .exact ok.CQ m hm
 .exact ok.TX m hm
 .intro h1;by_cases c:m=n
  .subst c;rw[a,Ad rfl];refine⟨hp,?_⟩;simp only
   rw[a,Ac (DK hne),Ad rfl];exact QR.2 (.inl rfl)
  .have d:((A.MZ p n b).nd m).DA=(A.nd m).DA:=by rw[a,Ac c];split;rename_i e;rw[e];rfl
   rw[d] at h1⊢;have h2:=ok.DA m hm h1;refine⟨h2.1,?_⟩;rw[a];split;.rename_i i;rw[<-i];exact h2.2
   .split;.rename_i i;rw[<-i];exact QR.2 (.inr h2.2)
    .exact h2.2
 .intro q hq;by_cases c:q=n
  .subst c;refine⟨hn,?_⟩;rw[a,Ad rfl];rw[a] at hq;split at hq;.exact absurd hq (f q hn)
   .split at hq;.rename_i e;exact e.symm
    .exact absurd hq (f m hm)
  .have h1:q∈(A.nd m).AX:=by
    rw[a] at hq;split at hq;.rename_i e;rw[e];exact hq
    .split at hq;.rename_i e;rw[e];exact(QR.1 hq).resolve_left c
     .exact hq
   have h2:=ok.Kq m hm q h1;refine⟨h2.1,?_⟩;rw[a,Ac c,<-h2.2];split;.rename_i e;rw[e]
   .rfl
 .intro h1 h2;refine ok.yR m hm h1 ?_;rw[a] at h2;unfold PO at h2⊢;grind
 .exact ok.cont m hm
 .exact ok.CJ m hm
 .exact ok.rq m hm
 .intro hu;by_cases hR:Reach A n m
  .by_cases c:m=n
   .subst c;have d:(A.MZ p m b).up m=p:=by unfold Ar.up;rw[a,Ad rfl];simp only;rw[Ad];have:=hp.1;omega
    rw[d,Ac re,Ad hR];omega
   .have d:(A.MZ p n b).up m=A.up m:=by
     unfold Ar.up;rw[a,Ac c];split;.rename_i e;rw[e]
     .rfl
    rw[d] at hu⊢;have hR2:Reach A n (A.up m):=by
     cases hR with
     |refl=>exact absurd rfl c
     |step _ hx=>exact hx
    rw[Ad hR2,Ad hR];have:=hr m hm hu;omega
  .have d:=oQ (b:=b) hp hn hne h0 g re hR;rw[d] at hu⊢;have hR2:¬Reach A n (A.up m):=λh=>hR (.step hu h);rw[Ac hR2,Ac hR];exact hr m hm hu
def oR(ok:DS A e)(b:A.has h){m:Int}(hr:¬Reach A h m):¬Reach (A.cut h) h m:=by
 intro KT;have key:∀m,Reach (A.cut h) h m->Reach A h m:=by
  intro m hm;induction hm with
  |refl=>exact .refl
  |@step q h1 _ ih=>
   by_cases a:q=h;.rw[a];exact .refl
   .rw[uB ok b,Ac a] at h1 ih;exact .step h1 ih
 exact hr (key m KT)
def PS(ok:DS A e){p n b:Int}:DS (A.HP p n b) e:=by
 unfold Ar.HP;split
 .rename_i f;have a:=uC ok f.hn f.kn.2;have kd:∀m,((A.cut n).nd m).kind=(A.nd m).kind:=λm=>by rw[T1 ok f.hn];grind
  refine si a (Mt.2 f.hp) (Mt.2 f.hn) ?_ ?_ (oR ok f.hn f.re) ?_;.rw[kd];exact f.kp
  .rw[kd];exact f.kn
  .rw[T1 ok f.hn,Ad rfl]
 .exact ok
def uE(ok:DS A e)(f:A.has h)(hx:iX x)(h1:x.kind=(A.nd h).kind)(h2:x.DA=(A.nd h).DA)(h3:x.AX=(A.nd h).AX)(d:A.has x.CQ/\(A.nd x.CQ).kind=1/\(x.kind=1->x.CQ=h))(l:x.cont=(A.nd h).cont)(j:x.CJ=(A.nd h).CJ)(g:PO x->PO (A.nd h)):DS (A.set h x) e:=by
 obtain⟨r,hr⟩:=ok.U4;have a:∀m,(A.set h x).nd m=if m=h then x else A.nd m:=λm=>by rw[IH];simp[f]
 have kd:∀m,((A.set h x).nd m).kind=(A.nd m).kind:=λm=>by rw[a];grind
 have pr:∀m,((A.set h x).nd m).DA=(A.nd m).DA:=λm=>by rw[a];grind
 have ks:∀m,((A.set h x).nd m).AX=(A.nd m).AX:=λm=>by rw[a];grind
 have i:∀m,((A.set h x).nd m).cont=(A.nd m).cont:=λm=>by rw[a];grind
 have ho:∀m,((A.set h x).nd m).CJ=(A.nd m).CJ:=λm=>by rw[a];grind
 have u:∀m,(A.set h x).up m=A.up m:=λm=>by unfold Ar.up;rw[pr,ho]
 refine⟨by rw[HO];exact ok.il,?_,?_,?_,?_,?_,?_,?_,?_,?_,r,?_⟩<;>intro m hm<;>rw[HU] at hm<;>(try simp only[kd,pr,ks,i,ho,u,HU,PQ])
 .rw[a];split;.exact hx
  .exact ok.Nv m hm
 .rw[a];split;.exact⟨d.1,d.2.1⟩
  .exact ok.CQ m hm
 .rw[a];split;.rename_i e;intro c;rw[e,d.2.2 (by rw[h1,<-e];exact c)]
  .exact ok.TX m hm
 .exact ok.DA m hm
 .exact ok.Kq m hm
 .intro c b;refine ok.yR m hm c ?_;rw[a] at b;split at b;.rename_i e;rw[e];exact g b
  .exact b
 .exact ok.cont m hm
 .exact ok.CJ m hm
 .exact ok.rq m hm
 .exact hr m hm
def Ar.GM(A:Ar)(d:Int):Int:=if A.inr d≠0 then A.inr d else A.len+1
def Ar.Ef(A:Ar)(d:Int):Ar:=if A.inr d≠0 then A else((A.add {kind:=1,CQ:=A.len+1}).LV d (A.len+1)).LV (A.len+1) (A.len+1)
def bu:iX {kind:=1,CQ:=k}:=by constructor<;>simp[Cp,Gi]
def i6(ok:DS A e)(hk:A.has k/\(A.nd k).kind=1):DS (A.LV h k) e:=by
 refine⟨?_,ok.Nv,ok.CQ,ok.TX,ok.DA,ok.Kq,ok.yR,ok.cont,ok.CJ,?_,ok.U4⟩;.simp only[Ar.LV];split<;>simp[ok.il]
 .intro m hm h1;rw[PR] at hm;rw[TV ok.il] at h1⊢;split at h1;.rename_i h2;rw[Ad h2];exact hk
  .rename_i h2;rw[Ac h2];exact ok.rq m hm h1
def uF(ok:DS A e)(b:A.has h)(he:e≠A.len+1):DS (A.Ef h) e/\(A.Ef h).has (A.GM h)/\((A.Ef h).nd (A.GM h)).kind=1:=by
 unfold Ar.Ef Ar.GM;split;.rename_i h1;exact⟨ok,ok.rq h b h1⟩
 .have a:=T0 ok (x:={kind:=1,CQ:=A.len+1}) bu (.inl ⟨rfl,rfl⟩) rfl rfl rfl rfl (by simp[PO]);have h2:(A.add {kind:=1,CQ:=A.len+1}).has (A.len+1)/\((A.add {kind:=1,CQ:=A.len+1}).nd (A.len+1)).kind=1:=by rw[DU,JT,Ad rfl];exact⟨.inr rfl,rfl⟩
  exact⟨i6 (i6 a h2) h2,h2⟩
def T2(hk:k≠A.len+1\/A.inr h≠0):(A.Ef h).nd k=A.nd k:=by
 unfold Ar.Ef;split;.rfl
 .rename_i h1;rw[iW,iW,JT,Ac (hk.resolve_right h1)]
def oS:(A.Ef h).len=if A.inr h≠0 then A.len else A.len+1:=by
 unfold Ar.Ef;split;.rfl
 .rw[Zs,Zs,Ms]
def LX:A.has k->(A.Ef h).has k:=by
 unfold Ar.Ef;split;.exact id
 .intro hk;rw[PR,PR,DU];exact .inl hk
def bw{d:Int}(ok:DS A e)(he:A.has e)(l:PO (A.nd e))(hc:(A.nd e).cont=0)(hd:A.has d/\(A.nd d).kind=1):DS ((A.add {kind:=2,CJ:=e,CQ:=d}).set e {A.nd e with cont:=A.len+1}) 0:=by
 have no:=OV (A:=A);obtain⟨r,hr⟩:=ok.U4;have ne:∀{k},A.has k->k≠A.len+1:=λhk e=>no (e▸hk);have l0:A.len+1≠0:=by have:=he.1;have:=he.2;unfold Ar.len;omega
 have b:∀m,(((A.add {kind:=2,CJ:=e,CQ:=d}).set e {A.nd e with cont:=A.len+1}).nd m)=if m=e then{A.nd e with cont:=A.len+1} else if m=A.len+1 then{kind:=2,CJ:=e,CQ:=d} else A.nd m:=λm=>by rw[IH,JT];simp[he,DU]
 have hk:(A.nd e).kind=4:=l.1;have h0:(A.nd e).CJ=0:=by
  by_cases h0:(A.nd e).CJ=0;.exact h0
  .have:=(ok.Nv e he).K4 h0;omega
 have e0:e≠0:=by have:=he.1;omega
 have i:iX {kind:=2,CJ:=e,CQ:=d}:=by constructor<;>simp[Cp,Gi]
 have Nv:=ok.Nv;have c:=Nv e he;have hne:iX {A.nd e with cont:=A.len+1}:={k:=c.k,AX:=c.AX,elem:=c.elem,nm:=c.nm,dt:=c.dt,data:=c.data,CS:=c.CS,sp:=c.sp,uA:=c.uA,Cp:=c.Cp,MM:=λ_=>l,K4:=c.K4,root:=c.root,Zv:=c.Zv};have hs:∀m,((A.add {kind:=2,CJ:=e,CQ:=d}).set e {A.nd e with cont:=A.len+1}).has m↔A.has m\/m=A.len+1:=λm=>by rw[HU,DU]
 have hi:∀m,((A.add {kind:=2,CJ:=e,CQ:=d}).set e {A.nd e with cont:=A.len+1}).inr m=A.inr m:=λm=>by rw[PQ,Sr ok.il]
 have g:e≠A.len+1:=ne he;refine⟨by rw[HO];simp[Ar.add,Ar.set,ok.il],?_,?_,?_,?_,?_,?_,?_,?_,?_,λm=>if m=A.len+1 then r e+1 else r m,?_⟩<;>intro m hm<;>rw[hs] at hm<;>(try simp only[hs,hi])
 .rw[b];split;.exact hne
  .split;.exact i
   .rename_i h1 h2;exact Nv m (hm.resolve_right h2)
 .have key:∀q,A.has q/\(A.nd q).kind=1->(A.has q\/q=A.len+1)/\(((A.add {kind:=2,CJ:=e,CQ:=d}).set e {A.nd e with cont:=A.len+1}).nd q).kind=1:=by
   intro q hq;refine⟨.inl hq.1,?_⟩;rw[b,Ac (ne hq.1)];split;.rename_i a;rw[a] at hq;exact hq.2
   .exact hq.2
  rw[b m];split;.exact key _ (ok.CQ e he)
  .split;.exact key _ hd
   .rename_i h1 h2;exact key _ (ok.CQ m (hm.resolve_right h2))
 .rw[b m];split;.rename_i a;intro h1;rw[a];exact ok.TX e he h1
  .split;.intro h1;simp at h1
   .rename_i h1 h2;exact ok.TX m (hm.resolve_right h2)
 .have key:∀q,A.has q->(A.nd q).DA≠0->(A.has (A.nd q).DA\/(A.nd q).DA=A.len+1)/\q∈(((A.add {kind:=2,CJ:=e,CQ:=d}).set e {A.nd e with cont:=A.len+1}).nd (A.nd q).DA).AX:=by
   intro q hq hp;have h1:=ok.DA q hq hp;refine⟨.inl h1.1,?_⟩;rw[b,Ac (ne h1.1)];split;.rename_i a;rw[a] at h1;exact h1.2
   .exact h1.2
  rw[b m];split;.rename_i a;rw[a];exact key e he
  .split;.intro h1;simp at h1
   .rename_i h1 h2;exact key m (hm.resolve_right h2)
 .have key:∀q,A.has q->∀k∈(A.nd q).AX,(A.has k\/k=A.len+1)/\(((A.add {kind:=2,CJ:=e,CQ:=d}).set e {A.nd e with cont:=A.len+1}).nd k).DA=q:=by
   intro q hq k hk;have h1:=ok.Kq q hq k hk;refine⟨.inl h1.1,?_⟩;rw[b,Ac (ne h1.1)];split;.rename_i a;rw[a] at h1;exact h1.2
   .exact h1.2
  rw[b m];split;.rename_i a;rw[a];exact key e he
  .split;.intro k hk;simp at hk
   .rename_i h1 h2;exact key m (hm.resolve_right h2)
 .intro _;rw[b m];split;.intro _;exact l0
  .split;.intro h1;simp[PO] at h1
   .rename_i h1 h2;exact ok.yR m (hm.resolve_right h2) h1
 .rw[b m];split
  .rename_i a;intro _;simp only
   rw[b,Ac (DK g),Ad rfl,a];exact⟨.inr trivial,rfl,rfl⟩
  .split;.intro h1;simp at h1
   .rename_i h1 h2;intro h3;have f:=ok.cont m (hm.resolve_right h2) h3;refine⟨.inl f.1,?_⟩;rw[b,Ac (ne f.1)];split;.rename_i a;rw[a,hk] at f;exact absurd f.2.1 Br
    .exact f.2
 .rw[b m];split;.intro h1;exact absurd h0 h1
  .split;.rename_i a;intro _;simp only;refine⟨.inl he,?_⟩;rw[b,Ad rfl,a]
   .rename_i h1 h2;intro h3;have f:=ok.CJ m (hm.resolve_right h2) h3;refine⟨.inl f.1,?_⟩;rw[b,Ac (ne f.1)];split;.rename_i a;rw[a,hc] at f;have:=(hm.resolve_right h2).1;omega
    .exact f.2
 .intro h1;rcases hm with hm|rfl
  .have h2:=ok.rq m hm h1;refine⟨.inl h2.1,?_⟩;rw[b,Ac (ne h2.1)];split;.rename_i a;rw[a] at h2;exact h2.2
   .exact h2.2
  .exfalso;apply h1;unfold Ar.inr;rw[Ac no]
 .by_cases a:m=A.len+1
  .have j:((A.add {kind:=2,CJ:=e,CQ:=d}).set e {A.nd e with cont:=A.len+1}).up m=e:=by
    have n:m≠e:=by rw[a];exact DK g
    unfold Ar.up;rw[b m];simp[a,DK g]
   rw[j,Ac g,Ad a];intro _;omega
  .have hm:=hm.resolve_right a;have j:((A.add {kind:=2,CJ:=e,CQ:=d}).set e {A.nd e with cont:=A.len+1}).up m=A.up m:=by
    unfold Ar.up;rw[b];split;.rename_i n;rw[n]
    .rfl
   rw[j,Ac a];intro h1;rw[Ac (ne (TZ ok hm h1))];exact hr m hm h1
def Ar.elem(A:Ar)(d sp:Int)(nm:Au)(at_:List A0):Ar:=
 let x:Ek:={kind:=4,CQ:=d,AY:=sp,name:=nm,AE:=Cp at_}
 if PO x then
  let b:=A.add x
  let a:=b.Ef d
  (a.add {kind:=2,CJ:=A.len+1,CQ:=b.GM d}).set (A.len+1) {x with cont:=a.len+1}
 else A.add x
def i7{d sp:Int}{nm:Au}{l:List A0}(ok:DS A 0)(hd:A.has d/\(A.nd d).kind=1)(hs:0<=sp/\sp<=7)(hl:∀a∈l,0<=a.AY/\a.AY<=7):DS (A.elem d sp nm l) 0:=by
 have hx:iX {kind:=4,CQ:=d,AY:=sp,name:=nm,AE:=Cp l}:=by constructor<;>simp[Wb,hs];exact λa ha=>hl a (Zu ha)
 unfold Ar.elem;simp only
 split
 .rename_i c;have b:DS A (A.len+1):={ok with yR:=λh g _=>ok.yR h g (by have:=g.1;omega)};have j:=T0 b hx (.inr ⟨Av,hd⟩) rfl rfl rfl rfl λ_=>rfl;have sj:(A.add {kind:=4,CQ:=d,AY:=sp,name:=nm,AE:=Cp l}).has d:=DU.2 (.inl hd.1);obtain⟨i,h2,h3⟩:=uF j sj (by rw[Ms];omega);have f:((A.add {kind:=4,CQ:=d,AY:=sp,name:=nm,AE:=Cp l}).Ef d).nd (A.len+1)={kind:=4,CQ:=d,AY:=sp,name:=nm,AE:=Cp l}:=by rw[T2 (.inl (by rw[Ms];omega)),JT,Ad rfl]
  have:=bw i (LX (DU.2 (.inr rfl))) (by rw[f];exact c) (by rw[f]) ⟨h2,h3⟩;rw[f] at this;exact this
 .rename_i c;exact T0 ok hx (.inr ⟨Av,hd⟩) rfl rfl rfl rfl λh=>absurd h c
end
def aB3(e:Cv):Bool:=decide (e.node=0)
def T3(n:Int)(e:Cv):Bool:=decide (e.node=n)
def dT(l:List Cv):Int:=AR aB3 l+1
def F7(n:Int)(l:List Cv):Int:=if n=0 then -1 else AR (T3 n) l
def T4(name:Au):List Cv->Int
 |[]=> -1
 |x::t=>if x.node=0 then -1 else if x.name=name then(t.length:Int) else T4 name t
def GA(name:Au)(l:List Cv):Int:=T4 name l.reverse
def jA(e:Cv):List Cv->Nat
 |[]=>0
 |x::t=>if x.node=0 then 0 else jA e t+(if JS x e=true then 1 else 0)
def ZA(e:Cv):List Cv->Int
 |[]=> -1
 |x::t=>if x.node=0 then -1 else if 0<=ZA e t then ZA e t else if JS x e=true then(t.length:Int) else -1
def ZB(e:Cv)(l:List Cv):List Cv:=(if e.node≠0/\3<=jA e l.reverse then Bm l (ZA e l.reverse).toNat else l)++[e]
def H7(l:List Cv):List Cv:=l.take (dT l-1).toNat
structure BS where
 a:Ar
 CQ:Int
 AV:List Item
 Bd:List Cv
 mode:Int
 ZC:Int
 tm:List Int
 head:Int
 OW:Int
 Nw:Bool
 ctx:Item
 fs:Bool
 Fl:Bool
 oT:Au
 skip:Bool
 sw:Int
 stop:Bool
def aP(s:List Au)(A:Ar)(h:Int):Prop:=(A.nd h).kind=4/\(A.nd h).AY=1/\(A.nd h).name∈s
instance(s:List Au)(A:Ar)(h:Int):Decidable (aP s A h):=by unfold aP;infer_instance
abbrev HE:Au:=aLK
abbrev dU:Au:=aL0
abbrev dV:Au:=aLW
abbrev dW:Au:=aL1
abbrev wTr:Au:=[116,114]
abbrev wP:Au:=[112]
def H8:List Au:=[HE,dU,dV,dW,wTr]
namespace BS
def Lo(b:BS):Int×Int:=
 let d:=AR (BK [BG]) b.AV
 let c:=AR (BK [HE]) b.AV
 if c<d then((Ft b.AV d).node,0) else if c<0 then((Ft b.AV 0).node,0) else
 let t:=(Ft b.AV c).node
 if(b.a.nd t).DA≠0 then((b.a.nd t).DA,t) else((Ft b.AV (max (c-1) 0)).node,0)
def place(b:BS)(t:Int):Int×Int:=
 if t=0/\b.AV=[] then(b.CQ,0) else
 let t':=if t=0 then(Hz b.AV).node else t
 let c:=if b.Fl=true/\aP H8 b.a t' then b.Lo else(t',0)
 if(b.a.nd c.1).cont≠0 then((b.a.nd c.1).cont,0) else c
end BS
open Classical in
def Ar.Hc(A:Ar)(h p bf:Int):Ar:=if(A.nd p).kind=1/\(A.nd h).kind=4/\(∃k∈(A.nd p).AX,(A.nd k).kind=4) then A else A.HP p h bf
namespace BS
def Ku(b:BS)(p:Int):Int:=if(b.a.nd p).cont≠0 then(if(b.a.nd (b.a.nd p).cont).CQ≠0 then(b.a.nd (b.a.nd p).cont).CQ else b.CQ) else if(b.a.nd p).CQ≠0 then(b.a.nd p).CQ else b.CQ
def Ir(sp:Int):Prop:=0<=sp/\sp<=7
instance(sp:Int):Decidable (Ir sp):=by unfold Ir;infer_instance
def Lp(sp:Int)(nm:Au):Au:=if sp=2 then Dl nm LS else nm
def II(b:BS)(nm:Au)(at_:List A0)(sp:Int):Item:=if Ir sp then⟨b.a.len+1,sp,Lp sp nm,Hs sp (Lp sp nm) (at_.map (Dt sp))⟩ else Item.zero
def E1(b:BS)(nm:Au)(at_:List A0)(sp p:Int):BS:=if Ir sp then{b with a:=b.a.elem (b.Ku p) sp (Lp sp nm) (at_.map (Dt sp))} else b
def U5(b:BS)(sp:Int):Int:=if Ir sp then b.a.len+1 else 0
def EV(b:BS)(nm:Au)(at_:List A0)(sp:Int):BS:=
 if Ir sp then
  let c:=b.place 0
  let b1:=b.E1 nm at_ sp c.1
  {b1 with a:=b1.a.Hc (b.a.len+1) c.1 c.2,AV:=b1.AV++[b.II nm at_ sp]}
 else b
def Kv(b:BS)(nm:Au)(at_:List A0):BS:=
 let b1:=b.EV nm at_ 1
 {b1 with Bd:=ZB ⟨b.a.len+1,nm,at_⟩ b1.Bd}
end BS
def Kw(r:Int):Au:=
 if 0<=r/\r<128 then[UInt8.ofNat r.toNat]
 else if 128<=r/\r<2048 then[UInt8.ofNat (192+r.toNat/64),UInt8.ofNat (128+r.toNat%64)]
 else if 2048<=r/\r<65536/\¬(55296<=r/\r<57344) then[UInt8.ofNat (224+r.toNat/4096),UInt8.ofNat (128+r.toNat/64%64),UInt8.ofNat (128+r.toNat%64)]
 else if 65536<=r/\r<=1114111 then[UInt8.ofNat (240+r.toNat/262144),UInt8.ofNat (128+r.toNat/4096%64),UInt8.ofNat (128+r.toNat/64%64),UInt8.ofNat (128+r.toNat%64)]
 else[239,191,189]
def QS(l:List Int)(bf:Int):Option Int:=if bf=0 then l.getLast? else(l.takeWhile λk=>decide (k≠bf)).getLast?
def Ar.PT(A:Ar)(h:Int)(s:Au):Ar:=A.set h {A.nd h with data:=s}
def Ar.Kx(A:Ar)(h:Int)(l:List A0):Ar:=A.set h {A.nd h with AE:=Cp l}
namespace BS
def OX(A:Ar)(s:Au)(p bf:Int):Ar:=
 if(A.nd p).kind=4\/(A.nd p).kind=2 then
  match QS (A.nd p).AX bf with
  |some t=>if(A.nd t).kind=5 then A.PT t ((A.nd t).data++s) else(A.add {kind:=5,CQ:=(A.nd p).CQ,data:=s}).Hc (A.len+1) p bf
  |none=>(A.add {kind:=5,CQ:=(A.nd p).CQ,data:=s}).Hc (A.len+1) p bf
 else A
def uG(b:BS)(r:Int):BS:={b with a:=OX b.a (Kw r) (b.place 0).1 (b.place 0).2}
def Hu(A:Ar)(s:Au)(p bf:Int):Ar:=
 if MN (A.nd p).kind then(A.add {kind:=6,CQ:=(A.nd p).CQ,data:=s}).Hc (A.len+1) p bf else A
def Mu(b:BS)(s:Au)(p:Int):BS:={b with a:=if p=0 then Hu b.a s (b.place 0).1 (b.place 0).2 else Hu b.a s p 0}
def PU(b:BS)(nm:Au)(at_:List A0)(st:Int):BS:=let b1:=b.EV nm at_ 1;{b1 with sw:=st,ZC:=b1.mode,mode:=8}
def Jd(b:BS):BS:=if OQ (BK [wP]) (Nt 3) b.AV.reverse then{b with AV:=D9 Ee (BK [wP]) (D9 (Ht wP) Ee b.AV)} else b
def settled(b:BS)(e:Cv):Bool:=decide (e.node=0\/0<=AR (BL e.node) b.AV)
def JB:List Cv->BS->List Cv×BS
 |[],b=>([],b)
 |e::l,b=>let r:=JB l (b.EV e.name e.AE 1);({e with node:=b.a.len+1}::r.1,r.2)
def MS(b:BS):Nat:=(AR b.settled b.Bd+1).toNat
def EJ(b:BS):BS:=let r:=JB (b.Bd.drop b.MS) b;{r.2 with Bd:=b.Bd.take b.MS++r.1}
def Dx(b:BS)(nm:Au):BS:=match b.AV.reverse.find? λi=>BK [nm] i||IG i with
 |some i=>if BK [nm] i then{b with AV:=FM i.node (D9 (Ht nm) Ee b.AV)} else b
 |none=>b
def NY(l:List Item):Int:=match l.reverse.find? λi=>BK [BG] i||BK [HE] i with
 |some i=>if BK [BG] i then 16 else 17
 |none=>16
end BS
abbrev uH:Au:=aLM
abbrev oU:Au:=aLV
abbrev ċ:Au:=[98,111,100,121]
abbrev oV:Au:=aMj
abbrev Mv:Au:=aMf
abbrev ju:Au:=[116,100]
abbrev jv:Au:=[116,104]
abbrev T5:Au:=[104,101,97,100]
abbrev Fu:Au:=aLN
def IJ:List (Au×Int):=[(wTr,14),(dU,13),(dW,13),(dV,13),(uH,11),(oU,12),(HE,9),(ċ,7),(oV,20)]
namespace BS
def Mw(b:BS)(x:Item)(k:Nat):Option Int:=
 if x.AY=1 then
  match IJ.find? λr=>decide (r.1=x.name) with
  |some r=>some r.2
  |none=>
   if x.name=Mv then some (NY (b.AV.take k))
   else if(x.name=ju\/x.name=jv)/\0<k then some 15
   else if x.name=BG then some (b.tm.getLast?.getD 7)
   else if x.name=T5/\0<k then some 4
   else if x.name=Fu then some (if b.head=0 then 3 else 6)
   else if k=0 then some 7 else none
 else if k=0 then some 7 else none
def F9(b:BS)(k:Nat):Item:=if k=0/\b.Nw=true then b.ctx else b.AV.getD k Item.zero
def QT(b:BS):Nat->Int
 |0=>7
 |k+1=>match b.Mw (b.F9 k) k with
  |some m=>m
  |none=>b.QT k
def Kz(b:BS):BS:={b with mode:=b.QT b.AV.length}
def plain(l:List A0):List A0:=l.map λa=>⟨0,a.name,a.value⟩
def Io(b:BS)(l:List A0)(h:Int):BS:=if(b.a.nd h).kind=4 then{b with a:=b.a.Kx h ((b.a.nd h).AE++plain l)} else b
def Dm(b:BS):BS:=
 if AR (BK [BG]) b.AV<0 then b
 else Kz {b with AV:=D9 Ee (BK [BG]) (D9 DI Ee b.AV),Bd:=H7 b.Bd,tm:=b.tm.dropLast}
def UE(b:BS):BS:=if b.AV.length<2 then b else{b with AV:=b.AV.take (b.AV.length-1)}
def uI(b:BS):Item:=if b.AV.length<2 then Item.zero else Hz b.AV
end BS
def Cv.zero:Cv:=⟨0,[],[]⟩
namespace BS
def Gj(blk anc:Int)(far i:Nat)(b:BS)(l:Int)(m:Nat):BS×Int×Nat:=
 let x:=b.AV.getD i Item.zero
 let e:=F7 x.node b.Bd
 if e<0 then({b with AV:=Bm b.AV i},l,m)
 else if i+3<far then({b with Bd:=Bm b.Bd e.toNat,AV:=Bm b.AV i},l,if e.toNat<m then m-1 else m)
 else
  let c:=b.Bd.getD e.toNat Cv.zero
  let n:=b.II c.name c.AE 1
  let b1:=b.E1 c.name c.AE 1 anc
  ({b1 with a:=b1.a.HP n.node l 0,AV:=b1.AV.set i n,Bd:=b1.Bd.set e.toNat {c with node:=n.node}},n.node,if l=blk then e.toNat+1 else m)
def Lq(blk anc:Int)(far k:Nat):Nat->BS×Int×Nat->BS×Int×Nat
 |0,s=>s
 |c+1,s=>Lq blk anc far k c (Gj blk anc far (k+(c+1)) s.1 s.2.1 s.2.2)
def C1(A:Ar)(n:Int)(l:List Int):Ar:=l.foldl (λA x=>A.HP n x 0) A
def Hd(fe:Cv)(blk anc:Int)(s:BS×Int×Nat):BS:=
 let b1:=s.1
 let b:=b1.place anc
 let b2:={b1 with a:=b1.a.Hc s.2.1 b.1 b.2}
 let n:=b2.II fe.name fe.AE 1
 let b3:=b2.E1 fe.name fe.AE 1 blk
 let c:=F7 fe.node b3.Bd
 let mk:=if c.toNat<s.2.2 then s.2.2 -1 else s.2.2
 let ac:=Bm b3.Bd c.toNat
 let op:=Dg fe.node b3.AV
 let ip:=GI (AR (BL blk) op+1) op.length
 {b3 with a:=(C1 b3.a n.node (b3.a.nd blk).AX).HP blk n.node 0,Bd:=ac.take (FN mk ac.length)++{fe with node:=n.node}::ac.drop (FN mk ac.length),AV:=op.take ip++n::op.drop ip}
def round(b:BS)(nm:Au):Bool×BS:=
 let f:=GA nm b.Bd
 if f<0 then(false,b.Dx nm) else
 let fe:=b.Bd.getD f.toNat Cv.zero
 let k:=AR (BL fe.node) b.AV
 if k<0 then(false,{b with Bd:=Bm b.Bd f.toNat}) else
 if k=0\/OQ (BL fe.node) (Nt 1) b.AV.reverse=false then(false,b) else
 let far:=D8 fe.node b.AV
 if far<0 then(false,{b with AV:=FM fe.node b.AV,Bd:=Bm b.Bd f.toNat}) else
 let blk:=(b.AV.getD far.toNat Item.zero).node
 let anc:=(b.AV.getD (k.toNat-1) Item.zero).node
 (true,Hd fe blk anc (Lq blk anc far.toNat k.toNat (far.toNat-1 -k.toNat) (b,blk,f.toNat)))
def E2:Nat->BS->Au->BS
 |0,b,_=>b
 |n+1,b,nm=>let r:=b.round nm;if r.1 then E2 n r.2 nm else r.2
def H9(b:BS)(nm:Au):BS:=
 if BK [nm] (Hz b.AV)/\F7 (Hz b.AV).node b.Bd<0 then b.UE else E2 8 b nm
end BS
structure Le(A A':Ar):Prop where
 has:∀h,A.has h->A'.has h
 kind:∀h,A.has h->(A'.nd h).kind=(A.nd h).kind
 AY:∀h,A.has h->(A'.nd h).AY=(A.nd h).AY
 name:∀h,A.has h->(A'.nd h).name=(A.nd h).name
section
variable{A A' A'':Ar}{h k e p n b:Int}{x:Ek}
def Le.refl:Le A A:=⟨λ_ h=>h,λ_ _=>rfl,λ_ _=>rfl,λ_ _=>rfl⟩
def Le.trans(h1:Le A A')(h2:Le A' A''):Le A A'':=⟨λh a=>h2.has h (h1.has h a),λh a=>by rw[h2.kind h (h1.has h a),h1.kind h a],λh a=>by rw[h2.AY h (h1.has h a),h1.AY h a],λh a=>by rw[h2.name h (h1.has h a),h1.name h a]⟩
def Le.jw(h1:∀h,A.has h->A'.has h)(h2:∀h,A.has h->A'.nd h=A.nd h):Le A A':=⟨h1,λh a=>by rw[h2 h a],λh a=>by rw[h2 h a],λh a=>by rw[h2 h a]⟩
def T6(a:A.has h):h≠A.len+1:=λe=>OV (A:=A) (e▸a)
def KA(a:A.has h):(A.add x).nd h=A.nd h:=by rw[JT,Ac (T6 a)]
def dX:Le A (A.add x):= .jw (λh a=>DU.2 (.inl a)) λh a=>KA a
def XA(h1:x.kind=(A.nd h).kind)(h2:x.AY=(A.nd h).AY)(h3:x.name=(A.nd h).name):Le A (A.set h x):=by
 refine⟨λk hk=>HU.2 hk,?_,?_,?_⟩<;>intro k hk<;>rw[IH]<;>split;.rename_i e;rw[e.1,h1]
 .rfl
 .rename_i e;rw[e.1,h2]
 .rfl
 .rename_i e;rw[e.1,h3]
 .rfl
def jB{l:List Int}:Le A (A.set h {A.nd h with AX:=l}):=XA rfl rfl rfl
def jC:Le A (A.set h {A.nd h with DA:=p}):=XA rfl rfl rfl
def sk:Le A (A.cut n):=by
 unfold Ar.cut;simp only;split;.exact .refl
 .exact Le.trans jB jC
def sm:Le A (A.MZ p n b):=Le.trans jB jC
def PV:Le A (A.HP p n b):=by unfold Ar.HP;split;exact sk.trans sm;exact .refl
def IK:Le A (A.Hc n p b):=by unfold Ar.Hc;split;exact .refl;exact PV
def NZ(ok:DS A e):DS (A.Hc n p b) e:=by unfold Ar.Hc;split;exact ok;exact PS ok
def ZD{d sp:Int}{nm:Au}{l:List A0}(a:A.has h):(A.elem d sp nm l).has h/\(A.elem d sp nm l).nd h=A.nd h:=by
 have hne:=T6 a;unfold Ar.elem;simp only
 split;.have h1:(A.add {kind:=4,CQ:=d,AY:=sp,name:=nm,AE:=Cp l}).has h:=DU.2 (.inl a);refine⟨HU.2 (DU.2 (.inl (LX h1))),?_⟩;rw[IH,Ac (λe=>hne e.1),KA (LX h1),T2 (.inl (T6 h1)),KA a]
 .exact⟨DU.2 (.inl a),KA a⟩
def ZE{d sp:Int}{nm:Au}{l:List A0}:(A.elem d sp nm l).has (A.len+1)/\((A.elem d sp nm l).nd (A.len+1)).kind=4/\((A.elem d sp nm l).nd (A.len+1)).AY=sp/\((A.elem d sp nm l).nd (A.len+1)).name=nm/\((A.elem d sp nm l).nd (A.len+1)).AX=[]/\((A.elem d sp nm l).nd (A.len+1)).DA=0/\((A.elem d sp nm l).nd (A.len+1)).CQ=d/\((A.elem d sp nm l).nd (A.len+1)).AE=Cp l:=by
 unfold Ar.elem;simp only
 split;.have h1:(A.add {kind:=4,CQ:=d,AY:=sp,name:=nm,AE:=Cp l}).has (A.len+1):=DU.2 (.inr rfl);have h2:=DU (x:={kind:=2,CJ:=A.len+1,CQ:=(A.add {kind:=4,CQ:=d,AY:=sp,name:=nm,AE:=Cp l}).GM d}).2 (.inl (LX (h:=d) h1));rw[HU,IH,Ad ⟨rfl,h2⟩];exact⟨h2,rfl,rfl,rfl,rfl,rfl,rfl,rfl⟩
 .rw[JT,Ad rfl];exact⟨DU.2 (.inr rfl),rfl,rfl,rfl,rfl,rfl,rfl,rfl⟩
def Ss{d sp:Int}{nm:Au}{l:List A0}:Le A (A.elem d sp nm l):= .jw (λ_ h=>(ZD h).1) λ_ h=>(ZD h).2
def ZF{l:List A0}(ok:DS A e)(c:A.has h)(hk:(A.nd h).kind=4)(hl:∀a∈l,0<=a.AY/\a.AY<=7):DS (A.Kx h l) e:=by have hx:=ok.Nv h c;refine uE ok c ⟨hx.k,hx.AX,λh=>absurd hk h,hx.nm,hx.dt,hx.data,hx.CS,hx.sp,λa ha=>hl a (Zu ha),Wb l,hx.MM,hx.K4,hx.root,hx.Zv⟩ rfl rfl rfl ⟨(ok.CQ h c).1,(ok.CQ h c).2,ok.TX h c⟩ rfl rfl λd=>d
def dY{s:Au}(ok:DS A e)(a:A.has h)(hk:(A.nd h).kind=5\/(A.nd h).kind=6):DS (A.PT h s) e:=by have hx:=ok.Nv h a;refine uE ok a ⟨hx.k,hx.AX,hx.elem,hx.nm,hx.dt,λf d=>by have:(A.nd h).kind≠5:=f;have:(A.nd h).kind≠6:=d;omega,hx.CS,hx.sp,hx.uA,hx.Cp,hx.MM,hx.K4,hx.root,hx.Zv⟩ rfl rfl rfl ⟨(ok.CQ h a).1,(ok.CQ h a).2,ok.TX h a⟩ rfl rfl λc=>c
def XB{kd d:Int}{s:Au}(ok:DS A e)(he:e≠A.len+1)(hd:A.has d/\(A.nd d).kind=1)(hk:kd=5\/kd=6):DS (A.add {kind:=kd,CQ:=d,data:=s}) e:=by
 refine T0 ok ?_ (.inr ⟨Ew,hd⟩) rfl rfl rfl rfl (λh=>?_);.constructor<;>simp[Cp,Gi]<;>omega
 .have:=h.1;simp at this;omega
def dZ{s:Au}:Le A (A.PT h s):=XA rfl rfl rfl
def ZG{l:List A0}:Le A (A.Kx h l):=XA rfl rfl rfl
def eA{sp:Int}{a:A0}:0<=(Dt sp a).AY/\(Dt sp a).AY<=7:=by
 unfold Dt;split
 .split
  .rename_i s m he;have:∀x∈fT,0<=x.2.1/\x.2.1<=7:=Br;unfold Im at he;cases hf:fT.find? λx=>decide (K0 sp a.name=x.1) with
   |none=>rw[hf] at he;cases he
   |some y=>rw[hf] at he;have:=this y (Ob hf);simp at he;rw[he] at this;exact this
  .exact⟨L4 0,Av⟩
 .exact⟨L4 0,Av⟩
end
structure EF(b:BS):Prop where
 ok:DS b.a 0
 CQ:b.a.has b.CQ/\(b.a.nd b.CQ).kind=1
 op:∀i∈b.AV,b.a.has i.node/\(b.a.nd i.node).kind=4/\(b.a.nd i.node).AY=i.AY/\(b.a.nd i.node).name=i.name
 yS:(b.AV.map Item.node).Nodup
 ac:∀e∈b.Bd,e.node=0\/(b.a.has e.node/\(b.a.nd e.node).kind=4)
 qL:((b.Bd.map Cv.node).filter λn=>decide (n≠0)).Nodup
structure BA(b:BS):Prop where
 ok:DS b.a 0
 CQ:b.a.has b.CQ/\(b.a.nd b.CQ).kind=1
def EF.ba{b:BS}(o:EF b):BA b:=⟨o.ok,o.CQ⟩
instance{b:BS}:Coe (EF b) (BA b):=⟨EF.ba⟩
section
variable{b:BS}{t:Int}
def bz{A A':Ar}{l:List Item}(hl:Le A A')(h:∀i∈l,A.has i.node/\(A.nd i.node).kind=4/\(A.nd i.node).AY=i.AY/\(A.nd i.node).name=i.name):∀i∈l,A'.has i.node/\(A'.nd i.node).kind=4/\(A'.nd i.node).AY=i.AY/\(A'.nd i.node).name=i.name:=by intro i hi;have:=h i hi;rw[hl.kind _ this.1,hl.AY _ this.1,hl.name _ this.1];exact⟨hl.has _ this.1,this.2⟩
def jD{A A':Ar}{l:List Cv}(hl:Le A A')(h:∀e∈l,e.node=0\/(A.has e.node/\(A.nd e.node).kind=4)):∀e∈l,e.node=0\/(A'.has e.node/\(A'.nd e.node).kind=4):=by
 intro e he;rcases h e he with h|h
 .exact .inl h
 .rw[hl.kind _ h.1];exact .inr ⟨hl.has _ h.1,h.2⟩
def EF.Ka(o:EF b){A:Ar}(ok:DS A 0)(hl:Le b.a A):EF {b with a:=A}:=
 ⟨ok,by rw[hl.kind _ o.CQ.1];exact⟨hl.has _ o.CQ.1,o.CQ.2⟩,bz hl o.op,o.yS,jD hl o.ac,o.qL⟩
def EF.aB5(o:EF b){l:List Item}(h1:∀i∈l,i∈b.AV)(h2:(l.map Item.node).Nodup):EF {b with AV:=l}:=
 ⟨o.ok,o.CQ,λi hi=>o.op i (h1 i hi),h2,o.ac,o.qL⟩
def EF.XC(o:EF b){l:List Item}(h1:List.Sublist l b.AV):EF {b with AV:=l}:=o.aB5 (λ_ hi=>h1.subset hi) (o.yS.sublist (h1.map _))
def EF.eB(o:EF b){l:List Cv}(h1:List.Sublist l b.Bd):EF {b with Bd:=l}:=
 ⟨o.ok,o.CQ,o.op,o.yS,λe he=>o.ac e (h1.subset he),o.qL.sublist ((h1.map _).filter _)⟩
def EW{p q:Item->Bool}{l:List Item}:List.Sublist (D9 p q l) l:=by
 have key:∀r:List Item,List.Sublist (MK p q r) r:=by
  intro r;induction r with
  |nil=>exact AI _
  |cons x r ih=>
   cases r with
   |nil=>exact AI _
   |cons y r=>
    rw[MK];split;.exact AI _
    .split;.exact Ra _ _
     .exact ih.trans (Ra _ _)
 have:=(key l.reverse).reverse;rwa [IQ] at this
def He{n:Int}{l:List Item}:List.Sublist (FM n l) l:=by unfold FM;split;exact AI _;exact EW
def CN{U:Type}{l:List U}{k:Nat}:List.Sublist (Bm l k) l:=by
 unfold Bm;conv=>rhs;rw[<-Cd k l]
 refine List.Sublist.append (AI _) ?_;rw[<-Eb];exact aG9 _ _
def K6{n:Int}{l:List Item}:List.Sublist (Dg n l) l:=by unfold Dg;split;exact AI _;exact CN
def KB{l:List Item}{i:Int}(h0:0<=i)(h1:i<l.length):Ft l i∈l:=by unfold Ft;rw[Ad h0,Ay,Ak Ab];exact AP _
def Mx{U:Type}{q:U->Bool}{l:List U}:AR q l<l.length∧-1<=AR q l:=by rcases DF (q:=q) (l:=l) with⟨h1,_⟩|⟨n,hn,h1,_⟩<;>rw[h1]<;>omega
def oW{l:List Item}(h:l≠[]):Hz l∈l:=by have:0<l.length:=FQ.2 h;exact KB Ab Ab
def b_(o:EF b)(hn:b.AV≠[]):b.a.has b.Lo.1/\(b.Lo.2≠0->b.a.has b.Lo.2/\(b.a.nd b.Lo.2).DA=b.Lo.1):=by
 have hl:0<b.AV.length:=FQ.2 hn;have h1:=Mx (q:=BK [BG]) (l:=b.AV);have h2:=Mx (q:=BK [HE]) (l:=b.AV);unfold BS.Lo;simp only
 split;.exact⟨(o.op _ (KB Ab Ab)).1,λh=>absurd rfl h⟩
 .split;.exact⟨(o.op _ (KB Ab Ab)).1,λh=>absurd rfl h⟩
  .have h3:=o.op _ (KB (l:=b.AV) (i:=AR (BK [HE]) b.AV) Ab Ab);split;.rename_i hp;exact⟨(o.ok.DA _ h3.1 hp).1,λ_=>⟨h3.1,rfl⟩⟩
   .exact⟨(o.op _ (KB Ab Ab)).1,λh=>absurd rfl h⟩
def ZH(o:EF b)(ht:t=0\/(b.a.has t/\b.AV≠[])):b.a.has (b.place t).1/\((b.place t).2≠0->b.a.has (b.place t).2/\(b.a.nd (b.place t).2).DA=(b.place t).1):=by
 unfold BS.place;simp only
 split;.exact⟨o.CQ.1,λh=>absurd rfl h⟩
 .rename_i h0;have hn:b.AV≠[]:=by
   rcases ht with h|h
   .intro h2;exact h0 ⟨h,h2⟩
   .exact h.2
  have h1:b.a.has (if t=0 then(Hz b.AV).node else t):=by
   split;.exact(o.op _ (oW hn)).1
   .rename_i h2;exact(ht.resolve_left h2).1
  generalize(if t=0 then(Hz b.AV).node else t)=t' at h1;have h2:b.a.has (if b.Fl=true/\aP H8 b.a t' then b.Lo else(t',0)).1/\((if b.Fl=true/\aP H8 b.a t' then b.Lo else(t',0)).2≠0->b.a.has (if b.Fl=true/\aP H8 b.a t' then b.Lo else(t',0)).2/\(b.a.nd (if b.Fl=true/\aP H8 b.a t' then b.Lo else(t',0)).2).DA=(if b.Fl=true/\aP H8 b.a t' then b.Lo else(t',0)).1):=by
   split;.exact b_ o hn
   .exact⟨h1,λh=>absurd rfl h⟩
  generalize(if b.Fl=true/\aP H8 b.a t' then b.Lo else(t',0))=c at h2;split;.rename_i hc;exact⟨(o.ok.cont _ h2.1 hc).1,λh=>absurd rfl h⟩
  .exact h2
def QU(o:BA b){p:Int}:b.a.has (b.Ku p)/\(b.a.nd (b.Ku p)).kind=1:=by
 unfold BS.Ku;by_cases hp:b.a.has p
 .have key:∀q,b.a.has q->b.a.has (if(b.a.nd q).CQ≠0 then(b.a.nd q).CQ else b.CQ)/\(b.a.nd (if(b.a.nd q).CQ≠0 then(b.a.nd q).CQ else b.CQ)).kind=1:=by
   intro q hq;split;.exact o.ok.CQ q hq
   .exact o.CQ
  split;.rename_i hc;exact key _ (o.ok.cont p hp hc).1
  .exact key p hp
 .rw[LW hp];exact o.CQ
variable{nm:Au}{at_:List A0}{sp p:Int}
structure uJ(b b1:BS)(i:Item):Prop where
 has:b1.a.has i.node
 kind:(b1.a.nd i.node).kind=4
 AY:(b1.a.nd i.node).AY=i.AY
 name:(b1.a.nd i.node).name=i.name
 new:¬b.a.has i.node
def RL(o:EF b)(hs:BS.Ir sp):EF (b.E1 nm at_ sp p)/\uJ b (b.E1 nm at_ sp p) (b.II nm at_ sp)/\Le b.a (b.E1 nm at_ sp p).a:=by
 have hd:=QU o.ba (p:=p);unfold BS.E1 BS.II;rw[Ad hs,Ad hs];have ok:=i7 (sp:=sp) (nm:=BS.Lp sp nm) (l:=at_.map (Dt sp)) o.ok hd hs (by intro a ha;obtain⟨c,_,rfl⟩:=A3.1 ha;exact eA)
 have hn:=ZE (A:=b.a) (d:=b.Ku p) (sp:=sp) (nm:=BS.Lp sp nm) (l:=at_.map (Dt sp));exact⟨o.Ka ok Ss,⟨hn.1,hn.2.1,hn.2.2.1,hn.2.2.2.1,OV⟩,Ss⟩
def sn(o:BA b)(hs:BS.Ir sp):BA (b.E1 nm at_ sp p):=by
 have hd:=QU o (p:=p);unfold BS.E1;rw[Ad hs];have ok:=i7 (sp:=sp) (nm:=BS.Lp sp nm) (l:=at_.map (Dt sp)) o.ok hd hs (by intro a ha;obtain⟨c,_,rfl⟩:=A3.1 ha;exact eA)
 have l:Le b.a _:=Ss (A:=b.a) (d:=b.Ku p) (sp:=sp) (nm:=BS.Lp sp nm) (l:=at_.map (Dt sp));exact⟨ok,by rw[l.kind _ o.CQ.1];exact⟨l.has _ o.CQ.1,o.CQ.2⟩⟩
def N0(o:EF b){b1:BS}{i:Item}(f:uJ b b1 i):i.node∉b.AV.map Item.node:=by intro h;obtain⟨j,hj,e⟩:=A3.1 h;exact f.new (e▸(o.op j hj).1)
def QV(o:EF b){b1:BS}{i:Item}(f:uJ b b1 i):i.node∉b.Bd.map Cv.node:=by
 intro h;obtain⟨j,hj,e⟩:=A3.1 h;rcases o.ac j hj with h1|h1
 .have:=f.has.1;omega
 .exact f.new (e▸h1.1)
def oX{U:Type}[DecidableEq U]{l:List U}{k:Nat}{x:U}(h:l.Nodup)(hx:x∉l):(l.take k++x::l.drop k).Nodup:=by
 have e:=Cd k l;rw[BH];rw[<-e,BH] at h;refine⟨h.1,BC.2 ⟨λh1=>hx (Bc h1),h.2.1⟩,?_⟩;rintro a ha c hc rfl;rcases Az.1 hc with rfl|hc
 .exact hx (AS ha)
 .exact h.2.2 _ ha _ hc rfl
def eC{U:Type}[DecidableEq U]{l:List U}{k:Nat}{x:U}(h:l.Nodup)(hx:x∉l):(l.set k x).Nodup:=by
 rw[Cc];split
 .have e:=Cd k l;rw[BH];rw[<-e,BH] at h;have hd:List.Sublist (l.drop (k+1)) (l.drop k):=by rw[<-Eb];exact aG9 _ _
  refine⟨h.1,BC.2 ⟨λh1=>hx (Bc h1),h.2.1.sublist hd⟩,?_⟩;rintro a ha c hc rfl;rcases Az.1 hc with rfl|hc
  .exact hx (AS ha)
  .exact h.2.2 _ ha _ (hd.subset hc) rfl
 .exact h
def Wc{U Z:Type}(f:U->Z)(l:List U)(k:Nat)(x:U):(l.take k++x::l.drop k).map f=(l.map f).take k++f x::(l.map f).drop k:=Av
def EF.so(o:EF b){i:Item}{k:Nat}(h1:b.a.has i.node/\(b.a.nd i.node).kind=4/\(b.a.nd i.node).AY=i.AY/\(b.a.nd i.node).name=i.name)(h2:i.node∉b.AV.map Item.node):EF {b with AV:=b.AV.take k++i::b.AV.drop k}:=by
 refine⟨o.ok,o.CQ,?_,by show((b.AV.take k++i::b.AV.drop k).map Item.node).Nodup;rw[Wc];exact oX o.yS h2,o.ac,o.qL⟩;intro j hj;rcases An.1 hj with hj|hj
 .exact o.op j (AS hj)
 .rcases Az.1 hj with rfl|hj
  .exact h1
  .exact o.op j (Bc hj)
def EF.uK(o:EF b){i:Item}{k:Nat}(h1:b.a.has i.node/\(b.a.nd i.node).kind=4/\(b.a.nd i.node).AY=i.AY/\(b.a.nd i.node).name=i.name)(h2:i.node∉b.AV.map Item.node):EF {b with AV:=b.AV.set k i}:=by
 refine⟨o.ok,o.CQ,?_,by show((b.AV.set k i).map Item.node).Nodup;rw[F5];exact eC o.yS h2,o.ac,o.qL⟩;intro j hj;rcases Db hj with hj|rfl
 .exact o.op j hj
 .exact h1
def uL{l:List Int}{k:Nat}{x:Int}(h:(l.filter λn=>decide (n≠0)).Nodup)(hx:x∉l):((l.take k++x::l.drop k).filter λn=>decide (n≠0)).Nodup:=by
 have e:=Cd k l;rw[<-e,Eh,BH] at h;rw[Eh,BH];by_cases h0:x=0;.subst h0;simpa using h
 .rw[mf (by simpa using h0)];refine⟨h.1,BC.2 ⟨λh1=>hx (Bc ((CU.1 h1).1)),h.2.1⟩,?_⟩;rintro a ha c hc rfl;rcases Az.1 hc with rfl|hc
  .exact hx (AS (CU.1 ha).1)
  .exact h.2.2 _ ha _ hc rfl
def uM{l:List Int}{k:Nat}{x:Int}(h:(l.filter λn=>decide (n≠0)).Nodup)(hx:x∉l):((l.set k x).filter λn=>decide (n≠0)).Nodup:=by
 rw[Cc];split
 .have h2:(((l.take k++l.drop (k+1))).filter λn=>decide (n≠0)).Nodup:=h.sublist ((show List.Sublist (Bm l k) l from CN).filter _);rw[Eh,BH] at h2⊢;by_cases h0:x=0;.subst h0;simpa using h2
  .rw[mf (by simpa using h0)];refine⟨h2.1,BC.2 ⟨λh1=>hx (Bc ((CU.1 h1).1)),h2.2.1⟩,?_⟩;rintro a ha c hc rfl;rcases Az.1 hc with rfl|hc
   .exact hx (AS (CU.1 ha).1)
   .exact h2.2.2 _ ha _ hc rfl
 .exact h
def EF.sq(o:EF b){e:Cv}{k:Nat}(h1:e.node=0\/(b.a.has e.node/\(b.a.nd e.node).kind=4))(h2:e.node=0\/e.node∉b.Bd.map Cv.node):EF {b with Bd:=b.Bd.take k++e::b.Bd.drop k}:=by
 refine⟨o.ok,o.CQ,o.op,o.yS,?_,?_⟩
 .intro j hj;rcases An.1 hj with hj|hj
  .exact o.ac j (AS hj)
  .rcases Az.1 hj with rfl|hj
   .exact h1
   .exact o.ac j (Bc hj)
 .show(((b.Bd.take k++e::b.Bd.drop k).map Cv.node).filter _).Nodup;rw[Wc];rcases h2 with h2|h2
  .have:=o.qL;conv at this=>rw[<-Cd k (b.Bd.map Cv.node),Eh]
   rw[Eh,List.filter_cons_of_neg (by simp[h2])];exact this
  .exact uL o.qL h2
def EF.uN(o:EF b){e:Cv}{k:Nat}(h1:b.a.has e.node/\(b.a.nd e.node).kind=4)(h2:e.node∉b.Bd.map Cv.node):EF {b with Bd:=b.Bd.set k e}:=by
 refine⟨o.ok,o.CQ,o.op,o.yS,?_,?_⟩
 .intro j hj;rcases Db hj with hj|rfl
  .exact o.ac j hj
  .exact .inr h1
 .show(((b.Bd.set k e).map Cv.node).filter _).Nodup;rw[F5];exact uM o.qL h2
def QW(o:EF b):EF (b.EV nm at_ sp):=by
 unfold BS.EV;split
 .rename_i hs;obtain⟨d,f,hl⟩:=RL (nm:=nm) (at_:=at_) (p:=(b.place 0).1) o hs;have g:=d.Ka (NZ (n:=b.a.len+1) (p:=(b.place 0).1) (b:=(b.place 0).2) d.ok) IK;have hn:(b.II nm at_ sp).node=b.a.len+1:=by unfold BS.II;rw[Ad hs]
  have c:Le (b.E1 nm at_ sp (b.place 0).1).a ((b.E1 nm at_ sp (b.place 0).1).a.Hc (b.a.len+1) (b.place 0).1 (b.place 0).2):=IK;have ho:(b.E1 nm at_ sp (b.place 0).1).AV=b.AV:=by unfold BS.E1;rw[Ad hs]
  have:=g.so (i:=b.II nm at_ sp) (k:=b.AV.length) ⟨c.has _ f.has,by rw[c.kind _ f.has];exact f.kind,by rw[c.AY _ f.has];exact f.AY,by rw[c.name _ f.has];exact f.name⟩ (by simp only[ho];exact N0 o f);simp only[ho,B6,Hm] at this;simp only[ho];exact this
 .exact o
def T7{l:List Cv}{e:Cv}:∃l',List.Sublist l' l/\ZB e l=l'++[e]:=by
 unfold ZB;split;.exact⟨_,CN,rfl⟩
 .exact⟨_,AI _,rfl⟩
def cf:Le b.a (b.EV nm at_ sp).a:=by
 unfold BS.EV BS.E1;split;.exact Le.trans Ss IK
 .exact .refl
def ZI(hs:BS.Ir sp):(b.EV nm at_ sp).a.has (b.a.len+1)/\((b.EV nm at_ sp).a.nd (b.a.len+1)).kind=4:=by
 unfold BS.EV BS.E1;rw[Ad hs];simp only
 rw[Ad hs];have hn:=ZE (A:=b.a) (d:=b.Ku (b.place 0).1) (sp:=sp) (nm:=BS.Lp sp nm) (l:=at_.map (Dt sp));exact⟨IK.has _ hn.1,by rw[IK.kind _ hn.1];exact hn.2.1⟩
def Hg:(b.EV nm at_ sp).Bd=b.Bd:=by unfold BS.EV BS.E1;split<;>rfl
def KM:BS.Ir 1:=⟨Br,Br⟩
def cg(o:EF b):b.a.len+1∉b.Bd.map Cv.node:=by
 intro h;obtain⟨j,hj,e⟩:=A3.1 h;rcases o.ac j hj with h1|h1
 .unfold Ar.len at e;omega
 .exact OV (e▸h1.1)
def oY(o:EF b):EF (b.Kv nm at_):=by
 have d:=QW (nm:=nm) (at_:=at_) (sp:=1) o;unfold BS.Kv;simp only
 obtain⟨l',h1,h2⟩:=T7 (l:=(b.EV nm at_ 1).Bd) (e:=⟨b.a.len+1,nm,at_⟩);rw[h2];have c:=d.eB h1;have:=c.sq (e:=⟨b.a.len+1,nm,at_⟩) (k:=l'.length) (.inr (ZI KM)) (.inr (by intro h;rw[Hg] at h1;exact cg o ((h1.map Cv.node).subset h)))
 simpa using this
def EF.of_eq{c:BS}(o:EF b)(h1:c.a=b.a)(h2:c.CQ=b.CQ)(h3:c.AV=b.AV)(d:c.Bd=b.Bd):EF c:=
 ⟨h1▸o.ok,by rw[h1,h2];exact o.CQ,by rw[h1,h3];exact o.op,by rw[h3];exact o.yS,by rw[h1,d];exact o.ac,by rw[d];exact o.qL⟩
def eD{l:List Int}{bf t:Int}(h:QS l bf=some t):t∈l:=by
 unfold QS at h;split at h;.exact ſ h
 .exact(List.takeWhile_sublist _).subset (ſ h)
def oZ{A:Ar}{s:Au}{p bf:Int}(ok:DS A 0)(hp:A.has p):DS (BS.OX A s p bf) 0/\Le A (BS.OX A s p bf):=by
 have h0:(0:Int)≠A.len+1:=by unfold Ar.len;omega
 have ha:=NZ (n:=A.len+1) (p:=p) (b:=bf) (XB (s:=s) (kd:=5) ok h0 (ok.CQ p hp) (.inl rfl));have hl:Le A ((A.add {kind:=5,CQ:=(A.nd p).CQ,data:=s}).Hc (A.len+1) p bf):=Le.trans dX IK;unfold BS.OX;split
 .split
  .rename_i t ht;split;.rename_i hk;exact⟨dY ok (ok.Kq p hp _ (eD ht)).1 (.inl hk),dZ⟩
   .exact⟨ha,hl⟩
  .exact⟨ha,hl⟩
 .exact⟨ok,.refl⟩
def cj(o:EF b){r:Int}:EF (b.uG r):=by have h:=oZ (s:=Kw r) (bf:=(b.place 0).2) o.ok (ZH o (.inl rfl)).1;exact o.Ka h.1 h.2
def PX{A:Ar}{s:Au}{p bf:Int}(ok:DS A 0):DS (BS.Hu A s p bf) 0/\Le A (BS.Hu A s p bf):=by
 unfold BS.Hu;split
 .rename_i hk;have hp:A.has p:=by
   by_cases hp:A.has p;.exact hp
   .rw[LW hp] at hk;unfold MN at hk;simp at hk
  have h0:(0:Int)≠A.len+1:=by unfold Ar.len;omega
  exact⟨NZ (XB (s:=s) (kd:=6) ok h0 (ok.CQ p hp) (.inr rfl)),Le.trans dX IK⟩
 .exact⟨ok,.refl⟩
def eE(o:EF b){s:Au}{p:Int}:EF (b.Mu s p):=by
 unfold BS.Mu;split;.have h:=PX (s:=s) (p:=(b.place 0).1) (bf:=(b.place 0).2) o.ok;exact o.Ka h.1 h.2
 .have h:=PX (s:=s) (p:=p) (bf:=0) o.ok;exact o.Ka h.1 h.2
def eF(o:EF b){st:Int}:EF (b.PU nm at_ st):=(QW o).of_eq rfl rfl rfl rfl
def o7(o:EF b):EF b.Jd:=by
 unfold BS.Jd;split;.exact o.XC (EW.trans EW)
 .exact o
def Wd(o:EF b):EF (b.Dx nm):=by
 unfold BS.Dx;split
 .split;.exact o.XC (He.trans EW)
  .exact o
 .exact o
def PY(o:EF b):EF b.Kz:=o.of_eq rfl rfl rfl rfl
def uO(o:EF b){l:List A0}{h:Int}:EF (b.Io l h):=by
 unfold BS.Io;split
 .rename_i hk;have d:b.a.has h:=by
   by_cases hp:b.a.has h;.exact hp
   .rw[LW hp] at hk;simp at hk
  refine o.Ka (ZF o.ok d hk ?_) ZG;intro a ha;rcases An.1 ha with ha|ha
  .exact(o.ok.Nv h d).uA a ha
  .obtain⟨c,_,rfl⟩:=A3.1 ha;simp
 .exact o
def T8(o:EF b):EF b.Dm:=by
 unfold BS.Dm;split;.exact o
 .have a:=(o.XC (EW (p:=Ee) (q:=BK [BG]) (l:=D9 DI Ee b.AV) |>.trans EW)).eB (l:=H7 b.Bd) (EE _ _);exact(PY (b:={b with AV:=D9 Ee (BK [BG]) (D9 DI Ee b.AV),Bd:=H7 b.Bd,tm:=b.tm.dropLast}) (a.of_eq rfl rfl rfl rfl))
def uP(o:EF b):EF b.UE:=by
 unfold BS.UE;split;.exact o
 .exact o.XC (EE _ _)
structure Č(b:BS)(l:List Cv)(r:List Cv×BS):Prop where
 ok:EF r.2
 le:Le b.a r.2.a
 Bd:r.2.Bd=b.Bd
 len:r.1.length=l.length
 nodes:∀e∈r.1,r.2.a.has e.node/\(r.2.a.nd e.node).kind=4/\¬b.a.has e.node
 jx:(r.1.map Cv.node).Nodup
 č:r.1.map Cv.name=l.map Cv.name
def jE:∀{l:List Cv} {b:BS},EF b->Č b l (BS.JB l b)
 |[],b,o=>by
  refine⟨o,.refl,rfl,rfl,?_,?_,rfl⟩;.intro e he;cases he
  .exact IN
 |e::l,b,o=>by
  have d:=QW (nm:=e.name) (at_:=e.AE) (sp:=1) o;have r:=jE (l:=l) d;have hl:Le b.a (b.EV e.name e.AE 1).a:=cf;have hn:=ZI (b:=b) (nm:=e.name) (at_:=e.AE) KM;refine⟨r.ok,hl.trans r.le,r.Bd.trans Hg,by simp[BS.JB,r.len],?_,?_,by simp[BS.JB,r.č]⟩
  .intro c hc;rcases Az.1 hc with rfl|hc
   .exact⟨r.le.has _ hn.1,(r.le.kind _ hn.1).trans hn.2,OV⟩
   .have:=r.nodes c hc;exact⟨this.1,this.2.1,λh=>this.2.2 (hl.has _ h)⟩
  .simp only[BS.JB,Be,BC];refine⟨λh=>?_,r.jx⟩;obtain⟨c,hc,f⟩:=A3.1 h;exact(r.nodes c hc).2.2 (f▸hn.1)
def eI(o:EF b):EF b.EJ:=by
 have r:=jE (l:=b.Bd.drop b.MS) o;unfold BS.EJ;simp only
 have hc:=jD r.le o.ac;refine⟨r.ok.ok,r.ok.CQ,r.ok.op,r.ok.yS,?_,?_⟩
 .intro e he;rcases An.1 he with he|he
  .exact hc e (AS he)
  .exact .inr ⟨(r.nodes e he).1,(r.nodes e he).2.1⟩
 .show(((b.Bd.take b.MS++(BS.JB (b.Bd.drop b.MS) b).1).map Cv.node).filter _).Nodup;rw[BW,Eh,BH];refine⟨o.qL.sublist (((EE _ _).map _).filter _),r.jx.filter _,?_⟩;rintro a ha c JJ rfl;obtain⟨i,h1,rfl⟩:=A3.1 (CU.1 ha).1;obtain⟨g,h2,f⟩:=A3.1 (CU.1 JJ).1;have h3:=(r.nodes g h2);rw[f] at h3;rcases o.ac i (AS h1) with d|d
  .have:=h3.1.1;omega
  .exact h3.2.2 d.1
def ZJ(o:EF b){blk anc:Int}{far i:Nat}{l:Int}{m:Nat}(hl:b.a.has l):EF (BS.Gj blk anc far i b l m).1/\(BS.Gj blk anc far i b l m).1.a.has (BS.Gj blk anc far i b l m).2.1/\Le b.a (BS.Gj blk anc far i b l m).1.a:=by
 unfold BS.Gj;simp only
 split;.exact⟨o.XC CN,hl,.refl⟩
 .split;.exact⟨(o.eB CN).XC CN,hl,.refl⟩
  .generalize OY:b.Bd.getD (F7 (b.AV.getD i Item.zero).node b.Bd).toNat Cv.zero=c;obtain⟨g,f,D0⟩:=RL (nm:=c.name) (at_:=c.AE) (p:=anc) o KM;have d:Le (b.E1 c.name c.AE 1 anc).a ((b.E1 c.name c.AE 1 anc).a.HP (b.II c.name c.AE 1).node l 0):=PV;have Og:(b.E1 c.name c.AE 1 anc).AV=b.AV:=by unfold BS.E1;rw[Ad KM]
   have aQ:(b.E1 c.name c.AE 1 anc).Bd=b.Bd:=by unfold BS.E1;rw[Ad KM]
   have r:=g.Ka (PS (p:=(b.II c.name c.AE 1).node) (n:=l) (b:=0) g.ok) d;have q:=r.uK (i:=b.II c.name c.AE 1) (k:=i) ⟨d.has _ f.has,by rw[d.kind _ f.has];exact f.kind,by rw[d.AY _ f.has];exact f.AY,by rw[d.name _ f.has];exact f.name⟩ (by simp only[Og];exact N0 o f);have j:=q.uN (e:={c with node:=(b.II c.name c.AE 1).node}) (k:=(F7 (b.AV.getD i Item.zero).node b.Bd).toNat) ⟨d.has _ f.has,by rw[d.kind _ f.has];exact f.kind⟩ (by simp only[aQ];exact QV o f);exact⟨j,d.has _ f.has,D0.trans d⟩
def XD{blk anc:Int}{far k:Nat}:∀{c:Nat} {s:BS×Int×Nat},EF s.1->s.1.a.has s.2.1->EF (BS.Lq blk anc far k c s).1/\(BS.Lq blk anc far k c s).1.a.has (BS.Lq blk anc far k c s).2.1/\Le s.1.a (BS.Lq blk anc far k c s).1.a
 |0,s,o,h=>⟨o,h,.refl⟩
 |c+1,s,o,h=>by obtain⟨f,h1,l1⟩:=ZJ (blk:=blk) (anc:=anc) (far:=far) (i:=k+(c+1)) (m:=s.2.2) o h;obtain⟨d,h2,g⟩:=XD (blk:=blk) (anc:=anc) (far:=far) (k:=k) (c:=c) f h1;exact⟨d,h2,l1.trans g⟩
def K8{n:Int}:∀{l:List Int} {A:Ar},DS A 0->DS (BS.C1 A n l) 0/\Le A (BS.C1 A n l)
 |[],A,ok=>⟨ok,.refl⟩
 |x::l,A,ok=>by have h:=K8 (n:=n) (l:=l) (PS (p:=n) (n:=x) (b:=0) ok);exact⟨h.1,Le.trans PV h.2⟩
def o8{fe:Cv}{blk anc:Int}{s:BS×Int×Nat}(o:EF s.1):EF (BS.Hd fe blk anc s)/\Le s.1.a (BS.Hd fe blk anc s).a:=by
 unfold BS.Hd;simp only
 generalize uQ:s.1.place anc=c;have l1:Le s.1.a (s.1.a.Hc s.2.1 c.1 c.2):=IK;have g:=o.Ka (NZ (n:=s.2.1) (p:=c.1) (b:=c.2) o.ok) l1;generalize MR:({s.1 with a:=s.1.a.Hc s.2.1 c.1 c.2}:BS)=b2 at g;have Pw:b2.a=s.1.a.Hc s.2.1 c.1 c.2:=by rw[<-MR]
 have gS:b2.AV=s.1.AV:=by rw[<-MR]
 have JJ:b2.Bd=s.1.Bd:=by rw[<-MR]
 obtain⟨j,f,l3⟩:=RL (nm:=fe.name) (at_:=fe.AE) (p:=blk) g KM;have Og:(b2.E1 fe.name fe.AE 1 blk).AV=b2.AV:=by unfold BS.E1;rw[Ad KM]
 have aQ:(b2.E1 fe.name fe.AE 1 blk).Bd=b2.Bd:=by unfold BS.E1;rw[Ad KM]
 generalize yP:b2.E1 fe.name fe.AE 1 blk=b3 at*;generalize hn:b2.II fe.name fe.AE 1=n at*;obtain⟨jy,l4⟩:=K8 (n:=n.node) (l:=(b3.a.nd blk).AX) j.ok;have Ď:=PS (p:=blk) (n:=n.node) (b:=0) jy;have d:Le b3.a ((BS.C1 b3.a n.node (b3.a.nd blk).AX).HP blk n.node 0):=l4.trans PV;have q:=j.Ka Ď d;have fr:((BS.C1 b3.a n.node (b3.a.nd blk).AX).HP blk n.node 0).has n.node/\(((BS.C1 b3.a n.node (b3.a.nd blk).AX).HP blk n.node 0).nd n.node).kind=4/\(((BS.C1 b3.a n.node (b3.a.nd blk).AX).HP blk n.node 0).nd n.node).AY=n.AY/\(((BS.C1 b3.a n.node (b3.a.nd blk).AX).HP blk n.node 0).nd n.node).name=n.name:=
  ⟨d.has _ f.has,by rw[d.kind _ f.has];exact f.kind,by rw[d.AY _ f.has];exact f.AY,by rw[d.name _ f.has];exact f.name⟩
 have m:=(q.eB (l:=Bm b3.Bd (F7 fe.node b3.Bd).toNat) CN).XC (l:=Dg fe.node b3.AV) K6;have u:n.node∉(Dg fe.node b3.AV).map Item.node:=λh=>N0 g f ((K6.map Item.node).subset (by rw[Og] at h;exact h));have r:n.node∉(Bm b3.Bd (F7 fe.node b3.Bd).toNat).map Cv.node:=λh=>QV g f ((CN.map Cv.node).subset (by rw[aQ] at h;exact h));refine⟨(m.so (i:=n) fr u).sq (e:={fe with node:=n.node}) (.inr ⟨fr.1,fr.2.1⟩) (.inr r),?_⟩;rw[Pw] at l3;exact l1.trans (l3.trans d)
def ZK(o:EF b):EF (b.round nm).2/\Le b.a (b.round nm).2.a:=by
 have d:Le b.a (b.Dx nm).a:=by
  unfold BS.Dx;split;.split<;>exact .refl
  .exact .refl
 unfold BS.round;simp only
 split;.exact⟨Wd o,d⟩
 .split;.exact⟨o.eB CN,.refl⟩
  .split;.exact⟨o,.refl⟩
   .split;.exact⟨(o.XC He).eB CN,.refl⟩
    .rename_i hf;have aJg:D8 (b.Bd.getD (GA nm b.Bd).toNat Cv.zero).node b.AV<b.AV.length:=by
      rw[KZ];split;.omega
      .unfold FA;split;.rename_i k hk;have:=(Jk.1 hk).1;rw[A5] at this;omega
       .omega
     have hb:b.a.has (b.AV.getD (D8 (b.Bd.getD (GA nm b.Bd).toNat Cv.zero).node b.AV).toNat Item.zero).node:=by rw[Ay,Ak Ab];exact(o.op _ (AP _)).1
     obtain⟨f,h1,l1⟩:=XD (blk:=(b.AV.getD (D8 (b.Bd.getD (GA nm b.Bd).toNat Cv.zero).node b.AV).toNat Item.zero).node) (anc:=(b.AV.getD ((AR (BL (b.Bd.getD (GA nm b.Bd).toNat Cv.zero).node) b.AV).toNat-1) Item.zero).node) (far:=(D8 (b.Bd.getD (GA nm b.Bd).toNat Cv.zero).node b.AV).toNat) (k:=(AR (BL (b.Bd.getD (GA nm b.Bd).toNat Cv.zero).node) b.AV).toNat) (c:=(D8 (b.Bd.getD (GA nm b.Bd).toNat Cv.zero).node b.AV).toNat-1 -(AR (BL (b.Bd.getD (GA nm b.Bd).toNat Cv.zero).node) b.AV).toNat) (s:=(b,(b.AV.getD (D8 (b.Bd.getD (GA nm b.Bd).toNat Cv.zero).node b.AV).toNat Item.zero).node,(GA nm b.Bd).toNat)) o hb;have r:=o8 (fe:=b.Bd.getD (GA nm b.Bd).toNat Cv.zero) (blk:=(b.AV.getD (D8 (b.Bd.getD (GA nm b.Bd).toNat Cv.zero).node b.AV).toNat Item.zero).node) (anc:=(b.AV.getD ((AR (BL (b.Bd.getD (GA nm b.Bd).toNat Cv.zero).node) b.AV).toNat-1) Item.zero).node) f;exact⟨r.1,l1.trans r.2⟩
def We:∀{n:Nat} {b:BS},EF b->EF (BS.E2 n b nm)/\Le b.a (BS.E2 n b nm).a
 |0,b,o=>⟨o,.refl⟩
 |n+1,b,o=>by
  obtain⟨c,l1⟩:=ZK (nm:=nm) o;unfold BS.E2;simp only
  split;.have r:=We (n:=n) c;exact⟨r.1,l1.trans r.2⟩
  .exact⟨c,l1⟩
def o9(o:EF b):EF (b.H9 nm):=by
 unfold BS.H9;split;.exact uP o
 .exact(We o).1
end
structure Lv(A:Ar):Prop where
 n:A.n.length<=1000000000
 at_:∀x,(A.nd x).AE.length<=1000000000
 data:∀x,(A.nd x).data.length<=1000000000
def FZ(l:List A0):Prop:=l.length<=1000/\∀a∈l,a.name.length<=1000/\a.value.length<=1000
structure Cs(b:BS)(m:Nat):Prop where
 n:b.a.n.length+m<=900000000
 at_:∀x,(b.a.nd x).AE.length+m<=1000000000
 data:∀x,(b.a.nd x).data.length+m<=1000000000
 AV:b.AV.length+m<=900000000
 Bd:b.Bd.length+m<=900000000
 tm:b.tm.length+m<=900000000
 Dn:∀e∈b.Bd,e.name.length<=1000/\FZ e.AE
 ZL:∀i∈b.AV,i.name.length<=1000
def Cs.U7{b:BS}{m:Nat}(r:Cs b m):Lv b.a:=⟨by have:=r.n;omega,λx=>by have:=r.at_ x;omega,λx=>by have:=r.data x;omega⟩
def Cs.le{b:BS}{m m':Nat}(r:Cs b m)(hm:m'<=m):Cs b m':=⟨by have:=r.n;omega,λx=>by have:=r.at_ x;omega,λx=>by have:=r.data x;omega,by have:=r.AV;omega,by have:=r.Bd;omega,by have:=r.tm;omega,r.Dn,r.ZL⟩
def pA{sp:Int}{y:A0}:(Dt sp y).value=y.value:=by
 unfold Dt;split;.split<;>rfl
 .rfl
structure My(A A':Ar):Prop where
 n:A'.n.length=A.n.length
 at_:∀x,(A'.nd x).AE=(A.nd x).AE
 data:∀x,(A'.nd x).data=(A.nd x).data
section
variable{A A' A'':Ar}{x p bf:Int}{b:BS}{m:Nat}
def My.refl:My A A:=⟨rfl,λ_=>rfl,λ_=>rfl⟩
def My.trans(h:My A A')(k:My A' A''):My A A'':=⟨k.n.trans h.n,λx=>(k.at_ x).trans (h.at_ x),λx=>(k.data x).trans (h.data x)⟩
def ZM{y:Ek}(h1:y.AE=(A.nd x).AE)(h2:y.data=(A.nd x).data):My A (A.set x y):=by
 refine⟨HO,λk=>?_,λk=>?_⟩<;>rw[IH]<;>split;.rename_i e;rw[h1,e.1]
 .rfl
 .rename_i e;rw[h2,e.1]
 .rfl
def Wf{l:List Int}:My A (A.set x {A.nd x with AX:=l}):=ZM rfl rfl
def Wg:My A (A.set x {A.nd x with DA:=p}):=ZM rfl rfl
def Ki:My A (A.HP p x bf):=by
 unfold Ar.HP;split
 .refine My.trans ?_ (My.trans Wf Wg);unfold Ar.cut;simp only;split;.exact .refl
  .exact My.trans Wf Wg
 .exact .refl
def Kj:My A (A.Hc x p bf):=by unfold Ar.Hc;split;exact .refl;exact Ki
def Ou{n:Int}:∀{l:List Int} {A:Ar},My A (BS.C1 A n l)
 |[],A=> .refl
 |y::l,A=>My.trans Ki (Ou (l:=l))
def Cs.same{c:BS}(r:Cs b m)(h:My b.a c.a)(h1:c.AV.length<=b.AV.length)(h2:c.Bd.length<=b.Bd.length)(h3:c.tm.length<=b.tm.length)(f:∀e∈c.Bd,e.name.length<=1000/\FZ e.AE)(d:∀i∈c.AV,i.name.length<=1000):Cs c m:=
 ⟨by rw[h.n];exact r.n,λx=>by rw[h.at_];exact r.at_ x,λx=>by rw[h.data];exact r.data x,by have:=r.AV;omega,by have:=r.Bd;omega,by have:=r.tm;omega,f,d⟩
def Cs.Ka{A':Ar}(r:Cs b m)(h:My b.a A'):Cs {b with a:=A'} m:=r.same h (Ae _) (Ae _) (Ae _) r.Dn r.ZL
def Cs.eq{c:BS}(r:Cs b m)(h1:c.a=b.a)(h2:c.AV=b.AV)(h3:c.Bd=b.Bd)(d:c.tm=b.tm):Cs c m:=⟨by rw[h1];exact r.n,by rw[h1];exact r.at_,by rw[h1];exact r.data,by rw[h2];exact r.AV,by rw[h3];exact r.Bd,by rw[d];exact r.tm,by rw[h3];exact r.Dn,by rw[h2];exact r.ZL⟩
structure QX(A A':Ar)(k:Nat):Prop where
 n:A'.n.length<=A.n.length+k
 at_:∀x,(A'.nd x).AE.length<=max (A.nd x).AE.length 1000
 data:∀x,(A'.nd x).data.length<=max (A.nd x).data.length 100000
def LY{y:Ek}(h1:y.AE.length<=1000)(h2:y.data.length<=100000):QX A (A.add y) 1:=by refine⟨by simp[Ar.add],λx=>?_,λx=>?_⟩<;>rw[JT]<;>split<;>omega
def QX.trans{k k':Nat}(h:QX A A' k)(g:QX A' A'' k'):QX A A'' (k+k'):=
 ⟨by have:=h.n;have:=g.n;omega,λx=>by have:=h.at_ x;have:=g.at_ x;omega,λx=>by have:=h.data x;have:=g.data x;omega⟩
def QX.le{k k':Nat}(h:QX A A' k)(hk:k<=k'):QX A A' k':=⟨by have:=h.n;omega,h.at_,h.data⟩
def pB(h:My A A'):QX A A' 0:=⟨by rw[h.n];exact Ae _,λx=>by rw[h.at_];omega,λx=>by rw[h.data];omega⟩
def eJ:QX A (A.Ef x) 1:=by
 unfold Ar.Ef;split;.exact(pB .refl).le Ab
 .have:=LY (A:=A) (y:={kind:=1,CQ:=A.len+1}) (AZ _) (AZ _);exact⟨this.n,this.at_,this.data⟩
def uR{y:Ek}(h1:y.AE.length<=1000)(h2:y.data.length<=100000):QX A (A.set x y) 0:=by refine⟨by rw[HO];exact Ae _,λx=>?_,λx=>?_⟩<;>rw[IH]<;>split<;>omega
def pC{d sp:Int}{nm:Au}{l:List A0}(hl:l.length<=1000):QX A (A.elem d sp nm l) 3:=by
 have ho:=Bj (NX (l:=l)) hl;have g1:=LY (A:=A) (y:={kind:=4,CQ:=d,AY:=sp,name:=nm,AE:=Cp l}) ho (AZ _);unfold Ar.elem;simp only
 split;.have g2:=eJ (A:=A.add {kind:=4,CQ:=d,AY:=sp,name:=nm,AE:=Cp l}) (x:=d);have g3:=LY (A:=(A.add {kind:=4,CQ:=d,AY:=sp,name:=nm,AE:=Cp l}).Ef d) (y:={kind:=2,CJ:=A.len+1,CQ:=(A.add {kind:=4,CQ:=d,AY:=sp,name:=nm,AE:=Cp l}).GM d}) (AZ _) (AZ _);exact g1.trans (k':=2) (g2.trans (k':=1) (g3.trans (k':=0) (uR ho (AZ _))))
 .exact g1.le Ab
def Cs.FC{A':Ar}{k:Nat}(r:Cs b (m+k))(h:QX b.a A' k):Cs {b with a:=A'} m:=
 ⟨by have:=r.n;have:=h.n;simp only;omega,λx=>by have:=r.at_ x;have:=h.at_ x;have:=r.n;simp only;omega,λx=>by have:=r.data x;have:=h.data x;have:=r.n;simp only;omega,by have:=r.AV;simp only;omega,by have:=r.Bd;simp only;omega,by have:=r.tm;simp only;omega,r.Dn,r.ZL⟩
def uS{sp:Int}{nm:Au}:(BS.Lp sp nm).length=nm.length:=by
 unfold BS.Lp;split
 .rcases ML nm LS with h|h
  .rw[h]
  .conv=>rhs;rw[<-h.2,Xy]
 .rfl
variable{nm:Au}{l:List A0}{sp:Int}
def Kb(r:Cs b (m+3))(hl:FZ l):Cs (b.E1 nm l sp p) m:=by
 unfold BS.E1;split;.exact r.FC (pC (by rw[As];exact hl.1))
 .exact r.le Ab
def Nx(hn:nm.length<=1000):(b.II nm l sp).name.length<=1000:=by
 unfold BS.II;split;.show(BS.Lp sp nm).length<=1000;rw[uS];exact hn
 .exact AZ _
def Cs.jz{i:Item}{l':List Item}(r:Cs b (m+1))(h1:l'.length<=b.AV.length+1)(h2:∀j∈l',j∈b.AV\/j=i)(hi:i.name.length<=1000):Cs {b with AV:=l'} m:=
 ⟨by have:=r.n;simp only;omega,λx=>by have:=r.at_ x;simp only;omega,λx=>by have:=r.data x;simp only;omega,by have:=r.AV;simp only;omega,by have:=r.Bd;simp only;omega,by have:=r.tm;simp only;omega,r.Dn,λj hj=>by
  rcases h2 j hj with h|rfl
  .exact r.ZL j h
  .exact hi⟩
def Cs.j_{e:Cv}{l':List Cv}(r:Cs b (m+1))(h1:l'.length<=b.Bd.length+1)(h2:∀j∈l',j∈b.Bd\/j=e)(hi:e.name.length<=1000/\FZ e.AE):Cs {b with Bd:=l'} m:=
 ⟨by have:=r.n;simp only;omega,λx=>by have:=r.at_ x;simp only;omega,λx=>by have:=r.data x;simp only;omega,by have:=r.AV;simp only;omega,by have:=r.Bd;simp only;omega,by have:=r.tm;simp only;omega,λj hj=>by
  rcases h2 j hj with h|rfl
  .exact r.Dn j h
  .exact hi,r.ZL⟩
def LZ(r:Cs b (m+4))(hl:FZ l)(hn:nm.length<=1000):Cs (b.EV nm l sp) m:=by
 unfold BS.EV;split
 .rename_i hs;have c:=Kb (m:=m+1) (nm:=nm) (sp:=sp) (p:=(b.place 0).1) (r.le Ab) hl;have r2:=c.Ka (Kj (x:=b.a.len+1) (p:=(b.place 0).1) (bf:=(b.place 0).2));have ho:(b.E1 nm l sp (b.place 0).1).AV=b.AV:=by unfold BS.E1;rw[Ad hs]
  refine r2.jz (i:=b.II nm l sp) (by simp only[Ap,BN];exact Ae _) (λj hj=>?_) (Nx hn);rcases An.1 hj with h|h
  .exact .inl h
  .exact .inr (by simpa using h)
 .exact r.le Ab
def ZN(r:Cs b (m+5))(hl:FZ l)(hn:nm.length<=1000):Cs (b.Kv nm l) m:=by
 have c:=LZ (m:=m+1) (sp:=1) (nm:=nm) (r.le Ab) hl hn;unfold BS.Kv;simp only
 obtain⟨l',h1,h2⟩:=T7 (l:=(b.EV nm l 1).Bd) (e:=⟨b.a.len+1,nm,l⟩);rw[h2];refine c.j_ (e:=⟨b.a.len+1,nm,l⟩) (by have:=h1.length_le;simp;omega) (λj hj=>?_) ⟨hn,hl⟩;rcases An.1 hj with h|h
 .exact .inl (h1.subset h)
 .exact .inr (by simpa using h)
end
end Go.Am
end
