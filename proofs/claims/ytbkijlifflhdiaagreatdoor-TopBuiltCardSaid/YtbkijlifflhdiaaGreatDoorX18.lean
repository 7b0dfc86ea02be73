/- Lemmas -/
import Derived.Test.YtbkijlifflhdiaaGreatDoorX17
set_option linter.all false
noncomputable section
set_option maxRecDepth 100000
section
namespace Go.Am
open Go
section
section
variable{U:Type}{z:Nat}
def F6{Ao:List (List U)}(h:∀r∈Ao,r.length=z):Ao.flatten.length=Ao.length*z:=by
 induction Ao with
 |nil=>simp
 |cons q Ao ih=>rw[Cy,Ap,h q Aw,ih λr hr=>h r (by simp[hr]),AU,Bs];omega
def Wy{Ao:List (List U)}(h:∀r∈Ao,r.length=z):∀{k:Nat},Ao.flatten.take (k*z)=(Ao.take k).flatten:=by
 induction Ao with
 |nil=>intro k;simp
 |cons q Ao ih=>
  intro k;have hq:=h q Aw;cases k with
  |zero=>simp
  |succ k=>rw[Cy,Bs,Ef,KW,gY,AR Ab,hq,QS,ih λr hr=>h r (by simp[hr])];simp
def HA{Ao:List (List U)}(h:∀r∈Ao,r.length=z):∀{k:Nat},Ao.flatten.drop (k*z)=(Ao.drop k).flatten:=by
 induction Ao with
 |nil=>intro k;simp
 |cons q Ao ih=>
  intro k;have hq:=h q Aw;cases k with
  |zero=>simp
  |succ k=>rw[Cy,Bs,Ef,KW,QM,Bd Ab,hq,QS,ih λr hr=>h r (by simp[hr])];simp
def ZN{Ao:List (List U)}(h:∀r∈Ao,r.length=z){k:Nat}(hk:k<Ao.length)(q:List U):Ao.flatten.take (k*z)++q++Ao.flatten.drop (k*z+z)=(Ao.set k q).flatten:=by
 have e:k*z+z=(k+1)*z:=by rw[Bs,Ef]
 rw[e,Wy h,HA h,Cd,Ad hk];simp
def Wz{Ao:List (List Aa)}(h:∀r∈Ao,r.length=z):∀{n off:Nat},off+n<=Ao.length->Cg Ao.flatten z (off*z) n=(Ao.drop off).take n:=by
 intro n;induction n with
 |zero=>intro off _;simp[Cg]
 |succ n ih=>
  intro off hl;rw[Cg];have e:off*z+z=(off+1)*z:=by rw[Bs,Ef]
  rw[e,ih Ab,HA h];have hlt:off<Ao.length:=Ab;rw[AA hlt,Cy,Di (by rw[h _ (AJ hlt)];exact Af _),AR (by rw[h _ (AJ hlt)];exact Af _),VN]
def tN{Ao:List (List Aa)}(h:∀r∈Ao,r.length=z):Cg Ao.flatten z 0 Ao.length=Ao:=by have:=Wz h (n:=Ao.length) (off:=0) Ab;simpa using this
end
section
variable{h:Ah}{id z n:Nat}{Ao:List (List Aa)}
def Rk(hr:∀r∈Ao,r.length=z)(hc:h[id]?=some (.cells Ao.flatten)):LA h (.CL id 0 Ao.length z)=some (h.set id .DK,.sl z Ao):=by unfold LA;simp only[hc,BC];rw[Ad (by rw[F6 hr];exact Af _),tN hr]
def EV{k:IntKind}{i:Nat}(hi:i<n):Ay (.Gm z) [.CL id 0 n z,.int k (i:Int)]=some (.ptr (some (id,i*z))):=by
 have:LW (i:Int) n=some i:=by unfold LW;rw[Ad Ab];rfl
 simp[Ay,elemOf,this]
def Sf(hr:∀r∈Ao,r.length=z)(hc:h[id]?=some (.cells Ao.flatten)){i:Nat}(hi:i<Ao.length){q:List Aa}(hq:q.length=z):CM h z (.ptr (some (id,i*z))) (.agg q)=some (h.set id (.cells (Ao.set i q).flatten)):=by
 simp only[CM,hc,Rj];have:i*z+z<=Ao.flatten.length:=by rw[F6 hr];have:=DM z (Ab:i+1<=Ao.length);rwa [Bs,Ef] at this
 rw[<-ZN hr hi];exact Ad ⟨hq,this⟩
def ZO(hr:∀r∈Ao,r.length=z){i:Nat}{q:List Aa}(hq:q.length=z):∀r∈Ao.set i q,r.length=z:=by
 intro r h;rcases CU h with h|rfl
 .exact hr r h
 .exact hq
def Mh{U:Type}{f:U->List Aa}(hf:∀a,(f a).length=z)(l:List U):∀r∈l.map f,r.length=z:=by intro r h;obtain⟨a,_,rfl⟩:=AZ.1 h;exact hf a
def NP{s v:Aa}{b:Nat}(hs:s= .slnil\/s= .sl z [])(hv:Bu z Ao v)(hne:Ao≠[])(hb:Ao.length*b<=AQ):Ly h z b s v=some (h++[.cells Ao.flatten],.CL h.length 0 Ao.length z):=by
 rcases hv with rfl|⟨rfl,hv⟩
 .cases Ao with
  |nil=>exact absurd rfl hne
  |cons r Ao=>rw[AU] at hb;rcases hs with rfl|rfl<;>simp[Ly,Np,hb]
 .exact absurd hv hne
def ZP{s v:Aa}{b:Nat}(hs:s= .slnil\/s= .sl z [])(hv:Bu z [] v):Ly h z b s v=some (h,s):=by rcases hv with rfl|⟨rfl,hv⟩<;>rcases hs with rfl|rfl<;>simp[Ly,Np]
def MT{v:Aa}{b:Nat}{r2:List (List Aa)}(hr:∀r∈Ao,r.length=z)(hz:0<z)(hc:h[id]?=some (.cells Ao.flatten))(hv:Bu z r2 v)(hne:r2≠[])(hb:(Ao.length+r2.length)*b<=AQ):
  FX h z b (.CL id 0 Ao.length z) v=some (h.set id .DK++[.cells (Ao++r2).flatten],.CL h.length 0 (Ao.length+r2.length) z):=by
 rcases hv with rfl|⟨rfl,hv⟩
 .cases r2 with
  |nil=>exact absurd rfl hne
  |cons r r2=>
   have hl:=F6 hr;have h1:¬(0+(Ao.length+(r::r2).length)*z<=Ao.flatten.length):=by rw[hl,AU,BC,Bs,Bs];omega
   have h2:Ao.flatten.take (Ao.length*z)=Ao.flatten:=AR (by rw[hl];exact Af _);unfold FX;simp only[Gv,BH,hc];rw[Ac h1,Ad ⟨trivial,by rw[hl];exact Af _,hb⟩,h2,Ju]
 .exact absurd hv hne
end
end
section
section
end
def IW:List Aq:=[[100,100],[100,116],[108,105],aLg,aLq,[112],[114,98],[114,112],[114,116],[114,116,99]]
def On:List Aq:=[aLd,aLm,aLr,[116,100],aLn,[116,104],aLs,[116,114]]
def MU:List Aq:=[[109,105],[109,110],[109,111],[109,115],[109,116,101,120,116]]
def WA:List Aq:=[aLI,aLc,aLo]
section
end
def HB(k:Int)(s:Aq):Bool:=
 if k=3 then decide (s=aLa\/s∈MU) else if k=2 then decide (s∈WA) else if k=1 then decide (s∈Qg) else false
def sw(s:Aq)(t e:IT):List Aq->IT
 |[]=>e
 |c::cs=> .op (.str .eql) [.str s,.str c] λv=> .AX v t (sw s t e cs)
def tO{C:FC}{Q:IN}{h:Ah}{s:Aq}{t e:IT}:∀{cs:List Aq},W C (sw s t e cs) Q h↔(s∈cs->W C t Q h)/\(s∉cs->W C e Q h)
 |[]=>by simp[sw]
 |c::cs=>by
  simp only[sw,T9,jG,NM,Mf,Ub,Az,Pz];rw[tO];by_cases hc:s=c;.simp[hc]
  .simp[hc]
def Un{C:FC}{f:FuncId}{args:List Aa}{r:Aa}:OG C f args r↔W C (B2 C f args) (λx vs _=>x= .ret/\vs=[r]) []:=by
 unfold OG Ev;constructor;.exact λh=>W.mono h λ_ _ _ ⟨h1,r,h2,a⟩=>⟨h1,by rw[h2,a]⟩
 .exact λh=>W.mono h λ_ _ _ ⟨h1,h2⟩=>⟨h1,r,h2,rfl⟩
section
variable{Q:IN}{h:Ah}{k:Aa->IT}{s:Aq}
end
section
variable{Q:IN}{h:Ah}{k:Aa->IT}{s:Aq}{n:Int}
end
end
section
end
section
section
variable{Q:IN}{h:Ah}{k:Aa->IT}{s:Aq}
def Mi:List Aq:=Mg [] aK8
def Mj:List Aq:=Mg [] aK7
def Qh:List Aq:=[aLe,aLb,aK9]
def NQ:List Aq:=[aLg,aLq]
def XT:List Aq:=[[111,108],[117,108]]
def Qi:List Aq:=[aLE,aLd,aLe,aLB,aLH,aLb,[116,100],aK9,[116,104]]
end
section
variable{Q:IN}{h:Ah}{k:Aa->IT}{s:Aq}{n:Int}
end
end
section
def Iz(c:UInt8):UInt8:=if 65<=c.toNat/\c.toNat<=90 then c+32 else c
def F7(s:Aq):Aq:=s.map Iz
def XU{c:UInt8}(h:65<=c.toNat/\c.toNat<=90):((Iz c).toNat:Int)=(c.toNat:Int)+32:=by unfold Iz;rw[Ad h,UInt8.toNat_add];have:UInt8.toNat 32=32:=Bj;rw[this];omega
def Qj{c:UInt8}(h:¬(65<=c.toNat/\c.toNat<=90)):Iz c=c:=by unfold Iz;rw[Ac h]
def eC{s:Aq}{n:Nat}(hn:n<s.length):F7 (s.take (n+1))=F7 (s.take n)++[Iz s[n]]:=by rw[AD hn];unfold F7;rw[BV];rfl
def Nf(b:UInt8):Aa:= .int .u8 (b.toNat:Int)
def GI(s:Aq)(n:Nat):Aq:=F7 (s.take n)++s.drop n
def Uo(s:Aq)(n:Nat):(GI s n).length=s.length:=by simp[GI,F7];omega
def Uq{s:Aq}{n:Nat}(hn:n<s.length):(GI s n)[n]?=some s[n]:=by unfold GI F7;rw[Bp ER];simp only[As,Au,Ce (RF hn),DY];rw[AA hn];rfl
def Qk{s:Aq}{n:Nat}(hn:n<s.length):GI s (n+1)=(GI s n).set n (Iz s[n]):=by
 unfold GI;rw[eC hn,B6 _ _ (by simp[F7];omega)];have e:n-(F7 (s.take n)).length=0:=by simp[F7];omega
 rw[e,AA hn,List.set_cons_zero,AB];rfl
def ZQ(s:Aq):GI s s.length=F7 s:=by simp[GI,F7]
def tP{U:Type}{l:List U}{i:Nat}{v:U}(h:l[i]?=some v):l.set i v=l:=by
 apply O0;intro j;rw[aGK];split
 .rename_i e;subst e;split;.exact h.symm
  .rename_i hl;rw[C3 Ab]
 .rfl
def eF{cs:List Aa}{i:Nat}{v:Aa}(h:cs[i]?=some v):Bq [.cells cs] none (.ptr (some (0,i)))=some v:=by simpa[Bq] using h
def OV{U:Type}{l:List U}{i:Nat}{v:U}(h:i<l.length):l.take i++v::l.drop (i+1)=l.set i v:=by rw[Cd,Ad h]
def ZR{cs:List Aa}{i:Nat}{v:Aa}(h:i<cs.length)(hv:v.cells=[v]):CM [.cells cs] 1 (.ptr (some (0,i))) v=some [.cells (cs.set i v)]:=by simp only[CM,hv,Kk,BR];rw[Ad ⟨trivial,Ab⟩,<-OV h];simp
def NR(s:Aq):∀(n o:Nat),o+n=s.length->Cg (s.map Nf) 1 o n=CI (s.drop o)
 |0,o,h=>by rw[Bd Ab];rfl
 |n+1,o,h=>by
  have ho:o<s.length:=Ab;have e:(s.map Nf).drop o=Nf s[o]::(s.map Nf).drop (o+1):=by rw[AA (by simpa using ho)];simp
  rw[Cg,NR s n (o+1) Ab,AA ho,e];rfl
end
section
def Dv(name:Aq):List Aq->Aq
 |[]=>name
 |w::ws=>if F7 w=name then w else Dv name ws
def C1(w:Aq):List Aa:=[.str w]
def Rl:Aq:=aK8
def Rm:Aq:=aK7
end
section
structure A3 where
 AW:Int
 name:Aq
 value:Aq
 deriving DecidableEq
def A3.row(a:A3):List Aa:=[.int .i64 a.AW,.str a.name,.str a.value]
structure Item where
 node:Int
 AW:Int
 name:Aq
 NS:Bool
 deriving DecidableEq
def Item.row(a:Item):List Aa:=[.int .i64 a.node,.int .i64 a.AW,.str a.name,.bool a.NS]
def Ka(ns:List Aq)(v:Aa):Prop:=Bu 1 (ns.map C1) v
def Cp(l:List A3)(v:Aa):Prop:=Bu 3 (l.map A3.row) v
def Dg(l:List Item)(v:Aa):Prop:=Bu 4 (l.map Item.row) v
def jI(l:List A3):Prop:=l.length<=12/\∀x∈l,x.name.length<=60/\x.value.length<=200
instance(l:List A3):Decidable (jI l):=by unfold jI;infer_instance
def tQ(l:List Aq):Prop:=l.length<=12/\∀x∈l,x.length<=60
instance(l:List Aq):Decidable (tQ l):=by unfold tQ;infer_instance
def jJ(l:List Item):Prop:=l.length<=60/\∀x∈l,x.name.length<=60
instance(l:List Item):Decidable (jJ l):=by unfold jJ;infer_instance
end
section
def BZ{U:Type}(p:U->Bool)(n:Nat):List U->Int
 |[]=> -1
 |a::l=>if p a then(n:Int) else BZ p (n+1) l
def GJ{U:Type}{p:U->Bool}:∀{l:List U} {k:Nat},(BZ p k l= -1/\l.find? p=none)\/∃(n:Nat) (a:U),BZ p k l=((k+n:Nat):Int)/\l[n]?=some a/\l.find? p=some a
 |[],k=> .inl ⟨rfl,rfl⟩
 |a::l,k=>by
  unfold BZ;by_cases h:p a=true;.exact .inr ⟨0,a,by rw[Ad h];rfl,rfl,by simp[h]⟩
  .rw[Ac h];rcases GJ (p:=p) (l:=l) (k:=k+1) with⟨h1,h2⟩|⟨n,b,h1,h2,c⟩
   .exact .inl ⟨h1,by simp[h,h2]⟩
   .exact .inr ⟨n+1,b,by rw[h1];congr 1;omega,by simpa using h2,by simp[h,c]⟩
def jK(a:A3):Bool:=decide (a.AW=0/\a.name=aLJ)
def Sg{s:Aq}(h:s.all (λc=> !(65<=c.toNat&&c.toNat<=90))=true):F7 s=s:=by
 unfold F7;conv=>rhs;rw[<-List.map_id s]
 apply VQ;intro c hc;have:=EG.1 h c hc;refine Qj λh2=>?_;simp[h2.1,h2.2] at this
abbrev ö:Aq:=aLa
abbrev jL:Aq:=aLF
abbrev XV:Aq:=aLh
def HC(n:Int)(s:Aq)(l:List A3):Bool:=
 if n=2 then HB 2 s else if n≠3 then false else if s≠ö then false else match l.find? jK with
  |none=>false
  |some a=>decide (F7 a.value=jL\/F7 a.value=XV)
end
section
section
variable{U:Type}{f:U->List Aa}{l l2:List U}{v v2:Aa}{z b:Nat}{k k2:IntKind}
def Bu.Gi(hv:Bu z (l.map f) v):Ay (.len false) [v]=some (.int .i64 (l.length:Int)):=by have:=Bu.len hv;rwa [As] at this
def Bu.DC(hv:Bu z (l.map f) v){n:Nat}(hn:n<l.length):Ay (.Gm z) [v,.int k (n:Int)]=some (.Cz (f l[n])):=by have:=Bu.Gm hv (k:=k) (n:=n) (by simpa using hn);simpa using this
def Bu.Si(hv:Bu z (l.map f) v){n:Nat}(hn:n<=l.length):∃u,Ay (.PI z false false true) [v,.int k (n:Int)]=some u/\Bu z ((l.take n).map f) u:=by
 rcases hv with rfl|⟨rfl,h⟩
 .have a:FG (n:Int) (l.map f).length=some n:=by unfold FG;rw[As,Ad Ab];rfl
  refine⟨.sl z ((l.map f).take n),?_,.inl (by rw[Ie])⟩;simp only[Ay,Km,D2,a,BU,xT,BH,KX]
 .have:l=[]:=by simpa using h
  subst this;have:n=0:=by simpa using hn
  subst this;exact⟨.slnil,rfl,.inr ⟨rfl,rfl⟩⟩
def Bu.jM(hv:Bu z (l.map f) v){n:Nat}(hn:n<=l.length):∃u,Ay (.PI z false true false) [v,.int k (n:Int)]=some u/\Bu z ((l.drop n).map f) u:=by
 rcases hv with rfl|⟨rfl,h⟩
 .have a:FG (n:Int) (l.map f).length=some n:=by unfold FG;rw[As,Ad Ab];rfl
  refine⟨.sl z ((l.map f).drop n),?_,.inl (by rw[LV])⟩;simp only[Ay,Km,D2,a,BU,xT,BH,B7]
 .have:l=[]:=by simpa using h
  subst this;have:n=0:=by simpa using hn
  subst this;exact⟨.slnil,rfl,.inr ⟨rfl,rfl⟩⟩
def Bu.ao(hv:Bu z (l.map f) v)(Zd:Bu z (l2.map f) v2)(hb:(l.length+l2.length)*b<=AQ):∃u,Ay (.append z b) [v,v2]=some u/\Bu z ((l++l2).map f) u:=by obtain⟨u,e,hu⟩:=Bu.Kr hv Zd (b:=b) (by simpa using hb);exact⟨u,e,by rwa [BV]⟩
def Bu.NT(Zd:Bu z (l2.map f) v2)(hb:l2.length*b<=AQ):∃u,Ay (.append z b) [.slnil,v2]=some u/\Bu z (l2.map f) u:=by obtain⟨u,e,hu⟩:=Bu.Kr (v:= .slnil) (r:=[]) .nil Zd (b:=b) (by simpa using hb);exact⟨u,e,by simpa using hu⟩
def Bu.WB{a:U}(hv:Bu z (l.map f) v)(hb:(l.length+1)*b<=AQ):Ay (.append z b) [v,.sl z [f a]]=some (.sl z ((l++[a]).map f)):=by rw[Bu.ó hv (by simpa using hb)];simp
end
def Em{a b:Int}(h1: -9223372036854775808<=a-b)(h2:a-b<9223372036854775808):Ay (.int .sub) [.int .i64 a,.int .i64 b]=some (.int .i64 (a-b)):=by rw[dZ,wrap_i64 h1 h2]
def XW{a b:Int}(h1: -9223372036854775808<=a+b)(h2:a+b<9223372036854775808):Ay (.int .add) [.int .i64 a,.int .i64 b]=some (.int .i64 (a+b)):=by rw[dY,wrap_i64 h1 h2]
def Item.zero:Item:=⟨0,0,[],false⟩
def Item.DI{a:Item}:a.row.length=4:=rfl
def Item.g0{a:Item}{d:Aa}:a.row.getD 0 d= .int .i64 a.node:=rfl
def Item.g1{a:Item}{d:Aa}:a.row.getD 1 d= .int .i64 a.AW:=rfl
def Item.g2{a:Item}{d:Aa}:a.row.getD 2 d= .str a.name:=rfl
def Item.g3{a:Item}{d:Aa}:a.row.getD 3 d= .bool a.NS:=rfl
def Item.ø{a:Item}:a.row[0]?=some (.int .i64 a.node):=rfl
def Item.JQ{a:Item}:a.row.take 4=a.row:=rfl
def Item.tR{a:Item}:a.row.drop 1=[.int .i64 a.AW,.str a.name,.bool a.NS]:=rfl
def Item.ù{a:Item}:a.row.drop 2=[.str a.name,.bool a.NS]:=rfl
def Item.ú{a:Item}:a.row.drop 3=[.bool a.NS]:=rfl
def Item.SG{a:Item}:[Aa.int .i64 a.node,.int .i64 a.AW,.str a.name,.bool a.NS]=a.row:=rfl
def Item.fill{a:Item}:BD [.int .i64 0,.int .i64 0,.str [],.bool false] ([(0,1),(1,1),(2,1),(3,1)].zip a.row)=some a.row:=rfl
def IH:=ai @Item.fill (ai @Item.DI (ai @Item.g0 (ai @Item.g1 (ai @Item.g2 (ai @Item.g3 (ai @Item.ø (ai @Item.JQ (ai @Item.tR (ai @Item.ù (ai @Item.ú (ai @Item.SG (ai @EY (@BQ.{0})))))))))))))
def EA(l:List Item)(i:Int):Item:=if 0<=i then l.getD i.toNat Item.zero else Item.zero
def E6(l:List Item):Item:=EA l ((l.length:Int)-1)
def AG{U:Type}(q:U->Bool)(l:List U):Int:=match l.reverse.findIdx? q with
 |some k=>(l.length:Int)-1 -k
 |none=> -1
def NU{U:Type}{q:U->Bool}:AG q []= -1:=rfl
def Ks{U:Type}{q:U->Bool}{l:List U}{a:U}:AG q (l++[a])=if q a then(l.length:Int) else AG q l:=by
 unfold AG;rw[Hi,HU,Ip,aER];by_cases h:q a=true;.simp only[h,BH,Ap,BR];omega
 .simp only[h,E9,Dk,Ap,BR];cases List.findIdx? q l.reverse with
  |none=>rfl
  |some k=>simp only[BU];omega
def MV{U:Type}{q:U->Bool}{l:List U}{n:Nat}(hn:n<l.length):AG q (l.take (n+1))=if q l[n] then(n:Int) else AG q (l.take n):=by rw[AD hn,Ks,Au,Ce (RF hn)]
def CV{U:Type}{q:U->Bool}{l:List U}:(AG q l= -1/\∀a∈l,q a=false)\/∃(n:Nat) (hn:n<l.length),AG q l=(n:Int)/\q l[n]=true/\∀m (hm:m<l.length),n<m->q l[m]=false:=by
 have key:∀r:List U,(AG q r.reverse= -1/\∀a∈r.reverse,q a=false)\/∃(n:Nat) (hn:n<r.reverse.length),AG q r.reverse=(n:Int)/\q r.reverse[n]=true/\∀m (hm:m<r.reverse.length),n<m->q r.reverse[m]=false:=by
  intro r;induction r with
  |nil=>exact .inl ⟨rfl,Aw⟩
  |cons a r ih=>
   rw[IF,Ks];by_cases h:q a=true;.refine .inr ⟨r.reverse.length,Aw,by rw[Ad h],by simp[h],λm hm hlt=>?_⟩;simp at hm hlt;omega
   .rw[Ac h];rcases ih with⟨h1,h2⟩|⟨n,hn,h1,h2,c⟩
    .exact .inl ⟨h1,λb hb=>by
      rcases Ak.1 hb with hb|hb
      .exact h2 b hb
      .simp at hb;subst hb;simpa using h⟩
    .refine .inr ⟨n,by simp at hn⊢;omega,h1,by rw[J2 hn];exact h2,λm hm hlt=>?_⟩;by_cases TP:m<r.reverse.length;.rw[J2 TP];exact c m TP hlt
     .have:m=r.reverse.length:=by simp at hm TP⊢;omega
      subst this;simpa using h
 have:=key l.reverse;rwa [EH] at this
def At(h:Ah)(id o:Nat)(v:Aa):Prop:=∃cs,h[id]?=some (.cells cs)/\cs[o]?=some v
def put(h:Ah)(id o:Nat)(u:Aa):Ah:=match h[id]? with
 |some (.cells cs)=>h.set id (.cells (cs.set o u))
 |_=>h
section
variable{h t:Ah}{id o:Nat}{u v w:Aa}
def HP{cs:List Aa}(hc:h[id]?=some (.cells cs)):put h id o u=h.set id (.cells (cs.set o u)):=by unfold put;rw[hc]
def Lo:(put h id o u).length=h.length:=by unfold put;split<;>simp
def At.lt(ha:At h id o v):id<h.length:=by obtain⟨cs,hc,_⟩:=ha;exact(Ae.1 hc).1
def At.load(ha:At h id o v):Bq h none (.ptr (some (id,o)))=some v:=by obtain⟨cs,hc,e⟩:=ha;simp only[Bq,hc,Fi,e]
def At.store(ha:At h id o v)(hu:u.cells=[u]):CM h 1 (.ptr (some (id,o))) u=some (put h id o u):=by
 obtain⟨cs,hc,e⟩:=ha;have hl:=(Ae.1 e).1;rw[HP hc];simp only[CM,hc,hu,BR,Mx];have a:cs.set o u=cs.take o++[u]++cs.drop (o+1):=by rw[Cd,Ad hl];simp
 rw[Ad (Ab:o+1<=cs.length),a]
def At.put(ha:At h id o v):At (put h id o u) id o u:=by obtain⟨cs,hc,e⟩:=ha;have hl:=(Ae.1 e).1;have hi:=(Ae.1 hc).1;rw[HP hc];exact⟨cs.set o u,by simp[hi],by simp[hl]⟩
def At.same(ha:At h id o v):Am.put h id o v=h:=by obtain⟨cs,hc,e⟩:=ha;obtain⟨hl,e⟩:=Ae.1 e;obtain⟨hi,a⟩:=Ae.1 hc;rw[HP hc,<-e,Iq,<-a,Iq]
def XX:Am.put (Am.put h id o u) id o w=Am.put h id o w:=by
 cases hc:h[id]? with
 |none=>
  have e:∀u,Am.put h id o u=h:=λu=>by unfold Am.put;rw[hc]
  rw[e,e]
 |some x=>cases x with
  |cells cs=>have hi:=(Ae.1 hc).1;rw[HP hc,HP hc,HP (cs:=cs.set o u) (by simp[hi])];simp
  |_=>
   have e:∀u,Am.put h id o u=h:=λu=>by unfold Am.put;rw[hc]
   rw[e,e]
def At.Kr(ha:At h id o v):At (h++t) id o v:=by obtain⟨cs,hc,e⟩:=ha;exact⟨cs,by rw[Al (Ae.1 hc).1];exact hc,e⟩
def XY(ha:At h id o v):Am.put (h++t) id o u=Am.put h id o u++t:=by have hi:=ha.lt;obtain⟨cs,hc,e⟩:=ha;rw[HP hc,HP (by rw[Al hi];exact hc),List.set_append_left _ _ hi]
def CQ{i:Nat}(hn:i≠id):(Am.put h id o u)[i]?=h[i]?:=by
 unfold Am.put;split;.rw[An (DX hn)]
 .rfl
end
def qC(h:Ah)(p:Aa)(l:List Item):Prop:=(p= .ptr none/\l=[])\/∃id o v,p= .ptr (some (id,o))/\At h id o v/\Dg l v
def IA{l:List Item}{n:Nat}(hn:n<l.length):EA l (n:Int)=l[n]:=by have:(0:Int)<=(n:Int):=Ab;simp[EA,this,hn]
def Ur{l:List Item}{i:Int}(h:i<0\/(l.length:Int)<=i):EA l i=Item.zero:=by
 unfold EA;rcases h with h|h
 .rw[Ac Ab]
 .rw[Ad Ab,Ax,C3 Ab];rfl
section
variable{h:Ah}{p:Aa}{l:List Item}
def aq{s:Aq}{ws:List Aq}:decide (0<=BZ (λw=>decide (s=w)) 0 ws)=decide (s∈ws):=by
 rcases GJ (p:=λw=>decide (s=w)) (l:=ws) (k:=0) with⟨h1,h2⟩|⟨n,a,h1,h2,c⟩
 .rw[h1,DZ];have:=Kg.1 h2;exact⟨λh=>Ab,λh=>absurd (show s=s from rfl) (by simpa using this s h)⟩
 .rw[h1,DZ];have e:s=a:=by simpa using Sp c
  have:a∈ws:=Cb h2;refine⟨λ_=>e▸this,λ_=>Ab⟩
def Bl(ws:List Aq)(a:Item):Bool:=decide (a.AW=1/\a.name∈ws)
def D7{ws:List Aq}:Ka ws (.sl 1 (ws.map C1)):= .mk
def LK(n:Int)(a:Item):Bool:=
 if n=4 then Bl Qh a else if n=5 then !Bl NQ a else if a.AW=3\/a.AW=2 then HB a.AW a.name
 else Bl Qi a||(decide (n=2)&&Bl XT a)||(decide (n=3)&&Bl [aLf] a)
def EW{ws:List Aq}{args:List Aa}(e:args=ws.map Aa.str)(h:ws.length<=16777216):Ay (.Cf 1) args=some (.sl 1 (ws.map C1)):=by
 subst e;have g:(ws.map Aa.str).all (λa=>a.cells.length==1)=true:=Aw;have c:(ws.map Aa.str).map (·.cells)=ws.map C1:=by simp[C1]
 rw[jH,g,c];simp[h]
def eI:Ay (.Cf 1) [S aLe,S aLb,S aK9]=some (.sl 1 (Qh.map C1)):=EW (ws:=Qh) rfl Bj
def ZS:Ay (.Cf 1) [S aLg,S aLq]=some (.sl 1 (NQ.map C1)):=EW (ws:=NQ) rfl Bj
def nY:Ay (.Cf 1) [S [111,108],S [117,108]]=some (.sl 1 (XT.map C1)):=EW (ws:=XT) rfl Bj
def eJ:Ay (.Cf 1) [S aLE,S aLd,S aLe,S aLB,S aLH,S aLb,S [116,100],S aK9,S [116,104]]=some (.sl 1 (Qi.map C1)):=EW (ws:=Qi) rfl Bj
def nZ:Ay (.Cf 1) [S aLf]=some (.sl 1 ([aLf].map C1)):=EW (ws:=[aLf]) rfl Bj
def Mk{U:Type}(q e:U->Bool):List U->Bool
 |[]=>false
 |a::r=>if q a then true else if e a then false else Mk q e r
def eK{U:Type}{q e:U->Bool}(l:List U)(b:Bool):(if h:0<=AG (λa=>q a||e a) l/\(AG (λa=>q a||e a) l).toNat<l.length then q (l[(AG (λa=>q a||e a) l).toNat]'h.2) else false)=Mk q e l.reverse:=by
 have key:∀r:List U,(if h:0<=AG (λa=>q a||e a) r.reverse/\(AG (λa=>q a||e a) r.reverse).toNat<r.reverse.length then q (r.reverse[(AG (λa=>q a||e a) r.reverse).toNat]'h.2) else false)=Mk q e r:=by
  intro r;induction r with
  |nil=>simp[Mk,NU]
  |cons a r ih=>
   simp only[IF,Mk];have e0:=Ks (q:=λa=>q a||e a) (l:=r.reverse) (a:=a);by_cases hq:q a=true
   .rw[Ad (by simp[hq])] at e0;have c:(AG (λa=>q a||e a) (r.reverse++[a])).toNat=r.reverse.length:=by rw[e0];omega
    simp only[c];rw[bI ⟨by rw[e0];omega,Aw⟩];simp[hq]
   .by_cases he:e a=true
    .rw[Ad (by simp[he])] at e0;have c:(AG (λa=>q a||e a) (r.reverse++[a])).toNat=r.reverse.length:=by rw[e0];omega
     simp only[c];rw[bI ⟨by rw[e0];omega,Aw⟩];simp[hq,he]
    .rw[Ac (by simp[hq,he])] at e0;simp only[hq,he,E9,Dk,<-ih,e0];rcases CV (q:=λa=>q a||e a) (l:=r.reverse) with⟨h1,h2⟩|⟨n,hn,h1,h2,j⟩
     .simp[h1]
     .have g:(0:Int)<=(n:Int)/\(n:Int).toNat<r.reverse.length:=⟨Ab,by simpa using hn⟩;have i:(0:Int)<=(n:Int)/\(n:Int).toNat<(r.reverse++[a]).length:=⟨Ab,by simp at hn⊢;omega⟩;simp only[h1];rw[bI g,bI i,J2 g.2]
 have:=key l.reverse;rwa [EH] at this
def Ka.cells{v:Aa}{ws:List Aq}(hv:Ka ws v):v.cells=[v]:=Bu.cells hv
def Br(node:Int)(a:Item):Bool:=decide (a.node=node)
end
end
section
section
variable{h:Ah}{p v:Aa}{l:List Item}
def n7{n s:Int}{t:Aq}{b:Bool}:Ay (.B4 [I 0,I 0,S [],ff] [(0,1),(1,1),(2,1),(3,1)]) [.int .i64 n,.int .i64 s,.str t,.bool b]=some (.agg (Item.row ⟨n,s,t,b⟩)):=by simp only[Cr];rfl
def tS{a:Item}:Ay (.Cf 4) [.agg a.row]=some (.sl 4 [a.row]):=Qf rfl Bj
def Kt(h:Ah)(id o:Nat)(l:List Item):Prop:=∃v,At h id o v/\Dg l v
def Kt.at{id o:Nat}(hs:Kt h id o l):qC h (.ptr (some (id,o))) l:=let⟨v,h1,h2⟩:=hs; .inr ⟨id,o,v,rfl,h1,h2⟩
def Dg.cells(hv:Dg l v):v.cells=[v]:=Bu.cells hv
def IX(a:Item):Bool:=HB a.AW a.name
def CK(node:Int)(l:List Item):Int:=if AG (Br node) l<0 then -1 else match(l.drop ((AG (Br node) l).toNat+1)).findIdx? IX with
 |some k=>AG (Br node) l+1+k
 |none=> -1
def Fm{U:Type}(q:U->Bool)(l:List U)(n:Nat):Int:=match(l.drop n).findIdx? q with
 |some k=>(n:Int)+k
 |none=> -1
def VD{U:Type}{q:U->Bool}{l:List U}{n:Nat}(h:l.length<=n):Fm q l n= -1:=by unfold Fm;rw[Bd h];rfl
def XZ{U:Type}{q:U->Bool}{l:List U}{n:Nat}(h:n<l.length):Fm q l n=if q l[n] then(n:Int) else Fm q l (n+1):=by
 unfold Fm;rw[AA h,aER];by_cases hq:q l[n]=true;.simp only[hq,BH];omega
 .simp only[hq,Dk,E9];cases List.findIdx? q (l.drop (n+1)) with
  |none=>rfl
  |some k=>simp only[BU];omega
def JR{node:Int}:CK node l=if AG (Br node) l<0 then -1 else Fm IX l ((AG (Br node) l).toNat+1):=by
 unfold CK Fm;by_cases h:AG (Br node) l<0;.simp only[h,BH]
 .simp only[h,E9];cases(l.drop ((AG (Br node) l).toNat+1)).findIdx? IX with
  |none=>rfl
  |some k=>simp only;omega
end
end
section
def Ev.ret{C:FC}{f:FuncId}{args:List Aa}{h:Ah}{R:Aa->Ah->Prop}(hw:Ev C f args h R):∃r h',Cx C f args h r h'/\R r h':=by obtain⟨n,x,vs,h',e,hx,r,hv,hR⟩:=hw;exact⟨r,h',⟨n,x,vs,h',e,hx,hv,rfl⟩,hR⟩
def Ml(b a:Item->Bool):List Item->List Item
 |x::y::r=>if b x then x::y::r else if a x then y::r else Ml b a (y::r)
 |r=>r
def E0(b a:Item->Bool)(l:List Item):List Item:=(Ml b a l.reverse).reverse
def oA{b a:Item->Bool}{l:List Item}(h:l.length<=1):Ml b a l=l:=by
 match l with
 |[]=>rfl
 |[x]=>rfl
 |x::y::r=>simp at h
def ZT{b a:Item->Bool}{l:List Item}(h:l.length<=1):E0 b a l=l:=by unfold E0;rw[oA (by simpa using h),EH]
def oB{b a:Item->Bool}{l:List Item}{x:Item}(h:1<=l.length):E0 b a (l++[x])=if b x then l++[x] else if a x then l else E0 b a l:=by
 unfold E0;rw[Hi,HU,Ip];cases hr:l.reverse with
 |nil=>
  have:l=[]:=by simpa using hr
  subst this;simp at h
 |cons y r=>
  have hl:l=r.reverse++[y]:=by rw[<-EH l,hr,IF]
  rw[Ml];by_cases h1:b x=true;.rw[Ad h1,Ad h1];rw[hl];simp
  .rw[Ac h1,Ac h1];by_cases h2:a x=true;.rw[Ad h2,Ad h2];rw[hl];simp
   .rw[Ac h2,Ac h2]
def oC{b a:Item->Bool}{l:List Item}{n:Nat}(hn:n+1<l.length):E0 b a (l.take (n+2))=if b l[n+1] then l.take (n+2) else if a l[n+1] then l.take (n+1) else E0 b a (l.take (n+1)):=by have e:l.take (n+2)=l.take (n+1)++[l[n+1]]:=AD hn;rw[e,oB (by rw[Au];omega)]
def X0{b a:Item->Bool}:∀{l:List Item},(E0 b a l).length<=l.length:=by
 have key:∀r:List Item,(Ml b a r).length<=r.length:=by
  intro r;induction r with
  |nil=>simp[Ml]
  |cons x r ih=>
   cases r with
   |nil=>simp[Ml]
   |cons y r=>
    rw[Ml];split;.simp
    .split;.simp
     .exact Bm ih Aw
 intro l;have:=key l.reverse;simpa[E0] using this
section
variable{h:Ah}{p v:Aa}{l:List Item}
def Us{n:Nat}(hn:n<l.length):E6 (l.take (n+1))=l[n]:=by
 have e:((l.take (n+1)).length:Int)-1=(n:Int):=by rw[Au];omega
 unfold E6;rw[e,IA (by rw[Au];omega)];simp
def Kt.X1{id o:Nat}(hs:Kt h id o l):∃u,h=put h id o u/\Dg l u:=by obtain⟨u,hc,hu⟩:=hs;exact⟨u,hc.same.symm,hu⟩
def Kt.lt{id o:Nat}(hs:Kt h id o l):∃v,At h id o v:=let⟨u,hc,_⟩:=hs;⟨u,hc⟩
def Kt.td{id o:Nat}{u:Aa}(hlt:∃v,At h id o v)(hu:Dg l u):Kt (put h id o u) id o l:=let⟨_,ha⟩:=hlt;⟨u,ha.put,hu⟩
def Ee(_:Item):Bool:=false
def HD(s:Aq)(a:Item):Bool:=decide (a.AW≠1\/a.name∉IW\/a.name=s)
def DG(a:Item):Bool:=decide (a.AW≠1\/¬(a.name∈On\/a.name∈IW))
def GK(node:Int)(l:List Item):List Item:=if AG (Br node) l<0 then l else E0 Ee (Br node) l
end
end
section
section
variable{h:Ah}{p v:Aa}{l:List Item}
def û(l:List Item):∀r∈l.map Item.row,r.length=4:=Mh (f:=Item.row) (λa=>Item.DI) l
def jN{n:Nat}(h:n<=2000000000):n*40<=AQ:=by have:AQ=140737488355328:=rfl;omega
def Bk{U:Type}(l:List U)(k:Nat):List U:=l.take k++l.drop (k+1)
def DS(node:Int)(l:List Item):List Item:=if AG (Br node) l<1 then l else Bk l (AG (Br node) l).toNat
def GA(i:Int)(n:Nat):Nat:=min (max i 1).toNat n
def NV(node:Int)(a:Item)(l:List Item):List Item:=if AG (Br node) l<1 then l else l.set (AG (Br node) l).toNat a
end
end
section
end
section
section
variable{h:Ah}{p v w:Aa}{l:List Item}{ws:List Aq}
end
end
section
def fT:List (Aq×Int×Aq):=[(aLj,4,aLD),(aLi,4,aLC),(aLt,4,aLN),(aLu,4,aLO),(aLv,4,aLP),(aLk,4,aLo),(aLw,4,aLQ),(aLA,5,[108,97,110,103]),(aLy,5,aLM),(aLp,6,aLp),(aLl,6,aLL)]
def Ut(x:Aq×Int×Aq):Aa×Aa:=(.str x.1,.agg [.int .i64 x.2.1,.str x.2.2,.str []])
def ft(n:Nat):List (Aa×Aa):=(fT.take n).map Ut
def ü:Nk aLj (.agg [.int .i64 4,.str aLD,.str []]) (ft 0)=some (ft 1):=by kernel_rfl
def ý:Nk aLi (.agg [.int .i64 4,.str aLC,.str []]) (ft 1)=some (ft 2):=by kernel_rfl
def þ:Nk aLt (.agg [.int .i64 4,.str aLN,.str []]) (ft 2)=some (ft 3):=by kernel_rfl
def ÿ:Nk aLu (.agg [.int .i64 4,.str aLO,.str []]) (ft 3)=some (ft 4):=by kernel_rfl
def Ā:Nk aLv (.agg [.int .i64 4,.str aLP,.str []]) (ft 4)=some (ft 5):=by kernel_rfl
def ā:Nk aLk (.agg [.int .i64 4,.str aLo,.str []]) (ft 5)=some (ft 6):=by kernel_rfl
def Ă:Nk aLw (.agg [.int .i64 4,.str aLQ,.str []]) (ft 6)=some (ft 7):=by kernel_rfl
def ă:Nk aLA (.agg [.int .i64 5,.str [108,97,110,103],.str []]) (ft 7)=some (ft 8):=by kernel_rfl
def Ą:Nk aLy (.agg [.int .i64 5,.str aLM,.str []]) (ft 8)=some (ft 9):=by kernel_rfl
def ą:Nk aLp (.agg [.int .i64 6,.str aLp,.str []]) (ft 9)=some (ft 10):=by kernel_rfl
def tg:Nk aLl (.agg [.int .i64 6,.str aLL,.str []]) (ft 10)=some (ft 11):=by kernel_rfl
def eL{h:Ah}{es:List (Aa×Aa)}{s:Aq}{v:Aa}:RH (h++[.map es]) (.map (some h.length)) (.str s) v=(Nk s v es).map λes=>h++[.map es]:=by simp[RH]
def IB(n:Aq):Option (Int×Aq):=(fT.find? λx=>decide (n=x.1)).map (·.2)
def Uu(n:Aq):∀l:List (Aq×Int×Aq),Ti n (l.map Ut)=some ((l.find? λx=>decide (n=x.1)).map λx=>(Ut x).2)
 |[]=>rfl
 |x::l=>by
  rw[Bi,M8,Ut,Ti];by_cases e:n=x.1;.rw[Ad e,Bf e];rfl
  .rw[Ac e,Bb e];exact Uu n l
def KL{h:Ah}{n:Aq}:RI (h++[.map (ft 11)]) (.agg [.int .i64 0,.str [],.str []]) true (.map (some h.length)) (.str n)=
  some (match IB n with|some (s,m)=> .tuple [.agg [.int .i64 s,.str m,.str []],.bool true]|none=> .tuple [.agg [.int .i64 0,.str [],.str []],.bool false]):=by
 have e:Tj (h++[.map (ft 11)]) (.map (some h.length)) (.str n)=Ti n (fT.map Ut):=by simp[Tj,ft,fT]
 rw[RI,e,Uu,IB];cases fT.find? λx=>decide (n=x.1)<;>rfl
abbrev Ć:Aq:=aLx
abbrev th:Aq:=aLz
def Lp(sp:Int)(n:Aq):Aq:=if sp=2 then Dv n Mj else if sp=3/\n=Ć then th else n
def Dp(sp:Int)(a:A3):A3:=
 if sp=2\/sp=3 then match IB (Lp sp a.name) with
  |some (s,m)=>⟨s,m,a.value⟩
  |none=>⟨0,Lp sp a.name,a.value⟩
 else⟨0,a.name,a.value⟩
def X2(s:Aq):(F7 s).length=s.length:=by simp[F7]
def Ng(n:Aq):∀ws,Dv n ws=n\/(Dv n ws∈ws/\F7 (Dv n ws)=n)
 |[]=> .inl rfl
 |w::ws=>by
  rw[Dv];split;.rename_i e;exact .inr ⟨List.mem_cons_self,e⟩
  .rcases Ng n ws with h|⟨h1,h2⟩
   .exact .inl h
   .exact .inr ⟨Vh _ h1,h2⟩
def KM{a b c:Aa}:Ay (.Cf 3) [.agg [a,b,c]]=some (.sl 3 [[a,b,c]]):=rfl
def A3.DI{a:A3}:a.row.length=3:=rfl
def A3.JQ{a:A3}:a.row.take 3=a.row:=rfl
section
variable{v:Aa}{l:List A3}{h:Ah}
def tT{a b:A3}{neg:Bool}:Ay (.geq neg [.i,.s,.s]) [.agg a.row,.agg b.row]=some (.bool (decide (a=b) != neg)):=by
 rw[eA];have:DQ [.i,.s,.s] a.row b.row=some (decide (a=b)):=by simp only[DQ,Lx,A3.row,BH,BB];cases a;cases b;simp only[A3.mk.injEq];rw[pW];simp
 rw[this];rfl
end
end
section
structure B8 where
 node:Int
 name:Aq
 Av:List A3
deriving DecidableEq
structure CN where
 c:B8
 v:Aa
 ok:Cp c.Av v
def CN.row(e:CN):List Aa:=[.int .i64 e.c.node,.str e.c.name,e.v]
def EL(l:List CN)(v:Aa):Prop:=Bu 3 (l.map CN.row) v
section
variable{e:CN}{d:Aa}
def CN.DI:e.row.length=3:=rfl
def CN.g0:e.row.getD 0 d= .int .i64 e.c.node:=rfl
def CN.g1:e.row.getD 1 d= .str e.c.name:=rfl
def CN.g2:e.row.getD 2 d=e.v:=rfl
def CN.ø:e.row[0]?=some (.int .i64 e.c.node):=rfl
def CN.JQ:e.row.take 3=e.row:=rfl
def CN.tR:e.row.drop 1=[.str e.c.name,e.v]:=rfl
def CN.SG:[Aa.int .i64 e.c.node,.str e.c.name,e.v]=e.row:=rfl
def CN.aCu:Ay (.len false) [e.v]=some (.int .i64 (e.c.Av.length:Int)):=Bu.Gi e.ok
end
def A3.g0{a:A3}{d:Aa}:a.row.getD 0 d= .int .i64 a.AW:=rfl
def A3.g1{a:A3}{d:Aa}:a.row.getD 1 d= .str a.name:=rfl
def A3.g2{a:A3}{d:Aa}:a.row.getD 2 d= .str a.value:=rfl
def A3.SG{a:A3}:[Aa.int .i64 a.AW,.str a.name,.str a.value]=a.row:=rfl
def WC{n:Nat}(h:n<=2000000000):n*48<=AQ:=by have:AQ=140737488355328:=rfl;omega
def Rn(e:CN):Bool:=decide (e.c.node=0)
def Ro(n:Int)(e:CN):Bool:=decide (e.c.node=n)
def since(l:List CN):Int:=AG Rn l+1
def oD:since []=0:=rfl
def eM{l:List CN}{e:CN}:since (l++[e])=if e.c.node=0 then(l.length:Int)+1 else since l:=by unfold since;rw[Ks];by_cases h:e.c.node=0<;>simp[Rn,h]
def eO{l:List CN}{n:Nat}(hn:n<l.length):since (l.take (n+1))=if l[n].c.node=0 then(n:Int)+1 else since (l.take n):=by rw[AD hn,eM,Au,Ce (RF hn)]
def Pm(l:List CN):∃s:Nat,since l=(s:Int)/\s<=l.length/\(∀m (hm:m<l.length),s<=m->l[m].c.node≠0)/\(∀t,s=t+1->∃ht:t<l.length,l[t].c.node=0):=by
 rcases CV (q:=Rn) (l:=l) with⟨h1,h2⟩|⟨n,hn,h1,h2,a⟩
 .refine⟨0,by unfold since;rw[h1];rfl,A7 _,λm hm _=>?_,λt ht=>by omega⟩;have:=h2 _ (AJ hm);simpa[Rn] using this
 .refine⟨n+1,by unfold since;rw[h1];rfl,hn,λm hm Eg=>?_,λt ht=>?_⟩;.have:=a m hm Ab;simpa[Rn] using this
  .obtain rfl:t=n:=by omega
   exact⟨hn,by simpa[Rn] using h2⟩
section
variable{h:Ah}{v:Aa}{l:List CN}{id:Nat}
def jO(name:Aq):List CN->Int
 |[]=> -1
 |e::t=>if e.c.node=0 then -1 else if e.c.name=name then(t.length:Int) else jO name t
def OW(name:Aq)(l:List CN):Int:=jO name l.reverse
def eP{name:Aq}{n:Nat}(hn:n<l.length):OW name (l.take (n+1))=if l[n].c.node=0 then -1 else if l[n].c.name=name then(n:Int) else OW name (l.take n):=by rw[AD hn,OW,Hi,HU,Ip,jO,VR,Au,Ce (RF hn),OW]
def oE{name:Aq}:OW name []= -1:=rfl
def Jo(node:Int)(l:List CN):Int:=if node=0 then -1 else AG (Ro node) l
end
section
variable{h:Ah}{v:Aa}{l:List A3}
def Kb(a b:B8):Bool:=decide (a.name=b.name/\a.Av.length=b.Av.length/\(∀x∈a.Av,x∈b.Av)/\∀x∈b.Av,x∈a.Av)
def qD(e:CN):Prop:=e.c.Av.length<=1000000000
end
end
section
mutual
def Aa.Ql:∀a:Aa,Aa.beq a a=true
 | .bool a=>by simp[Aa.beq]
 | .int k a=>by simp[Aa.beq]
 | .str a=>by simp[Aa.beq]
 | .ptr a=>by simp[Aa.beq]
 | .Cz a=>by simp[Aa.beq,Aa.Jp a]
 | .sl n a=>by simp[Aa.beq,Aa.Uv a]
 | .Fq _=>by simp[Aa.beq]
 | .slnil=>by simp[Aa.beq]
 | .CL a c d e=>by simp[Aa.beq]
 | .map a=>by simp[Aa.beq]
 | .func f a c=>by simp[Aa.beq,Aa.Jp a,Aa.Jp c]
 | .nilFunc=>by simp[Aa.beq]
 | .iface t a=>by simp[Aa.beq,Aa.Ql a]
 | .nilIface=>by simp[Aa.beq]
 | .agg a=>by simp[Aa.beq,Aa.Jp a]
 | .tuple a=>by simp[Aa.beq,Aa.Jp a]
def Aa.Jp:∀a:List Aa,Aa.PG a a=true
 |[]=>by simp[Aa.PG]
 |a::x=>by simp[Aa.PG,Aa.Ql a,Aa.Jp x]
def Aa.Uv:∀a:List (List Aa),Aa.PH a a=true
 |[]=>by simp[Aa.PH]
 |a::x=>by simp[Aa.PH,Aa.Jp a,Aa.Uv x]
end
def Rp(h:Ah)(id o:Nat)(l:List CN):Prop:=∃u,At h id o u/\EL l u
def EL.cells{l:List CN}{v:Aa}(hv:EL l v):v.cells=[v]:=Bu.cells hv
def Rp.lt{h:Ah}{id o:Nat}{l:List CN}(hs:Rp h id o l):∃v,At h id o v:=let⟨u,hc,_⟩:=hs;⟨u,hc⟩
def SH(l:List CN):∀r∈l.map CN.row,r.length=3:=Mh (f:=CN.row) (λa=>CN.DI) l
section
variable{h:Ah}{v:Aa}{l:List CN}{id:Nat}
def oF{r:List Aa}(h:r.length=3):Ay (.Cf 3) [.agg r]=some (.sl 3 [r]):=Qf (a:= .agg r) h Bj
def ZU(n:Int)(l:List CN):Jo n l= -1\/∃k:Nat,k<l.length/\Jo n l=(k:Int):=by
 unfold Jo;split;.exact .inl rfl
 .rcases CV (q:=Ro n) (l:=l) with⟨h1,_⟩|⟨k,hk,h1,_⟩
  .exact .inl h1
  .exact .inr ⟨k,hk,h1⟩
def X3:CN:=⟨⟨0,[],[]⟩,.slnil,.nil⟩
def tU:[I 0,S [],Aa.slnil]=X3.row:=rfl
def F8(i:Int)(n:Nat):Nat:=min (max i 0).toNat n
def GS(l:List CN):Nat:=(since l-1).toNat
end
end
section
def ar(e:B8):List CN->Nat
 |[]=>0
 |x::t=>if x.c.node=0 then 0 else ar e t+(if Kb x.c e=true then 1 else 0)
def eQ(e:B8):List CN->Int
 |[]=> -1
 |x::t=>if x.c.node=0 then -1 else if 0<=eQ e t then eQ e t else if Kb x.c e=true then(t.length:Int) else -1
def VE(e:B8)(l:List CN):Nat:=ar e l.reverse
def Pn(e:B8)(l:List CN):Int:=eQ e l.reverse
section
variable{e:B8}{l:List CN}{n s:Nat}
def WD(hn:n<l.length):VE e (l.take (n+1))=if l[n].c.node=0 then 0 else VE e (l.take n)+(if Kb l[n].c e=true then 1 else 0):=by rw[AD hn,VE,Hi,HU,Ip,ar,VE]
def WE(hn:n<l.length):Pn e (l.take (n+1))=if l[n].c.node=0 then -1 else if 0<=Pn e (l.take n) then Pn e (l.take n) else if Kb l[n].c e=true then(n:Int) else -1:=by rw[AD hn,Pn,Hi,HU,Ip,eQ,Pn,VR,Au,Ce (RF hn)]
def eR(hs:since l=(s:Int)):VE e (l.take s)=0/\Pn e (l.take s)= -1:=by
 obtain⟨s',e,h1,h2,a⟩:=Pm l;obtain rfl:s=s':=Ab;cases s with
 |zero=>exact⟨rfl,rfl⟩
 |succ t=>obtain⟨ht,h0⟩:=a t rfl;exact⟨by rw[WD ht,Ad h0],by rw[WE ht,Ad h0]⟩
end
def Po(e:B8)(l:List CN):List CN:=if e.node≠0/\3<=VE e l then Bk l (Pn e l).toNat else l
section
variable{h:Ah}{v:Aa}{l:List CN}{id:Nat}
end
end
section
section
variable{h:Ah}{v:Aa}{l:List CN}{id:Nat}
end
end
end Go.Am
end
section
namespace Go.Am
structure D8 where
 kind:Int:=0
 FL:Int:=0
 AT:List Int:=[]
 BO:Int:=0
 AW:Int:=0
 name:Aq:=[]
 Av:List A3:=[]
 data:Aq:=[]
 zx:Aq:=[]
 sys:Aq:=[]
 Cj:Bool:=false
 cont:Int:=0
 C0:Int:=0
deriving DecidableEq
structure Ar where
 n:List D8
 i:List Int
abbrev AY:Aq:=aK9
def S2(x:D8):Prop:=x.kind=4/\x.AW=1/\x.name=AY
instance(x:D8):Decidable (S2 x):=by unfold S2;infer_instance
namespace Ar
def len(A:Ar):Int:=A.n.length
def has(A:Ar)(h:Int):Prop:=1<=h/\h<=A.n.length
instance(A:Ar)(h:Int):Decidable (A.has h):=by unfold has;infer_instance
def nd(A:Ar)(h:Int):D8:=if A.has h then A.n.getD (h.toNat-1) {} else{}
def inr(A:Ar)(h:Int):Int:=if A.has h then A.i.getD (h.toNat-1) 0 else 0
def set(A:Ar)(h:Int)(x:D8):Ar:={n:=if A.has h then A.n.set (h.toNat-1) x else A.n,i:=A.i}
def Kc(A:Ar)(h:Int)(x:Int):Ar:={n:=A.n,i:=if A.has h then A.i.set (h.toNat-1) x else A.i}
def add(A:Ar)(x:D8):Ar:={n:=A.n++[x],i:=A.i++[0]}
def up(A:Ar)(h:Int):Int:=if(A.nd h).FL≠0 then(A.nd h).FL else(A.nd h).C0
end Ar
section
variable{A:Ar}{h k:Int}{x y:D8}
def IY(a:¬A.has h):A.nd h={}:=by unfold Ar.nd;rw[Ac a]
def H7:(A.set h x).n.length=A.n.length:=by simp only[Ar.set];split<;>simp
def au:(A.set h x).len=A.len:=by unfold Ar.len;rw[H7]
def HE:(A.set h x).has k↔A.has k:=by unfold Ar.has;rw[H7]
def FA:(A.set h x).nd k=if k=h/\A.has h then x else A.nd k:=by
 unfold Ar.nd;simp only[HE];by_cases hk:A.has k
 .rw[Ad hk,Ad hk];simp only[Ar.set];by_cases a:A.has h
  .rw[Ad a];have h1:=a;have h2:=hk;unfold Ar.has at h1 h2;by_cases e:k=h;.subst e;rw[Ad ⟨rfl,a⟩,Ax,AH Ab];rfl
   .rw[Ac (by simp[e]),Ax,An Ab,Ax]
  .rw[Ac a,Ac (by simp[a])]
 .rw[Ac hk,Ac hk,Ac];rintro⟨rfl,h2⟩;exact hk h2
def Lq:(A.set h x).inr k=A.inr k:=by unfold Ar.inr;simp only[HE];rfl
def MW:(A.add x).len=A.len+1:=by simp[Ar.len,Ar.add]
def Dh:(A.add x).has k↔A.has k\/k=A.len+1:=by simp[Ar.has,Ar.add,Ar.len];omega
def EB:(A.add x).nd k=if k=A.len+1 then x else A.nd k:=by
 unfold Ar.nd;simp only[Dh];by_cases e:k=A.len+1;.subst e;simp[Ar.add,Ar.len]
 .by_cases hk:A.has k;.rw[Ad (.inl hk),Ac e,Ad hk];unfold Ar.has at hk;simp only[Ar.add,Ax];rw[Al Ab]
  .rw[Ac (by simp[hk,e]),Ac e,Ac hk]
def IZ(hl:A.i.length=A.n.length):(A.add x).inr k=A.inr k:=by
 unfold Ar.inr;simp only[Dh];by_cases e:k=A.len+1
 .subst e;have:¬A.has (A.len+1):=by unfold Ar.has Ar.len;omega
  rw[Ad (.inr rfl),Ac this];simp[Ar.add,Ar.len,<-hl]
 .by_cases hk:A.has k;.rw[Ad (.inl hk),Ad hk];unfold Ar.has at hk;simp only[Ar.add,Ax];rw[Al Ab]
  .rw[Ac (by simp[hk,e]),Ac hk]
def ZV:(A.Kc h k).len=A.len:=rfl
def Qm{m:Int}:(A.Kc h m).has k↔A.has k:=Iff.rfl
def jP{m:Int}:(A.Kc h m).nd k=A.nd k:=by rfl
def KN{m:Int}(hl:A.i.length=A.n.length):(A.Kc h m).inr k=if k=h/\A.has h then m else A.inr k:=by
 unfold Ar.inr;simp only[Qm];by_cases hk:A.has k
 .rw[Ad hk,Ad hk];simp only[Ar.Kc];by_cases a:A.has h
  .rw[Ad a];have h1:=a;have h2:=hk;unfold Ar.has at h1 h2;by_cases e:k=h;.subst e;rw[Ad ⟨rfl,a⟩,Ax,AH Ab];rfl
   .rw[Ac (by simp[e]),Ax,An Ab,Ax]
  .rw[Ac a,Ac (by simp[a])]
 .rw[Ac hk,Ac hk,Ac];rintro⟨rfl,h2⟩;exact hk h2
end
def CW(a:A3):Int×Aq:=(a.AW,a.name)
def F9(out:List A3):List A3->List A3
 |[]=>out
 |x::l=>if out.any (λy=>decide (CW x=CW y)) then F9 out l else F9 (out++[x]) l
def Cl(l:List A3):List A3:=F9 [] l
def Pp:∀{l out:List A3},(out.map CW).Nodup->((F9 out l).map CW).Nodup
 |[],_,h=>h
 |x::l,out,h=>by
  rw[F9];split;.exact Pp h
  .rename_i hn;refine Pp ?_;rw[BV,BF];refine⟨h,Aw,?_⟩;rintro a ha b hb rfl;simp at hb;subst hb;simp at ha hn;obtain⟨y,hy,e⟩:=ha;exact hn y hy e.symm
def ZW:∀{l out:List A3},((out++l).map CW).Nodup->F9 out l=out++l
 |[],out,_=>by simp[F9]
 |x::l,out,h=>by
  rw[F9,Ac,ZW (by simpa using h)];.simp
  .intro ha;rw[BV,BF] at h;simp at ha;obtain⟨y,hy,e⟩:=ha;exact h.2.2 _ (AZ.2 ⟨y,hy,e.symm⟩) _ Aw rfl
def oG(l:List A3):((Cl l).map CW).Nodup:=Pp Aw
def aw{l:List A3}(h:(l.map CW).Nodup):Cl l=l:=by have:=ZW (out:=[]) (l:=l) (by simpa using h);simpa[Cl] using this
def WG(l:List A3):Cl (Cl l)=Cl l:=aw (oG l)
def Rq:∀{l out:List A3} {a:A3},a∈F9 out l->a∈out\/a∈l
 |[],_,_,h=> .inl h
 |x::l,out,a,h=>by
  rw[F9] at h;split at h
  .rcases Rq h with h|h
   .exact .inl h
   .exact .inr (by simp[h])
  .rcases Rq h with h|h
   .simp at h;rcases h with h|rfl
    .exact .inl h
    .exact .inr Aw
   .exact .inr (by simp[h])
def ZX{l:List A3}{a:A3}(h:a∈Cl l):a∈l:=by simpa using Rq h
def Uw:∀{l out:List A3},(F9 out l).length<=out.length+l.length
 |[],out=>by simp[F9]
 |x::l,out=>by
  rw[F9];split;.have:=Uw (l:=l) (out:=out);simp;omega
  .have:=Uw (l:=l) (out:=out++[x]);simp at this⊢;omega
def Oo{l:List A3}:(Cl l).length<=l.length:=by have:=Uw (l:=l) (out:=[]);simpa[Cl] using this
structure eS(x:D8):Prop where
 k:1<=x.kind/\x.kind<=6
 AT:x.AT≠[]->x.kind=1\/x.kind=2\/x.kind=4
 elem:x.kind≠4->x.AW=0/\x.Av=[]
 nm:x.kind≠4->x.kind≠3->x.name=[]
 dt:x.kind≠3->x.zx=[]/\x.sys=[]
 data:x.kind≠5->x.kind≠6->x.data=[]
 Cj:x.kind≠1->x.Cj=false
 sp:0<=x.AW/\x.AW<=7
 yB:∀a∈x.Av,0<=a.AW/\a.AW<=7
 Cl:Cl x.Av=x.Av
 Mm:x.cont≠0->S2 x
 Mn:x.C0≠0->x.kind=2
 root:x.FL≠0->x.kind≠1/\x.kind≠2
 ZY:x.AT.Nodup
structure CX(A:Ar)(e:Int):Prop where
 il:A.i.length=A.n.length
 NW:∀h,A.has h->eS (A.nd h)
 BO:∀h,A.has h->A.has (A.nd h).BO/\(A.nd (A.nd h).BO).kind=1
 Ux:∀h,A.has h->(A.nd h).kind=1->(A.nd h).BO=h
 FL:∀h,A.has h->(A.nd h).FL≠0->A.has (A.nd h).FL/\h∈(A.nd (A.nd h).FL).AT
 IG:∀h,A.has h->∀k∈(A.nd h).AT,A.has k/\(A.nd k).FL=h
 ax:∀h,A.has h->h≠e->S2 (A.nd h)->(A.nd h).cont≠0
 cont:∀h,A.has h->(A.nd h).cont≠0->A.has (A.nd h).cont/\(A.nd (A.nd h).cont).kind=2/\(A.nd (A.nd h).cont).C0=h
 C0:∀h,A.has h->(A.nd h).C0≠0->A.has (A.nd h).C0/\(A.nd (A.nd h).C0).cont=h
 tj:∀h,A.has h->A.inr h≠0->A.has (A.inr h)/\(A.nd (A.inr h)).kind=1
 X4:∃r:Int->Nat,∀h,A.has h->A.up h≠0->r (A.up h)<r h
section
variable{A:Ar}{e h k:Int}{x y:D8}
def NX:¬A.has (A.len+1):=by unfold Ar.has Ar.len;omega
def Uy(a:¬A.has h):A.up h=0:=by unfold Ar.up;rw[IY a];simp
def X5(ok:CX A e)(a:A.has h)(hu:A.up h≠0):A.has (A.up h):=by
 unfold Ar.up at hu⊢;split;.rename_i h1;exact(ok.FL h a h1).1
 .rename_i h1;rw[Ac h1] at hu;exact(ok.C0 h a hu).1
def Pq(ok:CX A e)(hx:eS x)(hd:(x.kind=1/\x.BO=A.len+1)\/(x.kind≠1/\A.has x.BO/\(A.nd x.BO).kind=1))(hp:x.FL=0)(hk:x.AT=[])(hc:x.cont=0)(a:x.C0=0)(b:S2 x->e=A.len+1):CX (A.add x) e:=by
 have no:=NX (A:=A);obtain⟨r,hr⟩:=ok.X4;have ne:∀{k},A.has k->k≠A.len+1:=λhk e=>no (e▸hk);refine⟨by simp[Ar.add,ok.il],?_,?_,?_,?_,?_,?_,?_,?_,?_,r,?_⟩<;>intro m hm<;>rw[Dh] at hm<;>(try rw[IZ ok.il])<;>simp only[Ar.up,EB,Dh]<;>rcases hm with hm|rfl
 all_goals first|(rw[Ac (ne hm)])|(rw[Ad rfl])|skip
 .exact ok.NW m hm
 .exact hx
 .have:=ok.BO m hm;rw[Ac (ne this.1)];exact⟨.inl this.1,this.2⟩
 .rcases hd with⟨h1,h2⟩|⟨h1,h2,c⟩
  .rw[Ad h2];exact⟨.inr h2,h1⟩
  .rw[Ac (ne h2)];exact⟨.inl h2,c⟩
 .exact ok.Ux m hm
 .intro h1;rcases hd with⟨_,h2⟩|⟨h2,_⟩
  .exact h2
  .exact absurd h1 h2
 .intro h1;have:=ok.FL m hm h1;rw[Ac (ne this.1)];exact⟨.inl this.1,this.2⟩
 .intro h1;exact absurd hp h1
 .intro q hq;have:=ok.IG m hm q hq;rw[Ac (ne this.1)];exact⟨.inl this.1,this.2⟩
 .intro q hq;rw[hk] at hq;cases hq
 .exact ok.ax m hm
 .intro h1 h2;exact absurd (b h2).symm h1
 .intro h1;have:=ok.cont m hm h1;rw[Ac (ne this.1)];exact⟨.inl this.1,this.2⟩
 .intro h1;exact absurd hc h1
 .intro h1;have:=ok.C0 m hm h1;rw[Ac (ne this.1)];exact⟨.inl this.1,this.2⟩
 .intro h1;exact absurd a h1
 .intro h1;have:=ok.tj m hm h1;rw[Ac (ne this.1)];exact⟨.inl this.1,this.2⟩
 .intro h1;exfalso;apply h1;unfold Ar.inr;rw[Ac no]
 .have:=hr m hm;unfold Ar.up at this;exact this
 .rw[hp,a];simp
inductive Reach(A:Ar)(t:Int):Int->Prop
 |refl:Reach A t t
 |step {h:Int}:A.up h≠0->Reach A t (A.up h)->Reach A t h
def Lr(l:List Int)(b n:Int):List Int:=if b=0 then l++[n] else l.takeWhile (λk=>decide (k≠b))++n::l.dropWhile (λk=>decide (k≠b))
def Ar.cut(A:Ar)(n:Int):Ar:=
 let q:=(A.nd n).FL
 if q=0 then A else
  let a:=A.set q {A.nd q with AT:=(A.nd q).AT.filter λk=>decide (k≠n)}
  a.set n {a.nd n with FL:=0}
def Ar.My(A:Ar)(p n b:Int):Ar:=
 let a:=A.set p {A.nd p with AT:=Lr (A.nd p).AT b n}
 a.set n {a.nd n with FL:=p}
def Nh(k:Int):Prop:=k=1\/k=2\/k=4
instance(k:Int):Decidable (Nh k):=by unfold Nh;infer_instance
structure tk(A:Ar)(p n b:Int):Prop where
 hp:A.has p
 hn:A.has n
 hb:b≠0->A.has b/\b≠n/\(A.nd b).FL=p
 kp:Nh (A.nd p).kind
 kn:(A.nd n).kind≠1/\(A.nd n).kind≠2
 re:¬Reach A n p
open Classical in
def Ar.D9(A:Ar)(p n b:Int):Ar:=if tk A p n b then(A.cut n).My p n b else A
def Mo{l:List Int}{b n k:Int}:k∈Lr l b n↔k=n\/k∈l:=by
 unfold Lr;split;.simp;exact Or.comm
 .have e:=bY (p:=λk=>decide (k≠b)) (l:=l);constructor
  .intro h;rw[Ak,Az] at h;rcases h with h|h|h
   .exact .inr (by rw[<-e];simp only[Ak];exact .inl h)
   .exact .inl h
   .exact .inr (by rw[<-e];simp only[Ak];exact .inr h)
  .intro h;rw[Ak,Az];rcases h with h|h
   .exact .inr (.inl h)
   .rw[<-e,Ak] at h;rcases h with h|h
    .exact .inl h
    .exact .inr (.inr h)
def ZZ{l:List Int}{b n:Int}(h:l.Nodup)(hn:n∉l):(Lr l b n).Nodup:=by
 unfold Lr;split;.rw[BF];refine⟨h,Aw,?_⟩;rintro a ha c hc rfl;simp at hc;subst hc;exact hn ha
 .have e:=bY (p:=λk=>decide (k≠b)) (l:=l);generalize List.takeWhile _ l=u at e⊢;generalize List.dropWhile _ l=w at e⊢;subst e;rw[BF] at h⊢;simp at hn;refine⟨h.1,by simp[h.2.1,hn.2],?_⟩;rintro a ha c hc rfl;simp at hc;rcases hc with rfl|hc
  .exact hn.1 ha
  .exact h.2.2 _ ha _ hc rfl
def Z0:(A.cut h).n.length=A.n.length:=by unfold Ar.cut;simp only;split<;>simp[H7]
def HF:(A.cut h).has k↔A.has k:=by unfold Ar.has;rw[Z0]
def Z3{p n b:Int}:(A.My p n b).n.length=A.n.length:=by unfold Ar.My;simp[H7]
def S3{p n b:Int}:(A.My p n b).has k↔A.has k:=by unfold Ar.has;rw[Z3]
def ay:(A.cut h).inr k=A.inr k:=by unfold Ar.cut;simp only;split<;>simp[Lq]
def az{p n b:Int}:(A.My p n b).inr k=A.inr k:=by unfold Ar.My;simp[Lq]
def ls(ok:CX A e)(a:A.has h)(hu:A.up h≠0):A.up h≠h:=by obtain⟨r,hr⟩:=ok.X4;intro e;have:=hr h a hu;rw[e] at this;exact C8 _ this
def eT(ok:CX A e)(a:A.has h)(hu:(A.nd h).FL≠0):(A.nd h).FL≠h:=by
 have:A.up h=(A.nd h).FL:=by unfold Ar.up;rw[Ad hu]
 have h2:=ls ok a (by rw[this];exact hu);rwa [this] at h2
def Pr(ok:CX A e)(a:A.has h):(A.cut h).nd k=if k=h then{A.nd h with FL:=0} else if(A.nd h).FL≠0/\k=(A.nd h).FL then{A.nd k with AT:=(A.nd k).AT.filter λm=>decide (m≠h)} else A.nd k:=by
 unfold Ar.cut;simp only
 by_cases hp:(A.nd h).FL=0
 .rw[Ad hp];by_cases e:k=h;.subst e;rw[Ad rfl];have:A.nd k={A.nd k with FL:=(A.nd k).FL}:=rfl;rw[hp] at this;exact this
  .rw[Ac e,Ac (by simp[hp])]
 .have hn:=eT ok a hp;have hq:=(ok.FL h a hp).1;rw[Ac hp];simp only[FA,HE,a,hq,J1];by_cases e:k=h;.subst e;simp[DX hn]
  .simp[e,hp];split;.rename_i e;simp[e]
   .rfl
def Z4{x:D8}(hx:eS x){l:List Int}(h1:l.Nodup)(h2:l≠[]->Nh x.kind):eS {x with AT:=l}:=
 {k:=hx.k,AT:=h2,elem:=hx.elem,nm:=hx.nm,dt:=hx.dt,data:=hx.data,Cj:=hx.Cj,sp:=hx.sp,yB:=hx.yB,Cl:=hx.Cl,Mm:=hx.Mm,Mn:=hx.Mn,root:=hx.root,ZY:=h1}
def jQ{x:D8}(hx:eS x){p:Int}(h2:p≠0->x.kind≠1/\x.kind≠2):eS {x with FL:=p}:=
 {k:=hx.k,AT:=hx.AT,elem:=hx.elem,nm:=hx.nm,dt:=hx.dt,data:=hx.data,Cj:=hx.Cj,sp:=hx.sp,yB:=hx.yB,Cl:=hx.Cl,Mm:=hx.Mm,Mn:=hx.Mn,root:=h2,ZY:=hx.ZY}
def tl(ok:A.i.length=A.n.length):(A.cut h).i.length=(A.cut h).n.length:=by rw[Z0];unfold Ar.cut;simp only;split<;>exact ok
def tn{p n b:Int}(ok:A.i.length=A.n.length):(A.My p n b).i.length=(A.My p n b).n.length:=by rw[Z3];exact ok
def a_(ok:CX A e)(a:A.has h)(hk:k∈(A.nd h).AT):k≠h/\(A.nd k).FL=h/\A.has k:=by have:=ok.IG h a k hk;refine⟨?_,this.2,this.1⟩;rintro rfl;have h0:=this.1.1;exact eT ok a (by rw[this.2];omega) this.2
def tV(ok:CX A e)(a:A.has h):(A.cut h).up k=if k=h then(A.nd h).C0 else A.up k:=by
 unfold Ar.up;rw[Pr ok a];by_cases e:k=h;.simp[e]
 .simp only[e,E9];split<;>rfl
def tW(ok:CX A e)(c:A.has h)(S0:(A.nd h).kind≠2):CX (A.cut h) e:=by
 obtain⟨r,hr⟩:=ok.X4;have a:=λm=>Pr (k:=m) ok c;have kd:∀m,((A.cut h).nd m).kind=(A.nd m).kind:=λm=>by rw[a];grind
 have l:∀m,((A.cut h).nd m).BO=(A.nd m).BO:=λm=>by rw[a];grind
 have n:∀m,((A.cut h).nd m).cont=(A.nd m).cont:=λm=>by rw[a];grind
 have ho:∀m,((A.cut h).nd m).C0=(A.nd m).C0:=λm=>by rw[a];grind
 have d:(A.nd h).C0=0:=by
  by_cases h0:(A.nd h).C0=0;.exact h0
  .exact absurd ((ok.NW h c).Mn h0) S0
 refine⟨tl ok.il,?_,?_,?_,?_,?_,?_,?_,?_,?_,r,?_⟩<;>intro m hm<;>rw[HF] at hm<;>(try simp only[kd,l,n,ho,HF,ay])
 .rw[a];split;.exact jQ (ok.NW h c) Aw
  .split;.exact Z4 (ok.NW m hm) ((ok.NW m hm).ZY.filter _) λh1=>(ok.NW m hm).AT (by intro h2;rw[h2] at h1;simp at h1)
   .exact ok.NW m hm
 .exact ok.BO m hm
 .exact ok.Ux m hm
 .intro h1;have b:m≠h:=by rintro rfl;rw[a] at h1;simp at h1
  have j:((A.cut h).nd m).FL=(A.nd m).FL:=by rw[a,Ac b];split<;>rfl
  rw[j] at h1⊢;have h2:=ok.FL m hm h1;refine⟨h2.1,?_⟩;rw[a];split;.rename_i i;rw[<-i];exact h2.2
  .split;.simp only[CG,C9];exact⟨h2.2,b⟩
   .exact h2.2
 .intro q hq;have h1:q∈(A.nd m).AT/\(m=(A.nd h).FL->q≠h):=by
   rw[a] at hq;split at hq;.rename_i b;subst b;have:=a_ ok hm hq;exact⟨hq,λ_=>this.1⟩
   .split at hq;.simp only[CG,C9] at hq;exact⟨hq.1,λ_=>hq.2⟩
    .rename_i g;refine⟨hq,λf o=>g ⟨?_,f⟩⟩;rw[<-f];have:=hm.1;omega
  have h2:=ok.IG m hm q h1.1;refine⟨h2.1,?_⟩;have b:q≠h:=by rintro rfl;exact h1.2 h2.2.symm rfl
  rw[a,Ac b,<-h2.2];split<;>rfl
 .intro h1 h2;refine ok.ax m hm h1 ?_;rw[a] at h2;unfold S2 at h2⊢;grind
 .exact ok.cont m hm
 .exact ok.C0 m hm
 .exact ok.tj m hm
 .rw[tV ok c];split;.rw[d];simp
  .exact hr m hm
def X6{p n b:Int}(hp:A.has p)(hn:A.has n)(hne:n≠p):(A.My p n b).nd k=if k=n then{A.nd n with FL:=p} else if k=p then{A.nd p with AT:=Lr (A.nd p).AT b n} else A.nd k:=by
 unfold Ar.My;simp only[FA,HE,hp,hn,J1];by_cases e:k=n;.subst e;simp[hne]
 .simp[e]
def oH{p n b:Int}(hp:A.has p)(hn:A.has n)(hne:n≠p)(h0:(A.nd n).FL=0)(a:(A.nd n).C0=0)(hr:¬Reach A n p):∀{m},¬Reach A n m->(A.My p n b).up m=A.up m:=by
 intro m hm;have e:m≠n:=by rintro rfl;exact hm .refl
 unfold Ar.up;rw[X6 hp hn hne,Ac e];split;.rename_i e;subst e;rfl
 .rfl
open Classical in
def tr(ok:CX A e){p n b:Int}(hp:A.has p)(hn:A.has n)(kp:Nh (A.nd p).kind)(kn:(A.nd n).kind≠1/\(A.nd n).kind≠2)(re:¬Reach A n p)(h0:(A.nd n).FL=0):CX (A.My p n b) e:=by
 obtain⟨r,hr⟩:=ok.X4;have hne:n≠p:=by rintro rfl;exact re .refl
 have a:=λm=>X6 (k:=m) (b:=b) hp hn hne;have kd:∀m,((A.My p n b).nd m).kind=(A.nd m).kind:=λm=>by rw[a];grind
 have l:∀m,((A.My p n b).nd m).BO=(A.nd m).BO:=λm=>by rw[a];grind
 have o:∀m,((A.My p n b).nd m).cont=(A.nd m).cont:=λm=>by rw[a];grind
 have ho:∀m,((A.My p n b).nd m).C0=(A.nd m).C0:=λm=>by rw[a];grind
 have i:(A.nd n).C0=0:=by
  by_cases h0:(A.nd n).C0=0;.exact h0
  .exact absurd ((ok.NW n hn).Mn h0) kn.2
 have g:∀m,A.has m->n∉(A.nd m).AT:=by intro m hm h1;have:=ok.IG m hm n h1;rw[h0] at this;have:=hm.1;omega
 refine⟨tn ok.il,?_,?_,?_,?_,?_,?_,?_,?_,?_,λm=>if Reach A n m then r m+r p+1 else r m,?_⟩<;>intro m hm<;>rw[S3] at hm<;>(try simp only[kd,l,o,ho,S3,az])
 .rw[a];split;.exact jQ (ok.NW n hn) λ_=>kn
  .split;.exact Z4 (ok.NW p hp) (ZZ (ok.NW p hp).ZY (g p hp)) λ_=>kp
   .exact ok.NW m hm
 .exact ok.BO m hm
 .exact ok.Ux m hm
 .intro h1;by_cases c:m=n
  .subst c;rw[a,Ad rfl];refine⟨hp,?_⟩;simp only
   rw[a,Ac (DX hne),Ad rfl];exact Mo.2 (.inl rfl)
  .have f:((A.My p n b).nd m).FL=(A.nd m).FL:=by rw[a,Ac c];split;rename_i e;rw[e];rfl
   rw[f] at h1⊢;have h2:=ok.FL m hm h1;refine⟨h2.1,?_⟩;rw[a];split;.rename_i j;rw[<-j];exact h2.2
   .split;.rename_i j;rw[<-j];exact Mo.2 (.inr h2.2)
    .exact h2.2
 .intro q hq;by_cases c:q=n
  .subst c;refine⟨hn,?_⟩;rw[a,Ad rfl];rw[a] at hq;split at hq;.exact absurd hq (g q hn)
   .split at hq;.rename_i e;exact e.symm
    .exact absurd hq (g m hm)
  .have h1:q∈(A.nd m).AT:=by
    rw[a] at hq;split at hq;.rename_i e;rw[e];exact hq
    .split at hq;.rename_i e;rw[e];exact(Mo.1 hq).resolve_left c
     .exact hq
   have h2:=ok.IG m hm q h1;refine⟨h2.1,?_⟩;rw[a,Ac c,<-h2.2];split;.rename_i e;rw[e]
   .rfl
 .intro h1 h2;refine ok.ax m hm h1 ?_;rw[a] at h2;unfold S2 at h2⊢;grind
 .exact ok.cont m hm
 .exact ok.C0 m hm
 .exact ok.tj m hm
 .intro hu;by_cases hR:Reach A n m
  .by_cases c:m=n
   .subst c;have f:(A.My p m b).up m=p:=by unfold Ar.up;rw[a,Ad rfl];simp only;rw[Ad];have:=hp.1;omega
    rw[f,Ac re,Ad hR];omega
   .have f:(A.My p n b).up m=A.up m:=by
     unfold Ar.up;rw[a,Ac c];split;.rename_i e;rw[e]
     .rfl
    rw[f] at hu⊢;have d:Reach A n (A.up m):=by
     cases hR with
     |refl=>exact absurd rfl c
     |step _ hx=>exact hx
    rw[Ad d,Ad hR];have:=hr m hm hu;omega
  .have f:=oH (b:=b) hp hn hne h0 i re hR;rw[f] at hu⊢;have d:¬Reach A n (A.up m):=λh=>hR (.step hu h);rw[Ac d,Ac hR];exact hr m hm hu
def oI(ok:CX A e)(b:A.has h){m:Int}(hr:¬Reach A h m):¬Reach (A.cut h) h m:=by
 intro Lj;have key:∀m,Reach (A.cut h) h m->Reach A h m:=by
  intro m hm;induction hm with
  |refl=>exact .refl
  |@step q h1 _ ih=>
   by_cases a:q=h;.rw[a];exact .refl
   .rw[tV ok b,Ac a] at h1 ih;exact .step h1 ih
 exact hr (key m Lj)
def MX(ok:CX A e){p n b:Int}:CX (A.D9 p n b) e:=by
 unfold Ar.D9;split
 .rename_i f;have a:=tW ok f.hn f.kn.2;have kd:∀m,((A.cut n).nd m).kind=(A.nd m).kind:=λm=>by rw[Pr ok f.hn];grind
  refine tr a (HF.2 f.hp) (HF.2 f.hn) ?_ ?_ (oI ok f.hn f.re) ?_;.rw[kd];exact f.kp
  .rw[kd];exact f.kn
  .rw[Pr ok f.hn,Ad rfl]
 .exact ok
def tX(ok:CX A e)(g:A.has h)(hx:eS x)(h1:x.kind=(A.nd h).kind)(h2:x.FL=(A.nd h).FL)(o:x.AT=(A.nd h).AT)(d:A.has x.BO/\(A.nd x.BO).kind=1/\(x.kind=1->x.BO=h))(n:x.cont=(A.nd h).cont)(l:x.C0=(A.nd h).C0)(i:S2 x->S2 (A.nd h)):CX (A.set h x) e:=by
 obtain⟨r,hr⟩:=ok.X4;have a:∀m,(A.set h x).nd m=if m=h then x else A.nd m:=λm=>by rw[FA];simp[g]
 have kd:∀m,((A.set h x).nd m).kind=(A.nd m).kind:=λm=>by rw[a];grind
 have f:∀m,((A.set h x).nd m).FL=(A.nd m).FL:=λm=>by rw[a];grind
 have ks:∀m,((A.set h x).nd m).AT=(A.nd m).AT:=λm=>by rw[a];grind
 have j:∀m,((A.set h x).nd m).cont=(A.nd m).cont:=λm=>by rw[a];grind
 have ho:∀m,((A.set h x).nd m).C0=(A.nd m).C0:=λm=>by rw[a];grind
 have u:∀m,(A.set h x).up m=A.up m:=λm=>by unfold Ar.up;rw[f,ho]
 refine⟨by rw[H7];exact ok.il,?_,?_,?_,?_,?_,?_,?_,?_,?_,r,?_⟩<;>intro m hm<;>rw[HE] at hm<;>(try simp only[kd,f,ks,j,ho,u,HE,Lq])
 .rw[a];split;.exact hx
  .exact ok.NW m hm
 .rw[a];split;.exact⟨d.1,d.2.1⟩
  .exact ok.BO m hm
 .rw[a];split;.rename_i e;intro c;rw[e,d.2.2 (by rw[h1,<-e];exact c)]
  .exact ok.Ux m hm
 .exact ok.FL m hm
 .exact ok.IG m hm
 .intro c b;refine ok.ax m hm c ?_;rw[a] at b;split at b;.rename_i e;rw[e];exact i b
  .exact b
 .exact ok.cont m hm
 .exact ok.C0 m hm
 .exact ok.tj m hm
 .exact hr m hm
def Ar.Gj(A:Ar)(d:Int):Int:=if A.inr d≠0 then A.inr d else A.len+1
def Ar.CO(A:Ar)(d:Int):Ar:=if A.inr d≠0 then A else((A.add {kind:=1,BO:=A.len+1}).Kc d (A.len+1)).Kc (A.len+1) (A.len+1)
def bb:eS {kind:=1,BO:=k}:=by constructor<;>simp[Cl,F9]
def jR(ok:CX A e)(hk:A.has k/\(A.nd k).kind=1):CX (A.Kc h k) e:=by
 refine⟨?_,ok.NW,ok.BO,ok.Ux,ok.FL,ok.IG,ok.ax,ok.cont,ok.C0,?_,ok.X4⟩;.simp only[Ar.Kc];split<;>simp[ok.il]
 .intro m hm h1;rw[Qm] at hm;rw[KN ok.il] at h1⊢;split at h1;.rename_i h2;rw[Ad h2];exact hk
  .rename_i h2;rw[Ac h2];exact ok.tj m hm h1
def tY(ok:CX A e)(b:A.has h)(he:e≠A.len+1):CX (A.CO h) e/\(A.CO h).has (A.Gj h)/\((A.CO h).nd (A.Gj h)).kind=1:=by
 unfold Ar.CO Ar.Gj;split;.rename_i h1;exact⟨ok,ok.tj h b h1⟩
 .have a:=Pq ok (x:={kind:=1,BO:=A.len+1}) bb (.inl ⟨rfl,rfl⟩) rfl rfl rfl rfl (by simp[S2]);have h2:(A.add {kind:=1,BO:=A.len+1}).has (A.len+1)/\((A.add {kind:=1,BO:=A.len+1}).nd (A.len+1)).kind=1:=by rw[Dh,EB,Ad rfl];exact⟨.inr rfl,rfl⟩
  exact⟨jR (jR a h2) h2,h2⟩
def Uz(hk:k≠A.len+1\/A.inr h≠0):(A.CO h).nd k=A.nd k:=by
 unfold Ar.CO;split;.rfl
 .rename_i h1;rw[jP,jP,EB,Ac (hk.resolve_right h1)]
def oJ:(A.CO h).len=if A.inr h≠0 then A.len else A.len+1:=by
 unfold Ar.CO;split;.rfl
 .rw[ZV,ZV,MW]
def Kz:A.has k->(A.CO h).has k:=by
 unfold Ar.CO;split;.exact id
 .intro hk;rw[Qm,Qm,Dh];exact .inl hk
def bc{d:Int}(ok:CX A e)(he:A.has e)(n:S2 (A.nd e))(hc:(A.nd e).cont=0)(hd:A.has d/\(A.nd d).kind=1):CX ((A.add {kind:=2,C0:=e,BO:=d}).set e {A.nd e with cont:=A.len+1}) 0:=by
 have no:=NX (A:=A);obtain⟨r,hr⟩:=ok.X4;have ne:∀{k},A.has k->k≠A.len+1:=λhk e=>no (e▸hk);have l0:A.len+1≠0:=by have:=he.1;have:=he.2;unfold Ar.len;omega
 have b:∀m,(((A.add {kind:=2,C0:=e,BO:=d}).set e {A.nd e with cont:=A.len+1}).nd m)=if m=e then{A.nd e with cont:=A.len+1} else if m=A.len+1 then{kind:=2,C0:=e,BO:=d} else A.nd m:=λm=>by rw[FA,EB];simp[he,Dh]
 have hk:(A.nd e).kind=4:=n.1;have h0:(A.nd e).C0=0:=by
  by_cases h0:(A.nd e).C0=0;.exact h0
  .have:=(ok.NW e he).Mn h0;omega
 have e0:e≠0:=by have:=he.1;omega
 have i:eS {kind:=2,C0:=e,BO:=d}:=by constructor<;>simp[Cl,F9]
 have NW:=ok.NW;have c:=NW e he;have hne:eS {A.nd e with cont:=A.len+1}:={k:=c.k,AT:=c.AT,elem:=c.elem,nm:=c.nm,dt:=c.dt,data:=c.data,Cj:=c.Cj,sp:=c.sp,yB:=c.yB,Cl:=c.Cl,Mm:=λ_=>n,Mn:=c.Mn,root:=c.root,ZY:=c.ZY};have hs:∀m,((A.add {kind:=2,C0:=e,BO:=d}).set e {A.nd e with cont:=A.len+1}).has m↔A.has m\/m=A.len+1:=λm=>by rw[HE,Dh]
 have hi:∀m,((A.add {kind:=2,C0:=e,BO:=d}).set e {A.nd e with cont:=A.len+1}).inr m=A.inr m:=λm=>by rw[Lq,IZ ok.il]
 have g:e≠A.len+1:=ne he;refine⟨by rw[H7];simp[Ar.add,Ar.set,ok.il],?_,?_,?_,?_,?_,?_,?_,?_,?_,λm=>if m=A.len+1 then r e+1 else r m,?_⟩<;>intro m hm<;>rw[hs] at hm<;>(try simp only[hs,hi])
 .rw[b];split;.exact hne
  .split;.exact i
   .rename_i h1 h2;exact NW m (hm.resolve_right h2)
 .have key:∀q,A.has q/\(A.nd q).kind=1->(A.has q\/q=A.len+1)/\(((A.add {kind:=2,C0:=e,BO:=d}).set e {A.nd e with cont:=A.len+1}).nd q).kind=1:=by
   intro q hq;refine⟨.inl hq.1,?_⟩;rw[b,Ac (ne hq.1)];split;.rename_i a;rw[a] at hq;exact hq.2
   .exact hq.2
  rw[b m];split;.exact key _ (ok.BO e he)
  .split;.exact key _ hd
   .rename_i h1 h2;exact key _ (ok.BO m (hm.resolve_right h2))
 .rw[b m];split;.rename_i a;intro h1;rw[a];exact ok.Ux e he h1
  .split;.intro h1;simp at h1
   .rename_i h1 h2;exact ok.Ux m (hm.resolve_right h2)
 .have key:∀q,A.has q->(A.nd q).FL≠0->(A.has (A.nd q).FL\/(A.nd q).FL=A.len+1)/\q∈(((A.add {kind:=2,C0:=e,BO:=d}).set e {A.nd e with cont:=A.len+1}).nd (A.nd q).FL).AT:=by
   intro q hq hp;have h1:=ok.FL q hq hp;refine⟨.inl h1.1,?_⟩;rw[b,Ac (ne h1.1)];split;.rename_i a;rw[a] at h1;exact h1.2
   .exact h1.2
  rw[b m];split;.rename_i a;rw[a];exact key e he
  .split;.intro h1;simp at h1
   .rename_i h1 h2;exact key m (hm.resolve_right h2)
 .have key:∀q,A.has q->∀k∈(A.nd q).AT,(A.has k\/k=A.len+1)/\(((A.add {kind:=2,C0:=e,BO:=d}).set e {A.nd e with cont:=A.len+1}).nd k).FL=q:=by
   intro q hq k hk;have h1:=ok.IG q hq k hk;refine⟨.inl h1.1,?_⟩;rw[b,Ac (ne h1.1)];split;.rename_i a;rw[a] at h1;exact h1.2
   .exact h1.2
  rw[b m];split;.rename_i a;rw[a];exact key e he
  .split;.intro k hk;simp at hk
   .rename_i h1 h2;exact key m (hm.resolve_right h2)
 .intro _;rw[b m];split;.intro _;exact l0
  .split;.intro h1;simp[S2] at h1
   .rename_i h1 h2;exact ok.ax m (hm.resolve_right h2) h1
 .rw[b m];split
  .rename_i a;intro _;simp only
   rw[b,Ac (DX g),Ad rfl,a];exact⟨.inr trivial,rfl,rfl⟩
  .split;.intro h1;simp at h1
   .rename_i h1 h2;intro j;have f:=ok.cont m (hm.resolve_right h2) j;refine⟨.inl f.1,?_⟩;rw[b,Ac (ne f.1)];split;.rename_i a;rw[a,hk] at f;exact absurd f.2.1 Bj
    .exact f.2
 .rw[b m];split;.intro h1;exact absurd h0 h1
  .split;.rename_i a;intro _;simp only;refine⟨.inl he,?_⟩;rw[b,Ad rfl,a]
   .rename_i h1 h2;intro j;have f:=ok.C0 m (hm.resolve_right h2) j;refine⟨.inl f.1,?_⟩;rw[b,Ac (ne f.1)];split;.rename_i a;rw[a,hc] at f;have:=(hm.resolve_right h2).1;omega
    .exact f.2
 .intro h1;rcases hm with hm|rfl
  .have h2:=ok.tj m hm h1;refine⟨.inl h2.1,?_⟩;rw[b,Ac (ne h2.1)];split;.rename_i a;rw[a] at h2;exact h2.2
   .exact h2.2
  .exfalso;apply h1;unfold Ar.inr;rw[Ac no]
 .by_cases a:m=A.len+1
  .have l:((A.add {kind:=2,C0:=e,BO:=d}).set e {A.nd e with cont:=A.len+1}).up m=e:=by
    have o:m≠e:=by rw[a];exact DX g
    unfold Ar.up;rw[b m];simp[a,DX g]
   rw[l,Ac g,Ad a];intro _;omega
  .have hm:=hm.resolve_right a;have l:((A.add {kind:=2,C0:=e,BO:=d}).set e {A.nd e with cont:=A.len+1}).up m=A.up m:=by
    unfold Ar.up;rw[b];split;.rename_i o;rw[o]
    .rfl
   rw[l,Ac a];intro h1;rw[Ac (ne (X5 ok hm h1))];exact hr m hm h1
def Ar.elem(A:Ar)(d sp:Int)(nm:Aq)(at_:List A3):Ar:=
 let x:D8:={kind:=4,BO:=d,AW:=sp,name:=nm,Av:=Cl at_}
 if S2 x then
  let b:=A.add x
  let a:=b.CO d
  (a.add {kind:=2,C0:=A.len+1,BO:=b.Gj d}).set (A.len+1) {x with cont:=a.len+1}
 else A.add x
def jS{d sp:Int}{nm:Aq}{l:List A3}(ok:CX A 0)(hd:A.has d/\(A.nd d).kind=1)(hs:0<=sp/\sp<=7)(hl:∀a∈l,0<=a.AW/\a.AW<=7):CX (A.elem d sp nm l) 0:=by
 have hx:eS {kind:=4,BO:=d,AW:=sp,name:=nm,Av:=Cl l}:=by constructor<;>simp[WG,hs];exact λa ha=>hl a (ZX ha)
 unfold Ar.elem;simp only
 split
 .rename_i c;have b:CX A (A.len+1):={ok with ax:=λh g _=>ok.ax h g (by have:=g.1;omega)};have j:=Pq b hx (.inr ⟨Aw,hd⟩) rfl rfl rfl rfl λ_=>rfl;have tz:(A.add {kind:=4,BO:=d,AW:=sp,name:=nm,Av:=Cl l}).has d:=Dh.2 (.inl hd.1);obtain⟨i,h2,m⟩:=tY j tz (by rw[MW];omega);have f:((A.add {kind:=4,BO:=d,AW:=sp,name:=nm,Av:=Cl l}).CO d).nd (A.len+1)={kind:=4,BO:=d,AW:=sp,name:=nm,Av:=Cl l}:=by rw[Uz (.inl (by rw[MW];omega)),EB,Ad rfl]
  have:=bc i (Kz (Dh.2 (.inr rfl))) (by rw[f];exact c) (by rw[f]) ⟨h2,m⟩;rw[f] at this;exact this
 .rename_i c;exact Pq ok hx (.inr ⟨Aw,hd⟩) rfl rfl rfl rfl λh=>absurd h c
end
def aCv(e:B8):Bool:=decide (e.node=0)
def UA(n:Int)(e:B8):Bool:=decide (e.node=n)
def eU(l:List B8):Int:=AG aCv l+1
def FF(n:Int)(l:List B8):Int:=if n=0 then -1 else AG (UA n) l
def MY(name:Aq):List B8->Int
 |[]=> -1
 |x::t=>if x.node=0 then -1 else if x.name=name then(t.length:Int) else MY name t
def EF(name:Aq)(l:List B8):Int:=MY name l.reverse
def jT(e:B8):List B8->Nat
 |[]=>0
 |x::t=>if x.node=0 then 0 else jT e t+(if Kb x e=true then 1 else 0)
def Z5(e:B8):List B8->Int
 |[]=> -1
 |x::t=>if x.node=0 then -1 else if 0<=Z5 e t then Z5 e t else if Kb x e=true then(t.length:Int) else -1
def UB(e:B8)(l:List B8):List B8:=(if e.node≠0/\3<=jT e l.reverse then Bk l (Z5 e l.reverse).toNat else l)++[e]
def HQ(l:List B8):List B8:=l.take (eU l-1).toNat
structure BS where
 a:Ar
 BO:Int
 AO:List Item
 A9:List B8
 mode:Int
 Z6:Int
 tm:List Int
 head:Int
 Ps:Int
 NY:Bool
 ctx:Item
 fs:Bool
 ES:Bool
 oK:Aq
 skip:Bool
 sw:Int
 stop:Bool
def X7(s:List Aq)(A:Ar)(h:Int):Prop:=(A.nd h).kind=4/\(A.nd h).AW=1/\(A.nd h).name∈s
instance(s:List Aq)(A:Ar)(h:Int):Decidable (X7 s A h):=by unfold X7;infer_instance
abbrev Fe:Aq:=aLb
abbrev eV:Aq:=aLr
abbrev eW:Aq:=aLn
abbrev eX:Aq:=aLs
abbrev wTr:Aq:=[116,114]
abbrev wP:Aq:=[112]
def Hb:List Aq:=[Fe,eV,eW,eX,wTr]
namespace BS
def JS(b:BS):Int×Int:=
 let d:=AG (Bl [AY]) b.AO
 let c:=AG (Bl [Fe]) b.AO
 if c<d then((EA b.AO d).node,0) else if c<0 then((EA b.AO 0).node,0) else
 let t:=(EA b.AO c).node
 if(b.a.nd t).FL≠0 then((b.a.nd t).FL,t) else((EA b.AO (max (c-1) 0)).node,0)
def place(b:BS)(t:Int):Int×Int:=
 if t=0/\b.AO=[] then(b.BO,0) else
 let t':=if t=0 then(E6 b.AO).node else t
 let c:=if b.ES=true/\X7 Hb b.a t' then b.JS else(t',0)
 if(b.a.nd c.1).cont≠0 then((b.a.nd c.1).cont,0) else c
end BS
open Classical in
def Ar.Dn(A:Ar)(h p bf:Int):Ar:=if(A.nd p).kind=1/\(A.nd h).kind=4/\(∃k∈(A.nd p).AT,(A.nd k).kind=4) then A else A.D9 p h bf
namespace BS
def I0(b:BS)(p:Int):Int:=if(b.a.nd p).cont≠0 then(if(b.a.nd (b.a.nd p).cont).BO≠0 then(b.a.nd (b.a.nd p).cont).BO else b.BO) else if(b.a.nd p).BO≠0 then(b.a.nd p).BO else b.BO
def HR(sp:Int):Prop:=0<=sp/\sp<=7
instance(sp:Int):Decidable (HR sp):=by unfold HR;infer_instance
def KO(sp:Int)(nm:Aq):Aq:=if sp=2 then Dv nm Mi else nm
def HG(b:BS)(nm:Aq)(at_:List A3)(sp:Int):Item:=if HR sp then⟨b.a.len+1,sp,KO sp nm,HC sp (KO sp nm) (at_.map (Dp sp))⟩ else Item.zero
def DA(b:BS)(nm:Aq)(at_:List A3)(sp p:Int):BS:=if HR sp then{b with a:=b.a.elem (b.I0 p) sp (KO sp nm) (at_.map (Dp sp))} else b
def VF(b:BS)(sp:Int):Int:=if HR sp then b.a.len+1 else 0
def DV(b:BS)(nm:Aq)(at_:List A3)(sp:Int):BS:=
 if HR sp then
  let c:=b.place 0
  let b1:=b.DA nm at_ sp c.1
  {b1 with a:=b1.a.Dn (b.a.len+1) c.1 c.2,AO:=b1.AO++[b.HG nm at_ sp]}
 else b
def Ij(b:BS)(nm:Aq)(at_:List A3):BS:=
 let b1:=b.DV nm at_ 1
 {b1 with A9:=UB ⟨b.a.len+1,nm,at_⟩ b1.A9}
end BS
def Ku(r:Int):Aq:=
 if 0<=r/\r<128 then[UInt8.ofNat r.toNat]
 else if 128<=r/\r<2048 then[UInt8.ofNat (192+r.toNat/64),UInt8.ofNat (128+r.toNat%64)]
 else if 2048<=r/\r<65536/\¬(55296<=r/\r<57344) then[UInt8.ofNat (224+r.toNat/4096),UInt8.ofNat (128+r.toNat/64%64),UInt8.ofNat (128+r.toNat%64)]
 else if 65536<=r/\r<=1114111 then[UInt8.ofNat (240+r.toNat/262144),UInt8.ofNat (128+r.toNat/4096%64),UInt8.ofNat (128+r.toNat/64%64),UInt8.ofNat (128+r.toNat%64)]
 else[239,191,189]
def Rr(l:List Int)(bf:Int):Option Int:=if bf=0 then l.getLast? else(l.takeWhile λk=>decide (k≠bf)).getLast?
def Ar.Qn(A:Ar)(h:Int)(s:Aq):Ar:=A.set h {A.nd h with data:=s}
def Ar.KP(A:Ar)(h:Int)(l:List A3):Ar:=A.set h {A.nd h with Av:=Cl l}
namespace BS
def HS(A:Ar)(s:Aq)(p bf:Int):Ar:=
 if(A.nd p).kind=4\/(A.nd p).kind=2 then
  match Rr (A.nd p).AT bf with
  |some t=>if(A.nd t).kind=5 then A.Qn t ((A.nd t).data++s) else(A.add {kind:=5,BO:=(A.nd p).BO,data:=s}).Dn (A.len+1) p bf
  |none=>(A.add {kind:=5,BO:=(A.nd p).BO,data:=s}).Dn (A.len+1) p bf
 else A
def Z7(b:BS)(r:Int):BS:={b with a:=HS b.a (Ku r) (b.place 0).1 (b.place 0).2}
def DD(A:Ar)(s:Aq)(p bf:Int):Ar:=
 if Nh (A.nd p).kind then(A.add {kind:=6,BO:=(A.nd p).BO,data:=s}).Dn (A.len+1) p bf else A
def JH(b:BS)(s:Aq)(p:Int):BS:={b with a:=if p=0 then DD b.a s (b.place 0).1 (b.place 0).2 else DD b.a s p 0}
def Qo(b:BS)(nm:Aq)(at_:List A3)(st:Int):BS:=let b1:=b.DV nm at_ 1;{b1 with sw:=st,Z6:=b1.mode,mode:=8}
def I1(b:BS):BS:=if Mk (Bl [wP]) (LK 3) b.AO.reverse then{b with AO:=E0 Ee (Bl [wP]) (E0 (HD wP) Ee b.AO)} else b
def settled(b:BS)(e:B8):Bool:=decide (e.node=0\/0<=AG (Br e.node) b.AO)
def HH:List B8->BS->List B8×BS
 |[],b=>([],b)
 |e::l,b=>let r:=HH l (b.DV e.name e.Av 1);({e with node:=b.a.len+1}::r.1,r.2)
def MZ(b:BS):Nat:=(AG b.settled b.A9+1).toNat
def Eb(b:BS):BS:=let r:=HH (b.A9.drop b.MZ) b;{r.2 with A9:=b.A9.take b.MZ++r.1}
def Dw(b:BS)(nm:Aq):BS:=match b.AO.reverse.find? λi=>Bl [nm] i||IX i with
 |some i=>if Bl [nm] i then{b with AO:=GK i.node (E0 (HD nm) Ee b.AO)} else b
 |none=>b
def Oq(l:List Item):Int:=match l.reverse.find? λi=>Bl [AY] i||Bl [Fe] i with
 |some i=>if Bl [AY] i then 16 else 17
 |none=>16
end BS
abbrev tZ:Aq:=aLd
abbrev oL:Aq:=aLm
abbrev ć:Aq:=[98,111,100,121]
abbrev oM:Aq:=aLK
abbrev M0:Aq:=aLG
abbrev ly:Aq:=[116,100]
abbrev lz:Aq:=[116,104]
abbrev UC:Aq:=[104,101,97,100]
abbrev Eu:Aq:=aLe
def I2:List (Aq×Int):=[(wTr,14),(eV,13),(eX,13),(eW,13),(tZ,11),(oL,12),(Fe,9),(ć,7),(oM,20)]
namespace BS
def M1(b:BS)(x:Item)(k:Nat):Option Int:=
 if x.AW=1 then
  match I2.find? λr=>decide (r.1=x.name) with
  |some r=>some r.2
  |none=>
   if x.name=M0 then some (Oq (b.AO.take k))
   else if(x.name=ly\/x.name=lz)/\0<k then some 15
   else if x.name=AY then some (b.tm.getLast?.getD 7)
   else if x.name=UC/\0<k then some 4
   else if x.name=Eu then some (if b.head=0 then 3 else 6)
   else if k=0 then some 7 else none
 else if k=0 then some 7 else none
def Gs(b:BS)(k:Nat):Item:=if k=0/\b.NY=true then b.ctx else b.AO.getD k Item.zero
def Rs(b:BS):Nat->Int
 |0=>7
 |k+1=>match b.M1 (b.Gs k) k with
  |some m=>m
  |none=>b.Rs k
def KQ(b:BS):BS:={b with mode:=b.Rs b.AO.length}
def plain(l:List A3):List A3:=l.map λa=>⟨0,a.name,a.value⟩
def H8(b:BS)(l:List A3)(h:Int):BS:=if(b.a.nd h).kind=4 then{b with a:=b.a.KP h ((b.a.nd h).Av++plain l)} else b
def C7(b:BS):BS:=
 if AG (Bl [AY]) b.AO<0 then b
 else KQ {b with AO:=E0 Ee (Bl [AY]) (E0 DG Ee b.AO),A9:=HQ b.A9,tm:=b.tm.dropLast}
def S4(b:BS):BS:=if b.AO.length<2 then b else{b with AO:=b.AO.take (b.AO.length-1)}
def uA(b:BS):Item:=if b.AO.length<2 then Item.zero else E6 b.AO
end BS
def B8.zero:B8:=⟨0,[],[]⟩
namespace BS
def E7(blk anc:Int)(far i:Nat)(b:BS)(l:Int)(m:Nat):BS×Int×Nat:=
 let x:=b.AO.getD i Item.zero
 let e:=FF x.node b.A9
 if e<0 then({b with AO:=Bk b.AO i},l,m)
 else if i+3<far then({b with A9:=Bk b.A9 e.toNat,AO:=Bk b.AO i},l,if e.toNat<m then m-1 else m)
 else
  let c:=b.A9.getD e.toNat B8.zero
  let n:=b.HG c.name c.Av 1
  let b1:=b.DA c.name c.Av 1 anc
  ({b1 with a:=b1.a.D9 n.node l 0,AO:=b1.AO.set i n,A9:=b1.A9.set e.toNat {c with node:=n.node}},n.node,if l=blk then e.toNat+1 else m)
def JT(blk anc:Int)(far k:Nat):Nat->BS×Int×Nat->BS×Int×Nat
 |0,s=>s
 |c+1,s=>JT blk anc far k c (E7 blk anc far (k+(c+1)) s.1 s.2.1 s.2.2)
def Cw(A:Ar)(n:Int)(l:List Int):Ar:=l.foldl (λA x=>A.D9 n x 0) A
def Gk(fe:B8)(blk anc:Int)(s:BS×Int×Nat):BS:=
 let b1:=s.1
 let b:=b1.place anc
 let b2:={b1 with a:=b1.a.Dn s.2.1 b.1 b.2}
 let n:=b2.HG fe.name fe.Av 1
 let b3:=b2.DA fe.name fe.Av 1 blk
 let c:=FF fe.node b3.A9
 let mk:=if c.toNat<s.2.2 then s.2.2 -1 else s.2.2
 let ac:=Bk b3.A9 c.toNat
 let op:=DS fe.node b3.AO
 let ip:=GA (AG (Br blk) op+1) op.length
 {b3 with a:=(Cw b3.a n.node (b3.a.nd blk).AT).D9 blk n.node 0,A9:=ac.take (F8 mk ac.length)++{fe with node:=n.node}::ac.drop (F8 mk ac.length),AO:=op.take ip++n::op.drop ip}
def round(b:BS)(nm:Aq):Bool×BS:=
 let f:=EF nm b.A9
 if f<0 then(false,b.Dw nm) else
 let fe:=b.A9.getD f.toNat B8.zero
 let k:=AG (Br fe.node) b.AO
 if k<0 then(false,{b with A9:=Bk b.A9 f.toNat}) else
 if k=0\/Mk (Br fe.node) (LK 1) b.AO.reverse=false then(false,b) else
 let far:=CK fe.node b.AO
 if far<0 then(false,{b with AO:=GK fe.node b.AO,A9:=Bk b.A9 f.toNat}) else
 let blk:=(b.AO.getD far.toNat Item.zero).node
 let anc:=(b.AO.getD (k.toNat-1) Item.zero).node
 (true,Gk fe blk anc (JT blk anc far.toNat k.toNat (far.toNat-1 -k.toNat) (b,blk,f.toNat)))
def Eo:Nat->BS->Aq->BS
 |0,b,_=>b
 |n+1,b,nm=>let r:=b.round nm;if r.1 then Eo n r.2 nm else r.2
def HT(b:BS)(nm:Aq):BS:=
 if Bl [nm] (E6 b.AO)/\FF (E6 b.AO).node b.A9<0 then b.S4 else Eo 8 b nm
end BS
structure Le(A A':Ar):Prop where
 has:∀h,A.has h->A'.has h
 kind:∀h,A.has h->(A'.nd h).kind=(A.nd h).kind
 AW:∀h,A.has h->(A'.nd h).AW=(A.nd h).AW
 name:∀h,A.has h->(A'.nd h).name=(A.nd h).name
section
variable{A A' A'':Ar}{h k e p n b:Int}{x:D8}
def Le.refl:Le A A:=⟨λ_ h=>h,λ_ _=>rfl,λ_ _=>rfl,λ_ _=>rfl⟩
def Le.trans(h1:Le A A')(h2:Le A' A''):Le A A'':=⟨λh a=>h2.has h (h1.has h a),λh a=>by rw[h2.kind h (h1.has h a),h1.kind h a],λh a=>by rw[h2.AW h (h1.has h a),h1.AW h a],λh a=>by rw[h2.name h (h1.has h a),h1.name h a]⟩
def Le.l_(h1:∀h,A.has h->A'.has h)(h2:∀h,A.has h->A'.nd h=A.nd h):Le A A':=⟨h1,λh a=>by rw[h2 h a],λh a=>by rw[h2 h a],λh a=>by rw[h2 h a]⟩
def Pu(a:A.has h):h≠A.len+1:=λe=>NX (A:=A) (e▸a)
def Ep(a:A.has h):(A.add x).nd h=A.nd h:=by rw[EB,Ac (Pu a)]
def eY:Le A (A.add x):= .l_ (λh a=>Dh.2 (.inl a)) λh a=>Ep a
def X8(h1:x.kind=(A.nd h).kind)(h2:x.AW=(A.nd h).AW)(a:x.name=(A.nd h).name):Le A (A.set h x):=by
 refine⟨λk hk=>HE.2 hk,?_,?_,?_⟩<;>intro k hk<;>rw[FA]<;>split;.rename_i e;rw[e.1,h1]
 .rfl
 .rename_i e;rw[e.1,h2]
 .rfl
 .rename_i e;rw[e.1,a]
 .rfl
def jU{l:List Int}:Le A (A.set h {A.nd h with AT:=l}):=X8 rfl rfl rfl
def jV:Le A (A.set h {A.nd h with FL:=p}):=X8 rfl rfl rfl
def t_:Le A (A.cut n):=by
 unfold Ar.cut;simp only;split;.exact .refl
 .exact Le.trans jU jV
def ua:Le A (A.My p n b):=Le.trans jU jV
def M2:Le A (A.D9 p n b):=by unfold Ar.D9;split;exact t_.trans ua;exact .refl
def HI:Le A (A.Dn n p b):=by unfold Ar.Dn;split;exact .refl;exact M2
def Ls(ok:CX A e):CX (A.Dn n p b) e:=by unfold Ar.Dn;split;exact ok;exact MX ok
def KR{d sp:Int}{nm:Aq}{l:List A3}(a:A.has h):(A.elem d sp nm l).has h/\(A.elem d sp nm l).nd h=A.nd h:=by
 have hne:=Pu a;unfold Ar.elem;simp only
 split;.have h1:(A.add {kind:=4,BO:=d,AW:=sp,name:=nm,Av:=Cl l}).has h:=Dh.2 (.inl a);refine⟨HE.2 (Dh.2 (.inl (Kz h1))),?_⟩;rw[FA,Ac (λe=>hne e.1),Ep (Kz h1),Uz (.inl (Pu h1)),Ep a]
 .exact⟨Dh.2 (.inl a),Ep a⟩
def Qp{d sp:Int}{nm:Aq}{l:List A3}:(A.elem d sp nm l).has (A.len+1)/\((A.elem d sp nm l).nd (A.len+1)).kind=4/\((A.elem d sp nm l).nd (A.len+1)).AW=sp/\((A.elem d sp nm l).nd (A.len+1)).name=nm/\((A.elem d sp nm l).nd (A.len+1)).AT=[]/\((A.elem d sp nm l).nd (A.len+1)).FL=0/\((A.elem d sp nm l).nd (A.len+1)).BO=d/\((A.elem d sp nm l).nd (A.len+1)).Av=Cl l:=by
 unfold Ar.elem;simp only
 split;.have h1:(A.add {kind:=4,BO:=d,AW:=sp,name:=nm,Av:=Cl l}).has (A.len+1):=Dh.2 (.inr rfl);have h2:=Dh (x:={kind:=2,C0:=A.len+1,BO:=(A.add {kind:=4,BO:=d,AW:=sp,name:=nm,Av:=Cl l}).Gj d}).2 (.inl (Kz (h:=d) h1));rw[HE,FA,Ad ⟨rfl,h2⟩];exact⟨h2,rfl,rfl,rfl,rfl,rfl,rfl,rfl⟩
 .rw[EB,Ad rfl];exact⟨Dh.2 (.inr rfl),rfl,rfl,rfl,rfl,rfl,rfl,rfl⟩
def S5{d sp:Int}{nm:Aq}{l:List A3}:Le A (A.elem d sp nm l):= .l_ (λ_ h=>(KR h).1) λ_ h=>(KR h).2
def Z8{l:List A3}(ok:CX A e)(c:A.has h)(hk:(A.nd h).kind=4)(hl:∀a∈l,0<=a.AW/\a.AW<=7):CX (A.KP h l) e:=by have hx:=ok.NW h c;refine tX ok c ⟨hx.k,hx.AT,λh=>absurd hk h,hx.nm,hx.dt,hx.data,hx.Cj,hx.sp,λa ha=>hl a (ZX ha),WG l,hx.Mm,hx.Mn,hx.root,hx.ZY⟩ rfl rfl rfl ⟨(ok.BO h c).1,(ok.BO h c).2,ok.Ux h c⟩ rfl rfl λd=>d
def eZ{s:Aq}(ok:CX A e)(a:A.has h)(hk:(A.nd h).kind=5\/(A.nd h).kind=6):CX (A.Qn h s) e:=by have hx:=ok.NW h a;refine tX ok a ⟨hx.k,hx.AT,hx.elem,hx.nm,hx.dt,λf d=>by have:(A.nd h).kind≠5:=f;have:(A.nd h).kind≠6:=d;omega,hx.Cj,hx.sp,hx.yB,hx.Cl,hx.Mm,hx.Mn,hx.root,hx.ZY⟩ rfl rfl rfl ⟨(ok.BO h a).1,(ok.BO h a).2,ok.Ux h a⟩ rfl rfl λc=>c
def X9{kd d:Int}{s:Aq}(ok:CX A e)(he:e≠A.len+1)(hd:A.has d/\(A.nd d).kind=1)(hk:kd=5\/kd=6):CX (A.add {kind:=kd,BO:=d,data:=s}) e:=by
 refine Pq ok ?_ (.inr ⟨ER,hd⟩) rfl rfl rfl rfl (λh=>?_);.constructor<;>simp[Cl,F9]<;>omega
 .have:=h.1;simp at this;omega
def fA{s:Aq}:Le A (A.Qn h s):=X8 rfl rfl rfl
def Z9{l:List A3}:Le A (A.KP h l):=X8 rfl rfl rfl
def fB{sp:Int}{a:A3}:0<=(Dp sp a).AW/\(Dp sp a).AW<=7:=by
 unfold Dp;split
 .split
  .rename_i s m he;have:∀x∈fT,0<=x.2.1/\x.2.1<=7:=Bj;unfold IB at he;cases hf:fT.find? λx=>decide (Lp sp a.name=x.1) with
   |none=>rw[hf] at he;cases he
   |some y=>rw[hf] at he;have:=this y (OK hf);simp at he;rw[he] at this;exact this
  .exact⟨I6 0,Aw⟩
 .exact⟨I6 0,Aw⟩
end
structure Dz(b:BS):Prop where
 ok:CX b.a 0
 BO:b.a.has b.BO/\(b.a.nd b.BO).kind=1
 op:∀i∈b.AO,b.a.has i.node/\(b.a.nd i.node).kind=4/\(b.a.nd i.node).AW=i.AW/\(b.a.nd i.node).name=i.name
 qE:(b.AO.map Item.node).Nodup
 ac:∀e∈b.A9,e.node=0\/(b.a.has e.node/\(b.a.nd e.node).kind=4)
 qF:((b.A9.map B8.node).filter λn=>decide (n≠0)).Nodup
structure BA(b:BS):Prop where
 ok:CX b.a 0
 BO:b.a.has b.BO/\(b.a.nd b.BO).kind=1
def Dz.ba{b:BS}(o:Dz b):BA b:=⟨o.ok,o.BO⟩
instance{b:BS}:Coe (Dz b) (BA b):=⟨Dz.ba⟩
section
variable{b:BS}{t:Int}
def bd{A A':Ar}{l:List Item}(hl:Le A A')(h:∀i∈l,A.has i.node/\(A.nd i.node).kind=4/\(A.nd i.node).AW=i.AW/\(A.nd i.node).name=i.name):∀i∈l,A'.has i.node/\(A'.nd i.node).kind=4/\(A'.nd i.node).AW=i.AW/\(A'.nd i.node).name=i.name:=by intro i hi;have:=h i hi;rw[hl.kind _ this.1,hl.AW _ this.1,hl.name _ this.1];exact⟨hl.has _ this.1,this.2⟩
def jW{A A':Ar}{l:List B8}(hl:Le A A')(h:∀e∈l,e.node=0\/(A.has e.node/\(A.nd e.node).kind=4)):∀e∈l,e.node=0\/(A'.has e.node/\(A'.nd e.node).kind=4):=by
 intro e he;rcases h e he with h|h
 .exact .inl h
 .rw[hl.kind _ h.1];exact .inr ⟨hl.has _ h.1,h.2⟩
def Dz.JU(o:Dz b){A:Ar}(ok:CX A 0)(hl:Le b.a A):Dz {b with a:=A}:=
 ⟨ok,by rw[hl.kind _ o.BO.1];exact⟨hl.has _ o.BO.1,o.BO.2⟩,bd hl o.op,o.qE,jW hl o.ac,o.qF⟩
def Dz.aCx(o:Dz b){l:List Item}(h1:∀i∈l,i∈b.AO)(h2:(l.map Item.node).Nodup):Dz {b with AO:=l}:=
 ⟨o.ok,o.BO,λi hi=>o.op i (h1 i hi),h2,o.ac,o.qF⟩
def Dz.Ya(o:Dz b){l:List Item}(h1:List.Sublist l b.AO):Dz {b with AO:=l}:=o.aCx (λ_ hi=>h1.subset hi) (o.qE.sublist (h1.map _))
def Dz.fC(o:Dz b){l:List B8}(h1:List.Sublist l b.A9):Dz {b with A9:=l}:=
 ⟨o.ok,o.BO,o.op,o.qE,λe he=>o.ac e (h1.subset he),o.qF.sublist ((h1.map _).filter _)⟩
def E8{p q:Item->Bool}{l:List Item}:List.Sublist (E0 p q l) l:=by
 have key:∀r:List Item,List.Sublist (Ml p q r) r:=by
  intro r;induction r with
  |nil=>exact AF _
  |cons x r ih=>
   cases r with
   |nil=>exact AF _
   |cons y r=>
    rw[Ml];split;.exact AF _
    .split;.exact RE _ _
     .exact ih.trans (RE _ _)
 have:=(key l.reverse).reverse;rwa [EH] at this
def Hp{n:Int}{l:List Item}:List.Sublist (GK n l) l:=by unfold GK;split;exact AF _;exact E8
def Ck{U:Type}{l:List U}{k:Nat}:List.Sublist (Bk l k) l:=by
 unfold Bk;conv=>rhs;rw[<-BM k l]
 refine List.Sublist.append (AF _) ?_;rw[<-DL];exact aGN _ _
def Lt{n:Int}{l:List Item}:List.Sublist (DS n l) l:=by unfold DS;split;exact AF _;exact Ck
def Ik{l:List Item}{i:Int}(h0:0<=i)(h1:i<l.length):EA l i∈l:=by unfold EA;rw[Ad h0,Ax,Ai Ab];exact AJ _
def Il{U:Type}{q:U->Bool}{l:List U}:AG q l<l.length∧-1<=AG q l:=by rcases CV (q:=q) (l:=l) with⟨h1,_⟩|⟨n,hn,h1,_⟩<;>rw[h1]<;>omega
def Rt{l:List Item}(h:l≠[]):E6 l∈l:=by have:0<l.length:=DB.2 h;exact Ik Ab Ab
def jX(o:Dz b)(hn:b.AO≠[]):b.a.has b.JS.1/\(b.JS.2≠0->b.a.has b.JS.2/\(b.a.nd b.JS.2).FL=b.JS.1):=by
 have hl:0<b.AO.length:=DB.2 hn;have h1:=Il (q:=Bl [AY]) (l:=b.AO);have h2:=Il (q:=Bl [Fe]) (l:=b.AO);unfold BS.JS;simp only
 split;.exact⟨(o.op _ (Ik Ab Ab)).1,λh=>absurd rfl h⟩
 .split;.exact⟨(o.op _ (Ik Ab Ab)).1,λh=>absurd rfl h⟩
  .have c:=o.op _ (Ik (l:=b.AO) (i:=AG (Bl [Fe]) b.AO) Ab Ab);split;.rename_i hp;exact⟨(o.ok.FL _ c.1 hp).1,λ_=>⟨c.1,rfl⟩⟩
   .exact⟨(o.op _ (Ik Ab Ab)).1,λh=>absurd rfl h⟩
def KS(o:Dz b)(ht:t=0\/(b.a.has t/\b.AO≠[])):b.a.has (b.place t).1/\((b.place t).2≠0->b.a.has (b.place t).2/\(b.a.nd (b.place t).2).FL=(b.place t).1):=by
 unfold BS.place;simp only
 split;.exact⟨o.BO.1,λh=>absurd rfl h⟩
 .rename_i h0;have hn:b.AO≠[]:=by
   rcases ht with h|h
   .intro h2;exact h0 ⟨h,h2⟩
   .exact h.2
  have h1:b.a.has (if t=0 then(E6 b.AO).node else t):=by
   split;.exact(o.op _ (Rt hn)).1
   .rename_i h2;exact(ht.resolve_left h2).1
  generalize(if t=0 then(E6 b.AO).node else t)=t' at h1;have h2:b.a.has (if b.ES=true/\X7 Hb b.a t' then b.JS else(t',0)).1/\((if b.ES=true/\X7 Hb b.a t' then b.JS else(t',0)).2≠0->b.a.has (if b.ES=true/\X7 Hb b.a t' then b.JS else(t',0)).2/\(b.a.nd (if b.ES=true/\X7 Hb b.a t' then b.JS else(t',0)).2).FL=(if b.ES=true/\X7 Hb b.a t' then b.JS else(t',0)).1):=by
   split;.exact jX o hn
   .exact⟨h1,λh=>absurd rfl h⟩
  generalize(if b.ES=true/\X7 Hb b.a t' then b.JS else(t',0))=c at h2;split;.rename_i hc;exact⟨(o.ok.cont _ h2.1 hc).1,λh=>absurd rfl h⟩
  .exact h2
def Ot(o:BA b){p:Int}:b.a.has (b.I0 p)/\(b.a.nd (b.I0 p)).kind=1:=by
 unfold BS.I0;by_cases hp:b.a.has p
 .have key:∀q,b.a.has q->b.a.has (if(b.a.nd q).BO≠0 then(b.a.nd q).BO else b.BO)/\(b.a.nd (if(b.a.nd q).BO≠0 then(b.a.nd q).BO else b.BO)).kind=1:=by
   intro q hq;split;.exact o.ok.BO q hq
   .exact o.BO
  split;.rename_i hc;exact key _ (o.ok.cont p hp hc).1
  .exact key p hp
 .rw[IY hp];exact o.BO
variable{nm:Aq}{at_:List A3}{sp p:Int}
structure uB(b b1:BS)(i:Item):Prop where
 has:b1.a.has i.node
 kind:(b1.a.nd i.node).kind=4
 AW:(b1.a.nd i.node).AW=i.AW
 name:(b1.a.nd i.node).name=i.name
 new:¬b.a.has i.node
def JV(o:Dz b)(hs:BS.HR sp):Dz (b.DA nm at_ sp p)/\uB b (b.DA nm at_ sp p) (b.HG nm at_ sp)/\Le b.a (b.DA nm at_ sp p).a:=by
 have hd:=Ot o.ba (p:=p);unfold BS.DA BS.HG;rw[Ad hs,Ad hs];have ok:=jS (sp:=sp) (nm:=BS.KO sp nm) (l:=at_.map (Dp sp)) o.ok hd hs (by intro a ha;obtain⟨c,_,rfl⟩:=AZ.1 ha;exact fB)
 have hn:=Qp (A:=b.a) (d:=b.I0 p) (sp:=sp) (nm:=BS.KO sp nm) (l:=at_.map (Dp sp));exact⟨o.JU ok S5,⟨hn.1,hn.2.1,hn.2.2.1,hn.2.2.2.1,NX⟩,S5⟩
def ub(o:BA b)(hs:BS.HR sp):BA (b.DA nm at_ sp p):=by
 have hd:=Ot o (p:=p);unfold BS.DA;rw[Ad hs];have ok:=jS (sp:=sp) (nm:=BS.KO sp nm) (l:=at_.map (Dp sp)) o.ok hd hs (by intro a ha;obtain⟨c,_,rfl⟩:=AZ.1 ha;exact fB)
 have l:Le b.a _:=S5 (A:=b.a) (d:=b.I0 p) (sp:=sp) (nm:=BS.KO sp nm) (l:=at_.map (Dp sp));exact⟨ok,by rw[l.kind _ o.BO.1];exact⟨l.has _ o.BO.1,o.BO.2⟩⟩
def Ou(o:Dz b){b1:BS}{i:Item}(f:uB b b1 i):i.node∉b.AO.map Item.node:=by intro h;obtain⟨j,hj,e⟩:=AZ.1 h;exact f.new (e▸(o.op j hj).1)
def Ru(o:Dz b){b1:BS}{i:Item}(f:uB b b1 i):i.node∉b.A9.map B8.node:=by
 intro h;obtain⟨j,hj,e⟩:=AZ.1 h;rcases o.ac j hj with h1|h1
 .have:=f.has.1;omega
 .exact f.new (e▸h1.1)
def oN{U:Type}[DecidableEq U]{l:List U}{k:Nat}{x:U}(h:l.Nodup)(hx:x∉l):(l.take k++x::l.drop k).Nodup:=by
 have e:=BM k l;rw[BF];rw[<-e,BF] at h;refine⟨h.1,BL.2 ⟨λh1=>hx (A6 h1),h.2.1⟩,?_⟩;rintro a ha c hc rfl;rcases Az.1 hc with rfl|hc
 .exact hx (AN ha)
 .exact h.2.2 _ ha _ hc rfl
def fD{U:Type}[DecidableEq U]{l:List U}{k:Nat}{x:U}(h:l.Nodup)(hx:x∉l):(l.set k x).Nodup:=by
 rw[Cd];split
 .have e:=BM k l;rw[BF];rw[<-e,BF] at h;have hd:List.Sublist (l.drop (k+1)) (l.drop k):=by rw[<-DL];exact aGN _ _
  refine⟨h.1,BL.2 ⟨λh1=>hx (A6 h1),h.2.1.sublist hd⟩,?_⟩;rintro a ha c hc rfl;rcases Az.1 hc with rfl|hc
  .exact hx (AN ha)
  .exact h.2.2 _ ha _ (hd.subset hc) rfl
 .exact h
def WH{U Z:Type}(f:U->Z)(l:List U)(k:Nat)(x:U):(l.take k++x::l.drop k).map f=(l.map f).take k++f x::(l.map f).drop k:=Aw
def Dz.uc(o:Dz b){i:Item}{k:Nat}(h1:b.a.has i.node/\(b.a.nd i.node).kind=4/\(b.a.nd i.node).AW=i.AW/\(b.a.nd i.node).name=i.name)(h2:i.node∉b.AO.map Item.node):Dz {b with AO:=b.AO.take k++i::b.AO.drop k}:=by
 refine⟨o.ok,o.BO,?_,by show((b.AO.take k++i::b.AO.drop k).map Item.node).Nodup;rw[WH];exact oN o.qE h2,o.ac,o.qF⟩;intro j hj;rcases Ak.1 hj with hj|hj
 .exact o.op j (AN hj)
 .rcases Az.1 hj with rfl|hj
  .exact h1
  .exact o.op j (A6 hj)
def Dz.uC(o:Dz b){i:Item}{k:Nat}(h1:b.a.has i.node/\(b.a.nd i.node).kind=4/\(b.a.nd i.node).AW=i.AW/\(b.a.nd i.node).name=i.name)(h2:i.node∉b.AO.map Item.node):Dz {b with AO:=b.AO.set k i}:=by
 refine⟨o.ok,o.BO,?_,by show((b.AO.set k i).map Item.node).Nodup;rw[Fo];exact fD o.qE h2,o.ac,o.qF⟩;intro j hj;rcases CU hj with hj|rfl
 .exact o.op j hj
 .exact h1
def uD{l:List Int}{k:Nat}{x:Int}(h:(l.filter λn=>decide (n≠0)).Nodup)(hx:x∉l):((l.take k++x::l.drop k).filter λn=>decide (n≠0)).Nodup:=by
 have e:=BM k l;rw[<-e,DP,BF] at h;rw[DP,BF];by_cases h0:x=0;.subst h0;simpa using h
 .rw[ob (by simpa using h0)];refine⟨h.1,BL.2 ⟨λh1=>hx (A6 ((CG.1 h1).1)),h.2.1⟩,?_⟩;rintro a ha c hc rfl;rcases Az.1 hc with rfl|hc
  .exact hx (AN (CG.1 ha).1)
  .exact h.2.2 _ ha _ hc rfl
def uE{l:List Int}{k:Nat}{x:Int}(h:(l.filter λn=>decide (n≠0)).Nodup)(hx:x∉l):((l.set k x).filter λn=>decide (n≠0)).Nodup:=by
 rw[Cd];split
 .have h2:(((l.take k++l.drop (k+1))).filter λn=>decide (n≠0)).Nodup:=h.sublist ((show List.Sublist (Bk l k) l from Ck).filter _);rw[DP,BF] at h2⊢;by_cases h0:x=0;.subst h0;simpa using h2
  .rw[ob (by simpa using h0)];refine⟨h2.1,BL.2 ⟨λh1=>hx (A6 ((CG.1 h1).1)),h2.2.1⟩,?_⟩;rintro a ha c hc rfl;rcases Az.1 hc with rfl|hc
   .exact hx (AN (CG.1 ha).1)
   .exact h2.2.2 _ ha _ hc rfl
 .exact h
def Dz.ud(o:Dz b){e:B8}{k:Nat}(h1:e.node=0\/(b.a.has e.node/\(b.a.nd e.node).kind=4))(h2:e.node=0\/e.node∉b.A9.map B8.node):Dz {b with A9:=b.A9.take k++e::b.A9.drop k}:=by
 refine⟨o.ok,o.BO,o.op,o.qE,?_,?_⟩
 .intro j hj;rcases Ak.1 hj with hj|hj
  .exact o.ac j (AN hj)
  .rcases Az.1 hj with rfl|hj
   .exact h1
   .exact o.ac j (A6 hj)
 .show(((b.A9.take k++e::b.A9.drop k).map B8.node).filter _).Nodup;rw[WH];rcases h2 with h2|h2
  .have:=o.qF;conv at this=>rw[<-BM k (b.A9.map B8.node),DP]
   rw[DP,List.filter_cons_of_neg (by simp[h2])];exact this
  .exact uD o.qF h2
def Dz.uF(o:Dz b){e:B8}{k:Nat}(h1:b.a.has e.node/\(b.a.nd e.node).kind=4)(h2:e.node∉b.A9.map B8.node):Dz {b with A9:=b.A9.set k e}:=by
 refine⟨o.ok,o.BO,o.op,o.qE,?_,?_⟩
 .intro j hj;rcases CU hj with hj|rfl
  .exact o.ac j hj
  .exact .inr h1
 .show(((b.A9.set k e).map B8.node).filter _).Nodup;rw[Fo];exact uE o.qF h2
def NZ(o:Dz b):Dz (b.DV nm at_ sp):=by
 unfold BS.DV;split
 .rename_i hs;obtain⟨d,f,hl⟩:=JV (nm:=nm) (at_:=at_) (p:=(b.place 0).1) o hs;have g:=d.JU (Ls (n:=b.a.len+1) (p:=(b.place 0).1) (b:=(b.place 0).2) d.ok) HI;have hn:(b.HG nm at_ sp).node=b.a.len+1:=by unfold BS.HG;rw[Ad hs]
  have c:Le (b.DA nm at_ sp (b.place 0).1).a ((b.DA nm at_ sp (b.place 0).1).a.Dn (b.a.len+1) (b.place 0).1 (b.place 0).2):=HI;have ho:(b.DA nm at_ sp (b.place 0).1).AO=b.AO:=by unfold BS.DA;rw[Ad hs]
  have:=g.uc (i:=b.HG nm at_ sp) (k:=b.AO.length) ⟨c.has _ f.has,by rw[c.kind _ f.has];exact f.kind,by rw[c.AW _ f.has];exact f.AW,by rw[c.name _ f.has];exact f.name⟩ (by simp only[ho];exact Ou o f);simp only[ho,B7,Hv] at this;simp only[ho];exact this
 .exact o
def UD{l:List B8}{e:B8}:∃l',List.Sublist l' l/\UB e l=l'++[e]:=by
 unfold UB;split;.exact⟨_,Ck,rfl⟩
 .exact⟨_,AF _,rfl⟩
def be:Le b.a (b.DV nm at_ sp).a:=by
 unfold BS.DV BS.DA;split;.exact Le.trans S5 HI
 .exact .refl
def aA(hs:BS.HR sp):(b.DV nm at_ sp).a.has (b.a.len+1)/\((b.DV nm at_ sp).a.nd (b.a.len+1)).kind=4:=by
 unfold BS.DV BS.DA;rw[Ad hs];simp only
 rw[Ad hs];have hn:=Qp (A:=b.a) (d:=b.I0 (b.place 0).1) (sp:=sp) (nm:=BS.KO sp nm) (l:=at_.map (Dp sp));exact⟨HI.has _ hn.1,by rw[HI.kind _ hn.1];exact hn.2.1⟩
def Hq:(b.DV nm at_ sp).A9=b.A9:=by unfold BS.DV BS.DA;split<;>rfl
def K9:BS.HR 1:=⟨Bj,Bj⟩
def bg(o:Dz b):b.a.len+1∉b.A9.map B8.node:=by
 intro h;obtain⟨j,hj,e⟩:=AZ.1 h;rcases o.ac j hj with h1|h1
 .unfold Ar.len at e;omega
 .exact NX (e▸h1.1)
def oO(o:Dz b):Dz (b.Ij nm at_):=by
 have d:=NZ (nm:=nm) (at_:=at_) (sp:=1) o;unfold BS.Ij;simp only
 obtain⟨l',h1,h2⟩:=UD (l:=(b.DV nm at_ 1).A9) (e:=⟨b.a.len+1,nm,at_⟩);rw[h2];have c:=d.fC h1;have:=c.ud (e:=⟨b.a.len+1,nm,at_⟩) (k:=l'.length) (.inr (aA K9)) (.inr (by intro h;rw[Hq] at h1;exact bg o ((h1.map B8.node).subset h)))
 simpa using this
def Dz.of_eq{c:BS}(o:Dz b)(h1:c.a=b.a)(h2:c.BO=b.BO)(f:c.AO=b.AO)(d:c.A9=b.A9):Dz c:=
 ⟨h1▸o.ok,by rw[h1,h2];exact o.BO,by rw[h1,f];exact o.op,by rw[f];exact o.qE,by rw[h1,d];exact o.ac,by rw[d];exact o.qF⟩
def fE{l:List Int}{bf t:Int}(h:Rr l bf=some t):t∈l:=by
 unfold Rr at h;split at h;.exact aAE h
 .exact(List.takeWhile_sublist _).subset (aAE h)
def oP{A:Ar}{s:Aq}{p bf:Int}(ok:CX A 0)(hp:A.has p):CX (BS.HS A s p bf) 0/\Le A (BS.HS A s p bf):=by
 have h0:(0:Int)≠A.len+1:=by unfold Ar.len;omega
 have ha:=Ls (n:=A.len+1) (p:=p) (b:=bf) (X9 (s:=s) (kd:=5) ok h0 (ok.BO p hp) (.inl rfl));have hl:Le A ((A.add {kind:=5,BO:=(A.nd p).BO,data:=s}).Dn (A.len+1) p bf):=Le.trans eY HI;unfold BS.HS;split
 .split
  .rename_i t ht;split;.rename_i hk;exact⟨eZ ok (ok.IG p hp _ (fE ht)).1 (.inl hk),fA⟩
   .exact⟨ha,hl⟩
  .exact⟨ha,hl⟩
 .exact⟨ok,.refl⟩
def bh(o:Dz b){r:Int}:Dz (b.Z7 r):=by have h:=oP (s:=Ku r) (bf:=(b.place 0).2) o.ok (KS o (.inl rfl)).1;exact o.JU h.1 h.2
def Qq{A:Ar}{s:Aq}{p bf:Int}(ok:CX A 0):CX (BS.DD A s p bf) 0/\Le A (BS.DD A s p bf):=by
 unfold BS.DD;split
 .rename_i hk;have hp:A.has p:=by
   by_cases hp:A.has p;.exact hp
   .rw[IY hp] at hk;unfold Nh at hk;simp at hk
  have h0:(0:Int)≠A.len+1:=by unfold Ar.len;omega
  exact⟨Ls (X9 (s:=s) (kd:=6) ok h0 (ok.BO p hp) (.inr rfl)),Le.trans eY HI⟩
 .exact⟨ok,.refl⟩
def fF(o:Dz b){s:Aq}{p:Int}:Dz (b.JH s p):=by
 unfold BS.JH;split;.have h:=Qq (s:=s) (p:=(b.place 0).1) (bf:=(b.place 0).2) o.ok;exact o.JU h.1 h.2
 .have h:=Qq (s:=s) (p:=p) (bf:=0) o.ok;exact o.JU h.1 h.2
def fG(o:Dz b){st:Int}:Dz (b.Qo nm at_ st):=(NZ o).of_eq rfl rfl rfl rfl
def oQ(o:Dz b):Dz b.I1:=by
 unfold BS.I1;split;.exact o.Ya (E8.trans E8)
 .exact o
def WI(o:Dz b):Dz (b.Dw nm):=by
 unfold BS.Dw;split
 .split;.exact o.Ya (Hp.trans E8)
  .exact o
 .exact o
def Qr(o:Dz b):Dz b.KQ:=o.of_eq rfl rfl rfl rfl
def uG(o:Dz b){l:List A3}{h:Int}:Dz (b.H8 l h):=by
 unfold BS.H8;split
 .rename_i hk;have d:b.a.has h:=by
   by_cases hp:b.a.has h;.exact hp
   .rw[IY hp] at hk;simp at hk
  refine o.JU (Z8 o.ok d hk ?_) Z9;intro a ha;rcases Ak.1 ha with ha|ha
  .exact(o.ok.NW h d).yB a ha
  .obtain⟨c,_,rfl⟩:=AZ.1 ha;simp
 .exact o
def UE(o:Dz b):Dz b.C7:=by
 unfold BS.C7;split;.exact o
 .have a:=(o.Ya (E8 (p:=Ee) (q:=Bl [AY]) (l:=E0 DG Ee b.AO) |>.trans E8)).fC (l:=HQ b.A9) (ET _ _);exact(Qr (b:={b with AO:=E0 Ee (Bl [AY]) (E0 DG Ee b.AO),A9:=HQ b.A9,tm:=b.tm.dropLast}) (a.of_eq rfl rfl rfl rfl))
def uH(o:Dz b):Dz b.S4:=by
 unfold BS.S4;split;.exact o
 .exact o.Ya (ET _ _)
structure Ĉ(b:BS)(l:List B8)(r:List B8×BS):Prop where
 ok:Dz r.2
 le:Le b.a r.2.a
 A9:r.2.A9=b.A9
 len:r.1.length=l.length
 nodes:∀e∈r.1,r.2.a.has e.node/\(r.2.a.nd e.node).kind=4/\¬b.a.has e.node
 ma:(r.1.map B8.node).Nodup
 ĉ:r.1.map B8.name=l.map B8.name
def jY:∀{l:List B8} {b:BS},Dz b->Ĉ b l (BS.HH l b)
 |[],b,o=>by
  refine⟨o,.refl,rfl,rfl,?_,?_,rfl⟩;.intro e he;cases he
  .exact K0
 |e::l,b,o=>by
  have d:=NZ (nm:=e.name) (at_:=e.Av) (sp:=1) o;have r:=jY (l:=l) d;have hl:Le b.a (b.DV e.name e.Av 1).a:=be;have hn:=aA (b:=b) (nm:=e.name) (at_:=e.Av) K9;refine⟨r.ok,hl.trans r.le,r.A9.trans Hq,by simp[BS.HH,r.len],?_,?_,by simp[BS.HH,r.ĉ]⟩
  .intro c hc;rcases Az.1 hc with rfl|hc
   .exact⟨r.le.has _ hn.1,(r.le.kind _ hn.1).trans hn.2,NX⟩
   .have:=r.nodes c hc;exact⟨this.1,this.2.1,λh=>this.2.2 (hl.has _ h)⟩
  .simp only[BS.HH,Bi,BL];refine⟨λh=>?_,r.ma⟩;obtain⟨c,hc,f⟩:=AZ.1 h;exact(r.nodes c hc).2.2 (f▸hn.1)
def fH(o:Dz b):Dz b.Eb:=by
 have r:=jY (l:=b.A9.drop b.MZ) o;unfold BS.Eb;simp only
 have hc:=jW r.le o.ac;refine⟨r.ok.ok,r.ok.BO,r.ok.op,r.ok.qE,?_,?_⟩
 .intro e he;rcases Ak.1 he with he|he
  .exact hc e (AN he)
  .exact .inr ⟨(r.nodes e he).1,(r.nodes e he).2.1⟩
 .show(((b.A9.take b.MZ++(BS.HH (b.A9.drop b.MZ) b).1).map B8.node).filter _).Nodup;rw[BV,DP,BF];refine⟨o.qF.sublist (((ET _ _).map _).filter _),r.ma.filter _,?_⟩;rintro a ha c JB rfl;obtain⟨j,h1,rfl⟩:=AZ.1 (CG.1 ha).1;obtain⟨i,h2,g⟩:=AZ.1 (CG.1 JB).1;have d:=(r.nodes i h2);rw[g] at d;rcases o.ac j (AN h1) with f|f
  .have:=d.1.1;omega
  .exact d.2.2 f.1
def Qs(o:Dz b){blk anc:Int}{far i:Nat}{l:Int}{m:Nat}(hl:b.a.has l):Dz (BS.E7 blk anc far i b l m).1/\(BS.E7 blk anc far i b l m).1.a.has (BS.E7 blk anc far i b l m).2.1/\Le b.a (BS.E7 blk anc far i b l m).1.a:=by
 unfold BS.E7;simp only
 split;.exact⟨o.Ya Ck,hl,.refl⟩
 .split;.exact⟨(o.fC Ck).Ya Ck,hl,.refl⟩
  .generalize Ov:b.A9.getD (FF (b.AO.getD i Item.zero).node b.A9).toNat B8.zero=c;obtain⟨g,f,Eg⟩:=JV (nm:=c.name) (at_:=c.Av) (p:=anc) o K9;have d:Le (b.DA c.name c.Av 1 anc).a ((b.DA c.name c.Av 1 anc).a.D9 (b.HG c.name c.Av 1).node l 0):=M2;have OD:(b.DA c.name c.Av 1 anc).AO=b.AO:=by unfold BS.DA;rw[Ad K9]
   have bS:(b.DA c.name c.Av 1 anc).A9=b.A9:=by unfold BS.DA;rw[Ad K9]
   have r:=g.JU (MX (p:=(b.HG c.name c.Av 1).node) (n:=l) (b:=0) g.ok) d;have q:=r.uC (i:=b.HG c.name c.Av 1) (k:=i) ⟨d.has _ f.has,by rw[d.kind _ f.has];exact f.kind,by rw[d.AW _ f.has];exact f.AW,by rw[d.name _ f.has];exact f.name⟩ (by simp only[OD];exact Ou o f);have j:=q.uF (e:={c with node:=(b.HG c.name c.Av 1).node}) (k:=(FF (b.AO.getD i Item.zero).node b.A9).toNat) ⟨d.has _ f.has,by rw[d.kind _ f.has];exact f.kind⟩ (by simp only[bS];exact Ru o f);exact⟨j,d.has _ f.has,Eg.trans d⟩
def S6{blk anc:Int}{far k:Nat}:∀{c:Nat} {s:BS×Int×Nat},Dz s.1->s.1.a.has s.2.1->Dz (BS.JT blk anc far k c s).1/\(BS.JT blk anc far k c s).1.a.has (BS.JT blk anc far k c s).2.1/\Le s.1.a (BS.JT blk anc far k c s).1.a
 |0,s,o,h=>⟨o,h,.refl⟩
 |c+1,s,o,h=>by obtain⟨f,h1,l1⟩:=Qs (blk:=blk) (anc:=anc) (far:=far) (i:=k+(c+1)) (m:=s.2.2) o h;obtain⟨d,h2,g⟩:=S6 (blk:=blk) (anc:=anc) (far:=far) (k:=k) (c:=c) f h1;exact⟨d,h2,l1.trans g⟩
def IC{n:Int}:∀{l:List Int} {A:Ar},CX A 0->CX (BS.Cw A n l) 0/\Le A (BS.Cw A n l)
 |[],A,ok=>⟨ok,.refl⟩
 |x::l,A,ok=>by have h:=IC (n:=n) (l:=l) (MX (p:=n) (n:=x) (b:=0) ok);exact⟨h.1,Le.trans M2 h.2⟩
def oR{fe:B8}{blk anc:Int}{s:BS×Int×Nat}(o:Dz s.1):Dz (BS.Gk fe blk anc s)/\Le s.1.a (BS.Gk fe blk anc s).a:=by
 unfold BS.Gk;simp only
 generalize oS:s.1.place anc=c;have l1:Le s.1.a (s.1.a.Dn s.2.1 c.1 c.2):=HI;have g:=o.JU (Ls (n:=s.2.1) (p:=c.1) (b:=c.2) o.ok) l1;generalize MA:({s.1 with a:=s.1.a.Dn s.2.1 c.1 c.2}:BS)=b2 at g;have Pf:b2.a=s.1.a.Dn s.2.1 c.1 c.2:=by rw[<-MA]
 have bM:b2.AO=s.1.AO:=by rw[<-MA]
 have JB:b2.A9=s.1.A9:=by rw[<-MA]
 obtain⟨j,f,l3⟩:=JV (nm:=fe.name) (at_:=fe.Av) (p:=blk) g K9;have OD:(b2.DA fe.name fe.Av 1 blk).AO=b2.AO:=by unfold BS.DA;rw[Ad K9]
 have bS:(b2.DA fe.name fe.Av 1 blk).A9=b2.A9:=by unfold BS.DA;rw[Ad K9]
 generalize sj:b2.DA fe.name fe.Av 1 blk=b3 at*;generalize hn:b2.HG fe.name fe.Av 1=n at*;obtain⟨mb,l4⟩:=IC (n:=n.node) (l:=(b3.a.nd blk).AT) j.ok;have Ċ:=MX (p:=blk) (n:=n.node) (b:=0) mb;have d:Le b3.a ((BS.Cw b3.a n.node (b3.a.nd blk).AT).D9 blk n.node 0):=l4.trans M2;have q:=j.JU Ċ d;have fr:((BS.Cw b3.a n.node (b3.a.nd blk).AT).D9 blk n.node 0).has n.node/\(((BS.Cw b3.a n.node (b3.a.nd blk).AT).D9 blk n.node 0).nd n.node).kind=4/\(((BS.Cw b3.a n.node (b3.a.nd blk).AT).D9 blk n.node 0).nd n.node).AW=n.AW/\(((BS.Cw b3.a n.node (b3.a.nd blk).AT).D9 blk n.node 0).nd n.node).name=n.name:=
  ⟨d.has _ f.has,by rw[d.kind _ f.has];exact f.kind,by rw[d.AW _ f.has];exact f.AW,by rw[d.name _ f.has];exact f.name⟩
 have m:=(q.fC (l:=Bk b3.A9 (FF fe.node b3.A9).toNat) Ck).Ya (l:=DS fe.node b3.AO) Lt;have u:n.node∉(DS fe.node b3.AO).map Item.node:=λh=>Ou g f ((Lt.map Item.node).subset (by rw[OD] at h;exact h));have r:n.node∉(Bk b3.A9 (FF fe.node b3.A9).toNat).map B8.node:=λh=>Ru g f ((Ck.map B8.node).subset (by rw[bS] at h;exact h));refine⟨(m.uc (i:=n) fr u).ud (e:={fe with node:=n.node}) (.inr ⟨fr.1,fr.2.1⟩) (.inr r),?_⟩;rw[Pf] at l3;exact l1.trans (l3.trans d)
def Qt(o:Dz b):Dz (b.round nm).2/\Le b.a (b.round nm).2.a:=by
 have d:Le b.a (b.Dw nm).a:=by
  unfold BS.Dw;split;.split<;>exact .refl
  .exact .refl
 unfold BS.round;simp only
 split;.exact⟨WI o,d⟩
 .split;.exact⟨o.fC Ck,.refl⟩
  .split;.exact⟨o,.refl⟩
   .split;.exact⟨(o.Ya Hp).fC Ck,.refl⟩
    .rename_i hf;have aCy:CK (b.A9.getD (EF nm b.A9).toNat B8.zero).node b.AO<b.AO.length:=by
      rw[JR];split;.omega
      .unfold Fm;split;.rename_i k hk;have:=(Gc.1 hk).1;rw[AV] at this;omega
       .omega
     have hb:b.a.has (b.AO.getD (CK (b.A9.getD (EF nm b.A9).toNat B8.zero).node b.AO).toNat Item.zero).node:=by rw[Ax,Ai Ab];exact(o.op _ (AJ _)).1
     obtain⟨f,h1,l1⟩:=S6 (blk:=(b.AO.getD (CK (b.A9.getD (EF nm b.A9).toNat B8.zero).node b.AO).toNat Item.zero).node) (anc:=(b.AO.getD ((AG (Br (b.A9.getD (EF nm b.A9).toNat B8.zero).node) b.AO).toNat-1) Item.zero).node) (far:=(CK (b.A9.getD (EF nm b.A9).toNat B8.zero).node b.AO).toNat) (k:=(AG (Br (b.A9.getD (EF nm b.A9).toNat B8.zero).node) b.AO).toNat) (c:=(CK (b.A9.getD (EF nm b.A9).toNat B8.zero).node b.AO).toNat-1 -(AG (Br (b.A9.getD (EF nm b.A9).toNat B8.zero).node) b.AO).toNat) (s:=(b,(b.AO.getD (CK (b.A9.getD (EF nm b.A9).toNat B8.zero).node b.AO).toNat Item.zero).node,(EF nm b.A9).toNat)) o hb;have r:=oR (fe:=b.A9.getD (EF nm b.A9).toNat B8.zero) (blk:=(b.AO.getD (CK (b.A9.getD (EF nm b.A9).toNat B8.zero).node b.AO).toNat Item.zero).node) (anc:=(b.AO.getD ((AG (Br (b.A9.getD (EF nm b.A9).toNat B8.zero).node) b.AO).toNat-1) Item.zero).node) f;exact⟨r.1,l1.trans r.2⟩
def WJ:∀{n:Nat} {b:BS},Dz b->Dz (BS.Eo n b nm)/\Le b.a (BS.Eo n b nm).a
 |0,b,o=>⟨o,.refl⟩
 |n+1,b,o=>by
  obtain⟨c,l1⟩:=Qt (nm:=nm) o;unfold BS.Eo;simp only
  split;.have r:=WJ (n:=n) c;exact⟨r.1,l1.trans r.2⟩
  .exact⟨c,l1⟩
def oT(o:Dz b):Dz (b.HT nm):=by
 unfold BS.HT;split;.exact uH o
 .exact(WJ o).1
end
structure LS(A:Ar):Prop where
 n:A.n.length<=1000000000
 at_:∀x,(A.nd x).Av.length<=1000000000
 data:∀x,(A.nd x).data.length<=1000000000
def FB(l:List A3):Prop:=l.length<=1000/\∀a∈l,a.name.length<=1000/\a.value.length<=1000
structure Ct(b:BS)(m:Nat):Prop where
 n:b.a.n.length+m<=900000000
 at_:∀x,(b.a.nd x).Av.length+m<=1000000000
 data:∀x,(b.a.nd x).data.length+m<=1000000000
 AO:b.AO.length+m<=900000000
 A9:b.A9.length+m<=900000000
 tm:b.tm.length+m<=900000000
 Dy:∀e∈b.A9,e.name.length<=1000/\FB e.Av
 aB:∀i∈b.AO,i.name.length<=1000
def Ct.VG{b:BS}{m:Nat}(r:Ct b m):LS b.a:=⟨by have:=r.n;omega,λx=>by have:=r.at_ x;omega,λx=>by have:=r.data x;omega⟩
def Ct.le{b:BS}{m m':Nat}(r:Ct b m)(hm:m'<=m):Ct b m':=⟨by have:=r.n;omega,λx=>by have:=r.at_ x;omega,λx=>by have:=r.data x;omega,by have:=r.AO;omega,by have:=r.A9;omega,by have:=r.tm;omega,r.Dy,r.aB⟩
def oU{sp:Int}{y:A3}:(Dp sp y).value=y.value:=by
 unfold Dp;split;.split<;>rfl
 .rfl
structure M3(A A':Ar):Prop where
 n:A'.n.length=A.n.length
 at_:∀x,(A'.nd x).Av=(A.nd x).Av
 data:∀x,(A'.nd x).data=(A.nd x).data
section
variable{A A' A'':Ar}{x p bf:Int}{b:BS}{m:Nat}
def M3.refl:M3 A A:=⟨rfl,λ_=>rfl,λ_=>rfl⟩
def M3.trans(h:M3 A A')(k:M3 A' A''):M3 A A'':=⟨k.n.trans h.n,λx=>(k.at_ x).trans (h.at_ x),λx=>(k.data x).trans (h.data x)⟩
def aC{y:D8}(h1:y.Av=(A.nd x).Av)(h2:y.data=(A.nd x).data):M3 A (A.set x y):=by
 refine⟨H7,λk=>?_,λk=>?_⟩<;>rw[FA]<;>split;.rename_i e;rw[h1,e.1]
 .rfl
 .rename_i e;rw[h2,e.1]
 .rfl
def WK{l:List Int}:M3 A (A.set x {A.nd x with AT:=l}):=aC rfl rfl
def WL:M3 A (A.set x {A.nd x with FL:=p}):=aC rfl rfl
def KA:M3 A (A.D9 p x bf):=by
 unfold Ar.D9;split
 .refine M3.trans ?_ (M3.trans WK WL);unfold Ar.cut;simp only;split;.exact .refl
  .exact M3.trans WK WL
 .exact .refl
def KB:M3 A (A.Dn x p bf):=by unfold Ar.Dn;split;exact .refl;exact KA
def OX{n:Int}:∀{l:List Int} {A:Ar},M3 A (BS.Cw A n l)
 |[],A=> .refl
 |y::l,A=>M3.trans KA (OX (l:=l))
def Ct.same{c:BS}(r:Ct b m)(h:M3 b.a c.a)(h1:c.AO.length<=b.AO.length)(h2:c.A9.length<=b.A9.length)(g:c.tm.length<=b.tm.length)(f:∀e∈c.A9,e.name.length<=1000/\FB e.Av)(d:∀i∈c.AO,i.name.length<=1000):Ct c m:=
 ⟨by rw[h.n];exact r.n,λx=>by rw[h.at_];exact r.at_ x,λx=>by rw[h.data];exact r.data x,by have:=r.AO;omega,by have:=r.A9;omega,by have:=r.tm;omega,f,d⟩
def Ct.JU{A':Ar}(r:Ct b m)(h:M3 b.a A'):Ct {b with a:=A'} m:=r.same h (Af _) (Af _) (Af _) r.Dy r.aB
def Ct.eq{c:BS}(r:Ct b m)(h1:c.a=b.a)(h2:c.AO=b.AO)(d:c.A9=b.A9)(e:c.tm=b.tm):Ct c m:=⟨by rw[h1];exact r.n,by rw[h1];exact r.at_,by rw[h1];exact r.data,by rw[h2];exact r.AO,by rw[d];exact r.A9,by rw[e];exact r.tm,by rw[d];exact r.Dy,by rw[h2];exact r.aB⟩
structure Rv(A A':Ar)(k:Nat):Prop where
 n:A'.n.length<=A.n.length+k
 at_:∀x,(A'.nd x).Av.length<=max (A.nd x).Av.length 1000
 data:∀x,(A'.nd x).data.length<=max (A.nd x).data.length 100000
def Mp{y:D8}(h1:y.Av.length<=1000)(h2:y.data.length<=100000):Rv A (A.add y) 1:=by refine⟨by simp[Ar.add],λx=>?_,λx=>?_⟩<;>rw[EB]<;>split<;>omega
def Rv.trans{k k':Nat}(h:Rv A A' k)(g:Rv A' A'' k'):Rv A A'' (k+k'):=
 ⟨by have:=h.n;have:=g.n;omega,λx=>by have:=h.at_ x;have:=g.at_ x;omega,λx=>by have:=h.data x;have:=g.data x;omega⟩
def Rv.le{k k':Nat}(h:Rv A A' k)(hk:k<=k'):Rv A A' k':=⟨by have:=h.n;omega,h.at_,h.data⟩
def oV(h:M3 A A'):Rv A A' 0:=⟨by rw[h.n];exact Af _,λx=>by rw[h.at_];omega,λx=>by rw[h.data];omega⟩
def fI:Rv A (A.CO x) 1:=by
 unfold Ar.CO;split;.exact(oV .refl).le Ab
 .have:=Mp (A:=A) (y:={kind:=1,BO:=A.len+1}) (A7 _) (A7 _);exact⟨this.n,this.at_,this.data⟩
def uI{y:D8}(h1:y.Av.length<=1000)(h2:y.data.length<=100000):Rv A (A.set x y) 0:=by refine⟨by rw[H7];exact Af _,λx=>?_,λx=>?_⟩<;>rw[FA]<;>split<;>omega
def oW{d sp:Int}{nm:Aq}{l:List A3}(hl:l.length<=1000):Rv A (A.elem d sp nm l) 3:=by
 have ho:=Bm (Oo (l:=l)) hl;have g1:=Mp (A:=A) (y:={kind:=4,BO:=d,AW:=sp,name:=nm,Av:=Cl l}) ho (A7 _);unfold Ar.elem;simp only
 split;.have g2:=fI (A:=A.add {kind:=4,BO:=d,AW:=sp,name:=nm,Av:=Cl l}) (x:=d);have g3:=Mp (A:=(A.add {kind:=4,BO:=d,AW:=sp,name:=nm,Av:=Cl l}).CO d) (y:={kind:=2,C0:=A.len+1,BO:=(A.add {kind:=4,BO:=d,AW:=sp,name:=nm,Av:=Cl l}).Gj d}) (A7 _) (A7 _);exact g1.trans (k':=2) (g2.trans (k':=1) (g3.trans (k':=0) (uI ho (A7 _))))
 .exact g1.le Ab
def Ct.FJ{A':Ar}{k:Nat}(r:Ct b (m+k))(h:Rv b.a A' k):Ct {b with a:=A'} m:=
 ⟨by have:=r.n;have:=h.n;simp only;omega,λx=>by have:=r.at_ x;have:=h.at_ x;have:=r.n;simp only;omega,λx=>by have:=r.data x;have:=h.data x;have:=r.n;simp only;omega,by have:=r.AO;simp only;omega,by have:=r.A9;simp only;omega,by have:=r.tm;simp only;omega,r.Dy,r.aB⟩
def uJ{sp:Int}{nm:Aq}:(BS.KO sp nm).length=nm.length:=by
 unfold BS.KO;split
 .rcases Ng nm Mi with h|h
  .rw[h]
  .conv=>rhs;rw[<-h.2,X2]
 .rfl
variable{nm:Aq}{l:List A3}{sp:Int}
def Kv(r:Ct b (m+3))(hl:FB l):Ct (b.DA nm l sp p) m:=by
 unfold BS.DA;split;.exact r.FJ (oW (by rw[As];exact hl.1))
 .exact r.le Ab
def N0(hn:nm.length<=1000):(b.HG nm l sp).name.length<=1000:=by
 unfold BS.HG;split;.show(BS.KO sp nm).length<=1000;rw[uJ];exact hn
 .exact A7 _
def Ct.mc{i:Item}{l':List Item}(r:Ct b (m+1))(h1:l'.length<=b.AO.length+1)(h2:∀j∈l',j∈b.AO\/j=i)(hi:i.name.length<=1000):Ct {b with AO:=l'} m:=
 ⟨by have:=r.n;simp only;omega,λx=>by have:=r.at_ x;simp only;omega,λx=>by have:=r.data x;simp only;omega,by have:=r.AO;simp only;omega,by have:=r.A9;simp only;omega,by have:=r.tm;simp only;omega,r.Dy,λj hj=>by
  rcases h2 j hj with h|rfl
  .exact r.aB j h
  .exact hi⟩
def Ct.me{e:B8}{l':List B8}(r:Ct b (m+1))(h1:l'.length<=b.A9.length+1)(h2:∀j∈l',j∈b.A9\/j=e)(hi:e.name.length<=1000/\FB e.Av):Ct {b with A9:=l'} m:=
 ⟨by have:=r.n;simp only;omega,λx=>by have:=r.at_ x;simp only;omega,λx=>by have:=r.data x;simp only;omega,by have:=r.AO;simp only;omega,by have:=r.A9;simp only;omega,by have:=r.tm;simp only;omega,λj hj=>by
  rcases h2 j hj with h|rfl
  .exact r.Dy j h
  .exact hi,r.aB⟩
def Mq(r:Ct b (m+4))(hl:FB l)(hn:nm.length<=1000):Ct (b.DV nm l sp) m:=by
 unfold BS.DV;split
 .rename_i hs;have c:=Kv (m:=m+1) (nm:=nm) (sp:=sp) (p:=(b.place 0).1) (r.le Ab) hl;have r2:=c.JU (KB (x:=b.a.len+1) (p:=(b.place 0).1) (bf:=(b.place 0).2));have ho:(b.DA nm l sp (b.place 0).1).AO=b.AO:=by unfold BS.DA;rw[Ad hs]
  refine r2.mc (i:=b.HG nm l sp) (by simp only[Ap,BR];exact Af _) (λj hj=>?_) (N0 hn);rcases Ak.1 hj with h|h
  .exact .inl h
  .exact .inr (by simpa using h)
 .exact r.le Ab
def aD(r:Ct b (m+5))(hl:FB l)(hn:nm.length<=1000):Ct (b.Ij nm l) m:=by
 have c:=Mq (m:=m+1) (sp:=1) (nm:=nm) (r.le Ab) hl hn;unfold BS.Ij;simp only
 obtain⟨l',h1,h2⟩:=UD (l:=(b.DV nm l 1).A9) (e:=⟨b.a.len+1,nm,l⟩);rw[h2];refine c.me (e:=⟨b.a.len+1,nm,l⟩) (by have:=h1.length_le;simp;omega) (λj hj=>?_) ⟨hn,hl⟩;rcases Ak.1 hj with h|h
 .exact .inl (h1.subset h)
 .exact .inr (by simpa using h)
end
end Go.Am
end
