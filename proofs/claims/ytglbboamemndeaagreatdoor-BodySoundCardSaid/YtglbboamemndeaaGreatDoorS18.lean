/- Lemmas -/
import Derived.Test.YtglbboamemndeaaGreatDoorS17
set_option linter.all false
noncomputable section
set_option maxRecDepth 100000
section
namespace Go.Am
open Go
section
section
variable{U:Type}{z:Nat}
def HE{Av:List (List U)}(h:∀r∈Av,r.length=z):Av.flatten.length=Av.length*z:=by
 induction Av with
 |nil=>simp
 |cons q Av ih=>rw[CB,Ao,h q Ax,ih λr hr=>h r (by simp[hr]),AG,BC];omega
def ZP{Av:List (List U)}(h:∀r∈Av,r.length=z):∀{k:Nat},Av.flatten.take (k*z)=(Av.take k).flatten:=by
 induction Av with
 |nil=>intro k;simp
 |cons q Av ih=>
  intro k;have hq:=h q Ax;cases k with
  |zero=>simp
  |succ k=>rw[CB,BC,Eo,Mc,vC,A8 Ac,hq,S1,ih λr hr=>h r (by simp[hr])];simp
def It{Av:List (List U)}(h:∀r∈Av,r.length=z):∀{k:Nat},Av.flatten.drop (k*z)=(Av.drop k).flatten:=by
 induction Av with
 |nil=>intro k;simp
 |cons q Av ih=>
  intro k;have hq:=h q Ax;cases k with
  |zero=>simp
  |succ k=>rw[CB,BC,Eo,Mc,SV,AV Ac,hq,S1,ih λr hr=>h r (by simp[hr])];simp
def mP{Av:List (List U)}(h:∀r∈Av,r.length=z){k:Nat}(hk:k<Av.length)(q:List U):Av.flatten.take (k*z)++q++Av.flatten.drop (k*z+z)=(Av.set k q).flatten:=by
 have e:k*z+z=(k+1)*z:=by rw[BC,Eo]
 rw[e,ZP h,It h,Ce,Ag hk];simp
def ZQ{Av:List (List Aa)}(h:∀r∈Av,r.length=z):∀{n off:Nat},off+n<=Av.length->Cp Av.flatten z (off*z) n=(Av.drop off).take n:=by
 intro n;induction n with
 |zero=>intro off _;simp[Cp]
 |succ n ih=>
  intro off hl;rw[Cp];have e:off*z+z=(off+1)*z:=by rw[BC,Eo]
  rw[e,ih Ac,It h];have hlt:off<Av.length:=Ac;rw[Ay hlt,CB,Dz (by rw[h _ (Bb hlt)];exact Ab _),A8 (by rw[h _ (Bb hlt)];exact Ab _),Gy]
def nc{Av:List (List Aa)}(h:∀r∈Av,r.length=z):Cp Av.flatten z 0 Av.length=Av:=by have:=ZQ h (n:=Av.length) (off:=0) Ac;simpa using this
end
section
variable{h:Ai}{id z n:Nat}{Av:List (List Aa)}
def Nt(hr:∀r∈Av,r.length=z)(hc:h[id]?=some (.cells Av.flatten)):KK h (.CT id 0 Av.length z)=some (h.set id .Dw,.sl z Av):=by unfold KK;simp only[hc,BB];rw[Ag (by rw[HE hr];exact Ab _),nc hr]
def Ge{k:IntKind}{i:Nat}(hi:i<n):Az (.FG z) [.CT id 0 n z,.int k (i:Int)]=some (.ptr (some (id,i*z))):=by
 have:LN (i:Int) n=some i:=by unfold LN;rw[Ag Ac];rfl
 simp[Az,elemOf,this]
def Uq(hr:∀r∈Av,r.length=z)(hc:h[id]?=some (.cells Av.flatten)){i:Nat}(hi:i<Av.length){q:List Aa}(hq:q.length=z):CK h z (.ptr (some (id,i*z))) (.agg q)=some (h.set id (.cells (Av.set i q).flatten)):=by
 simp only[CK,hc,P6];have:i*z+z<=Av.flatten.length:=by rw[HE hr];have:=D1 z (Ac:i+1<=Av.length);rwa [BC,Eo] at this
 rw[<-mP hr hi];exact Ag ⟨hq,this⟩
def mQ(hr:∀r∈Av,r.length=z){i:Nat}{q:List Aa}(hq:q.length=z):∀r∈Av.set i q,r.length=z:=by
 intro r h;rcases DA h with h|rfl
 .exact hr r h
 .exact hq
def LZ{U:Type}{f:U->List Aa}(hf:∀a,(f a).length=z)(l:List U):∀r∈l.map f,r.length=z:=by intro r h;obtain⟨a,_,rfl⟩:=A4.1 h;exact hf a
def Pq{s v:Aa}{b:Nat}(hs:s= .slnil\/s= .sl z [])(hv:Bz z Av v)(hne:Av≠[])(hb:Av.length*b<=AJ):Kj h z b s v=some (h++[.cells Av.flatten],.CT h.length 0 Av.length z):=by
 rcases hv with rfl|⟨rfl,hv⟩
 .cases Av with
  |nil=>exact absurd rfl hne
  |cons r Av=>rw[AG] at hb;rcases hs with rfl|rfl<;>simp[Kj,NP,hb]
 .exact absurd hv hne
def mR{s v:Aa}{b:Nat}(hs:s= .slnil\/s= .sl z [])(hv:Bz z [] v):Kj h z b s v=some (h,s):=by rcases hv with rfl|⟨rfl,hv⟩<;>rcases hs with rfl|rfl<;>simp[Kj,NP]
def N7{v:Aa}{b:Nat}{r2:List (List Aa)}(hr:∀r∈Av,r.length=z)(hz:0<z)(hc:h[id]?=some (.cells Av.flatten))(hv:Bz z r2 v)(hne:r2≠[])(hb:(Av.length+r2.length)*b<=AJ):
  FN h z b (.CT id 0 Av.length z) v=some (h.set id .Dw++[.cells (Av++r2).flatten],.CT h.length 0 (Av.length+r2.length) z):=by
 rcases hv with rfl|⟨rfl,hv⟩
 .cases r2 with
  |nil=>exact absurd rfl hne
  |cons r r2=>
   have hl:=HE hr;have h1:¬(0+(Av.length+(r::r2).length)*z<=Av.flatten.length):=by rw[hl,AG,BB,BC,BC];omega
   have h2:Av.flatten.take (Av.length*z)=Av.flatten:=A8 (by rw[hl];exact Ab _);unfold FN;simp only[GX,BE,hc];rw[Af h1,Ag ⟨trivial,by rw[hl];exact Ab _,hb⟩,h2,OO]
 .exact absurd hv hne
end
end
section
section
end
def JL:List Aj:=[[100,100],[100,116],[108,105],aQN,aQx,[112],[114,98],[114,112],[114,116],aRD]
def P8:List Aj:=[aQD,aQP,aQV,[116,100],aQU,[116,104],aQW,[116,114]]
def N8:List Aj:=[[109,105],[109,110],[109,111],[109,115],[109,116,101,120,116]]
def ZR:List Aj:=[aRW,aQL,aQq]
section
end
def C9:List Aj:=[[104,49],[104,50],[104,51],[104,52],[104,53],[104,54]]
def Ef(k:Int)(s:Aj):Bool:=
 if k=3 then decide (s=aQt\/s∈N8) else if k=2 then decide (s∈ZR) else if k=1 then decide (s∈R5) else false
def sw(s:Aj)(t e:IT):List Aj->IT
 |[]=>e
 |c::cs=> .op (.str .eql) [.str s,.str c] λv=> .FH v t (sw s t e cs)
def ng{C:Fx}{Q:JE}{h:Ai}{s:Aj}{t e:IT}:∀{cs:List Aj},W C (sw s t e cs) Q h↔(s∈cs->W C t Q h)/\(s∉cs->W C e Q h)
 |[]=>by simp[sw]
 |c::cs=>by
  simp only[sw,WT,wT,LY,Nq,WV,AF,PR];rw[ng];by_cases hc:s=c;.simp[hc]
  .simp[hc]
def R6{C:Fx}{f:FuncId}{args:List Aa}{r:Aa}:Nr C f args r↔W C (BZ C f args) (λx vs _=>x= .ret/\vs=[r]) []:=by
 unfold Nr Ev;constructor;.exact λh=>W.mono h λ_ _ _ ⟨h1,r,h2,a⟩=>⟨h1,by rw[h2,a]⟩
 .exact λh=>W.mono h λ_ _ _ ⟨h1,h2⟩=>⟨h1,r,h2,rfl⟩
section
variable{Q:JE}{h:Ai}{k:Aa->IT}{s:Aj}
end
section
variable{Q:JE}{h:Ai}{k:Aa->IT}{s:Aj}{n:Int}
end
end
section
def nh{s:Aj}{a n:Nat}(ha:a<=n)(hn:n<s.length):(s.take (n+1)).drop a=(s.take n).drop a++[s[n]]:=by rw[AP hn,zB Ek]
end
section
section
variable{Q:JE}{h:Ai}{k:Aa->IT}{s:Aj}
def Nu:List Aj:=Ns [] aQc
def Nv:List Aj:=Ns [] aQb
def R7:List Aj:=[aQg,aQu,aQh]
def Pr:List Aj:=[aQN,aQx]
def cD:List Aj:=[[111,108],[117,108]]
def Vg:List Aj:=[aRu,aQD,aQg,aRm,aRA,aQu,[116,100],aQh,[116,104]]
end
section
variable{Q:JE}{h:Ai}{k:Aa->IT}{s:Aj}{n:Int}
end
end
section
def Jo(c:UInt8):UInt8:=if 65<=c.toNat/\c.toNat<=90 then c+32 else c
def EM(s:Aj):Aj:=s.map Jo
def cE{c:UInt8}(h:65<=c.toNat/\c.toNat<=90):((Jo c).toNat:Int)=(c.toNat:Int)+32:=by unfold Jo;rw[Ag h,UInt8.toNat_add];have:UInt8.toNat 32=32:=AM;rw[this];omega
def Sa{c:UInt8}(h:¬(65<=c.toNat/\c.toNat<=90)):Jo c=c:=by unfold Jo;rw[Af h]
def rQ{s:Aj}{n:Nat}(hn:n<s.length):EM (s.take (n+1))=EM (s.take n)++[Jo s[n]]:=by rw[AP hn];unfold EM;rw[BW];rfl
def OH(b:UInt8):Aa:= .int .u8 (b.toNat:Int)
def Hr(s:Aj)(n:Nat):Aj:=EM (s.take n)++s.drop n
def Xg(s:Aj)(n:Nat):(Hr s n).length=s.length:=by simp[Hr,EM];omega
def Xh{s:Aj}{n:Nat}(hn:n<s.length):(Hr s n)[n]?=some s[n]:=by unfold Hr EM;rw[Bw Ek];simp only[Aw,AB,Cx (TU hn),Eb];rw[Ay hn];rfl
def Sb{s:Aj}{n:Nat}(hn:n<s.length):Hr s (n+1)=(Hr s n).set n (Jo s[n]):=by
 unfold Hr;rw[rQ hn,B0 _ _ (by simp[EM];omega)];have e:n-(EM (s.take n)).length=0:=by simp[EM];omega
 rw[e,Ay hn,j7,AT];rfl
def mS(s:Aj):Hr s s.length=EM s:=by simp[Hr,EM]
def Sc{U:Type}{l:List U}{i:Nat}{v:U}(h:l[i]?=some v):l.set i v=l:=by
 apply QW;intro j;rw[aLr];split
 .rename_i e;subst e;split;.exact h.symm
  .rename_i hl;rw[DQ Ac]
 .rfl
def rR{cs:List Aa}{i:Nat}{v:Aa}(h:cs[i]?=some v):Bd [.cells cs] none (.ptr (some (0,i)))=some v:=by simpa[Bd] using h
def YV{U:Type}{l:List U}{i:Nat}{v:U}(h:i<l.length):l.take i++v::l.drop (i+1)=l.set i v:=by rw[Ce,Ag h]
def mT{cs:List Aa}{i:Nat}{v:Aa}(h:i<cs.length)(hv:v.cells=[v]):CK [.cells cs] 1 (.ptr (some (0,i))) v=some [.cells (cs.set i v)]:=by simp only[CK,hv,Ij,AS];rw[Ag ⟨trivial,Ac⟩,<-YV h];simp
def Ps(s:Aj):∀(n o:Nat),o+n=s.length->Cp (s.map OH) 1 o n=CX (s.drop o)
 |0,o,h=>by rw[AV Ac];rfl
 |n+1,o,h=>by
  have ho:o<s.length:=Ac;have e:(s.map OH).drop o=OH s[o]::(s.map OH).drop (o+1):=by rw[Ay (by simpa using ho)];simp
  rw[Cp,Ps s n (o+1) Ac,Ay ho,e];rfl
end
section
def DH(name:Aj):List Aj->Aj
 |[]=>name
 |w::ws=>if EM w=name then w else DH name ws
def B6(w:Aj):List Aa:=[.str w]
def Tr:Aj:=aQc
def Ts:Aj:=aQb
end
section
structure AZ where
 Be:Int
 name:Aj
 value:Aj
 deriving DecidableEq
def AZ.row(a:AZ):List Aa:=[.int .i64 a.Be,.str a.name,.str a.value]
structure Item where
 node:Int
 Be:Int
 name:Aj
 OI:Bool
 deriving DecidableEq
def Item.row(a:Item):List Aa:=[.int .i64 a.node,.int .i64 a.Be,.str a.name,.bool a.OI]
def HP(ns:List Aj)(v:Aa):Prop:=Bz 1 (ns.map B6) v
def A6(l:List AZ)(v:Aa):Prop:=Bz 3 (l.map AZ.row) v
def Dy(l:List Item)(v:Aa):Prop:=Bz 4 (l.map Item.row) v
def wV(l:List AZ):Prop:=l.length<=12/\∀x∈l,x.name.length<=60/\x.value.length<=200
instance(l:List AZ):Decidable (wV l):=by unfold wV;infer_instance
def ni(l:List Aj):Prop:=l.length<=12/\∀x∈l,x.length<=60
instance(l:List Aj):Decidable (ni l):=by unfold ni;infer_instance
def wW(l:List Item):Prop:=l.length<=60/\∀x∈l,x.name.length<=60
instance(l:List Item):Decidable (wW l):=by unfold wW;infer_instance
end
section
def BT{U:Type}(p:U->Bool)(n:Nat):List U->Int
 |[]=> -1
 |a::l=>if p a then(n:Int) else BT p (n+1) l
def Gr{U:Type}{p:U->Bool}:∀{l:List U} {k:Nat},(BT p k l= -1/\l.find? p=none)\/∃(n:Nat) (a:U),BT p k l=((k+n:Nat):Int)/\l[n]?=some a/\l.find? p=some a
 |[],k=> .inl ⟨rfl,rfl⟩
 |a::l,k=>by
  unfold BT;by_cases h:p a=true;.exact .inr ⟨0,a,by rw[Ag h];rfl,rfl,by simp[h]⟩
  .rw[Af h];rcases Gr (p:=p) (l:=l) (k:=k+1) with⟨h1,h2⟩|⟨n,b,h1,h2,c⟩
   .exact .inl ⟨h1,by simp[h,h2]⟩
   .exact .inr ⟨n+1,b,by rw[h1];congr 1;omega,by simpa using h2,by simp[h,c]⟩
def wX(a:AZ):Bool:=decide (a.Be=0/\a.name=aRX)
def Pu{s:Aj}(h:s.all (λc=> !(65<=c.toNat&&c.toNat<=90))=true):EM s=s:=by
 unfold EM;conv=>rhs;rw[<-List.map_id s]
 apply Zc;intro c hc;have:=DK.1 h c hc;refine Sa λh2=>?_;simp[h2.1,h2.2] at this
abbrev aCG:Aj:=aQt
abbrev wY:Aj:=aRR
abbrev cF:Aj:=aQX
def Iu(n:Int)(s:Aj)(l:List AZ):Bool:=
 if n=2 then Ef 2 s else if n≠3 then false else if s≠aCG then false else match l.find? wX with
  |none=>false
  |some a=>decide (EM a.value=wY\/EM a.value=cF)
end
section
section
variable{U:Type}{f:U->List Aa}{l l2:List U}{v v2:Aa}{z b:Nat}{k k2:IntKind}
def Bz.GO(hv:Bz z (l.map f) v):Az (.len false) [v]=some (.int .i64 (l.length:Int)):=by have:=Bz.len hv;rwa [Aw] at this
def Bz.DB(hv:Bz z (l.map f) v){n:Nat}(hn:n<l.length):Az (.FG z) [v,.int k (n:Int)]=some (.Cu (f l[n])):=by have:=Bz.FG hv (k:=k) (n:=n) (by simpa using hn);simpa using this
def Bz.Sd(hv:Bz z (l.map f) v){n:Nat}(hn:n<=l.length):∃u,Az (.PU z false false true) [v,.int k (n:Int)]=some u/\Bz z ((l.take n).map f) u:=by
 rcases hv with rfl|⟨rfl,h⟩
 .have a:En (n:Int) (l.map f).length=some n:=by unfold En;rw[Aw,Ag Ac];rfl
  refine⟨.sl z ((l.map f).take n),?_,.inl (by rw[GM])⟩;simp only[Az,Im,Dx,a,BJ,Yv,BE,F0]
 .have:l=[]:=by simpa using h
  subst this;have:n=0:=by simpa using hn
  subst this;exact⟨.slnil,rfl,.inr ⟨rfl,rfl⟩⟩
def Bz.wZ(hv:Bz z (l.map f) v){n:Nat}(hn:n<=l.length):∃u,Az (.PU z false true false) [v,.int k (n:Int)]=some u/\Bz z ((l.drop n).map f) u:=by
 rcases hv with rfl|⟨rfl,h⟩
 .have a:En (n:Int) (l.map f).length=some n:=by unfold En;rw[Aw,Ag Ac];rfl
  refine⟨.sl z ((l.map f).drop n),?_,.inl (by rw[K5])⟩;simp only[Az,Im,Dx,a,BJ,Yv,BE,BN]
 .have:l=[]:=by simpa using h
  subst this;have:n=0:=by simpa using hn
  subst this;exact⟨.slnil,rfl,.inr ⟨rfl,rfl⟩⟩
def Bz.nj(hv:Bz z (l.map f) v)(Rv:Bz z (l2.map f) v2)(hb:(l.length+l2.length)*b<=AJ):∃u,Az (.append z b) [v,v2]=some u/\Bz z ((l++l2).map f) u:=by obtain⟨u,e,hu⟩:=Bz.Jn hv Rv (b:=b) (by simpa using hb);exact⟨u,e,by rwa [BW]⟩
def Bz.Pv(Rv:Bz z (l2.map f) v2)(hb:l2.length*b<=AJ):∃u,Az (.append z b) [.slnil,v2]=some u/\Bz z (l2.map f) u:=by obtain⟨u,e,hu⟩:=Bz.Jn (v:= .slnil) (r:=[]) .nil Rv (b:=b) (by simpa using hb);exact⟨u,e,by simpa using hu⟩
def Bz.Xi{a:U}(hv:Bz z (l.map f) v)(hb:(l.length+1)*b<=AJ):Az (.append z b) [v,.sl z [f a]]=some (.sl z ((l++[a]).map f)):=by rw[Bz.mz hv (by simpa using hb)];simp
end
def DN{a b:Int}(h1: -9223372036854775808<=a-b)(h2:a-b<9223372036854775808):Az (.int .sub) [.int .i64 a,.int .i64 b]=some (.int .i64 (a-b)):=by rw[rO,wrap_i64 h1 h2]
def Vh{a b:Int}(h1: -9223372036854775808<=a+b)(h2:a+b<9223372036854775808):Az (.int .add) [.int .i64 a,.int .i64 b]=some (.int .i64 (a+b)):=by rw[rN,wrap_i64 h1 h2]
def Item.zero:Item:=⟨0,0,[],false⟩
def Item.DW{a:Item}:a.row.length=4:=rfl
def Item.g0{a:Item}{d:Aa}:a.row.getD 0 d= .int .i64 a.node:=rfl
def Item.g1{a:Item}{d:Aa}:a.row.getD 1 d= .int .i64 a.Be:=rfl
def Item.g2{a:Item}{d:Aa}:a.row.getD 2 d= .str a.name:=rfl
def Item.g3{a:Item}{d:Aa}:a.row.getD 3 d= .bool a.OI:=rfl
def Item.at0{a:Item}:a.row[0]?=some (.int .i64 a.node):=rfl
def Item.KT{a:Item}:a.row.take 4=a.row:=rfl
def Item.nl{a:Item}:a.row.drop 1=[.int .i64 a.Be,.str a.name,.bool a.OI]:=rfl
def Item.aCI{a:Item}:a.row.drop 2=[.str a.name,.bool a.OI]:=rfl
def Item.aCJ{a:Item}:a.row.drop 3=[.bool a.OI]:=rfl
def Item.UR{a:Item}:[Aa.int .i64 a.node,.int .i64 a.Be,.str a.name,.bool a.OI]=a.row:=rfl
def Item.fill{a:Item}:Bj [.int .i64 0,.int .i64 0,.str [],.bool false] ([(0,1),(1,1),(2,1),(3,1)].zip a.row)=some a.row:=rfl
def Jw:=ai @Item.fill (ai @Item.DW (ai @Item.g0 (ai @Item.g1 (ai @Item.g2 (ai @Item.g3 (ai @Item.at0 (ai @Item.KT (ai @Item.nl (ai @Item.aCI (ai @Item.aCJ (ai @Item.UR (ai @Fk (@Bs.{0})))))))))))))
def DO(l:List Item)(i:Int):Item:=if 0<=i then l.getD i.toNat Item.zero else Item.zero
def Fs(l:List Item):Item:=DO l ((l.length:Int)-1)
def AW{U:Type}(q:U->Bool)(l:List U):Int:=match l.reverse.findIdx? q with
 |some k=>(l.length:Int)-1 -k
 |none=> -1
def Pw{U:Type}{q:U->Bool}:AW q []= -1:=rfl
def Ly{U:Type}{q:U->Bool}{l:List U}{a:U}:AW q (l++[a])=if q a then(l.length:Int) else AW q l:=by
 unfold AW;rw[HY,IK,Hl,aJR];by_cases h:q a=true;.simp only[h,BE,Ao,AS];omega
 .simp only[h,DR,Ch,Ao,AS];cases List.findIdx? q l.reverse with
  |none=>rfl
  |some k=>simp only[BJ];omega
def N9{U:Type}{q:U->Bool}{l:List U}{n:Nat}(hn:n<l.length):AW q (l.take (n+1))=if q l[n] then(n:Int) else AW q (l.take n):=by rw[AP hn,Ly,AB,Cx (TU hn)]
def D5{U:Type}{q:U->Bool}{l:List U}:(AW q l= -1/\∀a∈l,q a=false)\/∃(n:Nat) (hn:n<l.length),AW q l=(n:Int)/\q l[n]=true/\∀m (hm:m<l.length),n<m->q l[m]=false:=by
 have key:∀r:List U,(AW q r.reverse= -1/\∀a∈r.reverse,q a=false)\/∃(n:Nat) (hn:n<r.reverse.length),AW q r.reverse=(n:Int)/\q r.reverse[n]=true/\∀m (hm:m<r.reverse.length),n<m->q r.reverse[m]=false:=by
  intro r;induction r with
  |nil=>exact .inl ⟨rfl,Ax⟩
  |cons a r ih=>
   rw[HH,Ly];by_cases h:q a=true;.refine .inr ⟨r.reverse.length,Ax,by rw[Ag h],by simp[h],λm hm hlt=>?_⟩;simp at hm hlt;omega
   .rw[Af h];rcases ih with⟨h1,h2⟩|⟨n,hn,h1,h2,c⟩
    .exact .inl ⟨h1,λb hb=>by
      rcases Aq.1 hb with hb|hb
      .exact h2 b hb
      .simp at hb;subst hb;simpa using h⟩
    .refine .inr ⟨n,by simp at hn⊢;omega,h1,by rw[K6 hn];exact h2,λm hm hlt=>?_⟩;by_cases Ww:m<r.reverse.length;.rw[K6 Ww];exact c m Ww hlt
     .have:m=r.reverse.length:=by simp at hm Ww⊢;omega
      subst this;simpa using h
 have:=key l.reverse;rwa [Ka] at this
def At(h:Ai)(id o:Nat)(v:Aa):Prop:=∃cs,h[id]?=some (.cells cs)/\cs[o]?=some v
def put(h:Ai)(id o:Nat)(u:Aa):Ai:=match h[id]? with
 |some (.cells cs)=>h.set id (.cells (cs.set o u))
 |_=>h
section
variable{h t:Ai}{id o:Nat}{u v w:Aa}
def HQ{cs:List Aa}(hc:h[id]?=some (.cells cs)):put h id o u=h.set id (.cells (cs.set o u)):=by unfold put;rw[hc]
def LA:(put h id o u).length=h.length:=by unfold put;split<;>simp
def At.lt(ha:At h id o v):id<h.length:=by obtain⟨cs,hc,_⟩:=ha;exact(Al.1 hc).1
def At.load(ha:At h id o v):Bd h none (.ptr (some (id,o)))=some v:=by obtain⟨cs,hc,e⟩:=ha;simp only[Bd,hc,Gq,e]
def At.store(ha:At h id o v)(hu:u.cells=[u]):CK h 1 (.ptr (some (id,o))) u=some (put h id o u):=by
 obtain⟨cs,hc,e⟩:=ha;have hl:=(Al.1 e).1;rw[HQ hc];simp only[CK,hc,hu,AS,PS];have a:cs.set o u=cs.take o++[u]++cs.drop (o+1):=by rw[Ce,Ag hl];simp
 rw[Ag (Ac:o+1<=cs.length),a]
def At.put(ha:At h id o v):At (put h id o u) id o u:=by obtain⟨cs,hc,e⟩:=ha;have hl:=(Al.1 e).1;have hi:=(Al.1 hc).1;rw[HQ hc];exact⟨cs.set o u,by simp[hi],by simp[hl]⟩
def At.same(ha:At h id o v):Am.put h id o v=h:=by obtain⟨cs,hc,e⟩:=ha;obtain⟨hl,e⟩:=Al.1 e;obtain⟨hi,a⟩:=Al.1 hc;rw[HQ hc,<-e,Jg,<-a,Jg]
def cG:Am.put (Am.put h id o u) id o w=Am.put h id o w:=by
 cases hc:h[id]? with
 |none=>
  have e:∀u,Am.put h id o u=h:=λu=>by unfold Am.put;rw[hc]
  rw[e,e]
 |some x=>cases x with
  |cells cs=>have hi:=(Al.1 hc).1;rw[HQ hc,HQ hc,HQ (cs:=cs.set o u) (by simp[hi])];simp
  |_=>
   have e:∀u,Am.put h id o u=h:=λu=>by unfold Am.put;rw[hc]
   rw[e,e]
def At.Jn(ha:At h id o v):At (h++t) id o v:=by obtain⟨cs,hc,e⟩:=ha;exact⟨cs,by rw[An (Al.1 hc).1];exact hc,e⟩
def cH(ha:At h id o v):Am.put (h++t) id o u=Am.put h id o u++t:=by have hi:=ha.lt;obtain⟨cs,hc,e⟩:=ha;rw[HQ hc,HQ (by rw[An hi];exact hc),aFx _ _ hi]
def CU{i:Nat}(hn:i≠id):(Am.put h id o u)[i]?=h[i]?:=by
 unfold Am.put;split;.rw[Ap (DC hn)]
 .rfl
end
def bp(h:Ai)(p:Aa)(l:List Item):Prop:=(p= .ptr none/\l=[])\/∃id o v,p= .ptr (some (id,o))/\At h id o v/\Dy l v
def HL{l:List Item}{n:Nat}(hn:n<l.length):DO l (n:Int)=l[n]:=by have:(0:Int)<=(n:Int):=Ac;simp[DO,this,hn]
def Xj{l:List Item}{i:Int}(h:i<0\/(l.length:Int)<=i):DO l i=Item.zero:=by
 unfold DO;rcases h with h|h
 .rw[Af Ac]
 .rw[Ag Ac,AK,DQ Ac];rfl
section
variable{h:Ai}{p:Aa}{l:List Item}
def yr{s:Aj}{ws:List Aj}:decide (0<=BT (λw=>decide (s=w)) 0 ws)=decide (s∈ws):=by
 rcases Gr (p:=λw=>decide (s=w)) (l:=ws) (k:=0) with⟨h1,h2⟩|⟨n,a,h1,h2,c⟩
 .rw[h1,C7];have:=Lp.1 h2;exact⟨λh=>Ac,λh=>absurd (show s=s from rfl) (by simpa using this s h)⟩
 .rw[h1,C7];have e:s=a:=by simpa using UC c
  have:a∈ws:=Cr h2;refine⟨λ_=>e▸this,λ_=>Ac⟩
def Bf(ws:List Aj)(a:Item):Bool:=decide (a.Be=1/\a.name∈ws)
def CO{ws:List Aj}:HP ws (.sl 1 (ws.map B6)):= .mk
def Oa(n:Int)(a:Item):Bool:=
 if n=4 then Bf R7 a else if n=5 then !Bf Pr a else if a.Be=3\/a.Be=2 then Ef a.Be a.name
 else Bf Vg a||(decide (n=2)&&Bf cD a)||(decide (n=3)&&Bf [aQi] a)
def Ez{ws:List Aj}{args:List Aa}(e:args=ws.map Aa.str)(h:ws.length<=16777216):Az (.DX 1) args=some (.sl 1 (ws.map B6)):=by
 subst e;have g:(ws.map Aa.str).all (λa=>a.cells.length==1)=true:=Ax;have c:(ws.map Aa.str).map (·.cells)=ws.map B6:=by simp[B6]
 rw[wU,g,c];simp[h]
def rS:Az (.DX 1) [S aQg,S aQu,S aQh]=some (.sl 1 (R7.map B6)):=Ez (ws:=R7) rfl AM
def mU:Az (.DX 1) [S aQN,S aQx]=some (.sl 1 (Pr.map B6)):=Ez (ws:=Pr) rfl AM
def bq:Az (.DX 1) [S [111,108],S [117,108]]=some (.sl 1 (cD.map B6)):=Ez (ws:=cD) rfl AM
def rT:Az (.DX 1) [S aRu,S aQD,S aQg,S aRm,S aRA,S aQu,S [116,100],S aQh,S [116,104]]=some (.sl 1 (Vg.map B6)):=Ez (ws:=Vg) rfl AM
def br:Az (.DX 1) [S aQi]=some (.sl 1 ([aQi].map B6)):=Ez (ws:=[aQi]) rfl AM
def Px{U:Type}(q e:U->Bool):List U->Bool
 |[]=>false
 |a::r=>if q a then true else if e a then false else Px q e r
def rU{U:Type}{q e:U->Bool}(l:List U)(b:Bool):(if h:0<=AW (λa=>q a||e a) l/\(AW (λa=>q a||e a) l).toNat<l.length then q (l[(AW (λa=>q a||e a) l).toNat]'h.2) else false)=Px q e l.reverse:=by
 have key:∀r:List U,(if h:0<=AW (λa=>q a||e a) r.reverse/\(AW (λa=>q a||e a) r.reverse).toNat<r.reverse.length then q (r.reverse[(AW (λa=>q a||e a) r.reverse).toNat]'h.2) else false)=Px q e r:=by
  intro r;induction r with
  |nil=>simp[Px,Pw]
  |cons a r ih=>
   simp only[HH,Px];have e0:=Ly (q:=λa=>q a||e a) (l:=r.reverse) (a:=a);by_cases hq:q a=true
   .rw[Ag (by simp[hq])] at e0;have c:(AW (λa=>q a||e a) (r.reverse++[a])).toNat=r.reverse.length:=by rw[e0];omega
    simp only[c];rw[o7 ⟨by rw[e0];omega,Ax⟩];simp[hq]
   .by_cases he:e a=true
    .rw[Ag (by simp[he])] at e0;have c:(AW (λa=>q a||e a) (r.reverse++[a])).toNat=r.reverse.length:=by rw[e0];omega
     simp only[c];rw[o7 ⟨by rw[e0];omega,Ax⟩];simp[hq,he]
    .rw[Af (by simp[hq,he])] at e0;simp only[hq,he,DR,Ch,<-ih,e0];rcases D5 (q:=λa=>q a||e a) (l:=r.reverse) with⟨h1,h2⟩|⟨n,hn,h1,h2,j⟩
     .simp[h1]
     .have g:(0:Int)<=(n:Int)/\(n:Int).toNat<r.reverse.length:=⟨Ac,by simpa using hn⟩;have i:(0:Int)<=(n:Int)/\(n:Int).toNat<(r.reverse++[a]).length:=⟨Ac,by simp at hn⊢;omega⟩;simp only[h1];rw[o7 g,o7 i,K6 g.2]
 have:=key l.reverse;rwa [Ka] at this
def HP.cells{v:Aa}{ws:List Aj}(hv:HP ws v):v.cells=[v]:=Bz.cells hv
def BK(node:Int)(a:Item):Bool:=decide (a.node=node)
end
end
section
section
variable{h:Ai}{p v:Aa}{l:List Item}
def bt{n s:Int}{t:Aj}{b:Bool}:Az (.C2 [I 0,I 0,S [],ff] [(0,1),(1,1),(2,1),(3,1)]) [.int .i64 n,.int .i64 s,.str t,.bool b]=some (.agg (Item.row ⟨n,s,t,b⟩)):=by simp only[B9];rfl
def np{a:Item}:Az (.DX 4) [.agg a.row]=some (.sl 4 [a.row]):=R4 rfl AM
def LB(h:Ai)(id o:Nat)(l:List Item):Prop:=∃v,At h id o v/\Dy l v
def LB.at{id o:Nat}(hs:LB h id o l):bp h (.ptr (some (id,o))) l:=let⟨v,h1,h2⟩:=hs; .inr ⟨id,o,v,rfl,h1,h2⟩
def Dy.cells(hv:Dy l v):v.cells=[v]:=Bz.cells hv
def Dp(a:Item):Bool:=Ef a.Be a.name
def D0(node:Int)(l:List Item):Int:=if AW (BK node) l<0 then -1 else match(l.drop ((AW (BK node) l).toNat+1)).findIdx? Dp with
 |some k=>AW (BK node) l+1+k
 |none=> -1
def Gf{U:Type}(q:U->Bool)(l:List U)(n:Nat):Int:=match(l.drop n).findIdx? q with
 |some k=>(n:Int)+k
 |none=> -1
def YW{U:Type}{q:U->Bool}{l:List U}{n:Nat}(h:l.length<=n):Gf q l n= -1:=by unfold Gf;rw[AV h];rfl
def cI{U:Type}{q:U->Bool}{l:List U}{n:Nat}(h:n<l.length):Gf q l n=if q l[n] then(n:Int) else Gf q l (n+1):=by
 unfold Gf;rw[Ay h,aJR];by_cases hq:q l[n]=true;.simp only[hq,BE];omega
 .simp only[hq,Ch,DR];cases List.findIdx? q (l.drop (n+1)) with
  |none=>rfl
  |some k=>simp only[BJ];omega
def Mz{node:Int}:D0 node l=if AW (BK node) l<0 then -1 else Gf Dp l ((AW (BK node) l).toNat+1):=by
 unfold D0 Gf;by_cases h:AW (BK node) l<0;.simp only[h,BE]
 .simp only[h,DR];cases(l.drop ((AW (BK node) l).toNat+1)).findIdx? Dp with
  |none=>rfl
  |some k=>simp only;omega
end
end
section
def Ev.ret{C:Fx}{f:FuncId}{args:List Aa}{h:Ai}{R:Aa->Ai->Prop}(hw:Ev C f args h R):∃r h',B2 C f args h r h'/\R r h':=by obtain⟨n,x,vs,h',e,hx,r,hv,hR⟩:=hw;exact⟨r,h',⟨n,x,vs,h',e,hx,hv,rfl⟩,hR⟩
def OJ(b a:Item->Bool):List Item->List Item
 |x::y::r=>if b x then x::y::r else if a x then y::r else OJ b a (y::r)
 |r=>r
def Dd(b a:Item->Bool)(l:List Item):List Item:=(OJ b a l.reverse).reverse
def bu{b a:Item->Bool}{l:List Item}(h:l.length<=1):OJ b a l=l:=by
 match l with
 |[]=>rfl
 |[x]=>rfl
 |x::y::r=>simp at h
def mV{b a:Item->Bool}{l:List Item}(h:l.length<=1):Dd b a l=l:=by unfold Dd;rw[bu (by simpa using h),Ka]
def bw{b a:Item->Bool}{l:List Item}{x:Item}(h:1<=l.length):Dd b a (l++[x])=if b x then l++[x] else if a x then l else Dd b a l:=by
 unfold Dd;rw[HY,IK,Hl];cases hr:l.reverse with
 |nil=>
  have:l=[]:=by simpa using hr
  subst this;simp at h
 |cons y r=>
  have hl:l=r.reverse++[y]:=by rw[<-Ka l,hr,HH]
  rw[OJ];by_cases h1:b x=true;.rw[Ag h1,Ag h1];rw[hl];simp
  .rw[Af h1,Af h1];by_cases h2:a x=true;.rw[Ag h2,Ag h2];rw[hl];simp
   .rw[Af h2,Af h2]
def bx{b a:Item->Bool}{l:List Item}{n:Nat}(hn:n+1<l.length):Dd b a (l.take (n+2))=if b l[n+1] then l.take (n+2) else if a l[n+1] then l.take (n+1) else Dd b a (l.take (n+1)):=by have e:l.take (n+2)=l.take (n+1)++[l[n+1]]:=AP hn;rw[e,bw (by rw[AB];omega)]
def cJ{b a:Item->Bool}:∀{l:List Item},(Dd b a l).length<=l.length:=by
 have key:∀r:List Item,(OJ b a r).length<=r.length:=by
  intro r;induction r with
  |nil=>simp[OJ]
  |cons x r ih=>
   cases r with
   |nil=>simp[OJ]
   |cons y r=>
    rw[OJ];split;.simp
    .split;.simp
     .exact Bn ih Ax
 intro l;have:=key l.reverse;simpa[Dd] using this
section
variable{h:Ai}{p v:Aa}{l:List Item}
def Xk{n:Nat}(hn:n<l.length):Fs (l.take (n+1))=l[n]:=by
 have e:((l.take (n+1)).length:Int)-1=(n:Int):=by rw[AB];omega
 unfold Fs;rw[e,HL (by rw[AB];omega)];simp
def LB.cK{id o:Nat}(hs:LB h id o l):∃u,h=put h id o u/\Dy l u:=by obtain⟨u,hc,hu⟩:=hs;exact⟨u,hc.same.symm,hu⟩
def LB.lt{id o:Nat}(hs:LB h id o l):∃v,At h id o v:=let⟨u,hc,_⟩:=hs;⟨u,hc⟩
def LB.Œ{id o:Nat}{u:Aa}(hlt:∃v,At h id o v)(hu:Dy l u):LB (put h id o u) id o l:=let⟨_,ha⟩:=hlt;⟨u,ha.put,hu⟩
def Da(_:Item):Bool:=false
def EG(s:Aj)(a:Item):Bool:=decide (a.Be≠1\/a.name∉JL\/a.name=s)
def DT(a:Item):Bool:=decide (a.Be≠1\/¬(a.name∈P8\/a.name∈JL))
def Gs(node:Int)(l:List Item):List Item:=if AW (BK node) l<0 then l else Dd Da (BK node) l
end
end
section
section
variable{h:Ai}{p v:Aa}{l:List Item}
def aCK(l:List Item):∀r∈l.map Item.row,r.length=4:=LZ (f:=Item.row) (λa=>Item.DW) l
def xA{n:Nat}(h:n<=2000000000):n*40<=AJ:=by have:AJ=140737488355328:=rfl;omega
def Bv{U:Type}(l:List U)(k:Nat):List U:=l.take k++l.drop (k+1)
def Cv(node:Int)(l:List Item):List Item:=if AW (BK node) l<1 then l else Bv l (AW (BK node) l).toNat
def Gg(i:Int)(n:Nat):Nat:=min (max i 1).toNat n
def Py(node:Int)(a:Item)(l:List Item):List Item:=if AW (BK node) l<1 then l else l.set (AW (BK node) l).toNat a
end
end
section
end
section
section
variable{h:Ai}{p v w:Aa}{l:List Item}{ws:List Aj}
end
end
section
def fT:List (Aj×Int×Aj):=[(aQ4,4,aRL),(aQ2,4,aRI),(aRe,4,aSa),(aRf,4,aSb),(aRg,4,aSc),(aQ7,4,aQq),(aRh,4,aRj),(aRy,5,[108,97,110,103]),(aRq,5,aR4),(aRb,6,aRb),(aQ8,6,aRY)]
def Xl(x:Aj×Int×Aj):Aa×Aa:=(.str x.1,.agg [.int .i64 x.2.1,.str x.2.2,.str []])
def ft(n:Nat):List (Aa×Aa):=(fT.take n).map Xl
def aCL:M9 aQ4 (.agg [.int .i64 4,.str aRL,.str []]) (ft 0)=some (ft 1):=by kernel_rfl
def aCM:M9 aQ2 (.agg [.int .i64 4,.str aRI,.str []]) (ft 1)=some (ft 2):=by kernel_rfl
def aCN:M9 aRe (.agg [.int .i64 4,.str aSa,.str []]) (ft 2)=some (ft 3):=by kernel_rfl
def aCO:M9 aRf (.agg [.int .i64 4,.str aSb,.str []]) (ft 3)=some (ft 4):=by kernel_rfl
def aCP:M9 aRg (.agg [.int .i64 4,.str aSc,.str []]) (ft 4)=some (ft 5):=by kernel_rfl
def aCQ:M9 aQ7 (.agg [.int .i64 4,.str aQq,.str []]) (ft 5)=some (ft 6):=by kernel_rfl
def aCR:M9 aRh (.agg [.int .i64 4,.str aRj,.str []]) (ft 6)=some (ft 7):=by kernel_rfl
def aCS:M9 aRy (.agg [.int .i64 5,.str [108,97,110,103],.str []]) (ft 7)=some (ft 8):=by kernel_rfl
def aCT:M9 aRq (.agg [.int .i64 5,.str aR4,.str []]) (ft 8)=some (ft 9):=by kernel_rfl
def aCU:M9 aRb (.agg [.int .i64 6,.str aRb,.str []]) (ft 9)=some (ft 10):=by kernel_rfl
def œ:M9 aQ8 (.agg [.int .i64 6,.str aRY,.str []]) (ft 10)=some (ft 11):=by kernel_rfl
def rV{h:Ai}{es:List (Aa×Aa)}{s:Aj}{v:Aa}:QB (h++[.map es]) (.map (some h.length)) (.str s) v=(M9 s v es).map λes=>h++[.map es]:=by simp[QB]
def Jp(n:Aj):Option (Int×Aj):=(fT.find? λx=>decide (n=x.1)).map (·.2)
def Xm(n:Aj):∀l:List (Aj×Int×Aj),RA n (l.map Xl)=some ((l.find? λx=>decide (n=x.1)).map λx=>(Xl x).2)
 |[]=>rfl
 |x::l=>by
  rw[A9,Hz,Xl,RA];by_cases e:n=x.1;.rw[Ag e,Ak e];rfl
  .rw[Af e,Ah e];exact Xm n l
def L0{h:Ai}{n:Aj}:OB (h++[.map (ft 11)]) (.agg [.int .i64 0,.str [],.str []]) true (.map (some h.length)) (.str n)=
  some (match Jp n with|some (s,m)=> .tuple [.agg [.int .i64 s,.str m,.str []],.bool true]|none=> .tuple [.agg [.int .i64 0,.str [],.str []],.bool false]):=by
 have e:S8 (h++[.map (ft 11)]) (.map (some h.length)) (.str n)=RA n (fT.map Xl):=by simp[S8,ft,fT]
 rw[OB,e,Xm,Jp];cases fT.find? λx=>decide (n=x.1)<;>rfl
abbrev aCV:Aj:=aRp
abbrev Ŕ:Aj:=aRr
def MA(sp:Int)(n:Aj):Aj:=if sp=2 then DH n Nv else if sp=3/\n=aCV then Ŕ else n
def DP(sp:Int)(a:AZ):AZ:=
 if sp=2\/sp=3 then match Jp (MA sp a.name) with
  |some (s,m)=>⟨s,m,a.value⟩
  |none=>⟨0,MA sp a.name,a.value⟩
 else⟨0,a.name,a.value⟩
def cL(s:Aj):(EM s).length=s.length:=by simp[EM]
def OK(n:Aj):∀ws,DH n ws=n\/(DH n ws∈ws/\EM (DH n ws)=n)
 |[]=> .inl rfl
 |w::ws=>by
  rw[DH];split;.rename_i e;exact .inr ⟨aJS,e⟩
  .rcases OK n ws with h|⟨h1,h2⟩
   .exact .inl h
   .exact .inr ⟨Yu _ h1,h2⟩
def L1{a b c:Aa}:Az (.DX 3) [.agg [a,b,c]]=some (.sl 3 [[a,b,c]]):=rfl
def AZ.DW{a:AZ}:a.row.length=3:=rfl
def AZ.KT{a:AZ}:a.row.take 3=a.row:=rfl
section
variable{v:Aa}{l:List AZ}{h:Ai}
def nr{a b:AZ}{neg:Bool}:Az (.geq neg [.i,.s,.s]) [.agg a.row,.agg b.row]=some (.bool (decide (a=b) != neg)):=by
 rw[Xa];have:DU [.i,.s,.s] a.row b.row=some (decide (a=b)):=by simp only[DU,LM,AZ.row,BE,Bx];cases a;cases b;simp only[AZ.mk.injEq];rw[Lb];simp
 rw[this];rfl
def bz{k:IntKind}{s:Aj}{a z:Nat}(ha:a<=s.length):Az (.PU z true true false) [.str s,.int k (a:Int)]=some (.str (s.drop a)):=by
 have c:En (a:Int) s.length=some a:=by unfold En;rw[Ag Ac];rfl
 simp[Az,Im,Dx,c]
end
end
section
structure Ci where
 node:Int
 name:Aj
 As:List AZ
deriving DecidableEq
structure De where
 c:Ci
 v:Aa
 ok:A6 c.As v
def De.row(e:De):List Aa:=[.int .i64 e.c.node,.str e.c.name,e.v]
def EP(l:List De)(v:Aa):Prop:=Bz 3 (l.map De.row) v
section
variable{e:De}{d:Aa}
def De.DW:e.row.length=3:=rfl
def De.g0:e.row.getD 0 d= .int .i64 e.c.node:=rfl
def De.g1:e.row.getD 1 d= .str e.c.name:=rfl
def De.g2:e.row.getD 2 d=e.v:=rfl
def De.at0:e.row[0]?=some (.int .i64 e.c.node):=rfl
def De.KT:e.row.take 3=e.row:=rfl
def De.nl:e.row.drop 1=[.str e.c.name,e.v]:=rfl
def De.UR:[Aa.int .i64 e.c.node,.str e.c.name,e.v]=e.row:=rfl
def De.aHt:Az (.len false) [e.v]=some (.int .i64 (e.c.As.length:Int)):=Bz.GO e.ok
end
def AZ.g0{a:AZ}{d:Aa}:a.row.getD 0 d= .int .i64 a.Be:=rfl
def AZ.g1{a:AZ}{d:Aa}:a.row.getD 1 d= .str a.name:=rfl
def AZ.g2{a:AZ}{d:Aa}:a.row.getD 2 d= .str a.value:=rfl
def AZ.UR{a:AZ}:[Aa.int .i64 a.Be,.str a.name,.str a.value]=a.row:=rfl
def ZS{n:Nat}(h:n<=2000000000):n*48<=AJ:=by have:AJ=140737488355328:=rfl;omega
def Tt(e:De):Bool:=decide (e.c.node=0)
def Tu(n:Int)(e:De):Bool:=decide (e.c.node=n)
def since(l:List De):Int:=AW Tt l+1
def b_:since []=0:=rfl
def rW{l:List De}{e:De}:since (l++[e])=if e.c.node=0 then(l.length:Int)+1 else since l:=by unfold since;rw[Ly];by_cases h:e.c.node=0<;>simp[Tt,h]
def rX{l:List De}{n:Nat}(hn:n<l.length):since (l.take (n+1))=if l[n].c.node=0 then(n:Int)+1 else since (l.take n):=by rw[AP hn,rW,AB,Cx (TU hn)]
def Rc(l:List De):∃s:Nat,since l=(s:Int)/\s<=l.length/\(∀m (hm:m<l.length),s<=m->l[m].c.node≠0)/\(∀t,s=t+1->∃ht:t<l.length,l[t].c.node=0):=by
 rcases D5 (q:=Tt) (l:=l) with⟨h1,h2⟩|⟨n,hn,h1,h2,a⟩
 .refine⟨0,by unfold since;rw[h1];rfl,Bc _,λm hm _=>?_,λt ht=>by omega⟩;have:=h2 _ (Bb hm);simpa[Tt] using this
 .refine⟨n+1,by unfold since;rw[h1];rfl,hn,λm hm Es=>?_,λt ht=>?_⟩;.have:=a m hm Ac;simpa[Tt] using this
  .obtain rfl:t=n:=by omega
   exact⟨hn,by simpa[Tt] using h2⟩
section
variable{h:Ai}{v:Aa}{l:List De}{id:Nat}
def xB(name:Aj):List De->Int
 |[]=> -1
 |e::t=>if e.c.node=0 then -1 else if e.c.name=name then(t.length:Int) else xB name t
def QL(name:Aj)(l:List De):Int:=xB name l.reverse
def rY{name:Aj}{n:Nat}(hn:n<l.length):QL name (l.take (n+1))=if l[n].c.node=0 then -1 else if l[n].c.name=name then(n:Int) else QL name (l.take n):=by rw[AP hn,QL,HY,IK,Hl,xB,Zf,AB,Cx (TU hn),QL]
def cc{name:Aj}:QL name []= -1:=rfl
def Kp(node:Int)(l:List De):Int:=if node=0 then -1 else AW (Tu node) l
end
section
variable{h:Ai}{v:Aa}{l:List AZ}
def Lh(a b:Ci):Bool:=decide (a.name=b.name/\a.As.length=b.As.length/\(∀x∈a.As,x∈b.As)/\∀x∈b.As,x∈a.As)
def gj(e:De):Prop:=e.c.As.length<=1000000000
end
end
section
mutual
def Aa.Se:∀a:Aa,Aa.beq a a=true
 | .bool a=>by simp[Aa.beq]
 | .int k a=>by simp[Aa.beq]
 | .str a=>by simp[Aa.beq]
 | .ptr a=>by simp[Aa.beq]
 | .Cu a=>by simp[Aa.beq,Aa.Kq a]
 | .sl n a=>by simp[Aa.beq,Aa.Xn a]
 | .EI _=>by simp[Aa.beq]
 | .slnil=>by simp[Aa.beq]
 | .CT a c d e=>by simp[Aa.beq]
 | .map a=>by simp[Aa.beq]
 | .func f a c=>by simp[Aa.beq,Aa.Kq a,Aa.Kq c]
 | .nilFunc=>by simp[Aa.beq]
 | .iface t a=>by simp[Aa.beq,Aa.Se a]
 | .nilIface=>by simp[Aa.beq]
 | .agg a=>by simp[Aa.beq,Aa.Kq a]
 | .tuple a=>by simp[Aa.beq,Aa.Kq a]
def Aa.Kq:∀a:List Aa,Aa.Rx a a=true
 |[]=>by simp[Aa.Rx]
 |a::x=>by simp[Aa.Rx,Aa.Se a,Aa.Kq x]
def Aa.Xn:∀a:List (List Aa),Aa.Ry a a=true
 |[]=>by simp[Aa.Ry]
 |a::x=>by simp[Aa.Ry,Aa.Kq a,Aa.Xn x]
end
def Tv(h:Ai)(id o:Nat)(l:List De):Prop:=∃u,At h id o u/\EP l u
def EP.cells{l:List De}{v:Aa}(hv:EP l v):v.cells=[v]:=Bz.cells hv
def Tv.lt{h:Ai}{id o:Nat}{l:List De}(hs:Tv h id o l):∃v,At h id o v:=let⟨u,hc,_⟩:=hs;⟨u,hc⟩
def cM(l:List De):∀r∈l.map De.row,r.length=3:=LZ (f:=De.row) (λa=>De.DW) l
section
variable{h:Ai}{v:Aa}{l:List De}{id:Nat}
def cf{r:List Aa}(h:r.length=3):Az (.DX 3) [.agg r]=some (.sl 3 [r]):=R4 (a:= .agg r) h AM
def mW(n:Int)(l:List De):Kp n l= -1\/∃k:Nat,k<l.length/\Kp n l=(k:Int):=by
 unfold Kp;split;.exact .inl rfl
 .rcases D5 (q:=Tu n) (l:=l) with⟨h1,_⟩|⟨k,hk,h1,_⟩
  .exact .inl h1
  .exact .inr ⟨k,hk,h1⟩
def cN:De:=⟨⟨0,[],[]⟩,.slnil,.nil⟩
def nu:[I 0,S [],Aa.slnil]=cN.row:=rfl
def Gt(i:Int)(n:Nat):Nat:=min (max i 0).toNat n
def HF(l:List De):Nat:=(since l-1).toNat
end
end
section
def yt(e:Ci):List De->Nat
 |[]=>0
 |x::t=>if x.c.node=0 then 0 else yt e t+(if Lh x.c e=true then 1 else 0)
def rZ(e:Ci):List De->Int
 |[]=> -1
 |x::t=>if x.c.node=0 then -1 else if 0<=rZ e t then rZ e t else if Lh x.c e=true then(t.length:Int) else -1
def YX(e:Ci)(l:List De):Nat:=yt e l.reverse
def Rd(e:Ci)(l:List De):Int:=rZ e l.reverse
section
variable{e:Ci}{l:List De}{n s:Nat}
def ZT(hn:n<l.length):YX e (l.take (n+1))=if l[n].c.node=0 then 0 else YX e (l.take n)+(if Lh l[n].c e=true then 1 else 0):=by rw[AP hn,YX,HY,IK,Hl,yt,YX]
def ZU(hn:n<l.length):Rd e (l.take (n+1))=if l[n].c.node=0 then -1 else if 0<=Rd e (l.take n) then Rd e (l.take n) else if Lh l[n].c e=true then(n:Int) else -1:=by rw[AP hn,Rd,HY,IK,Hl,rZ,Rd,Zf,AB,Cx (TU hn)]
def sB(hs:since l=(s:Int)):YX e (l.take s)=0/\Rd e (l.take s)= -1:=by
 obtain⟨s',e,h1,h2,a⟩:=Rc l;obtain rfl:s=s':=Ac;cases s with
 |zero=>exact⟨rfl,rfl⟩
 |succ t=>obtain⟨ht,h0⟩:=a t rfl;exact⟨by rw[ZT ht,Ag h0],by rw[ZU ht,Ag h0]⟩
end
def Re(e:Ci)(l:List De):List De:=if e.node≠0/\3<=YX e l then Bv l (Rd e l).toNat else l
section
variable{h:Ai}{v:Aa}{l:List De}{id:Nat}
end
end
section
section
variable{h:Ai}{v:Aa}{l:List De}{id:Nat}
end
end
end Go.Am
end
section
namespace Go.Am
structure Fg where
 kind:Int:=0
 GH:Int:=0
 Bm:List Int:=[]
 Cl:Int:=0
 Be:Int:=0
 name:Aj:=[]
 As:List AZ:=[]
 data:Aj:=[]
 Jy:Aj:=[]
 sys:Aj:=[]
 CL:Bool:=false
 cont:Int:=0
 Dg:Int:=0
deriving DecidableEq
structure Ar where
 n:List Fg
 i:List Int
abbrev A5:Aj:=aQh
def US(x:Fg):Prop:=x.kind=4/\x.Be=1/\x.name=A5
instance(x:Fg):Decidable (US x):=by unfold US;infer_instance
namespace Ar
def len(A:Ar):Int:=A.n.length
def has(A:Ar)(h:Int):Prop:=1<=h/\h<=A.n.length
instance(A:Ar)(h:Int):Decidable (A.has h):=by unfold has;infer_instance
def nd(A:Ar)(h:Int):Fg:=if A.has h then A.n.getD (h.toNat-1) {} else{}
def inr(A:Ar)(h:Int):Int:=if A.has h then A.i.getD (h.toNat-1) 0 else 0
def set(A:Ar)(h:Int)(x:Fg):Ar:={n:=if A.has h then A.n.set (h.toNat-1) x else A.n,i:=A.i}
def Nw(A:Ar)(h:Int)(x:Int):Ar:={n:=A.n,i:=if A.has h then A.i.set (h.toNat-1) x else A.i}
def add(A:Ar)(x:Fg):Ar:={n:=A.n++[x],i:=A.i++[0]}
def up(A:Ar)(h:Int):Int:=if(A.nd h).GH≠0 then(A.nd h).GH else(A.nd h).Dg
end Ar
section
variable{A:Ar}{h k:Int}{x y:Fg}
def L2(a:¬A.has h):A.nd h={}:=by unfold Ar.nd;rw[Af a]
def IV:(A.set h x).n.length=A.n.length:=by simp only[Ar.set];split<;>simp
def yu:(A.set h x).len=A.len:=by unfold Ar.len;rw[IV]
def I2:(A.set h x).has k↔A.has k:=by unfold Ar.has;rw[IV]
def JM:(A.set h x).nd k=if k=h/\A.has h then x else A.nd k:=by
 unfold Ar.nd;simp only[I2];by_cases hk:A.has k
 .rw[Ag hk,Ag hk];simp only[Ar.set];by_cases a:A.has h
  .rw[Ag a];have h1:=a;have h2:=hk;unfold Ar.has at h1 h2;by_cases e:k=h;.subst e;rw[Ag ⟨rfl,a⟩,AK,AD Ac];rfl
   .rw[Af (by simp[e]),AK,Ap Ac,AK]
  .rw[Af a,Af (by simp[a])]
 .rw[Af hk,Af hk,Af];rintro⟨rfl,h2⟩;exact hk h2
def Sf:(A.set h x).inr k=A.inr k:=by unfold Ar.inr;simp only[I2];rfl
def Ob:(A.add x).len=A.len+1:=by simp[Ar.len,Ar.add]
def Ei:(A.add x).has k↔A.has k\/k=A.len+1:=by simp[Ar.has,Ar.add,Ar.len];omega
def Li:(A.add x).nd k=if k=A.len+1 then x else A.nd k:=by
 unfold Ar.nd;simp only[Ei];by_cases e:k=A.len+1;.subst e;simp[Ar.add,Ar.len]
 .by_cases hk:A.has k;.rw[Ag (.inl hk),Af e,Ag hk];unfold Ar.has at hk;simp only[Ar.add,AK];rw[An Ac]
  .rw[Af (by simp[hk,e]),Af e,Af hk]
def Vi(hl:A.i.length=A.n.length):(A.add x).inr k=A.inr k:=by
 unfold Ar.inr;simp only[Ei];by_cases e:k=A.len+1
 .subst e;have:¬A.has (A.len+1):=by unfold Ar.has Ar.len;omega
  rw[Ag (.inr rfl),Af this];simp[Ar.add,Ar.len,<-hl]
 .by_cases hk:A.has k;.rw[Ag (.inl hk),Ag hk];unfold Ar.has at hk;simp only[Ar.add,AK];rw[An Ac]
  .rw[Af (by simp[hk,e]),Af hk]
def mX:(A.Nw h k).len=A.len:=rfl
def Sg{m:Int}:(A.Nw h m).has k↔A.has k:=Iff.rfl
def xC{m:Int}:(A.Nw h m).nd k=A.nd k:=by rfl
def Xo{m:Int}(hl:A.i.length=A.n.length):(A.Nw h m).inr k=if k=h/\A.has h then m else A.inr k:=by
 unfold Ar.inr;simp only[Sg];by_cases hk:A.has k
 .rw[Ag hk,Ag hk];simp only[Ar.Nw];by_cases a:A.has h
  .rw[Ag a];have h1:=a;have h2:=hk;unfold Ar.has at h1 h2;by_cases e:k=h;.subst e;rw[Ag ⟨rfl,a⟩,AK,AD Ac];rfl
   .rw[Af (by simp[e]),AK,Ap Ac,AK]
  .rw[Af a,Af (by simp[a])]
 .rw[Af hk,Af hk,Af];rintro⟨rfl,h2⟩;exact hk h2
end
def Db(a:AZ):Int×Aj:=(a.Be,a.name)
def Gu(out:List AZ):List AZ->List AZ
 |[]=>out
 |x::l=>if out.any (λy=>decide (Db x=Db y)) then Gu out l else Gu (out++[x]) l
def CC(l:List AZ):List AZ:=Gu [] l
def Rf:∀{l out:List AZ},(out.map Db).Nodup->((Gu out l).map Db).Nodup
 |[],_,h=>h
 |x::l,out,h=>by
  rw[Gu];split;.exact Rf h
  .rename_i hn;refine Rf ?_;rw[BW,BP];refine⟨h,Ax,?_⟩;rintro a ha b hb rfl;simp at hb;subst hb;simp at ha hn;obtain⟨y,hy,e⟩:=ha;exact hn y hy e.symm
def mY:∀{l out:List AZ},((out++l).map Db).Nodup->Gu out l=out++l
 |[],out,_=>by simp[Gu]
 |x::l,out,h=>by
  rw[Gu,Af,mY (by simpa using h)];.simp
  .intro ha;rw[BW,BP] at h;simp at ha;obtain⟨y,hy,e⟩:=ha;exact h.2.2 _ (A4.2 ⟨y,hy,e.symm⟩) _ Ax rfl
def cg(l:List AZ):((CC l).map Db).Nodup:=Rf Ax
def yv{l:List AZ}(h:(l.map Db).Nodup):CC l=l:=by have:=mY (out:=[]) (l:=l) (by simpa using h);simpa[CC] using this
def ZV(l:List AZ):CC (CC l)=CC l:=yv (cg l)
def Tw:∀{l out:List AZ} {a:AZ},a∈Gu out l->a∈out\/a∈l
 |[],_,_,h=> .inl h
 |x::l,out,a,h=>by
  rw[Gu] at h;split at h
  .rcases Tw h with h|h
   .exact .inl h
   .exact .inr (by simp[h])
  .rcases Tw h with h|h
   .simp at h;rcases h with h|rfl
    .exact .inl h
    .exact .inr Ax
   .exact .inr (by simp[h])
def mZ{l:List AZ}{a:AZ}(h:a∈CC l):a∈l:=by simpa using Tw h
def Xp:∀{l out:List AZ},(Gu out l).length<=out.length+l.length
 |[],out=>by simp[Gu]
 |x::l,out=>by
  rw[Gu];split;.have:=Xp (l:=l) (out:=out);simp;omega
  .have:=Xp (l:=l) (out:=out++[x]);simp at this⊢;omega
def P9{l:List AZ}:(CC l).length<=l.length:=by have:=Xp (l:=l) (out:=[]);simpa[CC] using this
structure sC(x:Fg):Prop where
 k:1<=x.kind/\x.kind<=6
 Bm:x.Bm≠[]->x.kind=1\/x.kind=2\/x.kind=4
 elem:x.kind≠4->x.Be=0/\x.As=[]
 nm:x.kind≠4->x.kind≠3->x.name=[]
 dt:x.kind≠3->x.Jy=[]/\x.sys=[]
 data:x.kind≠5->x.kind≠6->x.data=[]
 CL:x.kind≠1->x.CL=false
 sp:0<=x.Be/\x.Be<=7
 nv:∀a∈x.As,0<=a.Be/\a.Be<=7
 CC:CC x.As=x.As
 QM:x.cont≠0->US x
 MB:x.Dg≠0->x.kind=2
 root:x.GH≠0->x.kind≠1/\x.kind≠2
 m0:x.Bm.Nodup
structure Er(A:Ar)(e:Int):Prop where
 il:A.i.length=A.n.length
 QN:∀h,A.has h->sC (A.nd h)
 Cl:∀h,A.has h->A.has (A.nd h).Cl/\(A.nd (A.nd h).Cl).kind=1
 Xq:∀h,A.has h->(A.nd h).kind=1->(A.nd h).Cl=h
 GH:∀h,A.has h->(A.nd h).GH≠0->A.has (A.nd h).GH/\h∈(A.nd (A.nd h).GH).Bm
 MU:∀h,A.has h->∀k∈(A.nd h).Bm,A.has k/\(A.nd k).GH=h
 Vj:∀h,A.has h->h≠e->US (A.nd h)->(A.nd h).cont≠0
 cont:∀h,A.has h->(A.nd h).cont≠0->A.has (A.nd h).cont/\(A.nd (A.nd h).cont).kind=2/\(A.nd (A.nd h).cont).Dg=h
 Dg:∀h,A.has h->(A.nd h).Dg≠0->A.has (A.nd h).Dg/\(A.nd (A.nd h).Dg).cont=h
 ŕ:∀h,A.has h->A.inr h≠0->A.has (A.inr h)/\(A.nd (A.inr h)).kind=1
 cO:∃r:Int->Nat,∀h,A.has h->A.up h≠0->r (A.up h)<r h
section
variable{A:Ar}{e h k:Int}{x y:Fg}
def Pz:¬A.has (A.len+1):=by unfold Ar.has Ar.len;omega
def Xr(a:¬A.has h):A.up h=0:=by unfold Ar.up;rw[L2 a];simp
def cP(ok:Er A e)(a:A.has h)(hu:A.up h≠0):A.has (A.up h):=by
 unfold Ar.up at hu⊢;split;.rename_i h1;exact(ok.GH h a h1).1
 .rename_i h1;rw[Af h1] at hu;exact(ok.Dg h a hu).1
def Rg(ok:Er A e)(hx:sC x)(hd:(x.kind=1/\x.Cl=A.len+1)\/(x.kind≠1/\A.has x.Cl/\(A.nd x.Cl).kind=1))(hp:x.GH=0)(hk:x.Bm=[])(hc:x.cont=0)(a:x.Dg=0)(b:US x->e=A.len+1):Er (A.add x) e:=by
 have no:=Pz (A:=A);obtain⟨r,hr⟩:=ok.cO;have ne:∀{k},A.has k->k≠A.len+1:=λhk e=>no (e▸hk);refine⟨by simp[Ar.add,ok.il],?_,?_,?_,?_,?_,?_,?_,?_,?_,r,?_⟩<;>intro m hm<;>rw[Ei] at hm<;>(try rw[Vi ok.il])<;>simp only[Ar.up,Li,Ei]<;>rcases hm with hm|rfl
 all_goals first|(rw[Af (ne hm)])|(rw[Ag rfl])|skip
 .exact ok.QN m hm
 .exact hx
 .have:=ok.Cl m hm;rw[Af (ne this.1)];exact⟨.inl this.1,this.2⟩
 .rcases hd with⟨h1,h2⟩|⟨h1,h2,c⟩
  .rw[Ag h2];exact⟨.inr h2,h1⟩
  .rw[Af (ne h2)];exact⟨.inl h2,c⟩
 .exact ok.Xq m hm
 .intro h1;rcases hd with⟨_,h2⟩|⟨h2,_⟩
  .exact h2
  .exact absurd h1 h2
 .intro h1;have:=ok.GH m hm h1;rw[Af (ne this.1)];exact⟨.inl this.1,this.2⟩
 .intro h1;exact absurd hp h1
 .intro q hq;have:=ok.MU m hm q hq;rw[Af (ne this.1)];exact⟨.inl this.1,this.2⟩
 .intro q hq;rw[hk] at hq;cases hq
 .exact ok.Vj m hm
 .intro h1 h2;exact absurd (b h2).symm h1
 .intro h1;have:=ok.cont m hm h1;rw[Af (ne this.1)];exact⟨.inl this.1,this.2⟩
 .intro h1;exact absurd hc h1
 .intro h1;have:=ok.Dg m hm h1;rw[Af (ne this.1)];exact⟨.inl this.1,this.2⟩
 .intro h1;exact absurd a h1
 .intro h1;have:=ok.ŕ m hm h1;rw[Af (ne this.1)];exact⟨.inl this.1,this.2⟩
 .intro h1;exfalso;apply h1;unfold Ar.inr;rw[Af no]
 .have:=hr m hm;unfold Ar.up at this;exact this
 .rw[hp,a];simp
inductive Reach(A:Ar)(t:Int):Int->Prop
 |refl:Reach A t t
 |step {h:Int}:A.up h≠0->Reach A t (A.up h)->Reach A t h
def MC(l:List Int)(b n:Int):List Int:=if b=0 then l++[n] else l.takeWhile (λk=>decide (k≠b))++n::l.dropWhile (λk=>decide (k≠b))
def Ar.cut(A:Ar)(n:Int):Ar:=
 let q:=(A.nd n).GH
 if q=0 then A else
  let a:=A.set q {A.nd q with Bm:=(A.nd q).Bm.filter λk=>decide (k≠n)}
  a.set n {a.nd n with GH:=0}
def Ar.MN(A:Ar)(p n b:Int):Ar:=
 let a:=A.set p {A.nd p with Bm:=MC (A.nd p).Bm b n}
 a.set n {a.nd n with GH:=p}
def Nx(k:Int):Prop:=k=1\/k=2\/k=4
instance(k:Int):Decidable (Nx k):=by unfold Nx;infer_instance
structure Ŗ(A:Ar)(p n b:Int):Prop where
 hp:A.has p
 hn:A.has n
 hb:b≠0->A.has b/\b≠n/\(A.nd b).GH=p
 kp:Nx (A.nd p).kind
 kn:(A.nd n).kind≠1/\(A.nd n).kind≠2
 re:¬Reach A n p
open Classical in
def Ar.IF(A:Ar)(p n b:Int):Ar:=if Ŗ A p n b then(A.cut n).MN p n b else A
def Tx{l:List Int}{b n k:Int}:k∈MC l b n↔k=n\/k∈l:=by
 unfold MC;split;.simp;exact Or.comm
 .have e:=pK (p:=λk=>decide (k≠b)) (l:=l);constructor
  .intro h;rw[Aq,AF] at h;rcases h with h|h|h
   .exact .inr (by rw[<-e];simp only[Aq];exact .inl h)
   .exact .inl h
   .exact .inr (by rw[<-e];simp only[Aq];exact .inr h)
  .intro h;rw[Aq,AF];rcases h with h|h
   .exact .inr (.inl h)
   .rw[<-e,Aq] at h;rcases h with h|h
    .exact .inl h
    .exact .inr (.inr h)
def m6{l:List Int}{b n:Int}(h:l.Nodup)(hn:n∉l):(MC l b n).Nodup:=by
 unfold MC;split;.rw[BP];refine⟨h,Ax,?_⟩;rintro a ha c hc rfl;simp at hc;subst hc;exact hn ha
 .have e:=pK (p:=λk=>decide (k≠b)) (l:=l);generalize List.takeWhile _ l=u at e⊢;generalize List.dropWhile _ l=w at e⊢;subst e;rw[BP] at h⊢;simp at hn;refine⟨h.1,by simp[h.2.1,hn.2],?_⟩;rintro a ha c hc rfl;simp at hc;rcases hc with rfl|hc
  .exact hn.1 ha
  .exact h.2.2 _ ha _ hc rfl
def m7:(A.cut h).n.length=A.n.length:=by unfold Ar.cut;simp only;split<;>simp[IV]
def Oc:(A.cut h).has k↔A.has k:=by unfold Ar.has;rw[m7]
def m8{p n b:Int}:(A.MN p n b).n.length=A.n.length:=by unfold Ar.MN;simp[IV]
def xD{p n b:Int}:(A.MN p n b).has k↔A.has k:=by unfold Ar.has;rw[m8]
def yw:(A.cut h).inr k=A.inr k:=by unfold Ar.cut;simp only;split<;>simp[Sf]
def yy{p n b:Int}:(A.MN p n b).inr k=A.inr k:=by unfold Ar.MN;simp[Sf]
def é(ok:Er A e)(a:A.has h)(hu:A.up h≠0):A.up h≠h:=by obtain⟨r,hr⟩:=ok.cO;intro e;have:=hr h a hu;rw[e] at this;exact Di _ this
def sD(ok:Er A e)(a:A.has h)(hu:(A.nd h).GH≠0):(A.nd h).GH≠h:=by
 have:A.up h=(A.nd h).GH:=by unfold Ar.up;rw[Ag hu]
 have h2:=é ok a (by rw[this];exact hu);rwa [this] at h2
def Xs(ok:Er A e)(a:A.has h):(A.cut h).nd k=if k=h then{A.nd h with GH:=0} else if(A.nd h).GH≠0/\k=(A.nd h).GH then{A.nd k with Bm:=(A.nd k).Bm.filter λm=>decide (m≠h)} else A.nd k:=by
 unfold Ar.cut;simp only
 by_cases hp:(A.nd h).GH=0
 .rw[Ag hp];by_cases e:k=h;.subst e;rw[Ag rfl];have:A.nd k={A.nd k with GH:=(A.nd k).GH}:=rfl;rw[hp] at this;exact this
  .rw[Af e,Af (by simp[hp])]
 .have hn:=sD ok a hp;have hq:=(ok.GH h a hp).1;rw[Af hp];simp only[JM,I2,a,hq,J7];by_cases e:k=h;.subst e;simp[DC hn]
  .simp[e,hp];split;.rename_i e;simp[e]
   .rfl
def m9{x:Fg}(hx:sC x){l:List Int}(h1:l.Nodup)(h2:l≠[]->Nx x.kind):sC {x with Bm:=l}:=
 {k:=hx.k,Bm:=h2,elem:=hx.elem,nm:=hx.nm,dt:=hx.dt,data:=hx.data,CL:=hx.CL,sp:=hx.sp,nv:=hx.nv,CC:=hx.CC,QM:=hx.QM,MB:=hx.MB,root:=hx.root,m0:=h1}
def xE{x:Fg}(hx:sC x){p:Int}(h2:p≠0->x.kind≠1/\x.kind≠2):sC {x with GH:=p}:=
 {k:=hx.k,Bm:=hx.Bm,elem:=hx.elem,nm:=hx.nm,dt:=hx.dt,data:=hx.data,CL:=hx.CL,sp:=hx.sp,nv:=hx.nv,CC:=hx.CC,QM:=hx.QM,MB:=hx.MB,root:=h2,m0:=hx.m0}
def ŗ(ok:A.i.length=A.n.length):(A.cut h).i.length=(A.cut h).n.length:=by rw[m7];unfold Ar.cut;simp only;split<;>exact ok
def Ř{p n b:Int}(ok:A.i.length=A.n.length):(A.MN p n b).i.length=(A.MN p n b).n.length:=by rw[m8];exact ok
def yz(ok:Er A e)(a:A.has h)(hk:k∈(A.nd h).Bm):k≠h/\(A.nd k).GH=h/\A.has k:=by have:=ok.MU h a k hk;refine⟨?_,this.2,this.1⟩;rintro rfl;have h0:=this.1.1;exact sD ok a (by rw[this.2];omega) this.2
def ny(ok:Er A e)(a:A.has h):(A.cut h).up k=if k=h then(A.nd h).Dg else A.up k:=by
 unfold Ar.up;rw[Xs ok a];by_cases e:k=h;.simp[e]
 .simp only[e,DR];split<;>rfl
def cQ(ok:Er A e)(c:A.has h)(WJ:(A.nd h).kind≠2):Er (A.cut h) e:=by
 obtain⟨r,hr⟩:=ok.cO;have a:=λm=>Xs (k:=m) ok c;have kd:∀m,((A.cut h).nd m).kind=(A.nd m).kind:=λm=>by rw[a];grind
 have l:∀m,((A.cut h).nd m).Cl=(A.nd m).Cl:=λm=>by rw[a];grind
 have n:∀m,((A.cut h).nd m).cont=(A.nd m).cont:=λm=>by rw[a];grind
 have ho:∀m,((A.cut h).nd m).Dg=(A.nd m).Dg:=λm=>by rw[a];grind
 have d:(A.nd h).Dg=0:=by
  by_cases h0:(A.nd h).Dg=0;.exact h0
  .exact absurd ((ok.QN h c).MB h0) WJ
 refine⟨ŗ ok.il,?_,?_,?_,?_,?_,?_,?_,?_,?_,r,?_⟩<;>intro m hm<;>rw[Oc] at hm<;>(try simp only[kd,l,n,ho,Oc,yw])
 .rw[a];split;.exact xE (ok.QN h c) Ax
  .split;.exact m9 (ok.QN m hm) ((ok.QN m hm).m0.filter _) λh1=>(ok.QN m hm).Bm (by intro h2;rw[h2] at h1;simp at h1)
   .exact ok.QN m hm
 .exact ok.Cl m hm
 .exact ok.Xq m hm
 .intro h1;have b:m≠h:=by rintro rfl;rw[a] at h1;simp at h1
  have j:((A.cut h).nd m).GH=(A.nd m).GH:=by rw[a,Af b];split<;>rfl
  rw[j] at h1⊢;have h2:=ok.GH m hm h1;refine⟨h2.1,?_⟩;rw[a];split;.rename_i i;rw[<-i];exact h2.2
  .split;.simp only[Dl,Co];exact⟨h2.2,b⟩
   .exact h2.2
 .intro q hq;have h1:q∈(A.nd m).Bm/\(m=(A.nd h).GH->q≠h):=by
   rw[a] at hq;split at hq;.rename_i b;subst b;have:=yz ok hm hq;exact⟨hq,λ_=>this.1⟩
   .split at hq;.simp only[Dl,Co] at hq;exact⟨hq.1,λ_=>hq.2⟩
    .rename_i g;refine⟨hq,λf o=>g ⟨?_,f⟩⟩;rw[<-f];have:=hm.1;omega
  have h2:=ok.MU m hm q h1.1;refine⟨h2.1,?_⟩;have b:q≠h:=by rintro rfl;exact h1.2 h2.2.symm rfl
  rw[a,Af b,<-h2.2];split<;>rfl
 .intro h1 h2;refine ok.Vj m hm h1 ?_;rw[a] at h2;unfold US at h2⊢;grind
 .exact ok.cont m hm
 .exact ok.Dg m hm
 .exact ok.ŕ m hm
 .rw[ny ok c];split;.rw[d];simp
  .exact hr m hm
def nz{p n b:Int}(hp:A.has p)(hn:A.has n)(hne:n≠p):(A.MN p n b).nd k=if k=n then{A.nd n with GH:=p} else if k=p then{A.nd p with Bm:=MC (A.nd p).Bm b n} else A.nd k:=by
 unfold Ar.MN;simp only[JM,I2,hp,hn,J7];by_cases e:k=n;.subst e;simp[hne]
 .simp[e]
def cj{p n b:Int}(hp:A.has p)(hn:A.has n)(hne:n≠p)(h0:(A.nd n).GH=0)(a:(A.nd n).Dg=0)(hr:¬Reach A n p):∀{m},¬Reach A n m->(A.MN p n b).up m=A.up m:=by
 intro m hm;have e:m≠n:=by rintro rfl;exact hm .refl
 unfold Ar.up;rw[nz hp hn hne,Af e];split;.rename_i e;subst e;rfl
 .rfl
open Classical in
def ř(ok:Er A e){p n b:Int}(hp:A.has p)(hn:A.has n)(kp:Nx (A.nd p).kind)(kn:(A.nd n).kind≠1/\(A.nd n).kind≠2)(re:¬Reach A n p)(h0:(A.nd n).GH=0):Er (A.MN p n b) e:=by
 obtain⟨r,hr⟩:=ok.cO;have hne:n≠p:=by rintro rfl;exact re .refl
 have a:=λm=>nz (k:=m) (b:=b) hp hn hne;have kd:∀m,((A.MN p n b).nd m).kind=(A.nd m).kind:=λm=>by rw[a];grind
 have l:∀m,((A.MN p n b).nd m).Cl=(A.nd m).Cl:=λm=>by rw[a];grind
 have o:∀m,((A.MN p n b).nd m).cont=(A.nd m).cont:=λm=>by rw[a];grind
 have ho:∀m,((A.MN p n b).nd m).Dg=(A.nd m).Dg:=λm=>by rw[a];grind
 have i:(A.nd n).Dg=0:=by
  by_cases h0:(A.nd n).Dg=0;.exact h0
  .exact absurd ((ok.QN n hn).MB h0) kn.2
 have g:∀m,A.has m->n∉(A.nd m).Bm:=by intro m hm h1;have:=ok.MU m hm n h1;rw[h0] at this;have:=hm.1;omega
 refine⟨Ř ok.il,?_,?_,?_,?_,?_,?_,?_,?_,?_,λm=>if Reach A n m then r m+r p+1 else r m,?_⟩<;>intro m hm<;>rw[xD] at hm<;>(try simp only[kd,l,o,ho,xD,yy])
 .rw[a];split;.exact xE (ok.QN n hn) λ_=>kn
  .split;.exact m9 (ok.QN p hp) (m6 (ok.QN p hp).m0 (g p hp)) λ_=>kp
   .exact ok.QN m hm
 .exact ok.Cl m hm
 .exact ok.Xq m hm
 .intro h1;by_cases c:m=n
  .subst c;rw[a,Ag rfl];refine⟨hp,?_⟩;simp only
   rw[a,Af (DC hne),Ag rfl];exact Tx.2 (.inl rfl)
  .have f:((A.MN p n b).nd m).GH=(A.nd m).GH:=by rw[a,Af c];split;rename_i e;rw[e];rfl
   rw[f] at h1⊢;have h2:=ok.GH m hm h1;refine⟨h2.1,?_⟩;rw[a];split;.rename_i j;rw[<-j];exact h2.2
   .split;.rename_i j;rw[<-j];exact Tx.2 (.inr h2.2)
    .exact h2.2
 .intro q hq;by_cases c:q=n
  .subst c;refine⟨hn,?_⟩;rw[a,Ag rfl];rw[a] at hq;split at hq;.exact absurd hq (g q hn)
   .split at hq;.rename_i e;exact e.symm
    .exact absurd hq (g m hm)
  .have h1:q∈(A.nd m).Bm:=by
    rw[a] at hq;split at hq;.rename_i e;rw[e];exact hq
    .split at hq;.rename_i e;rw[e];exact(Tx.1 hq).resolve_left c
     .exact hq
   have h2:=ok.MU m hm q h1;refine⟨h2.1,?_⟩;rw[a,Af c,<-h2.2];split;.rename_i e;rw[e]
   .rfl
 .intro h1 h2;refine ok.Vj m hm h1 ?_;rw[a] at h2;unfold US at h2⊢;grind
 .exact ok.cont m hm
 .exact ok.Dg m hm
 .exact ok.ŕ m hm
 .intro hu;by_cases hR:Reach A n m
  .by_cases c:m=n
   .subst c;have f:(A.MN p m b).up m=p:=by unfold Ar.up;rw[a,Ag rfl];simp only;rw[Ag];have:=hp.1;omega
    rw[f,Af re,Ag hR];omega
   .have f:(A.MN p n b).up m=A.up m:=by
     unfold Ar.up;rw[a,Af c];split;.rename_i e;rw[e]
     .rfl
    rw[f] at hu⊢;have d:Reach A n (A.up m):=by
     cases hR with
     |refl=>exact absurd rfl c
     |step _ hx=>exact hx
    rw[Ag d,Ag hR];have:=hr m hm hu;omega
  .have f:=cj (b:=b) hp hn hne h0 i re hR;rw[f] at hu⊢;have d:¬Reach A n (A.up m):=λh=>hR (.step hu h);rw[Af d,Af hR];exact hr m hm hu
def cl(ok:Er A e)(b:A.has h){m:Int}(hr:¬Reach A h m):¬Reach (A.cut h) h m:=by
 intro Lu;have key:∀m,Reach (A.cut h) h m->Reach A h m:=by
  intro m hm;induction hm with
  |refl=>exact .refl
  |@step q h1 _ ih=>
   by_cases a:q=h;.rw[a];exact .refl
   .rw[ny ok b,Af a] at h1 ih;exact .step h1 ih
 exact hr (key m Lu)
def Qa(ok:Er A e){p n b:Int}:Er (A.IF p n b) e:=by
 unfold Ar.IF;split
 .rename_i f;have a:=cQ ok f.hn f.kn.2;have kd:∀m,((A.cut n).nd m).kind=(A.nd m).kind:=λm=>by rw[Xs ok f.hn];grind
  refine ř a (Oc.2 f.hp) (Oc.2 f.hn) ?_ ?_ (cl ok f.hn f.re) ?_;.rw[kd];exact f.kp
  .rw[kd];exact f.kn
  .rw[Xs ok f.hn,Ag rfl]
 .exact ok
def sE(ok:Er A e)(g:A.has h)(hx:sC x)(h1:x.kind=(A.nd h).kind)(h2:x.GH=(A.nd h).GH)(o:x.Bm=(A.nd h).Bm)(d:A.has x.Cl/\(A.nd x.Cl).kind=1/\(x.kind=1->x.Cl=h))(n:x.cont=(A.nd h).cont)(l:x.Dg=(A.nd h).Dg)(i:US x->US (A.nd h)):Er (A.set h x) e:=by
 obtain⟨r,hr⟩:=ok.cO;have a:∀m,(A.set h x).nd m=if m=h then x else A.nd m:=λm=>by rw[JM];simp[g]
 have kd:∀m,((A.set h x).nd m).kind=(A.nd m).kind:=λm=>by rw[a];grind
 have f:∀m,((A.set h x).nd m).GH=(A.nd m).GH:=λm=>by rw[a];grind
 have ks:∀m,((A.set h x).nd m).Bm=(A.nd m).Bm:=λm=>by rw[a];grind
 have j:∀m,((A.set h x).nd m).cont=(A.nd m).cont:=λm=>by rw[a];grind
 have ho:∀m,((A.set h x).nd m).Dg=(A.nd m).Dg:=λm=>by rw[a];grind
 have u:∀m,(A.set h x).up m=A.up m:=λm=>by unfold Ar.up;rw[f,ho]
 refine⟨by rw[IV];exact ok.il,?_,?_,?_,?_,?_,?_,?_,?_,?_,r,?_⟩<;>intro m hm<;>rw[I2] at hm<;>(try simp only[kd,f,ks,j,ho,u,I2,Sf])
 .rw[a];split;.exact hx
  .exact ok.QN m hm
 .rw[a];split;.exact⟨d.1,d.2.1⟩
  .exact ok.Cl m hm
 .rw[a];split;.rename_i e;intro c;rw[e,d.2.2 (by rw[h1,<-e];exact c)]
  .exact ok.Xq m hm
 .exact ok.GH m hm
 .exact ok.MU m hm
 .intro c b;refine ok.Vj m hm c ?_;rw[a] at b;split at b;.rename_i e;rw[e];exact i b
  .exact b
 .exact ok.cont m hm
 .exact ok.Dg m hm
 .exact ok.ŕ m hm
 .exact hr m hm
def Ar.HR(A:Ar)(d:Int):Int:=if A.inr d≠0 then A.inr d else A.len+1
def Ar.ER(A:Ar)(d:Int):Ar:=if A.inr d≠0 then A else((A.add {kind:=1,Cl:=A.len+1}).Nw d (A.len+1)).Nw (A.len+1) (A.len+1)
def y_:sC {kind:=1,Cl:=k}:=by constructor<;>simp[CC,Gu]
def xF(ok:Er A e)(hk:A.has k/\(A.nd k).kind=1):Er (A.Nw h k) e:=by
 refine⟨?_,ok.QN,ok.Cl,ok.Xq,ok.GH,ok.MU,ok.Vj,ok.cont,ok.Dg,?_,ok.cO⟩;.simp only[Ar.Nw];split<;>simp[ok.il]
 .intro m hm h1;rw[Sg] at hm;rw[Xo ok.il] at h1⊢;split at h1;.rename_i h2;rw[Ag h2];exact hk
  .rename_i h2;rw[Af h2];exact ok.ŕ m hm h1
def n_(ok:Er A e)(b:A.has h)(he:e≠A.len+1):Er (A.ER h) e/\(A.ER h).has (A.HR h)/\((A.ER h).nd (A.HR h)).kind=1:=by
 unfold Ar.ER Ar.HR;split;.rename_i h1;exact⟨ok,ok.ŕ h b h1⟩
 .have a:=Rg ok (x:={kind:=1,Cl:=A.len+1}) y_ (.inl ⟨rfl,rfl⟩) rfl rfl rfl rfl (by simp[US]);have h2:(A.add {kind:=1,Cl:=A.len+1}).has (A.len+1)/\((A.add {kind:=1,Cl:=A.len+1}).nd (A.len+1)).kind=1:=by rw[Ei,Li,Ag rfl];exact⟨.inr rfl,rfl⟩
  exact⟨xF (xF a h2) h2,h2⟩
def Xt(hk:k≠A.len+1\/A.inr h≠0):(A.ER h).nd k=A.nd k:=by
 unfold Ar.ER;split;.rfl
 .rename_i h1;rw[xC,xC,Li,Af (hk.resolve_right h1)]
def cm:(A.ER h).len=if A.inr h≠0 then A.len else A.len+1:=by
 unfold Ar.ER;split;.rfl
 .rw[mX,mX,Ob]
def Ny:A.has k->(A.ER h).has k:=by
 unfold Ar.ER;split;.exact id
 .intro hk;rw[Sg,Sg,Ei];exact .inl hk
def za{d:Int}(ok:Er A e)(he:A.has e)(n:US (A.nd e))(hc:(A.nd e).cont=0)(hd:A.has d/\(A.nd d).kind=1):Er ((A.add {kind:=2,Dg:=e,Cl:=d}).set e {A.nd e with cont:=A.len+1}) 0:=by
 have no:=Pz (A:=A);obtain⟨r,hr⟩:=ok.cO;have ne:∀{k},A.has k->k≠A.len+1:=λhk e=>no (e▸hk);have l0:A.len+1≠0:=by have:=he.1;have:=he.2;unfold Ar.len;omega
 have b:∀m,(((A.add {kind:=2,Dg:=e,Cl:=d}).set e {A.nd e with cont:=A.len+1}).nd m)=if m=e then{A.nd e with cont:=A.len+1} else if m=A.len+1 then{kind:=2,Dg:=e,Cl:=d} else A.nd m:=λm=>by rw[JM,Li];simp[he,Ei]
 have hk:(A.nd e).kind=4:=n.1;have h0:(A.nd e).Dg=0:=by
  by_cases h0:(A.nd e).Dg=0;.exact h0
  .have:=(ok.QN e he).MB h0;omega
 have e0:e≠0:=by have:=he.1;omega
 have i:sC {kind:=2,Dg:=e,Cl:=d}:=by constructor<;>simp[CC,Gu]
 have QN:=ok.QN;have c:=QN e he;have hne:sC {A.nd e with cont:=A.len+1}:={k:=c.k,Bm:=c.Bm,elem:=c.elem,nm:=c.nm,dt:=c.dt,data:=c.data,CL:=c.CL,sp:=c.sp,nv:=c.nv,CC:=c.CC,QM:=λ_=>n,MB:=c.MB,root:=c.root,m0:=c.m0};have hs:∀m,((A.add {kind:=2,Dg:=e,Cl:=d}).set e {A.nd e with cont:=A.len+1}).has m↔A.has m\/m=A.len+1:=λm=>by rw[I2,Ei]
 have hi:∀m,((A.add {kind:=2,Dg:=e,Cl:=d}).set e {A.nd e with cont:=A.len+1}).inr m=A.inr m:=λm=>by rw[Sf,Vi ok.il]
 have g:e≠A.len+1:=ne he;refine⟨by rw[IV];simp[Ar.add,Ar.set,ok.il],?_,?_,?_,?_,?_,?_,?_,?_,?_,λm=>if m=A.len+1 then r e+1 else r m,?_⟩<;>intro m hm<;>rw[hs] at hm<;>(try simp only[hs,hi])
 .rw[b];split;.exact hne
  .split;.exact i
   .rename_i h1 h2;exact QN m (hm.resolve_right h2)
 .have key:∀q,A.has q/\(A.nd q).kind=1->(A.has q\/q=A.len+1)/\(((A.add {kind:=2,Dg:=e,Cl:=d}).set e {A.nd e with cont:=A.len+1}).nd q).kind=1:=by
   intro q hq;refine⟨.inl hq.1,?_⟩;rw[b,Af (ne hq.1)];split;.rename_i a;rw[a] at hq;exact hq.2
   .exact hq.2
  rw[b m];split;.exact key _ (ok.Cl e he)
  .split;.exact key _ hd
   .rename_i h1 h2;exact key _ (ok.Cl m (hm.resolve_right h2))
 .rw[b m];split;.rename_i a;intro h1;rw[a];exact ok.Xq e he h1
  .split;.intro h1;simp at h1
   .rename_i h1 h2;exact ok.Xq m (hm.resolve_right h2)
 .have key:∀q,A.has q->(A.nd q).GH≠0->(A.has (A.nd q).GH\/(A.nd q).GH=A.len+1)/\q∈(((A.add {kind:=2,Dg:=e,Cl:=d}).set e {A.nd e with cont:=A.len+1}).nd (A.nd q).GH).Bm:=by
   intro q hq hp;have h1:=ok.GH q hq hp;refine⟨.inl h1.1,?_⟩;rw[b,Af (ne h1.1)];split;.rename_i a;rw[a] at h1;exact h1.2
   .exact h1.2
  rw[b m];split;.rename_i a;rw[a];exact key e he
  .split;.intro h1;simp at h1
   .rename_i h1 h2;exact key m (hm.resolve_right h2)
 .have key:∀q,A.has q->∀k∈(A.nd q).Bm,(A.has k\/k=A.len+1)/\(((A.add {kind:=2,Dg:=e,Cl:=d}).set e {A.nd e with cont:=A.len+1}).nd k).GH=q:=by
   intro q hq k hk;have h1:=ok.MU q hq k hk;refine⟨.inl h1.1,?_⟩;rw[b,Af (ne h1.1)];split;.rename_i a;rw[a] at h1;exact h1.2
   .exact h1.2
  rw[b m];split;.rename_i a;rw[a];exact key e he
  .split;.intro k hk;simp at hk
   .rename_i h1 h2;exact key m (hm.resolve_right h2)
 .intro _;rw[b m];split;.intro _;exact l0
  .split;.intro h1;simp[US] at h1
   .rename_i h1 h2;exact ok.Vj m (hm.resolve_right h2) h1
 .rw[b m];split
  .rename_i a;intro _;simp only
   rw[b,Af (DC g),Ag rfl,a];exact⟨.inr trivial,rfl,rfl⟩
  .split;.intro h1;simp at h1
   .rename_i h1 h2;intro j;have f:=ok.cont m (hm.resolve_right h2) j;refine⟨.inl f.1,?_⟩;rw[b,Af (ne f.1)];split;.rename_i a;rw[a,hk] at f;exact absurd f.2.1 AM
    .exact f.2
 .rw[b m];split;.intro h1;exact absurd h0 h1
  .split;.rename_i a;intro _;simp only;refine⟨.inl he,?_⟩;rw[b,Ag rfl,a]
   .rename_i h1 h2;intro j;have f:=ok.Dg m (hm.resolve_right h2) j;refine⟨.inl f.1,?_⟩;rw[b,Af (ne f.1)];split;.rename_i a;rw[a,hc] at f;have:=(hm.resolve_right h2).1;omega
    .exact f.2
 .intro h1;rcases hm with hm|rfl
  .have h2:=ok.ŕ m hm h1;refine⟨.inl h2.1,?_⟩;rw[b,Af (ne h2.1)];split;.rename_i a;rw[a] at h2;exact h2.2
   .exact h2.2
  .exfalso;apply h1;unfold Ar.inr;rw[Af no]
 .by_cases a:m=A.len+1
  .have l:((A.add {kind:=2,Dg:=e,Cl:=d}).set e {A.nd e with cont:=A.len+1}).up m=e:=by
    have o:m≠e:=by rw[a];exact DC g
    unfold Ar.up;rw[b m];simp[a,DC g]
   rw[l,Af g,Ag a];intro _;omega
  .have hm:=hm.resolve_right a;have l:((A.add {kind:=2,Dg:=e,Cl:=d}).set e {A.nd e with cont:=A.len+1}).up m=A.up m:=by
    unfold Ar.up;rw[b];split;.rename_i o;rw[o]
    .rfl
   rw[l,Af a];intro h1;rw[Af (ne (cP ok hm h1))];exact hr m hm h1
def Ar.elem(A:Ar)(d sp:Int)(nm:Aj)(at_:List AZ):Ar:=
 let x:Fg:={kind:=4,Cl:=d,Be:=sp,name:=nm,As:=CC at_}
 if US x then
  let b:=A.add x
  let a:=b.ER d
  (a.add {kind:=2,Dg:=A.len+1,Cl:=b.HR d}).set (A.len+1) {x with cont:=a.len+1}
 else A.add x
def xG{d sp:Int}{nm:Aj}{l:List AZ}(ok:Er A 0)(hd:A.has d/\(A.nd d).kind=1)(hs:0<=sp/\sp<=7)(hl:∀a∈l,0<=a.Be/\a.Be<=7):Er (A.elem d sp nm l) 0:=by
 have hx:sC {kind:=4,Cl:=d,Be:=sp,name:=nm,As:=CC l}:=by constructor<;>simp[ZV,hs];exact λa ha=>hl a (mZ ha)
 unfold Ar.elem;simp only
 split
 .rename_i c;have b:Er A (A.len+1):={ok with Vj:=λh g _=>ok.Vj h g (by have:=g.1;omega)};have j:=Rg b hx (.inr ⟨Ax,hd⟩) rfl rfl rfl rfl λ_=>rfl;have Ś:(A.add {kind:=4,Cl:=d,Be:=sp,name:=nm,As:=CC l}).has d:=Ei.2 (.inl hd.1);obtain⟨i,h2,m⟩:=n_ j Ś (by rw[Ob];omega);have f:((A.add {kind:=4,Cl:=d,Be:=sp,name:=nm,As:=CC l}).ER d).nd (A.len+1)={kind:=4,Cl:=d,Be:=sp,name:=nm,As:=CC l}:=by rw[Xt (.inl (by rw[Ob];omega)),Li,Ag rfl]
  have:=za i (Ny (Ei.2 (.inr rfl))) (by rw[f];exact c) (by rw[f]) ⟨h2,m⟩;rw[f] at this;exact this
 .rename_i c;exact Rg ok hx (.inr ⟨Ax,hd⟩) rfl rfl rfl rfl λh=>absurd h c
end
def aHu(e:Ci):Bool:=decide (e.node=0)
def Xu(n:Int)(e:Ci):Bool:=decide (e.node=n)
def sF(l:List Ci):Int:=AW aHu l+1
def Fy(n:Int)(l:List Ci):Int:=if n=0 then -1 else AW (Xu n) l
def Xv(name:Aj):List Ci->Int
 |[]=> -1
 |x::t=>if x.node=0 then -1 else if x.name=name then(t.length:Int) else Xv name t
def E3(name:Aj)(l:List Ci):Int:=Xv name l.reverse
def xH(e:Ci):List Ci->Nat
 |[]=>0
 |x::t=>if x.node=0 then 0 else xH e t+(if Lh x e=true then 1 else 0)
def nA(e:Ci):List Ci->Int
 |[]=> -1
 |x::t=>if x.node=0 then -1 else if 0<=nA e t then nA e t else if Lh x e=true then(t.length:Int) else -1
def nB(e:Ci)(l:List Ci):List Ci:=(if e.node≠0/\3<=xH e l.reverse then Bv l (nA e l.reverse).toNat else l)++[e]
def Fz(l:List Ci):List Ci:=l.take (sF l-1).toNat
structure BS where
 a:Ar
 Cl:Int
 AA:List Item
 AY:List Ci
 mode:Int
 Qu:Int
 tm:List Int
 head:Int
 IG:Int
 PC:Bool
 ctx:Item
 fs:Bool
 HS:Bool
 aCW:Aj
 skip:Bool
 sw:Int
 stop:Bool
def sG(s:List Aj)(A:Ar)(h:Int):Prop:=(A.nd h).kind=4/\(A.nd h).Be=1/\(A.nd h).name∈s
instance(s:List Aj)(A:Ar)(h:Int):Decidable (sG s A h):=by unfold sG;infer_instance
abbrev JN:Aj:=aQu
abbrev sH:Aj:=aQV
abbrev sI:Aj:=aQU
abbrev sJ:Aj:=aQW
abbrev wTr:Aj:=[116,114]
abbrev wP:Aj:=[112]
def JO:List Aj:=[JN,sH,sI,sJ,wTr]
namespace BS
def Od(b:BS):Int×Int:=
 let d:=AW (Bf [A5]) b.AA
 let c:=AW (Bf [JN]) b.AA
 if c<d then((DO b.AA d).node,0) else if c<0 then((DO b.AA 0).node,0) else
 let t:=(DO b.AA c).node
 if(b.a.nd t).GH≠0 then((b.a.nd t).GH,t) else((DO b.AA (max (c-1) 0)).node,0)
def place(b:BS)(t:Int):Int×Int:=
 if t=0/\b.AA=[] then(b.Cl,0) else
 let t':=if t=0 then(Fs b.AA).node else t
 let pb:=if b.HS=true/\sG JO b.a t' then b.Od else(t',0)
 if(b.a.nd pb.1).cont≠0 then((b.a.nd pb.1).cont,0) else pb
end BS
open Classical in
def Ar.HV(A:Ar)(h p bf:Int):Ar:=if(A.nd p).kind=1/\(A.nd h).kind=4/\(∃k∈(A.nd p).Bm,(A.nd k).kind=4) then A else A.IF p h bf
namespace BS
def L3(b:BS)(p:Int):Int:=if(b.a.nd p).cont≠0 then(if(b.a.nd (b.a.nd p).cont).Cl≠0 then(b.a.nd (b.a.nd p).cont).Cl else b.Cl) else if(b.a.nd p).Cl≠0 then(b.a.nd p).Cl else b.Cl
def JP(sp:Int):Prop:=0<=sp/\sp<=7
instance(sp:Int):Decidable (JP sp):=by unfold JP;infer_instance
def MW(sp:Int)(nm:Aj):Aj:=if sp=2 then DH nm Nu else nm
def Jq(b:BS)(nm:Aj)(at_:List AZ)(sp:Int):Item:=if JP sp then⟨b.a.len+1,sp,MW sp nm,Iu sp (MW sp nm) (at_.map (DP sp))⟩ else Item.zero
def E7(b:BS)(nm:Aj)(at_:List AZ)(sp p:Int):BS:=if JP sp then{b with a:=b.a.elem (b.L3 p) sp (MW sp nm) (at_.map (DP sp))} else b
def Nz(b:BS)(sp:Int):Int:=if JP sp then b.a.len+1 else 0
def DY(b:BS)(nm:Aj)(at_:List AZ)(sp:Int):BS:=
 if JP sp then
  let pb:=b.place 0
  let b1:=b.E7 nm at_ sp pb.1
  {b1 with a:=b1.a.HV (b.a.len+1) pb.1 pb.2,AA:=b1.AA++[b.Jq nm at_ sp]}
 else b
def FY(b:BS)(nm:Aj)(at_:List AZ):BS:=
 let b1:=b.DY nm at_ 1
 {b1 with AY:=nB ⟨b.a.len+1,nm,at_⟩ b1.AY}
end BS
def L4(r:Int):Aj:=
 if 0<=r/\r<128 then[UInt8.ofNat r.toNat]
 else if 128<=r/\r<2048 then[UInt8.ofNat (192+r.toNat/64),UInt8.ofNat (128+r.toNat%64)]
 else if 2048<=r/\r<65536/\¬(55296<=r/\r<57344) then[UInt8.ofNat (224+r.toNat/4096),UInt8.ofNat (128+r.toNat/64%64),UInt8.ofNat (128+r.toNat%64)]
 else if 65536<=r/\r<=1114111 then[UInt8.ofNat (240+r.toNat/262144),UInt8.ofNat (128+r.toNat/4096%64),UInt8.ofNat (128+r.toNat/64%64),UInt8.ofNat (128+r.toNat%64)]
 else[239,191,189]
def Tz(l:List Int)(bf:Int):Option Int:=if bf=0 then l.getLast? else(l.takeWhile λk=>decide (k≠bf)).getLast?
def Ar.Si(A:Ar)(h:Int)(s:Aj):Ar:=A.set h {A.nd h with data:=s}
def Ar.L5(A:Ar)(h:Int)(l:List AZ):Ar:=A.set h {A.nd h with As:=CC l}
namespace BS
def Oe(A:Ar)(s:Aj)(p bf:Int):Ar:=
 if(A.nd p).kind=4\/(A.nd p).kind=2 then
  match Tz (A.nd p).Bm bf with
  |some t=>if(A.nd t).kind=5 then A.Si t ((A.nd t).data++s) else(A.add {kind:=5,Cl:=(A.nd p).Cl,data:=s}).HV (A.len+1) p bf
  |none=>(A.add {kind:=5,Cl:=(A.nd p).Cl,data:=s}).HV (A.len+1) p bf
 else A
def Mm(b:BS)(r:Int):BS:={b with a:=Oe b.a (L4 r) (b.place 0).1 (b.place 0).2}
def Iv(A:Ar)(s:Aj)(p bf:Int):Ar:=
 if Nx (A.nd p).kind then(A.add {kind:=6,Cl:=(A.nd p).Cl,data:=s}).HV (A.len+1) p bf else A
def C1(b:BS)(s:Aj)(p:Int):BS:={b with a:=if p=0 then Iv b.a s (b.place 0).1 (b.place 0).2 else Iv b.a s p 0}
def Df(b:BS)(nm:Aj)(at_:List AZ)(st:Int):BS:=let b1:=b.DY nm at_ 1;{b1 with sw:=st,Qu:=b1.mode,mode:=8}
def B7(b:BS):BS:=if Px (Bf [wP]) (Oa 3) b.AA.reverse then{b with AA:=Dd Da (Bf [wP]) (Dd (EG wP) Da b.AA)} else b
def settled(b:BS)(e:Ci):Bool:=decide (e.node=0\/0<=AW (BK e.node) b.AA)
def Ke:List Ci->BS->List Ci×BS
 |[],b=>([],b)
 |e::l,b=>let r:=Ke l (b.DY e.name e.As 1);({e with node:=b.a.len+1}::r.1,r.2)
def OU(b:BS):Nat:=(AW b.settled b.AY+1).toNat
def AU(b:BS):BS:=let r:=Ke (b.AY.drop b.OU) b;{r.2 with AY:=b.AY.take b.OU++r.1}
def C6(b:BS)(nm:Aj):BS:=match b.AA.reverse.find? λi=>Bf [nm] i||Dp i with
 |some i=>if Bf [nm] i then{b with AA:=Gs i.node (Dd (EG nm) Da b.AA)} else b
 |none=>b
def Qb(l:List Item):Int:=match l.reverse.find? λi=>Bf [A5] i||Bf [JN] i with
 |some i=>if Bf [A5] i then 16 else 17
 |none=>16
end BS
abbrev oa:Aj:=aQD
abbrev cp:Aj:=aQP
abbrev aCX:Aj:=aQk
abbrev cq:Aj:=aQp
abbrev Of:Aj:=aQQ
abbrev ê:Aj:=[116,100]
abbrev ë:Aj:=[116,104]
abbrev Xw:Aj:=aQj
abbrev F9:Aj:=aQg
def JQ:List (Aj×Int):=[(wTr,14),(sH,13),(sJ,13),(sI,13),(oa,11),(cp,12),(JN,9),(aCX,7),(cq,20)]
namespace BS
def Og(b:BS)(x:Item)(k:Nat):Option Int:=
 if x.Be=1 then
  match JQ.find? λr=>decide (r.1=x.name) with
  |some r=>some r.2
  |none=>
   if x.name=Of then some (Qb (b.AA.take k))
   else if(x.name=ê\/x.name=ë)/\0<k then some 15
   else if x.name=A5 then some (b.tm.getLast?.getD 7)
   else if x.name=Xw/\0<k then some 4
   else if x.name=F9 then some (if b.head=0 then 3 else 6)
   else if k=0 then some 7 else none
 else if k=0 then some 7 else none
def GU(b:BS)(k:Nat):Item:=if k=0/\b.PC=true then b.ctx else b.AA.getD k Item.zero
def TA(b:BS):Nat->Int
 |0=>7
 |k+1=>match b.Og (b.GU k) k with
  |some m=>m
  |none=>b.TA k
def IW(b:BS):BS:={b with mode:=b.TA b.AA.length}
def plain(l:List AZ):List AZ:=l.map λa=>⟨0,a.name,a.value⟩
def Fh(b:BS)(l:List AZ)(h:Int):BS:=if(b.a.nd h).kind=4 then{b with a:=b.a.L5 h ((b.a.nd h).As++plain l)} else b
def CR(b:BS):BS:=
 if AW (Bf [A5]) b.AA<0 then b
 else IW {b with AA:=Dd Da (Bf [A5]) (Dd DT Da b.AA),AY:=Fz b.AY,tm:=b.tm.dropLast}
def Hj(b:BS):BS:=if b.AA.length<2 then b else{b with AA:=b.AA.take (b.AA.length-1)}
def sK(b:BS):Item:=if b.AA.length<2 then Item.zero else Fs b.AA
end BS
def Ci.zero:Ci:=⟨0,[],[]⟩
namespace BS
def Hc(blk anc:Int)(far i:Nat)(b:BS)(l:Int)(m:Nat):BS×Int×Nat:=
 let x:=b.AA.getD i Item.zero
 let e:=Fy x.node b.AY
 if e<0 then({b with AA:=Bv b.AA i},l,m)
 else if i+3<far then({b with AY:=Bv b.AY e.toNat,AA:=Bv b.AA i},l,if e.toNat<m then m-1 else m)
 else
  let en:=b.AY.getD e.toNat Ci.zero
  let n:=b.Jq en.name en.As 1
  let b1:=b.E7 en.name en.As 1 anc
  ({b1 with a:=b1.a.IF n.node l 0,AA:=b1.AA.set i n,AY:=b1.AY.set e.toNat {en with node:=n.node}},n.node,if l=blk then e.toNat+1 else m)
def MY(blk anc:Int)(far k:Nat):Nat->BS×Int×Nat->BS×Int×Nat
 |0,s=>s
 |c+1,s=>MY blk anc far k c (Hc blk anc far (k+(c+1)) s.1 s.2.1 s.2.2)
def DI(A:Ar)(n:Int)(l:List Int):Ar:=l.foldl (λA x=>A.IF n x 0) A
def Ib(fe:Ci)(blk anc:Int)(s:BS×Int×Nat):BS:=
 let b1:=s.1
 let pb:=b1.place anc
 let b2:={b1 with a:=b1.a.HV s.2.1 pb.1 pb.2}
 let n:=b2.Jq fe.name fe.As 1
 let b3:=b2.E7 fe.name fe.As 1 blk
 let b:=Fy fe.node b3.AY
 let mk:=if b.toNat<s.2.2 then s.2.2 -1 else s.2.2
 let ac:=Bv b3.AY b.toNat
 let op:=Cv fe.node b3.AA
 let ip:=Gg (AW (BK blk) op+1) op.length
 {b3 with a:=(DI b3.a n.node (b3.a.nd blk).Bm).IF blk n.node 0,AY:=ac.take (Gt mk ac.length)++{fe with node:=n.node}::ac.drop (Gt mk ac.length),AA:=op.take ip++n::op.drop ip}
def round(b:BS)(nm:Aj):Bool×BS:=
 let f:=E3 nm b.AY
 if f<0 then(false,b.C6 nm) else
 let fe:=b.AY.getD f.toNat Ci.zero
 let k:=AW (BK fe.node) b.AA
 if k<0 then(false,{b with AY:=Bv b.AY f.toNat}) else
 if k=0\/Px (BK fe.node) (Oa 1) b.AA.reverse=false then(false,b) else
 let far:=D0 fe.node b.AA
 if far<0 then(false,{b with AA:=Gs fe.node b.AA,AY:=Bv b.AY f.toNat}) else
 let blk:=(b.AA.getD far.toNat Item.zero).node
 let anc:=(b.AA.getD (k.toNat-1) Item.zero).node
 (true,Ib fe blk anc (MY blk anc far.toNat k.toNat (far.toNat-1 -k.toNat) (b,blk,f.toNat)))
def FA:Nat->BS->Aj->BS
 |0,b,_=>b
 |n+1,b,nm=>let r:=b.round nm;if r.1 then FA n r.2 nm else r.2
def Dh(b:BS)(nm:Aj):BS:=
 if Bf [nm] (Fs b.AA)/\Fy (Fs b.AA).node b.AY<0 then b.Hj else FA 8 b nm
end BS
structure Le(A A':Ar):Prop where
 has:∀h,A.has h->A'.has h
 kind:∀h,A.has h->(A'.nd h).kind=(A.nd h).kind
 Be:∀h,A.has h->(A'.nd h).Be=(A.nd h).Be
 name:∀h,A.has h->(A'.nd h).name=(A.nd h).name
section
variable{A A' A'':Ar}{h k e p n b:Int}{x:Fg}
def Le.refl:Le A A:=⟨λ_ h=>h,λ_ _=>rfl,λ_ _=>rfl,λ_ _=>rfl⟩
def Le.trans(h1:Le A A')(h2:Le A' A''):Le A A'':=⟨λh a=>h2.has h (h1.has h a),λh a=>by rw[h2.kind h (h1.has h a),h1.kind h a],λh a=>by rw[h2.Be h (h1.has h a),h1.Be h a],λh a=>by rw[h2.name h (h1.has h a),h1.name h a]⟩
def Le.ì(h1:∀h,A.has h->A'.has h)(h2:∀h,A.has h->A'.nd h=A.nd h):Le A A':=⟨h1,λh a=>by rw[h2 h a],λh a=>by rw[h2 h a],λh a=>by rw[h2 h a]⟩
def Xx(a:A.has h):h≠A.len+1:=λe=>Pz (A:=A) (e▸a)
def L6(a:A.has h):(A.add x).nd h=A.nd h:=by rw[Li,Af (Xx a)]
def Xy:Le A (A.add x):= .ì (λh a=>Ei.2 (.inl a)) λh a=>L6 a
def Xz(h1:x.kind=(A.nd h).kind)(h2:x.Be=(A.nd h).Be)(a:x.name=(A.nd h).name):Le A (A.set h x):=by
 refine⟨λk hk=>I2.2 hk,?_,?_,?_⟩<;>intro k hk<;>rw[JM]<;>split;.rename_i e;rw[e.1,h1]
 .rfl
 .rename_i e;rw[e.1,h2]
 .rfl
 .rename_i e;rw[e.1,a]
 .rfl
def xI{l:List Int}:Le A (A.set h {A.nd h with Bm:=l}):=Xz rfl rfl rfl
def xJ:Le A (A.set h {A.nd h with GH:=p}):=Xz rfl rfl rfl
def sL:Le A (A.cut n):=by
 unfold Ar.cut;simp only;split;.exact .refl
 .exact Le.trans xI xJ
def ś:Le A (A.MN p n b):=Le.trans xI xJ
def Qc:Le A (A.IF p n b):=by unfold Ar.IF;split;exact sL.trans ś;exact .refl
def I3:Le A (A.HV n p b):=by unfold Ar.HV;split;exact .refl;exact Qc
def Oh(ok:Er A e):Er (A.HV n p b) e:=by unfold Ar.HV;split;exact ok;exact Qa ok
def nC{d sp:Int}{nm:Aj}{l:List AZ}(a:A.has h):(A.elem d sp nm l).has h/\(A.elem d sp nm l).nd h=A.nd h:=by
 have hne:=Xx a;unfold Ar.elem;simp only
 split;.have h1:(A.add {kind:=4,Cl:=d,Be:=sp,name:=nm,As:=CC l}).has h:=Ei.2 (.inl a);refine⟨I2.2 (Ei.2 (.inl (Ny h1))),?_⟩;rw[JM,Af (λe=>hne e.1),L6 (Ny h1),Xt (.inl (Xx h1)),L6 a]
 .exact⟨Ei.2 (.inl a),L6 a⟩
def nD{d sp:Int}{nm:Aj}{l:List AZ}:(A.elem d sp nm l).has (A.len+1)/\((A.elem d sp nm l).nd (A.len+1)).kind=4/\((A.elem d sp nm l).nd (A.len+1)).Be=sp/\((A.elem d sp nm l).nd (A.len+1)).name=nm/\((A.elem d sp nm l).nd (A.len+1)).Bm=[]/\((A.elem d sp nm l).nd (A.len+1)).GH=0/\((A.elem d sp nm l).nd (A.len+1)).Cl=d/\((A.elem d sp nm l).nd (A.len+1)).As=CC l:=by
 unfold Ar.elem;simp only
 split;.have h1:(A.add {kind:=4,Cl:=d,Be:=sp,name:=nm,As:=CC l}).has (A.len+1):=Ei.2 (.inr rfl);have h2:=Ei (x:={kind:=2,Dg:=A.len+1,Cl:=(A.add {kind:=4,Cl:=d,Be:=sp,name:=nm,As:=CC l}).HR d}).2 (.inl (Ny (h:=d) h1));rw[I2,JM,Ag ⟨rfl,h2⟩];exact⟨h2,rfl,rfl,rfl,rfl,rfl,rfl,rfl⟩
 .rw[Li,Ag rfl];exact⟨Ei.2 (.inr rfl),rfl,rfl,rfl,rfl,rfl,rfl,rfl⟩
def Vk{d sp:Int}{nm:Aj}{l:List AZ}:Le A (A.elem d sp nm l):= .ì (λ_ h=>(nC h).1) λ_ h=>(nC h).2
def nE{l:List AZ}(ok:Er A e)(c:A.has h)(hk:(A.nd h).kind=4)(hl:∀a∈l,0<=a.Be/\a.Be<=7):Er (A.L5 h l) e:=by have hx:=ok.QN h c;refine sE ok c ⟨hx.k,hx.Bm,λh=>absurd hk h,hx.nm,hx.dt,hx.data,hx.CL,hx.sp,λa ha=>hl a (mZ ha),ZV l,hx.QM,hx.MB,hx.root,hx.m0⟩ rfl rfl rfl ⟨(ok.Cl h c).1,(ok.Cl h c).2,ok.Xq h c⟩ rfl rfl λd=>d
def sM{s:Aj}(ok:Er A e)(a:A.has h)(hk:(A.nd h).kind=5\/(A.nd h).kind=6):Er (A.Si h s) e:=by have hx:=ok.QN h a;refine sE ok a ⟨hx.k,hx.Bm,hx.elem,hx.nm,hx.dt,λf d=>by have:(A.nd h).kind≠5:=f;have:(A.nd h).kind≠6:=d;omega,hx.CL,hx.sp,hx.nv,hx.CC,hx.QM,hx.MB,hx.root,hx.m0⟩ rfl rfl rfl ⟨(ok.Cl h a).1,(ok.Cl h a).2,ok.Xq h a⟩ rfl rfl λc=>c
def cR{kd d:Int}{s:Aj}(ok:Er A e)(he:e≠A.len+1)(hd:A.has d/\(A.nd d).kind=1)(hk:kd=5\/kd=6):Er (A.add {kind:=kd,Cl:=d,data:=s}) e:=by
 refine Rg ok ?_ (.inr ⟨Ek,hd⟩) rfl rfl rfl rfl (λh=>?_);.constructor<;>simp[CC,Gu]<;>omega
 .have:=h.1;simp at this;omega
def sN{s:Aj}:Le A (A.Si h s):=Xz rfl rfl rfl
def nF{l:List AZ}:Le A (A.L5 h l):=Xz rfl rfl rfl
def sP{sp:Int}{a:AZ}:0<=(DP sp a).Be/\(DP sp a).Be<=7:=by
 unfold DP;split
 .split
  .rename_i s m he;have:∀x∈fT,0<=x.2.1/\x.2.1<=7:=AM;unfold Jp at he;cases hf:fT.find? λx=>decide (MA sp a.name=x.1) with
   |none=>rw[hf] at he;cases he
   |some y=>rw[hf] at he;have:=this y (Qy hf);simp at he;rw[he] at this;exact this
  .exact⟨NM 0,Ax⟩
 .exact⟨NM 0,Ax⟩
end
structure E0(b:BS):Prop where
 ok:Er b.a 0
 Cl:b.a.has b.Cl/\(b.a.nd b.Cl).kind=1
 op:∀i∈b.AA.tail,b.a.has i.node/\(b.a.nd i.node).kind=4
 ob:(b.AA.tail.map Item.node).Nodup
 ac:∀e∈b.AY,e.node=0\/(b.a.has e.node/\(b.a.nd e.node).kind=4)
 xK:((b.AY.map Ci.node).filter λn=>decide (n≠0)).Nodup
structure BA(b:BS):Prop where
 ok:Er b.a 0
 Cl:b.a.has b.Cl/\(b.a.nd b.Cl).kind=1
def E0.ba{b:BS}(o:E0 b):BA b:=⟨o.ok,o.Cl⟩
instance{b:BS}:Coe (E0 b) (BA b):=⟨E0.ba⟩
section
variable{b:BS}{t:Int}
def XA{U:Type}{l l':List U}(h:List.Sublist l l'):List.Sublist l.tail l'.tail:=by
 cases h with
 |slnil=>exact AE _
 |cons a h=>exact(List.tail_sublist _).trans h
 |cons_cons a h=>exact h
def zb{A A':Ar}{l:List Item}(hl:Le A A')(h:∀i∈l,A.has i.node/\(A.nd i.node).kind=4):∀i∈l,A'.has i.node/\(A'.nd i.node).kind=4:=by intro i hi;have:=h i hi;rw[hl.kind _ this.1];exact⟨hl.has _ this.1,this.2⟩
def xL{A A':Ar}{l:List Ci}(hl:Le A A')(h:∀e∈l,e.node=0\/(A.has e.node/\(A.nd e.node).kind=4)):∀e∈l,e.node=0\/(A'.has e.node/\(A'.nd e.node).kind=4):=by
 intro e he;rcases h e he with h|h
 .exact .inl h
 .rw[hl.kind _ h.1];exact .inr ⟨hl.has _ h.1,h.2⟩
def E0.Iw(o:E0 b){A:Ar}(ok:Er A 0)(hl:Le b.a A):E0 {b with a:=A}:=
 ⟨ok,by rw[hl.kind _ o.Cl.1];exact⟨hl.has _ o.Cl.1,o.Cl.2⟩,zb hl o.op,o.ob,xL hl o.ac,o.xK⟩
def E0.aHw(o:E0 b){l:List Item}(h1:∀i∈l.tail,i∈b.AA.tail)(h2:(l.tail.map Item.node).Nodup):E0 {b with AA:=l}:=
 ⟨o.ok,o.Cl,λi hi=>o.op i (h1 i hi),h2,o.ac,o.xK⟩
def E0.IH(o:E0 b){l:List Item}(h1:List.Sublist l b.AA):E0 {b with AA:=l}:=o.aHw (λ_ hi=>(XA h1).subset hi) (o.ob.sublist ((XA h1).map _))
def E0.nG(o:E0 b){l:List Ci}(h1:List.Sublist l b.AY):E0 {b with AY:=l}:=
 ⟨o.ok,o.Cl,o.op,o.ob,λe he=>o.ac e (h1.subset he),o.xK.sublist ((h1.map _).filter _)⟩
def Cq{p q:Item->Bool}{l:List Item}:List.Sublist (Dd p q l) l:=by
 have key:∀r:List Item,List.Sublist (OJ p q r) r:=by
  intro r;induction r with
  |nil=>exact AE _
  |cons x r ih=>
   cases r with
   |nil=>exact AE _
   |cons y r=>
    rw[OJ];split;.exact AE _
    .split;.exact TT _ _
     .exact ih.trans (TT _ _)
 have:=(key l.reverse).reverse;rwa [Ka] at this
def Ho{n:Int}{l:List Item}:List.Sublist (Gs n l) l:=by unfold Gs;split;exact AE _;exact Cq
def CZ{U:Type}{l:List U}{k:Nat}:List.Sublist (Bv l k) l:=by
 unfold Bv;conv=>rhs;rw[<-Cw k l]
 refine List.Sublist.append (AE _) ?_;rw[<-ED];exact aLw _ _
def Gv{n:Int}{l:List Item}:List.Sublist (Cv n l) l:=by unfold Cv;split;exact AE _;exact CZ
def XB{U:Type}{q:U->Bool}{l:List U}:AW q l<l.length∧-1<=AW q l:=by rcases D5 (q:=q) (l:=l) with⟨h1,_⟩|⟨n,hn,h1,_⟩<;>rw[h1]<;>omega
def zc:b.Od.2≠0->b.a.has b.Od.2/\(b.a.nd b.Od.2).GH=b.Od.1:=by
 unfold BS.Od;simp only
 split;.exact λh=>absurd rfl h
 .split;.exact λh=>absurd rfl h
  .split;.rename_i hp;intro _;refine⟨?_,rfl⟩;apply Qw;intro h;exact hp (by rw[L2 h])
   .exact λh=>absurd rfl h
def oe:(b.place t).2≠0->b.a.has (b.place t).2/\(b.a.nd (b.place t).2).GH=(b.place t).1:=by
 unfold BS.place;simp only
 split;.exact λh=>absurd rfl h
 .generalize(if t=0 then(Fs b.AA).node else t)=t';have h2:((if b.HS=true/\sG JO b.a t' then b.Od else(t',0)).2≠0->b.a.has (if b.HS=true/\sG JO b.a t' then b.Od else(t',0)).2/\(b.a.nd (if b.HS=true/\sG JO b.a t' then b.Od else(t',0)).2).GH=(if b.HS=true/\sG JO b.a t' then b.Od else(t',0)).1):=by
   split;.exact zc
   .exact λh=>absurd rfl h
  generalize(if b.HS=true/\sG JO b.a t' then b.Od else(t',0))=pb at h2;split;.exact λh=>absurd rfl h
  .exact h2
def TB(o:BA b){p:Int}:b.a.has (b.L3 p)/\(b.a.nd (b.L3 p)).kind=1:=by
 unfold BS.L3;by_cases hp:b.a.has p
 .have key:∀q,b.a.has q->b.a.has (if(b.a.nd q).Cl≠0 then(b.a.nd q).Cl else b.Cl)/\(b.a.nd (if(b.a.nd q).Cl≠0 then(b.a.nd q).Cl else b.Cl)).kind=1:=by
   intro q hq;split;.exact o.ok.Cl q hq
   .exact o.Cl
  split;.rename_i hc;exact key _ (o.ok.cont p hp hc).1
  .exact key p hp
 .rw[L2 hp];exact o.Cl
variable{nm:Aj}{at_:List AZ}{sp p:Int}
structure og(b b1:BS)(i:Item):Prop where
 has:b1.a.has i.node
 kind:(b1.a.nd i.node).kind=4
 Be:(b1.a.nd i.node).Be=i.Be
 name:(b1.a.nd i.node).name=i.name
 new:¬b.a.has i.node
def Ur(o:E0 b)(hs:BS.JP sp):E0 (b.E7 nm at_ sp p)/\og b (b.E7 nm at_ sp p) (b.Jq nm at_ sp)/\Le b.a (b.E7 nm at_ sp p).a:=by
 have hd:=TB o.ba (p:=p);unfold BS.E7 BS.Jq;rw[Ag hs,Ag hs];have ok:=xG (sp:=sp) (nm:=BS.MW sp nm) (l:=at_.map (DP sp)) o.ok hd hs (by intro a ha;obtain⟨c,_,rfl⟩:=A4.1 ha;exact sP)
 have hn:=nD (A:=b.a) (d:=b.L3 p) (sp:=sp) (nm:=BS.MW sp nm) (l:=at_.map (DP sp));exact⟨o.Iw ok Vk,⟨hn.1,hn.2.1,hn.2.2.1,hn.2.2.2.1,Pz⟩,Vk⟩
def oh(o:BA b)(hs:BS.JP sp):BA (b.E7 nm at_ sp p):=by
 have hd:=TB o (p:=p);unfold BS.E7;rw[Ag hs];have ok:=xG (sp:=sp) (nm:=BS.MW sp nm) (l:=at_.map (DP sp)) o.ok hd hs (by intro a ha;obtain⟨c,_,rfl⟩:=A4.1 ha;exact sP)
 have l:Le b.a _:=Vk (A:=b.a) (d:=b.L3 p) (sp:=sp) (nm:=BS.MW sp nm) (l:=at_.map (DP sp));exact⟨ok,by rw[l.kind _ o.Cl.1];exact⟨l.has _ o.Cl.1,o.Cl.2⟩⟩
def zd(o:BA b):BA (b.DY nm at_ sp):=by
 unfold BS.DY;split
 .rename_i hs;have c:=oh (nm:=nm) (at_:=at_) (p:=(b.place 0).1) o hs;have f:Le (b.E7 nm at_ sp (b.place 0).1).a ((b.E7 nm at_ sp (b.place 0).1).a.HV (b.a.len+1) (b.place 0).1 (b.place 0).2):=I3;exact⟨Oh (n:=b.a.len+1) (p:=(b.place 0).1) (b:=(b.place 0).2) c.ok,by
   have e:(b.E7 nm at_ sp (b.place 0).1).Cl=b.Cl:=by unfold BS.E7;split<;>rfl
   have d:=c.Cl;rw[e] at d;show _/\_;simp only[e];rw[f.kind _ d.1];exact⟨f.has _ d.1,d.2⟩⟩
 .exact o
def Qd(o:E0 b){b1:BS}{i:Item}(f:og b b1 i):i.node∉b.AA.tail.map Item.node:=by intro h;obtain⟨j,hj,e⟩:=A4.1 h;exact f.new (e▸(o.op j hj).1)
def TC(o:E0 b){b1:BS}{i:Item}(f:og b b1 i):i.node∉b.AY.map Ci.node:=by
 intro h;obtain⟨j,hj,e⟩:=A4.1 h;rcases o.ac j hj with h1|h1
 .have:=f.has.1;omega
 .exact f.new (e▸h1.1)
def cr{U:Type}[DecidableEq U]{l:List U}{k:Nat}{x:U}(h:l.Nodup)(hx:x∉l):(l.take k++x::l.drop k).Nodup:=by
 have e:=Cw k l;rw[BP];rw[<-e,BP] at h;refine⟨h.1,BV.2 ⟨λh1=>hx (Bu h1),h.2.1⟩,?_⟩;rintro a ha c hc rfl;rcases AF.1 hc with rfl|hc
 .exact hx (A0 ha)
 .exact h.2.2 _ ha _ hc rfl
def sQ{U:Type}[DecidableEq U]{l:List U}{k:Nat}{x:U}(h:l.Nodup)(hx:x∉l):(l.set k x).Nodup:=by
 rw[Ce];split
 .have e:=Cw k l;rw[BP];rw[<-e,BP] at h;have hd:List.Sublist (l.drop (k+1)) (l.drop k):=by rw[<-ED];exact aLw _ _
  refine⟨h.1,BV.2 ⟨λh1=>hx (Bu h1),h.2.1.sublist hd⟩,?_⟩;rintro a ha c hc rfl;rcases AF.1 hc with rfl|hc
  .exact hx (A0 ha)
  .exact h.2.2 _ ha _ (hd.subset hc) rfl
 .exact h
def ZW{U Z:Type}(f:U->Z)(l:List U)(k:Nat)(x:U):(l.take k++x::l.drop k).map f=(l.map f).take k++f x::(l.map f).drop k:=Ax
def oj{l:List Item}{k:Nat}{x:Item}(hk:1<=k\/l=[]):(l.take k++x::l.drop k).tail=l.tail.take (k-1)++(if l=[] then[] else[x])++l.tail.drop (k-1):=by
 cases l with
 |nil=>simp
 |cons y l=>obtain⟨k,rfl⟩:∃m,k=m+1:=⟨k-1,by rcases hk with h|h;omega;cases h⟩;simp
def E0.ze(o:E0 b){i:Item}{k:Nat}(h1:b.a.has i.node/\(b.a.nd i.node).kind=4)(h2:i.node∉b.AA.tail.map Item.node)(hk:1<=k\/b.AA=[]):E0 {b with AA:=b.AA.take k++i::b.AA.drop k}:=by
 have e:(b.AA.take k++i::b.AA.drop k).tail=b.AA.tail.take (k-1)++(if b.AA=[] then[] else[i])++b.AA.tail.drop (k-1):=oj hk;by_cases hn:b.AA=[]
 .rw[hn] at e;simp at e;refine⟨o.ok,o.Cl,?_,?_,o.ac,o.xK⟩;.show∀j∈(b.AA.take k++i::b.AA.drop k).tail,_;rw[hn];simp
  .show((b.AA.take k++i::b.AA.drop k).tail.map Item.node).Nodup;rw[hn];simp
 .rw[Af hn,AT,Hl] at e;refine⟨o.ok,o.Cl,?_,?_,o.ac,o.xK⟩
  .show∀j∈(b.AA.take k++i::b.AA.drop k).tail,_;rw[e];intro j hj;rcases Aq.1 hj with hj|hj
   .exact o.op j (A0 hj)
   .rcases AF.1 hj with rfl|hj
    .exact h1
    .exact o.op j (Bu hj)
  .show((b.AA.take k++i::b.AA.drop k).tail.map Item.node).Nodup;rw[e,ZW];exact cr o.ob h2
def ZX{U:Type}{l:List U}{k:Nat}{x:U}:(l.set k x).tail=if k=0 then l.tail else l.tail.set (k-1) x:=by
 cases l with
 |nil=>simp
 |cons y l=>cases k<;>simp
def E0.om(o:E0 b){i:Item}{k:Nat}(h1:b.a.has i.node/\(b.a.nd i.node).kind=4)(h2:i.node∉b.AA.tail.map Item.node):E0 {b with AA:=b.AA.set k i}:=by
 refine⟨o.ok,o.Cl,?_,?_,o.ac,o.xK⟩
 .show∀j∈(b.AA.set k i).tail,_;rw[ZX];split;.exact o.op
  .intro j hj;rcases DA hj with hj|rfl
   .exact o.op j hj
   .exact h1
 .show((b.AA.set k i).tail.map Item.node).Nodup;rw[ZX];split;.exact o.ob
  .rw[IL];exact sQ o.ob h2
def oq{l:List Int}{k:Nat}{x:Int}(h:(l.filter λn=>decide (n≠0)).Nodup)(hx:x∉l):((l.take k++x::l.drop k).filter λn=>decide (n≠0)).Nodup:=by
 have e:=Cw k l;rw[<-e,ES,BP] at h;rw[ES,BP];by_cases h0:x=0;.subst h0;simpa using h
 .rw[ē (by simpa using h0)];refine⟨h.1,BV.2 ⟨λh1=>hx (Bu ((Dl.1 h1).1)),h.2.1⟩,?_⟩;rintro a ha c hc rfl;rcases AF.1 hc with rfl|hc
  .exact hx (A0 (Dl.1 ha).1)
  .exact h.2.2 _ ha _ hc rfl
def ot{l:List Int}{k:Nat}{x:Int}(h:(l.filter λn=>decide (n≠0)).Nodup)(hx:x∉l):((l.set k x).filter λn=>decide (n≠0)).Nodup:=by
 rw[Ce];split
 .have h2:(((l.take k++l.drop (k+1))).filter λn=>decide (n≠0)).Nodup:=h.sublist ((show List.Sublist (Bv l k) l from CZ).filter _);rw[ES,BP] at h2⊢;by_cases h0:x=0;.subst h0;simpa using h2
  .rw[ē (by simpa using h0)];refine⟨h2.1,BV.2 ⟨λh1=>hx (Bu ((Dl.1 h1).1)),h2.2.1⟩,?_⟩;rintro a ha c hc rfl;rcases AF.1 hc with rfl|hc
   .exact hx (A0 (Dl.1 ha).1)
   .exact h2.2.2 _ ha _ hc rfl
 .exact h
def E0.Ŝ(o:E0 b){e:Ci}{k:Nat}(h1:e.node=0\/(b.a.has e.node/\(b.a.nd e.node).kind=4))(h2:e.node=0\/e.node∉b.AY.map Ci.node):E0 {b with AY:=b.AY.take k++e::b.AY.drop k}:=by
 refine⟨o.ok,o.Cl,o.op,o.ob,?_,?_⟩
 .intro j hj;rcases Aq.1 hj with hj|hj
  .exact o.ac j (A0 hj)
  .rcases AF.1 hj with rfl|hj
   .exact h1
   .exact o.ac j (Bu hj)
 .show(((b.AY.take k++e::b.AY.drop k).map Ci.node).filter _).Nodup;rw[ZW];rcases h2 with h2|h2
  .have:=o.xK;conv at this=>rw[<-Cw k (b.AY.map Ci.node),ES]
   rw[ES,List.filter_cons_of_neg (by simp[h2])];exact this
  .exact oq o.xK h2
def E0.ou(o:E0 b){e:Ci}{k:Nat}(h1:b.a.has e.node/\(b.a.nd e.node).kind=4)(h2:e.node∉b.AY.map Ci.node):E0 {b with AY:=b.AY.set k e}:=by
 refine⟨o.ok,o.Cl,o.op,o.ob,?_,?_⟩
 .intro j hj;rcases DA hj with hj|rfl
  .exact o.ac j hj
  .exact .inr h1
 .show(((b.AY.set k e).map Ci.node).filter _).Nodup;rw[IL];exact ot o.xK h2
def Rh(o:E0 b):E0 (b.DY nm at_ sp):=by
 unfold BS.DY;split
 .rename_i hs;obtain⟨c,f,hl⟩:=Ur (nm:=nm) (at_:=at_) (p:=(b.place 0).1) o hs;have g:=c.Iw (Oh (n:=b.a.len+1) (p:=(b.place 0).1) (b:=(b.place 0).2) c.ok) I3;have hn:(b.Jq nm at_ sp).node=b.a.len+1:=by unfold BS.Jq;rw[Ag hs]
  have d:Le (b.E7 nm at_ sp (b.place 0).1).a ((b.E7 nm at_ sp (b.place 0).1).a.HV (b.a.len+1) (b.place 0).1 (b.place 0).2):=I3;have ho:(b.E7 nm at_ sp (b.place 0).1).AA=b.AA:=by unfold BS.E7;rw[Ag hs]
  have:=g.ze (i:=b.Jq nm at_ sp) (k:=b.AA.length) ⟨d.has _ f.has,by rw[d.kind _ f.has];exact f.kind⟩ (by simp only[ho];exact Qd o f) (by simp only[ho];cases b.AA with|nil=>exact .inr rfl|cons y l=>exact .inl Ax);simp only[ho,BN,GQ] at this;simp only[ho];exact this
 .exact o
def Sj{l:List Ci}{e:Ci}:∃l',List.Sublist l' l/\nB e l=l'++[e]:=by
 unfold nB;split;.exact⟨_,CZ,rfl⟩
 .exact⟨_,AE _,rfl⟩
def xM:Le b.a (b.DY nm at_ sp).a:=by
 unfold BS.DY BS.E7;split;.exact Le.trans Vk I3
 .exact .refl
def XC(hs:BS.JP sp):(b.DY nm at_ sp).a.has (b.a.len+1)/\((b.DY nm at_ sp).a.nd (b.a.len+1)).kind=4:=by
 unfold BS.DY BS.E7;rw[Ag hs];simp only
 rw[Ag hs];have hn:=nD (A:=b.a) (d:=b.L3 (b.place 0).1) (sp:=sp) (nm:=BS.MW sp nm) (l:=at_.map (DP sp));exact⟨I3.has _ hn.1,by rw[I3.kind _ hn.1];exact hn.2.1⟩
def EA:(b.DY nm at_ sp).AY=b.AY:=by unfold BS.DY BS.E7;split<;>rfl
def ov:(b.DY nm at_ sp).Cl=b.Cl:=by unfold BS.DY BS.E7;split<;>rfl
def Lt:BS.JP 1:=⟨AM,AM⟩
def zf(o:E0 b):b.a.len+1∉b.AY.map Ci.node:=by
 intro h;obtain⟨j,hj,e⟩:=A4.1 h;rcases o.ac j hj with h1|h1
 .unfold Ar.len at e;omega
 .exact Pz (e▸h1.1)
def ZY(o:E0 b):E0 (b.FY nm at_):=by
 have d:=Rh (nm:=nm) (at_:=at_) (sp:=1) o;unfold BS.FY;simp only
 obtain⟨l',h1,h2⟩:=Sj (l:=(b.DY nm at_ 1).AY) (e:=⟨b.a.len+1,nm,at_⟩);rw[h2];have c:=d.nG h1;have:=c.Ŝ (e:=⟨b.a.len+1,nm,at_⟩) (k:=l'.length) (.inr (XC Lt)) (.inr (by intro h;rw[EA] at h1;exact zf o ((h1.map Ci.node).subset h)))
 simpa using this
def E0.of_eq{c:BS}(o:E0 b)(h1:c.a=b.a)(h2:c.Cl=b.Cl)(f:c.AA=b.AA)(d:c.AY=b.AY):E0 c:=
 ⟨h1▸o.ok,by rw[h1,h2];exact o.Cl,by rw[h1,f];exact o.op,by rw[f];exact o.ob,by rw[h1,d];exact o.ac,by rw[d];exact o.xK⟩
def sR{l:List Int}{bf t:Int}(h:Tz l bf=some t):t∈l:=by
 unfold Tz at h;split at h;.exact aFy h
 .exact(List.takeWhile_sublist _).subset (aFy h)
def ct{A:Ar}{s:Aj}{p bf:Int}(ok:Er A 0):Er (BS.Oe A s p bf) 0/\Le A (BS.Oe A s p bf):=by
 by_cases hp:A.has p
 .have h0:(0:Int)≠A.len+1:=by unfold Ar.len;omega
  have ha:=Oh (n:=A.len+1) (p:=p) (b:=bf) (cR (s:=s) (kd:=5) ok h0 (ok.Cl p hp) (.inl rfl));have hl:Le A ((A.add {kind:=5,Cl:=(A.nd p).Cl,data:=s}).HV (A.len+1) p bf):=Le.trans Xy I3;unfold BS.Oe;split
  .split
   .rename_i t ht;split;.rename_i hk;exact⟨sM ok (ok.MU p hp _ (sR ht)).1 (.inl hk),sN⟩
    .exact⟨ha,hl⟩
   .exact⟨ha,hl⟩
  .exact⟨ok,.refl⟩
 .have e:BS.Oe A s p bf=A:=by unfold BS.Oe;rw[Af (by rw[L2 hp];simp[Nx])]
  rw[e];exact⟨ok,.refl⟩
def xN(o:E0 b){r:Int}:E0 (b.Mm r):=by have h:=ct (s:=L4 r) (p:=(b.place 0).1) (bf:=(b.place 0).2) o.ok;exact o.Iw h.1 h.2
def Sk{A:Ar}{s:Aj}{p bf:Int}(ok:Er A 0):Er (BS.Iv A s p bf) 0/\Le A (BS.Iv A s p bf):=by
 unfold BS.Iv;split
 .rename_i hk;have hp:A.has p:=by
   by_cases hp:A.has p;.exact hp
   .rw[L2 hp] at hk;unfold Nx at hk;simp at hk
  have h0:(0:Int)≠A.len+1:=by unfold Ar.len;omega
  exact⟨Oh (cR (s:=s) (kd:=6) ok h0 (ok.Cl p hp) (.inr rfl)),Le.trans Xy I3⟩
 .exact⟨ok,.refl⟩
def XD(o:E0 b){s:Aj}{p:Int}:E0 (b.C1 s p):=by
 unfold BS.C1;split;.have h:=Sk (s:=s) (p:=(b.place 0).1) (bf:=(b.place 0).2) o.ok;exact o.Iw h.1 h.2
 .have h:=Sk (s:=s) (p:=p) (bf:=0) o.ok;exact o.Iw h.1 h.2
def sS(o:E0 b){st:Int}:E0 (b.Df nm at_ st):=(Rh o).of_eq rfl rfl rfl rfl
def cu(o:E0 b):E0 b.B7:=by
 unfold BS.B7;split;.exact o.IH (Cq.trans Cq)
 .exact o
def ZZ(o:E0 b):E0 (b.C6 nm):=by
 unfold BS.C6;split
 .split;.exact o.IH (Ho.trans Cq)
  .exact o
 .exact o
def Sl(o:E0 b):E0 b.IW:=o.of_eq rfl rfl rfl rfl
def nH(o:E0 b){l:List AZ}{h:Int}:E0 (b.Fh l h):=by
 unfold BS.Fh;split
 .rename_i hk;have d:b.a.has h:=by
   by_cases hp:b.a.has h;.exact hp
   .rw[L2 hp] at hk;simp at hk
  refine o.Iw (nE o.ok d hk ?_) nF;intro a ha;rcases Aq.1 ha with ha|ha
  .exact(o.ok.QN h d).nv a ha
  .obtain⟨c,_,rfl⟩:=A4.1 ha;simp
 .exact o
def XE(o:E0 b):E0 b.CR:=by
 unfold BS.CR;split;.exact o
 .have a:=(o.IH (Cq (p:=Da) (q:=Bf [A5]) (l:=Dd DT Da b.AA) |>.trans Cq)).nG (l:=Fz b.AY) (Ca _ _);exact(Sl (b:={b with AA:=Dd Da (Bf [A5]) (Dd DT Da b.AA),AY:=Fz b.AY,tm:=b.tm.dropLast}) (a.of_eq rfl rfl rfl rfl))
def oz(o:E0 b):E0 b.Hj:=by
 unfold BS.Hj;split;.exact o
 .exact o.IH (Ca _ _)
structure aCY(b:BS)(l:List Ci)(r:List Ci×BS):Prop where
 ok:E0 r.2
 le:Le b.a r.2.a
 AY:r.2.AY=b.AY
 len:r.1.length=l.length
 nodes:∀e∈r.1,r.2.a.has e.node/\(r.2.a.nd e.node).kind=4/\¬b.a.has e.node
 í:(r.1.map Ci.node).Nodup
 aCZ:r.1.map Ci.name=l.map Ci.name
def xO:∀{l:List Ci} {b:BS},E0 b->aCY b l (BS.Ke l b)
 |[],b,o=>by
  refine⟨o,.refl,rfl,rfl,?_,?_,rfl⟩;.intro e he;cases he
  .exact Mf
 |e::l,b,o=>by
  have d:=Rh (nm:=e.name) (at_:=e.As) (sp:=1) o;have r:=xO (l:=l) d;have hl:Le b.a (b.DY e.name e.As 1).a:=xM;have hn:=XC (b:=b) (nm:=e.name) (at_:=e.As) Lt;refine⟨r.ok,hl.trans r.le,r.AY.trans EA,by simp[BS.Ke,r.len],?_,?_,by simp[BS.Ke,r.aCZ]⟩
  .intro c hc;rcases AF.1 hc with rfl|hc
   .exact⟨r.le.has _ hn.1,(r.le.kind _ hn.1).trans hn.2,Pz⟩
   .have:=r.nodes c hc;exact⟨this.1,this.2.1,λh=>this.2.2 (hl.has _ h)⟩
  .simp only[BS.Ke,A9,BV];refine⟨λh=>?_,r.í⟩;obtain⟨c,hc,f⟩:=A4.1 h;exact(r.nodes c hc).2.2 (f▸hn.1)
def XF(o:E0 b):E0 b.AU:=by
 have r:=xO (l:=b.AY.drop b.OU) o;unfold BS.AU;simp only
 have hc:=xL r.le o.ac;refine⟨r.ok.ok,r.ok.Cl,r.ok.op,r.ok.ob,?_,?_⟩
 .intro e he;rcases Aq.1 he with he|he
  .exact hc e (A0 he)
  .exact .inr ⟨(r.nodes e he).1,(r.nodes e he).2.1⟩
 .show(((b.AY.take b.OU++(BS.Ke (b.AY.drop b.OU) b).1).map Ci.node).filter _).Nodup;rw[BW,ES,BP];refine⟨o.xK.sublist (((Ca _ _).map _).filter _),r.í.filter _,?_⟩;rintro a ha c KS rfl;obtain⟨j,h1,rfl⟩:=A4.1 (Dl.1 ha).1;obtain⟨i,h2,g⟩:=A4.1 (Dl.1 KS).1;have d:=(r.nodes i h2);rw[g] at d;rcases o.ac j (A0 h1) with f|f
  .have:=d.1.1;omega
  .exact d.2.2 f.1
def nI(o:E0 b){blk anc:Int}{far i:Nat}{l:Int}{m:Nat}(hl:b.a.has l):E0 (BS.Hc blk anc far i b l m).1/\(BS.Hc blk anc far i b l m).1.a.has (BS.Hc blk anc far i b l m).2.1/\Le b.a (BS.Hc blk anc far i b l m).1.a:=by
 unfold BS.Hc;simp only
 split;.exact⟨o.IH CZ,hl,.refl⟩
 .split;.exact⟨(o.nG CZ).IH CZ,hl,.refl⟩
  .generalize Ri:b.AY.getD (Fy (b.AA.getD i Item.zero).node b.AY).toNat Ci.zero=en;obtain⟨d,f,Es⟩:=Ur (nm:=en.name) (at_:=en.As) (p:=anc) o Lt;have c:Le (b.E7 en.name en.As 1 anc).a ((b.E7 en.name en.As 1 anc).a.IF (b.Jq en.name en.As 1).node l 0):=Qc;have QD:(b.E7 en.name en.As 1 anc).AA=b.AA:=by unfold BS.E7;rw[Ag Lt]
   have XG:(b.E7 en.name en.As 1 anc).AY=b.AY:=by unfold BS.E7;rw[Ag Lt]
   have q:=d.Iw (Qa (p:=(b.Jq en.name en.As 1).node) (n:=l) (b:=0) d.ok) c;have j:=q.om (i:=b.Jq en.name en.As 1) (k:=i) ⟨c.has _ f.has,by rw[c.kind _ f.has];exact f.kind⟩ (by simp only[QD];exact Qd o f);have g:=j.ou (e:={en with node:=(b.Jq en.name en.As 1).node}) (k:=(Fy (b.AA.getD i Item.zero).node b.AY).toNat) ⟨c.has _ f.has,by rw[c.kind _ f.has];exact f.kind⟩ (by simp only[XG];exact TC o f);exact⟨g,c.has _ f.has,Es.trans c⟩
def cS{blk anc:Int}{far k:Nat}:∀{c:Nat} {s:BS×Int×Nat},E0 s.1->s.1.a.has s.2.1->E0 (BS.MY blk anc far k c s).1/\(BS.MY blk anc far k c s).1.a.has (BS.MY blk anc far k c s).2.1/\Le s.1.a (BS.MY blk anc far k c s).1.a
 |0,s,o,h=>⟨o,h,.refl⟩
 |c+1,s,o,h=>by obtain⟨f,h1,l1⟩:=nI (blk:=blk) (anc:=anc) (far:=far) (i:=k+(c+1)) (m:=s.2.2) o h;obtain⟨d,h2,g⟩:=cS (blk:=blk) (anc:=anc) (far:=far) (k:=k) (c:=c) f h1;exact⟨d,h2,l1.trans g⟩
def MD{n:Int}:∀{l:List Int} {A:Ar},Er A 0->Er (BS.DI A n l) 0/\Le A (BS.DI A n l)
 |[],A,ok=>⟨ok,.refl⟩
 |x::l,A,ok=>by have h:=MD (n:=n) (l:=l) (Qa (p:=n) (n:=x) (b:=0) ok);exact⟨h.1,Le.trans Qc h.2⟩
def zg{l:List Item}{k:Int}:1<=Gg k l.length\/l=[]:=by
 cases l with
 |nil=>exact .inr rfl
 |cons y l=>left;unfold Gg;simp only[AG];omega
def cw{fe:Ci}{blk anc:Int}{s:BS×Int×Nat}(o:E0 s.1):E0 (BS.Ib fe blk anc s)/\Le s.1.a (BS.Ib fe blk anc s).a:=by
 unfold BS.Ib;simp only
 generalize cy:s.1.place anc=pb;have l1:Le s.1.a (s.1.a.HV s.2.1 pb.1 pb.2):=I3;have c:=o.Iw (Oh (n:=s.2.1) (p:=pb.1) (b:=pb.2) o.ok) l1;generalize Qt:({s.1 with a:=s.1.a.HV s.2.1 pb.1 pb.2}:BS)=b2 at c;have Tn:b2.a=s.1.a.HV s.2.1 pb.1 pb.2:=by rw[<-Qt]
 have wA:b2.AA=s.1.AA:=by rw[<-Qt]
 have KS:b2.AY=s.1.AY:=by rw[<-Qt]
 obtain⟨j,f,l3⟩:=Ur (nm:=fe.name) (at_:=fe.As) (p:=blk) c Lt;have QD:(b2.E7 fe.name fe.As 1 blk).AA=b2.AA:=by unfold BS.E7;rw[Ag Lt]
 have XG:(b2.E7 fe.name fe.As 1 blk).AY=b2.AY:=by unfold BS.E7;rw[Ag Lt]
 generalize Ņ:b2.E7 fe.name fe.As 1 blk=b3 at*;generalize hn:b2.Jq fe.name fe.As 1=n at*;obtain⟨î,l4⟩:=MD (n:=n.node) (l:=(b3.a.nd blk).Bm) j.ok;have g:=Qa (p:=blk) (n:=n.node) (b:=0) î;have d:Le b3.a ((BS.DI b3.a n.node (b3.a.nd blk).Bm).IF blk n.node 0):=l4.trans Qc;have q:=j.Iw g d;have fr:((BS.DI b3.a n.node (b3.a.nd blk).Bm).IF blk n.node 0).has n.node/\(((BS.DI b3.a n.node (b3.a.nd blk).Bm).IF blk n.node 0).nd n.node).kind=4:=
  ⟨d.has _ f.has,by rw[d.kind _ f.has];exact f.kind⟩
 have m:=(q.nG (l:=Bv b3.AY (Fy fe.node b3.AY).toNat) CZ).IH (l:=Cv fe.node b3.AA) Gv;have u:n.node∉(Cv fe.node b3.AA).tail.map Item.node:=λh=>Qd c f (((XA Gv).map Item.node).subset (by rw[QD] at h;exact h));have r:n.node∉(Bv b3.AY (Fy fe.node b3.AY).toNat).map Ci.node:=λh=>TC c f ((CZ.map Ci.node).subset (by rw[XG] at h;exact h));refine⟨(m.ze (i:=n) fr u zg).Ŝ (e:={fe with node:=n.node}) (.inr fr) (.inr r),?_⟩;rw[Tn] at l3;exact l1.trans (l3.trans d)
def nJ(o:E0 b):E0 (b.round nm).2/\Le b.a (b.round nm).2.a:=by
 have d:Le b.a (b.C6 nm).a:=by
  unfold BS.C6;split;.split<;>exact .refl
  .exact .refl
 unfold BS.round;simp only
 split;.exact⟨ZZ o,d⟩
 .split;.exact⟨o.nG CZ,.refl⟩
  .split;.exact⟨o,.refl⟩
   .split;.exact⟨(o.IH Ho).nG CZ,.refl⟩
    .rename_i hf;have aNo:D0 (b.AY.getD (E3 nm b.AY).toNat Ci.zero).node b.AA<b.AA.length/\1<=D0 (b.AY.getD (E3 nm b.AY).toNat Ci.zero).node b.AA:=by
      rw[Mz] at hf⊢;split;.rename_i h0;rw[Ag h0] at hf;omega
      .rename_i h0;rw[Af h0] at hf;unfold Gf at hf⊢;split;.rename_i k hk;have:=(Kz.1 hk).1;rw[Bi] at this;omega
       .rename_i hk;rw[hk] at hf;simp at hf
     have hb:b.a.has (b.AA.getD (D0 (b.AY.getD (E3 nm b.AY).toNat Ci.zero).node b.AA).toNat Item.zero).node:=by rw[AK,Au Ac];refine(o.op _ ?_).1;rw[List.mem_iff_getElem];refine⟨(D0 (b.AY.getD (E3 nm b.AY).toNat Ci.zero).node b.AA).toNat-1,by rw[List.length_tail];omega,?_⟩;rw[List.getElem_tail];show b.AA[_]'_=b.AA[_]'_;congr 1;omega
     obtain⟨f,h1,l1⟩:=cS (blk:=(b.AA.getD (D0 (b.AY.getD (E3 nm b.AY).toNat Ci.zero).node b.AA).toNat Item.zero).node) (anc:=(b.AA.getD ((AW (BK (b.AY.getD (E3 nm b.AY).toNat Ci.zero).node) b.AA).toNat-1) Item.zero).node) (far:=(D0 (b.AY.getD (E3 nm b.AY).toNat Ci.zero).node b.AA).toNat) (k:=(AW (BK (b.AY.getD (E3 nm b.AY).toNat Ci.zero).node) b.AA).toNat) (c:=(D0 (b.AY.getD (E3 nm b.AY).toNat Ci.zero).node b.AA).toNat-1 -(AW (BK (b.AY.getD (E3 nm b.AY).toNat Ci.zero).node) b.AA).toNat) (s:=(b,(b.AA.getD (D0 (b.AY.getD (E3 nm b.AY).toNat Ci.zero).node b.AA).toNat Item.zero).node,(E3 nm b.AY).toNat)) o hb;have r:=cw (fe:=b.AY.getD (E3 nm b.AY).toNat Ci.zero) (blk:=(b.AA.getD (D0 (b.AY.getD (E3 nm b.AY).toNat Ci.zero).node b.AA).toNat Item.zero).node) (anc:=(b.AA.getD ((AW (BK (b.AY.getD (E3 nm b.AY).toNat Ci.zero).node) b.AA).toNat-1) Item.zero).node) f;exact⟨r.1,l1.trans r.2⟩
def Z0:∀{n:Nat} {b:BS},E0 b->E0 (BS.FA n b nm)/\Le b.a (BS.FA n b nm).a
 |0,b,o=>⟨o,.refl⟩
 |n+1,b,o=>by
  obtain⟨c,l1⟩:=nJ (nm:=nm) o;unfold BS.FA;simp only
  split;.have r:=Z0 (n:=n) c;exact⟨r.1,l1.trans r.2⟩
  .exact⟨c,l1⟩
def Z3(o:E0 b):E0 (b.Dh nm):=by
 unfold BS.Dh;split;.exact oz o
 .exact(Z0 o).1
end
structure Mn(A:Ar):Prop where
 n:A.n.length<=1000000000
 at_:∀x,(A.nd x).As.length<=1000000000
 data:∀x,(A.nd x).data.length<=1000000000
def E1(l:List AZ):Prop:=l.length<=1000/\∀a∈l,a.name.length<=1000/\a.value.length<=1000
structure Cf(b:BS)(m:Nat):Prop where
 n:b.a.n.length+m<=900000000
 at_:∀x,(b.a.nd x).As.length+m<=1000000000
 data:∀x,(b.a.nd x).data.length+m<=1000000000
 AA:b.AA.length+m<=900000000
 AY:b.AY.length+m<=900000000
 tm:b.tm.length+m<=900000000
 DD:∀e∈b.AY,e.name.length<=1000/\E1 e.As
 Z4:∀i∈b.AA,i.name.length<=1000
def Cf.TD{b:BS}{m:Nat}(r:Cf b m):Mn b.a:=⟨by have:=r.n;omega,λx=>by have:=r.at_ x;omega,λx=>by have:=r.data x;omega⟩
def Cf.le{b:BS}{m m':Nat}(r:Cf b m)(hm:m'<=m):Cf b m':=⟨by have:=r.n;omega,λx=>by have:=r.at_ x;omega,λx=>by have:=r.data x;omega,by have:=r.AA;omega,by have:=r.AY;omega,by have:=r.tm;omega,r.DD,r.Z4⟩
def cz{sp:Int}{y:AZ}:(DP sp y).value=y.value:=by
 unfold DP;split;.split<;>rfl
 .rfl
structure MZ(A A':Ar):Prop where
 n:A'.n.length=A.n.length
 at_:∀x,(A'.nd x).As=(A.nd x).As
 data:∀x,(A'.nd x).data=(A.nd x).data
section
variable{A A' A'':Ar}{x p bf:Int}{b:BS}{m:Nat}
def MZ.refl:MZ A A:=⟨rfl,λ_=>rfl,λ_=>rfl⟩
def MZ.trans(h:MZ A A')(k:MZ A' A''):MZ A A'':=⟨k.n.trans h.n,λx=>(k.at_ x).trans (h.at_ x),λx=>(k.data x).trans (h.data x)⟩
def XH{y:Fg}(h1:y.As=(A.nd x).As)(h2:y.data=(A.nd x).data):MZ A (A.set x y):=by
 refine⟨IV,λk=>?_,λk=>?_⟩<;>rw[JM]<;>split;.rename_i e;rw[h1,e.1]
 .rfl
 .rename_i e;rw[h2,e.1]
 .rfl
def TE{l:List Int}:MZ A (A.set x {A.nd x with Bm:=l}):=XH rfl rfl
def TF:MZ A (A.set x {A.nd x with GH:=p}):=XH rfl rfl
def Kr:MZ A (A.IF p x bf):=by
 unfold Ar.IF;split
 .refine MZ.trans ?_ (MZ.trans TE TF);unfold Ar.cut;simp only;split;.exact .refl
  .exact MZ.trans TE TF
 .exact .refl
def LI:MZ A (A.HV x p bf):=by unfold Ar.HV;split;exact .refl;exact Kr
def QP{n:Int}:∀{l:List Int} {A:Ar},MZ A (BS.DI A n l)
 |[],A=> .refl
 |y::l,A=>MZ.trans Kr (QP (l:=l))
def Cf.same{c:BS}(r:Cf b m)(h:MZ b.a c.a)(h1:c.AA.length<=b.AA.length)(h2:c.AY.length<=b.AY.length)(g:c.tm.length<=b.tm.length)(f:∀e∈c.AY,e.name.length<=1000/\E1 e.As)(d:∀i∈c.AA,i.name.length<=1000):Cf c m:=
 ⟨by rw[h.n];exact r.n,λx=>by rw[h.at_];exact r.at_ x,λx=>by rw[h.data];exact r.data x,by have:=r.AA;omega,by have:=r.AY;omega,by have:=r.tm;omega,f,d⟩
def Cf.Iw{A':Ar}(r:Cf b m)(h:MZ b.a A'):Cf {b with a:=A'} m:=r.same h (Ab _) (Ab _) (Ab _) r.DD r.Z4
def Cf.IH{l:List Item}(r:Cf b m)(h:List.Sublist l b.AA):Cf {b with AA:=l} m:=r.same .refl h.length_le (Ab _) (Ab _) r.DD λi hi=>r.Z4 i (h.subset hi)
def Cf.eq{c:BS}(r:Cf b m)(h1:c.a=b.a)(h2:c.AA=b.AA)(d:c.AY=b.AY)(e:c.tm=b.tm):Cf c m:=⟨by rw[h1];exact r.n,by rw[h1];exact r.at_,by rw[h1];exact r.data,by rw[h2];exact r.AA,by rw[d];exact r.AY,by rw[e];exact r.tm,by rw[d];exact r.DD,by rw[h2];exact r.Z4⟩
structure TG(A A':Ar)(k:Nat):Prop where
 n:A'.n.length<=A.n.length+k
 at_:∀x,(A'.nd x).As.length<=max (A.nd x).As.length 1000
 data:∀x,(A'.nd x).data.length<=max (A.nd x).data.length 100000
def KU{y:Fg}(h1:y.As.length<=1000)(h2:y.data.length<=100000):TG A (A.add y) 1:=by refine⟨by simp[Ar.add],λx=>?_,λx=>?_⟩<;>rw[Li]<;>split<;>omega
def TG.trans{k k':Nat}(h:TG A A' k)(g:TG A' A'' k'):TG A A'' (k+k'):=
 ⟨by have:=h.n;have:=g.n;omega,λx=>by have:=h.at_ x;have:=g.at_ x;omega,λx=>by have:=h.data x;have:=g.data x;omega⟩
def TG.le{k k':Nat}(h:TG A A' k)(hk:k<=k'):TG A A' k':=⟨by have:=h.n;omega,h.at_,h.data⟩
def c_(h:MZ A A'):TG A A' 0:=⟨by rw[h.n];exact Ab _,λx=>by rw[h.at_];omega,λx=>by rw[h.data];omega⟩
def sT:TG A (A.ER x) 1:=by
 unfold Ar.ER;split;.exact(c_ .refl).le Ac
 .have:=KU (A:=A) (y:={kind:=1,Cl:=A.len+1}) (Bc _) (Bc _);exact⟨this.n,this.at_,this.data⟩
def o_{y:Fg}(h1:y.As.length<=1000)(h2:y.data.length<=100000):TG A (A.set x y) 0:=by refine⟨by rw[IV];exact Ab _,λx=>?_,λx=>?_⟩<;>rw[JM]<;>split<;>omega
def db{d sp:Int}{nm:Aj}{l:List AZ}(hl:l.length<=1000):TG A (A.elem d sp nm l) 3:=by
 have ho:=Bn (P9 (l:=l)) hl;have g1:=KU (A:=A) (y:={kind:=4,Cl:=d,Be:=sp,name:=nm,As:=CC l}) ho (Bc _);unfold Ar.elem;simp only
 split;.have g2:=sT (A:=A.add {kind:=4,Cl:=d,Be:=sp,name:=nm,As:=CC l}) (x:=d);have g3:=KU (A:=(A.add {kind:=4,Cl:=d,Be:=sp,name:=nm,As:=CC l}).ER d) (y:={kind:=2,Dg:=A.len+1,Cl:=(A.add {kind:=4,Cl:=d,Be:=sp,name:=nm,As:=CC l}).HR d}) (Bc _) (Bc _);exact g1.trans (k':=2) (g2.trans (k':=1) (g3.trans (k':=0) (o_ ho (Bc _))))
 .exact g1.le Ac
def Cf.ID{A':Ar}{k:Nat}(r:Cf b (m+k))(h:TG b.a A' k):Cf {b with a:=A'} m:=
 ⟨by have:=r.n;have:=h.n;simp only;omega,λx=>by have:=r.at_ x;have:=h.at_ x;have:=r.n;simp only;omega,λx=>by have:=r.data x;have:=h.data x;have:=r.n;simp only;omega,by have:=r.AA;simp only;omega,by have:=r.AY;simp only;omega,by have:=r.tm;simp only;omega,r.DD,r.Z4⟩
def pc{sp:Int}{nm:Aj}:(BS.MW sp nm).length=nm.length:=by
 unfold BS.MW;split
 .rcases OK nm Nu with h|h
  .rw[h]
  .conv=>rhs;rw[<-h.2,cL]
 .rfl
variable{nm:Aj}{l:List AZ}{sp:Int}
def LC(r:Cf b (m+3))(hl:E1 l):Cf (b.E7 nm l sp p) m:=by
 unfold BS.E7;split;.exact r.ID (db (by rw[Aw];exact hl.1))
 .exact r.le Ac
def PD(hn:nm.length<=1000):(b.Jq nm l sp).name.length<=1000:=by
 unfold BS.Jq;split;.show(BS.MW sp nm).length<=1000;rw[pc];exact hn
 .exact Bc _
def Cf.pd{i:Item}{l':List Item}(r:Cf b (m+1))(h1:l'.length<=b.AA.length+1)(h2:∀j∈l',j∈b.AA\/j=i)(hi:i.name.length<=1000):Cf {b with AA:=l'} m:=
 ⟨by have:=r.n;simp only;omega,λx=>by have:=r.at_ x;simp only;omega,λx=>by have:=r.data x;simp only;omega,by have:=r.AA;simp only;omega,by have:=r.AY;simp only;omega,by have:=r.tm;simp only;omega,r.DD,λj hj=>by
  rcases h2 j hj with h|rfl
  .exact r.Z4 j h
  .exact hi⟩
def Cf.xP{e:Ci}{l':List Ci}(r:Cf b (m+1))(h1:l'.length<=b.AY.length+1)(h2:∀j∈l',j∈b.AY\/j=e)(hi:e.name.length<=1000/\E1 e.As):Cf {b with AY:=l'} m:=
 ⟨by have:=r.n;simp only;omega,λx=>by have:=r.at_ x;simp only;omega,λx=>by have:=r.data x;simp only;omega,by have:=r.AA;simp only;omega,by have:=r.AY;simp only;omega,by have:=r.tm;simp only;omega,λj hj=>by
  rcases h2 j hj with h|rfl
  .exact r.DD j h
  .exact hi,r.Z4⟩
def JR(r:Cf b (m+4))(hl:E1 l)(hn:nm.length<=1000):Cf (b.DY nm l sp) m:=by
 unfold BS.DY;split
 .rename_i hs;have c:=LC (m:=m+1) (nm:=nm) (sp:=sp) (p:=(b.place 0).1) (r.le Ac) hl;have r2:=c.Iw (LI (x:=b.a.len+1) (p:=(b.place 0).1) (bf:=(b.place 0).2));have ho:(b.E7 nm l sp (b.place 0).1).AA=b.AA:=by unfold BS.E7;rw[Ag hs]
  refine r2.pd (i:=b.Jq nm l sp) (by simp only[Ao,AS];exact Ab _) (λj hj=>?_) (PD hn);rcases Aq.1 hj with h|h
  .exact .inl h
  .exact .inr (by simpa using h)
 .exact r.le Ac
def Us(r:Cf b (m+5))(hl:E1 l)(hn:nm.length<=1000):Cf (b.FY nm l) m:=by
 have c:=JR (m:=m+1) (sp:=1) (nm:=nm) (r.le Ac) hl hn;unfold BS.FY;simp only
 obtain⟨l',h1,h2⟩:=Sj (l:=(b.DY nm l 1).AY) (e:=⟨b.a.len+1,nm,l⟩);rw[h2];refine c.xP (e:=⟨b.a.len+1,nm,l⟩) (by have:=h1.length_le;simp;omega) (λj hj=>?_) ⟨hn,hl⟩;rcases Aq.1 hj with h|h
 .exact .inl (h1.subset h)
 .exact .inr (by simpa using h)
end
end Go.Am
end
