/- Lemmas -/
import Derived.Test.YtdejbjapknkdnaaGreatDoorV17
set_option linter.all false
noncomputable section
set_option maxRecDepth 100000
section
namespace Go.Am
open Go
section
section
variable{U:Type}{z:Nat}
def GI{As:List (List U)}(h:∀r∈As,r.length=z):As.flatten.length=As.length*z:=by
 induction As with
 |nil=>simp
 |cons q As ih=>rw[CF,Ai,h q (by simp),ih λr hr=>h r (by simp[hr]),AE,BD];omega
def bI{As:List (List U)}(h:∀r∈As,r.length=z):∀{k:Nat},As.flatten.take (k*z)=(As.take k).flatten:=by
 induction As with
 |nil=>intro k;simp
 |cons q As ih=>
  intro k;have hq:=h q (by simp);cases k with
  |zero=>simp
  |succ k=>rw[CF,BD,Ez,PL,uU,A7 (by omega),hq,T4,ih λr hr=>h r (by simp[hr])];simp
def I4{As:List (List U)}(h:∀r∈As,r.length=z):∀{k:Nat},As.flatten.drop (k*z)=(As.drop k).flatten:=by
 induction As with
 |nil=>intro k;simp
 |cons q As ih=>
  intro k;have hq:=h q (by simp);cases k with
  |zero=>simp
  |succ k=>rw[CF,BD,Ez,PL,IV,AH (by omega),hq,T4,ih λr hr=>h r (by simp[hr])];simp
def lZ{As:List (List U)}(h:∀r∈As,r.length=z){k:Nat}(hk:k<As.length)(q:List U):As.flatten.take (k*z)++q++As.flatten.drop (k*z+z)=(As.set k q).flatten:=by
 have e:k*z+z=(k+1)*z:=by rw[BD,Ez]
 rw[e,bI h,I4 h,B0,if_pos hk];simp
def bJ{As:List (List Aa)}(h:∀r∈As,r.length=z):∀{n off:Nat},off+n<=As.length->Cv As.flatten z (off*z) n=(As.drop off).take n:=by
 intro n;induction n with
 |zero=>intro off _;simp[Cv]
 |succ n ih=>
  intro off hl;rw[Cv];have e:off*z+z=(off+1)*z:=by rw[BD,Ez]
  rw[e,ih (by omega),I4 h];have hlt:off<As.length:=by omega
  rw[Ap hlt,CF,A0 (by rw[h _ (Ay hlt)];exact Ab _),A7 (by rw[h _ (Ay hlt)];exact Ab _),PE]
def wq{As:List (List Aa)}(h:∀r∈As,r.length=z):Cv As.flatten z 0 As.length=As:=by have:=bJ h (n:=As.length) (off:=0) (by omega);simpa using this
end
section
variable{h:Ae}{id z n:Nat}{As:List (List Aa)}
def Og(hr:∀r∈As,r.length=z)(hc:h[id]?=some (.cells As.flatten)):Lt h (.C7 id 0 As.length z)=some (h.set id .DD,.sl z As):=by unfold Lt;simp only[hc,By];rw[if_pos (by rw[GI hr];exact Ab _),wq hr]
def Gy{k:IntKind}{i:Nat}(hi:i<n):Az (.F0 z) [.C7 id 0 n z,.int k (i:Int)]=some (.ptr (some (id,i*z))):=by
 have:MA (i:Int) n=some i:=by unfold MA;rw[if_pos (by omega)];rfl
 simp[Az,elemOf,this]
def VD(hr:∀r∈As,r.length=z)(hc:h[id]?=some (.cells As.flatten)){i:Nat}(hi:i<As.length){q:List Aa}(hq:q.length=z):CR h z (.ptr (some (id,i*z))) (.agg q)=some (h.set id (.cells (As.set i q).flatten)):=by
 simp only[CR,hc,Q2];have:i*z+z<=As.flatten.length:=by rw[GI hr];have:=Ee z (show i+1<=As.length by omega);rwa [BD,Ez] at this
 rw[<-lZ hr hi];exact if_pos ⟨hq,this⟩
def mA(hr:∀r∈As,r.length=z){i:Nat}{q:List Aa}(hq:q.length=z):∀r∈As.set i q,r.length=z:=by
 intro r h;rcases Dm h with h|rfl
 .exact hr r h
 .exact hq
def ML{U:Type}{f:U->List Aa}(hf:∀a,(f a).length=z)(l:List U):∀r∈l.map f,r.length=z:=by intro r h;obtain⟨a,_,rfl⟩:=Bb.1 h;exact hf a
def Qg{s v:Aa}{b:Nat}(hs:s= .slnil\/s= .sl z [])(a:Br z As v)(hne:As≠[])(hb:As.length*b<=AN):KP h z b s v=some (h++[.cells As.flatten],.C7 h.length 0 As.length z):=by
 rcases a with rfl|⟨rfl,a⟩
 .cases As with
  |nil=>exact absurd rfl hne
  |cons r As=>rw[AE] at hb;rcases hs with rfl|rfl<;>simp[KP,OC,hb]
 .exact absurd a hne
def mB{s v:Aa}{b:Nat}(hs:s= .slnil\/s= .sl z [])(a:Br z [] v):KP h z b s v=some (h,s):=by rcases a with rfl|⟨rfl,a⟩<;>rcases hs with rfl|rfl<;>simp[KP,OC]
def OW{v:Aa}{b:Nat}{r2:List (List Aa)}(hr:∀r∈As,r.length=z)(hz:0<z)(hc:h[id]?=some (.cells As.flatten))(a:Br z r2 v)(hne:r2≠[])(hb:(As.length+r2.length)*b<=AN):
  Gt h z b (.C7 id 0 As.length z) v=some (h.set id .DD++[.cells (As++r2).flatten],.C7 h.length 0 (As.length+r2.length) z):=by
 rcases a with rfl|⟨rfl,a⟩
 .cases r2 with
  |nil=>exact absurd rfl hne
  |cons r r2=>
   have hl:=GI hr;have h1:¬(0+(As.length+(r::r2).length)*z<=As.flatten.length):=by rw[hl,AE,By,BD,BD];omega
   have h2:As.flatten.take (As.length*z)=As.flatten:=A7 (by rw[hl];exact Ab _);unfold Gt;simp only[GX,BM,hc];rw[if_neg h1,if_pos ⟨trivial,by rw[hl];exact Ab _,hb⟩,h2,Ld]
 .exact absurd a hne
end
end
section
section
end
def CM:List Ad:=[[97],[98],[98,105,103],[99,111,100,101],[101,109],aYY,[105],aXk,[115],aYO,aYB,aYC,[116,116],[117]]
def FD:List Ad:=[[100,100],[100,116],[108,105],aXC,aXb,[112],[114,98],[114,112],[114,116],aYf]
def Q4:List Ad:=[aXl,aXu,aXK,[116,100],aXH,[116,104],aXL,[116,114]]
def KX:List Ad:=[[109,105],[109,110],[109,111],[109,115],[109,116,101,120,116]]
def Q5:List Ad:=[aYJ,aXB,aW4]
section
end
def Da:List Ad:=[[104,49],[104,50],[104,51],[104,52],[104,53],[104,54]]
def Dj(k:Int)(s:Ad):Bool:=
 if k=3 then decide (s=aW5\/s∈KX) else if k=2 then decide (s∈Q5) else if k=1 then decide (s∈Of) else false
def sw(s:Ad)(t e:IT):List Ad->IT
 |[]=>e
 |c::cs=> .op (.str .eql) [.str s,.str c] λv=> .AJ v t (sw s t e cs)
def wv{C:FT}{Q:KE}{h:Ae}{s:Ad}{t e:IT}:∀{cs:List Ad},W C (sw s t e cs) Q h↔(s∈cs->W C t Q h)/\(s∉cs->W C e Q h)
 |[]=>by simp[sw]
 |c::cs=>by
  simp only[sw,XV,wI,LC,Oe,XW,Aw,not_or];rw[wv];by_cases hc:s=c;.simp[hc]
  .simp[hc]
def PJ{C:FT}{f:FuncId}{args:List Aa}{r:Aa}:L4 C f args r↔W C (B7 C f args) (λx vs _=>x= .ret/\vs=[r]) []:=by
 unfold L4 Ev;constructor;.exact λh=>W.mono h λ_ _ _ ⟨h1,r,h2,h3⟩=>⟨h1,by rw[h2,h3]⟩
 .exact λh=>W.mono h λ_ _ _ ⟨h1,h2⟩=>⟨h1,r,h2,rfl⟩
section
variable{Q:KE}{h:Ae}{k:Aa->IT}{s:Ad}
end
section
variable{Q:KE}{h:Ae}{k:Aa->IT}{s:Ad}{n:Int}
end
section
variable{Q:KE}{h:Ae}{k:Aa->IT}{s:Ad}{n:Int}
end
end
section
def ZG{cur:Ad}:Eb cur []=[cur]:=by unfold Eb;rfl
def Ya{cur r:Ad}{c:UInt8}:Eb cur (c::r)=if c=32 then cur::Eb [] r else Eb (cur++[c]) r:=by rw[Eb]
def Je(l s:Ad):Bool:=decide (s≠[]/\(32:UInt8)∉s/\s∈Eb [] l)
def mC{s:Ad}{a n:Nat}(ha:a<=n)(hn:n<s.length):(s.take (n+1)).drop a=(s.take n).drop a++[s[n]]:=by rw[AV hn,Oz (by simp;omega)]
end
section
def HR{l:Ad}{ws:List Ad}{s:Ad}(h1:Eb [] l=ws)(h2:ws.all (λw=> !w.isEmpty&& !w.contains 32)=true):Je l s=decide (s∈ws):=by
 unfold Je;rw[h1,DX];refine⟨λh=>h.2.2,λh=>⟨?_,?_,h⟩⟩;.have:=Dc.1 h2 s h;rintro rfl;simp at this
 .have:=Dc.1 h2 s h;intro h3;simp[h3] at this
section
variable{Q:KE}{h:Ae}{k:Aa->IT}{s:Ad}
def rG:Je aWN s=decide (s∈Of):=HR (by decide+kernel) (by decide+kernel)
def eJ:Je aXD s=decide (s∈KX):=HR (by decide+kernel) (by decide+kernel)
def mD:Je aXj s=decide (s∈Q5):=HR (by decide+kernel) (by decide+kernel)
def Oh:List Ad:=Eb [] aWO
def Oi:List Ad:=Eb [] aWM
def OX:List Ad:=[aWS,aXa,aWU]
def ku:Je aXy s=decide (s∈OX):=HR (by decide+kernel) (by decide+kernel)
def MM:List Ad:=[aXC,aXb]
def rH:Je aXe s=decide (s∈MM):=HR (by decide+kernel) (by decide+kernel)
def Sf:List Ad:=[[111,108],[117,108]]
def wz:Je aYP s=decide (s∈Sf):=HR (by decide+kernel) (by decide+kernel)
def Ml:List Ad:=[aYg,aXl,aWS,aX6,aYl,aXa,[116,100],aWU,[116,104]]
def kx:Je aWP s=decide (s∈Ml):=HR (by decide+kernel) (by decide+kernel)
end
section
variable{Q:KE}{h:Ae}{k:Aa->IT}{s:Ad}{n:Int}
end
end
section
def JZ(c:UInt8):UInt8:=if 65<=c.toNat/\c.toNat<=90 then c+32 else c
def ET(s:Ad):Ad:=s.map JZ
def eK{c:UInt8}(h:65<=c.toNat/\c.toNat<=90):((JZ c).toNat:Int)=(c.toNat:Int)+32:=by
 unfold JZ;rw[if_pos h,UInt8.toNat_add];have:UInt8.toNat 32=32:=by decide
 rw[this];omega
def Tj{c:UInt8}(h:¬(65<=c.toNat/\c.toNat<=90)):JZ c=c:=by unfold JZ;rw[if_neg h]
def rI{s:Ad}{n:Nat}(hn:n<s.length):ET (s.take (n+1))=ET (s.take n)++[JZ s[n]]:=by rw[AV hn];unfold ET;rw[Cb];rfl
def Pv(b:UInt8):Aa:= .int .u8 (b.toNat:Int)
def HS(s:Ad)(n:Nat):Ad:=ET (s.take n)++s.drop n
def Yb(s:Ad)(n:Nat):(HS s n).length=s.length:=by simp[HS,ET];omega
def Yc{s:Ad}{n:Nat}(hn:n<s.length):(HS s n)[n]?=some s[n]:=by unfold HS ET;rw[Bi (by simp;omega)];simp only[Ao,Av,BG (Va hn),DM];rw[Ap hn];rfl
def Tk{s:Ad}{n:Nat}(hn:n<s.length):HS s (n+1)=(HS s n).set n (JZ s[n]):=by
 unfold HS;rw[rI hn,BI _ _ (by simp[ET];omega)];have e:n-(ET (s.take n)).length=0:=by simp[ET];omega
 rw[e,Ap hn,jN,AT];rfl
def mE(s:Ad):HS s s.length=ET s:=by simp[HS,ET]
def Tl{U:Type}{l:List U}{i:Nat}{v:U}(h:l[i]?=some v):l.set i v=l:=by
 apply RT;intro j;rw[aRT];split
 .rename_i e;subst e;split;.exact h.symm
  .rename_i hl;rw[D4 (by omega)]
 .rfl
def rJ{cs:List Aa}{i:Nat}{v:Aa}(h:cs[i]?=some v):Bg [.cells cs] none (.ptr (some (0,i)))=some v:=by simpa[Bg] using h
def ZH{U:Type}{l:List U}{i:Nat}{v:U}(h:i<l.length):l.take i++v::l.drop (i+1)=l.set i v:=by rw[B0,if_pos h]
def mF{cs:List Aa}{i:Nat}{v:Aa}(h:i<cs.length)(a:v.cells=[v]):CR [.cells cs] 1 (.ptr (some (0,i))) v=some [.cells (cs.set i v)]:=by simp only[CR,a,IX,AR];rw[if_pos ⟨trivial,by omega⟩,<-ZH h];simp
def Qh(s:Ad):∀(n o:Nat),o+n=s.length->Cv (s.map Pv) 1 o n=C2 (s.drop o)
 |0,o,h=>by rw[AH (by omega)];rfl
 |n+1,o,h=>by
  have ho:o<s.length:=by omega
  have e:(s.map Pv).drop o=Pv s[o]::(s.map Pv).drop (o+1):=by rw[Ap (by simpa using ho)];simp
  rw[Cv,Qh s n (o+1) (by omega),Ap ho,e];rfl
end
section
def DS(name:Ad):List Ad->Ad
 |[]=>name
 |w::ws=>if ET w=name then w else DS name ws
def B1(w:Ad):List Aa:=[.str w]
def Ux:Ad:=aWO
def Uy:Ad:=aWM
end
section
structure A9 where
 AX:Int
 name:Ad
 value:Ad
 deriving DecidableEq
def A9.row(a:A9):List Aa:=[.int .i64 a.AX,.str a.name,.str a.value]
structure Item where
 node:Int
 AX:Int
 name:Ad
 Qi:Bool
 deriving DecidableEq
def Item.row(a:Item):List Aa:=[.int .i64 a.node,.int .i64 a.AX,.str a.name,.bool a.Qi]
def HT(ns:List Ad)(v:Aa):Prop:=Br 1 (ns.map B1) v
def Bj(l:List A9)(v:Aa):Prop:=Br 3 (l.map A9.row) v
def DK(l:List Item)(v:Aa):Prop:=Br 4 (l.map Item.row) v
def wK(l:List A9):Prop:=l.length<=12/\∀x∈l,x.name.length<=60/\x.value.length<=200
instance(l:List A9):Decidable (wK l):=by unfold wK;infer_instance
def w_(l:List Ad):Prop:=l.length<=12/\∀x∈l,x.length<=60
instance(l:List Ad):Decidable (w_ l):=by unfold w_;infer_instance
def wL(l:List Item):Prop:=l.length<=60/\∀x∈l,x.name.length<=60
instance(l:List Item):Decidable (wL l):=by unfold wL;infer_instance
end
section
def Cg{U:Type}(p:U->Bool)(n:Nat):List U->Int
 |[]=> -1
 |a::l=>if p a then(n:Int) else Cg p (n+1) l
def GJ{U:Type}{p:U->Bool}:∀{l:List U} {k:Nat},(Cg p k l= -1/\l.find? p=none)\/∃(n:Nat) (a:U),Cg p k l=((k+n:Nat):Int)/\l[n]?=some a/\l.find? p=some a
 |[],k=> .inl ⟨rfl,rfl⟩
 |a::l,k=>by
  unfold Cg;by_cases h:p a=true;.exact .inr ⟨0,a,by rw[if_pos h];rfl,rfl,by simp[h]⟩
  .rw[if_neg h];rcases GJ (p:=p) (l:=l) (k:=k+1) with⟨h1,h2⟩|⟨n,b,h1,h2,h3⟩
   .exact .inl ⟨h1,by simp[h,h2]⟩
   .exact .inr ⟨n+1,b,by rw[h1];congr 1;omega,by simpa using h2,by simp[h,h3]⟩
def wM(a:A9):Bool:=decide (a.AX=0/\a.name=aYK)
def Qj{s:Ad}(h:s.all (λc=> !(65<=c.toNat&&c.toNat<=90))=true):ET s=s:=by
 unfold ET;conv=>rhs;rw[<-List.map_id s]
 apply Z7;intro c hc;have:=Dc.1 h c hc;refine Tj λh2=>?_;simp[h2.1,h2.2] at this
abbrev aHI:Ad:=aW5
abbrev wN:Ad:=aYE
abbrev eL:Ad:=aXP
def Q6(n:Int)(s:Ad)(l:List A9):Bool:=
 if n=2 then Dj 2 s else if n≠3 then false else if s≠aHI then false else match l.find? wM with
  |none=>false
  |some a=>decide (ET a.value=wN\/ET a.value=eL)
end
section
section
variable{U:Type}{f:U->List Aa}{l l2:List U}{v v2:Aa}{z b:Nat}{k k2:IntKind}
def Br.Fk(a:Br z (l.map f) v):Az (.len false) [v]=some (.int .i64 (l.length:Int)):=by have:=Br.len a;rwa [Ao] at this
def Br.Dl(a:Br z (l.map f) v){n:Nat}(hn:n<l.length):Az (.F0 z) [v,.int k (n:Int)]=some (.B4 (f l[n])):=by have:=Br.F0 a (k:=k) (n:=n) (by simpa using hn);simpa using this
def Br.Tm(a:Br z (l.map f) v){n:Nat}(hn:n<=l.length):∃u,Az (.PQ z false false true) [v,.int k (n:Int)]=some u/\Br z ((l.take n).map f) u:=by
 rcases a with rfl|⟨rfl,h⟩
 .have c:Ex (n:Int) (l.map f).length=some n:=by unfold Ex;rw[Ao,if_pos (by omega)];rfl
  refine⟨.sl z ((l.map f).take n),?_,.inl (by rw[Hr])⟩;simp only[Az,I0,DI,c,BF,oQ,BM,Kz]
 .have:l=[]:=by simpa using h
  subst this;have:n=0:=by simpa using hn
  subst this;exact⟨.slnil,rfl,.inr ⟨rfl,rfl⟩⟩
def Br.wO(a:Br z (l.map f) v){n:Nat}(hn:n<=l.length):∃u,Az (.PQ z false true false) [v,.int k (n:Int)]=some u/\Br z ((l.drop n).map f) u:=by
 rcases a with rfl|⟨rfl,h⟩
 .have c:Ex (n:Int) (l.map f).length=some n:=by unfold Ex;rw[Ao,if_pos (by omega)];rfl
  refine⟨.sl z ((l.map f).drop n),?_,.inl (by rw[LV])⟩;simp only[Az,I0,DI,c,BF,oQ,BM,Bf]
 .have:l=[]:=by simpa using h
  subst this;have:n=0:=by simpa using hn
  subst this;exact⟨.slnil,rfl,.inr ⟨rfl,rfl⟩⟩
def Br.rK(a:Br z (l.map f) v)(Ws:Br z (l2.map f) v2)(hb:(l.length+l2.length)*b<=AN):∃u,Az (.append z b) [v,v2]=some u/\Br z ((l++l2).map f) u:=by obtain⟨u,e,hu⟩:=Br.J9 a Ws (b:=b) (by simpa using hb);exact⟨u,e,by rwa [Cb]⟩
def Br.eM(Ws:Br z (l2.map f) v2)(hb:l2.length*b<=AN):∃u,Az (.append z b) [.slnil,v2]=some u/\Br z (l2.map f) u:=by obtain⟨u,e,hu⟩:=Br.J9 (v:= .slnil) (r:=[]) .nil Ws (b:=b) (by simpa using hb);exact⟨u,e,by simpa using hu⟩
def Br.mG{a:U}(c:Br z (l.map f) v)(hb:(l.length+1)*b<=AN):Az (.append z b) [v,.sl z [f a]]=some (.sl z ((l++[a]).map f)):=by rw[Br.aMk c (by simpa using hb)];simp
end
def D1{a b:Int}(h1: -9223372036854775808<=a-b)(h2:a-b<9223372036854775808):Az (.int .sub) [.int .i64 a,.int .i64 b]=some (.int .i64 (a-b)):=by rw[rE,wrap_i64 h1 h2]
def Tn{a b:Int}(h1: -9223372036854775808<=a+b)(h2:a+b<9223372036854775808):Az (.int .add) [.int .i64 a,.int .i64 b]=some (.int .i64 (a+b)):=by rw[rD,wrap_i64 h1 h2]
def Item.zero:Item:=⟨0,0,[],false⟩
def Item.Es{a:Item}:a.row.length=4:=rfl
def Item.g0{a:Item}{d:Aa}:a.row.getD 0 d= .int .i64 a.node:=rfl
def Item.g1{a:Item}{d:Aa}:a.row.getD 1 d= .int .i64 a.AX:=rfl
def Item.g2{a:Item}{d:Aa}:a.row.getD 2 d= .str a.name:=rfl
def Item.g3{a:Item}{d:Aa}:a.row.getD 3 d= .bool a.Qi:=rfl
def Item.at0{a:Item}:a.row[0]?=some (.int .i64 a.node):=rfl
def Item.Oj{a:Item}:a.row.take 4=a.row:=rfl
def Item.xa{a:Item}:a.row.drop 1=[.int .i64 a.AX,.str a.name,.bool a.Qi]:=rfl
def Item.aHK{a:Item}:a.row.drop 2=[.str a.name,.bool a.Qi]:=rfl
def Item.aHL{a:Item}:a.row.drop 3=[.bool a.Qi]:=rfl
def Item.Wb{a:Item}:[Aa.int .i64 a.node,.int .i64 a.AX,.str a.name,.bool a.Qi]=a.row:=rfl
def Item.fill{a:Item}:B6 [.int .i64 0,.int .i64 0,.str [],.bool false] ([(0,1),(1,1),(2,1),(3,1)].zip a.row)=some a.row:=rfl
def KG:=ai @Item.fill (ai @Item.Es (ai @Item.g0 (ai @Item.g1 (ai @Item.g2 (ai @Item.g3 (ai @Item.at0 (ai @Item.Oj (ai @Item.xa (ai @Item.aHK (ai @Item.aHL (ai @Item.Wb (ai @Fu (@A8.{0})))))))))))))
def DT(l:List Item)(i:Int):Item:=if 0<=i then l.getD i.toNat Item.zero else Item.zero
def En(l:List Item):Item:=DT l ((l.length:Int)-1)
def Ax{U:Type}(q:U->Bool)(l:List U):Int:=match l.reverse.findIdx? q with
 |some k=>(l.length:Int)-1 -k
 |none=> -1
def LD{U:Type}{q:U->Bool}:Ax q []= -1:=rfl
def FI{U:Type}{q:U->Bool}{l:List U}{a:U}:Ax q (l++[a])=if q a then(l.length:Int) else Ax q l:=by
 unfold Ax;rw[DZ,Fm,FF,aPZ];by_cases h:q a=true;.simp only[h,BM,Ai,AR];omega
 .simp only[h,DU,Cp,Ai,AR];cases List.findIdx? q l.reverse with
  |none=>rfl
  |some k=>simp only[BF];omega
def OY{U:Type}{q:U->Bool}{l:List U}{n:Nat}(hn:n<l.length):Ax q (l.take (n+1))=if q l[n] then(n:Int) else Ax q (l.take n):=by rw[AV hn,FI,Av,BG (Va hn)]
def B8{U:Type}{q:U->Bool}{l:List U}:(Ax q l= -1/\∀a∈l,q a=false)\/∃(n:Nat) (hn:n<l.length),Ax q l=(n:Int)/\q l[n]=true/\∀m (hm:m<l.length),n<m->q l[m]=false:=by
 have key:∀r:List U,(Ax q r.reverse= -1/\∀a∈r.reverse,q a=false)\/∃(n:Nat) (hn:n<r.reverse.length),Ax q r.reverse=(n:Int)/\q r.reverse[n]=true/\∀m (hm:m<r.reverse.length),n<m->q r.reverse[m]=false:=by
  intro r;induction r with
  |nil=>exact .inl ⟨rfl,by simp⟩
  |cons a r ih=>
   rw[EA,FI];by_cases h:q a=true;.refine .inr ⟨r.reverse.length,by simp,by rw[if_pos h],by simp[h],λm hm hlt=>?_⟩;simp at hm hlt;omega
   .rw[if_neg h];rcases ih with⟨h1,h2⟩|⟨n,hn,h1,h2,h3⟩
    .exact .inl ⟨h1,λb hb=>by
      rcases Aj.1 hb with hb|hb
      .exact h2 b hb
      .simp at hb;subst hb;simpa using h⟩
    .refine .inr ⟨n,by simp at hn⊢;omega,h1,by rw[SG hn];exact h2,λm hm hlt=>?_⟩;by_cases XC:m<r.reverse.length;.rw[SG XC];exact h3 m XC hlt
     .have:m=r.reverse.length:=by simp at hm XC⊢;omega
      subst this;simpa using h
 have:=key l.reverse;rwa [Ds] at this
def At(h:Ae)(id o:Nat)(v:Aa):Prop:=∃cs,h[id]?=some (.cells cs)/\cs[o]?=some v
def put(h:Ae)(id o:Nat)(u:Aa):Ae:=match h[id]? with
 |some (.cells cs)=>h.set id (.cells (cs.set o u))
 |_=>h
section
variable{h t:Ae}{id o:Nat}{u v w:Aa}
def Io{cs:List Aa}(hc:h[id]?=some (.cells cs)):put h id o u=h.set id (.cells (cs.set o u)):=by unfold put;rw[hc]
def Mm:(put h id o u).length=h.length:=by unfold put;split<;>simp
def At.lt(ha:At h id o v):id<h.length:=by obtain⟨cs,hc,_⟩:=ha;exact(Af.1 hc).1
def At.load(ha:At h id o v):Bg h none (.ptr (some (id,o)))=some v:=by obtain⟨cs,hc,e⟩:=ha;simp only[Bg,hc,FQ,e]
def At.store(ha:At h id o v)(hu:u.cells=[u]):CR h 1 (.ptr (some (id,o))) u=some (put h id o u):=by
 obtain⟨cs,hc,e⟩:=ha;have hl:=(Af.1 e).1;rw[Io hc];simp only[CR,hc,hu,AR,M9];have a:cs.set o u=cs.take o++[u]++cs.drop (o+1):=by rw[B0,if_pos hl];simp
 rw[if_pos (show o+1<=cs.length by omega),a]
def At.put(ha:At h id o v):At (put h id o u) id o u:=by obtain⟨cs,hc,e⟩:=ha;have hl:=(Af.1 e).1;have hi:=(Af.1 hc).1;rw[Io hc];exact⟨cs.set o u,by simp[hi],by simp[hl]⟩
def At.same(ha:At h id o v):Am.put h id o v=h:=by obtain⟨cs,hc,e⟩:=ha;obtain⟨hl,e⟩:=Af.1 e;obtain⟨hi,a⟩:=Af.1 hc;rw[Io hc,<-e,JR,<-a,JR]
def eO:Am.put (Am.put h id o u) id o w=Am.put h id o w:=by
 cases hc:h[id]? with
 |none=>
  have e:∀u,Am.put h id o u=h:=λu=>by unfold Am.put;rw[hc]
  rw[e,e]
 |some x=>cases x with
  |cells cs=>have hi:=(Af.1 hc).1;rw[Io hc,Io hc,Io (cs:=cs.set o u) (by simp[hi])];simp
  |_=>
   have e:∀u,Am.put h id o u=h:=λu=>by unfold Am.put;rw[hc]
   rw[e,e]
def At.J9(ha:At h id o v):At (h++t) id o v:=by obtain⟨cs,hc,e⟩:=ha;exact⟨cs,by rw[Ah (Af.1 hc).1];exact hc,e⟩
def eQ(ha:At h id o v):Am.put (h++t) id o u=Am.put h id o u++t:=by have hi:=ha.lt;obtain⟨cs,hc,e⟩:=ha;rw[Io hc,Io (by rw[Ah hi];exact hc),aKf _ _ hi]
def CW{i:Nat}(hn:i≠id):(Am.put h id o u)[i]?=h[i]?:=by
 unfold Am.put;split;.rw[Al (Dd hn)]
 .rfl
end
def ky(h:Ae)(p:Aa)(l:List Item):Prop:=(p= .ptr none/\l=[])\/∃id o v,p= .ptr (some (id,o))/\At h id o v/\DK l v
def HD{l:List Item}{n:Nat}(hn:n<l.length):DT l (n:Int)=l[n]:=by
 have:(0:Int)<=(n:Int):=by omega
 simp[DT,this,hn]
def Yd{l:List Item}{i:Int}(h:i<0\/(l.length:Int)<=i):DT l i=Item.zero:=by
 unfold DT;rcases h with h|h
 .rw[if_neg (by omega)]
 .rw[if_pos (by omega),AG,D4 (by omega)];rfl
section
variable{h:Ae}{p:Aa}{l:List Item}
def ļ{s:Ad}{ws:List Ad}:decide (0<=Cg (λw=>decide (s=w)) 0 ws)=decide (s∈ws):=by
 rcases GJ (p:=λw=>decide (s=w)) (l:=ws) (k:=0) with⟨h1,h2⟩|⟨n,a,h1,h2,h3⟩
 .rw[h1,DX];have:=Mb.1 h2;exact⟨λh=>by omega,λh=>absurd (show s=s from rfl) (by simpa using this s h)⟩
 .rw[h1,DX];have e:s=a:=by simpa using VP h3
  have:a∈ws:=Cx h2;refine⟨λ_=>e▸this,λ_=>by omega⟩
def AA(ws:List Ad)(a:Item):Bool:=decide (a.AX=1/\a.name∈ws)
def CO{ws:List Ad}:HT ws (.sl 1 (ws.map B1)):= .mk
def Gg(n:Int)(a:Item):Bool:=
 if n=4 then AA OX a else if n=5 then !AA MM a else if a.AX=3\/a.AX=2 then Dj a.AX a.name
 else AA Ml a||(decide (n=2)&&AA Sf a)||(decide (n=3)&&AA [aWV] a)
def Ef{ws:List Ad}{args:List Aa}(e:args=ws.map Aa.str)(h:ws.length<=16777216):Az (.Cl 1) args=some (.sl 1 (ws.map B1)):=by
 subst e;have g:(ws.map Aa.str).all (λa=>a.cells.length==1)=true:=by simp
 have c:(ws.map Aa.str).map (·.cells)=ws.map B1:=by simp[B1]
 rw[wJ,g,c];simp[h]
def rL:Az (.Cl 1) [S aWS,S aXa,S aWU]=some (.sl 1 (OX.map B1)):=Ef (ws:=OX) rfl (by decide)
def mH:Az (.Cl 1) [S aXC,S aXb]=some (.sl 1 (MM.map B1)):=Ef (ws:=MM) rfl (by decide)
def kz:Az (.Cl 1) [S [111,108],S [117,108]]=some (.sl 1 (Sf.map B1)):=Ef (ws:=Sf) rfl (by decide)
def rM:Az (.Cl 1) [S aYg,S aXl,S aWS,S aX6,S aYl,S aXa,S [116,100],S aWU,S [116,104]]=some (.sl 1 (Ml.map B1)):=Ef (ws:=Ml) rfl (by decide)
def k_:Az (.Cl 1) [S aWV]=some (.sl 1 ([aWV].map B1)):=Ef (ws:=[aWV]) rfl (by decide)
def Hc{U:Type}(q e:U->Bool):List U->Bool
 |[]=>false
 |a::r=>if q a then true else if e a then false else Hc q e r
def rN{U:Type}{q e:U->Bool}(l:List U)(b:Bool):(if h:0<=Ax (λa=>q a||e a) l/\(Ax (λa=>q a||e a) l).toNat<l.length then q (l[(Ax (λa=>q a||e a) l).toNat]'h.2) else false)=Hc q e l.reverse:=by
 have key:∀r:List U,(if h:0<=Ax (λa=>q a||e a) r.reverse/\(Ax (λa=>q a||e a) r.reverse).toNat<r.reverse.length then q (r.reverse[(Ax (λa=>q a||e a) r.reverse).toNat]'h.2) else false)=Hc q e r:=by
  intro r;induction r with
  |nil=>simp[Hc,LD]
  |cons a r ih=>
   simp only[EA,Hc];have c:=FI (q:=λa=>q a||e a) (l:=r.reverse) (a:=a);by_cases hq:q a=true
   .rw[if_pos (by simp[hq])] at c;have g:(Ax (λa=>q a||e a) (r.reverse++[a])).toNat=r.reverse.length:=by rw[c];omega
    simp only[g];rw[oR ⟨by rw[c];omega,by simp⟩];simp[hq]
   .by_cases he:e a=true
    .rw[if_pos (by simp[he])] at c;have g:(Ax (λa=>q a||e a) (r.reverse++[a])).toNat=r.reverse.length:=by rw[c];omega
     simp only[g];rw[oR ⟨by rw[c];omega,by simp⟩];simp[hq,he]
    .rw[if_neg (by simp[hq,he])] at c;simp only[hq,he,DU,Cp,<-ih,c];rcases B8 (q:=λa=>q a||e a) (l:=r.reverse) with⟨h1,h2⟩|⟨n,hn,h1,h2,h3⟩
     .simp[h1]
     .have i:(0:Int)<=(n:Int)/\(n:Int).toNat<r.reverse.length:=⟨by omega,by simpa using hn⟩;have j:(0:Int)<=(n:Int)/\(n:Int).toNat<(r.reverse++[a]).length:=⟨by omega,by simp at hn⊢;omega⟩;simp only[h1];rw[oR i,oR j,SG i.2]
 have:=key l.reverse;rwa [Ds] at this
def HT.cells{v:Aa}{ws:List Ad}(a:HT ws v):v.cells=[v]:=Br.cells a
def Bq(node:Int)(a:Item):Bool:=decide (a.node=node)
end
end
section
section
variable{h:Ae}{p v:Aa}{l:List Item}
def lf{n s:Int}{t:Ad}{b:Bool}:Az (.CT [I 0,I 0,S [],ff] [(0,1),(1,1),(2,1),(3,1)]) [.int .i64 n,.int .i64 s,.str t,.bool b]=some (.agg (Item.row ⟨n,s,t,b⟩)):=by simp only[Ce];rfl
def xb{a:Item}:Az (.Cl 4) [.agg a.row]=some (.sl 4 [a.row]):=X9 rfl (by decide)
def Mn(h:Ae)(id o:Nat)(l:List Item):Prop:=∃v,At h id o v/\DK l v
def Mn.at{id o:Nat}(hs:Mn h id o l):ky h (.ptr (some (id,o))) l:=let⟨v,h1,h2⟩:=hs; .inr ⟨id,o,v,rfl,h1,h2⟩
def DK.cells(a:DK l v):v.cells=[v]:=Br.cells a
def AL(a:Item):Bool:=Dj a.AX a.name
def D6(node:Int)(l:List Item):Int:=if Ax (Bq node) l<0 then -1 else match(l.drop ((Ax (Bq node) l).toNat+1)).findIdx? AL with
 |some k=>Ax (Bq node) l+1+k
 |none=> -1
def FX{U:Type}(q:U->Bool)(l:List U)(n:Nat):Int:=match(l.drop n).findIdx? q with
 |some k=>(n:Int)+k
 |none=> -1
def ZI{U:Type}{q:U->Bool}{l:List U}{n:Nat}(h:l.length<=n):FX q l n= -1:=by unfold FX;rw[AH h];rfl
def eR{U:Type}{q:U->Bool}{l:List U}{n:Nat}(h:n<l.length):FX q l n=if q l[n] then(n:Int) else FX q l (n+1):=by
 unfold FX;rw[Ap h,aPZ];by_cases hq:q l[n]=true;.simp only[hq,BM];omega
 .simp only[hq,Cp,DU];cases List.findIdx? q (l.drop (n+1)) with
  |none=>rfl
  |some k=>simp only[BF];omega
def LF{node:Int}:D6 node l=if Ax (Bq node) l<0 then -1 else FX AL l ((Ax (Bq node) l).toNat+1):=by
 unfold D6 FX;by_cases h:Ax (Bq node) l<0;.simp only[h,BM]
 .simp only[h,DU];cases(l.drop ((Ax (Bq node) l).toNat+1)).findIdx? AL with
  |none=>rfl
  |some k=>simp only;omega
end
end
section
def Ev.ret{C:FT}{f:FuncId}{args:List Aa}{h:Ae}{R:Aa->Ae->Prop}(hw:Ev C f args h R):∃r h',Cj C f args h r h'/\R r h':=by obtain⟨n,x,vs,h',e,hx,r,a,hR⟩:=hw;exact⟨r,h',⟨n,x,vs,h',e,hx,a,rfl⟩,hR⟩
def Pw(b a:Item->Bool):List Item->List Item
 |x::y::r=>if b x then x::y::r else if a x then y::r else Pw b a (y::r)
 |r=>r
def DN(b a:Item->Bool)(l:List Item):List Item:=(Pw b a l.reverse).reverse
def lg{b a:Item->Bool}{l:List Item}(h:l.length<=1):Pw b a l=l:=by
 match l with
 |[]=>rfl
 |[x]=>rfl
 |x::y::r=>simp at h
def mI{b a:Item->Bool}{l:List Item}(h:l.length<=1):DN b a l=l:=by unfold DN;rw[lg (by simpa using h),Ds]
def Uz{b a:Item->Bool}{l:List Item}{x:Item}(h:1<=l.length):DN b a (l++[x])=if b x then l++[x] else if a x then l else DN b a l:=by
 unfold DN;rw[DZ,Fm,FF];cases hr:l.reverse with
 |nil=>
  have:l=[]:=by simpa using hr
  subst this;simp at h
 |cons y r=>
  have hl:l=r.reverse++[y]:=by rw[<-Ds l,hr,EA]
  rw[Pw];by_cases h1:b x=true;.rw[if_pos h1,if_pos h1];rw[hl];simp
  .rw[if_neg h1,if_neg h1];by_cases h2:a x=true;.rw[if_pos h2,if_pos h2];rw[hl];simp
   .rw[if_neg h2,if_neg h2]
def lj{b a:Item->Bool}{l:List Item}{n:Nat}(hn:n+1<l.length):DN b a (l.take (n+2))=if b l[n+1] then l.take (n+2) else if a l[n+1] then l.take (n+1) else DN b a (l.take (n+1)):=by have e:l.take (n+2)=l.take (n+1)++[l[n+1]]:=AV hn;rw[e,Uz (by rw[Av];omega)]
def eS{b a:Item->Bool}:∀{l:List Item},(DN b a l).length<=l.length:=by
 have key:∀r:List Item,(Pw b a r).length<=r.length:=by
  intro r;induction r with
  |nil=>simp[Pw]
  |cons x r ih=>
   cases r with
   |nil=>simp[Pw]
   |cons y r=>
    rw[Pw];split;.simp
    .split;.simp
     .exact Bn ih (by simp)
 intro l;have:=key l.reverse;simpa[DN] using this
section
variable{h:Ae}{p v:Aa}{l:List Item}
def MN{n:Nat}(hn:n<l.length):En (l.take (n+1))=l[n]:=by
 have e:((l.take (n+1)).length:Int)-1=(n:Int):=by rw[Av];omega
 unfold En;rw[e,HD (by rw[Av];omega)];simp
def Mn.eU{id o:Nat}(hs:Mn h id o l):∃u,h=put h id o u/\DK l u:=by obtain⟨u,hc,hu⟩:=hs;exact⟨u,hc.same.symm,hu⟩
def Mn.lt{id o:Nat}(hs:Mn h id o l):∃v,At h id o v:=let⟨u,hc,_⟩:=hs;⟨u,hc⟩
def Mn.aC2{id o:Nat}{u:Aa}(hlt:∃v,At h id o v)(hu:DK l u):Mn (put h id o u) id o l:=let⟨_,ha⟩:=hlt;⟨u,ha.put,hu⟩
def C8(_:Item):Bool:=false
def Cz(s:Ad)(a:Item):Bool:=decide (a.AX≠1\/a.name∉FD\/a.name=s)
def Eh(a:Item):Bool:=decide (a.AX≠1\/¬(a.name∈Q4\/a.name∈FD))
def GK(node:Int)(l:List Item):List Item:=if Ax (Bq node) l<0 then l else DN C8 (Bq node) l
def Hd(l:List Item)(i:Int):List Item:=l.take (max 1 i.toNat)
def Sg{q:Item->Bool}(l:List Item):DN C8 q l=Hd l (Ax q l):=by
 have key:∀r:List Item,DN C8 q r.reverse=Hd r.reverse (Ax q r.reverse):=by
  intro r;induction r with
  |nil=>rfl
  |cons x r ih=>
   rw[EA,FI];rcases FL r.length with h0|h0
   .have:r=[]:=IY.1 h0;subst this;by_cases hq:q x=true<;>simp[hq,Hd,DN,Pw,LD]
   .have h1:1<=r.reverse.length:=by rw[Lh];omega
    rw[Uz h1];by_cases hq:q x=true;.rw[if_neg (by simp[C8]),if_pos hq,if_pos hq];unfold Hd;rw[Bz,Nat.max_eq_right h1,A0 (Ab _),Bf]
    .rw[if_neg (by simp[C8]),if_neg hq,if_neg hq,ih];unfold Hd;rw[A0];rcases B8 (q:=q) (l:=r.reverse) with⟨a,_⟩|⟨n,hn,a,_⟩<;>rw[a]<;>omega
 have:=key l.reverse;rwa [Ds] at this
def Si{q:Item->Bool}(l:List Item):DN q C8 l=Hd l (Ax q l+1):=by
 have key:∀r:List Item,DN q C8 r.reverse=Hd r.reverse (Ax q r.reverse+1):=by
  intro r;induction r with
  |nil=>rfl
  |cons x r ih=>
   rw[EA,FI];rcases FL r.length with h0|h0
   .have:r=[]:=IY.1 h0;subst this;by_cases hq:q x=true<;>simp[hq,Hd,DN,Pw,LD]
   .have h1:1<=r.reverse.length:=by rw[Lh];omega
    rw[Uz h1];by_cases hq:q x=true;.rw[if_pos hq,if_pos hq];unfold Hd;rw[A7];rw[Ai,AR];omega
    .rw[if_neg hq,if_neg (by simp[C8]),if_neg hq,ih];unfold Hd;rw[A0];rcases B8 (q:=q) (l:=r.reverse) with⟨a,_⟩|⟨n,hn,a,_⟩<;>rw[a]<;>omega
 have:=key l.reverse;rwa [Ds] at this
def VE{node:Int}(l:List Item):GK node l=if Ax (Bq node) l<0 then l else Hd l (Ax (Bq node) l):=by unfold GK;rw[Sg]
end
end
section
section
variable{h:Ae}{p v:Aa}{l:List Item}
def aHM(l:List Item):∀r∈l.map Item.row,r.length=4:=ML (f:=Item.row) (λa=>Item.Es) l
def wQ{n:Nat}(h:n<=2000000000):n*40<=AN:=by have:AN=140737488355328:=rfl;omega
def Bs{U:Type}(l:List U)(k:Nat):List U:=l.take k++l.drop (k+1)
def B9(node:Int)(l:List Item):List Item:=if Ax (Bq node) l<1 then l else Bs l (Ax (Bq node) l).toNat
def HE(i:Int)(n:Nat):Nat:=min (max i 1).toNat n
def Qk(node:Int)(a:Item)(l:List Item):List Item:=if Ax (Bq node) l<1 then l else l.set (Ax (Bq node) l).toNat a
end
end
section
end
section
section
variable{h:Ae}{p v w:Aa}{l:List Item}{ws:List Ad}
end
end
section
def fT:List (Ad×Int×Ad):=[(aXU,4,aYv),(aXS,4,aYt),(aX0,4,aYZ),(aX1,4,aY0),(aX2,4,aY1),(aXW,4,aW4),(aX3,4,aX5),(aYj,5,[108,97,110,103]),(aYa,5,aYS),(aXZ,6,aXZ),(aXX,6,aYL)]
def Ye(x:Ad×Int×Ad):Aa×Aa:=(.str x.1,.agg [.int .i64 x.2.1,.str x.2.2,.str []])
def ft(n:Nat):List (Aa×Aa):=(fT.take n).map Ye
def aHN:NZ aXU (.agg [.int .i64 4,.str aYv,.str []]) (ft 0)=some (ft 1):=by kernel_rfl
def aHO:NZ aXS (.agg [.int .i64 4,.str aYt,.str []]) (ft 1)=some (ft 2):=by kernel_rfl
def aHP:NZ aX0 (.agg [.int .i64 4,.str aYZ,.str []]) (ft 2)=some (ft 3):=by kernel_rfl
def aHQ:NZ aX1 (.agg [.int .i64 4,.str aY0,.str []]) (ft 3)=some (ft 4):=by kernel_rfl
def aHR:NZ aX2 (.agg [.int .i64 4,.str aY1,.str []]) (ft 4)=some (ft 5):=by kernel_rfl
def aHS:NZ aXW (.agg [.int .i64 4,.str aW4,.str []]) (ft 5)=some (ft 6):=by kernel_rfl
def aHT:NZ aX3 (.agg [.int .i64 4,.str aX5,.str []]) (ft 6)=some (ft 7):=by kernel_rfl
def aHU:NZ aYj (.agg [.int .i64 5,.str [108,97,110,103],.str []]) (ft 7)=some (ft 8):=by kernel_rfl
def aHV:NZ aYa (.agg [.int .i64 5,.str aYS,.str []]) (ft 8)=some (ft 9):=by kernel_rfl
def aHW:NZ aXZ (.agg [.int .i64 6,.str aXZ,.str []]) (ft 9)=some (ft 10):=by kernel_rfl
def aC3:NZ aXX (.agg [.int .i64 6,.str aYL,.str []]) (ft 10)=some (ft 11):=by kernel_rfl
def rO{h:Ae}{es:List (Aa×Aa)}{s:Ad}{v:Aa}:Ry (h++[.map es]) (.map (some h.length)) (.str s) v=(NZ s v es).map λes=>h++[.map es]:=by simp[Ry]
def J0(n:Ad):Option (Int×Ad):=(fT.find? λx=>decide (n=x.1)).map (·.2)
def Yf(n:Ad):∀l:List (Ad×Int×Ad),SO n (l.map Ye)=some ((l.find? λx=>decide (n=x.1)).map λx=>(Ye x).2)
 |[]=>rfl
 |x::l=>by
  rw[Bd,H5,Ye,SO];by_cases e:n=x.1;.rw[if_pos e,Ag e];rfl
  .rw[if_neg e,Ak e];exact Yf n l
def MO{h:Ae}{n:Ad}:Po (h++[.map (ft 11)]) (.agg [.int .i64 0,.str [],.str []]) true (.map (some h.length)) (.str n)=
  some (match J0 n with|some (s,m)=> .tuple [.agg [.int .i64 s,.str m,.str []],.bool true]|none=> .tuple [.agg [.int .i64 0,.str [],.str []],.bool false]):=by
 have e:Ue (h++[.map (ft 11)]) (.map (some h.length)) (.str n)=SO n (fT.map Ye):=by simp[Ue,ft,fT]
 rw[Po,e,Yf,J0];cases fT.find? λx=>decide (n=x.1)<;>rfl
abbrev aHX:Ad:=aX9
abbrev aC4:Ad:=aYc
def Nx(sp:Int)(n:Ad):Ad:=if sp=2 then DS n Oi else if sp=3/\n=aHX then aC4 else n
def D2(sp:Int)(a:A9):A9:=
 if sp=2\/sp=3 then match J0 (Nx sp a.name) with
  |some (s,m)=>⟨s,m,a.value⟩
  |none=>⟨0,Nx sp a.name,a.value⟩
 else⟨0,a.name,a.value⟩
def eV(s:Ad):(ET s).length=s.length:=by simp[ET]
def Px(n:Ad):∀ws,DS n ws=n\/(DS n ws∈ws/\ET (DS n ws)=n)
 |[]=> .inl rfl
 |w::ws=>by
  rw[DS];split;.rename_i e;exact .inr ⟨List.mem_cons_self,e⟩
  .rcases Px n ws with h|⟨h1,h2⟩
   .exact .inl h
   .exact .inr ⟨Oy _ h1,h2⟩
def MP{a b c:Aa}:Az (.Cl 3) [.agg [a,b,c]]=some (.sl 3 [[a,b,c]]):=rfl
def A9.Es{a:A9}:a.row.length=3:=rfl
def A9.Oj{a:A9}:a.row.take 3=a.row:=rfl
section
variable{v:Aa}{l:List A9}{h:Ae}
def xc{a b:A9}{neg:Bool}:Az (.geq neg [.i,.s,.s]) [.agg a.row,.agg b.row]=some (.bool (decide (a=b) != neg)):=by
 rw[X4];have:D9 [.i,.s,.s] a.row b.row=some (decide (a=b)):=by simp only[D9,Mz,A9.row,BM,Bx];cases a;cases b;simp only[A9.mk.injEq];rw[LZ];simp
 rw[this];rfl
def ll{k:IntKind}{s:Ad}{a z:Nat}(ha:a<=s.length):Az (.PQ z true true false) [.str s,.int k (a:Int)]=some (.str (s.drop a)):=by
 have c:Ex (a:Int) s.length=some a:=by unfold Ex;rw[if_pos (by omega)];rfl
 simp[Az,I0,DI,c]
end
end
section
structure B2 where
 node:Int
 name:Ad
 Aq:List A9
deriving DecidableEq
structure C9 where
 c:B2
 v:Aa
 ok:Bj c.Aq v
def C9.row(e:C9):List Aa:=[.int .i64 e.c.node,.str e.c.name,e.v]
def EV(l:List C9)(v:Aa):Prop:=Br 3 (l.map C9.row) v
section
variable{e:C9}{d:Aa}
def C9.Es:e.row.length=3:=rfl
def C9.g0:e.row.getD 0 d= .int .i64 e.c.node:=rfl
def C9.g1:e.row.getD 1 d= .str e.c.name:=rfl
def C9.g2:e.row.getD 2 d=e.v:=rfl
def C9.at0:e.row[0]?=some (.int .i64 e.c.node):=rfl
def C9.Oj:e.row.take 3=e.row:=rfl
def C9.xa:e.row.drop 1=[.str e.c.name,e.v]:=rfl
def C9.Wb:[Aa.int .i64 e.c.node,.str e.c.name,e.v]=e.row:=rfl
def C9.aMr:Az (.len false) [e.v]=some (.int .i64 (e.c.Aq.length:Int)):=Br.Fk e.ok
end
def A9.g0{a:A9}{d:Aa}:a.row.getD 0 d= .int .i64 a.AX:=rfl
def A9.g1{a:A9}{d:Aa}:a.row.getD 1 d= .str a.name:=rfl
def A9.g2{a:A9}{d:Aa}:a.row.getD 2 d= .str a.value:=rfl
def A9.Wb{a:A9}:[Aa.int .i64 a.AX,.str a.name,.str a.value]=a.row:=rfl
def bK{n:Nat}(h:n<=2000000000):n*48<=AN:=by have:AN=140737488355328:=rfl;omega
def UA(e:C9):Bool:=decide (e.c.node=0)
def UB(n:Int)(e:C9):Bool:=decide (e.c.node=n)
def since(l:List C9):Int:=Ax UA l+1
def lp:since []=0:=rfl
def rP{l:List C9}{e:C9}:since (l++[e])=if e.c.node=0 then(l.length:Int)+1 else since l:=by unfold since;rw[FI];by_cases h:e.c.node=0<;>simp[UA,h]
def rQ{l:List C9}{n:Nat}(hn:n<l.length):since (l.take (n+1))=if l[n].c.node=0 then(n:Int)+1 else since (l.take n):=by rw[AV hn,rP,Av,BG (Va hn)]
def Sj(l:List C9):∃s:Nat,since l=(s:Int)/\s<=l.length/\(∀m (hm:m<l.length),s<=m->l[m].c.node≠0)/\(∀t,s=t+1->∃ht:t<l.length,l[t].c.node=0):=by
 rcases B8 (q:=UA) (l:=l) with⟨h1,h2⟩|⟨n,hn,h1,h2,h3⟩
 .refine⟨0,by unfold since;rw[h1];rfl,AU _,λm hm _=>?_,λt ht=>by omega⟩;have:=h2 _ (Ay hm);simpa[UA] using this
 .refine⟨n+1,by unfold since;rw[h1];rfl,hn,λm hm EC=>?_,λt ht=>?_⟩;.have:=h3 m hm (by omega);simpa[UA] using this
  .obtain rfl:t=n:=by omega
   exact⟨hn,by simpa[UA] using h2⟩
section
variable{h:Ae}{v:Aa}{l:List C9}{id:Nat}
def wR(name:Ad):List C9->Int
 |[]=> -1
 |e::t=>if e.c.node=0 then -1 else if e.c.name=name then(t.length:Int) else wR name t
def RM(name:Ad)(l:List C9):Int:=wR name l.reverse
def rR{name:Ad}{n:Nat}(hn:n<l.length):RM name (l.take (n+1))=if l[n].c.node=0 then -1 else if l[n].c.name=name then(n:Int) else RM name (l.take n):=by rw[AV hn,RM,DZ,Fm,FF,wR,Lh,Av,BG (Va hn),RM]
def lq{name:Ad}:RM name []= -1:=rfl
def KY(node:Int)(l:List C9):Int:=if node=0 then -1 else Ax (UB node) l
end
section
variable{h:Ae}{v:Aa}{l:List A9}
def L5(a b:B2):Bool:=decide (a.name=b.name/\a.Aq.length=b.Aq.length/\(∀x∈a.Aq,x∈b.Aq)/\∀x∈b.Aq,x∈a.Aq)
def qo(e:C9):Prop:=e.c.Aq.length<=1000000000
end
end
section
mutual
def Aa.To:∀a:Aa,Aa.beq a a=true
 | .bool a=>by simp[Aa.beq]
 | .int k a=>by simp[Aa.beq]
 | .str a=>by simp[Aa.beq]
 | .ptr a=>by simp[Aa.beq]
 | .B4 a=>by simp[Aa.beq,Aa.KZ a]
 | .sl n a=>by simp[Aa.beq,Aa.Yg a]
 | .GB _=>by simp[Aa.beq]
 | .slnil=>by simp[Aa.beq]
 | .C7 a c d e=>by simp[Aa.beq]
 | .map a=>by simp[Aa.beq]
 | .func f a c=>by simp[Aa.beq,Aa.KZ a,Aa.KZ c]
 | .nilFunc=>by simp[Aa.beq]
 | .iface t a=>by simp[Aa.beq,Aa.To a]
 | .nilIface=>by simp[Aa.beq]
 | .agg a=>by simp[Aa.beq,Aa.KZ a]
 | .tuple a=>by simp[Aa.beq,Aa.KZ a]
def Aa.KZ:∀a:List Aa,Aa.SL a a=true
 |[]=>by simp[Aa.SL]
 |a::x=>by simp[Aa.SL,Aa.To a,Aa.KZ x]
def Aa.Yg:∀a:List (List Aa),Aa.SM a a=true
 |[]=>by simp[Aa.SM]
 |a::x=>by simp[Aa.SM,Aa.KZ a,Aa.Yg x]
end
def UC(h:Ae)(id o:Nat)(l:List C9):Prop:=∃u,At h id o u/\EV l u
def EV.cells{l:List C9}{v:Aa}(a:EV l v):v.cells=[v]:=Br.cells a
def UC.lt{h:Ae}{id o:Nat}{l:List C9}(hs:UC h id o l):∃v,At h id o v:=let⟨u,hc,_⟩:=hs;⟨u,hc⟩
def UD(l:List C9):∀r∈l.map C9.row,r.length=3:=ML (f:=C9.row) (λa=>C9.Es) l
section
variable{h:Ae}{v:Aa}{l:List C9}{id:Nat}
def ls{r:List Aa}(h:r.length=3):Az (.Cl 3) [.agg r]=some (.sl 3 [r]):=X9 (a:= .agg r) h (by decide)
def mJ(n:Int)(l:List C9):KY n l= -1\/∃k:Nat,k<l.length/\KY n l=(k:Int):=by
 unfold KY;split;.exact .inl rfl
 .rcases B8 (q:=UB n) (l:=l) with⟨h1,_⟩|⟨k,hk,h1,_⟩
  .exact .inl h1
  .exact .inr ⟨k,hk,h1⟩
def eW:C9:=⟨⟨0,[],[]⟩,.slnil,.nil⟩
def xd:[I 0,S [],Aa.slnil]=eW.row:=rfl
def GL(i:Int)(n:Nat):Nat:=min (max i 0).toNat n
def Ia(l:List C9):Nat:=(since l-1).toNat
end
end
section
def Ľ(e:B2):List C9->Nat
 |[]=>0
 |x::t=>if x.c.node=0 then 0 else Ľ e t+(if L5 x.c e=true then 1 else 0)
def rS(e:B2):List C9->Int
 |[]=> -1
 |x::t=>if x.c.node=0 then -1 else if 0<=rS e t then rS e t else if L5 x.c e=true then(t.length:Int) else -1
def ZJ(e:B2)(l:List C9):Nat:=Ľ e l.reverse
def Sk(e:B2)(l:List C9):Int:=rS e l.reverse
section
variable{e:B2}{l:List C9}{n s:Nat}
def bL(hn:n<l.length):ZJ e (l.take (n+1))=if l[n].c.node=0 then 0 else ZJ e (l.take n)+(if L5 l[n].c e=true then 1 else 0):=by rw[AV hn,ZJ,DZ,Fm,FF,Ľ,ZJ]
def bM(hn:n<l.length):Sk e (l.take (n+1))=if l[n].c.node=0 then -1 else if 0<=Sk e (l.take n) then Sk e (l.take n) else if L5 l[n].c e=true then(n:Int) else -1:=by rw[AV hn,Sk,DZ,Fm,FF,rS,Sk,Lh,Av,BG (Va hn)]
def rT(hs:since l=(s:Int)):ZJ e (l.take s)=0/\Sk e (l.take s)= -1:=by
 obtain⟨s',e,h1,h2,h3⟩:=Sj l;obtain rfl:s=s':=by omega
 cases s with
 |zero=>exact⟨rfl,rfl⟩
 |succ t=>obtain⟨ht,h0⟩:=h3 t rfl;exact⟨by rw[bL ht,if_pos h0],by rw[bM ht,if_pos h0]⟩
end
def Sl(e:B2)(l:List C9):List C9:=if e.node≠0/\3<=ZJ e l then Bs l (Sk e l).toNat else l
section
variable{h:Ae}{v:Aa}{l:List C9}{id:Nat}
end
end
section
section
variable{h:Ae}{v:Aa}{l:List C9}{id:Nat}
end
end
end Go.Am
end
section
namespace Go.Am
structure HO where
 kind:Int:=0
 Gq:Int:=0
 Bv:List Int:=[]
 CB:Int:=0
 AX:Int:=0
 name:Ad:=[]
 Aq:List A9:=[]
 data:Ad:=[]
 Ke:Ad:=[]
 sys:Ad:=[]
 DH:Bool:=false
 cont:Int:=0
 E3:Int:=0
deriving DecidableEq
structure Ar where
 n:List HO
 i:List Int
abbrev AF:Ad:=aWU
def eX(x:HO):Prop:=x.kind=4/\x.AX=1/\x.name=AF
instance(x:HO):Decidable (eX x):=by unfold eX;infer_instance
namespace Ar
def len(A:Ar):Int:=A.n.length
def has(A:Ar)(h:Int):Prop:=1<=h/\h<=A.n.length
instance(A:Ar)(h:Int):Decidable (A.has h):=by unfold has;infer_instance
def nd(A:Ar)(h:Int):HO:=if A.has h then A.n.getD (h.toNat-1) {} else{}
def inr(A:Ar)(h:Int):Int:=if A.has h then A.i.getD (h.toNat-1) 0 else 0
def set(A:Ar)(h:Int)(x:HO):Ar:={n:=if A.has h then A.n.set (h.toNat-1) x else A.n,i:=A.i}
def Ok(A:Ar)(h:Int)(x:Int):Ar:={n:=A.n,i:=if A.has h then A.i.set (h.toNat-1) x else A.i}
def add(A:Ar)(x:HO):Ar:={n:=A.n++[x],i:=A.i++[0]}
def up(A:Ar)(h:Int):Int:=if(A.nd h).Gq≠0 then(A.nd h).Gq else(A.nd h).E3
end Ar
section
variable{A:Ar}{h k:Int}{x y:HO}
def Py(a:¬A.has h):A.nd h={}:=by unfold Ar.nd;rw[if_neg a]
def Jr:(A.set h x).n.length=A.n.length:=by simp only[Ar.set];split<;>simp
def ľ:(A.set h x).len=A.len:=by unfold Ar.len;rw[Jr]
def JB:(A.set h x).has k↔A.has k:=by unfold Ar.has;rw[Jr]
def Ko:(A.set h x).nd k=if k=h/\A.has h then x else A.nd k:=by
 unfold Ar.nd;simp only[JB];by_cases hk:A.has k
 .rw[if_pos hk,if_pos hk];simp only[Ar.set];by_cases a:A.has h
  .rw[if_pos a];have h1:=a;have h2:=hk;unfold Ar.has at h1 h2;by_cases e:k=h;.subst e;rw[if_pos ⟨rfl,a⟩,AG,AB (by omega)];rfl
   .rw[if_neg (by simp[e]),AG,Al (by omega),AG]
  .rw[if_neg a,if_neg (by simp[a])]
 .rw[if_neg hk,if_neg hk,if_neg];rintro⟨rfl,h2⟩;exact hk h2
def Tp:(A.set h x).inr k=A.inr k:=by unfold Ar.inr;simp only[JB];rfl
def Q7:(A.add x).len=A.len+1:=by simp[Ar.len,Ar.add]
def Et:(A.add x).has k↔A.has k\/k=A.len+1:=by simp[Ar.has,Ar.add,Ar.len];omega
def L6:(A.add x).nd k=if k=A.len+1 then x else A.nd k:=by
 unfold Ar.nd;simp only[Et];by_cases e:k=A.len+1;.subst e;simp[Ar.add,Ar.len]
 .by_cases hk:A.has k;.rw[if_pos (.inl hk),if_neg e,if_pos hk];unfold Ar.has at hk;simp only[Ar.add,AG];rw[Ah (by omega)]
  .rw[if_neg (by simp[hk,e]),if_neg e,if_neg hk]
def Wz(hl:A.i.length=A.n.length):(A.add x).inr k=A.inr k:=by
 unfold Ar.inr;simp only[Et];by_cases e:k=A.len+1
 .subst e;have:¬A.has (A.len+1):=by unfold Ar.has Ar.len;omega
  rw[if_pos (.inr rfl),if_neg this];simp[Ar.add,Ar.len,<-hl]
 .by_cases hk:A.has k;.rw[if_pos (.inl hk),if_pos hk];unfold Ar.has at hk;simp only[Ar.add,AG];rw[Ah (by omega)]
  .rw[if_neg (by simp[hk,e]),if_neg hk]
def mK:(A.Ok h k).len=A.len:=rfl
def Tq{m:Int}:(A.Ok h m).has k↔A.has k:=rk
def wS{m:Int}:(A.Ok h m).nd k=A.nd k:=by rfl
def Yh{m:Int}(hl:A.i.length=A.n.length):(A.Ok h m).inr k=if k=h/\A.has h then m else A.inr k:=by
 unfold Ar.inr;simp only[Tq];by_cases hk:A.has k
 .rw[if_pos hk,if_pos hk];simp only[Ar.Ok];by_cases a:A.has h
  .rw[if_pos a];have h1:=a;have h2:=hk;unfold Ar.has at h1 h2;by_cases e:k=h;.subst e;rw[if_pos ⟨rfl,a⟩,AG,AB (by omega)];rfl
   .rw[if_neg (by simp[e]),AG,Al (by omega),AG]
  .rw[if_neg a,if_neg (by simp[a])]
 .rw[if_neg hk,if_neg hk,if_neg];rintro⟨rfl,h2⟩;exact hk h2
end
def Fq(a:A9):Int×Ad:=(a.AX,a.name)
def Gu(out:List A9):List A9->List A9
 |[]=>out
 |x::l=>if out.any (λy=>decide (Fq x=Fq y)) then Gu out l else Gu (out++[x]) l
def Di(l:List A9):List A9:=Gu [] l
def Sn:∀{l out:List A9},(out.map Fq).Nodup->((Gu out l).map Fq).Nodup
 |[],_,h=>h
 |x::l,out,h=>by
  rw[Gu];split;.exact Sn h
  .rename_i hn;refine Sn ?_;rw[Cb,BU];refine⟨h,by simp,?_⟩;rintro a ha b hb rfl;simp at hb;subst hb;simp at ha hn;obtain⟨y,hy,e⟩:=ha;exact hn y hy e.symm
def mL:∀{l out:List A9},((out++l).map Fq).Nodup->Gu out l=out++l
 |[],out,_=>by simp[Gu]
 |x::l,out,h=>by
  rw[Gu,if_neg,mL (by simpa using h)];.simp
  .intro ha;rw[Cb,BU] at h;simp at ha;obtain⟨y,hy,e⟩:=ha;exact h.2.2 _ (Bb.2 ⟨y,hy,e.symm⟩) _ (by simp) rfl
def ly(l:List A9):((Di l).map Fq).Nodup:=Sn (by simp)
def Ŀ{l:List A9}(h:(l.map Fq).Nodup):Di l=l:=by have:=mL (out:=[]) (l:=l) (by simpa using h);simpa[Di] using this
def bN(l:List A9):Di (Di l)=Di l:=Ŀ (ly l)
def UE:∀{l out:List A9} {a:A9},a∈Gu out l->a∈out\/a∈l
 |[],_,_,h=> .inl h
 |x::l,out,a,h=>by
  rw[Gu] at h;split at h
  .rcases UE h with h|h
   .exact .inl h
   .exact .inr (by simp[h])
  .rcases UE h with h|h
   .simp at h;rcases h with h|rfl
    .exact .inl h
    .exact .inr (by simp)
   .exact .inr (by simp[h])
def mM{l:List A9}{a:A9}(h:a∈Di l):a∈l:=by simpa using UE h
def Yi:∀{l out:List A9},(Gu out l).length<=out.length+l.length
 |[],out=>by simp[Gu]
 |x::l,out=>by
  rw[Gu];split;.have:=Yi (l:=l) (out:=out);simp;omega
  .have:=Yi (l:=l) (out:=out++[x]);simp at this⊢;omega
def Ts{l:List A9}:(Di l).length<=l.length:=by have:=Yi (l:=l) (out:=[]);simpa[Di] using this
structure rU(x:HO):Prop where
 k:1<=x.kind/\x.kind<=6
 Bv:x.Bv≠[]->x.kind=1\/x.kind=2\/x.kind=4
 elem:x.kind≠4->x.AX=0/\x.Aq=[]
 nm:x.kind≠4->x.kind≠3->x.name=[]
 dt:x.kind≠3->x.Ke=[]/\x.sys=[]
 data:x.kind≠5->x.kind≠6->x.data=[]
 DH:x.kind≠1->x.DH=false
 sp:0<=x.AX/\x.AX<=7
 xe:∀a∈x.Aq,0<=a.AX/\a.AX<=7
 Di:Di x.Aq=x.Aq
 Tt:x.cont≠0->eX x
 Ol:x.E3≠0->x.kind=2
 root:x.Gq≠0->x.kind≠1/\x.kind≠2
 wT:x.Bv.Nodup
structure Fl(A:Ar)(e:Int):Prop where
 il:A.i.length=A.n.length
 Ub:∀h,A.has h->rU (A.nd h)
 CB:∀h,A.has h->A.has (A.nd h).CB/\(A.nd (A.nd h).CB).kind=1
 Yj:∀h,A.has h->(A.nd h).kind=1->(A.nd h).CB=h
 Gq:∀h,A.has h->(A.nd h).Gq≠0->A.has (A.nd h).Gq/\h∈(A.nd (A.nd h).Gq).Bv
 Rt:∀h,A.has h->∀k∈(A.nd h).Bv,A.has k/\(A.nd k).Gq=h
 Ql:∀h,A.has h->h≠e->eX (A.nd h)->(A.nd h).cont≠0
 cont:∀h,A.has h->(A.nd h).cont≠0->A.has (A.nd h).cont/\(A.nd (A.nd h).cont).kind=2/\(A.nd (A.nd h).cont).E3=h
 E3:∀h,A.has h->(A.nd h).E3≠0->A.has (A.nd h).E3/\(A.nd (A.nd h).E3).cont=h
 ine:∀h,A.has h->A.inr h≠0->A.has (A.inr h)/\(A.nd (A.inr h)).kind=1
 LG:∃r:Int->Nat,∀h,A.has h->A.up h≠0->r (A.up h)<r h
section
variable{A:Ar}{e h k:Int}{x y:HO}
def So:¬A.has (A.len+1):=by unfold Ar.has Ar.len;omega
def Yk(a:¬A.has h):A.up h=0:=by unfold Ar.up;rw[Py a];simp
def rV(ok:Fl A e)(a:A.has h)(hu:A.up h≠0):A.has (A.up h):=by
 unfold Ar.up at hu⊢;split;.rename_i h1;exact(ok.Gq h a h1).1
 .rename_i h1;rw[if_neg h1] at hu;exact(ok.E3 h a hu).1
def Qm(ok:Fl A e)(hx:rU x)(hd:(x.kind=1/\x.CB=A.len+1)\/(x.kind≠1/\A.has x.CB/\(A.nd x.CB).kind=1))(hp:x.Gq=0)(hk:x.Bv=[])(hc:x.cont=0)(a:x.E3=0)(b:eX x->e=A.len+1):Fl (A.add x) e:=by
 have no:=So (A:=A);obtain⟨r,hr⟩:=ok.LG;have ne:∀{k},A.has k->k≠A.len+1:=λhk e=>no (e▸hk);refine⟨by simp[Ar.add,ok.il],?_,?_,?_,?_,?_,?_,?_,?_,?_,r,?_⟩<;>intro m hm<;>rw[Et] at hm<;>(try rw[Wz ok.il])<;>simp only[Ar.up,L6,Et]<;>rcases hm with hm|rfl
 all_goals first|(rw[if_neg (ne hm)])|(rw[if_pos rfl])|skip
 .exact ok.Ub m hm
 .exact hx
 .have:=ok.CB m hm;rw[if_neg (ne this.1)];exact⟨.inl this.1,this.2⟩
 .rcases hd with⟨h1,h2⟩|⟨h1,h2,h3⟩
  .rw[if_pos h2];exact⟨.inr h2,h1⟩
  .rw[if_neg (ne h2)];exact⟨.inl h2,h3⟩
 .exact ok.Yj m hm
 .intro h1;rcases hd with⟨_,h2⟩|⟨h2,_⟩
  .exact h2
  .exact absurd h1 h2
 .intro h1;have:=ok.Gq m hm h1;rw[if_neg (ne this.1)];exact⟨.inl this.1,this.2⟩
 .intro h1;exact absurd hp h1
 .intro q hq;have:=ok.Rt m hm q hq;rw[if_neg (ne this.1)];exact⟨.inl this.1,this.2⟩
 .intro q hq;rw[hk] at hq;cases hq
 .exact ok.Ql m hm
 .intro h1 h2;exact absurd (b h2).symm h1
 .intro h1;have:=ok.cont m hm h1;rw[if_neg (ne this.1)];exact⟨.inl this.1,this.2⟩
 .intro h1;exact absurd hc h1
 .intro h1;have:=ok.E3 m hm h1;rw[if_neg (ne this.1)];exact⟨.inl this.1,this.2⟩
 .intro h1;exact absurd a h1
 .intro h1;have:=ok.ine m hm h1;rw[if_neg (ne this.1)];exact⟨.inl this.1,this.2⟩
 .intro h1;exfalso;apply h1;unfold Ar.inr;rw[if_neg no]
 .have:=hr m hm;unfold Ar.up at this;exact this
 .rw[hp,a];simp
inductive Reach(A:Ar)(t:Int):Int->Prop
 |refl:Reach A t t
 |step {h:Int}:A.up h≠0->Reach A t (A.up h)->Reach A t h
def Ny(l:List Int)(b n:Int):List Int:=if b=0 then l++[n] else l.takeWhile (λk=>decide (k≠b))++n::l.dropWhile (λk=>decide (k≠b))
def Ar.cut(A:Ar)(n:Int):Ar:=
 let q:=(A.nd n).Gq
 if q=0 then A else
  let a:=A.set q {A.nd q with Bv:=(A.nd q).Bv.filter λk=>decide (k≠n)}
  a.set n {a.nd n with Gq:=0}
def Ar.Nf(A:Ar)(p n b:Int):Ar:=
 let a:=A.set p {A.nd p with Bv:=Ny (A.nd p).Bv b n}
 a.set n {a.nd n with Gq:=p}
def Pz(k:Int):Prop:=k=1\/k=2\/k=4
instance(k:Int):Decidable (Pz k):=by unfold Pz;infer_instance
structure aC6(A:Ar)(p n b:Int):Prop where
 hp:A.has p
 hn:A.has n
 hb:b≠0->A.has b/\b≠n/\(A.nd b).Gq=p
 kp:Pz (A.nd p).kind
 kn:(A.nd n).kind≠1/\(A.nd n).kind≠2
 re:¬Reach A n p
open Classical in
def Ar.Ip(A:Ar)(p n b:Int):Ar:=if aC6 A p n b then(A.cut n).Nf p n b else A
def UF{l:List Int}{b n k:Int}:k∈Ny l b n↔k=n\/k∈l:=by
 unfold Ny;split;.simp;exact Or.comm
 .have e:=pB (p:=λk=>decide (k≠b)) (l:=l);constructor
  .intro h;rw[Aj,Aw] at h;rcases h with h|h|h
   .exact .inr (by rw[<-e];simp only[Aj];exact .inl h)
   .exact .inl h
   .exact .inr (by rw[<-e];simp only[Aj];exact .inr h)
  .intro h;rw[Aj,Aw];rcases h with h|h
   .exact .inr (.inl h)
   .rw[<-e,Aj] at h;rcases h with h|h
    .exact .inl h
    .exact .inr (.inr h)
def mN{l:List Int}{b n:Int}(h:l.Nodup)(hn:n∉l):(Ny l b n).Nodup:=by
 unfold Ny;split;.rw[BU];refine⟨h,by simp,?_⟩;rintro a ha c hc rfl;simp at hc;subst hc;exact hn ha
 .have e:=pB (p:=λk=>decide (k≠b)) (l:=l);generalize List.takeWhile _ l=u at e⊢;generalize List.dropWhile _ l=w at e⊢;subst e;rw[BU] at h⊢;simp at hn;refine⟨h.1,by simp[h.2.1,hn.2],?_⟩;rintro a ha c hc rfl;simp at hc;rcases hc with rfl|hc
  .exact hn.1 ha
  .exact h.2.2 _ ha _ hc rfl
def mO:(A.cut h).n.length=A.n.length:=by unfold Ar.cut;simp only;split<;>simp[Jr]
def OZ:(A.cut h).has k↔A.has k:=by unfold Ar.has;rw[mO]
def mP{p n b:Int}:(A.Nf p n b).n.length=A.n.length:=by unfold Ar.Nf;simp[Jr]
def wU{p n b:Int}:(A.Nf p n b).has k↔A.has k:=by unfold Ar.has;rw[mP]
def ŀ:(A.cut h).inr k=A.inr k:=by unfold Ar.cut;simp only;split<;>simp[Tp]
def Ł{p n b:Int}:(A.Nf p n b).inr k=A.inr k:=by unfold Ar.Nf;simp[Tp]
def aBk(ok:Fl A e)(a:A.has h)(hu:A.up h≠0):A.up h≠h:=by obtain⟨r,hr⟩:=ok.LG;intro e;have:=hr h a hu;rw[e] at this;exact Dw _ this
def rW(ok:Fl A e)(a:A.has h)(hu:(A.nd h).Gq≠0):(A.nd h).Gq≠h:=by
 have:A.up h=(A.nd h).Gq:=by unfold Ar.up;rw[if_pos hu]
 have h2:=aBk ok a (by rw[this];exact hu);rwa [this] at h2
def Yl(ok:Fl A e)(a:A.has h):(A.cut h).nd k=if k=h then{A.nd h with Gq:=0} else if(A.nd h).Gq≠0/\k=(A.nd h).Gq then{A.nd k with Bv:=(A.nd k).Bv.filter λm=>decide (m≠h)} else A.nd k:=by
 unfold Ar.cut;simp only
 by_cases hp:(A.nd h).Gq=0
 .rw[if_pos hp];by_cases e:k=h;.subst e;rw[if_pos rfl];have:A.nd k={A.nd k with Gq:=(A.nd k).Gq}:=rfl;rw[hp] at this;exact this
  .rw[if_neg e,if_neg (by simp[hp])]
 .have hn:=rW ok a hp;have hq:=(ok.Gq h a hp).1;rw[if_neg hp];simp only[Ko,JB,a,hq,M8];by_cases e:k=h;.subst e;simp[Dd hn]
  .simp[e,hp];split;.rename_i e;simp[e]
   .rfl
def mQ{x:HO}(hx:rU x){l:List Int}(h1:l.Nodup)(h2:l≠[]->Pz x.kind):rU {x with Bv:=l}:=
 {k:=hx.k,Bv:=h2,elem:=hx.elem,nm:=hx.nm,dt:=hx.dt,data:=hx.data,DH:=hx.DH,sp:=hx.sp,xe:=hx.xe,Di:=hx.Di,Tt:=hx.Tt,Ol:=hx.Ol,root:=hx.root,wT:=h1}
def wV{x:HO}(hx:rU x){p:Int}(h2:p≠0->x.kind≠1/\x.kind≠2):rU {x with Gq:=p}:=
 {k:=hx.k,Bv:=hx.Bv,elem:=hx.elem,nm:=hx.nm,dt:=hx.dt,data:=hx.data,DH:=hx.DH,sp:=hx.sp,xe:=hx.xe,Di:=hx.Di,Tt:=hx.Tt,Ol:=hx.Ol,root:=h2,wT:=hx.wT}
def aC7(ok:A.i.length=A.n.length):(A.cut h).i.length=(A.cut h).n.length:=by rw[mO];unfold Ar.cut;simp only;split<;>exact ok
def aC8{p n b:Int}(ok:A.i.length=A.n.length):(A.Nf p n b).i.length=(A.Nf p n b).n.length:=by rw[mP];exact ok
def ł(ok:Fl A e)(a:A.has h)(hk:k∈(A.nd h).Bv):k≠h/\(A.nd k).Gq=h/\A.has k:=by have:=ok.Rt h a k hk;refine⟨?_,this.2,this.1⟩;rintro rfl;have h0:=this.1.1;exact rW ok a (by rw[this.2];omega) this.2
def xf(ok:Fl A e)(a:A.has h):(A.cut h).up k=if k=h then(A.nd h).E3 else A.up k:=by
 unfold Ar.up;rw[Yl ok a];by_cases e:k=h;.simp[e]
 .simp only[e,DU];split<;>rfl
def eY(ok:Fl A e)(c:A.has h)(Ua:(A.nd h).kind≠2):Fl (A.cut h) e:=by
 obtain⟨r,hr⟩:=ok.LG;have a:=λm=>Yl (k:=m) ok c;have kd:∀m,((A.cut h).nd m).kind=(A.nd m).kind:=λm=>by rw[a];grind
 have j:∀m,((A.cut h).nd m).CB=(A.nd m).CB:=λm=>by rw[a];grind
 have l:∀m,((A.cut h).nd m).cont=(A.nd m).cont:=λm=>by rw[a];grind
 have ho:∀m,((A.cut h).nd m).E3=(A.nd m).E3:=λm=>by rw[a];grind
 have d:(A.nd h).E3=0:=by
  by_cases h0:(A.nd h).E3=0;.exact h0
  .exact absurd ((ok.Ub h c).Ol h0) Ua
 refine⟨aC7 ok.il,?_,?_,?_,?_,?_,?_,?_,?_,?_,r,?_⟩<;>intro m hm<;>rw[OZ] at hm<;>(try simp only[kd,j,l,ho,OZ,ŀ])
 .rw[a];split;.exact wV (ok.Ub h c) (by simp)
  .split;.exact mQ (ok.Ub m hm) ((ok.Ub m hm).wT.filter _) λh1=>(ok.Ub m hm).Bv (by intro h2;rw[h2] at h1;simp at h1)
   .exact ok.Ub m hm
 .exact ok.CB m hm
 .exact ok.Yj m hm
 .intro h1;have b:m≠h:=by rintro rfl;rw[a] at h1;simp at h1
  have i:((A.cut h).nd m).Gq=(A.nd m).Gq:=by rw[a,if_neg b];split<;>rfl
  rw[i] at h1⊢;have h2:=ok.Gq m hm h1;refine⟨h2.1,?_⟩;rw[a];split;.rename_i g;rw[<-g];exact h2.2
  .split;.simp only[BV,Ci];exact⟨h2.2,b⟩
   .exact h2.2
 .intro q hq;have h1:q∈(A.nd m).Bv/\(m=(A.nd h).Gq->q≠h):=by
   rw[a] at hq;split at hq;.rename_i b;subst b;have:=ł ok hm hq;exact⟨hq,λ_=>this.1⟩
   .split at hq;.simp only[BV,Ci] at hq;exact⟨hq.1,λ_=>hq.2⟩
    .rename_i h3;refine⟨hq,λf n=>h3 ⟨?_,f⟩⟩;rw[<-f];have:=hm.1;omega
  have h2:=ok.Rt m hm q h1.1;refine⟨h2.1,?_⟩;have b:q≠h:=by rintro rfl;exact h1.2 h2.2.symm rfl
  rw[a,if_neg b,<-h2.2];split<;>rfl
 .intro h1 h2;refine ok.Ql m hm h1 ?_;rw[a] at h2;unfold eX at h2⊢;grind
 .exact ok.cont m hm
 .exact ok.E3 m hm
 .exact ok.ine m hm
 .rw[xf ok c];split;.rw[d];simp
  .exact hr m hm
def xg{p n b:Int}(hp:A.has p)(hn:A.has n)(hne:n≠p):(A.Nf p n b).nd k=if k=n then{A.nd n with Gq:=p} else if k=p then{A.nd p with Bv:=Ny (A.nd p).Bv b n} else A.nd k:=by
 unfold Ar.Nf;simp only[Ko,JB,hp,hn,M8];by_cases e:k=n;.subst e;simp[hne]
 .simp[e]
def lz{p n b:Int}(hp:A.has p)(hn:A.has n)(hne:n≠p)(h0:(A.nd n).Gq=0)(a:(A.nd n).E3=0)(hr:¬Reach A n p):∀{m},¬Reach A n m->(A.Nf p n b).up m=A.up m:=by
 intro m hm;have e:m≠n:=by rintro rfl;exact hm .refl
 unfold Ar.up;rw[xg hp hn hne,if_neg e];split;.rename_i e;subst e;rfl
 .rfl
open Classical in
def aC9(ok:Fl A e){p n b:Int}(hp:A.has p)(hn:A.has n)(kp:Pz (A.nd p).kind)(kn:(A.nd n).kind≠1/\(A.nd n).kind≠2)(re:¬Reach A n p)(h0:(A.nd n).Gq=0):Fl (A.Nf p n b) e:=by
 obtain⟨r,hr⟩:=ok.LG;have hne:n≠p:=by rintro rfl;exact re .refl
 have a:=λm=>xg (k:=m) (b:=b) hp hn hne;have kd:∀m,((A.Nf p n b).nd m).kind=(A.nd m).kind:=λm=>by rw[a];grind
 have l:∀m,((A.Nf p n b).nd m).CB=(A.nd m).CB:=λm=>by rw[a];grind
 have o:∀m,((A.Nf p n b).nd m).cont=(A.nd m).cont:=λm=>by rw[a];grind
 have ho:∀m,((A.Nf p n b).nd m).E3=(A.nd m).E3:=λm=>by rw[a];grind
 have i:(A.nd n).E3=0:=by
  by_cases h0:(A.nd n).E3=0;.exact h0
  .exact absurd ((ok.Ub n hn).Ol h0) kn.2
 have g:∀m,A.has m->n∉(A.nd m).Bv:=by intro m hm h1;have:=ok.Rt m hm n h1;rw[h0] at this;have:=hm.1;omega
 refine⟨aC8 ok.il,?_,?_,?_,?_,?_,?_,?_,?_,?_,λm=>if Reach A n m then r m+r p+1 else r m,?_⟩<;>intro m hm<;>rw[wU] at hm<;>(try simp only[kd,l,o,ho,wU,Ł])
 .rw[a];split;.exact wV (ok.Ub n hn) λ_=>kn
  .split;.exact mQ (ok.Ub p hp) (mN (ok.Ub p hp).wT (g p hp)) λ_=>kp
   .exact ok.Ub m hm
 .exact ok.CB m hm
 .exact ok.Yj m hm
 .intro h1;by_cases c:m=n
  .subst c;rw[a,if_pos rfl];refine⟨hp,?_⟩;simp only
   rw[a,if_neg (Dd hne),if_pos rfl];exact UF.2 (.inl rfl)
  .have f:((A.Nf p n b).nd m).Gq=(A.nd m).Gq:=by rw[a,if_neg c];split;rename_i e;rw[e];rfl
   rw[f] at h1⊢;have h2:=ok.Gq m hm h1;refine⟨h2.1,?_⟩;rw[a];split;.rename_i j;rw[<-j];exact h2.2
   .split;.rename_i j;rw[<-j];exact UF.2 (.inr h2.2)
    .exact h2.2
 .intro q hq;by_cases c:q=n
  .subst c;refine⟨hn,?_⟩;rw[a,if_pos rfl];rw[a] at hq;split at hq;.exact absurd hq (g q hn)
   .split at hq;.rename_i e;exact e.symm
    .exact absurd hq (g m hm)
  .have h1:q∈(A.nd m).Bv:=by
    rw[a] at hq;split at hq;.rename_i e;rw[e];exact hq
    .split at hq;.rename_i e;rw[e];exact(UF.1 hq).resolve_left c
     .exact hq
   have h2:=ok.Rt m hm q h1;refine⟨h2.1,?_⟩;rw[a,if_neg c,<-h2.2];split;.rename_i e;rw[e]
   .rfl
 .intro h1 h2;refine ok.Ql m hm h1 ?_;rw[a] at h2;unfold eX at h2⊢;grind
 .exact ok.cont m hm
 .exact ok.E3 m hm
 .exact ok.ine m hm
 .intro hu;by_cases hR:Reach A n m
  .by_cases c:m=n
   .subst c;have f:(A.Nf p m b).up m=p:=by unfold Ar.up;rw[a,if_pos rfl];simp only;rw[if_pos];have:=hp.1;omega
    rw[f,if_neg re,if_pos hR];omega
   .have f:(A.Nf p n b).up m=A.up m:=by
     unfold Ar.up;rw[a,if_neg c];split;.rename_i e;rw[e]
     .rfl
    rw[f] at hu⊢;have d:Reach A n (A.up m):=by
     cases hR with
     |refl=>exact absurd rfl c
     |step _ hx=>exact hx
    rw[if_pos d,if_pos hR];have:=hr m hm hu;omega
  .have f:=lz (b:=b) hp hn hne h0 i re hR;rw[f] at hu⊢;have d:¬Reach A n (A.up m):=λh=>hR (.step hu h);rw[if_neg d,if_neg hR];exact hr m hm hu
def l_(ok:Fl A e)(b:A.has h){m:Int}(hr:¬Reach A h m):¬Reach (A.cut h) h m:=by
 intro MH;have key:∀m,Reach (A.cut h) h m->Reach A h m:=by
  intro m hm;induction hm with
  |refl=>exact .refl
  |@step q h1 _ ih=>
   by_cases a:q=h;.rw[a];exact .refl
   .rw[xf ok b,if_neg a] at h1 ih;exact .step h1 ih
 exact hr (key m MH)
def O0(ok:Fl A e){p n b:Int}:Fl (A.Ip p n b) e:=by
 unfold Ar.Ip;split
 .rename_i f;have a:=eY ok f.hn f.kn.2;have kd:∀m,((A.cut n).nd m).kind=(A.nd m).kind:=λm=>by rw[Yl ok f.hn];grind
  refine aC9 a (OZ.2 f.hp) (OZ.2 f.hn) ?_ ?_ (l_ ok f.hn f.re) ?_;.rw[kd];exact f.kp
  .rw[kd];exact f.kn
  .rw[Yl ok f.hn,if_pos rfl]
 .exact ok
def eZ(ok:Fl A e)(g:A.has h)(hx:rU x)(h1:x.kind=(A.nd h).kind)(h2:x.Gq=(A.nd h).Gq)(h3:x.Bv=(A.nd h).Bv)(d:A.has x.CB/\(A.nd x.CB).kind=1/\(x.kind=1->x.CB=h))(n:x.cont=(A.nd h).cont)(l:x.E3=(A.nd h).E3)(i:eX x->eX (A.nd h)):Fl (A.set h x) e:=by
 obtain⟨r,hr⟩:=ok.LG;have a:∀m,(A.set h x).nd m=if m=h then x else A.nd m:=λm=>by rw[Ko];simp[g]
 have kd:∀m,((A.set h x).nd m).kind=(A.nd m).kind:=λm=>by rw[a];grind
 have f:∀m,((A.set h x).nd m).Gq=(A.nd m).Gq:=λm=>by rw[a];grind
 have ks:∀m,((A.set h x).nd m).Bv=(A.nd m).Bv:=λm=>by rw[a];grind
 have j:∀m,((A.set h x).nd m).cont=(A.nd m).cont:=λm=>by rw[a];grind
 have ho:∀m,((A.set h x).nd m).E3=(A.nd m).E3:=λm=>by rw[a];grind
 have u:∀m,(A.set h x).up m=A.up m:=λm=>by unfold Ar.up;rw[f,ho]
 refine⟨by rw[Jr];exact ok.il,?_,?_,?_,?_,?_,?_,?_,?_,?_,r,?_⟩<;>intro m hm<;>rw[JB] at hm<;>(try simp only[kd,f,ks,j,ho,u,JB,Tp])
 .rw[a];split;.exact hx
  .exact ok.Ub m hm
 .rw[a];split;.exact⟨d.1,d.2.1⟩
  .exact ok.CB m hm
 .rw[a];split;.rename_i e;intro c;rw[e,d.2.2 (by rw[h1,<-e];exact c)]
  .exact ok.Yj m hm
 .exact ok.Gq m hm
 .exact ok.Rt m hm
 .intro c b;refine ok.Ql m hm c ?_;rw[a] at b;split at b;.rename_i e;rw[e];exact i b
  .exact b
 .exact ok.cont m hm
 .exact ok.E3 m hm
 .exact ok.ine m hm
 .exact hr m hm
def Ar.Iq(A:Ar)(d:Int):Int:=if A.inr d≠0 then A.inr d else A.len+1
def Ar.EW(A:Ar)(d:Int):Ar:=if A.inr d≠0 then A else((A.add {kind:=1,CB:=A.len+1}).Ok d (A.len+1)).Ok (A.len+1) (A.len+1)
def Ń:rU {kind:=1,CB:=k}:=by constructor<;>simp[Di,Gu]
def wW(ok:Fl A e)(hk:A.has k/\(A.nd k).kind=1):Fl (A.Ok h k) e:=by
 refine⟨?_,ok.Ub,ok.CB,ok.Yj,ok.Gq,ok.Rt,ok.Ql,ok.cont,ok.E3,?_,ok.LG⟩;.simp only[Ar.Ok];split<;>simp[ok.il]
 .intro m hm h1;rw[Tq] at hm;rw[Yh ok.il] at h1⊢;split at h1;.rename_i h2;rw[if_pos h2];exact hk
  .rename_i h2;rw[if_neg h2];exact ok.ine m hm h1
def xh(ok:Fl A e)(b:A.has h)(he:e≠A.len+1):Fl (A.EW h) e/\(A.EW h).has (A.Iq h)/\((A.EW h).nd (A.Iq h)).kind=1:=by
 unfold Ar.EW Ar.Iq;split;.rename_i h1;exact⟨ok,ok.ine h b h1⟩
 .have a:=Qm ok (x:={kind:=1,CB:=A.len+1}) Ń (.inl ⟨rfl,rfl⟩) rfl rfl rfl rfl (by simp[eX]);have h2:(A.add {kind:=1,CB:=A.len+1}).has (A.len+1)/\((A.add {kind:=1,CB:=A.len+1}).nd (A.len+1)).kind=1:=by rw[Et,L6,if_pos rfl];exact⟨.inr rfl,rfl⟩
  exact⟨wW (wW a h2) h2,h2⟩
def Ym(hk:k≠A.len+1\/A.inr h≠0):(A.EW h).nd k=A.nd k:=by
 unfold Ar.EW;split;.rfl
 .rename_i h1;rw[wS,wS,L6,if_neg (hk.resolve_right h1)]
def ma:(A.EW h).len=if A.inr h≠0 then A.len else A.len+1:=by
 unfold Ar.EW;split;.rfl
 .rw[mK,mK,Q7]
def Om:A.has k->(A.EW h).has k:=by
 unfold Ar.EW;split;.exact id
 .intro hk;rw[Tq,Tq,Et];exact .inl hk
def ń{d:Int}(ok:Fl A e)(he:A.has e)(l:eX (A.nd e))(hc:(A.nd e).cont=0)(hd:A.has d/\(A.nd d).kind=1):Fl ((A.add {kind:=2,E3:=e,CB:=d}).set e {A.nd e with cont:=A.len+1}) 0:=by
 have no:=So (A:=A);obtain⟨r,hr⟩:=ok.LG;have ne:∀{k},A.has k->k≠A.len+1:=λhk e=>no (e▸hk);have l0:A.len+1≠0:=by have:=he.1;have:=he.2;unfold Ar.len;omega
 have b:∀m,(((A.add {kind:=2,E3:=e,CB:=d}).set e {A.nd e with cont:=A.len+1}).nd m)=if m=e then{A.nd e with cont:=A.len+1} else if m=A.len+1 then{kind:=2,E3:=e,CB:=d} else A.nd m:=λm=>by rw[Ko,L6];simp[he,Et]
 have hk:(A.nd e).kind=4:=l.1;have h0:(A.nd e).E3=0:=by
  by_cases h0:(A.nd e).E3=0;.exact h0
  .have:=(ok.Ub e he).Ol h0;omega
 have o:e≠0:=by have:=he.1;omega
 have i:rU {kind:=2,E3:=e,CB:=d}:=by constructor<;>simp[Di,Gu]
 have Ub:=ok.Ub;have c:=Ub e he;have hne:rU {A.nd e with cont:=A.len+1}:={k:=c.k,Bv:=c.Bv,elem:=c.elem,nm:=c.nm,dt:=c.dt,data:=c.data,DH:=c.DH,sp:=c.sp,xe:=c.xe,Di:=c.Di,Tt:=λ_=>l,Ol:=c.Ol,root:=c.root,wT:=c.wT};have hs:∀m,((A.add {kind:=2,E3:=e,CB:=d}).set e {A.nd e with cont:=A.len+1}).has m↔A.has m\/m=A.len+1:=λm=>by rw[JB,Et]
 have hi:∀m,((A.add {kind:=2,E3:=e,CB:=d}).set e {A.nd e with cont:=A.len+1}).inr m=A.inr m:=λm=>by rw[Tp,Wz ok.il]
 have g:e≠A.len+1:=ne he;refine⟨by rw[Jr];simp[Ar.add,Ar.set,ok.il],?_,?_,?_,?_,?_,?_,?_,?_,?_,λm=>if m=A.len+1 then r e+1 else r m,?_⟩<;>intro m hm<;>rw[hs] at hm<;>(try simp only[hs,hi])
 .rw[b];split;.exact hne
  .split;.exact i
   .rename_i h1 h2;exact Ub m (hm.resolve_right h2)
 .have key:∀q,A.has q/\(A.nd q).kind=1->(A.has q\/q=A.len+1)/\(((A.add {kind:=2,E3:=e,CB:=d}).set e {A.nd e with cont:=A.len+1}).nd q).kind=1:=by
   intro q hq;refine⟨.inl hq.1,?_⟩;rw[b,if_neg (ne hq.1)];split;.rename_i a;rw[a] at hq;exact hq.2
   .exact hq.2
  rw[b m];split;.exact key _ (ok.CB e he)
  .split;.exact key _ hd
   .rename_i h1 h2;exact key _ (ok.CB m (hm.resolve_right h2))
 .rw[b m];split;.rename_i a;intro h1;rw[a];exact ok.Yj e he h1
  .split;.intro h1;simp at h1
   .rename_i h1 h2;exact ok.Yj m (hm.resolve_right h2)
 .have key:∀q,A.has q->(A.nd q).Gq≠0->(A.has (A.nd q).Gq\/(A.nd q).Gq=A.len+1)/\q∈(((A.add {kind:=2,E3:=e,CB:=d}).set e {A.nd e with cont:=A.len+1}).nd (A.nd q).Gq).Bv:=by
   intro q hq hp;have h1:=ok.Gq q hq hp;refine⟨.inl h1.1,?_⟩;rw[b,if_neg (ne h1.1)];split;.rename_i a;rw[a] at h1;exact h1.2
   .exact h1.2
  rw[b m];split;.rename_i a;rw[a];exact key e he
  .split;.intro h1;simp at h1
   .rename_i h1 h2;exact key m (hm.resolve_right h2)
 .have key:∀q,A.has q->∀k∈(A.nd q).Bv,(A.has k\/k=A.len+1)/\(((A.add {kind:=2,E3:=e,CB:=d}).set e {A.nd e with cont:=A.len+1}).nd k).Gq=q:=by
   intro q hq k hk;have h1:=ok.Rt q hq k hk;refine⟨.inl h1.1,?_⟩;rw[b,if_neg (ne h1.1)];split;.rename_i a;rw[a] at h1;exact h1.2
   .exact h1.2
  rw[b m];split;.rename_i a;rw[a];exact key e he
  .split;.intro k hk;simp at hk
   .rename_i h1 h2;exact key m (hm.resolve_right h2)
 .intro _;rw[b m];split;.intro _;exact l0
  .split;.intro h1;simp[eX] at h1
   .rename_i h1 h2;exact ok.Ql m (hm.resolve_right h2) h1
 .rw[b m];split
  .rename_i a;intro _;simp only
   rw[b,if_neg (Dd g),if_pos rfl,a];exact⟨.inr trivial,rfl,rfl⟩
  .split;.intro h1;simp at h1
   .rename_i h1 h2;intro h3;have f:=ok.cont m (hm.resolve_right h2) h3;refine⟨.inl f.1,?_⟩;rw[b,if_neg (ne f.1)];split;.rename_i a;rw[a,hk] at f;exact absurd f.2.1 (by decide)
    .exact f.2
 .rw[b m];split;.intro h1;exact absurd h0 h1
  .split;.rename_i a;intro _;simp only;refine⟨.inl he,?_⟩;rw[b,if_pos rfl,a]
   .rename_i h1 h2;intro h3;have f:=ok.E3 m (hm.resolve_right h2) h3;refine⟨.inl f.1,?_⟩;rw[b,if_neg (ne f.1)];split;.rename_i a;rw[a,hc] at f;have:=(hm.resolve_right h2).1;omega
    .exact f.2
 .intro h1;rcases hm with hm|rfl
  .have h2:=ok.ine m hm h1;refine⟨.inl h2.1,?_⟩;rw[b,if_neg (ne h2.1)];split;.rename_i a;rw[a] at h2;exact h2.2
   .exact h2.2
  .exfalso;apply h1;unfold Ar.inr;rw[if_neg no]
 .by_cases a:m=A.len+1
  .have j:((A.add {kind:=2,E3:=e,CB:=d}).set e {A.nd e with cont:=A.len+1}).up m=e:=by
    have n:m≠e:=by rw[a];exact Dd g
    unfold Ar.up;rw[b m];simp[a,Dd g]
   rw[j,if_neg g,if_pos a];intro _;omega
  .have hm:=hm.resolve_right a;have j:((A.add {kind:=2,E3:=e,CB:=d}).set e {A.nd e with cont:=A.len+1}).up m=A.up m:=by
    unfold Ar.up;rw[b];split;.rename_i n;rw[n]
    .rfl
   rw[j,if_neg a];intro h1;rw[if_neg (ne (rV ok hm h1))];exact hr m hm h1
def Ar.elem(A:Ar)(d sp:Int)(nm:Ad)(at_:List A9):Ar:=
 let x:HO:={kind:=4,CB:=d,AX:=sp,name:=nm,Aq:=Di at_}
 if eX x then
  let b:=A.add x
  let a:=b.EW d
  (a.add {kind:=2,E3:=A.len+1,CB:=b.Iq d}).set (A.len+1) {x with cont:=a.len+1}
 else A.add x
def Ņ{d sp:Int}{nm:Ad}{l:List A9}(ok:Fl A 0)(hd:A.has d/\(A.nd d).kind=1)(hs:0<=sp/\sp<=7)(hl:∀a∈l,0<=a.AX/\a.AX<=7):Fl (A.elem d sp nm l) 0:=by
 have hx:rU {kind:=4,CB:=d,AX:=sp,name:=nm,Aq:=Di l}:=by constructor<;>simp[bN,hs];exact λa ha=>hl a (mM ha)
 unfold Ar.elem;simp only
 split
 .rename_i f;have b:Fl A (A.len+1):={ok with Ql:=λh i _=>ok.Ql h i (by have:=i.1;omega)};have m:=Qm b hx (.inr ⟨by simp,hd⟩) rfl rfl rfl rfl λ_=>rfl;have c:(A.add {kind:=4,CB:=d,AX:=sp,name:=nm,Aq:=Di l}).has d:=Et.2 (.inl hd.1);obtain⟨j,h2,h3⟩:=xh m c (by rw[Q7];omega);have g:((A.add {kind:=4,CB:=d,AX:=sp,name:=nm,Aq:=Di l}).EW d).nd (A.len+1)={kind:=4,CB:=d,AX:=sp,name:=nm,Aq:=Di l}:=by rw[Ym (.inl (by rw[Q7];omega)),L6,if_pos rfl]
  have:=ń j (Om (Et.2 (.inr rfl))) (by rw[g];exact f) (by rw[g]) ⟨h2,h3⟩;rw[g] at this;exact this
 .rename_i f;exact Qm ok hx (.inr ⟨by simp,hd⟩) rfl rfl rfl rfl λh=>absurd h f
end
def aHY(e:B2):Bool:=decide (e.node=0)
def VF(n:Int)(e:B2):Bool:=decide (e.node=n)
def fA(l:List B2):Int:=Ax aHY l+1
def Fo(n:Int)(l:List B2):Int:=if n=0 then -1 else Ax (VF n) l
def O1(name:Ad):List B2->Int
 |[]=> -1
 |x::t=>if x.node=0 then -1 else if x.name=name then(t.length:Int) else O1 name t
def D7(name:Ad)(l:List B2):Int:=O1 name l.reverse
def wX(e:B2):List B2->Nat
 |[]=>0
 |x::t=>if x.node=0 then 0 else wX e t+(if L5 x e=true then 1 else 0)
def mR(e:B2):List B2->Int
 |[]=> -1
 |x::t=>if x.node=0 then -1 else if 0<=mR e t then mR e t else if L5 x e=true then(t.length:Int) else -1
def mS(e:B2)(l:List B2):List B2:=(if e.node≠0/\3<=wX e l.reverse then Bs l (mR e l.reverse).toNat else l)++[e]
def EX(l:List B2):List B2:=l.take (fA l-1).toNat
structure BS where
 a:Ar
 CB:Int
 Au:List Item
 AW:List B2
 mode:Int
 GM:Int
 tm:List Int
 head:Int
 FJ:Int
 KH:Bool
 ctx:Item
 fs:Bool
 D3:Bool
 mb:Ad
 skip:Bool
 sw:Int
 stop:Bool
def oZ(s:List Ad)(A:Ar)(h:Int):Prop:=(A.nd h).kind=4/\(A.nd h).AX=1/\(A.nd h).name∈s
instance(s:List Ad)(A:Ar)(h:Int):Decidable (oZ s A h):=by unfold oZ;infer_instance
abbrev Jf:Ad:=aXa
abbrev rX:Ad:=aXK
abbrev rY:Ad:=aXH
abbrev rZ:Ad:=aXL
abbrev wTr:Ad:=[116,114]
abbrev wP:Ad:=[112]
def JK:List Ad:=[Jf,rX,rY,rZ,wTr]
namespace BS
def NO(b:BS):Int×Int:=
 let d:=Ax (AA [AF]) b.Au
 let c:=Ax (AA [Jf]) b.Au
 if c<d then((DT b.Au d).node,0) else if c<0 then((DT b.Au 0).node,0) else
 let t:=(DT b.Au c).node
 if(b.a.nd t).Gq≠0 then((b.a.nd t).Gq,t) else((DT b.Au (max (c-1) 0)).node,0)
def place(b:BS)(t:Int):Int×Int:=
 if t=0/\b.Au=[] then(b.CB,0) else
 let t':=if t=0 then(En b.Au).node else t
 let pb:=if b.D3=true/\oZ JK b.a t' then b.NO else(t',0)
 if(b.a.nd pb.1).cont≠0 then((b.a.nd pb.1).cont,0) else pb
end BS
open Classical in
def Ar.Gr(A:Ar)(h p bf:Int):Ar:=if(A.nd p).kind=1/\(A.nd h).kind=4/\(∃k∈(A.nd p).Bv,(A.nd k).kind=4) then A else A.Ip p h bf
namespace BS
def L7(b:BS)(p:Int):Int:=if(b.a.nd p).cont≠0 then(if(b.a.nd (b.a.nd p).cont).CB≠0 then(b.a.nd (b.a.nd p).cont).CB else b.CB) else if(b.a.nd p).CB≠0 then(b.a.nd p).CB else b.CB
def LH(sp:Int):Prop:=0<=sp/\sp<=7
instance(sp:Int):Decidable (LH sp):=by unfold LH;infer_instance
def Nk(sp:Int)(nm:Ad):Ad:=if sp=2 then DS nm Oh else nm
def IJ(b:BS)(nm:Ad)(at_:List A9)(sp:Int):Item:=if LH sp then⟨b.a.len+1,sp,Nk sp nm,Q6 sp (Nk sp nm) (at_.map (D2 sp))⟩ else Item.zero
def HL(b:BS)(nm:Ad)(at_:List A9)(sp p:Int):BS:=if LH sp then{b with a:=b.a.elem (b.L7 p) sp (Nk sp nm) (at_.map (D2 sp))} else b
def MQ(b:BS)(sp:Int):Int:=if LH sp then b.a.len+1 else 0
def CX(b:BS)(nm:Ad)(at_:List A9)(sp:Int):BS:=
 if LH sp then
  let pb:=b.place 0
  let b1:=b.HL nm at_ sp pb.1
  {b1 with a:=b1.a.Gr (b.a.len+1) pb.1 pb.2,Au:=b1.Au++[b.IJ nm at_ sp]}
 else b
def Fw(b:BS)(nm:Ad)(at_:List A9):BS:=
 let b1:=b.CX nm at_ 1
 {b1 with AW:=mS ⟨b.a.len+1,nm,at_⟩ b1.AW}
end BS
def MR(r:Int):Ad:=
 if 0<=r/\r<128 then[UInt8.ofNat r.toNat]
 else if 128<=r/\r<2048 then[UInt8.ofNat (192+r.toNat/64),UInt8.ofNat (128+r.toNat%64)]
 else if 2048<=r/\r<65536/\¬(55296<=r/\r<57344) then[UInt8.ofNat (224+r.toNat/4096),UInt8.ofNat (128+r.toNat/64%64),UInt8.ofNat (128+r.toNat%64)]
 else if 65536<=r/\r<=1114111 then[UInt8.ofNat (240+r.toNat/262144),UInt8.ofNat (128+r.toNat/4096%64),UInt8.ofNat (128+r.toNat/64%64),UInt8.ofNat (128+r.toNat%64)]
 else[239,191,189]
def UG(l:List Int)(bf:Int):Option Int:=if bf=0 then l.getLast? else(l.takeWhile λk=>decide (k≠bf)).getLast?
def Ar.Tu(A:Ar)(h:Int)(s:Ad):Ar:=A.set h {A.nd h with data:=s}
def Ar.MS(A:Ar)(h:Int)(l:List A9):Ar:=A.set h {A.nd h with Aq:=Di l}
namespace BS
def Sp(A:Ar)(s:Ad)(p bf:Int):Ar:=
 if(A.nd p).kind=4\/(A.nd p).kind=2 then
  match UG (A.nd p).Bv bf with
  |some t=>if(A.nd t).kind=5 then A.Tu t ((A.nd t).data++s) else(A.add {kind:=5,CB:=(A.nd p).CB,data:=s}).Gr (A.len+1) p bf
  |none=>(A.add {kind:=5,CB:=(A.nd p).CB,data:=s}).Gr (A.len+1) p bf
 else A
def Mo(b:BS)(r:Int):BS:={b with a:=Sp b.a (MR r) (b.place 0).1 (b.place 0).2}
def I5(A:Ar)(s:Ad)(p bf:Int):Ar:=
 if Pz (A.nd p).kind then(A.add {kind:=6,CB:=(A.nd p).CB,data:=s}).Gr (A.len+1) p bf else A
def DA(b:BS)(s:Ad)(p:Int):BS:={b with a:=if p=0 then I5 b.a s (b.place 0).1 (b.place 0).2 else I5 b.a s p 0}
def Df(b:BS)(nm:Ad)(at_:List A9)(st:Int):BS:=let b1:=b.CX nm at_ 1;{b1 with sw:=st,GM:=b1.mode,mode:=8}
def Cs(b:BS):BS:=if Hc (AA [wP]) (Gg 3) b.Au.reverse then{b with Au:=DN C8 (AA [wP]) (DN (Cz wP) C8 b.Au)} else b
def settled(b:BS)(e:B2):Bool:=decide (e.node=0\/0<=Ax (Bq e.node) b.Au)
def JL:List B2->BS->List B2×BS
 |[],b=>([],b)
 |e::l,b=>let r:=JL l (b.CX e.name e.Aq 1);({e with node:=b.a.len+1}::r.1,r.2)
def On(b:BS):Nat:=(Ax b.settled b.AW+1).toNat
def AO(b:BS):BS:=let r:=JL (b.AW.drop b.On) b;{r.2 with AW:=b.AW.take b.On++r.1}
def Dg(b:BS)(nm:Ad):BS:=match b.Au.reverse.find? λi=>AA [nm] i||AL i with
 |some i=>if AA [nm] i then{b with Au:=GK i.node (DN (Cz nm) C8 b.Au)} else b
 |none=>b
def Q8(l:List Item):Int:=match l.reverse.find? λi=>AA [AF] i||AA [Jf] i with
 |some i=>if AA [AF] i then 16 else 17
 |none=>16
end BS
abbrev xi:Ad:=aXl
abbrev mc:Ad:=aXu
abbrev Tv:Ad:=aWX
abbrev me:Ad:=aW0
abbrev Kq:Ad:=aXz
abbrev qp:Ad:=[116,100]
abbrev qq:Ad:=[116,104]
abbrev J1:Ad:=aWW
abbrev JM:Ad:=aWS
def Ib:List (Ad×Int):=[(wTr,14),(rX,13),(rZ,13),(rY,13),(xi,11),(mc,12),(Jf,9),(Tv,7),(me,20)]
namespace BS
def He(b:BS)(x:Item)(k:Nat):Option Int:=
 if x.AX=1 then
  match Ib.find? λr=>decide (r.1=x.name) with
  |some r=>some r.2
  |none=>
   if x.name=Kq then some (Q8 (b.Au.take k))
   else if(x.name=qp\/x.name=qq)/\0<k then some 15
   else if x.name=AF then some (b.tm.getLast?.getD 7)
   else if x.name=J1/\0<k then some 4
   else if x.name=JM then some (if b.head=0 then 3 else 6)
   else if k=0 then some 7 else none
 else if k=0 then some 7 else none
def DO(b:BS)(k:Nat):Item:=if k=0/\b.KH=true then b.ctx else b.Au.getD k Item.zero
def HU(b:BS):Nat->Int
 |0=>7
 |k+1=>match b.He (b.DO k) k with
  |some m=>m
  |none=>b.HU k
def Js(b:BS):BS:={b with mode:=b.HU b.Au.length}
def plain(l:List A9):List A9:=l.map λa=>⟨0,a.name,a.value⟩
def GN(b:BS)(l:List A9)(h:Int):BS:=if(b.a.nd h).kind=4 then{b with a:=b.a.MS h ((b.a.nd h).Aq++plain l)} else b
def CN(b:BS):BS:=
 if Ax (AA [AF]) b.Au<0 then b
 else Js {b with Au:=DN C8 (AA [AF]) (DN Eh C8 b.Au),AW:=EX b.AW,tm:=b.tm.dropLast}
def Gs(b:BS):BS:=if b.Au.length<2 then b else{b with Au:=b.Au.take (b.Au.length-1)}
def aDb(b:BS):Item:=if b.Au.length<2 then Item.zero else En b.Au
end BS
def B2.zero:B2:=⟨0,[],[]⟩
namespace BS
def HF(blk anc:Int)(far i:Nat)(b:BS)(l:Int)(m:Nat):BS×Int×Nat:=
 let x:=b.Au.getD i Item.zero
 let e:=Fo x.node b.AW
 if e<0 then({b with Au:=Bs b.Au i},l,m)
 else if i+3<far then({b with AW:=Bs b.AW e.toNat,Au:=Bs b.Au i},l,if e.toNat<m then m-1 else m)
 else
  let en:=b.AW.getD e.toNat B2.zero
  let n:=b.IJ en.name en.Aq 1
  let b1:=b.HL en.name en.Aq 1 anc
  ({b1 with a:=b1.a.Ip n.node l 0,Au:=b1.Au.set i n,AW:=b1.AW.set e.toNat {en with node:=n.node}},n.node,if l=blk then e.toNat+1 else m)
def O2(blk anc:Int)(far k:Nat):Nat->BS×Int×Nat->BS×Int×Nat
 |0,s=>s
 |c+1,s=>O2 blk anc far k c (HF blk anc far (k+(c+1)) s.1 s.2.1 s.2.2)
def Dx(A:Ar)(n:Int)(l:List Int):Ar:=l.foldl (λA x=>A.Ip n x 0) A
def JN(fe:B2)(blk anc:Int)(s:BS×Int×Nat):BS:=
 let b1:=s.1
 let pb:=b1.place anc
 let d:={b1 with a:=b1.a.Gr s.2.1 pb.1 pb.2}
 let n:=d.IJ fe.name fe.Aq 1
 let b:=d.HL fe.name fe.Aq 1 blk
 let c:=Fo fe.node b.AW
 let mk:=if c.toNat<s.2.2 then s.2.2 -1 else s.2.2
 let ac:=Bs b.AW c.toNat
 let op:=B9 fe.node b.Au
 let ip:=HE (Ax (Bq blk) op+1) op.length
 {b with a:=(Dx b.a n.node (b.a.nd blk).Bv).Ip blk n.node 0,AW:=ac.take (GL mk ac.length)++{fe with node:=n.node}::ac.drop (GL mk ac.length),Au:=op.take ip++n::op.drop ip}
def round(b:BS)(nm:Ad):Bool×BS:=
 let f:=D7 nm b.AW
 if f<0 then(false,b.Dg nm) else
 let fe:=b.AW.getD f.toNat B2.zero
 let k:=Ax (Bq fe.node) b.Au
 if k<0 then(false,{b with AW:=Bs b.AW f.toNat}) else
 if k=0\/Hc (Bq fe.node) (Gg 1) b.Au.reverse=false then(false,b) else
 let far:=D6 fe.node b.Au
 if far<0 then(false,{b with Au:=GK fe.node b.Au,AW:=Bs b.AW f.toNat}) else
 let blk:=(b.Au.getD far.toNat Item.zero).node
 let anc:=(b.Au.getD (k.toNat-1) Item.zero).node
 (true,JN fe blk anc (O2 blk anc far.toNat k.toNat (far.toNat-1 -k.toNat) (b,blk,f.toNat)))
def Hg:Nat->BS->Ad->BS
 |0,b,_=>b
 |n+1,b,nm=>let r:=b.round nm;if r.1 then Hg n r.2 nm else r.2
def Du(b:BS)(nm:Ad):BS:=
 if AA [nm] (En b.Au)/\Fo (En b.Au).node b.AW<0 then b.Gs else Hg 8 b nm
end BS
structure Le(A A':Ar):Prop where
 has:∀h,A.has h->A'.has h
 kind:∀h,A.has h->(A'.nd h).kind=(A.nd h).kind
 AX:∀h,A.has h->(A'.nd h).AX=(A.nd h).AX
 name:∀h,A.has h->(A'.nd h).name=(A.nd h).name
section
variable{A A' A'':Ar}{h k e p n b:Int}{x:HO}
def Le.refl:Le A A:=⟨λ_ h=>h,λ_ _=>rfl,λ_ _=>rfl,λ_ _=>rfl⟩
def Le.trans(h1:Le A A')(h2:Le A' A''):Le A A'':=⟨λh a=>h2.has h (h1.has h a),λh a=>by rw[h2.kind h (h1.has h a),h1.kind h a],λh a=>by rw[h2.AX h (h1.has h a),h1.AX h a],λh a=>by rw[h2.name h (h1.has h a),h1.name h a]⟩
def Le.aBl(h1:∀h,A.has h->A'.has h)(h2:∀h,A.has h->A'.nd h=A.nd h):Le A A':=⟨h1,λh a=>by rw[h2 h a],λh a=>by rw[h2 h a],λh a=>by rw[h2 h a]⟩
def UH(a:A.has h):h≠A.len+1:=λe=>So (A:=A) (e▸a)
def MT(a:A.has h):(A.add x).nd h=A.nd h:=by rw[L6,if_neg (UH a)]
def Qn:Le A (A.add x):= .aBl (λh a=>Et.2 (.inl a)) λh a=>MT a
def Qo(h1:x.kind=(A.nd h).kind)(h2:x.AX=(A.nd h).AX)(h3:x.name=(A.nd h).name):Le A (A.set h x):=by
 refine⟨λk hk=>JB.2 hk,?_,?_,?_⟩<;>intro k hk<;>rw[Ko]<;>split;.rename_i e;rw[e.1,h1]
 .rfl
 .rename_i e;rw[e.1,h2]
 .rfl
 .rename_i e;rw[e.1,h3]
 .rfl
def wY{l:List Int}:Le A (A.set h {A.nd h with Bv:=l}):=Qo rfl rfl rfl
def wZ:Le A (A.set h {A.nd h with Gq:=p}):=Qo rfl rfl rfl
def sB:Le A (A.cut n):=by
 unfold Ar.cut;simp only;split;.exact .refl
 .exact Le.trans wY wZ
def aDc:Le A (A.Nf p n b):=Le.trans wY wZ
def I6:Le A (A.Ip p n b):=by unfold Ar.Ip;split;exact sB.trans aDc;exact .refl
def JC:Le A (A.Gr n p b):=by unfold Ar.Gr;split;exact .refl;exact I6
def Q9(ok:Fl A e):Fl (A.Gr n p b) e:=by unfold Ar.Gr;split;exact ok;exact O0 ok
def mT{d sp:Int}{nm:Ad}{l:List A9}(a:A.has h):(A.elem d sp nm l).has h/\(A.elem d sp nm l).nd h=A.nd h:=by
 have hne:=UH a;unfold Ar.elem;simp only
 split;.have h1:(A.add {kind:=4,CB:=d,AX:=sp,name:=nm,Aq:=Di l}).has h:=Et.2 (.inl a);refine⟨JB.2 (Et.2 (.inl (Om h1))),?_⟩;rw[Ko,if_neg (λe=>hne e.1),MT (Om h1),Ym (.inl (UH h1)),MT a]
 .exact⟨Et.2 (.inl a),MT a⟩
def Tw{d sp:Int}{nm:Ad}{l:List A9}:(A.elem d sp nm l).has (A.len+1)/\((A.elem d sp nm l).nd (A.len+1)).kind=4/\((A.elem d sp nm l).nd (A.len+1)).AX=sp/\((A.elem d sp nm l).nd (A.len+1)).name=nm/\((A.elem d sp nm l).nd (A.len+1)).Bv=[]/\((A.elem d sp nm l).nd (A.len+1)).Gq=0/\((A.elem d sp nm l).nd (A.len+1)).CB=d/\((A.elem d sp nm l).nd (A.len+1)).Aq=Di l:=by
 unfold Ar.elem;simp only
 split;.have h1:(A.add {kind:=4,CB:=d,AX:=sp,name:=nm,Aq:=Di l}).has (A.len+1):=Et.2 (.inr rfl);have h2:=Et (x:={kind:=2,E3:=A.len+1,CB:=(A.add {kind:=4,CB:=d,AX:=sp,name:=nm,Aq:=Di l}).Iq d}).2 (.inl (Om (h:=d) h1));rw[JB,Ko,if_pos ⟨rfl,h2⟩];exact⟨h2,rfl,rfl,rfl,rfl,rfl,rfl,rfl⟩
 .rw[L6,if_pos rfl];exact⟨Et.2 (.inr rfl),rfl,rfl,rfl,rfl,rfl,rfl,rfl⟩
def fB{d sp:Int}{nm:Ad}{l:List A9}:Le A (A.elem d sp nm l):= .aBl (λ_ h=>(mT h).1) λ_ h=>(mT h).2
def mU{l:List A9}(ok:Fl A e)(c:A.has h)(hk:(A.nd h).kind=4)(hl:∀a∈l,0<=a.AX/\a.AX<=7):Fl (A.MS h l) e:=by have hx:=ok.Ub h c;refine eZ ok c ⟨hx.k,hx.Bv,λh=>absurd hk h,hx.nm,hx.dt,hx.data,hx.DH,hx.sp,λa ha=>hl a (mM ha),bN l,hx.Tt,hx.Ol,hx.root,hx.wT⟩ rfl rfl rfl ⟨(ok.CB h c).1,(ok.CB h c).2,ok.Yj h c⟩ rfl rfl λd=>d
def sC{s:Ad}(ok:Fl A e)(a:A.has h)(hk:(A.nd h).kind=5\/(A.nd h).kind=6):Fl (A.Tu h s) e:=by have hx:=ok.Ub h a;refine eZ ok a ⟨hx.k,hx.Bv,hx.elem,hx.nm,hx.dt,λf d=>by have:(A.nd h).kind≠5:=f;have:(A.nd h).kind≠6:=d;omega,hx.DH,hx.sp,hx.xe,hx.Di,hx.Tt,hx.Ol,hx.root,hx.wT⟩ rfl rfl rfl ⟨(ok.CB h a).1,(ok.CB h a).2,ok.Yj h a⟩ rfl rfl λc=>c
def fC{kd d:Int}{s:Ad}(ok:Fl A e)(he:e≠A.len+1)(hd:A.has d/\(A.nd d).kind=1)(hk:kd=5\/kd=6):Fl (A.add {kind:=kd,CB:=d,data:=s}) e:=by
 refine Qm ok ?_ (.inr ⟨by simp;omega,hd⟩) rfl rfl rfl rfl (λh=>?_);.constructor<;>simp[Di,Gu]<;>omega
 .have:=h.1;simp at this;omega
def sD{s:Ad}:Le A (A.Tu h s):=Qo rfl rfl rfl
def Qp{l:List A9}:Le A (A.MS h l):=Qo rfl rfl rfl
def xj{sp:Int}{a:A9}:0<=(D2 sp a).AX/\(D2 sp a).AX<=7:=by
 unfold D2;split
 .split
  .rename_i s m he;have:∀x∈fT,0<=x.2.1/\x.2.1<=7:=by decide
   unfold J0 at he;cases hf:fT.find? λx=>decide (Nx sp a.name=x.1) with
   |none=>rw[hf] at he;cases he
   |some y=>rw[hf] at he;have:=this y (Rw hf);simp at he;rw[he] at this;exact this
  .exact⟨Mf 0,by simp⟩
 .exact⟨Mf 0,by simp⟩
end
structure Fa(b:BS):Prop where
 ok:Fl b.a 0
 CB:b.a.has b.CB/\(b.a.nd b.CB).kind=1
 op:∀i∈b.Au,b.a.has i.node/\(b.a.nd i.node).kind=4/\(b.a.nd i.node).AX=i.AX/\(b.a.nd i.node).name=i.name
 qt:(b.Au.map Item.node).Nodup
 ac:∀e∈b.AW,e.node=0\/(b.a.has e.node/\(b.a.nd e.node).kind=4)
 qu:((b.AW.map B2.node).filter λn=>decide (n≠0)).Nodup
section
variable{b:BS}{t:Int}
def ņ{A A':Ar}{l:List Item}(hl:Le A A')(h:∀i∈l,A.has i.node/\(A.nd i.node).kind=4/\(A.nd i.node).AX=i.AX/\(A.nd i.node).name=i.name):∀i∈l,A'.has i.node/\(A'.nd i.node).kind=4/\(A'.nd i.node).AX=i.AX/\(A'.nd i.node).name=i.name:=by intro i hi;have:=h i hi;rw[hl.kind _ this.1,hl.AX _ this.1,hl.name _ this.1];exact⟨hl.has _ this.1,this.2⟩
def WA{A A':Ar}{l:List B2}(hl:Le A A')(h:∀e∈l,e.node=0\/(A.has e.node/\(A.nd e.node).kind=4)):∀e∈l,e.node=0\/(A'.has e.node/\(A'.nd e.node).kind=4):=by
 intro e he;rcases h e he with h|h
 .exact .inl h
 .rw[hl.kind _ h.1];exact .inr ⟨hl.has _ h.1,h.2⟩
def Fa.IK(o:Fa b){A:Ar}(ok:Fl A 0)(hl:Le b.a A):Fa {b with a:=A}:=
 ⟨ok,by rw[hl.kind _ o.CB.1];exact⟨hl.has _ o.CB.1,o.CB.2⟩,ņ hl o.op,o.qt,WA hl o.ac,o.qu⟩
def Fa.aMt(o:Fa b){l:List Item}(h1:∀i∈l,i∈b.Au)(h2:(l.map Item.node).Nodup):Fa {b with Au:=l}:=
 ⟨o.ok,o.CB,λi hi=>o.op i (h1 i hi),h2,o.ac,o.qu⟩
def Fa.Ka(o:Fa b){l:List Item}(h1:List.Sublist l b.Au):Fa {b with Au:=l}:=o.aMt (λ_ hi=>h1.subset hi) (o.qt.sublist (h1.map _))
def Fa.fD(o:Fa b){l:List B2}(h1:List.Sublist l b.AW):Fa {b with AW:=l}:=
 ⟨o.ok,o.CB,o.op,o.qt,λe he=>o.ac e (h1.subset he),o.qu.sublist ((h1.map _).filter _)⟩
def MU{l:List Item}{i:Int}:List.Sublist (Hd l i) l:=Ca _ _
def C5{p q:Item->Bool}{l:List Item}:List.Sublist (DN p q l) l:=by
 have key:∀r:List Item,List.Sublist (Pw p q r) r:=by
  intro r;induction r with
  |nil=>exact BK _
  |cons x r ih=>
   cases r with
   |nil=>exact BK _
   |cons y r=>
    rw[Pw];split;.exact BK _
    .split;.exact U9 _ _
     .exact ih.trans (U9 _ _)
 have:=(key l.reverse).reverse;rwa [Ds] at this
def IL{n:Int}{l:List Item}:List.Sublist (GK n l) l:=by unfold GK;split;exact BK _;exact C5
def CA{U:Type}{l:List U}{k:Nat}:List.Sublist (Bs l k) l:=by
 unfold Bs;conv=>rhs;rw[<-Bl k l]
 refine List.Sublist.append (BK _) ?_;rw[<-Ed];exact aRX _ _
def Eo{n:Int}{l:List Item}:List.Sublist (B9 n l) l:=by unfold B9;split;exact BK _;exact CA
def K0{l:List Item}{i:Int}(h0:0<=i)(h1:i<l.length):DT l i∈l:=by unfold DT;rw[if_pos h0,AG,An (by omega)];exact Ay _
def K4{U:Type}{q:U->Bool}{l:List U}:Ax q l<l.length∧-1<=Ax q l:=by rcases B8 (q:=q) (l:=l) with⟨h1,_⟩|⟨n,hn,h1,_⟩<;>rw[h1]<;>omega
def mf{l:List Item}(h:l≠[]):En l∈l:=by have:0<l.length:=Cq.2 h;exact K0 (by omega) (by omega)
def Ň(o:Fa b)(hn:b.Au≠[]):b.a.has b.NO.1/\(b.NO.2≠0->b.a.has b.NO.2/\(b.a.nd b.NO.2).Gq=b.NO.1):=by
 have hl:0<b.Au.length:=Cq.2 hn;have h1:=K4 (q:=AA [AF]) (l:=b.Au);have h2:=K4 (q:=AA [Jf]) (l:=b.Au);unfold BS.NO;simp only
 split;.exact⟨(o.op _ (K0 (by omega) (by omega))).1,λh=>absurd rfl h⟩
 .split;.exact⟨(o.op _ (K0 (by omega) (by omega))).1,λh=>absurd rfl h⟩
  .have h3:=o.op _ (K0 (l:=b.Au) (i:=Ax (AA [Jf]) b.Au) (by omega) (by omega));split;.rename_i hp;exact⟨(o.ok.Gq _ h3.1 hp).1,λ_=>⟨h3.1,rfl⟩⟩
   .exact⟨(o.op _ (K0 (by omega) (by omega))).1,λh=>absurd rfl h⟩
def Yn(o:Fa b)(ht:t=0\/(b.a.has t/\b.Au≠[])):b.a.has (b.place t).1/\((b.place t).2≠0->b.a.has (b.place t).2/\(b.a.nd (b.place t).2).Gq=(b.place t).1):=by
 unfold BS.place;simp only
 split;.exact⟨o.CB.1,λh=>absurd rfl h⟩
 .rename_i h0;have hn:b.Au≠[]:=by
   rcases ht with h|h
   .intro h2;exact h0 ⟨h,h2⟩
   .exact h.2
  have h1:b.a.has (if t=0 then(En b.Au).node else t):=by
   split;.exact(o.op _ (mf hn)).1
   .rename_i h2;exact(ht.resolve_left h2).1
  generalize(if t=0 then(En b.Au).node else t)=t' at h1;have h2:b.a.has (if b.D3=true/\oZ JK b.a t' then b.NO else(t',0)).1/\((if b.D3=true/\oZ JK b.a t' then b.NO else(t',0)).2≠0->b.a.has (if b.D3=true/\oZ JK b.a t' then b.NO else(t',0)).2/\(b.a.nd (if b.D3=true/\oZ JK b.a t' then b.NO else(t',0)).2).Gq=(if b.D3=true/\oZ JK b.a t' then b.NO else(t',0)).1):=by
   split;.exact Ň o hn
   .exact⟨h1,λh=>absurd rfl h⟩
  generalize(if b.D3=true/\oZ JK b.a t' then b.NO else(t',0))=pb at h2;split;.rename_i hc;exact⟨(o.ok.cont _ h2.1 hc).1,λh=>absurd rfl h⟩
  .exact h2
def bO(o:Fa b){p:Int}:b.a.has (b.L7 p)/\(b.a.nd (b.L7 p)).kind=1:=by
 unfold BS.L7;by_cases hp:b.a.has p
 .have key:∀q,b.a.has q->b.a.has (if(b.a.nd q).CB≠0 then(b.a.nd q).CB else b.CB)/\(b.a.nd (if(b.a.nd q).CB≠0 then(b.a.nd q).CB else b.CB)).kind=1:=by
   intro q hq;split;.exact o.ok.CB q hq
   .exact o.CB
  split;.rename_i hc;exact key _ (o.ok.cont p hp hc).1
  .exact key p hp
 .rw[Py hp];exact o.CB
variable{nm:Ad}{at_:List A9}{sp p:Int}
structure xk(b b1:BS)(i:Item):Prop where
 has:b1.a.has i.node
 kind:(b1.a.nd i.node).kind=4
 AX:(b1.a.nd i.node).AX=i.AX
 name:(b1.a.nd i.node).name=i.name
 new:¬b.a.has i.node
def VG(o:Fa b)(hs:BS.LH sp):Fa (b.HL nm at_ sp p)/\xk b (b.HL nm at_ sp p) (b.IJ nm at_ sp)/\Le b.a (b.HL nm at_ sp p).a:=by
 have hd:=bO o (p:=p);unfold BS.HL BS.IJ;rw[if_pos hs,if_pos hs];have ok:=Ņ (sp:=sp) (nm:=BS.Nk sp nm) (l:=at_.map (D2 sp)) o.ok hd hs (by intro a ha;obtain⟨c,_,rfl⟩:=Bb.1 ha;exact xj)
 have hn:=Tw (A:=b.a) (d:=b.L7 p) (sp:=sp) (nm:=BS.Nk sp nm) (l:=at_.map (D2 sp));exact⟨o.IK ok fB,⟨hn.1,hn.2.1,hn.2.2.1,hn.2.2.2.1,So⟩,fB⟩
def Ra(o:Fa b){b1:BS}{i:Item}(f:xk b b1 i):i.node∉b.Au.map Item.node:=by intro h;obtain⟨j,hj,e⟩:=Bb.1 h;exact f.new (e▸(o.op j hj).1)
def UI(o:Fa b){b1:BS}{i:Item}(f:xk b b1 i):i.node∉b.AW.map B2.node:=by
 intro h;obtain⟨j,hj,e⟩:=Bb.1 h;rcases o.ac j hj with h1|h1
 .have:=f.has.1;omega
 .exact f.new (e▸h1.1)
def mg{U:Type}[DecidableEq U]{l:List U}{k:Nat}{x:U}(h:l.Nodup)(hx:x∉l):(l.take k++x::l.drop k).Nodup:=by
 have e:=Bl k l;rw[BU];rw[<-e,BU] at h;refine⟨h.1,BW.2 ⟨λh1=>hx (Bc h1),h.2.1⟩,?_⟩;rintro a ha c hc rfl;rcases Aw.1 hc with rfl|hc
 .exact hx (AZ ha)
 .exact h.2.2 _ ha _ hc rfl
def sE{U:Type}[DecidableEq U]{l:List U}{k:Nat}{x:U}(h:l.Nodup)(hx:x∉l):(l.set k x).Nodup:=by
 rw[B0];split
 .have e:=Bl k l;rw[BU];rw[<-e,BU] at h;have hd:List.Sublist (l.drop (k+1)) (l.drop k):=by rw[<-Ed];exact aRX _ _
  refine⟨h.1,BW.2 ⟨λh1=>hx (Bc h1),h.2.1.sublist hd⟩,?_⟩;rintro a ha c hc rfl;rcases Aw.1 hc with rfl|hc
  .exact hx (AZ ha)
  .exact h.2.2 _ ha _ (hd.subset hc) rfl
 .exact h
def bP{U Z:Type}(f:U->Z)(l:List U)(k:Nat)(x:U):(l.take k++x::l.drop k).map f=(l.map f).take k++f x::(l.map f).drop k:=by simp
def Fa.ň(o:Fa b){i:Item}{k:Nat}(h1:b.a.has i.node/\(b.a.nd i.node).kind=4/\(b.a.nd i.node).AX=i.AX/\(b.a.nd i.node).name=i.name)(h2:i.node∉b.Au.map Item.node):Fa {b with Au:=b.Au.take k++i::b.Au.drop k}:=by
 refine⟨o.ok,o.CB,?_,by show((b.Au.take k++i::b.Au.drop k).map Item.node).Nodup;rw[bP];exact mg o.qt h2,o.ac,o.qu⟩;intro j hj;rcases Aj.1 hj with hj|hj
 .exact o.op j (AZ hj)
 .rcases Aw.1 hj with rfl|hj
  .exact h1
  .exact o.op j (Bc hj)
def Fa.xl(o:Fa b){i:Item}{k:Nat}(h1:b.a.has i.node/\(b.a.nd i.node).kind=4/\(b.a.nd i.node).AX=i.AX/\(b.a.nd i.node).name=i.name)(h2:i.node∉b.Au.map Item.node):Fa {b with Au:=b.Au.set k i}:=by
 refine⟨o.ok,o.CB,?_,by show((b.Au.set k i).map Item.node).Nodup;rw[Hp];exact sE o.qt h2,o.ac,o.qu⟩;intro j hj;rcases Dm hj with hj|rfl
 .exact o.op j hj
 .exact h1
def xm{l:List Int}{k:Nat}{x:Int}(h:(l.filter λn=>decide (n≠0)).Nodup)(hx:x∉l):((l.take k++x::l.drop k).filter λn=>decide (n≠0)).Nodup:=by
 have e:=Bl k l;rw[<-e,Bu,BU] at h;rw[Bu,BU];by_cases h0:x=0;.subst h0;simpa using h
 .rw[Ea (by simpa using h0)];refine⟨h.1,BW.2 ⟨λh1=>hx (Bc ((BV.1 h1).1)),h.2.1⟩,?_⟩;rintro a ha c hc rfl;rcases Aw.1 hc with rfl|hc
  .exact hx (AZ (BV.1 ha).1)
  .exact h.2.2 _ ha _ hc rfl
def xn{l:List Int}{k:Nat}{x:Int}(h:(l.filter λn=>decide (n≠0)).Nodup)(hx:x∉l):((l.set k x).filter λn=>decide (n≠0)).Nodup:=by
 rw[B0];split
 .have h2:(((l.take k++l.drop (k+1))).filter λn=>decide (n≠0)).Nodup:=h.sublist ((show List.Sublist (Bs l k) l from CA).filter _);rw[Bu,BU] at h2⊢;by_cases h0:x=0;.subst h0;simpa using h2
  .rw[Ea (by simpa using h0)];refine⟨h2.1,BW.2 ⟨λh1=>hx (Bc ((BV.1 h1).1)),h2.2.1⟩,?_⟩;rintro a ha c hc rfl;rcases Aw.1 hc with rfl|hc
   .exact hx (AZ (BV.1 ha).1)
   .exact h2.2.2 _ ha _ hc rfl
 .exact h
def Fa.aDd(o:Fa b){e:B2}{k:Nat}(h1:e.node=0\/(b.a.has e.node/\(b.a.nd e.node).kind=4))(h2:e.node=0\/e.node∉b.AW.map B2.node):Fa {b with AW:=b.AW.take k++e::b.AW.drop k}:=by
 refine⟨o.ok,o.CB,o.op,o.qt,?_,?_⟩
 .intro j hj;rcases Aj.1 hj with hj|hj
  .exact o.ac j (AZ hj)
  .rcases Aw.1 hj with rfl|hj
   .exact h1
   .exact o.ac j (Bc hj)
 .show(((b.AW.take k++e::b.AW.drop k).map B2.node).filter _).Nodup;rw[bP];rcases h2 with h2|h2
  .have:=o.qu;conv at this=>rw[<-Bl k (b.AW.map B2.node),Bu]
   rw[Bu,E6 (by simp[h2])];exact this
  .exact xm o.qu h2
def Fa.xo(o:Fa b){e:B2}{k:Nat}(h1:b.a.has e.node/\(b.a.nd e.node).kind=4)(h2:e.node∉b.AW.map B2.node):Fa {b with AW:=b.AW.set k e}:=by
 refine⟨o.ok,o.CB,o.op,o.qt,?_,?_⟩
 .intro j hj;rcases Dm hj with hj|rfl
  .exact o.ac j hj
  .exact .inr h1
 .show(((b.AW.set k e).map B2.node).filter _).Nodup;rw[Hp];exact xn o.qu h2
def Yo(o:Fa b):Fa (b.CX nm at_ sp):=by
 unfold BS.CX;split
 .rename_i hs;obtain⟨d,f,hl⟩:=VG (nm:=nm) (at_:=at_) (p:=(b.place 0).1) o hs;have g:=d.IK (Q9 (n:=b.a.len+1) (p:=(b.place 0).1) (b:=(b.place 0).2) d.ok) JC;have hn:(b.IJ nm at_ sp).node=b.a.len+1:=by unfold BS.IJ;rw[if_pos hs]
  have c:Le (b.HL nm at_ sp (b.place 0).1).a ((b.HL nm at_ sp (b.place 0).1).a.Gr (b.a.len+1) (b.place 0).1 (b.place 0).2):=JC;have ho:(b.HL nm at_ sp (b.place 0).1).Au=b.Au:=by unfold BS.HL;rw[if_pos hs]
  have:=g.ň (i:=b.IJ nm at_ sp) (k:=b.Au.length) ⟨c.has _ f.has,by rw[c.kind _ f.has];exact f.kind,by rw[c.AX _ f.has];exact f.AX,by rw[c.name _ f.has];exact f.name⟩ (by simp only[ho];exact Ra o f);simp only[ho,Bf,E7] at this;simp only[ho];exact this
 .exact o
def Tx{l:List B2}{e:B2}:∃l',List.Sublist l' l/\mS e l=l'++[e]:=by
 unfold mS;split;.exact⟨_,CA,rfl⟩
 .exact⟨_,BK _,rfl⟩
def O3:Le b.a (b.CX nm at_ sp).a:=by
 unfold BS.CX BS.HL;split;.exact Le.trans fB JC
 .exact .refl
def Yp(hs:BS.LH sp):(b.CX nm at_ sp).a.has (b.a.len+1)/\((b.CX nm at_ sp).a.nd (b.a.len+1)).kind=4:=by
 unfold BS.CX BS.HL;rw[if_pos hs];simp only
 rw[if_pos hs];have hn:=Tw (A:=b.a) (d:=b.L7 (b.place 0).1) (sp:=sp) (nm:=BS.Nk sp nm) (l:=at_.map (D2 sp));exact⟨JC.has _ hn.1,by rw[JC.kind _ hn.1];exact hn.2.1⟩
def Gi:(b.CX nm at_ sp).AW=b.AW:=by unfold BS.CX BS.HL;split<;>rfl
def Lm:BS.LH 1:=⟨by decide,by decide⟩
def ŉ(o:Fa b):b.a.len+1∉b.AW.map B2.node:=by
 intro h;obtain⟨j,hj,e⟩:=Bb.1 h;rcases o.ac j hj with h1|h1
 .unfold Ar.len at e;omega
 .exact So (e▸h1.1)
def bQ(o:Fa b):Fa (b.Fw nm at_):=by
 have d:=Yo (nm:=nm) (at_:=at_) (sp:=1) o;unfold BS.Fw;simp only
 obtain⟨l',h1,h2⟩:=Tx (l:=(b.CX nm at_ 1).AW) (e:=⟨b.a.len+1,nm,at_⟩);rw[h2];have c:=d.fD h1;have:=c.aDd (e:=⟨b.a.len+1,nm,at_⟩) (k:=l'.length) (.inr (Yp Lm)) (.inr (by intro h;rw[Gi] at h1;exact ŉ o ((h1.map B2.node).subset h)))
 simpa using this
def Fa.of_eq{c:BS}(o:Fa b)(h1:c.a=b.a)(h2:c.CB=b.CB)(h3:c.Au=b.Au)(d:c.AW=b.AW):Fa c:=
 ⟨h1▸o.ok,by rw[h1,h2];exact o.CB,by rw[h1,h3];exact o.op,by rw[h3];exact o.qt,by rw[h1,d];exact o.ac,by rw[d];exact o.qu⟩
def sF{l:List Int}{bf t:Int}(h:UG l bf=some t):t∈l:=by
 unfold UG at h;split at h;.exact aKg h
 .exact(List.takeWhile_sublist _).subset (aKg h)
def bR{A:Ar}{s:Ad}{p bf:Int}(ok:Fl A 0)(hp:A.has p):Fl (BS.Sp A s p bf) 0/\Le A (BS.Sp A s p bf):=by
 have h0:(0:Int)≠A.len+1:=by unfold Ar.len;omega
 have ha:=Q9 (n:=A.len+1) (p:=p) (b:=bf) (fC (s:=s) (kd:=5) ok h0 (ok.CB p hp) (.inl rfl));have hl:Le A ((A.add {kind:=5,CB:=(A.nd p).CB,data:=s}).Gr (A.len+1) p bf):=Le.trans Qn JC;unfold BS.Sp;split
 .split
  .rename_i t ht;split;.rename_i hk;exact⟨sC ok (ok.Rt p hp _ (sF ht)).1 (.inl hk),sD⟩
   .exact⟨ha,hl⟩
  .exact⟨ha,hl⟩
 .exact⟨ok,.refl⟩
def xA(o:Fa b){r:Int}:Fa (b.Mo r):=by have h:=bR (s:=MR r) (bf:=(b.place 0).2) o.ok (Yn o (.inl rfl)).1;exact o.IK h.1 h.2
def Mp{A:Ar}{s:Ad}{p bf:Int}(ok:Fl A 0):Fl (BS.I5 A s p bf) 0/\Le A (BS.I5 A s p bf):=by
 unfold BS.I5;split
 .rename_i hk;have hp:A.has p:=by
   by_cases hp:A.has p;.exact hp
   .rw[Py hp] at hk;unfold Pz at hk;simp at hk
  have h0:(0:Int)≠A.len+1:=by unfold Ar.len;omega
  exact⟨Q9 (fC (s:=s) (kd:=6) ok h0 (ok.CB p hp) (.inr rfl)),Le.trans Qn JC⟩
 .exact⟨ok,.refl⟩
def Yq(o:Fa b){s:Ad}{p:Int}:Fa (b.DA s p):=by
 unfold BS.DA;split;.have h:=Mp (s:=s) (p:=(b.place 0).1) (bf:=(b.place 0).2) o.ok;exact o.IK h.1 h.2
 .have h:=Mp (s:=s) (p:=p) (bf:=0) o.ok;exact o.IK h.1 h.2
def bS(o:Fa b):Fa (b.Dg nm):=by
 unfold BS.Dg;split
 .split;.exact o.Ka (IL.trans C5)
  .exact o
 .exact o
def mV(o:Fa b){l:List A9}{h:Int}:Fa (b.GN l h):=by
 unfold BS.GN;split
 .rename_i hk;have d:b.a.has h:=by
   by_cases hp:b.a.has h;.exact hp
   .rw[Py hp] at hk;simp at hk
  refine o.IK (mU o.ok d hk ?_) Qp;intro a ha;rcases Aj.1 ha with ha|ha
  .exact(o.ok.Ub h d).xe a ha
  .obtain⟨c,_,rfl⟩:=Bb.1 ha;simp
 .exact o
def aDe(o:Fa b):Fa b.Gs:=by
 unfold BS.Gs;split;.exact o
 .exact o.Ka (Ca _ _)
structure aHZ(b:BS)(l:List B2)(r:List B2×BS):Prop where
 ok:Fa r.2
 le:Le b.a r.2.a
 AW:r.2.AW=b.AW
 len:r.1.length=l.length
 nodes:∀e∈r.1,r.2.a.has e.node/\(r.2.a.nd e.node).kind=4/\¬b.a.has e.node
 aBm:(r.1.map B2.node).Nodup
 aH0:r.1.map B2.name=l.map B2.name
def xB:∀{l:List B2} {b:BS},Fa b->aHZ b l (BS.JL l b)
 |[],b,o=>by
  refine⟨o,.refl,rfl,rfl,?_,?_,rfl⟩;.intro e he;cases he
  .exact ú
 |e::l,b,o=>by
  have d:=Yo (nm:=e.name) (at_:=e.Aq) (sp:=1) o;have r:=xB (l:=l) d;have hl:Le b.a (b.CX e.name e.Aq 1).a:=O3;have hn:=Yp (b:=b) (nm:=e.name) (at_:=e.Aq) Lm;refine⟨r.ok,hl.trans r.le,r.AW.trans Gi,by simp[BS.JL,r.len],?_,?_,by simp[BS.JL,r.aH0]⟩
  .intro c hc;rcases Aw.1 hc with rfl|hc
   .exact⟨r.le.has _ hn.1,(r.le.kind _ hn.1).trans hn.2,So⟩
   .have:=r.nodes c hc;exact⟨this.1,this.2.1,λh=>this.2.2 (hl.has _ h)⟩
  .simp only[BS.JL,Bd,BW];refine⟨λh=>?_,r.aBm⟩;obtain⟨c,hc,f⟩:=Bb.1 h;exact(r.nodes c hc).2.2 (f▸hn.1)
def Yr(o:Fa b):Fa b.AO:=by
 have r:=xB (l:=b.AW.drop b.On) o;unfold BS.AO;simp only
 have hc:=WA r.le o.ac;refine⟨r.ok.ok,r.ok.CB,r.ok.op,r.ok.qt,?_,?_⟩
 .intro e he;rcases Aj.1 he with he|he
  .exact hc e (AZ he)
  .exact .inr ⟨(r.nodes e he).1,(r.nodes e he).2.1⟩
 .show(((b.AW.take b.On++(BS.JL (b.AW.drop b.On) b).1).map B2.node).filter _).Nodup;rw[Cb,Bu,BU];refine⟨o.qu.sublist (((Ca _ _).map _).filter _),r.aBm.filter _,?_⟩;rintro a ha c LX rfl;obtain⟨i,h1,rfl⟩:=Bb.1 (BV.1 ha).1;obtain⟨g,h2,f⟩:=Bb.1 (BV.1 LX).1;have h3:=(r.nodes g h2);rw[f] at h3;rcases o.ac i (AZ h1) with d|d
  .have:=h3.1.1;omega
  .exact h3.2.2 d.1
def Tz(o:Fa b){blk anc:Int}{far i:Nat}{l:Int}{m:Nat}(hl:b.a.has l):Fa (BS.HF blk anc far i b l m).1/\(BS.HF blk anc far i b l m).1.a.has (BS.HF blk anc far i b l m).2.1/\Le b.a (BS.HF blk anc far i b l m).1.a:=by
 unfold BS.HF;simp only
 split;.exact⟨o.Ka CA,hl,.refl⟩
 .split;.exact⟨(o.fD CA).Ka CA,hl,.refl⟩
  .generalize Rb:b.AW.getD (Fo (b.Au.getD i Item.zero).node b.AW).toNat B2.zero=en;obtain⟨d,f,EC⟩:=VG (nm:=en.name) (at_:=en.Aq) (p:=anc) o Lm;have c:Le (b.HL en.name en.Aq 1 anc).a ((b.HL en.name en.Aq 1 anc).a.Ip (b.IJ en.name en.Aq 1).node l 0):=I6;have RA:(b.HL en.name en.Aq 1 anc).Au=b.Au:=by unfold BS.HL;rw[if_pos Lm]
   have fE:(b.HL en.name en.Aq 1 anc).AW=b.AW:=by unfold BS.HL;rw[if_pos Lm]
   have q:=d.IK (O0 (p:=(b.IJ en.name en.Aq 1).node) (n:=l) (b:=0) d.ok) c;have j:=q.xl (i:=b.IJ en.name en.Aq 1) (k:=i) ⟨c.has _ f.has,by rw[c.kind _ f.has];exact f.kind,by rw[c.AX _ f.has];exact f.AX,by rw[c.name _ f.has];exact f.name⟩ (by simp only[RA];exact Ra o f);have g:=j.xo (e:={en with node:=(b.IJ en.name en.Aq 1).node}) (k:=(Fo (b.Au.getD i Item.zero).node b.AW).toNat) ⟨c.has _ f.has,by rw[c.kind _ f.has];exact f.kind⟩ (by simp only[fE];exact UI o f);exact⟨g,c.has _ f.has,EC.trans c⟩
def fF{blk anc:Int}{far k:Nat}:∀{c:Nat} {s:BS×Int×Nat},Fa s.1->s.1.a.has s.2.1->Fa (BS.O2 blk anc far k c s).1/\(BS.O2 blk anc far k c s).1.a.has (BS.O2 blk anc far k c s).2.1/\Le s.1.a (BS.O2 blk anc far k c s).1.a
 |0,s,o,h=>⟨o,h,.refl⟩
 |c+1,s,o,h=>by obtain⟨f,h1,l1⟩:=Tz (blk:=blk) (anc:=anc) (far:=far) (i:=k+(c+1)) (m:=s.2.2) o h;obtain⟨d,h2,g⟩:=fF (blk:=blk) (anc:=anc) (far:=far) (k:=k) (c:=c) f h1;exact⟨d,h2,l1.trans g⟩
def LI{n:Int}:∀{l:List Int} {A:Ar},Fl A 0->Fl (BS.Dx A n l) 0/\Le A (BS.Dx A n l)
 |[],A,ok=>⟨ok,.refl⟩
 |x::l,A,ok=>by have h:=LI (n:=n) (l:=l) (O0 (p:=n) (n:=x) (b:=0) ok);exact⟨h.1,Le.trans I6 h.2⟩
def bT{fe:B2}{blk anc:Int}{s:BS×Int×Nat}(o:Fa s.1):Fa (BS.JN fe blk anc s)/\Le s.1.a (BS.JN fe blk anc s).a:=by
 unfold BS.JN;simp only
 generalize qv:s.1.place anc=pb;have l1:Le s.1.a (s.1.a.Gr s.2.1 pb.1 pb.2):=JC;have j:=o.IK (Q9 (n:=s.2.1) (p:=pb.1) (b:=pb.2) o.ok) l1;generalize RJ:({s.1 with a:=s.1.a.Gr s.2.1 pb.1 pb.2}:BS)=d at j;have Us:d.a=s.1.a.Gr s.2.1 pb.1 pb.2:=by rw[<-RJ]
 have kL:d.Au=s.1.Au:=by rw[<-RJ]
 have LX:d.AW=s.1.AW:=by rw[<-RJ]
 obtain⟨r,f,l3⟩:=VG (nm:=fe.name) (at_:=fe.Aq) (p:=blk) j Lm;have RA:(d.HL fe.name fe.Aq 1 blk).Au=d.Au:=by unfold BS.HL;rw[if_pos Lm]
 have fE:(d.HL fe.name fe.Aq 1 blk).AW=d.AW:=by unfold BS.HL;rw[if_pos Lm]
 generalize z:d.HL fe.name fe.Aq 1 blk=c at*;generalize hn:d.IJ fe.name fe.Aq 1=n at*;obtain⟨q,l4⟩:=LI (n:=n.node) (l:=(c.a.nd blk).Bv) r.ok;have m:=O0 (p:=blk) (n:=n.node) (b:=0) q;have g:Le c.a ((BS.Dx c.a n.node (c.a.nd blk).Bv).Ip blk n.node 0):=l4.trans I6;have v:=r.IK m g;have fr:((BS.Dx c.a n.node (c.a.nd blk).Bv).Ip blk n.node 0).has n.node/\(((BS.Dx c.a n.node (c.a.nd blk).Bv).Ip blk n.node 0).nd n.node).kind=4/\(((BS.Dx c.a n.node (c.a.nd blk).Bv).Ip blk n.node 0).nd n.node).AX=n.AX/\(((BS.Dx c.a n.node (c.a.nd blk).Bv).Ip blk n.node 0).nd n.node).name=n.name:=
  ⟨g.has _ f.has,by rw[g.kind _ f.has];exact f.kind,by rw[g.AX _ f.has];exact f.AX,by rw[g.name _ f.has];exact f.name⟩
 have u:=(v.fD (l:=Bs c.AW (Fo fe.node c.AW).toNat) CA).Ka (l:=B9 fe.node c.Au) Eo;have y:n.node∉(B9 fe.node c.Au).map Item.node:=λh=>Ra j f ((Eo.map Item.node).subset (by rw[RA] at h;exact h));have w:n.node∉(Bs c.AW (Fo fe.node c.AW).toNat).map B2.node:=λh=>UI j f ((CA.map B2.node).subset (by rw[fE] at h;exact h));refine⟨(u.ň (i:=n) fr y).aDd (e:={fe with node:=n.node}) (.inr ⟨fr.1,fr.2.1⟩) (.inr w),?_⟩;rw[Us] at l3;exact l1.trans (l3.trans g)
def Ys(o:Fa b):Fa (b.round nm).2/\Le b.a (b.round nm).2.a:=by
 have d:Le b.a (b.Dg nm).a:=by
  unfold BS.Dg;split;.split<;>exact .refl
  .exact .refl
 unfold BS.round;simp only
 split;.exact⟨bS o,d⟩
 .split;.exact⟨o.fD CA,.refl⟩
  .split;.exact⟨o,.refl⟩
   .split;.exact⟨(o.Ka IL).fD CA,.refl⟩
    .rename_i hf;have aTE:D6 (b.AW.getD (D7 nm b.AW).toNat B2.zero).node b.Au<b.Au.length:=by
      rw[LF];split;.omega
      .unfold FX;split;.rename_i k hk;have:=(Li.1 hk).1;rw[A5] at this;omega
       .omega
     have hb:b.a.has (b.Au.getD (D6 (b.AW.getD (D7 nm b.AW).toNat B2.zero).node b.Au).toNat Item.zero).node:=by rw[AG,An (by omega)];exact(o.op _ (Ay _)).1
     obtain⟨f,h1,l1⟩:=fF (blk:=(b.Au.getD (D6 (b.AW.getD (D7 nm b.AW).toNat B2.zero).node b.Au).toNat Item.zero).node) (anc:=(b.Au.getD ((Ax (Bq (b.AW.getD (D7 nm b.AW).toNat B2.zero).node) b.Au).toNat-1) Item.zero).node) (far:=(D6 (b.AW.getD (D7 nm b.AW).toNat B2.zero).node b.Au).toNat) (k:=(Ax (Bq (b.AW.getD (D7 nm b.AW).toNat B2.zero).node) b.Au).toNat) (c:=(D6 (b.AW.getD (D7 nm b.AW).toNat B2.zero).node b.Au).toNat-1 -(Ax (Bq (b.AW.getD (D7 nm b.AW).toNat B2.zero).node) b.Au).toNat) (s:=(b,(b.Au.getD (D6 (b.AW.getD (D7 nm b.AW).toNat B2.zero).node b.Au).toNat Item.zero).node,(D7 nm b.AW).toNat)) o hb;have r:=bT (fe:=b.AW.getD (D7 nm b.AW).toNat B2.zero) (blk:=(b.Au.getD (D6 (b.AW.getD (D7 nm b.AW).toNat B2.zero).node b.Au).toNat Item.zero).node) (anc:=(b.Au.getD ((Ax (Bq (b.AW.getD (D7 nm b.AW).toNat B2.zero).node) b.Au).toNat-1) Item.zero).node) f;exact⟨r.1,l1.trans r.2⟩
def bU:∀{n:Nat} {b:BS},Fa b->Fa (BS.Hg n b nm)/\Le b.a (BS.Hg n b nm).a
 |0,b,o=>⟨o,.refl⟩
 |n+1,b,o=>by
  obtain⟨c,l1⟩:=Ys (nm:=nm) o;unfold BS.Hg;simp only
  split;.have r:=bU (n:=n) c;exact⟨r.1,l1.trans r.2⟩
  .exact⟨c,l1⟩
def bV(o:Fa b):Fa (b.Du nm):=by
 unfold BS.Du;split;.exact aDe o
 .exact(bU o).1
end
structure Nz(A:Ar):Prop where
 n:A.n.length<=1000000000
 at_:∀x,(A.nd x).Aq.length<=1000000000
 data:∀x,(A.nd x).data.length<=1000000000
def Fx(l:List A9):Prop:=l.length<=1000/\∀a∈l,a.name.length<=1000/\a.value.length<=1000
structure Cw(b:BS)(m:Nat):Prop where
 n:b.a.n.length+m<=900000000
 at_:∀x,(b.a.nd x).Aq.length+m<=1000000000
 data:∀x,(b.a.nd x).data.length+m<=1000000000
 Au:b.Au.length+m<=900000000
 AW:b.AW.length+m<=900000000
 tm:b.tm.length+m<=900000000
 D0:∀e∈b.AW,e.name.length<=1000/\Fx e.Aq
 o7:∀i∈b.Au,i.name.length<=1000
def Cw.WB{b:BS}{m:Nat}(r:Cw b m):Nz b.a:=⟨by have:=r.n;omega,λx=>by have:=r.at_ x;omega,λx=>by have:=r.data x;omega⟩
def Cw.le{b:BS}{m m':Nat}(r:Cw b m)(hm:m'<=m):Cw b m':=⟨by have:=r.n;omega,λx=>by have:=r.at_ x;omega,λx=>by have:=r.data x;omega,by have:=r.Au;omega,by have:=r.AW;omega,by have:=r.tm;omega,r.D0,r.o7⟩
def mh{sp:Int}{y:A9}:(D2 sp y).value=y.value:=by
 unfold D2;split;.split<;>rfl
 .rfl
structure NP(A A':Ar):Prop where
 n:A'.n.length=A.n.length
 at_:∀x,(A'.nd x).Aq=(A.nd x).Aq
 data:∀x,(A'.nd x).data=(A.nd x).data
section
variable{A A' A'':Ar}{x p bf:Int}{b:BS}{m:Nat}
def NP.refl:NP A A:=⟨rfl,λ_=>rfl,λ_=>rfl⟩
def NP.trans(h:NP A A')(k:NP A' A''):NP A A'':=⟨k.n.trans h.n,λx=>(k.at_ x).trans (h.at_ x),λx=>(k.data x).trans (h.data x)⟩
def TA{y:HO}(h1:y.Aq=(A.nd x).Aq)(h2:y.data=(A.nd x).data):NP A (A.set x y):=by
 refine⟨Jr,λk=>?_,λk=>?_⟩<;>rw[Ko]<;>split;.rename_i e;rw[h1,e.1]
 .rfl
 .rename_i e;rw[h2,e.1]
 .rfl
def UJ{l:List Int}:NP A (A.set x {A.nd x with Bv:=l}):=TA rfl rfl
def UK:NP A (A.set x {A.nd x with Gq:=p}):=TA rfl rfl
def K5:NP A (A.Ip p x bf):=by
 unfold Ar.Ip;split
 .refine NP.trans ?_ (NP.trans UJ UK);unfold Ar.cut;simp only;split;.exact .refl
  .exact NP.trans UJ UK
 .exact .refl
def Oo:NP A (A.Gr x p bf):=by unfold Ar.Gr;split;exact .refl;exact K5
def RN{n:Int}:∀{l:List Int} {A:Ar},NP A (BS.Dx A n l)
 |[],A=> .refl
 |y::l,A=>NP.trans K5 (RN (l:=l))
def Cw.same{c:BS}(r:Cw b m)(h:NP b.a c.a)(h1:c.Au.length<=b.Au.length)(h2:c.AW.length<=b.AW.length)(h3:c.tm.length<=b.tm.length)(f:∀e∈c.AW,e.name.length<=1000/\Fx e.Aq)(d:∀i∈c.Au,i.name.length<=1000):Cw c m:=
 ⟨by rw[h.n];exact r.n,λx=>by rw[h.at_];exact r.at_ x,λx=>by rw[h.data];exact r.data x,by have:=r.Au;omega,by have:=r.AW;omega,by have:=r.tm;omega,f,d⟩
def Cw.IK{A':Ar}(r:Cw b m)(h:NP b.a A'):Cw {b with a:=A'} m:=r.same h (Ab _) (Ab _) (Ab _) r.D0 r.o7
def Cw.Ka{l:List Item}(r:Cw b m)(h:List.Sublist l b.Au):Cw {b with Au:=l} m:=r.same .refl h.length_le (Ab _) (Ab _) r.D0 λi hi=>r.o7 i (h.subset hi)
def Cw.eq{c:BS}(r:Cw b m)(h1:c.a=b.a)(h2:c.Au=b.Au)(h3:c.AW=b.AW)(d:c.tm=b.tm):Cw c m:=⟨by rw[h1];exact r.n,by rw[h1];exact r.at_,by rw[h1];exact r.data,by rw[h2];exact r.Au,by rw[h3];exact r.AW,by rw[d];exact r.tm,by rw[h3];exact r.D0,by rw[h2];exact r.o7⟩
structure UL(A A':Ar)(k:Nat):Prop where
 n:A'.n.length<=A.n.length+k
 at_:∀x,(A'.nd x).Aq.length<=max (A.nd x).Aq.length 1000
 data:∀x,(A'.nd x).data.length<=max (A.nd x).data.length 100000
def LJ{y:HO}(h1:y.Aq.length<=1000)(h2:y.data.length<=100000):UL A (A.add y) 1:=by refine⟨by simp[Ar.add],λx=>?_,λx=>?_⟩<;>rw[L6]<;>split<;>omega
def UL.trans{k k':Nat}(h:UL A A' k)(g:UL A' A'' k'):UL A A'' (k+k'):=
 ⟨by have:=h.n;have:=g.n;omega,λx=>by have:=h.at_ x;have:=g.at_ x;omega,λx=>by have:=h.data x;have:=g.data x;omega⟩
def UL.le{k k':Nat}(h:UL A A' k)(hk:k<=k'):UL A A' k':=⟨by have:=h.n;omega,h.at_,h.data⟩
def mi(h:NP A A'):UL A A' 0:=⟨by rw[h.n];exact Ab _,λx=>by rw[h.at_];omega,λx=>by rw[h.data];omega⟩
def sG:UL A (A.EW x) 1:=by
 unfold Ar.EW;split;.exact(mi .refl).le (by omega)
 .have:=LJ (A:=A) (y:={kind:=1,CB:=A.len+1}) (AU _) (AU _);exact⟨this.n,this.at_,this.data⟩
def xq{y:HO}(h1:y.Aq.length<=1000)(h2:y.data.length<=100000):UL A (A.set x y) 0:=by refine⟨by rw[Jr];exact Ab _,λx=>?_,λx=>?_⟩<;>rw[Ko]<;>split<;>omega
def mj{d sp:Int}{nm:Ad}{l:List A9}(hl:l.length<=1000):UL A (A.elem d sp nm l) 3:=by
 have ho:=Bn (Ts (l:=l)) hl;have g1:=LJ (A:=A) (y:={kind:=4,CB:=d,AX:=sp,name:=nm,Aq:=Di l}) ho (AU _);unfold Ar.elem;simp only
 split;.have g2:=sG (A:=A.add {kind:=4,CB:=d,AX:=sp,name:=nm,Aq:=Di l}) (x:=d);have g3:=LJ (A:=(A.add {kind:=4,CB:=d,AX:=sp,name:=nm,Aq:=Di l}).EW d) (y:={kind:=2,E3:=A.len+1,CB:=(A.add {kind:=4,CB:=d,AX:=sp,name:=nm,Aq:=Di l}).Iq d}) (AU _) (AU _);exact g1.trans (k':=2) (g2.trans (k':=1) (g3.trans (k':=0) (xq ho (AU _))))
 .exact g1.le (by omega)
def Cw.F8{A':Ar}{k:Nat}(r:Cw b (m+k))(h:UL b.a A' k):Cw {b with a:=A'} m:=
 ⟨by have:=r.n;have:=h.n;simp only;omega,λx=>by have:=r.at_ x;have:=h.at_ x;have:=r.n;simp only;omega,λx=>by have:=r.data x;have:=h.data x;have:=r.n;simp only;omega,by have:=r.Au;simp only;omega,by have:=r.AW;simp only;omega,by have:=r.tm;simp only;omega,r.D0,r.o7⟩
def xr{sp:Int}{nm:Ad}:(BS.Nk sp nm).length=nm.length:=by
 unfold BS.Nk;split
 .rcases Px nm Oh with h|h
  .rw[h]
  .conv=>rhs;rw[<-h.2,eV]
 .rfl
variable{nm:Ad}{l:List A9}{sp:Int}
def Rc(r:Cw b (m+3))(hl:Fx l):Cw (b.HL nm l sp p) m:=by
 unfold BS.HL;split;.exact r.F8 (mj (by rw[Ao];exact hl.1))
 .exact r.le (by omega)
def TB(hn:nm.length<=1000):(b.IJ nm l sp).name.length<=1000:=by
 unfold BS.IJ;split;.show(BS.Nk sp nm).length<=1000;rw[xr];exact hn
 .exact AU _
def Cw.aBn{i:Item}{l':List Item}(r:Cw b (m+1))(h1:l'.length<=b.Au.length+1)(h2:∀j∈l',j∈b.Au\/j=i)(hi:i.name.length<=1000):Cw {b with Au:=l'} m:=
 ⟨by have:=r.n;simp only;omega,λx=>by have:=r.at_ x;simp only;omega,λx=>by have:=r.data x;simp only;omega,by have:=r.Au;simp only;omega,by have:=r.AW;simp only;omega,by have:=r.tm;simp only;omega,r.D0,λj hj=>by
  rcases h2 j hj with h|rfl
  .exact r.o7 j h
  .exact hi⟩
def Cw.aBo{e:B2}{l':List B2}(r:Cw b (m+1))(h1:l'.length<=b.AW.length+1)(h2:∀j∈l',j∈b.AW\/j=e)(hi:e.name.length<=1000/\Fx e.Aq):Cw {b with AW:=l'} m:=
 ⟨by have:=r.n;simp only;omega,λx=>by have:=r.at_ x;simp only;omega,λx=>by have:=r.data x;simp only;omega,by have:=r.Au;simp only;omega,by have:=r.AW;simp only;omega,by have:=r.tm;simp only;omega,λj hj=>by
  rcases h2 j hj with h|rfl
  .exact r.D0 j h
  .exact hi,r.o7⟩
def Qq(r:Cw b (m+4))(hl:Fx l)(hn:nm.length<=1000):Cw (b.CX nm l sp) m:=by
 unfold BS.CX;split
 .rename_i hs;have c:=Rc (m:=m+1) (nm:=nm) (sp:=sp) (p:=(b.place 0).1) (r.le (by omega)) hl;have r2:=c.IK (Oo (x:=b.a.len+1) (p:=(b.place 0).1) (bf:=(b.place 0).2));have ho:(b.HL nm l sp (b.place 0).1).Au=b.Au:=by unfold BS.HL;rw[if_pos hs]
  refine r2.aBn (i:=b.IJ nm l sp) (by simp only[Ai,AR];exact Ab _) (λj hj=>?_) (TB hn);rcases Aj.1 hj with h|h
  .exact .inl h
  .exact .inr (by simpa using h)
 .exact r.le (by omega)
def mW(r:Cw b (m+5))(hl:Fx l)(hn:nm.length<=1000):Cw (b.Fw nm l) m:=by
 have c:=Qq (m:=m+1) (sp:=1) (nm:=nm) (r.le (by omega)) hl hn;unfold BS.Fw;simp only
 obtain⟨l',h1,h2⟩:=Tx (l:=(b.CX nm l 1).AW) (e:=⟨b.a.len+1,nm,l⟩);rw[h2];refine c.aBo (e:=⟨b.a.len+1,nm,l⟩) (by have:=h1.length_le;simp;omega) (λj hj=>?_) ⟨hn,hl⟩;rcases Aj.1 hj with h|h
 .exact .inl (h1.subset h)
 .exact .inr (by simpa using h)
end
end Go.Am
end
