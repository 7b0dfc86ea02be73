/- Lemmas -/
import Derived.Test.YtljddgipdchkiaaGreatDoorZ17
set_option linter.all false
noncomputable section
set_option maxRecDepth 100000
section
namespace Go.Am
open Go
section
section
variable{U:Type}{z:Nat}
def FT{Az:List (List U)}(h:∀r∈Az,r.length=z):Az.flatten.length=Az.length*z:=by
 induction Az with
 |nil=>simp
 |cons q Az ih=>rw[CW,Au,h q AK,ih λr hr=>h r (by simp[hr]),Be,BM];omega
def Zj{Az:List (List U)}(h:∀r∈Az,r.length=z):∀{k:Nat},Az.flatten.take (k*z)=(Az.take k).flatten:=by
 induction Az with
 |nil=>intro k;simp
 |cons q Az ih=>
  intro k;have hq:=h q AK;cases k with
  |zero=>simp
  |succ k=>rw[CW,BM,D5,OU,oV,AD Ab,hq,SJ,ih λr hr=>h r (by simp[hr])];simp
def IV{Az:List (List U)}(h:∀r∈Az,r.length=z):∀{k:Nat},Az.flatten.drop (k*z)=(Az.drop k).flatten:=by
 induction Az with
 |nil=>intro k;simp
 |cons q Az ih=>
  intro k;have hq:=h q AK;cases k with
  |zero=>simp
  |succ k=>rw[CW,BM,D5,OU,SG,AW Ab,hq,SJ,ih λr hr=>h r (by simp[hr])];simp
def gD{Az:List (List U)}(h:∀r∈Az,r.length=z){k:Nat}(hk:k<Az.length)(q:List U):Az.flatten.take (k*z)++q++Az.flatten.drop (k*z+z)=(Az.set k q).flatten:=by
 have e:k*z+z=(k+1)*z:=by rw[BM,D5]
 rw[e,Zj h,IV h,B2,Ae hk];simp
def Zk{Az:List (List Aa)}(h:∀r∈Az,r.length=z):∀{n off:Nat},off+n<=Az.length->Cz Az.flatten z (off*z) n=(Az.drop off).take n:=by
 intro n;induction n with
 |zero=>intro off _;simp[Cz]
 |succ n ih=>
  intro off hl;rw[Cz];have e:off*z+z=(off+1)*z:=by rw[BM,D5]
  rw[e,ih Ab,IV h];have hlt:off<Az.length:=Ab;rw[AF hlt,CW,CJ (by rw[h _ (AN hlt)];exact Ag _),AD (by rw[h _ (AN hlt)];exact Ag _),YF]
def jd{Az:List (List Aa)}(h:∀r∈Az,r.length=z):Cz Az.flatten z 0 Az.length=Az:=by have:=Zk h (n:=Az.length) (off:=0) Ab;simpa using this
end
section
variable{h:Ah}{id z n:Nat}{Az:List (List Aa)}
def JU(hr:∀r∈Az,r.length=z)(hc:h[id]?=some (.cells Az.flatten)):Kq h (.CD id 0 Az.length z)=some (h.set id .CT,.sl z Az):=by unfold Kq;simp only[hc,B0];rw[Ae (by rw[FT hr];exact Ag _),jd hr]
def E0{k:IntKind}{i:Nat}(hi:i<n):AB (.FC z) [.CD id 0 n z,.int k (i:Int)]=some (.ptr (some (id,i*z))):=by
 have:L3 (i:Int) n=some i:=by unfold L3;rw[Ae Ab];rfl
 simp[AB,elemOf,this]
def Uc(hr:∀r∈Az,r.length=z)(hc:h[id]?=some (.cells Az.flatten)){i:Nat}(hi:i<Az.length){q:List Aa}(hq:q.length=z):Cw h z (.ptr (some (id,i*z))) (.agg q)=some (h.set id (.cells (Az.set i q).flatten)):=by
 simp only[Cw,hc,S9];have:i*z+z<=Az.flatten.length:=by rw[FT hr];have:=DU z (Ab:i+1<=Az.length);rwa [BM,D5] at this
 rw[<-gD hr hi];exact Ae ⟨hq,this⟩
def gE(hr:∀r∈Az,r.length=z){i:Nat}{q:List Aa}(hq:q.length=z):∀r∈Az.set i q,r.length=z:=by
 intro r h;rcases Db h with h|rfl
 .exact hr r h
 .exact hq
def Mf{U:Type}{f:U->List Aa}(hf:∀a,(f a).length=z)(l:List U):∀r∈l.map f,r.length=z:=by intro r h;obtain⟨a,_,rfl⟩:=Bl.1 h;exact hf a
def Lc{s v:Aa}{b:Nat}(hs:s= .slnil\/s= .sl z [])(hv:AV z Az v)(hne:Az≠[])(hb:Az.length*b<=AX):KB h z b s v=some (h++[.cells Az.flatten],.CD h.length 0 Az.length z):=by
 rcases hv with rfl|⟨rfl,hv⟩
 .cases Az with
  |nil=>exact absurd rfl hne
  |cons r Az=>rw[Be] at hb;rcases hs with rfl|rfl<;>simp[KB,OX,hb]
 .exact absurd hv hne
def Pk{s v:Aa}{b:Nat}(hs:s= .slnil\/s= .sl z [])(hv:AV z [] v):KB h z b s v=some (h,s):=by rcases hv with rfl|⟨rfl,hv⟩<;>rcases hs with rfl|rfl<;>simp[KB,OX]
def mD{v:Aa}{b:Nat}(hv:AV z [] v):F9 h z b (.CD id 0 n z) v=some (h,.CD id 0 n z):=by rcases hv with rfl|⟨rfl,hv⟩<;>simp[F9,GX]
def JE{v:Aa}{b:Nat}{r2:List (List Aa)}(hr:∀r∈Az,r.length=z)(hz:0<z)(hc:h[id]?=some (.cells Az.flatten))(hv:AV z r2 v)(hne:r2≠[])(hb:(Az.length+r2.length)*b<=AX):
  F9 h z b (.CD id 0 Az.length z) v=some (h.set id .CT++[.cells (Az++r2).flatten],.CD h.length 0 (Az.length+r2.length) z):=by
 rcases hv with rfl|⟨rfl,hv⟩
 .cases r2 with
  |nil=>exact absurd rfl hne
  |cons r r2=>
   have hl:=FT hr;have h1:¬(0+(Az.length+(r::r2).length)*z<=Az.flatten.length):=by rw[hl,Be,B0,BM,BM];omega
   have h2:Az.flatten.take (Az.length*z)=Az.flatten:=AD (by rw[hl];exact Ag _);unfold F9;simp only[GX,BT,hc];rw[Ac h1,Ae ⟨trivial,by rw[hl];exact Ag _,hb⟩,h2,KM]
 .exact absurd hv hne
end
end
section
section
end
def Gs:List Aq:=[[100,100],[100,116],[108,105],aWE,aWS,[112],[114,98],[114,112],[114,116],[114,116,99]]
def JV:List Aq:=[aWs,aWF,aWX,[116,100],aWU,[116,104],aWY,[116,114]]
def KH:List Aq:=[[109,105],[109,110],[109,111],[109,115],[109,116,101,120,116]]
def P0:List Aq:=[aXg,aWu,aWV]
section
end
def Ew(k:Int)(s:Aq):Bool:=
 if k=3 then decide (s=aWg\/s∈KH) else if k=2 then decide (s∈P0) else if k=1 then decide (s∈Ny) else false
def sw(s:Aq)(t e:IT):List Aq->IT
 |[]=>e
 |c::cs=> .op (.str .eql) [.str s,.str c] λv=> .AE v t (sw s t e cs)
def je{C:FZ}{Q:HB}{h:Ah}{s:Aq}{t e:IT}:∀{cs:List Aq},W C (sw s t e cs) Q h↔(s∈cs->W C t Q h)/\(s∉cs->W C e Q h)
 |[]=>by simp[sw]
 |c::cs=>by
  simp only[sw,WD,qI,Nw,Nx,WE,AS,M9];rw[je];by_cases hc:s=c;.simp[hc]
  .simp[hc]
def M5{C:FZ}{f:FuncId}{args:List Aa}{r:Aa}:Ks C f args r↔W C (Cd C f args) (λx vs _=>x= .ret/\vs=[r]) []:=by
 unfold Ks Ev;constructor;.exact λh=>W.mono h λ_ _ _ ⟨h1,r,h2,a⟩=>⟨h1,by rw[h2,a]⟩
 .exact λh=>W.mono h λ_ _ _ ⟨h1,h2⟩=>⟨h1,r,h2,rfl⟩
section
variable{Q:HB}{h:Ah}{k:Aa->IT}{s:Aq}
end
section
variable{Q:HB}{h:Ah}{k:Aa->IT}{s:Aq}{n:Int}
end
end
section
def Qy{cur:Aq}:Dq cur []=[cur]:=by unfold Dq;rfl
def Pl{cur r:Aq}{c:UInt8}:Dq cur (c::r)=if c=32 then cur::Dq [] r else Dq (cur++[c]) r:=by rw[Dq]
def Gt(l s:Aq):Bool:=decide (s≠[]/\(32:UInt8)∉s/\s∈Dq [] l)
def WT{s:Aq}{a n:Nat}(ha:a<=n)(hn:n<s.length):(s.take (n+1)).drop a=(s.take n).drop a++[s[n]]:=by rw[Ay hn,Ja Eg]
end
section
def El{l:Aq}{ws:List Aq}{s:Aq}(h1:Dq [] l=ws)(h2:ws.all (λw=> !w.isEmpty&& !w.contains 32)=true):Gt l s=decide (s∈ws):=by
 unfold Gt;rw[h1,Dv];refine⟨λh=>h.2.2,λh=>⟨?_,?_,h⟩⟩;.have:=DK.1 h2 s h;rintro rfl;simp at this
 .have:=DK.1 h2 s h;intro a;simp[a] at this
section
variable{Q:HB}{h:Ah}{k:Aa->IT}{s:Aq}
def mE:Gt aV8 s=decide (s∈Ny):=El GB GB
def aV:Gt aWy s=decide (s∈KH):=El GB GB
def gF:Gt aWj s=decide (s∈P0):=El GB GB
def mF:Gt aWe s=decide (s∈Gs):=El GB GB
def gG:Gt aWf s=decide (s∈JV):=El GB GB
def IW:List Aq:=Dq [] aV9
def H8:List Aq:=Dq [] aV7
def Ob:List Aq:=[aWh,aWl,aWb]
def yK:Gt aWt s=decide (s∈Ob):=El GB GB
def Mg:List Aq:=[aWE,aWS]
def mG:Gt aWo s=decide (s∈Mg):=El GB GB
def Q5:List Aq:=[[111,108],[117,108]]
def jf:Gt aXi s=decide (s∈Q5):=El GB GB
def P1:List Aq:=[aXd,aWs,aWh,aXa,aXe,aWl,[116,100],aWb,[116,104]]
def yL:Gt aWa s=decide (s∈P1):=El GB GB
end
section
variable{Q:HB}{h:Ah}{k:Aa->IT}{s:Aq}{n:Int}
end
end
section
def IX(c:UInt8):UInt8:=if 65<=c.toNat/\c.toNat<=90 then c+32 else c
def FU(s:Aq):Aq:=s.map IX
def RV{c:UInt8}(h:65<=c.toNat/\c.toNat<=90):((IX c).toNat:Int)=(c.toNat:Int)+32:=by unfold IX;rw[Ae h,UInt8.toNat_add];have:UInt8.toNat 32=32:=A5;rw[this];omega
def Oc{c:UInt8}(h:¬(65<=c.toNat/\c.toNat<=90)):IX c=c:=by unfold IX;rw[Ac h]
def Q6{s:Aq}{n:Nat}(hn:n<s.length):FU (s.take (n+1))=FU (s.take n)++[IX s[n]]:=by rw[Ay hn];unfold FU;rw[BL];rfl
def OG(b:UInt8):Aa:= .int .u8 (b.toNat:Int)
def HG(s:Aq)(n:Nat):Aq:=FU (s.take n)++s.drop n
def WU(s:Aq)(n:Nat):(HG s n).length=s.length:=by simp[HG,FU];omega
def WV{s:Aq}{n:Nat}(hn:n<s.length):(HG s n)[n]?=some s[n]:=by unfold HG FU;rw[Bm Eg];simp only[Al,As,Cs (MC hn),C9];rw[AF hn];rfl
def RY{s:Aq}{n:Nat}(hn:n<s.length):HG s (n+1)=(HG s n).set n (IX s[n]):=by
 unfold HG;rw[Q6 hn,BP _ _ (by simp[FU];omega)];have e:n-(FU (s.take n)).length=0:=by simp[FU];omega
 rw[e,AF hn,PI,AJ];rfl
def gH(s:Aq):HG s s.length=FU s:=by simp[HG,FU]
def jg{U:Type}{l:List U}{i:Nat}{v:U}(h:l[i]?=some v):l.set i v=l:=by
 apply QJ;intro j;rw[aR7];split
 .rename_i e;subst e;split;.exact h.symm
  .rename_i hl;rw[D9 Ab]
 .rfl
def mH{cs:List Aa}{i:Nat}{v:Aa}(h:cs[i]?=some v):Bg [.cells cs] none (.ptr (some (0,i)))=some v:=by simpa[Bg] using h
def Yv{U:Type}{l:List U}{i:Nat}{v:U}(h:i<l.length):l.take i++v::l.drop (i+1)=l.set i v:=by rw[B2,Ae h]
def gI{cs:List Aa}{i:Nat}{v:Aa}(h:i<cs.length)(hv:v.cells=[v]):Cw [.cells cs] 1 (.ptr (some (0,i))) v=some [.cells (cs.set i v)]:=by simp only[Cw,hv,IK,Bp];rw[Ae ⟨trivial,Ab⟩,<-Yv h];simp
def Pm(s:Aq):∀(n o:Nat),o+n=s.length->Cz (s.map OG) 1 o n=Cg (s.drop o)
 |0,o,h=>by rw[AW Ab];rfl
 |n+1,o,h=>by
  have ho:o<s.length:=Ab;have e:(s.map OG).drop o=OG s[o]::(s.map OG).drop (o+1):=by rw[AF (by simpa using ho)];simp
  rw[Cz,Pm s n (o+1) Ab,AF ho,e];rfl
end
section
def Cr(name:Aq):List Aq->Aq
 |[]=>name
 |w::ws=>if FU w=name then w else Cr name ws
def CH(w:Aq):List Aa:=[.str w]
def LZ:Aq:=aV9
def Nz:Aq:=aV7
def WW:Dq [] LZ=IW:=GB
def WX:Dq [] Nz=H8:=GB
end
section
structure A6 where
 A9:Int
 name:Aq
 value:Aq
 deriving DecidableEq
def A6.row(a:A6):List Aa:=[.int .i64 a.A9,.str a.name,.str a.value]
structure Item where
 node:Int
 A9:Int
 name:Aq
 OH:Bool
 deriving DecidableEq
def Item.row(a:Item):List Aa:=[.int .i64 a.node,.int .i64 a.A9,.str a.name,.bool a.OH]
def JF(ns:List Aq)(v:Aa):Prop:=AV 1 (ns.map CH) v
def Bz(l:List A6)(v:Aa):Prop:=AV 3 (l.map A6.row) v
def B4(l:List Item)(v:Aa):Prop:=AV 4 (l.map Item.row) v
def qK(l:List A6):Prop:=l.length<=12/\∀x∈l,x.name.length<=60/\x.value.length<=200
instance(l:List A6):Decidable (qK l):=by unfold qK;infer_instance
def jh(l:List Aq):Prop:=l.length<=12/\∀x∈l,x.length<=60
instance(l:List Aq):Decidable (jh l):=by unfold jh;infer_instance
def qL(l:List Item):Prop:=l.length<=60/\∀x∈l,x.name.length<=60
instance(l:List Item):Decidable (qL l):=by unfold qL;infer_instance
end
section
def Co{U:Type}(p:U->Bool)(n:Nat):List U->Int
 |[]=> -1
 |a::l=>if p a then(n:Int) else Co p (n+1) l
def HH{U:Type}{p:U->Bool}:∀{l:List U} {k:Nat},(Co p k l= -1/\l.find? p=none)\/∃(n:Nat) (a:U),Co p k l=((k+n:Nat):Int)/\l[n]?=some a/\l.find? p=some a
 |[],k=> .inl ⟨rfl,rfl⟩
 |a::l,k=>by
  unfold Co;by_cases h:p a=true;.exact .inr ⟨0,a,by rw[Ae h];rfl,rfl,by simp[h]⟩
  .rw[Ac h];rcases HH (p:=p) (l:=l) (k:=k+1) with⟨h1,h2⟩|⟨n,b,h1,h2,c⟩
   .exact .inl ⟨h1,by simp[h,h2]⟩
   .exact .inr ⟨n+1,b,by rw[h1];congr 1;omega,by simpa using h2,by simp[h,c]⟩
def OI(a:A6):Bool:=decide (a.A9=0/\a.name=aW9)
def Ud{s:Aq}(h:s.all (λc=> !(65<=c.toNat&&c.toNat<=90))=true):FU s=s:=by
 unfold FU;conv=>rhs;rw[<-List.map_id s]
 apply YI;intro c hc;have:=DK.1 h c hc;refine Oc λh2=>?_;simp[h2.1,h2.2] at this
abbrev aF2:Aq:=aWg
abbrev qM:Aq:=aW7
abbrev aW:Aq:=aWp
def Fm(n:Int)(s:Aq)(l:List A6):Bool:=
 if n=2 then Ew 2 s else if n≠3 then false else if s≠aF2 then false else match l.find? OI with
  |none=>false
  |some a=>decide (FU a.value=qM\/FU a.value=aW)
end
section
section
variable{U:Type}{f:U->List Aa}{l l2:List U}{v v2:Aa}{z b:Nat}{k k2:IntKind}
def AV.CN(hv:AV z (l.map f) v):AB (.len false) [v]=some (.int .i64 (l.length:Int)):=by have:=AV.len hv;rwa [Al] at this
def AV.BN(hv:AV z (l.map f) v){n:Nat}(hn:n<l.length):AB (.FC z) [v,.int k (n:Int)]=some (.Cq (f l[n])):=by have:=AV.FC hv (k:=k) (n:=n) (by simpa using hn);simpa using this
def AV.Mh(hv:AV z (l.map f) v){n:Nat}(hn:n<=l.length):∃u,AB (.HO z false false true) [v,.int k (n:Int)]=some u/\AV z ((l.take n).map f) u:=by
 rcases hv with rfl|⟨rfl,h⟩
 .have a:Fo (n:Int) (l.map f).length=some n:=by unfold Fo;rw[Al,Ae Ab];rfl
  refine⟨.sl z ((l.map f).take n),?_,.inl (by rw[Ge])⟩;simp only[AB,J4,Ea,a,Cc,jI,BT,Mt]
 .have:l=[]:=by simpa using h
  subst this;have:n=0:=by simpa using hn
  subst this;exact⟨.slnil,rfl,.inr ⟨rfl,rfl⟩⟩
def AV.RZ(hv:AV z (l.map f) v){n:Nat}(hn:n<=l.length):∃u,AB (.HO z false true false) [v,.int k (n:Int)]=some u/\AV z ((l.drop n).map f) u:=by
 rcases hv with rfl|⟨rfl,h⟩
 .have a:Fo (n:Int) (l.map f).length=some n:=by unfold Fo;rw[Al,Ae Ab];rfl
  refine⟨.sl z ((l.map f).drop n),?_,.inl (by rw[JA])⟩;simp only[AB,J4,Ea,a,Cc,jI,BT,By]
 .have:l=[]:=by simpa using h
  subst this;have:n=0:=by simpa using hn
  subst this;exact⟨.slnil,rfl,.inr ⟨rfl,rfl⟩⟩
def AV.aX(hv:AV z (l.map f) v)(Wb:AV z (l2.map f) v2)(hb:(l.length+l2.length)*b<=AX):∃u,AB (.append z b) [v,v2]=some u/\AV z ((l++l2).map f) u:=by obtain⟨u,e,hu⟩:=AV.Iq hv Wb (b:=b) (by simpa using hb);exact⟨u,e,by rwa [BL]⟩
def AV.Gu(Wb:AV z (l2.map f) v2)(hb:l2.length*b<=AX):∃u,AB (.append z b) [.slnil,v2]=some u/\AV z (l2.map f) u:=by obtain⟨u,e,hu⟩:=AV.Iq (v:= .slnil) (r:=[]) .nil Wb (b:=b) (by simpa using hb);exact⟨u,e,by simpa using hu⟩
def AV.Ke{a:U}(hv:AV z (l.map f) v)(hb:(l.length+1)*b<=AX):AB (.append z b) [v,.sl z [f a]]=some (.sl z ((l++[a]).map f)):=by rw[AV.jb hv (by simpa using hb)];simp
end
def C6{a b:Int}(h1: -9223372036854775808<=a-b)(h2:a-b<9223372036854775808):AB (.int .sub) [.int .i64 a,.int .i64 b]=some (.int .i64 (a-b)):=by rw[mC,wrap_i64 h1 h2]
def Od{a b:Int}(h1: -9223372036854775808<=a+b)(h2:a+b<9223372036854775808):AB (.int .add) [.int .i64 a,.int .i64 b]=some (.int .i64 (a+b)):=by rw[aP,wrap_i64 h1 h2]
def Item.zero:Item:=⟨0,0,[],false⟩
def Item.CL{a:Item}:a.row.length=4:=rfl
def Item.g0{a:Item}{d:Aa}:a.row.getD 0 d= .int .i64 a.node:=rfl
def Item.g1{a:Item}{d:Aa}:a.row.getD 1 d= .int .i64 a.A9:=rfl
def Item.g2{a:Item}{d:Aa}:a.row.getD 2 d= .str a.name:=rfl
def Item.g3{a:Item}{d:Aa}:a.row.getD 3 d= .bool a.OH:=rfl
def Item.at0{a:Item}:a.row[0]?=some (.int .i64 a.node):=rfl
def Item.HW{a:Item}:a.row.take 4=a.row:=rfl
def Item.qN{a:Item}:a.row.drop 1=[.int .i64 a.A9,.str a.name,.bool a.OH]:=rfl
def Item.aF3{a:Item}:a.row.drop 2=[.str a.name,.bool a.OH]:=rfl
def Item.aF4{a:Item}:a.row.drop 3=[.bool a.OH]:=rfl
def Item.Pn{a:Item}:[Aa.int .i64 a.node,.int .i64 a.A9,.str a.name,.bool a.OH]=a.row:=rfl
def Item.fill{a:Item}:AR [.int .i64 0,.int .i64 0,.str [],.bool false] ([(0,1),(1,1),(2,1),(3,1)].zip a.row)=some a.row:=rfl
def Fc:=ai @Item.fill (ai @Item.CL (ai @Item.g0 (ai @Item.g1 (ai @Item.g2 (ai @Item.g3 (ai @Item.at0 (ai @Item.HW (ai @Item.qN (ai @Item.aF3 (ai @Item.aF4 (ai @Item.Pn (ai @Cf (@BK.{0})))))))))))))
def Ht(l:List Item)(i:Int):Item:=if 0<=i then l.getD i.toNat Item.zero else Item.zero
def Fx(l:List Item):Item:=Ht l ((l.length:Int)-1)
def AP{U:Type}(q:U->Bool)(l:List U):Int:=match l.reverse.findIdx? q with
 |some k=>(l.length:Int)-1 -k
 |none=> -1
def JW{U:Type}{q:U->Bool}:AP q []= -1:=rfl
def IY{U:Type}{q:U->Bool}{l:List U}{a:U}:AP q (l++[a])=if q a then(l.length:Int) else AP q l:=by
 unfold AP;rw[Ir,Jg,JL,aQc];by_cases h:q a=true;.simp only[h,BT,Au,Bp];omega
 .simp only[h,Eb,Cy,Au,Bp];cases List.findIdx? q l.reverse with
  |none=>rfl
  |some k=>simp only[Cc];omega
def GQ{U:Type}{q:U->Bool}{l:List U}{n:Nat}(hn:n<l.length):AP q (l.take (n+1))=if q l[n] then(n:Int) else AP q (l.take n):=by rw[Ay hn,IY,As,Cs (MC hn)]
def De{U:Type}{q:U->Bool}{l:List U}:(AP q l= -1/\∀a∈l,q a=false)\/∃(n:Nat) (hn:n<l.length),AP q l=(n:Int)/\q l[n]=true/\∀m (hm:m<l.length),n<m->q l[m]=false:=by
 have key:∀r:List U,(AP q r.reverse= -1/\∀a∈r.reverse,q a=false)\/∃(n:Nat) (hn:n<r.reverse.length),AP q r.reverse=(n:Int)/\q r.reverse[n]=true/\∀m (hm:m<r.reverse.length),n<m->q r.reverse[m]=false:=by
  intro r;induction r with
  |nil=>exact .inl ⟨rfl,AK⟩
  |cons a r ih=>
   rw[EJ,IY];by_cases h:q a=true;.refine .inr ⟨r.reverse.length,AK,by rw[Ae h],by simp[h],λm hm hlt=>?_⟩;simp at hm hlt;omega
   .rw[Ac h];rcases ih with⟨h1,h2⟩|⟨n,hn,h1,h2,c⟩
    .exact .inl ⟨h1,λb hb=>by
      rcases Av.1 hb with hb|hb
      .exact h2 b hb
      .simp at hb;subst hb;simpa using h⟩
    .refine .inr ⟨n,by simp at hn⊢;omega,h1,by rw[Gf hn];exact h2,λm hm hlt=>?_⟩;by_cases UG:m<r.reverse.length;.rw[Gf UG];exact c m UG hlt
     .have:m=r.reverse.length:=by simp at hm UG⊢;omega
      subst this;simpa using h
 have:=key l.reverse;rwa [Fk] at this
def At(h:Ah)(id o:Nat)(v:Aa):Prop:=∃cs,h[id]?=some (.cells cs)/\cs[o]?=some v
def put(h:Ah)(id o:Nat)(u:Aa):Ah:=match h[id]? with
 |some (.cells cs)=>h.set id (.cells (cs.set o u))
 |_=>h
section
variable{h t:Ah}{id o:Nat}{u v w:Aa}
def Ig{cs:List Aa}(hc:h[id]?=some (.cells cs)):put h id o u=h.set id (.cells (cs.set o u)):=by unfold put;rw[hc]
def Jy:(put h id o u).length=h.length:=by unfold put;split<;>simp
def At.lt(ha:At h id o v):id<h.length:=by obtain⟨cs,hc,_⟩:=ha;exact(Ak.1 hc).1
def At.load(ha:At h id o v):Bg h none (.ptr (some (id,o)))=some v:=by obtain⟨cs,hc,e⟩:=ha;simp only[Bg,hc,E8,e]
def At.store(ha:At h id o v)(hu:u.cells=[u]):Cw h 1 (.ptr (some (id,o))) u=some (put h id o u):=by
 obtain⟨cs,hc,e⟩:=ha;have hl:=(Ak.1 e).1;rw[Ig hc];simp only[Cw,hc,hu,Bp,Mz];have a:cs.set o u=cs.take o++[u]++cs.drop (o+1):=by rw[B2,Ae hl];simp
 rw[Ae (Ab:o+1<=cs.length),a]
def At.put(ha:At h id o v):At (put h id o u) id o u:=by obtain⟨cs,hc,e⟩:=ha;have hl:=(Ak.1 e).1;have hi:=(Ak.1 hc).1;rw[Ig hc];exact⟨cs.set o u,by simp[hi],by simp[hl]⟩
def At.same(ha:At h id o v):Am.put h id o v=h:=by obtain⟨cs,hc,e⟩:=ha;obtain⟨hl,e⟩:=Ak.1 e;obtain⟨hi,a⟩:=Ak.1 hc;rw[Ig hc,<-e,JM,<-a,JM]
def aY:Am.put (Am.put h id o u) id o w=Am.put h id o w:=by
 cases hc:h[id]? with
 |none=>
  have e:∀u,Am.put h id o u=h:=λu=>by unfold Am.put;rw[hc]
  rw[e,e]
 |some x=>cases x with
  |cells cs=>have hi:=(Ak.1 hc).1;rw[Ig hc,Ig hc,Ig (cs:=cs.set o u) (by simp[hi])];simp
  |_=>
   have e:∀u,Am.put h id o u=h:=λu=>by unfold Am.put;rw[hc]
   rw[e,e]
def At.Iq(ha:At h id o v):At (h++t) id o v:=by obtain⟨cs,hc,e⟩:=ha;exact⟨cs,by rw[Aj (Ak.1 hc).1];exact hc,e⟩
def aZ(ha:At h id o v):Am.put (h++t) id o u=Am.put h id o u++t:=by have hi:=ha.lt;obtain⟨cs,hc,e⟩:=ha;rw[Ig hc,Ig (by rw[Aj hi];exact hc),List.set_append_left _ _ hi]
def Cm{i:Nat}(hn:i≠id):(Am.put h id o u)[i]?=h[i]?:=by
 unfold Am.put;split;.rw[Ao (DH hn)]
 .rfl
end
def bj(h:Ah)(p:Aa)(l:List Item):Prop:=(p= .ptr none/\l=[])\/∃id o v,p= .ptr (some (id,o))/\At h id o v/\B4 l v
def H9{l:List Item}{n:Nat}(hn:n<l.length):Ht l (n:Int)=l[n]:=by have:(0:Int)<=(n:Int):=Ab;simp[Ht,this,hn]
def Oe{l:List Item}{i:Int}(h:i<0\/(l.length:Int)<=i):Ht l i=Item.zero:=by
 unfold Ht;rcases h with h|h
 .rw[Ac Ab]
 .rw[Ae Ab,AL,D9 Ab];rfl
section
variable{h:Ah}{p:Aa}{l:List Item}
def uk{s:Aq}{ws:List Aq}:decide (0<=Co (λw=>decide (s=w)) 0 ws)=decide (s∈ws):=by
 rcases HH (p:=λw=>decide (s=w)) (l:=ws) (k:=0) with⟨h1,h2⟩|⟨n,a,h1,h2,c⟩
 .rw[h1,Dv];have:=Jh.1 h2;exact⟨λh=>Ab,λh=>absurd (show s=s from rfl) (by simpa using this s h)⟩
 .rw[h1,Dv];have e:s=a:=by simpa using Ut c
  have:a∈ws:=CB h2;refine⟨λ_=>e▸this,λ_=>Ab⟩
def BD(ws:List Aq)(a:Item):Bool:=decide (a.A9=1/\a.name∈ws)
def Da{ws:List Aq}:JF ws (.sl 1 (ws.map CH)):= .mk
def JG(n:Int)(a:Item):Bool:=
 if n=4 then BD Ob a else if n=5 then !BD Mg a else if a.A9=3\/a.A9=2 then Ew a.A9 a.name
 else BD P1 a||(decide (n=2)&&BD Q5 a)||(decide (n=3)&&BD [aWk] a)
def D7{ws:List Aq}{args:List Aa}(e:args=ws.map Aa.str)(h:ws.length<=16777216):AB (.BI 1) args=some (.sl 1 (ws.map CH)):=by
 subst e;have g:(ws.map Aa.str).all (λa=>a.cells.length==1)=true:=AK;have c:(ws.map Aa.str).map (·.cells)=ws.map CH:=by simp[CH]
 rw[qJ,g,c];simp[h]
def mI:AB (.BI 1) [S aWh,S aWl,S aWb]=some (.sl 1 (Ob.map CH)):=D7 (ws:=Ob) rfl A5
def gJ:AB (.BI 1) [S aWE,S aWS]=some (.sl 1 (Mg.map CH)):=D7 (ws:=Mg) rfl A5
def yM:AB (.BI 1) [S [111,108],S [117,108]]=some (.sl 1 (Q5.map CH)):=D7 (ws:=Q5) rfl A5
def mJ:AB (.BI 1) [S aXd,S aWs,S aWh,S aXa,S aXe,S aWl,S [116,100],S aWb,S [116,104]]=some (.sl 1 (P1.map CH)):=D7 (ws:=P1) rfl A5
def yN:AB (.BI 1) [S aWk]=some (.sl 1 ([aWk].map CH)):=D7 (ws:=[aWk]) rfl A5
def J2{U:Type}(q e:U->Bool):List U->Bool
 |[]=>false
 |a::r=>if q a then true else if e a then false else J2 q e r
def mK{U:Type}{q e:U->Bool}(l:List U)(b:Bool):(if h:0<=AP (λa=>q a||e a) l/\(AP (λa=>q a||e a) l).toNat<l.length then q (l[(AP (λa=>q a||e a) l).toNat]'h.2) else false)=J2 q e l.reverse:=by
 have key:∀r:List U,(if h:0<=AP (λa=>q a||e a) r.reverse/\(AP (λa=>q a||e a) r.reverse).toNat<r.reverse.length then q (r.reverse[(AP (λa=>q a||e a) r.reverse).toNat]'h.2) else false)=J2 q e r:=by
  intro r;induction r with
  |nil=>simp[J2,JW]
  |cons a r ih=>
   simp only[EJ,J2];have e0:=IY (q:=λa=>q a||e a) (l:=r.reverse) (a:=a);by_cases hq:q a=true
   .rw[Ae (by simp[hq])] at e0;have c:(AP (λa=>q a||e a) (r.reverse++[a])).toNat=r.reverse.length:=by rw[e0];omega
    simp only[c];rw[jJ ⟨by rw[e0];omega,AK⟩];simp[hq]
   .by_cases he:e a=true
    .rw[Ae (by simp[he])] at e0;have c:(AP (λa=>q a||e a) (r.reverse++[a])).toNat=r.reverse.length:=by rw[e0];omega
     simp only[c];rw[jJ ⟨by rw[e0];omega,AK⟩];simp[hq,he]
    .rw[Ac (by simp[hq,he])] at e0;simp only[hq,he,Eb,Cy,<-ih,e0];rcases De (q:=λa=>q a||e a) (l:=r.reverse) with⟨h1,h2⟩|⟨n,hn,h1,h2,j⟩
     .simp[h1]
     .have g:(0:Int)<=(n:Int)/\(n:Int).toNat<r.reverse.length:=⟨Ab,by simpa using hn⟩;have i:(0:Int)<=(n:Int)/\(n:Int).toNat<(r.reverse++[a]).length:=⟨Ab,by simp at hn⊢;omega⟩;simp only[h1];rw[jJ g,jJ i,Gf g.2]
 have:=key l.reverse;rwa [Fk] at this
def JF.cells{v:Aa}{ws:List Aq}(hv:JF ws v):v.cells=[v]:=AV.cells hv
def BB(node:Int)(a:Item):Bool:=decide (a.node=node)
end
end
section
section
variable{h:Ah}{p v:Aa}{l:List Item}
def Zl{n s:Int}{t:Aq}{b:Bool}:AB (.BF [I 0,I 0,S [],ff] [(0,1),(1,1),(2,1),(3,1)]) [.int .i64 n,.int .i64 s,.str t,.bool b]=some (.agg (Item.row ⟨n,s,t,b⟩)):=by simp only[BJ];rfl
def Mi{a:Item}:AB (.BI 4) [.agg a.row]=some (.sl 4 [a.row]):=Me rfl A5
def LQ(h:Ah)(id o:Nat)(l:List Item):Prop:=∃v,At h id o v/\B4 l v
def LQ.at{id o:Nat}(hs:LQ h id o l):bj h (.ptr (some (id,o))) l:=let⟨v,h1,h2⟩:=hs; .inr ⟨id,o,v,rfl,h1,h2⟩
def B4.cells(hv:B4 l v):v.cells=[v]:=AV.cells hv
def GR(a:Item):Bool:=Ew a.A9 a.name
def D0(node:Int)(l:List Item):Int:=if AP (BB node) l<0 then -1 else match(l.drop ((AP (BB node) l).toNat+1)).findIdx? GR with
 |some k=>AP (BB node) l+1+k
 |none=> -1
def E1{U:Type}(q:U->Bool)(l:List U)(n:Nat):Int:=match(l.drop n).findIdx? q with
 |some k=>(n:Int)+k
 |none=> -1
def Qz{U:Type}{q:U->Bool}{l:List U}{n:Nat}(h:l.length<=n):E1 q l n= -1:=by unfold E1;rw[AW h];rfl
def R2{U:Type}{q:U->Bool}{l:List U}{n:Nat}(h:n<l.length):E1 q l n=if q l[n] then(n:Int) else E1 q l (n+1):=by
 unfold E1;rw[AF h,aQc];by_cases hq:q l[n]=true;.simp only[hq,BT];omega
 .simp only[hq,Cy,Eb];cases List.findIdx? q (l.drop (n+1)) with
  |none=>rfl
  |some k=>simp only[Cc];omega
def IB{node:Int}:D0 node l=if AP (BB node) l<0 then -1 else E1 GR l ((AP (BB node) l).toNat+1):=by
 unfold D0 E1;by_cases h:AP (BB node) l<0;.simp only[h,BT]
 .simp only[h,Eb];cases(l.drop ((AP (BB node) l).toNat+1)).findIdx? GR with
  |none=>rfl
  |some k=>simp only;omega
def WY{U:Type}(q e:U->Bool):List U->Bool
 |[]=>false
 |a::r=>(q a&& !(r.any e))||WY q e r
def Ue{U:Type}{q e:U->Bool}{a:U}:∀{r:List U},J2 q e (r++[a])=((q a&& !(r.any e))||J2 q e r)
 |[]=>by by_cases h:q a=true<;>simp[J2,h]
 |b::r=>by
  simp only[CK,J2,Ue (r:=r)];by_cases h1:q b=true;.simp[h1]
  .by_cases h2:e b=true<;>simp[h1,h2]
def gK{U:Type}{q e:U->Bool}:∀{l:List U},WY q e l=J2 q e l.reverse
 |[]=>rfl
 |a::l=>by rw[EJ,Ue,WY,gK];simp
def aAW{U:Type}{q e:U->Bool}(l:List U):(if AP q l<0 then false else !((l.drop ((AP q l).toNat+1)).any e))=J2 q e l.reverse:=by
 have key:∀r:List U,(if AP q r.reverse<0 then false else !((r.reverse.drop ((AP q r.reverse).toNat+1)).any e))=J2 q e r:=by
  intro r;induction r with
  |nil=>rfl
  |cons a r ih=>
   simp only[EJ,J2,IY];by_cases hq:q a=true;.simp only[hq,BT];rw[Ac Ab,AT,AW AK];rfl
   .simp only[hq,Eb,Cy,<-ih];rcases De (q:=q) (l:=r.reverse) with⟨h1,h2⟩|⟨n,hn,h1,h2,c⟩
    .simp[h1]
    .have i0:¬(n:Int)<0:=by omega
     rw[h1,Ac i0,Ac i0,AT,Ja Ab,Uu];cases he:e a<;>simp only[Rk,jK,he,Lo,aEs,Cy,Eb,BT,Rh]
 have:=key l.reverse;rwa [Fk] at this
end
end
section
def Ev.ret{C:FZ}{f:FuncId}{args:List Aa}{h:Ah}{R:Aa->Ah->Prop}(hw:Ev C f args h R):∃r h',BZ C f args h r h'/\R r h':=by obtain⟨n,x,vs,h',e,hx,r,hv,hR⟩:=hw;exact⟨r,h',⟨n,x,vs,h',e,hx,hv,rfl⟩,hR⟩
def Po(b a:Item->Bool):List Item->List Item
 |x::y::r=>if b x then x::y::r else if a x then y::r else Po b a (y::r)
 |r=>r
def DR(b a:Item->Bool)(l:List Item):List Item:=(Po b a l.reverse).reverse
def yO{b a:Item->Bool}{l:List Item}(h:l.length<=1):Po b a l=l:=by
 match l with
 |[]=>rfl
 |[x]=>rfl
 |x::y::r=>simp at h
def WZ{b a:Item->Bool}{l:List Item}(h:l.length<=1):DR b a l=l:=by unfold DR;rw[yO (by simpa using h),Fk]
def Zm{b a:Item->Bool}{l:List Item}{x:Item}(h:1<=l.length):DR b a (l++[x])=if b x then l++[x] else if a x then l else DR b a l:=by
 unfold DR;rw[Ir,Jg,JL];cases hr:l.reverse with
 |nil=>
  have:l=[]:=by simpa using hr
  subst this;simp at h
 |cons y r=>
  have hl:l=r.reverse++[y]:=by rw[<-Fk l,hr,EJ]
  rw[Po];by_cases h1:b x=true;.rw[Ae h1,Ae h1];rw[hl];simp
  .rw[Ac h1,Ac h1];by_cases h2:a x=true;.rw[Ae h2,Ae h2];rw[hl];simp
   .rw[Ac h2,Ac h2]
def Zn{b a:Item->Bool}{l:List Item}{n:Nat}(hn:n+1<l.length):DR b a (l.take (n+2))=if b l[n+1] then l.take (n+2) else if a l[n+1] then l.take (n+1) else DR b a (l.take (n+1)):=by have e:l.take (n+2)=l.take (n+1)++[l[n+1]]:=Ay hn;rw[e,Zm (by rw[As];omega)]
def P2{b a:Item->Bool}:∀{l:List Item},(DR b a l).length<=l.length:=by
 have key:∀r:List Item,(Po b a r).length<=r.length:=by
  intro r;induction r with
  |nil=>simp[Po]
  |cons x r ih=>
   cases r with
   |nil=>simp[Po]
   |cons y r=>
    rw[Po];split;.simp
    .split;.simp
     .exact Bu ih AK
 intro l;have:=key l.reverse;simpa[DR] using this
section
variable{h:Ah}{p v:Aa}{l:List Item}
def W0{n:Nat}(hn:n<l.length):Fx (l.take (n+1))=l[n]:=by
 have e:((l.take (n+1)).length:Int)-1=(n:Int):=by rw[As];omega
 unfold Fx;rw[e,H9 (by rw[As];omega)];simp
def LQ.bA{id o:Nat}(hs:LQ h id o l):∃u,h=put h id o u/\B4 l u:=by obtain⟨u,hc,hu⟩:=hs;exact⟨u,hc.same.symm,hu⟩
def LQ.lt{id o:Nat}(hs:LQ h id o l):∃v,At h id o v:=let⟨u,hc,_⟩:=hs;⟨u,hc⟩
def LQ.aAX{id o:Nat}{u:Aa}(hlt:∃v,At h id o v)(hu:B4 l u):LQ (put h id o u) id o l:=let⟨_,ha⟩:=hlt;⟨u,ha.put,hu⟩
def C0(_:Item):Bool:=false
def Ex(s:Aq)(a:Item):Bool:=decide (a.A9≠1\/a.name∉Gs\/a.name=s)
def CO(a:Item):Bool:=decide (a.A9≠1\/¬(a.name∈JV\/a.name∈Gs))
def GS(node:Int)(l:List Item):List Item:=if AP (BB node) l<0 then l else DR C0 (BB node) l
def Kf(l:List Item)(i:Int):List Item:=l.take (max 1 i.toNat)
def Of{q:Item->Bool}(l:List Item):DR C0 q l=Kf l (AP q l):=by
 have key:∀r:List Item,DR C0 q r.reverse=Kf r.reverse (AP q r.reverse):=by
  intro r;induction r with
  |nil=>rfl
  |cons x r ih=>
   rw[EJ,IY];rcases Jf r.length with h0|h0
   .have:r=[]:=LJ.1 h0;subst this;by_cases hq:q x=true<;>simp[hq,Kf,DR,Po,JW]
   .have h1:1<=r.reverse.length:=by rw[KP];omega
    rw[Zm h1];by_cases hq:q x=true;.rw[Ac (by simp[C0]),Ae hq,Ae hq];unfold Kf;rw[AT,oX h1,CJ (Ag _),By]
    .rw[Ac (by simp[C0]),Ac hq,Ac hq,ih];unfold Kf;rw[CJ];rcases De (q:=q) (l:=r.reverse) with⟨a,_⟩|⟨n,hn,a,_⟩<;>rw[a]<;>omega
 have:=key l.reverse;rwa [Fk] at this
def Uf{node:Int}(l:List Item):GS node l=if AP (BB node) l<0 then l else Kf l (AP (BB node) l):=by unfold GS;rw[Of]
end
end
section
section
variable{h:Ah}{p v:Aa}{l:List Item}
def ji(l:List Item):∀r∈l.map Item.row,r.length=4:=Mf (f:=Item.row) (λa=>Item.CL) l
def QA{n:Nat}(h:n<=2000000000):n*40<=AX:=by have:AX=140737488355328:=rfl;omega
def Bf{U:Type}(l:List U)(k:Nat):List U:=l.take k++l.drop (k+1)
def C2(node:Int)(l:List Item):List Item:=if AP (BB node) l<1 then l else Bf l (AP (BB node) l).toNat
def E2(i:Int)(n:Nat):Nat:=min (max i 1).toNat n
def Pp(node:Int)(a:Item)(l:List Item):List Item:=if AP (BB node) l<1 then l else l.set (AP (BB node) l).toNat a
def bB(h:Ah)(l:List Item)(r:Aa)(h':Ah):Prop:=(l=[]/\r= .slnil/\h'=h)\/(l≠[]/\r= .CD h.length 0 l.length 4/\h'=h++[.cells (l.map Item.row).flatten])
def um(hv:B4 l v)(hb:l.length<=1000000000):∃r h',KB h 4 40 .slnil v=some (h',r)/\bB h l r h':=by
 by_cases hne:l=[];.subst hne;exact⟨_,_,Pk (.inl rfl) hv,.inl ⟨rfl,rfl,rfl⟩⟩
 .have a:=Lc (h:=h) (s:= .slnil) (z:=4) (b:=40) (.inl rfl) hv (by simpa using hne) (by rw[Al];exact QA Ab);rw[Al] at a;exact⟨_,_,a,.inr ⟨hne,rfl,rfl⟩⟩
def bB.LK{r:Aa}{h':Ah}(hc:bB h l r h'):∃u t,Kq h' r=some (h++t,u)/\B4 l u:=by
 rcases hc with⟨rfl,rfl,rfl⟩|⟨hne,rfl,rfl⟩
 .exact⟨.slnil,[],by rw[BK];rfl,.nil⟩
 .have a:(h++[Dx.cells (l.map Item.row).flatten])[h.length]?=some (.cells (l.map Item.row).flatten):=by simp
  have f1:=JU (ji l) a;rw[Al] at f1;refine⟨.sl 4 (l.map Item.row),[.CT],?_,.mk⟩;rw[f1];congr 2
  rw[BP _ _ (Ag _)];simp
end
end
section
end
section
section
variable{h:Ah}{p v w:Aa}{l:List Item}{ws:List Aq}
def jj:Kf l (-1)=Kf l 1:=rfl
def ET(s:Aq)(all:Bool)(a:Item):Bool:=if all then CO a else Ex s a
end
end
section
def fT:List (Aq×Int×Aq):=[(aWx,4,aXc),(aWv,4,aXb),(aWG,4,aXk),(aWH,4,aXl),(aWI,4,aXm),(aWA,4,aWV),(aWJ,4,aXf),(aWO,5,[108,97,110,103]),(aWC,5,aXj),(aWD,6,aWD),(aWr,6,aW8)]
def W8(x:Aq×Int×Aq):Aa×Aa:=(.str x.1,.agg [.int .i64 x.2.1,.str x.2.2,.str []])
def ft(n:Nat):List (Aa×Aa):=(fT.take n).map W8
def aF5:ON aWx (.agg [.int .i64 4,.str aXc,.str []]) (ft 0)=some (ft 1):=by kernel_rfl
def aF6:ON aWv (.agg [.int .i64 4,.str aXb,.str []]) (ft 1)=some (ft 2):=by kernel_rfl
def aF7:ON aWG (.agg [.int .i64 4,.str aXk,.str []]) (ft 2)=some (ft 3):=by kernel_rfl
def aF8:ON aWH (.agg [.int .i64 4,.str aXl,.str []]) (ft 3)=some (ft 4):=by kernel_rfl
def aF9:ON aWI (.agg [.int .i64 4,.str aXm,.str []]) (ft 4)=some (ft 5):=by kernel_rfl
def aGa:ON aWA (.agg [.int .i64 4,.str aWV,.str []]) (ft 5)=some (ft 6):=by kernel_rfl
def aGb:ON aWJ (.agg [.int .i64 4,.str aXf,.str []]) (ft 6)=some (ft 7):=by kernel_rfl
def aGc:ON aWO (.agg [.int .i64 5,.str [108,97,110,103],.str []]) (ft 7)=some (ft 8):=by kernel_rfl
def aGd:ON aWC (.agg [.int .i64 5,.str aXj,.str []]) (ft 8)=some (ft 9):=by kernel_rfl
def aGe:ON aWD (.agg [.int .i64 6,.str aWD,.str []]) (ft 9)=some (ft 10):=by kernel_rfl
def aAY:ON aWr (.agg [.int .i64 6,.str aW8,.str []]) (ft 10)=some (ft 11):=by kernel_rfl
def mL{h:Ah}{es:List (Aa×Aa)}{s:Aq}{v:Aa}:TH (h++[.map es]) (.map (some h.length)) (.str s) v=(ON s v es).map λes=>h++[.map es]:=by simp[TH]
def D8(n:Aq):Option (Int×Aq):=(fT.find? λx=>decide (n=x.1)).map (·.2)
def W9(n:Aq):∀l:List (Aq×Int×Aq),VI n (l.map W8)=some ((l.find? λx=>decide (n=x.1)).map λx=>(W8 x).2)
 |[]=>rfl
 |x::l=>by
  rw[Bs,GH,W8,VI];by_cases e:n=x.1;.rw[Ae e,AI e];rfl
  .rw[Ac e,AG e];exact W9 n l
def Mj{h:Ah}{n:Aq}:TI (h++[.map (ft 11)]) (.agg [.int .i64 0,.str [],.str []]) true (.map (some h.length)) (.str n)=
  some (match D8 n with|some (s,m)=> .tuple [.agg [.int .i64 s,.str m,.str []],.bool true]|none=> .tuple [.agg [.int .i64 0,.str [],.str []],.bool false]):=by
 have e:VJ (h++[.map (ft 11)]) (.map (some h.length)) (.str n)=VI n (fT.map W8):=by simp[VJ,ft,fT]
 rw[TI,e,W9,D8];cases fT.find? λx=>decide (n=x.1)<;>rfl
abbrev aAZ:Aq:=aWM
abbrev UO:Aq:=aWT
def Kg(sp:Int)(n:Aq):Aq:=if sp=2 then Cr n H8 else if sp=3/\n=aAZ then UO else n
def C3(sp:Int)(a:A6):A6:=
 if sp=2\/sp=3 then match D8 (Kg sp a.name) with
  |some (s,m)=>⟨s,m,a.value⟩
  |none=>⟨0,Kg sp a.name,a.value⟩
 else⟨0,a.name,a.value⟩
def R4(s:Aq):(FU s).length=s.length:=by simp[FU]
def Lw(n:Aq):∀ws,Cr n ws=n\/(Cr n ws∈ws/\FU (Cr n ws)=n)
 |[]=> .inl rfl
 |w::ws=>by
  rw[Cr];split;.rename_i e;exact .inr ⟨List.mem_cons_self,e⟩
  .rcases Lw n ws with h|⟨h1,h2⟩
   .exact .inl h
   .exact .inr ⟨X0 _ h1,h2⟩
def R5(n:Aq)(ws:List Aq):(Cr n ws).length=n.length:=by
 rcases Lw n ws with h|⟨_,h⟩
 .rw[h]
 .rw[<-R4,h]
def Eh{a b c:Aa}:AB (.BI 3) [.agg [a,b,c]]=some (.sl 3 [[a,b,c]]):=rfl
def A6.CL{a:A6}:a.row.length=3:=rfl
def A6.HW{a:A6}:a.row.take 3=a.row:=rfl
section
variable{v:Aa}{l:List A6}{h:Ah}
def gL{a b:A6}{neg:Bool}:AB (.geq neg [.i,.s,.s]) [.agg a.row,.agg b.row]=some (.bool (decide (a=b) != neg)):=by
 rw[Q3];have:D6 [.i,.s,.s] a.row b.row=some (decide (a=b)):=by simp only[D6,Lr,A6.row,BT,BE];cases a;cases b;simp only[A6.mk.injEq];rw[Oz];simp
 rw[this];rfl
def LR:List Aq:=[aWx,aWv,aWG,aWH,aWI,aWA,aWJ]
def uo{s:Aq}:Gt aWc s=decide (s∈LR):=El GB GB
def Ta{k:IntKind}{s:Aq}{a z:Nat}(ha:a<=s.length):AB (.HO z true true false) [.str s,.int k (a:Int)]=some (.str (s.drop a)):=by
 have c:Fo (a:Int) s.length=some a:=by unfold Fo;rw[Ae Ab];rfl
 simp[AB,J4,Ea,c]
abbrev gM:Aq:=aWO
abbrev Xa:Aq:=aWC
abbrev gN:Aq:=aWD
abbrev Xb:Aq:=aWr
def Yw:∀s∈LR,6<=s.length/\D8 s=some (4,s.drop 6):=A5
def bC{s:Aq}(h1:s∉LR)(h2:s≠gM)(g:s≠Xa)(c:s≠gN)(a:s≠Xb):D8 s=none:=by simp only[LR,AS,SK,aK8,M9] at h1;obtain⟨a1,a2,a3,a4,a5,a6,a7⟩:=h1;simp only[D8,fT,GH,List.find?_nil,AG a1,AG a2,AG a3,AG a4,AG a5,AG a6,AG a7,AG h2,AG g,AG c,AG a,Option.map_none]
abbrev mM:Aq:=aW8
def QB(s:Aq):(s∈LR/\6<=s.length/\D8 s=some (4,s.drop 6))\/(s∉LR/\((s=gM/\4<=s.length/\D8 s=some (5,s.drop 4))\/(¬s=gM/\((s=Xa/\4<=s.length/\D8 s=some (5,s.drop 4))\/(¬s=Xa/\((s=gN/\D8 s=some (6,s))\/(¬s=gN/\((s=Xb/\D8 s=some (6,mM))\/(¬s=Xb/\D8 s=none))))))))):=by
 by_cases a:s∈LR;.exact .inl ⟨a,Yw s a⟩
 refine .inr ⟨a,?_⟩;by_cases j:s=gM;.subst j;decide
 refine .inr ⟨j,?_⟩;by_cases i:s=Xa;.subst i;decide
 refine .inr ⟨i,?_⟩;by_cases g:s=gN;.subst g;decide
 refine .inr ⟨g,?_⟩;by_cases c:s=Xb;.subst c;decide
 exact .inr ⟨c,bC a j i g c⟩
def sl6{s:Aq}(h:6<=s.length):AB (.HO 0 true true false) [.str s,.int .i64 6]=some (.str (s.drop 6)):=Ta h
def sl4{s:Aq}(h:4<=s.length):AB (.HO 0 true true false) [.str s,.int .i64 4]=some (.str (s.drop 4)):=Ta h
end
end
section
structure Cu where
 node:Int
 name:Aq
 AA:List A6
deriving DecidableEq
structure Cl where
 c:Cu
 v:Aa
 ok:Bz c.AA v
def Cl.row(e:Cl):List Aa:=[.int .i64 e.c.node,.str e.c.name,e.v]
def Dl(l:List Cl)(v:Aa):Prop:=AV 3 (l.map Cl.row) v
section
variable{e:Cl}{d:Aa}
def Cl.CL:e.row.length=3:=rfl
def Cl.g0:e.row.getD 0 d= .int .i64 e.c.node:=rfl
def Cl.g1:e.row.getD 1 d= .str e.c.name:=rfl
def Cl.g2:e.row.getD 2 d=e.v:=rfl
def Cl.at0:e.row[0]?=some (.int .i64 e.c.node):=rfl
def Cl.HW:e.row.take 3=e.row:=rfl
def Cl.qN:e.row.drop 1=[.str e.c.name,e.v]:=rfl
def Cl.Pn:[Aa.int .i64 e.c.node,.str e.c.name,e.v]=e.row:=rfl
def Cl.uq:AB (.len false) [e.v]=some (.int .i64 (e.c.AA.length:Int)):=AV.CN e.ok
end
def A6.g0{a:A6}{d:Aa}:a.row.getD 0 d= .int .i64 a.A9:=rfl
def A6.g1{a:A6}{d:Aa}:a.row.getD 1 d= .str a.name:=rfl
def A6.g2{a:A6}{d:Aa}:a.row.getD 2 d= .str a.value:=rfl
def A6.Pn{a:A6}:[Aa.int .i64 a.A9,.str a.name,.str a.value]=a.row:=rfl
def Pq{n:Nat}(h:n<=2000000000):n*48<=AX:=by have:AX=140737488355328:=rfl;omega
def Tb(e:Cl):Bool:=decide (e.c.node=0)
def Pr(n:Int)(e:Cl):Bool:=decide (e.c.node=n)
def since(l:List Cl):Int:=AP Tb l+1
def yP:since []=0:=rfl
def mN{l:List Cl}{e:Cl}:since (l++[e])=if e.c.node=0 then(l.length:Int)+1 else since l:=by unfold since;rw[IY];by_cases h:e.c.node=0<;>simp[Tb,h]
def Xc{l:List Cl}{n:Nat}(hn:n<l.length):since (l.take (n+1))=if l[n].c.node=0 then(n:Int)+1 else since (l.take n):=by rw[Ay hn,mN,As,Cs (MC hn)]
def JH(l:List Cl):∃s:Nat,since l=(s:Int)/\s<=l.length/\(∀m (hm:m<l.length),s<=m->l[m].c.node≠0)/\(∀t,s=t+1->∃ht:t<l.length,l[t].c.node=0):=by
 rcases De (q:=Tb) (l:=l) with⟨h1,h2⟩|⟨n,hn,h1,h2,a⟩
 .refine⟨0,by unfold since;rw[h1];rfl,AU _,λm hm _=>?_,λt ht=>by omega⟩;have:=h2 _ (AN hm);simpa[Tb] using this
 .refine⟨n+1,by unfold since;rw[h1];rfl,hn,λm hm En=>?_,λt ht=>?_⟩;.have:=a m hm Ab;simpa[Tb] using this
  .obtain rfl:t=n:=by omega
   exact⟨hn,by simpa[Tb] using h2⟩
section
variable{h:Ah}{v:Aa}{l:List Cl}{id:Nat}
def qO(name:Aq):List Cl->Int
 |[]=> -1
 |e::t=>if e.c.node=0 then -1 else if e.c.name=name then(t.length:Int) else qO name t
def NA(name:Aq)(l:List Cl):Int:=qO name l.reverse
def Q7{name:Aq}{n:Nat}(hn:n<l.length):NA name (l.take (n+1))=if l[n].c.node=0 then -1 else if l[n].c.name=name then(n:Int) else NA name (l.take n):=by rw[Ay hn,NA,Ir,Jg,JL,qO,KP,As,Cs (MC hn),NA]
def yQ{name:Aq}:NA name []= -1:=rfl
def gO{name:Aq}{s:Nat}(hs:since l=(s:Int)):NA name (l.take s)= -1:=by
 obtain⟨s',e,h1,h2,a⟩:=JH l;obtain rfl:s=s':=Ab;cases s with
 |zero=>rfl
 |succ t=>obtain⟨ht,h0⟩:=a t rfl;rw[Q7 ht,Ae h0]
def Hu(node:Int)(l:List Cl):Int:=if node=0 then -1 else AP (Pr node) l
end
section
variable{h:Ah}{v:Aa}{l:List A6}
def GF(a b:Cu):Bool:=decide (a.name=b.name/\a.AA.length=b.AA.length/\(∀x∈a.AA,x∈b.AA)/\∀x∈b.AA,x∈a.AA)
def Yx(e:Cl):Prop:=e.c.AA.length<=1000000000
end
end
section
mutual
def Aa.R6:∀a:Aa,Aa.beq a a=true
 | .bool a=>by simp[Aa.beq]
 | .int k a=>by simp[Aa.beq]
 | .str a=>by simp[Aa.beq]
 | .ptr a=>by simp[Aa.beq]
 | .Cq a=>by simp[Aa.beq,Aa.KI a]
 | .sl n a=>by simp[Aa.beq,Aa.Xd a]
 | .Gb _=>by simp[Aa.beq]
 | .slnil=>by simp[Aa.beq]
 | .CD a c d e=>by simp[Aa.beq]
 | .map a=>by simp[Aa.beq]
 | .func f a c=>by simp[Aa.beq,Aa.KI a,Aa.KI c]
 | .nilFunc=>by simp[Aa.beq]
 | .iface t a=>by simp[Aa.beq,Aa.R6 a]
 | .nilIface=>by simp[Aa.beq]
 | .agg a=>by simp[Aa.beq,Aa.KI a]
 | .tuple a=>by simp[Aa.beq,Aa.KI a]
def Aa.KI:∀a:List Aa,Aa.Ro a a=true
 |[]=>by simp[Aa.Ro]
 |a::x=>by simp[Aa.Ro,Aa.R6 a,Aa.KI x]
def Aa.Xd:∀a:List (List Aa),Aa.Rp a a=true
 |[]=>by simp[Aa.Rp]
 |a::x=>by simp[Aa.Rp,Aa.KI a,Aa.Xd x]
end
def Tc(h:Ah)(id o:Nat)(l:List Cl):Prop:=∃u,At h id o u/\Dl l u
def Dl.cells{l:List Cl}{v:Aa}(hv:Dl l v):v.cells=[v]:=AV.cells hv
def Tc.lt{h:Ah}{id o:Nat}{l:List Cl}(hs:Tc h id o l):∃v,At h id o v:=let⟨u,hc,_⟩:=hs;⟨u,hc⟩
def Og(l:List Cl):∀r∈l.map Cl.row,r.length=3:=Mf (f:=Cl.row) (λa=>Cl.CL) l
section
variable{h:Ah}{v:Aa}{l:List Cl}{id:Nat}
def L0{r:List Aa}(h:r.length=3):AB (.BI 3) [.agg r]=some (.sl 3 [r]):=Me (a:= .agg r) h A5
def gP(n:Int)(l:List Cl):Hu n l= -1\/∃k:Nat,k<l.length/\Hu n l=(k:Int):=by
 unfold Hu;split;.exact .inl rfl
 .rcases De (q:=Pr n) (l:=l) with⟨h1,_⟩|⟨k,hk,h1,_⟩
  .exact .inl h1
  .exact .inr ⟨k,hk,h1⟩
def bD:Cl:=⟨⟨0,[],[]⟩,.slnil,.nil⟩
def jk:[I 0,S [],Aa.slnil]=bD.row:=rfl
def CG(i:Int)(n:Nat):Nat:=min (max i 0).toNat n
def EU(l:List Cl):Nat:=(since l-1).toNat
end
end
section
def ur(e:Cu):List Cl->Nat
 |[]=>0
 |x::t=>if x.c.node=0 then 0 else ur e t+(if GF x.c e=true then 1 else 0)
def mO(e:Cu):List Cl->Int
 |[]=> -1
 |x::t=>if x.c.node=0 then -1 else if 0<=mO e t then mO e t else if GF x.c e=true then(t.length:Int) else -1
def R7(e:Cu)(l:List Cl):Nat:=ur e l.reverse
def NB(e:Cu)(l:List Cl):Int:=mO e l.reverse
section
variable{e:Cu}{l:List Cl}{n s:Nat}
def Td(hn:n<l.length):R7 e (l.take (n+1))=if l[n].c.node=0 then 0 else R7 e (l.take n)+(if GF l[n].c e=true then 1 else 0):=by rw[Ay hn,R7,Ir,Jg,JL,ur,R7]
def Te(hn:n<l.length):NB e (l.take (n+1))=if l[n].c.node=0 then -1 else if 0<=NB e (l.take n) then NB e (l.take n) else if GF l[n].c e=true then(n:Int) else -1:=by rw[Ay hn,NB,Ir,Jg,JL,mO,NB,KP,As,Cs (MC hn)]
def Xe(hs:since l=(s:Int)):R7 e (l.take s)=0/\NB e (l.take s)= -1:=by
 obtain⟨s',e,h1,h2,a⟩:=JH l;obtain rfl:s=s':=Ab;cases s with
 |zero=>exact⟨rfl,rfl⟩
 |succ t=>obtain⟨ht,h0⟩:=a t rfl;exact⟨by rw[Td ht,Ae h0],by rw[Te ht,Ae h0]⟩
end
def Lx(e:Cu)(l:List Cl):List Cl:=if e.node≠0/\3<=R7 e l then Bf l (NB e l).toNat else l
section
variable{h:Ah}{v:Aa}{l:List Cl}{id:Nat}
end
end
section
section
variable{h:Ah}{v:Aa}{l:List Cl}{id:Nat}
end
end
end Go.Am
end
section
namespace Go.Am
structure EV where
 kind:Int:=0
 FM:Int:=0
 A8:List Int:=[]
 CM:Int:=0
 A9:Int:=0
 name:Aq:=[]
 AA:List A6:=[]
 data:Aq:=[]
 bk:Aq:=[]
 sys:Aq:=[]
 CI:Bool:=false
 cont:Int:=0
 Em:Int:=0
deriving DecidableEq
structure Ar where
 n:List EV
 i:List Int
abbrev Bd:Aq:=aWb
def bE(x:EV):Prop:=x.kind=4/\x.A9=1/\x.name=Bd
instance(x:EV):Decidable (bE x):=by unfold bE;infer_instance
namespace Ar
def len(A:Ar):Int:=A.n.length
def has(A:Ar)(h:Int):Prop:=1<=h/\h<=A.n.length
instance(A:Ar)(h:Int):Decidable (A.has h):=by unfold has;infer_instance
def nd(A:Ar)(h:Int):EV:=if A.has h then A.n.getD (h.toNat-1) {} else{}
def inr(A:Ar)(h:Int):Int:=if A.has h then A.i.getD (h.toNat-1) 0 else 0
def set(A:Ar)(h:Int)(x:EV):Ar:={n:=if A.has h then A.n.set (h.toNat-1) x else A.n,i:=A.i}
def IZ(A:Ar)(h:Int)(x:Int):Ar:={n:=A.n,i:=if A.has h then A.i.set (h.toNat-1) x else A.i}
def add(A:Ar)(x:EV):Ar:={n:=A.n++[x],i:=A.i++[0]}
def up(A:Ar)(h:Int):Int:=if(A.nd h).FM≠0 then(A.nd h).FM else(A.nd h).Em
end Ar
section
variable{A:Ar}{h k:Int}{x y:EV}
def HF(a:¬A.has h):A.nd h={}:=by unfold Ar.nd;rw[Ac a]
def Jm:(A.set h x).n.length=A.n.length:=by simp only[Ar.set];split<;>simp
def uv:(A.set h x).len=A.len:=by unfold Ar.len;rw[Jm]
def Im:(A.set h x).has k↔A.has k:=by unfold Ar.has;rw[Jm]
def JI:(A.set h x).nd k=if k=h/\A.has h then x else A.nd k:=by
 unfold Ar.nd;simp only[Im];by_cases hk:A.has k
 .rw[Ae hk,Ae hk];simp only[Ar.set];by_cases a:A.has h
  .rw[Ae a];have h1:=a;have h2:=hk;unfold Ar.has at h1 h2;by_cases e:k=h;.subst e;rw[Ae ⟨rfl,a⟩,AL,AQ Ab];rfl
   .rw[Ac (by simp[e]),AL,Ao Ab,AL]
  .rw[Ac a,Ac (by simp[a])]
 .rw[Ac hk,Ac hk,Ac];rintro⟨rfl,h2⟩;exact hk h2
def Sa:(A.set h x).inr k=A.inr k:=by unfold Ar.inr;simp only[Im];rfl
def Oh:(A.add x).len=A.len+1:=by simp[Ar.len,Ar.add]
def DL:(A.add x).has k↔A.has k\/k=A.len+1:=by simp[Ar.has,Ar.add,Ar.len];omega
def IC:(A.add x).nd k=if k=A.len+1 then x else A.nd k:=by
 unfold Ar.nd;simp only[DL];by_cases e:k=A.len+1;.subst e;simp[Ar.add,Ar.len]
 .by_cases hk:A.has k;.rw[Ae (.inl hk),Ac e,Ae hk];unfold Ar.has at hk;simp only[Ar.add,AL];rw[Aj Ab]
  .rw[Ac (by simp[hk,e]),Ac e,Ac hk]
def Vs(hl:A.i.length=A.n.length):(A.add x).inr k=A.inr k:=by
 unfold Ar.inr;simp only[DL];by_cases e:k=A.len+1
 .subst e;have:¬A.has (A.len+1):=by unfold Ar.has Ar.len;omega
  rw[Ae (.inr rfl),Ac this];simp[Ar.add,Ar.len,<-hl]
 .by_cases hk:A.has k;.rw[Ae (.inl hk),Ae hk];unfold Ar.has at hk;simp only[Ar.add,AL];rw[Aj Ab]
  .rw[Ac (by simp[hk,e]),Ac hk]
def Sb:(A.IZ h k).len=A.len:=rfl
def NC{m:Int}:(A.IZ h m).has k↔A.has k:=aEr
def Sc{m:Int}:(A.IZ h m).nd k=A.nd k:=by rfl
def Ps{m:Int}(hl:A.i.length=A.n.length):(A.IZ h m).inr k=if k=h/\A.has h then m else A.inr k:=by
 unfold Ar.inr;simp only[NC];by_cases hk:A.has k
 .rw[Ae hk,Ae hk];simp only[Ar.IZ];by_cases a:A.has h
  .rw[Ae a];have h1:=a;have h2:=hk;unfold Ar.has at h1 h2;by_cases e:k=h;.subst e;rw[Ae ⟨rfl,a⟩,AL,AQ Ab];rfl
   .rw[Ac (by simp[e]),AL,Ao Ab,AL]
  .rw[Ac a,Ac (by simp[a])]
 .rw[Ac hk,Ac hk,Ac];rintro⟨rfl,h2⟩;exact hk h2
end
def Dw(a:A6):Int×Aq:=(a.A9,a.name)
def Hv(out:List A6):List A6->List A6
 |[]=>out
 |x::l=>if out.any (λy=>decide (Dw x=Dw y)) then Hv out l else Hv (out++[x]) l
def Cx(l:List A6):List A6:=Hv [] l
def Q8:∀{l out:List A6},(out.map Dw).Nodup->((Hv out l).map Dw).Nodup
 |[],_,h=>h
 |x::l,out,h=>by
  rw[Hv];split;.exact Q8 h
  .rename_i hn;refine Q8 ?_;rw[BL,B5];refine⟨h,AK,?_⟩;rintro a ha b hb rfl;simp at hb;subst hb;simp at ha hn;obtain⟨y,hy,e⟩:=ha;exact hn y hy e.symm
def gQ:∀{l out:List A6},((out++l).map Dw).Nodup->Hv out l=out++l
 |[],out,_=>by simp[Hv]
 |x::l,out,h=>by
  rw[Hv,Ac,gQ (by simpa using h)];.simp
  .intro ha;rw[BL,B5] at h;simp at ha;obtain⟨y,hy,e⟩:=ha;exact h.2.2 _ (Bl.2 ⟨y,hy,e.symm⟩) _ AK rfl
def yR(l:List A6):((Cx l).map Dw).Nodup:=Q8 AK
def uw{l:List A6}(h:(l.map Dw).Nodup):Cx l=l:=by have:=gQ (out:=[]) (l:=l) (by simpa using h);simpa[Cx] using this
def Zo(l:List A6):Cx (Cx l)=Cx l:=uw (yR l)
def Tf:∀{l out:List A6} {a:A6},a∈Hv out l->a∈out\/a∈l
 |[],_,_,h=> .inl h
 |x::l,out,a,h=>by
  rw[Hv] at h;split at h
  .rcases Tf h with h|h
   .exact .inl h
   .exact .inr (by simp[h])
  .rcases Tf h with h|h
   .simp at h;rcases h with h|rfl
    .exact .inl h
    .exact .inr AK
   .exact .inr (by simp[h])
def gR{l:List A6}{a:A6}(h:a∈Cx l):a∈l:=by simpa using Tf h
def Xf:∀{l out:List A6},(Hv out l).length<=out.length+l.length
 |[],out=>by simp[Hv]
 |x::l,out=>by
  rw[Hv];split;.have:=Xf (l:=l) (out:=out);simp;omega
  .have:=Xf (l:=l) (out:=out++[x]);simp at this⊢;omega
def P3{l:List A6}:(Cx l).length<=l.length:=by have:=Xf (l:=l) (out:=[]);simpa[Cx] using this
structure bl(x:EV):Prop where
 k:1<=x.kind/\x.kind<=6
 A8:x.A8≠[]->x.kind=1\/x.kind=2\/x.kind=4
 elem:x.kind≠4->x.A9=0/\x.AA=[]
 nm:x.kind≠4->x.kind≠3->x.name=[]
 dt:x.kind≠3->x.bk=[]/\x.sys=[]
 data:x.kind≠5->x.kind≠6->x.data=[]
 CI:x.kind≠1->x.CI=false
 sp:0<=x.A9/\x.A9<=7
 qn:∀a∈x.AA,0<=a.A9/\a.A9<=7
 Cx:Cx x.AA=x.AA
 Ug:x.cont≠0->bE x
 Pu:x.Em≠0->x.kind=2
 root:x.FM≠0->x.kind≠1/\x.kind≠2
 yS:x.A8.Nodup
structure EK(A:Ar)(e:Int):Prop where
 il:A.i.length=A.n.length
 Sd:∀h,A.has h->bl (A.nd h)
 CM:∀h,A.has h->A.has (A.nd h).CM/\(A.nd (A.nd h).CM).kind=1
 bF:∀h,A.has h->(A.nd h).kind=1->(A.nd h).CM=h
 FM:∀h,A.has h->(A.nd h).FM≠0->A.has (A.nd h).FM/\h∈(A.nd (A.nd h).FM).A8
 MO:∀h,A.has h->∀k∈(A.nd h).A8,A.has k/\(A.nd k).FM=h
 bm:∀h,A.has h->h≠e->bE (A.nd h)->(A.nd h).cont≠0
 cont:∀h,A.has h->(A.nd h).cont≠0->A.has (A.nd h).cont/\(A.nd (A.nd h).cont).kind=2/\(A.nd (A.nd h).cont).Em=h
 Em:∀h,A.has h->(A.nd h).Em≠0->A.has (A.nd h).Em/\(A.nd (A.nd h).Em).cont=h
 ine:∀h,A.has h->A.inr h≠0->A.has (A.inr h)/\(A.nd (A.inr h)).kind=1
 bG:∃r:Int->Nat,∀h,A.has h->A.up h≠0->r (A.up h)<r h
section
variable{A:Ar}{e h k:Int}{x y:EV}
def Q9:¬A.has (A.len+1):=by unfold Ar.has Ar.len;omega
def Xg(a:¬A.has h):A.up h=0:=by unfold Ar.up;rw[HF a];simp
def mP(ok:EK A e)(a:A.has h)(hu:A.up h≠0):A.has (A.up h):=by
 unfold Ar.up at hu⊢;split;.rename_i h1;exact(ok.FM h a h1).1
 .rename_i h1;rw[Ac h1] at hu;exact(ok.Em h a hu).1
def Xh(ok:EK A e)(hx:bl x)(hd:(x.kind=1/\x.CM=A.len+1)\/(x.kind≠1/\A.has x.CM/\(A.nd x.CM).kind=1))(hp:x.FM=0)(hk:x.A8=[])(hc:x.cont=0)(a:x.Em=0)(b:bE x->e=A.len+1):EK (A.add x) e:=by
 have no:=Q9 (A:=A);obtain⟨r,hr⟩:=ok.bG;have ne:∀{k},A.has k->k≠A.len+1:=λhk e=>no (e▸hk);refine⟨by simp[Ar.add,ok.il],?_,?_,?_,?_,?_,?_,?_,?_,?_,r,?_⟩<;>intro m hm<;>rw[DL] at hm<;>(try rw[Vs ok.il])<;>simp only[Ar.up,IC,DL]<;>rcases hm with hm|rfl
 all_goals first|(rw[Ac (ne hm)])|(rw[Ae rfl])|skip
 .exact ok.Sd m hm
 .exact hx
 .have:=ok.CM m hm;rw[Ac (ne this.1)];exact⟨.inl this.1,this.2⟩
 .rcases hd with⟨h1,h2⟩|⟨h1,h2,c⟩
  .rw[Ae h2];exact⟨.inr h2,h1⟩
  .rw[Ac (ne h2)];exact⟨.inl h2,c⟩
 .exact ok.bF m hm
 .intro h1;rcases hd with⟨_,h2⟩|⟨h2,_⟩
  .exact h2
  .exact absurd h1 h2
 .intro h1;have:=ok.FM m hm h1;rw[Ac (ne this.1)];exact⟨.inl this.1,this.2⟩
 .intro h1;exact absurd hp h1
 .intro q hq;have:=ok.MO m hm q hq;rw[Ac (ne this.1)];exact⟨.inl this.1,this.2⟩
 .intro q hq;rw[hk] at hq;cases hq
 .exact ok.bm m hm
 .intro h1 h2;exact absurd (b h2).symm h1
 .intro h1;have:=ok.cont m hm h1;rw[Ac (ne this.1)];exact⟨.inl this.1,this.2⟩
 .intro h1;exact absurd hc h1
 .intro h1;have:=ok.Em m hm h1;rw[Ac (ne this.1)];exact⟨.inl this.1,this.2⟩
 .intro h1;exact absurd a h1
 .intro h1;have:=ok.ine m hm h1;rw[Ac (ne this.1)];exact⟨.inl this.1,this.2⟩
 .intro h1;exfalso;apply h1;unfold Ar.inr;rw[Ac no]
 .have:=hr m hm;unfold Ar.up at this;exact this
 .rw[hp,a];simp
inductive Reach(A:Ar)(t:Int):Int->Prop
 |refl:Reach A t t
 |step {h:Int}:A.up h≠0->Reach A t (A.up h)->Reach A t h
def I8(l:List Int)(b n:Int):List Int:=if b=0 then l++[n] else l.takeWhile (λk=>decide (k≠b))++n::l.dropWhile (λk=>decide (k≠b))
def Ar.cut(A:Ar)(n:Int):Ar:=
 let q:=(A.nd n).FM
 if q=0 then A else
  let a:=A.set q {A.nd q with A8:=(A.nd q).A8.filter λk=>decide (k≠n)}
  a.set n {a.nd n with FM:=0}
def Ar.Nb(A:Ar)(p n b:Int):Ar:=
 let a:=A.set p {A.nd p with A8:=I8 (A.nd p).A8 b n}
 a.set n {a.nd n with FM:=p}
def Ld(k:Int):Prop:=k=1\/k=2\/k=4
instance(k:Int):Decidable (Ld k):=by unfold Ld;infer_instance
structure jl(A:Ar)(p n b:Int):Prop where
 hp:A.has p
 hn:A.has n
 hb:b≠0->A.has b/\b≠n/\(A.nd b).FM=p
 kp:Ld (A.nd p).kind
 kn:(A.nd n).kind≠1/\(A.nd n).kind≠2
 re:¬Reach A n p
open Classical in
def Ar.FV(A:Ar)(p n b:Int):Ar:=if jl A p n b then(A.cut n).Nb p n b else A
def Tg{l:List Int}{b n k:Int}:k∈I8 l b n↔k=n\/k∈l:=by
 unfold I8;split;.simp;exact Or.comm
 .have e:=jW (p:=λk=>decide (k≠b)) (l:=l);constructor
  .intro h;rw[Av,AS] at h;rcases h with h|h|h
   .exact .inr (by rw[<-e];simp only[Av];exact .inl h)
   .exact .inl h
   .exact .inr (by rw[<-e];simp only[Av];exact .inr h)
  .intro h;rw[Av,AS];rcases h with h|h
   .exact .inr (.inl h)
   .rw[<-e,Av] at h;rcases h with h|h
    .exact .inl h
    .exact .inr (.inr h)
def gS{l:List Int}{b n:Int}(h:l.Nodup)(hn:n∉l):(I8 l b n).Nodup:=by
 unfold I8;split;.rw[B5];refine⟨h,AK,?_⟩;rintro a ha c hc rfl;simp at hc;subst hc;exact hn ha
 .have e:=jW (p:=λk=>decide (k≠b)) (l:=l);generalize List.takeWhile _ l=u at e⊢;generalize List.dropWhile _ l=w at e⊢;subst e;rw[B5] at h⊢;simp at hn;refine⟨h.1,by simp[h.2.1,hn.2],?_⟩;rintro a ha c hc rfl;simp at hc;rcases hc with rfl|hc
  .exact hn.1 ha
  .exact h.2.2 _ ha _ hc rfl
def gT:(A.cut h).n.length=A.n.length:=by unfold Ar.cut;simp only;split<;>simp[Jm]
def KX:(A.cut h).has k↔A.has k:=by unfold Ar.has;rw[gT]
def gU{p n b:Int}:(A.Nb p n b).n.length=A.n.length:=by unfold Ar.Nb;simp[Jm]
def qP{p n b:Int}:(A.Nb p n b).has k↔A.has k:=by unfold Ar.has;rw[gU]
def ux:(A.cut h).inr k=A.inr k:=by unfold Ar.cut;simp only;split<;>simp[Sa]
def uy{p n b:Int}:(A.Nb p n b).inr k=A.inr k:=by unfold Ar.Nb;simp[Sa]
def ĺ(ok:EK A e)(a:A.has h)(hu:A.up h≠0):A.up h≠h:=by obtain⟨r,hr⟩:=ok.bG;intro e;have:=hr h a hu;rw[e] at this;exact Dr _ this
def mQ(ok:EK A e)(a:A.has h)(hu:(A.nd h).FM≠0):(A.nd h).FM≠h:=by
 have:A.up h=(A.nd h).FM:=by unfold Ar.up;rw[Ae hu]
 have h2:=ĺ ok a (by rw[this];exact hu);rwa [this] at h2
def Ra(ok:EK A e)(a:A.has h):(A.cut h).nd k=if k=h then{A.nd h with FM:=0} else if(A.nd h).FM≠0/\k=(A.nd h).FM then{A.nd k with A8:=(A.nd k).A8.filter λm=>decide (m≠h)} else A.nd k:=by
 unfold Ar.cut;simp only
 by_cases hp:(A.nd h).FM=0
 .rw[Ae hp];by_cases e:k=h;.subst e;rw[Ae rfl];have:A.nd k={A.nd k with FM:=(A.nd k).FM}:=rfl;rw[hp] at this;exact this
  .rw[Ac e,Ac (by simp[hp])]
 .have hn:=mQ ok a hp;have hq:=(ok.FM h a hp).1;rw[Ac hp];simp only[JI,Im,a,hq,Mx];by_cases e:k=h;.subst e;simp[DH hn]
  .simp[e,hp];split;.rename_i e;simp[e]
   .rfl
def gV{x:EV}(hx:bl x){l:List Int}(h1:l.Nodup)(h2:l≠[]->Ld x.kind):bl {x with A8:=l}:=
 {k:=hx.k,A8:=h2,elem:=hx.elem,nm:=hx.nm,dt:=hx.dt,data:=hx.data,CI:=hx.CI,sp:=hx.sp,qn:=hx.qn,Cx:=hx.Cx,Ug:=hx.Ug,Pu:=hx.Pu,root:=hx.root,yS:=h1}
def qQ{x:EV}(hx:bl x){p:Int}(h2:p≠0->x.kind≠1/\x.kind≠2):bl {x with FM:=p}:=
 {k:=hx.k,A8:=hx.A8,elem:=hx.elem,nm:=hx.nm,dt:=hx.dt,data:=hx.data,CI:=hx.CI,sp:=hx.sp,qn:=hx.qn,Cx:=hx.Cx,Ug:=hx.Ug,Pu:=hx.Pu,root:=h2,yS:=hx.yS}
def aA1(ok:A.i.length=A.n.length):(A.cut h).i.length=(A.cut h).n.length:=by rw[gT];unfold Ar.cut;simp only;split<;>exact ok
def aA2{p n b:Int}(ok:A.i.length=A.n.length):(A.Nb p n b).i.length=(A.Nb p n b).n.length:=by rw[gU];exact ok
def uz(ok:EK A e)(a:A.has h)(hk:k∈(A.nd h).A8):k≠h/\(A.nd k).FM=h/\A.has k:=by have:=ok.MO h a k hk;refine⟨?_,this.2,this.1⟩;rintro rfl;have h0:=this.1.1;exact mQ ok a (by rw[this.2];omega) this.2
def jm(ok:EK A e)(a:A.has h):(A.cut h).up k=if k=h then(A.nd h).Em else A.up k:=by
 unfold Ar.up;rw[Ra ok a];by_cases e:k=h;.simp[e]
 .simp only[e,Eb];split<;>rfl
def mR(ok:EK A e)(c:A.has h)(X6:(A.nd h).kind≠2):EK (A.cut h) e:=by
 obtain⟨r,hr⟩:=ok.bG;have a:=λm=>Ra (k:=m) ok c;have kd:∀m,((A.cut h).nd m).kind=(A.nd m).kind:=λm=>by rw[a];grind
 have l:∀m,((A.cut h).nd m).CM=(A.nd m).CM:=λm=>by rw[a];grind
 have n:∀m,((A.cut h).nd m).cont=(A.nd m).cont:=λm=>by rw[a];grind
 have ho:∀m,((A.cut h).nd m).Em=(A.nd m).Em:=λm=>by rw[a];grind
 have d:(A.nd h).Em=0:=by
  by_cases h0:(A.nd h).Em=0;.exact h0
  .exact absurd ((ok.Sd h c).Pu h0) X6
 refine⟨aA1 ok.il,?_,?_,?_,?_,?_,?_,?_,?_,?_,r,?_⟩<;>intro m hm<;>rw[KX] at hm<;>(try simp only[kd,l,n,ho,KX,ux])
 .rw[a];split;.exact qQ (ok.Sd h c) AK
  .split;.exact gV (ok.Sd m hm) ((ok.Sd m hm).yS.filter _) λh1=>(ok.Sd m hm).A8 (by intro h2;rw[h2] at h1;simp at h1)
   .exact ok.Sd m hm
 .exact ok.CM m hm
 .exact ok.bF m hm
 .intro h1;have b:m≠h:=by rintro rfl;rw[a] at h1;simp at h1
  have j:((A.cut h).nd m).FM=(A.nd m).FM:=by rw[a,Ac b];split<;>rfl
  rw[j] at h1⊢;have h2:=ok.FM m hm h1;refine⟨h2.1,?_⟩;rw[a];split;.rename_i i;rw[<-i];exact h2.2
  .split;.simp only[DI,CX];exact⟨h2.2,b⟩
   .exact h2.2
 .intro q hq;have h1:q∈(A.nd m).A8/\(m=(A.nd h).FM->q≠h):=by
   rw[a] at hq;split at hq;.rename_i b;subst b;have:=uz ok hm hq;exact⟨hq,λ_=>this.1⟩
   .split at hq;.simp only[DI,CX] at hq;exact⟨hq.1,λ_=>hq.2⟩
    .rename_i g;refine⟨hq,λf o=>g ⟨?_,f⟩⟩;rw[<-f];have:=hm.1;omega
  have h2:=ok.MO m hm q h1.1;refine⟨h2.1,?_⟩;have b:q≠h:=by rintro rfl;exact h1.2 h2.2.symm rfl
  rw[a,Ac b,<-h2.2];split<;>rfl
 .intro h1 h2;refine ok.bm m hm h1 ?_;rw[a] at h2;unfold bE at h2⊢;grind
 .exact ok.cont m hm
 .exact ok.Em m hm
 .exact ok.ine m hm
 .rw[jm ok c];split;.rw[d];simp
  .exact hr m hm
def jn{p n b:Int}(hp:A.has p)(hn:A.has n)(hne:n≠p):(A.Nb p n b).nd k=if k=n then{A.nd n with FM:=p} else if k=p then{A.nd p with A8:=I8 (A.nd p).A8 b n} else A.nd k:=by
 unfold Ar.Nb;simp only[JI,Im,hp,hn,Mx];by_cases e:k=n;.subst e;simp[hne]
 .simp[e]
def yT{p n b:Int}(hp:A.has p)(hn:A.has n)(hne:n≠p)(h0:(A.nd n).FM=0)(a:(A.nd n).Em=0)(hr:¬Reach A n p):∀{m},¬Reach A n m->(A.Nb p n b).up m=A.up m:=by
 intro m hm;have e:m≠n:=by rintro rfl;exact hm .refl
 unfold Ar.up;rw[jn hp hn hne,Ac e];split;.rename_i e;subst e;rfl
 .rfl
open Classical in
def aA3(ok:EK A e){p n b:Int}(hp:A.has p)(hn:A.has n)(kp:Ld (A.nd p).kind)(kn:(A.nd n).kind≠1/\(A.nd n).kind≠2)(re:¬Reach A n p)(h0:(A.nd n).FM=0):EK (A.Nb p n b) e:=by
 obtain⟨r,hr⟩:=ok.bG;have hne:n≠p:=by rintro rfl;exact re .refl
 have a:=λm=>jn (k:=m) (b:=b) hp hn hne;have kd:∀m,((A.Nb p n b).nd m).kind=(A.nd m).kind:=λm=>by rw[a];grind
 have l:∀m,((A.Nb p n b).nd m).CM=(A.nd m).CM:=λm=>by rw[a];grind
 have o:∀m,((A.Nb p n b).nd m).cont=(A.nd m).cont:=λm=>by rw[a];grind
 have ho:∀m,((A.Nb p n b).nd m).Em=(A.nd m).Em:=λm=>by rw[a];grind
 have i:(A.nd n).Em=0:=by
  by_cases h0:(A.nd n).Em=0;.exact h0
  .exact absurd ((ok.Sd n hn).Pu h0) kn.2
 have g:∀m,A.has m->n∉(A.nd m).A8:=by intro m hm h1;have:=ok.MO m hm n h1;rw[h0] at this;have:=hm.1;omega
 refine⟨aA2 ok.il,?_,?_,?_,?_,?_,?_,?_,?_,?_,λm=>if Reach A n m then r m+r p+1 else r m,?_⟩<;>intro m hm<;>rw[qP] at hm<;>(try simp only[kd,l,o,ho,qP,uy])
 .rw[a];split;.exact qQ (ok.Sd n hn) λ_=>kn
  .split;.exact gV (ok.Sd p hp) (gS (ok.Sd p hp).yS (g p hp)) λ_=>kp
   .exact ok.Sd m hm
 .exact ok.CM m hm
 .exact ok.bF m hm
 .intro h1;by_cases c:m=n
  .subst c;rw[a,Ae rfl];refine⟨hp,?_⟩;simp only
   rw[a,Ac (DH hne),Ae rfl];exact Tg.2 (.inl rfl)
  .have f:((A.Nb p n b).nd m).FM=(A.nd m).FM:=by rw[a,Ac c];split;rename_i e;rw[e];rfl
   rw[f] at h1⊢;have h2:=ok.FM m hm h1;refine⟨h2.1,?_⟩;rw[a];split;.rename_i j;rw[<-j];exact h2.2
   .split;.rename_i j;rw[<-j];exact Tg.2 (.inr h2.2)
    .exact h2.2
 .intro q hq;by_cases c:q=n
  .subst c;refine⟨hn,?_⟩;rw[a,Ae rfl];rw[a] at hq;split at hq;.exact absurd hq (g q hn)
   .split at hq;.rename_i e;exact e.symm
    .exact absurd hq (g m hm)
  .have h1:q∈(A.nd m).A8:=by
    rw[a] at hq;split at hq;.rename_i e;rw[e];exact hq
    .split at hq;.rename_i e;rw[e];exact(Tg.1 hq).resolve_left c
     .exact hq
   have h2:=ok.MO m hm q h1;refine⟨h2.1,?_⟩;rw[a,Ac c,<-h2.2];split;.rename_i e;rw[e]
   .rfl
 .intro h1 h2;refine ok.bm m hm h1 ?_;rw[a] at h2;unfold bE at h2⊢;grind
 .exact ok.cont m hm
 .exact ok.Em m hm
 .exact ok.ine m hm
 .intro hu;by_cases hR:Reach A n m
  .by_cases c:m=n
   .subst c;have f:(A.Nb p m b).up m=p:=by unfold Ar.up;rw[a,Ae rfl];simp only;rw[Ae];have:=hp.1;omega
    rw[f,Ac re,Ae hR];omega
   .have f:(A.Nb p n b).up m=A.up m:=by
     unfold Ar.up;rw[a,Ac c];split;.rename_i e;rw[e]
     .rfl
    rw[f] at hu⊢;have d:Reach A n (A.up m):=by
     cases hR with
     |refl=>exact absurd rfl c
     |step _ hx=>exact hx
    rw[Ae d,Ae hR];have:=hr m hm hu;omega
  .have f:=yT (b:=b) hp hn hne h0 i re hR;rw[f] at hu⊢;have d:¬Reach A n (A.up m):=λh=>hR (.step hu h);rw[Ac d,Ac hR];exact hr m hm hu
def yU(ok:EK A e)(b:A.has h){m:Int}(hr:¬Reach A h m):¬Reach (A.cut h) h m:=by
 intro LL;have key:∀m,Reach (A.cut h) h m->Reach A h m:=by
  intro m hm;induction hm with
  |refl=>exact .refl
  |@step q h1 _ ih=>
   by_cases a:q=h;.rw[a];exact .refl
   .rw[jm ok b,Ac a] at h1 ih;exact .step h1 ih
 exact hr (key m LL)
def P4(ok:EK A e){p n b:Int}:EK (A.FV p n b) e:=by
 unfold Ar.FV;split
 .rename_i f;have a:=mR ok f.hn f.kn.2;have kd:∀m,((A.cut n).nd m).kind=(A.nd m).kind:=λm=>by rw[Ra ok f.hn];grind
  refine aA3 a (KX.2 f.hp) (KX.2 f.hn) ?_ ?_ (yU ok f.hn f.re) ?_;.rw[kd];exact f.kp
  .rw[kd];exact f.kn
  .rw[Ra ok f.hn,Ae rfl]
 .exact ok
def jo(ok:EK A e)(g:A.has h)(hx:bl x)(h1:x.kind=(A.nd h).kind)(h2:x.FM=(A.nd h).FM)(o:x.A8=(A.nd h).A8)(d:A.has x.CM/\(A.nd x.CM).kind=1/\(x.kind=1->x.CM=h))(n:x.cont=(A.nd h).cont)(l:x.Em=(A.nd h).Em)(i:bE x->bE (A.nd h)):EK (A.set h x) e:=by
 obtain⟨r,hr⟩:=ok.bG;have a:∀m,(A.set h x).nd m=if m=h then x else A.nd m:=λm=>by rw[JI];simp[g]
 have kd:∀m,((A.set h x).nd m).kind=(A.nd m).kind:=λm=>by rw[a];grind
 have f:∀m,((A.set h x).nd m).FM=(A.nd m).FM:=λm=>by rw[a];grind
 have ks:∀m,((A.set h x).nd m).A8=(A.nd m).A8:=λm=>by rw[a];grind
 have j:∀m,((A.set h x).nd m).cont=(A.nd m).cont:=λm=>by rw[a];grind
 have ho:∀m,((A.set h x).nd m).Em=(A.nd m).Em:=λm=>by rw[a];grind
 have u:∀m,(A.set h x).up m=A.up m:=λm=>by unfold Ar.up;rw[f,ho]
 refine⟨by rw[Jm];exact ok.il,?_,?_,?_,?_,?_,?_,?_,?_,?_,r,?_⟩<;>intro m hm<;>rw[Im] at hm<;>(try simp only[kd,f,ks,j,ho,u,Im,Sa])
 .rw[a];split;.exact hx
  .exact ok.Sd m hm
 .rw[a];split;.exact⟨d.1,d.2.1⟩
  .exact ok.CM m hm
 .rw[a];split;.rename_i e;intro c;rw[e,d.2.2 (by rw[h1,<-e];exact c)]
  .exact ok.bF m hm
 .exact ok.FM m hm
 .exact ok.MO m hm
 .intro c b;refine ok.bm m hm c ?_;rw[a] at b;split at b;.rename_i e;rw[e];exact i b
  .exact b
 .exact ok.cont m hm
 .exact ok.Em m hm
 .exact ok.ine m hm
 .exact hr m hm
def Ar.Fy(A:Ar)(d:Int):Int:=if A.inr d≠0 then A.inr d else A.len+1
def Ar.Dh(A:Ar)(d:Int):Ar:=if A.inr d≠0 then A else((A.add {kind:=1,CM:=A.len+1}).IZ d (A.len+1)).IZ (A.len+1) (A.len+1)
def u_:bl {kind:=1,CM:=k}:=by constructor<;>simp[Cx,Hv]
def qR(ok:EK A e)(hk:A.has k/\(A.nd k).kind=1):EK (A.IZ h k) e:=by
 refine⟨?_,ok.Sd,ok.CM,ok.bF,ok.FM,ok.MO,ok.bm,ok.cont,ok.Em,?_,ok.bG⟩;.simp only[Ar.IZ];split<;>simp[ok.il]
 .intro m hm h1;rw[NC] at hm;rw[Ps ok.il] at h1⊢;split at h1;.rename_i h2;rw[Ae h2];exact hk
  .rename_i h2;rw[Ac h2];exact ok.ine m hm h1
def jq(ok:EK A e)(b:A.has h)(he:e≠A.len+1):EK (A.Dh h) e/\(A.Dh h).has (A.Fy h)/\((A.Dh h).nd (A.Fy h)).kind=1:=by
 unfold Ar.Dh Ar.Fy;split;.rename_i h1;exact⟨ok,ok.ine h b h1⟩
 .have a:=Xh ok (x:={kind:=1,CM:=A.len+1}) u_ (.inl ⟨rfl,rfl⟩) rfl rfl rfl rfl (by simp[bE]);have h2:(A.add {kind:=1,CM:=A.len+1}).has (A.len+1)/\((A.add {kind:=1,CM:=A.len+1}).nd (A.len+1)).kind=1:=by rw[DL,IC,Ae rfl];exact⟨.inr rfl,rfl⟩
  exact⟨qR (qR a h2) h2,h2⟩
def Xi(hk:k≠A.len+1\/A.inr h≠0):(A.Dh h).nd k=A.nd k:=by
 unfold Ar.Dh;split;.rfl
 .rename_i h1;rw[Sc,Sc,IC,Ac (hk.resolve_right h1)]
def yV:(A.Dh h).len=if A.inr h≠0 then A.len else A.len+1:=by
 unfold Ar.Dh;split;.rfl
 .rw[Sb,Sb,Oh]
def ND:A.has k->(A.Dh h).has k:=by
 unfold Ar.Dh;split;.exact id
 .intro hk;rw[NC,NC,DL];exact .inl hk
def vd{d:Int}(ok:EK A e)(he:A.has e)(n:bE (A.nd e))(hc:(A.nd e).cont=0)(hd:A.has d/\(A.nd d).kind=1):EK ((A.add {kind:=2,Em:=e,CM:=d}).set e {A.nd e with cont:=A.len+1}) 0:=by
 have no:=Q9 (A:=A);obtain⟨r,hr⟩:=ok.bG;have ne:∀{k},A.has k->k≠A.len+1:=λhk e=>no (e▸hk);have l0:A.len+1≠0:=by have:=he.1;have:=he.2;unfold Ar.len;omega
 have b:∀m,(((A.add {kind:=2,Em:=e,CM:=d}).set e {A.nd e with cont:=A.len+1}).nd m)=if m=e then{A.nd e with cont:=A.len+1} else if m=A.len+1 then{kind:=2,Em:=e,CM:=d} else A.nd m:=λm=>by rw[JI,IC];simp[he,DL]
 have hk:(A.nd e).kind=4:=n.1;have h0:(A.nd e).Em=0:=by
  by_cases h0:(A.nd e).Em=0;.exact h0
  .have:=(ok.Sd e he).Pu h0;omega
 have e0:e≠0:=by have:=he.1;omega
 have i:bl {kind:=2,Em:=e,CM:=d}:=by constructor<;>simp[Cx,Hv]
 have Sd:=ok.Sd;have c:=Sd e he;have hne:bl {A.nd e with cont:=A.len+1}:={k:=c.k,A8:=c.A8,elem:=c.elem,nm:=c.nm,dt:=c.dt,data:=c.data,CI:=c.CI,sp:=c.sp,qn:=c.qn,Cx:=c.Cx,Ug:=λ_=>n,Pu:=c.Pu,root:=c.root,yS:=c.yS};have hs:∀m,((A.add {kind:=2,Em:=e,CM:=d}).set e {A.nd e with cont:=A.len+1}).has m↔A.has m\/m=A.len+1:=λm=>by rw[Im,DL]
 have hi:∀m,((A.add {kind:=2,Em:=e,CM:=d}).set e {A.nd e with cont:=A.len+1}).inr m=A.inr m:=λm=>by rw[Sa,Vs ok.il]
 have g:e≠A.len+1:=ne he;refine⟨by rw[Jm];simp[Ar.add,Ar.set,ok.il],?_,?_,?_,?_,?_,?_,?_,?_,?_,λm=>if m=A.len+1 then r e+1 else r m,?_⟩<;>intro m hm<;>rw[hs] at hm<;>(try simp only[hs,hi])
 .rw[b];split;.exact hne
  .split;.exact i
   .rename_i h1 h2;exact Sd m (hm.resolve_right h2)
 .have key:∀q,A.has q/\(A.nd q).kind=1->(A.has q\/q=A.len+1)/\(((A.add {kind:=2,Em:=e,CM:=d}).set e {A.nd e with cont:=A.len+1}).nd q).kind=1:=by
   intro q hq;refine⟨.inl hq.1,?_⟩;rw[b,Ac (ne hq.1)];split;.rename_i a;rw[a] at hq;exact hq.2
   .exact hq.2
  rw[b m];split;.exact key _ (ok.CM e he)
  .split;.exact key _ hd
   .rename_i h1 h2;exact key _ (ok.CM m (hm.resolve_right h2))
 .rw[b m];split;.rename_i a;intro h1;rw[a];exact ok.bF e he h1
  .split;.intro h1;simp at h1
   .rename_i h1 h2;exact ok.bF m (hm.resolve_right h2)
 .have key:∀q,A.has q->(A.nd q).FM≠0->(A.has (A.nd q).FM\/(A.nd q).FM=A.len+1)/\q∈(((A.add {kind:=2,Em:=e,CM:=d}).set e {A.nd e with cont:=A.len+1}).nd (A.nd q).FM).A8:=by
   intro q hq hp;have h1:=ok.FM q hq hp;refine⟨.inl h1.1,?_⟩;rw[b,Ac (ne h1.1)];split;.rename_i a;rw[a] at h1;exact h1.2
   .exact h1.2
  rw[b m];split;.rename_i a;rw[a];exact key e he
  .split;.intro h1;simp at h1
   .rename_i h1 h2;exact key m (hm.resolve_right h2)
 .have key:∀q,A.has q->∀k∈(A.nd q).A8,(A.has k\/k=A.len+1)/\(((A.add {kind:=2,Em:=e,CM:=d}).set e {A.nd e with cont:=A.len+1}).nd k).FM=q:=by
   intro q hq k hk;have h1:=ok.MO q hq k hk;refine⟨.inl h1.1,?_⟩;rw[b,Ac (ne h1.1)];split;.rename_i a;rw[a] at h1;exact h1.2
   .exact h1.2
  rw[b m];split;.rename_i a;rw[a];exact key e he
  .split;.intro k hk;simp at hk
   .rename_i h1 h2;exact key m (hm.resolve_right h2)
 .intro _;rw[b m];split;.intro _;exact l0
  .split;.intro h1;simp[bE] at h1
   .rename_i h1 h2;exact ok.bm m (hm.resolve_right h2) h1
 .rw[b m];split
  .rename_i a;intro _;simp only
   rw[b,Ac (DH g),Ae rfl,a];exact⟨.inr trivial,rfl,rfl⟩
  .split;.intro h1;simp at h1
   .rename_i h1 h2;intro j;have f:=ok.cont m (hm.resolve_right h2) j;refine⟨.inl f.1,?_⟩;rw[b,Ac (ne f.1)];split;.rename_i a;rw[a,hk] at f;exact absurd f.2.1 A5
    .exact f.2
 .rw[b m];split;.intro h1;exact absurd h0 h1
  .split;.rename_i a;intro _;simp only;refine⟨.inl he,?_⟩;rw[b,Ae rfl,a]
   .rename_i h1 h2;intro j;have f:=ok.Em m (hm.resolve_right h2) j;refine⟨.inl f.1,?_⟩;rw[b,Ac (ne f.1)];split;.rename_i a;rw[a,hc] at f;have:=(hm.resolve_right h2).1;omega
    .exact f.2
 .intro h1;rcases hm with hm|rfl
  .have h2:=ok.ine m hm h1;refine⟨.inl h2.1,?_⟩;rw[b,Ac (ne h2.1)];split;.rename_i a;rw[a] at h2;exact h2.2
   .exact h2.2
  .exfalso;apply h1;unfold Ar.inr;rw[Ac no]
 .by_cases a:m=A.len+1
  .have l:((A.add {kind:=2,Em:=e,CM:=d}).set e {A.nd e with cont:=A.len+1}).up m=e:=by
    have o:m≠e:=by rw[a];exact DH g
    unfold Ar.up;rw[b m];simp[a,DH g]
   rw[l,Ac g,Ae a];intro _;omega
  .have hm:=hm.resolve_right a;have l:((A.add {kind:=2,Em:=e,CM:=d}).set e {A.nd e with cont:=A.len+1}).up m=A.up m:=by
    unfold Ar.up;rw[b];split;.rename_i o;rw[o]
    .rfl
   rw[l,Ac a];intro h1;rw[Ac (ne (mP ok hm h1))];exact hr m hm h1
def Ar.elem(A:Ar)(d sp:Int)(nm:Aq)(at_:List A6):Ar:=
 let x:EV:={kind:=4,CM:=d,A9:=sp,name:=nm,AA:=Cx at_}
 if bE x then
  let b:=A.add x
  let a:=b.Dh d
  (a.add {kind:=2,Em:=A.len+1,CM:=b.Fy d}).set (A.len+1) {x with cont:=a.len+1}
 else A.add x
def qS{d sp:Int}{nm:Aq}{l:List A6}(ok:EK A 0)(hd:A.has d/\(A.nd d).kind=1)(hs:0<=sp/\sp<=7)(hl:∀a∈l,0<=a.A9/\a.A9<=7):EK (A.elem d sp nm l) 0:=by
 have hx:bl {kind:=4,CM:=d,A9:=sp,name:=nm,AA:=Cx l}:=by constructor<;>simp[Zo,hs];exact λa ha=>hl a (gR ha)
 unfold Ar.elem;simp only
 split
 .rename_i c;have b:EK A (A.len+1):={ok with bm:=λh g _=>ok.bm h g (by have:=g.1;omega)};have j:=Xh b hx (.inr ⟨AK,hd⟩) rfl rfl rfl rfl λ_=>rfl;have bH:(A.add {kind:=4,CM:=d,A9:=sp,name:=nm,AA:=Cx l}).has d:=DL.2 (.inl hd.1);obtain⟨i,h2,m⟩:=jq j bH (by rw[Oh];omega);have f:((A.add {kind:=4,CM:=d,A9:=sp,name:=nm,AA:=Cx l}).Dh d).nd (A.len+1)={kind:=4,CM:=d,A9:=sp,name:=nm,AA:=Cx l}:=by rw[Xi (.inl (by rw[Oh];omega)),IC,Ae rfl]
  have:=vd i (ND (DL.2 (.inr rfl))) (by rw[f];exact c) (by rw[f]) ⟨h2,m⟩;rw[f] at this;exact this
 .rename_i c;exact Xh ok hx (.inr ⟨AK,hd⟩) rfl rfl rfl rfl λh=>absurd h c
end
def aNb(e:Cu):Bool:=decide (e.node=0)
def Xj(n:Int)(e:Cu):Bool:=decide (e.node=n)
def mS(l:List Cu):Int:=AP aNb l+1
def Fh(n:Int)(l:List Cu):Int:=if n=0 then -1 else AP (Xj n) l
def Pv(name:Aq):List Cu->Int
 |[]=> -1
 |x::t=>if x.node=0 then -1 else if x.name=name then(t.length:Int) else Pv name t
def GD(name:Aq)(l:List Cu):Int:=Pv name l.reverse
def qT(e:Cu):List Cu->Nat
 |[]=>0
 |x::t=>if x.node=0 then 0 else qT e t+(if GF x e=true then 1 else 0)
def gW(e:Cu):List Cu->Int
 |[]=> -1
 |x::t=>if x.node=0 then -1 else if 0<=gW e t then gW e t else if GF x e=true then(t.length:Int) else -1
def gX(e:Cu)(l:List Cu):List Cu:=(if e.node≠0/\3<=qT e l.reverse then Bf l (gW e l.reverse).toNat else l)++[e]
def Gv(l:List Cu):List Cu:=l.take (mS l-1).toNat
structure BS where
 a:Ar
 CM:Int
 AY:List Item
 Bb:List Cu
 mode:Int
 Jn:Int
 tm:List Int
 head:Int
 NF:Int
 LS:Bool
 ctx:Item
 fs:Bool
 EW:Bool
 gY:Aq
 skip:Bool
 sw:Int
 stop:Bool
def Se(s:List Aq)(A:Ar)(h:Int):Prop:=(A.nd h).kind=4/\(A.nd h).A9=1/\(A.nd h).name∈s
instance(s:List Aq)(A:Ar)(h:Int):Decidable (Se s A h):=by unfold Se;infer_instance
abbrev E9:Aq:=aWl
abbrev Th:Aq:=aWX
abbrev Ti:Aq:=aWU
abbrev Tj:Aq:=aWY
abbrev wTr:Aq:=[116,114]
abbrev wP:Aq:=[112]
def HI:List Aq:=[E9,Th,Ti,Tj,wTr]
namespace BS
def J3(b:BS):Int×Int:=
 let d:=AP (BD [Bd]) b.AY
 let c:=AP (BD [E9]) b.AY
 if c<d then((Ht b.AY d).node,0) else if c<0 then((Ht b.AY 0).node,0) else
 let t:=(Ht b.AY c).node
 if(b.a.nd t).FM≠0 then((b.a.nd t).FM,t) else((Ht b.AY (max (c-1) 0)).node,0)
def place(b:BS)(t:Int):Int×Int:=
 if t=0/\b.AY=[] then(b.CM,0) else
 let t':=if t=0 then(Fx b.AY).node else t
 let pb:=if b.EW=true/\Se HI b.a t' then b.J3 else(t',0)
 if(b.a.nd pb.1).cont≠0 then((b.a.nd pb.1).cont,0) else pb
end BS
open Classical in
def Ar.Ey(A:Ar)(h p bf:Int):Ar:=if(A.nd p).kind=1/\(A.nd h).kind=4/\(∃k∈(A.nd p).A8,(A.nd k).kind=4) then A else A.FV p h bf
namespace BS
def ID(b:BS)(p:Int):Int:=if(b.a.nd p).cont≠0 then(if(b.a.nd (b.a.nd p).cont).CM≠0 then(b.a.nd (b.a.nd p).cont).CM else b.CM) else if(b.a.nd p).CM≠0 then(b.a.nd p).CM else b.CM
def HX(sp:Int):Prop:=0<=sp/\sp<=7
instance(sp:Int):Decidable (HX sp):=by unfold HX;infer_instance
def IE(sp:Int)(nm:Aq):Aq:=if sp=2 then Cr nm IW else nm
def Gw(b:BS)(nm:Aq)(at_:List A6)(sp:Int):Item:=if HX sp then⟨b.a.len+1,sp,IE sp nm,Fm sp (IE sp nm) (at_.map (C3 sp))⟩ else Item.zero
def EB(b:BS)(nm:Aq)(at_:List A6)(sp p:Int):BS:=if HX sp then{b with a:=b.a.elem (b.ID p) sp (IE sp nm) (at_.map (C3 sp))} else b
def Pw(b:BS)(sp:Int):Int:=if HX sp then b.a.len+1 else 0
def Fa(b:BS)(nm:Aq)(at_:List A6)(sp:Int):BS:=
 if HX sp then
  let pb:=b.place 0
  let b1:=b.EB nm at_ sp pb.1
  {b1 with a:=b1.a.Ey (b.a.len+1) pb.1 pb.2,AY:=b1.AY++[b.Gw nm at_ sp]}
 else b
def Kh(b:BS)(nm:Aq)(at_:List A6):BS:=
 let b1:=b.Fa nm at_ 1
 {b1 with Bb:=gX ⟨b.a.len+1,nm,at_⟩ b1.Bb}
end BS
def HJ(r:Int):Aq:=
 if 0<=r/\r<128 then[UInt8.ofNat r.toNat]
 else if 128<=r/\r<2048 then[UInt8.ofNat (192+r.toNat/64),UInt8.ofNat (128+r.toNat%64)]
 else if 2048<=r/\r<65536/\¬(55296<=r/\r<57344) then[UInt8.ofNat (224+r.toNat/4096),UInt8.ofNat (128+r.toNat/64%64),UInt8.ofNat (128+r.toNat%64)]
 else if 65536<=r/\r<=1114111 then[UInt8.ofNat (240+r.toNat/262144),UInt8.ofNat (128+r.toNat/4096%64),UInt8.ofNat (128+r.toNat/64%64),UInt8.ofNat (128+r.toNat%64)]
 else[239,191,189]
def Tk(l:List Int)(bf:Int):Option Int:=if bf=0 then l.getLast? else(l.takeWhile λk=>decide (k≠bf)).getLast?
def Ar.Sf(A:Ar)(h:Int)(s:Aq):Ar:=A.set h {A.nd h with data:=s}
def Ar.Jo(A:Ar)(h:Int)(l:List A6):Ar:=A.set h {A.nd h with AA:=Cx l}
namespace BS
def Ly(A:Ar)(s:Aq)(p bf:Int):Ar:=
 if(A.nd p).kind=4\/(A.nd p).kind=2 then
  match Tk (A.nd p).A8 bf with
  |some t=>if(A.nd t).kind=5 then A.Sf t ((A.nd t).data++s) else(A.add {kind:=5,CM:=(A.nd p).CM,data:=s}).Ey (A.len+1) p bf
  |none=>(A.add {kind:=5,CM:=(A.nd p).CM,data:=s}).Ey (A.len+1) p bf
 else A
def Sg(b:BS)(r:Int):BS:={b with a:=Ly b.a (HJ r) (b.place 0).1 (b.place 0).2}
def E3(A:Ar)(s:Aq)(p bf:Int):Ar:=
 if Ld (A.nd p).kind then(A.add {kind:=6,CM:=(A.nd p).CM,data:=s}).Ey (A.len+1) p bf else A
def KY(b:BS)(s:Aq)(p:Int):BS:={b with a:=if p=0 then E3 b.a s (b.place 0).1 (b.place 0).2 else E3 b.a s p 0}
def P5(b:BS)(nm:Aq)(at_:List A6)(st:Int):BS:=let b1:=b.Fa nm at_ 1;{b1 with sw:=st,Jn:=b1.mode,mode:=8}
def JJ(b:BS):BS:=if J2 (BD [wP]) (JG 3) b.AY.reverse then{b with AY:=DR C0 (BD [wP]) (DR (Ex wP) C0 b.AY)} else b
def settled(b:BS)(e:Cu):Bool:=decide (e.node=0\/0<=AP (BB e.node) b.AY)
def Jp:List Cu->BS->List Cu×BS
 |[],b=>([],b)
 |e::l,b=>let r:=Jp l (b.Fa e.name e.AA 1);({e with node:=b.a.len+1}::r.1,r.2)
def Lf(b:BS):Nat:=(AP b.settled b.Bb+1).toNat
def DT(b:BS):BS:=let r:=Jp (b.Bb.drop b.Lf) b;{r.2 with Bb:=b.Bb.take b.Lf++r.1}
def Dm(b:BS)(nm:Aq):BS:=match b.AY.reverse.find? λi=>BD [nm] i||GR i with
 |some i=>if BD [nm] i then{b with AY:=GS i.node (DR (Ex nm) C0 b.AY)} else b
 |none=>b
def Jz(l:List Item):Int:=match l.reverse.find? λi=>BD [Bd] i||BD [E9] i with
 |some i=>if BD [Bd] i then 16 else 17
 |none=>16
end BS
abbrev Si:Aq:=aWs
abbrev P6:Aq:=aWF
abbrev qU:Aq:=aWZ
abbrev P7:Aq:=aWK
abbrev KZ:Aq:=aW4
abbrev jr:Aq:=[116,100]
abbrev js:Aq:=[116,104]
abbrev QC:Aq:=aWL
abbrev Dy:Aq:=aWh
def Jq:List (Aq×Int):=[(wTr,14),(Th,13),(Tj,13),(Ti,13),(Si,11),(P6,12),(E9,9),(qU,7),(P7,20)]
namespace BS
def Hd(b:BS)(x:Item)(k:Nat):Option Int:=
 if x.A9=1 then
  match Jq.find? λr=>decide (r.1=x.name) with
  |some r=>some r.2
  |none=>
   if x.name=KZ then some (Jz (b.AY.take k))
   else if(x.name=jr\/x.name=js)/\0<k then some 15
   else if x.name=Bd then some (b.tm.getLast?.getD 7)
   else if x.name=QC/\0<k then some 4
   else if x.name=Dy then some (if b.head=0 then 3 else 6)
   else if k=0 then some 7 else none
 else if k=0 then some 7 else none
def EC(b:BS)(k:Nat):Item:=if k=0/\b.LS=true then b.ctx else b.AY.getD k Item.zero
def LA(b:BS):Nat->Int
 |0=>7
 |k+1=>match b.Hd (b.EC k) k with
  |some m=>m
  |none=>b.LA k
def IF(b:BS):BS:={b with mode:=b.LA b.AY.length}
def plain(l:List A6):List A6:=l.map λa=>⟨0,a.name,a.value⟩
def Hw(b:BS)(l:List A6)(h:Int):BS:=if(b.a.nd h).kind=4 then{b with a:=b.a.Jo h ((b.a.nd h).AA++plain l)} else b
def Du(b:BS):BS:=
 if AP (BD [Bd]) b.AY<0 then b
 else IF {b with AY:=DR C0 (BD [Bd]) (DR CO C0 b.AY),Bb:=Gv b.Bb,tm:=b.tm.dropLast}
def Ky(b:BS):BS:=if b.AY.length<2 then b else{b with AY:=b.AY.take (b.AY.length-1)}
def gZ(b:BS):Item:=if b.AY.length<2 then Item.zero else Fx b.AY
end BS
def Cu.zero:Cu:=⟨0,[],[]⟩
namespace BS
def Fq(blk anc:Int)(far i:Nat)(b:BS)(l:Int)(m:Nat):BS×Int×Nat:=
 let x:=b.AY.getD i Item.zero
 let e:=Fh x.node b.Bb
 if e<0 then({b with AY:=Bf b.AY i},l,m)
 else if i+3<far then({b with Bb:=Bf b.Bb e.toNat,AY:=Bf b.AY i},l,if e.toNat<m then m-1 else m)
 else
  let en:=b.Bb.getD e.toNat Cu.zero
  let n:=b.Gw en.name en.AA 1
  let b1:=b.EB en.name en.AA 1 anc
  ({b1 with a:=b1.a.FV n.node l 0,AY:=b1.AY.set i n,Bb:=b1.Bb.set e.toNat {en with node:=n.node}},n.node,if l=blk then e.toNat+1 else m)
def Kt(blk anc:Int)(far k:Nat):Nat->BS×Int×Nat->BS×Int×Nat
 |0,s=>s
 |c+1,s=>Kt blk anc far k c (Fq blk anc far (k+(c+1)) s.1 s.2.1 s.2.2)
def CA(A:Ar)(n:Int)(l:List Int):Ar:=l.foldl (λA x=>A.FV n x 0) A
def GG(fe:Cu)(blk anc:Int)(s:BS×Int×Nat):BS:=
 let b1:=s.1
 let pb:=b1.place anc
 let b2:={b1 with a:=b1.a.Ey s.2.1 pb.1 pb.2}
 let n:=b2.Gw fe.name fe.AA 1
 let b3:=b2.EB fe.name fe.AA 1 blk
 let b:=Fh fe.node b3.Bb
 let mk:=if b.toNat<s.2.2 then s.2.2 -1 else s.2.2
 let ac:=Bf b3.Bb b.toNat
 let op:=C2 fe.node b3.AY
 let ip:=E2 (AP (BB blk) op+1) op.length
 {b3 with a:=(CA b3.a n.node (b3.a.nd blk).A8).FV blk n.node 0,Bb:=ac.take (CG mk ac.length)++{fe with node:=n.node}::ac.drop (CG mk ac.length),AY:=op.take ip++n::op.drop ip}
def round(b:BS)(nm:Aq):Bool×BS:=
 let f:=GD nm b.Bb
 if f<0 then(false,b.Dm nm) else
 let fe:=b.Bb.getD f.toNat Cu.zero
 let k:=AP (BB fe.node) b.AY
 if k<0 then(false,{b with Bb:=Bf b.Bb f.toNat}) else
 if k=0\/J2 (BB fe.node) (JG 1) b.AY.reverse=false then(false,b) else
 let far:=D0 fe.node b.AY
 if far<0 then(false,{b with AY:=GS fe.node b.AY,Bb:=Bf b.Bb f.toNat}) else
 let blk:=(b.AY.getD far.toNat Item.zero).node
 let anc:=(b.AY.getD (k.toNat-1) Item.zero).node
 (true,GG fe blk anc (Kt blk anc far.toNat k.toNat (far.toNat-1 -k.toNat) (b,blk,f.toNat)))
def Ee:Nat->BS->Aq->BS
 |0,b,_=>b
 |n+1,b,nm=>let r:=b.round nm;if r.1 then Ee n r.2 nm else r.2
def Ih(b:BS)(nm:Aq):BS:=
 if BD [nm] (Fx b.AY)/\Fh (Fx b.AY).node b.Bb<0 then b.Ky else Ee 8 b nm
end BS
structure Le(A A':Ar):Prop where
 has:∀h,A.has h->A'.has h
 kind:∀h,A.has h->(A'.nd h).kind=(A.nd h).kind
 A9:∀h,A.has h->(A'.nd h).A9=(A.nd h).A9
 name:∀h,A.has h->(A'.nd h).name=(A.nd h).name
section
variable{A A' A'':Ar}{h k e p n b:Int}{x:EV}
def Le.refl:Le A A:=⟨λ_ h=>h,λ_ _=>rfl,λ_ _=>rfl,λ_ _=>rfl⟩
def Le.trans(h1:Le A A')(h2:Le A' A''):Le A A'':=⟨λh a=>h2.has h (h1.has h a),λh a=>by rw[h2.kind h (h1.has h a),h1.kind h a],λh a=>by rw[h2.A9 h (h1.has h a),h1.A9 h a],λh a=>by rw[h2.name h (h1.has h a),h1.name h a]⟩
def Le.Ļ(h1:∀h,A.has h->A'.has h)(h2:∀h,A.has h->A'.nd h=A.nd h):Le A A':=⟨h1,λh a=>by rw[h2 h a],λh a=>by rw[h2 h a],λh a=>by rw[h2 h a]⟩
def Xk(a:A.has h):h≠A.len+1:=λe=>Q9 (A:=A) (e▸a)
def Mk(a:A.has h):(A.add x).nd h=A.nd h:=by rw[IC,Ac (Xk a)]
def mT:Le A (A.add x):= .Ļ (λh a=>DL.2 (.inl a)) λh a=>Mk a
def bI(h1:x.kind=(A.nd h).kind)(h2:x.A9=(A.nd h).A9)(a:x.name=(A.nd h).name):Le A (A.set h x):=by
 refine⟨λk hk=>Im.2 hk,?_,?_,?_⟩<;>intro k hk<;>rw[JI]<;>split;.rename_i e;rw[e.1,h1]
 .rfl
 .rename_i e;rw[e.1,h2]
 .rfl
 .rename_i e;rw[e.1,a]
 .rfl
def qV{l:List Int}:Le A (A.set h {A.nd h with A8:=l}):=bI rfl rfl rfl
def qW:Le A (A.set h {A.nd h with FM:=p}):=bI rfl rfl rfl
def aA4:Le A (A.cut n):=by
 unfold Ar.cut;simp only;split;.exact .refl
 .exact Le.trans qV qW
def aA5:Le A (A.Nb p n b):=Le.trans qV qW
def Oi:Le A (A.FV p n b):=by unfold Ar.FV;split;exact aA4.trans aA5;exact .refl
def I0:Le A (A.Ey n p b):=by unfold Ar.Ey;split;exact .refl;exact Oi
def Oj(ok:EK A e):EK (A.Ey n p b) e:=by unfold Ar.Ey;split;exact ok;exact P4 ok
def hC{d sp:Int}{nm:Aq}{l:List A6}(a:A.has h):(A.elem d sp nm l).has h/\(A.elem d sp nm l).nd h=A.nd h:=by
 have hne:=Xk a;unfold Ar.elem;simp only
 split;.have h1:(A.add {kind:=4,CM:=d,A9:=sp,name:=nm,AA:=Cx l}).has h:=DL.2 (.inl a);refine⟨Im.2 (DL.2 (.inl (ND h1))),?_⟩;rw[JI,Ac (λe=>hne e.1),Mk (ND h1),Xi (.inl (Xk h1)),Mk a]
 .exact⟨DL.2 (.inl a),Mk a⟩
def hZ{d sp:Int}{nm:Aq}{l:List A6}:(A.elem d sp nm l).has (A.len+1)/\((A.elem d sp nm l).nd (A.len+1)).kind=4/\((A.elem d sp nm l).nd (A.len+1)).A9=sp/\((A.elem d sp nm l).nd (A.len+1)).name=nm/\((A.elem d sp nm l).nd (A.len+1)).A8=[]/\((A.elem d sp nm l).nd (A.len+1)).FM=0/\((A.elem d sp nm l).nd (A.len+1)).CM=d/\((A.elem d sp nm l).nd (A.len+1)).AA=Cx l:=by
 unfold Ar.elem;simp only
 split;.have h1:(A.add {kind:=4,CM:=d,A9:=sp,name:=nm,AA:=Cx l}).has (A.len+1):=DL.2 (.inr rfl);have h2:=DL (x:={kind:=2,Em:=A.len+1,CM:=(A.add {kind:=4,CM:=d,A9:=sp,name:=nm,AA:=Cx l}).Fy d}).2 (.inl (ND (h:=d) h1));rw[Im,JI,Ae ⟨rfl,h2⟩];exact⟨h2,rfl,rfl,rfl,rfl,rfl,rfl,rfl⟩
 .rw[IC,Ae rfl];exact⟨DL.2 (.inr rfl),rfl,rfl,rfl,rfl,rfl,rfl,rfl⟩
def Vt{d sp:Int}{nm:Aq}{l:List A6}:Le A (A.elem d sp nm l):= .Ļ (λ_ h=>(hC h).1) λ_ h=>(hC h).2
def iA{l:List A6}(ok:EK A e)(c:A.has h)(hk:(A.nd h).kind=4)(hl:∀a∈l,0<=a.A9/\a.A9<=7):EK (A.Jo h l) e:=by have hx:=ok.Sd h c;refine jo ok c ⟨hx.k,hx.A8,λh=>absurd hk h,hx.nm,hx.dt,hx.data,hx.CI,hx.sp,λa ha=>hl a (gR ha),Zo l,hx.Ug,hx.Pu,hx.root,hx.yS⟩ rfl rfl rfl ⟨(ok.CM h c).1,(ok.CM h c).2,ok.bF h c⟩ rfl rfl λd=>d
def mU{s:Aq}(ok:EK A e)(a:A.has h)(hk:(A.nd h).kind=5\/(A.nd h).kind=6):EK (A.Sf h s) e:=by have hx:=ok.Sd h a;refine jo ok a ⟨hx.k,hx.A8,hx.elem,hx.nm,hx.dt,λf d=>by have:(A.nd h).kind≠5:=f;have:(A.nd h).kind≠6:=d;omega,hx.CI,hx.sp,hx.qn,hx.Cx,hx.Ug,hx.Pu,hx.root,hx.yS⟩ rfl rfl rfl ⟨(ok.CM h a).1,(ok.CM h a).2,ok.bF h a⟩ rfl rfl λc=>c
def bJ{kd d:Int}{s:Aq}(ok:EK A e)(he:e≠A.len+1)(hd:A.has d/\(A.nd d).kind=1)(hk:kd=5\/kd=6):EK (A.add {kind:=kd,CM:=d,data:=s}) e:=by
 refine Xh ok ?_ (.inr ⟨Eg,hd⟩) rfl rfl rfl rfl (λh=>?_);.constructor<;>simp[Cx,Hv]<;>omega
 .have:=h.1;simp at this;omega
def mV{s:Aq}:Le A (A.Sf h s):=bI rfl rfl rfl
def iB{l:List A6}:Le A (A.Jo h l):=bI rfl rfl rfl
def bK{sp:Int}{a:A6}:0<=(C3 sp a).A9/\(C3 sp a).A9<=7:=by
 unfold C3;split
 .split
  .rename_i s m he;have:∀x∈fT,0<=x.2.1/\x.2.1<=7:=A5;unfold D8 at he;cases hf:fT.find? λx=>decide (Kg sp a.name=x.1) with
   |none=>rw[hf] at he;cases he
   |some y=>rw[hf] at he;have:=this y (Qm hf);simp at he;rw[he] at this;exact this
  .exact⟨Gy 0,AK⟩
 .exact⟨Gy 0,AK⟩
end
structure Ez(b:BS):Prop where
 ok:EK b.a 0
 CM:b.a.has b.CM/\(b.a.nd b.CM).kind=1
 op:∀i∈b.AY,b.a.has i.node/\(b.a.nd i.node).kind=4/\(b.a.nd i.node).A9=i.A9/\(b.a.nd i.node).name=i.name
 qo:(b.AY.map Item.node).Nodup
 ac:∀e∈b.Bb,e.node=0\/(b.a.has e.node/\(b.a.nd e.node).kind=4)
 yW:((b.Bb.map Cu.node).filter λn=>decide (n≠0)).Nodup
structure BA(b:BS):Prop where
 ok:EK b.a 0
 CM:b.a.has b.CM/\(b.a.nd b.CM).kind=1
def Ez.ba{b:BS}(o:Ez b):BA b:=⟨o.ok,o.CM⟩
instance{b:BS}:Coe (Ez b) (BA b):=⟨Ez.ba⟩
section
variable{b:BS}{t:Int}
def ve{A A':Ar}{l:List Item}(hl:Le A A')(h:∀i∈l,A.has i.node/\(A.nd i.node).kind=4/\(A.nd i.node).A9=i.A9/\(A.nd i.node).name=i.name):∀i∈l,A'.has i.node/\(A'.nd i.node).kind=4/\(A'.nd i.node).A9=i.A9/\(A'.nd i.node).name=i.name:=by intro i hi;have:=h i hi;rw[hl.kind _ this.1,hl.A9 _ this.1,hl.name _ this.1];exact⟨hl.has _ this.1,this.2⟩
def qX{A A':Ar}{l:List Cu}(hl:Le A A')(h:∀e∈l,e.node=0\/(A.has e.node/\(A.nd e.node).kind=4)):∀e∈l,e.node=0\/(A'.has e.node/\(A'.nd e.node).kind=4):=by
 intro e he;rcases h e he with h|h
 .exact .inl h
 .rw[hl.kind _ h.1];exact .inr ⟨hl.has _ h.1,h.2⟩
def Ez.Ku(o:Ez b){A:Ar}(ok:EK A 0)(hl:Le b.a A):Ez {b with a:=A}:=
 ⟨ok,by rw[hl.kind _ o.CM.1];exact⟨hl.has _ o.CM.1,o.CM.2⟩,ve hl o.op,o.qo,qX hl o.ac,o.yW⟩
def Ez.aNc(o:Ez b){l:List Item}(h1:∀i∈l,i∈b.AY)(h2:(l.map Item.node).Nodup):Ez {b with AY:=l}:=
 ⟨o.ok,o.CM,λi hi=>o.op i (h1 i hi),h2,o.ac,o.yW⟩
def Ez.UP(o:Ez b){l:List Item}(h1:List.Sublist l b.AY):Ez {b with AY:=l}:=o.aNc (λ_ hi=>h1.subset hi) (o.qo.sublist (h1.map _))
def Ez.iC(o:Ez b){l:List Cu}(h1:List.Sublist l b.Bb):Ez {b with Bb:=l}:=
 ⟨o.ok,o.CM,o.op,o.qo,λe he=>o.ac e (h1.subset he),o.yW.sublist ((h1.map _).filter _)⟩
def Fi{p q:Item->Bool}{l:List Item}:List.Sublist (DR p q l) l:=by
 have key:∀r:List Item,List.Sublist (Po p q r) r:=by
  intro r;induction r with
  |nil=>exact A4 _
  |cons x r ih=>
   cases r with
   |nil=>exact A4 _
   |cons y r=>
    rw[Po];split;.exact A4 _
    .split;.exact TE _ _
     .exact ih.trans (TE _ _)
 have:=(key l.reverse).reverse;rwa [Fk] at this
def IG{n:Int}{l:List Item}:List.Sublist (GS n l) l:=by unfold GS;split;exact A4 _;exact Fi
def Di{U:Type}{l:List U}{k:Nat}:List.Sublist (Bf l k) l:=by
 unfold Bf;conv=>rhs;rw[<-CF k l]
 refine List.Sublist.append (A4 _) ?_;rw[<-Ei];exact aSb _ _
def Lg{n:Int}{l:List Item}:List.Sublist (C2 n l) l:=by unfold C2;split;exact A4 _;exact Di
def Ml{l:List Item}{i:Int}(h0:0<=i)(h1:i<l.length):Ht l i∈l:=by unfold Ht;rw[Ae h0,AL,Ai Ab];exact AN _
def KJ{U:Type}{q:U->Bool}{l:List U}:AP q l<l.length∧-1<=AP q l:=by rcases De (q:=q) (l:=l) with⟨h1,_⟩|⟨n,hn,h1,_⟩<;>rw[h1]<;>omega
def yX{l:List Item}(h:l≠[]):Fx l∈l:=by have:0<l.length:=EG.2 h;exact Ml Ab Ab
def vf(o:Ez b)(hn:b.AY≠[]):b.a.has b.J3.1/\(b.J3.2≠0->b.a.has b.J3.2/\(b.a.nd b.J3.2).FM=b.J3.1):=by
 have hl:0<b.AY.length:=EG.2 hn;have h1:=KJ (q:=BD [Bd]) (l:=b.AY);have h2:=KJ (q:=BD [E9]) (l:=b.AY);unfold BS.J3;simp only
 split;.exact⟨(o.op _ (Ml Ab Ab)).1,λh=>absurd rfl h⟩
 .split;.exact⟨(o.op _ (Ml Ab Ab)).1,λh=>absurd rfl h⟩
  .have c:=o.op _ (Ml (l:=b.AY) (i:=AP (BD [E9]) b.AY) Ab Ab);split;.rename_i hp;exact⟨(o.ok.FM _ c.1 hp).1,λ_=>⟨c.1,rfl⟩⟩
   .exact⟨(o.op _ (Ml Ab Ab)).1,λh=>absurd rfl h⟩
def Xl(o:Ez b)(ht:t=0\/(b.a.has t/\b.AY≠[])):b.a.has (b.place t).1/\((b.place t).2≠0->b.a.has (b.place t).2/\(b.a.nd (b.place t).2).FM=(b.place t).1):=by
 unfold BS.place;simp only
 split;.exact⟨o.CM.1,λh=>absurd rfl h⟩
 .rename_i h0;have hn:b.AY≠[]:=by
   rcases ht with h|h
   .intro h2;exact h0 ⟨h,h2⟩
   .exact h.2
  have h1:b.a.has (if t=0 then(Fx b.AY).node else t):=by
   split;.exact(o.op _ (yX hn)).1
   .rename_i h2;exact(ht.resolve_left h2).1
  generalize(if t=0 then(Fx b.AY).node else t)=t' at h1;have h2:b.a.has (if b.EW=true/\Se HI b.a t' then b.J3 else(t',0)).1/\((if b.EW=true/\Se HI b.a t' then b.J3 else(t',0)).2≠0->b.a.has (if b.EW=true/\Se HI b.a t' then b.J3 else(t',0)).2/\(b.a.nd (if b.EW=true/\Se HI b.a t' then b.J3 else(t',0)).2).FM=(if b.EW=true/\Se HI b.a t' then b.J3 else(t',0)).1):=by
   split;.exact vf o hn
   .exact⟨h1,λh=>absurd rfl h⟩
  generalize(if b.EW=true/\Se HI b.a t' then b.J3 else(t',0))=pb at h2;split;.rename_i hc;exact⟨(o.ok.cont _ h2.1 hc).1,λh=>absurd rfl h⟩
  .exact h2
def P8(o:BA b){p:Int}:b.a.has (b.ID p)/\(b.a.nd (b.ID p)).kind=1:=by
 unfold BS.ID;by_cases hp:b.a.has p
 .have key:∀q,b.a.has q->b.a.has (if(b.a.nd q).CM≠0 then(b.a.nd q).CM else b.CM)/\(b.a.nd (if(b.a.nd q).CM≠0 then(b.a.nd q).CM else b.CM)).kind=1:=by
   intro q hq;split;.exact o.ok.CM q hq
   .exact o.CM
  split;.rename_i hc;exact key _ (o.ok.cont p hp hc).1
  .exact key p hp
 .rw[HF hp];exact o.CM
variable{nm:Aq}{at_:List A6}{sp p:Int}
structure jt(b b1:BS)(i:Item):Prop where
 has:b1.a.has i.node
 kind:(b1.a.nd i.node).kind=4
 A9:(b1.a.nd i.node).A9=i.A9
 name:(b1.a.nd i.node).name=i.name
 new:¬b.a.has i.node
def Px(o:Ez b)(hs:BS.HX sp):Ez (b.EB nm at_ sp p)/\jt b (b.EB nm at_ sp p) (b.Gw nm at_ sp)/\Le b.a (b.EB nm at_ sp p).a:=by
 have hd:=P8 o.ba (p:=p);unfold BS.EB BS.Gw;rw[Ae hs,Ae hs];have ok:=qS (sp:=sp) (nm:=BS.IE sp nm) (l:=at_.map (C3 sp)) o.ok hd hs (by intro a ha;obtain⟨c,_,rfl⟩:=Bl.1 ha;exact bK)
 have hn:=hZ (A:=b.a) (d:=b.ID p) (sp:=sp) (nm:=BS.IE sp nm) (l:=at_.map (C3 sp));exact⟨o.Ku ok Vt,⟨hn.1,hn.2.1,hn.2.2.1,hn.2.2.2.1,Q9⟩,Vt⟩
def ju(o:BA b)(hs:BS.HX sp):BA (b.EB nm at_ sp p):=by
 have hd:=P8 o (p:=p);unfold BS.EB;rw[Ae hs];have ok:=qS (sp:=sp) (nm:=BS.IE sp nm) (l:=at_.map (C3 sp)) o.ok hd hs (by intro a ha;obtain⟨c,_,rfl⟩:=Bl.1 ha;exact bK)
 have l:Le b.a _:=Vt (A:=b.a) (d:=b.ID p) (sp:=sp) (nm:=BS.IE sp nm) (l:=at_.map (C3 sp));exact⟨ok,by rw[l.kind _ o.CM.1];exact⟨l.has _ o.CM.1,o.CM.2⟩⟩
def NG(o:Ez b){b1:BS}{i:Item}(f:jt b b1 i):i.node∉b.AY.map Item.node:=by intro h;obtain⟨j,hj,e⟩:=Bl.1 h;exact f.new (e▸(o.op j hj).1)
def P9(o:Ez b){b1:BS}{i:Item}(f:jt b b1 i):i.node∉b.Bb.map Cu.node:=by
 intro h;obtain⟨j,hj,e⟩:=Bl.1 h;rcases o.ac j hj with h1|h1
 .have:=f.has.1;omega
 .exact f.new (e▸h1.1)
def yY{U:Type}[DecidableEq U]{l:List U}{k:Nat}{x:U}(h:l.Nodup)(hx:x∉l):(l.take k++x::l.drop k).Nodup:=by
 have e:=CF k l;rw[B5];rw[<-e,B5] at h;refine⟨h.1,B8.2 ⟨λh1=>hx (BG h1),h.2.1⟩,?_⟩;rintro a ha c hc rfl;rcases AS.1 hc with rfl|hc
 .exact hx (Bn ha)
 .exact h.2.2 _ ha _ hc rfl
def mW{U:Type}[DecidableEq U]{l:List U}{k:Nat}{x:U}(h:l.Nodup)(hx:x∉l):(l.set k x).Nodup:=by
 rw[B2];split
 .have e:=CF k l;rw[B5];rw[<-e,B5] at h;have hd:List.Sublist (l.drop (k+1)) (l.drop k):=by rw[<-Ei];exact aSb _ _
  refine⟨h.1,B8.2 ⟨λh1=>hx (BG h1),h.2.1.sublist hd⟩,?_⟩;rintro a ha c hc rfl;rcases AS.1 hc with rfl|hc
  .exact hx (Bn ha)
  .exact h.2.2 _ ha _ (hd.subset hc) rfl
 .exact h
def Zp{U Z:Type}(f:U->Z)(l:List U)(k:Nat)(x:U):(l.take k++x::l.drop k).map f=(l.map f).take k++f x::(l.map f).drop k:=AK
def Ez.aA6(o:Ez b){i:Item}{k:Nat}(h1:b.a.has i.node/\(b.a.nd i.node).kind=4/\(b.a.nd i.node).A9=i.A9/\(b.a.nd i.node).name=i.name)(h2:i.node∉b.AY.map Item.node):Ez {b with AY:=b.AY.take k++i::b.AY.drop k}:=by
 refine⟨o.ok,o.CM,?_,by show((b.AY.take k++i::b.AY.drop k).map Item.node).Nodup;rw[Zp];exact yY o.qo h2,o.ac,o.yW⟩;intro j hj;rcases Av.1 hj with hj|hj
 .exact o.op j (Bn hj)
 .rcases AS.1 hj with rfl|hj
  .exact h1
  .exact o.op j (BG hj)
def Ez.mX(o:Ez b){i:Item}{k:Nat}(h1:b.a.has i.node/\(b.a.nd i.node).kind=4/\(b.a.nd i.node).A9=i.A9/\(b.a.nd i.node).name=i.name)(h2:i.node∉b.AY.map Item.node):Ez {b with AY:=b.AY.set k i}:=by
 refine⟨o.ok,o.CM,?_,by show((b.AY.set k i).map Item.node).Nodup;rw[Eo];exact mW o.qo h2,o.ac,o.yW⟩;intro j hj;rcases Db hj with hj|rfl
 .exact o.op j hj
 .exact h1
def jv{l:List Int}{k:Nat}{x:Int}(h:(l.filter λn=>decide (n≠0)).Nodup)(hx:x∉l):((l.take k++x::l.drop k).filter λn=>decide (n≠0)).Nodup:=by
 have e:=CF k l;rw[<-e,DW,B5] at h;rw[DW,B5];by_cases h0:x=0;.subst h0;simpa using h
 .rw[Ū (by simpa using h0)];refine⟨h.1,B8.2 ⟨λh1=>hx (BG ((DI.1 h1).1)),h.2.1⟩,?_⟩;rintro a ha c hc rfl;rcases AS.1 hc with rfl|hc
  .exact hx (Bn (DI.1 ha).1)
  .exact h.2.2 _ ha _ hc rfl
def jw{l:List Int}{k:Nat}{x:Int}(h:(l.filter λn=>decide (n≠0)).Nodup)(hx:x∉l):((l.set k x).filter λn=>decide (n≠0)).Nodup:=by
 rw[B2];split
 .have h2:(((l.take k++l.drop (k+1))).filter λn=>decide (n≠0)).Nodup:=h.sublist ((show List.Sublist (Bf l k) l from Di).filter _);rw[DW,B5] at h2⊢;by_cases h0:x=0;.subst h0;simpa using h2
  .rw[Ū (by simpa using h0)];refine⟨h2.1,B8.2 ⟨λh1=>hx (BG ((DI.1 h1).1)),h2.2.1⟩,?_⟩;rintro a ha c hc rfl;rcases AS.1 hc with rfl|hc
   .exact hx (Bn (DI.1 ha).1)
   .exact h2.2.2 _ ha _ hc rfl
 .exact h
def Ez.aA7(o:Ez b){e:Cu}{k:Nat}(h1:e.node=0\/(b.a.has e.node/\(b.a.nd e.node).kind=4))(h2:e.node=0\/e.node∉b.Bb.map Cu.node):Ez {b with Bb:=b.Bb.take k++e::b.Bb.drop k}:=by
 refine⟨o.ok,o.CM,o.op,o.qo,?_,?_⟩
 .intro j hj;rcases Av.1 hj with hj|hj
  .exact o.ac j (Bn hj)
  .rcases AS.1 hj with rfl|hj
   .exact h1
   .exact o.ac j (BG hj)
 .show(((b.Bb.take k++e::b.Bb.drop k).map Cu.node).filter _).Nodup;rw[Zp];rcases h2 with h2|h2
  .have:=o.yW;conv at this=>rw[<-CF k (b.Bb.map Cu.node),DW]
   rw[DW,List.filter_cons_of_neg (by simp[h2])];exact this
  .exact jv o.yW h2
def Ez.mY(o:Ez b){e:Cu}{k:Nat}(h1:b.a.has e.node/\(b.a.nd e.node).kind=4)(h2:e.node∉b.Bb.map Cu.node):Ez {b with Bb:=b.Bb.set k e}:=by
 refine⟨o.ok,o.CM,o.op,o.qo,?_,?_⟩
 .intro j hj;rcases Db hj with hj|rfl
  .exact o.ac j hj
  .exact .inr h1
 .show(((b.Bb.set k e).map Cu.node).filter _).Nodup;rw[Eo];exact jw o.yW h2
def Rb(o:Ez b):Ez (b.Fa nm at_ sp):=by
 unfold BS.Fa;split
 .rename_i hs;obtain⟨d,f,hl⟩:=Px (nm:=nm) (at_:=at_) (p:=(b.place 0).1) o hs;have g:=d.Ku (Oj (n:=b.a.len+1) (p:=(b.place 0).1) (b:=(b.place 0).2) d.ok) I0;have hn:(b.Gw nm at_ sp).node=b.a.len+1:=by unfold BS.Gw;rw[Ae hs]
  have c:Le (b.EB nm at_ sp (b.place 0).1).a ((b.EB nm at_ sp (b.place 0).1).a.Ey (b.a.len+1) (b.place 0).1 (b.place 0).2):=I0;have ho:(b.EB nm at_ sp (b.place 0).1).AY=b.AY:=by unfold BS.EB;rw[Ae hs]
  have:=g.aA6 (i:=b.Gw nm at_ sp) (k:=b.AY.length) ⟨c.has _ f.has,by rw[c.kind _ f.has];exact f.kind,by rw[c.A9 _ f.has];exact f.A9,by rw[c.name _ f.has];exact f.name⟩ (by simp only[ho];exact NG o f);simp only[ho,By,Ep] at this;simp only[ho];exact this
 .exact o
def Xm{l:List Cu}{e:Cu}:∃l',List.Sublist l' l/\gX e l=l'++[e]:=by
 unfold gX;split;.exact⟨_,Di,rfl⟩
 .exact⟨_,A4 _,rfl⟩
def vg:Le b.a (b.Fa nm at_ sp).a:=by
 unfold BS.Fa BS.EB;split;.exact Le.trans Vt I0
 .exact .refl
def iD(hs:BS.HX sp):(b.Fa nm at_ sp).a.has (b.a.len+1)/\((b.Fa nm at_ sp).a.nd (b.a.len+1)).kind=4:=by
 unfold BS.Fa BS.EB;rw[Ae hs];simp only
 rw[Ae hs];have hn:=hZ (A:=b.a) (d:=b.ID (b.place 0).1) (sp:=sp) (nm:=BS.IE sp nm) (l:=at_.map (C3 sp));exact⟨I0.has _ hn.1,by rw[I0.kind _ hn.1];exact hn.2.1⟩
def Gx:(b.Fa nm at_ sp).Bb=b.Bb:=by unfold BS.Fa BS.EB;split<;>rfl
def JQ:BS.HX 1:=⟨A5,A5⟩
def vh(o:Ez b):b.a.len+1∉b.Bb.map Cu.node:=by
 intro h;obtain⟨j,hj,e⟩:=Bl.1 h;rcases o.ac j hj with h1|h1
 .unfold Ar.len at e;omega
 .exact Q9 (e▸h1.1)
def yZ(o:Ez b):Ez (b.Kh nm at_):=by
 have d:=Rb (nm:=nm) (at_:=at_) (sp:=1) o;unfold BS.Kh;simp only
 obtain⟨l',h1,h2⟩:=Xm (l:=(b.Fa nm at_ 1).Bb) (e:=⟨b.a.len+1,nm,at_⟩);rw[h2];have c:=d.iC h1;have:=c.aA7 (e:=⟨b.a.len+1,nm,at_⟩) (k:=l'.length) (.inr (iD JQ)) (.inr (by intro h;rw[Gx] at h1;exact vh o ((h1.map Cu.node).subset h)))
 simpa using this
def Ez.of_eq{c:BS}(o:Ez b)(h1:c.a=b.a)(h2:c.CM=b.CM)(f:c.AY=b.AY)(d:c.Bb=b.Bb):Ez c:=
 ⟨h1▸o.ok,by rw[h1,h2];exact o.CM,by rw[h1,f];exact o.op,by rw[f];exact o.qo,by rw[h1,d];exact o.ac,by rw[d];exact o.yW⟩
def mZ{l:List Int}{bf t:Int}(h:Tk l bf=some t):t∈l:=by
 unfold Tk at h;split at h;.exact aK9 h
 .exact(List.takeWhile_sublist _).subset (aK9 h)
def zA{A:Ar}{s:Aq}{p bf:Int}(ok:EK A 0)(hp:A.has p):EK (BS.Ly A s p bf) 0/\Le A (BS.Ly A s p bf):=by
 have h0:(0:Int)≠A.len+1:=by unfold Ar.len;omega
 have ha:=Oj (n:=A.len+1) (p:=p) (b:=bf) (bJ (s:=s) (kd:=5) ok h0 (ok.CM p hp) (.inl rfl));have hl:Le A ((A.add {kind:=5,CM:=(A.nd p).CM,data:=s}).Ey (A.len+1) p bf):=Le.trans mT I0;unfold BS.Ly;split
 .split
  .rename_i t ht;split;.rename_i hk;exact⟨mU ok (ok.MO p hp _ (mZ ht)).1 (.inl hk),mV⟩
   .exact⟨ha,hl⟩
  .exact⟨ha,hl⟩
 .exact⟨ok,.refl⟩
def qY(o:Ez b){r:Int}:Ez (b.Sg r):=by have h:=zA (s:=HJ r) (bf:=(b.place 0).2) o.ok (Xl o (.inl rfl)).1;exact o.Ku h.1 h.2
def Sj{A:Ar}{s:Aq}{p bf:Int}(ok:EK A 0):EK (BS.E3 A s p bf) 0/\Le A (BS.E3 A s p bf):=by
 unfold BS.E3;split
 .rename_i hk;have hp:A.has p:=by
   by_cases hp:A.has p;.exact hp
   .rw[HF hp] at hk;unfold Ld at hk;simp at hk
  have h0:(0:Int)≠A.len+1:=by unfold Ar.len;omega
  exact⟨Oj (bJ (s:=s) (kd:=6) ok h0 (ok.CM p hp) (.inr rfl)),Le.trans mT I0⟩
 .exact⟨ok,.refl⟩
def m6(o:Ez b){s:Aq}{p:Int}:Ez (b.KY s p):=by
 unfold BS.KY;split;.have h:=Sj (s:=s) (p:=(b.place 0).1) (bf:=(b.place 0).2) o.ok;exact o.Ku h.1 h.2
 .have h:=Sj (s:=s) (p:=p) (bf:=0) o.ok;exact o.Ku h.1 h.2
def m7(o:Ez b){st:Int}:Ez (b.P5 nm at_ st):=(Rb o).of_eq rfl rfl rfl rfl
def zB(o:Ez b):Ez b.JJ:=by
 unfold BS.JJ;split;.exact o.UP (Fi.trans Fi)
 .exact o
def Zq(o:Ez b):Ez (b.Dm nm):=by
 unfold BS.Dm;split
 .split;.exact o.UP (IG.trans Fi)
  .exact o
 .exact o
def Sk(o:Ez b):Ez b.IF:=o.of_eq rfl rfl rfl rfl
def jx(o:Ez b){l:List A6}{h:Int}:Ez (b.Hw l h):=by
 unfold BS.Hw;split
 .rename_i hk;have d:b.a.has h:=by
   by_cases hp:b.a.has h;.exact hp
   .rw[HF hp] at hk;simp at hk
  refine o.Ku (iA o.ok d hk ?_) iB;intro a ha;rcases Av.1 ha with ha|ha
  .exact(o.ok.Sd h d).qn a ha
  .obtain⟨c,_,rfl⟩:=Bl.1 ha;simp
 .exact o
def Xn(o:Ez b):Ez b.Du:=by
 unfold BS.Du;split;.exact o
 .have a:=(o.UP (Fi (p:=C0) (q:=BD [Bd]) (l:=DR CO C0 b.AY) |>.trans Fi)).iC (l:=Gv b.Bb) (DN _ _);exact(Sk (b:={b with AY:=DR C0 (BD [Bd]) (DR CO C0 b.AY),Bb:=Gv b.Bb,tm:=b.tm.dropLast}) (a.of_eq rfl rfl rfl rfl))
def jy(o:Ez b):Ez b.Ky:=by
 unfold BS.Ky;split;.exact o
 .exact o.UP (DN _ _)
structure aGf(b:BS)(l:List Cu)(r:List Cu×BS):Prop where
 ok:Ez r.2
 le:Le b.a r.2.a
 Bb:r.2.Bb=b.Bb
 len:r.1.length=l.length
 nodes:∀e∈r.1,r.2.a.has e.node/\(r.2.a.nd e.node).kind=4/\¬b.a.has e.node
 ļ:(r.1.map Cu.node).Nodup
 aGg:r.1.map Cu.name=l.map Cu.name
def qZ:∀{l:List Cu} {b:BS},Ez b->aGf b l (BS.Jp l b)
 |[],b,o=>by
  refine⟨o,.refl,rfl,rfl,?_,?_,rfl⟩;.intro e he;cases he
  .exact My
 |e::l,b,o=>by
  have d:=Rb (nm:=e.name) (at_:=e.AA) (sp:=1) o;have r:=qZ (l:=l) d;have hl:Le b.a (b.Fa e.name e.AA 1).a:=vg;have hn:=iD (b:=b) (nm:=e.name) (at_:=e.AA) JQ;refine⟨r.ok,hl.trans r.le,r.Bb.trans Gx,by simp[BS.Jp,r.len],?_,?_,by simp[BS.Jp,r.aGg]⟩
  .intro c hc;rcases AS.1 hc with rfl|hc
   .exact⟨r.le.has _ hn.1,(r.le.kind _ hn.1).trans hn.2,Q9⟩
   .have:=r.nodes c hc;exact⟨this.1,this.2.1,λh=>this.2.2 (hl.has _ h)⟩
  .simp only[BS.Jp,Bs,B8];refine⟨λh=>?_,r.ļ⟩;obtain⟨c,hc,f⟩:=Bl.1 h;exact(r.nodes c hc).2.2 (f▸hn.1)
def m8(o:Ez b):Ez b.DT:=by
 have r:=qZ (l:=b.Bb.drop b.Lf) o;unfold BS.DT;simp only
 have hc:=qX r.le o.ac;refine⟨r.ok.ok,r.ok.CM,r.ok.op,r.ok.qo,?_,?_⟩
 .intro e he;rcases Av.1 he with he|he
  .exact hc e (Bn he)
  .exact .inr ⟨(r.nodes e he).1,(r.nodes e he).2.1⟩
 .show(((b.Bb.take b.Lf++(BS.Jp (b.Bb.drop b.Lf) b).1).map Cu.node).filter _).Nodup;rw[BL,DW,B5];refine⟨o.yW.sublist (((DN _ _).map _).filter _),r.ļ.filter _,?_⟩;rintro a ha c IS rfl;obtain⟨j,h1,rfl⟩:=Bl.1 (DI.1 ha).1;obtain⟨i,h2,g⟩:=Bl.1 (DI.1 IS).1;have d:=(r.nodes i h2);rw[g] at d;rcases o.ac j (Bn h1) with f|f
  .have:=d.1.1;omega
  .exact d.2.2 f.1
def Xo(o:Ez b){blk anc:Int}{far i:Nat}{l:Int}{m:Nat}(hl:b.a.has l):Ez (BS.Fq blk anc far i b l m).1/\(BS.Fq blk anc far i b l m).1.a.has (BS.Fq blk anc far i b l m).2.1/\Le b.a (BS.Fq blk anc far i b l m).1.a:=by
 unfold BS.Fq;simp only
 split;.exact⟨o.UP Di,hl,.refl⟩
 .split;.exact⟨(o.iC Di).UP Di,hl,.refl⟩
  .generalize Kv:b.Bb.getD (Fh (b.AY.getD i Item.zero).node b.Bb).toNat Cu.zero=en;obtain⟨d,f,En⟩:=Px (nm:=en.name) (at_:=en.AA) (p:=anc) o JQ;have c:Le (b.EB en.name en.AA 1 anc).a ((b.EB en.name en.AA 1 anc).a.FV (b.Gw en.name en.AA 1).node l 0):=Oi;have NS:(b.EB en.name en.AA 1 anc).AY=b.AY:=by unfold BS.EB;rw[Ae JQ]
   have SQ:(b.EB en.name en.AA 1 anc).Bb=b.Bb:=by unfold BS.EB;rw[Ae JQ]
   have q:=d.Ku (P4 (p:=(b.Gw en.name en.AA 1).node) (n:=l) (b:=0) d.ok) c;have j:=q.mX (i:=b.Gw en.name en.AA 1) (k:=i) ⟨c.has _ f.has,by rw[c.kind _ f.has];exact f.kind,by rw[c.A9 _ f.has];exact f.A9,by rw[c.name _ f.has];exact f.name⟩ (by simp only[NS];exact NG o f);have g:=j.mY (e:={en with node:=(b.Gw en.name en.AA 1).node}) (k:=(Fh (b.AY.getD i Item.zero).node b.Bb).toNat) ⟨c.has _ f.has,by rw[c.kind _ f.has];exact f.kind⟩ (by simp only[SQ];exact P9 o f);exact⟨g,c.has _ f.has,En.trans c⟩
def Vu{blk anc:Int}{far k:Nat}:∀{c:Nat} {s:BS×Int×Nat},Ez s.1->s.1.a.has s.2.1->Ez (BS.Kt blk anc far k c s).1/\(BS.Kt blk anc far k c s).1.a.has (BS.Kt blk anc far k c s).2.1/\Le s.1.a (BS.Kt blk anc far k c s).1.a
 |0,s,o,h=>⟨o,h,.refl⟩
 |c+1,s,o,h=>by obtain⟨f,h1,l1⟩:=Xo (blk:=blk) (anc:=anc) (far:=far) (i:=k+(c+1)) (m:=s.2.2) o h;obtain⟨d,h2,g⟩:=Vu (blk:=blk) (anc:=anc) (far:=far) (k:=k) (c:=c) f h1;exact⟨d,h2,l1.trans g⟩
def MR{n:Int}:∀{l:List Int} {A:Ar},EK A 0->EK (BS.CA A n l) 0/\Le A (BS.CA A n l)
 |[],A,ok=>⟨ok,.refl⟩
 |x::l,A,ok=>by have h:=MR (n:=n) (l:=l) (P4 (p:=n) (n:=x) (b:=0) ok);exact⟨h.1,Le.trans Oi h.2⟩
def zC{fe:Cu}{blk anc:Int}{s:BS×Int×Nat}(o:Ez s.1):Ez (BS.GG fe blk anc s)/\Le s.1.a (BS.GG fe blk anc s).a:=by
 unfold BS.GG;simp only
 generalize Zr:s.1.place anc=pb;have l1:Le s.1.a (s.1.a.Ey s.2.1 pb.1 pb.2):=I0;have d:=o.Ku (Oj (n:=s.2.1) (p:=pb.1) (b:=pb.2) o.ok) l1;generalize NT:({s.1 with a:=s.1.a.Ey s.2.1 pb.1 pb.2}:BS)=b2 at d;have OP:b2.a=s.1.a.Ey s.2.1 pb.1 pb.2:=by rw[<-NT]
 have X3:b2.AY=s.1.AY:=by rw[<-NT]
 have IS:b2.Bb=s.1.Bb:=by rw[<-NT]
 obtain⟨j,f,l3⟩:=Px (nm:=fe.name) (at_:=fe.AA) (p:=blk) d JQ;have NS:(b2.EB fe.name fe.AA 1 blk).AY=b2.AY:=by unfold BS.EB;rw[Ae JQ]
 have SQ:(b2.EB fe.name fe.AA 1 blk).Bb=b2.Bb:=by unfold BS.EB;rw[Ae JQ]
 generalize bh:b2.EB fe.name fe.AA 1 blk=b3 at*;generalize hn:b2.Gw fe.name fe.AA 1=n at*;obtain⟨bn,l4⟩:=MR (n:=n.node) (l:=(b3.a.nd blk).A8) j.ok;have g:=P4 (p:=blk) (n:=n.node) (b:=0) bn;have c:Le b3.a ((BS.CA b3.a n.node (b3.a.nd blk).A8).FV blk n.node 0):=l4.trans Oi;have q:=j.Ku g c;have fr:((BS.CA b3.a n.node (b3.a.nd blk).A8).FV blk n.node 0).has n.node/\(((BS.CA b3.a n.node (b3.a.nd blk).A8).FV blk n.node 0).nd n.node).kind=4/\(((BS.CA b3.a n.node (b3.a.nd blk).A8).FV blk n.node 0).nd n.node).A9=n.A9/\(((BS.CA b3.a n.node (b3.a.nd blk).A8).FV blk n.node 0).nd n.node).name=n.name:=
  ⟨c.has _ f.has,by rw[c.kind _ f.has];exact f.kind,by rw[c.A9 _ f.has];exact f.A9,by rw[c.name _ f.has];exact f.name⟩
 have m:=(q.iC (l:=Bf b3.Bb (Fh fe.node b3.Bb).toNat) Di).UP (l:=C2 fe.node b3.AY) Lg;have u:n.node∉(C2 fe.node b3.AY).map Item.node:=λh=>NG d f ((Lg.map Item.node).subset (by rw[NS] at h;exact h));have r:n.node∉(Bf b3.Bb (Fh fe.node b3.Bb).toNat).map Cu.node:=λh=>P9 d f ((Di.map Cu.node).subset (by rw[SQ] at h;exact h));refine⟨(m.aA6 (i:=n) fr u).aA7 (e:={fe with node:=n.node}) (.inr ⟨fr.1,fr.2.1⟩) (.inr r),?_⟩;rw[OP] at l3;exact l1.trans (l3.trans c)
def Xp(o:Ez b):Ez (b.round nm).2/\Le b.a (b.round nm).2.a:=by
 have d:Le b.a (b.Dm nm).a:=by
  unfold BS.Dm;split;.split<;>exact .refl
  .exact .refl
 unfold BS.round;simp only
 split;.exact⟨Zq o,d⟩
 .split;.exact⟨o.iC Di,.refl⟩
  .split;.exact⟨o,.refl⟩
   .split;.exact⟨(o.UP IG).iC Di,.refl⟩
    .rename_i hf;have aT1:D0 (b.Bb.getD (GD nm b.Bb).toNat Cu.zero).node b.AY<b.AY.length:=by
      rw[IB];split;.omega
      .unfold E1;split;.rename_i k hk;have:=(EH.1 hk).1;rw[Bc] at this;omega
       .omega
     have hb:b.a.has (b.AY.getD (D0 (b.Bb.getD (GD nm b.Bb).toNat Cu.zero).node b.AY).toNat Item.zero).node:=by rw[AL,Ai Ab];exact(o.op _ (AN _)).1
     obtain⟨f,h1,l1⟩:=Vu (blk:=(b.AY.getD (D0 (b.Bb.getD (GD nm b.Bb).toNat Cu.zero).node b.AY).toNat Item.zero).node) (anc:=(b.AY.getD ((AP (BB (b.Bb.getD (GD nm b.Bb).toNat Cu.zero).node) b.AY).toNat-1) Item.zero).node) (far:=(D0 (b.Bb.getD (GD nm b.Bb).toNat Cu.zero).node b.AY).toNat) (k:=(AP (BB (b.Bb.getD (GD nm b.Bb).toNat Cu.zero).node) b.AY).toNat) (c:=(D0 (b.Bb.getD (GD nm b.Bb).toNat Cu.zero).node b.AY).toNat-1 -(AP (BB (b.Bb.getD (GD nm b.Bb).toNat Cu.zero).node) b.AY).toNat) (s:=(b,(b.AY.getD (D0 (b.Bb.getD (GD nm b.Bb).toNat Cu.zero).node b.AY).toNat Item.zero).node,(GD nm b.Bb).toNat)) o hb;have r:=zC (fe:=b.Bb.getD (GD nm b.Bb).toNat Cu.zero) (blk:=(b.AY.getD (D0 (b.Bb.getD (GD nm b.Bb).toNat Cu.zero).node b.AY).toNat Item.zero).node) (anc:=(b.AY.getD ((AP (BB (b.Bb.getD (GD nm b.Bb).toNat Cu.zero).node) b.AY).toNat-1) Item.zero).node) f;exact⟨r.1,l1.trans r.2⟩
def Zs:∀{n:Nat} {b:BS},Ez b->Ez (BS.Ee n b nm)/\Le b.a (BS.Ee n b nm).a
 |0,b,o=>⟨o,.refl⟩
 |n+1,b,o=>by
  obtain⟨c,l1⟩:=Xp (nm:=nm) o;unfold BS.Ee;simp only
  split;.have r:=Zs (n:=n) c;exact⟨r.1,l1.trans r.2⟩
  .exact⟨c,l1⟩
def zD(o:Ez b):Ez (b.Ih nm):=by
 unfold BS.Ih;split;.exact jy o
 .exact(Zs o).1
end
structure Nd(A:Ar):Prop where
 n:A.n.length<=1000000000
 at_:∀x,(A.nd x).AA.length<=1000000000
 data:∀x,(A.nd x).data.length<=1000000000
def D1(l:List A6):Prop:=l.length<=1000/\∀a∈l,a.name.length<=1000/\a.value.length<=1000
structure B9(b:BS)(m:Nat):Prop where
 n:b.a.n.length+m<=900000000
 at_:∀x,(b.a.nd x).AA.length+m<=1000000000
 data:∀x,(b.a.nd x).data.length+m<=1000000000
 AY:b.AY.length+m<=900000000
 Bb:b.Bb.length+m<=900000000
 tm:b.tm.length+m<=900000000
 DD:∀e∈b.Bb,e.name.length<=1000/\D1 e.AA
 X8:∀i∈b.AY,i.name.length<=1000
def B9.X9{b:BS}{m:Nat}(r:B9 b m):Nd b.a:=⟨by have:=r.n;omega,λx=>by have:=r.at_ x;omega,λx=>by have:=r.data x;omega⟩
def B9.le{b:BS}{m m':Nat}(r:B9 b m)(hm:m'<=m):B9 b m':=⟨by have:=r.n;omega,λx=>by have:=r.at_ x;omega,λx=>by have:=r.data x;omega,by have:=r.AY;omega,by have:=r.Bb;omega,by have:=r.tm;omega,r.DD,r.X8⟩
def Zt{sp:Int}{y:A6}:(C3 sp y).value=y.value:=by
 unfold C3;split;.split<;>rfl
 .rfl
structure Ok(A A':Ar):Prop where
 n:A'.n.length=A.n.length
 at_:∀x,(A'.nd x).AA=(A.nd x).AA
 data:∀x,(A'.nd x).data=(A.nd x).data
section
variable{A A' A'':Ar}{x p bf:Int}{b:BS}{m:Nat}
def Ok.refl:Ok A A:=⟨rfl,λ_=>rfl,λ_=>rfl⟩
def Ok.trans(h:Ok A A')(k:Ok A' A''):Ok A A'':=⟨k.n.trans h.n,λx=>(k.at_ x).trans (h.at_ x),λx=>(k.data x).trans (h.data x)⟩
def iE{y:EV}(h1:y.AA=(A.nd x).AA)(h2:y.data=(A.nd x).data):Ok A (A.set x y):=by
 refine⟨Jm,λk=>?_,λk=>?_⟩<;>rw[JI]<;>split;.rename_i e;rw[h1,e.1]
 .rfl
 .rename_i e;rw[h2,e.1]
 .rfl
def Zu{l:List Int}:Ok A (A.set x {A.nd x with A8:=l}):=iE rfl rfl
def Zv:Ok A (A.set x {A.nd x with FM:=p}):=iE rfl rfl
def JX:Ok A (A.FV p x bf):=by
 unfold Ar.FV;split
 .refine Ok.trans ?_ (Ok.trans Zu Zv);unfold Ar.cut;simp only;split;.exact .refl
  .exact Ok.trans Zu Zv
 .exact .refl
def JY:Ok A (A.Ey x p bf):=by unfold Ar.Ey;split;exact .refl;exact JX
def QD{n:Int}:∀{l:List Int} {A:Ar},Ok A (BS.CA A n l)
 |[],A=> .refl
 |y::l,A=>Ok.trans JX (QD (l:=l))
def B9.same{c:BS}(r:B9 b m)(h:Ok b.a c.a)(h1:c.AY.length<=b.AY.length)(h2:c.Bb.length<=b.Bb.length)(g:c.tm.length<=b.tm.length)(f:∀e∈c.Bb,e.name.length<=1000/\D1 e.AA)(d:∀i∈c.AY,i.name.length<=1000):B9 c m:=
 ⟨by rw[h.n];exact r.n,λx=>by rw[h.at_];exact r.at_ x,λx=>by rw[h.data];exact r.data x,by have:=r.AY;omega,by have:=r.Bb;omega,by have:=r.tm;omega,f,d⟩
def B9.Ku{A':Ar}(r:B9 b m)(h:Ok b.a A'):B9 {b with a:=A'} m:=r.same h (Ag _) (Ag _) (Ag _) r.DD r.X8
def B9.eq{c:BS}(r:B9 b m)(h1:c.a=b.a)(h2:c.AY=b.AY)(d:c.Bb=b.Bb)(e:c.tm=b.tm):B9 c m:=⟨by rw[h1];exact r.n,by rw[h1];exact r.at_,by rw[h1];exact r.data,by rw[h2];exact r.AY,by rw[d];exact r.Bb,by rw[e];exact r.tm,by rw[d];exact r.DD,by rw[h2];exact r.X8⟩
structure Tl(A A':Ar)(k:Nat):Prop where
 n:A'.n.length<=A.n.length+k
 at_:∀x,(A'.nd x).AA.length<=max (A.nd x).AA.length 1000
 data:∀x,(A'.nd x).data.length<=max (A.nd x).data.length 100000
def NH{y:EV}(h1:y.AA.length<=1000)(h2:y.data.length<=100000):Tl A (A.add y) 1:=by refine⟨by simp[Ar.add],λx=>?_,λx=>?_⟩<;>rw[IC]<;>split<;>omega
def Tl.trans{k k':Nat}(h:Tl A A' k)(g:Tl A' A'' k'):Tl A A'' (k+k'):=
 ⟨by have:=h.n;have:=g.n;omega,λx=>by have:=h.at_ x;have:=g.at_ x;omega,λx=>by have:=h.data x;have:=g.data x;omega⟩
def Tl.le{k k':Nat}(h:Tl A A' k)(hk:k<=k'):Tl A A' k':=⟨by have:=h.n;omega,h.at_,h.data⟩
def zE(h:Ok A A'):Tl A A' 0:=⟨by rw[h.n];exact Ag _,λx=>by rw[h.at_];omega,λx=>by rw[h.data];omega⟩
def m9:Tl A (A.Dh x) 1:=by
 unfold Ar.Dh;split;.exact(zE .refl).le Ab
 .have:=NH (A:=A) (y:={kind:=1,CM:=A.len+1}) (AU _) (AU _);exact⟨this.n,this.at_,this.data⟩
def jz{y:EV}(h1:y.AA.length<=1000)(h2:y.data.length<=100000):Tl A (A.set x y) 0:=by refine⟨by rw[Jm];exact Ag _,λx=>?_,λx=>?_⟩<;>rw[JI]<;>split<;>omega
def zF{d sp:Int}{nm:Aq}{l:List A6}(hl:l.length<=1000):Tl A (A.elem d sp nm l) 3:=by
 have ho:=Bu (P3 (l:=l)) hl;have g1:=NH (A:=A) (y:={kind:=4,CM:=d,A9:=sp,name:=nm,AA:=Cx l}) ho (AU _);unfold Ar.elem;simp only
 split;.have g2:=m9 (A:=A.add {kind:=4,CM:=d,A9:=sp,name:=nm,AA:=Cx l}) (x:=d);have g3:=NH (A:=(A.add {kind:=4,CM:=d,A9:=sp,name:=nm,AA:=Cx l}).Dh d) (y:={kind:=2,Em:=A.len+1,CM:=(A.add {kind:=4,CM:=d,A9:=sp,name:=nm,AA:=Cx l}).Fy d}) (AU _) (AU _);exact g1.trans (k':=2) (g2.trans (k':=1) (g3.trans (k':=0) (jz ho (AU _))))
 .exact g1.le Ab
def B9.FN{A':Ar}{k:Nat}(r:B9 b (m+k))(h:Tl b.a A' k):B9 {b with a:=A'} m:=
 ⟨by have:=r.n;have:=h.n;simp only;omega,λx=>by have:=r.at_ x;have:=h.at_ x;have:=r.n;simp only;omega,λx=>by have:=r.data x;have:=h.data x;have:=r.n;simp only;omega,by have:=r.AY;simp only;omega,by have:=r.Bb;simp only;omega,by have:=r.tm;simp only;omega,r.DD,r.X8⟩
def Xq{sp:Int}{nm:Aq}:(BS.IE sp nm).length=nm.length:=by
 unfold BS.IE;split
 .rcases Lw nm IW with h|h
  .rw[h]
  .conv=>rhs;rw[<-h.2,R4]
 .rfl
variable{nm:Aq}{l:List A6}{sp:Int}
def I1(r:B9 b (m+3))(hl:D1 l):B9 (b.EB nm l sp p) m:=by
 unfold BS.EB;split;.exact r.FN (zF (by rw[Al];exact hl.1))
 .exact r.le Ab
def NI(hn:nm.length<=1000):(b.Gw nm l sp).name.length<=1000:=by
 unfold BS.Gw;split;.show(BS.IE sp nm).length<=1000;rw[Xq];exact hn
 .exact AU _
def B9.Ľ{i:Item}{l':List Item}(r:B9 b (m+1))(h1:l'.length<=b.AY.length+1)(h2:∀j∈l',j∈b.AY\/j=i)(hi:i.name.length<=1000):B9 {b with AY:=l'} m:=
 ⟨by have:=r.n;simp only;omega,λx=>by have:=r.at_ x;simp only;omega,λx=>by have:=r.data x;simp only;omega,by have:=r.AY;simp only;omega,by have:=r.Bb;simp only;omega,by have:=r.tm;simp only;omega,r.DD,λj hj=>by
  rcases h2 j hj with h|rfl
  .exact r.X8 j h
  .exact hi⟩
def B9.ľ{e:Cu}{l':List Cu}(r:B9 b (m+1))(h1:l'.length<=b.Bb.length+1)(h2:∀j∈l',j∈b.Bb\/j=e)(hi:e.name.length<=1000/\D1 e.AA):B9 {b with Bb:=l'} m:=
 ⟨by have:=r.n;simp only;omega,λx=>by have:=r.at_ x;simp only;omega,λx=>by have:=r.data x;simp only;omega,by have:=r.AY;simp only;omega,by have:=r.Bb;simp only;omega,by have:=r.tm;simp only;omega,λj hj=>by
  rcases h2 j hj with h|rfl
  .exact r.DD j h
  .exact hi,r.X8⟩
def Mm(r:B9 b (m+4))(hl:D1 l)(hn:nm.length<=1000):B9 (b.Fa nm l sp) m:=by
 unfold BS.Fa;split
 .rename_i hs;have c:=I1 (m:=m+1) (nm:=nm) (sp:=sp) (p:=(b.place 0).1) (r.le Ab) hl;have r2:=c.Ku (JY (x:=b.a.len+1) (p:=(b.place 0).1) (bf:=(b.place 0).2));have ho:(b.EB nm l sp (b.place 0).1).AY=b.AY:=by unfold BS.EB;rw[Ae hs]
  refine r2.Ľ (i:=b.Gw nm l sp) (by simp only[Au,Bp];exact Ag _) (λj hj=>?_) (NI hn);rcases Av.1 hj with h|h
  .exact .inl h
  .exact .inr (by simpa using h)
 .exact r.le Ab
def iF(r:B9 b (m+5))(hl:D1 l)(hn:nm.length<=1000):B9 (b.Kh nm l) m:=by
 have c:=Mm (m:=m+1) (sp:=1) (nm:=nm) (r.le Ab) hl hn;unfold BS.Kh;simp only
 obtain⟨l',h1,h2⟩:=Xm (l:=(b.Fa nm l 1).Bb) (e:=⟨b.a.len+1,nm,l⟩);rw[h2];refine c.ľ (e:=⟨b.a.len+1,nm,l⟩) (by have:=h1.length_le;simp;omega) (λj hj=>?_) ⟨hn,hl⟩;rcases Av.1 hj with h|h
 .exact .inl (h1.subset h)
 .exact .inr (by simpa using h)
end
end Go.Am
end
