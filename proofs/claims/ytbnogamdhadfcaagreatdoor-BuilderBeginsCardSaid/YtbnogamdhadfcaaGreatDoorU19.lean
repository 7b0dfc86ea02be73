/- Lemmas -/
import Derived.Test.YtbnogamdhadfcaaGreatDoorU18
set_option linter.unusedVariables false
set_option linter.unusedSimpArgs false
section
namespace Go.Am
open Go
set_option maxRecDepth 100000
section
section
variable{α:Type}{z:Nat}
theorem Fe{Au:List (List α)}(h:∀r∈Au,r.length=z):Au.flatten.length=Au.length*z:=by
 induction Au with
 |nil=>simp
 |cons q Au ih=>rw[Db,Aq,h q (by simp),ih λr hr=>h r (by simp[hr]),Bc,BA];omega
theorem Xw{Au:List (List α)}(h:∀r∈Au,r.length=z):∀{k:Nat},Au.flatten.take (k*z)=(Au.take k).flatten:=by
 induction Au with
 |nil=>intro k;simp
 |cons q Au ih=>
  intro k;have hq:=h q (by simp);cases k with
  |zero=>simp
  |succ k=>rw[Db,BA,Ey,Nat.add_comm,List.take_append,Ay (by omega),hq,Nat.add_sub_cancel_left,ih λr hr=>h r (by simp[hr])];simp
theorem HW{Au:List (List α)}(h:∀r∈Au,r.length=z):∀{k:Nat},Au.flatten.drop (k*z)=(Au.drop k).flatten:=by
 induction Au with
 |nil=>intro k;simp
 |cons q Au ih=>
  intro k;have hq:=h q (by simp);cases k with
  |zero=>simp
  |succ k=>rw[Db,BA,Ey,Nat.add_comm,List.drop_append,A3 (by omega),hq,Nat.add_sub_cancel_left,ih λr hr=>h r (by simp[hr])];simp
theorem bH{Au:List (List α)}(h:∀r∈Au,r.length=z){k:Nat}(hk:k<Au.length)(q:List α):Au.flatten.take (k*z)++q++Au.flatten.drop (k*z+z)=(Au.set k q).flatten:=by
 have e:k*z+z=(k+1)*z:=by rw[BA,Ey]
 rw[e,Xw h,HW h,BY,if_pos hk];simp
theorem Xx{Au:List (List Aa)}(h:∀r∈Au,r.length=z):∀{n off:Nat},off+n<=Au.length->Ck Au.flatten z (off*z) n=(Au.drop off).take n:=by
 intro n;induction n with
 |zero=>intro off _;simp[Ck]
 |succ n ih=>
  intro off hl;rw[Ck];have e:off*z+z=(off+1)*z:=by rw[BA,Ey]
  rw[e,ih (by omega),HW h];have hlt:off<Au.length:=by omega
  rw[AG hlt,Db,CU (by rw[h _ (AJ hlt)];exact Ac _),Ay (by rw[h _ (AJ hlt)];exact Ac _),aIi]
theorem xH{Au:List (List Aa)}(h:∀r∈Au,r.length=z):Ck Au.flatten z 0 Au.length=Au:=by have:=Xx h (n:=Au.length) (off:=0) (by omega);simpa using this
end
section
variable{h:Ae}{id z n:Nat}{Au:List (List Aa)}
theorem JF(hr:∀r∈Au,r.length=z)(hc:h[id]?=some (.cells Au.flatten)):Kn h (.Cm id 0 Au.length z)=some (h.set id .CG,.sl z Au):=by unfold Kn;simp only[hc,BJ];rw[if_pos (by rw[Fe hr];exact Ac _),xH hr]
theorem EZ{k:IntKind}{i:Nat}(hi:i<n):Aw (.Fm z) [.Cm id 0 n z,.int k (i:Int)]=some (.ptr (some (id,i*z))):=by
 have:L4 (i:Int) n=some i:=by unfold L4;rw[if_pos (by omega)];rfl
 simp[Aw,elemOf,this]
theorem SU(hr:∀r∈Au,r.length=z)(hc:h[id]?=some (.cells Au.flatten)){i:Nat}(hi:i<Au.length){q:List Aa}(hq:q.length=z):Cv h z (.ptr (some (id,i*z))) (.agg q)=some (h.set id (.cells (Au.set i q).flatten)):=by
 simp only[Cv,hc,OG];have:i*z+z<=Au.flatten.length:=by rw[Fe hr];have:=Ez z (show i+1<=Au.length by omega);rwa [BA,Ey] at this
 rw[<-bH hr hi];exact if_pos ⟨hq,this⟩
theorem bI(hr:∀r∈Au,r.length=z){i:Nat}{q:List Aa}(hq:q.length=z):∀r∈Au.set i q,r.length=z:=by
 intro r h;rcases Di h with h|rfl
 .exact hr r h
 .exact hq
theorem K9{α:Type}{f:α->List Aa}(hf:∀a,(f a).length=z)(l:List α):∀r∈l.map f,r.length=z:=by intro r h;obtain⟨a,_,rfl⟩:=Bk.1 h;exact hf a
theorem J8{s v:Aa}{b:Nat}(hs:s= .slnil\/s= .sl z [])(hv:AL z Au v)(hne:Au≠[])(hb:Au.length*b<=AS):Jt h z b s v=some (h++[.cells Au.flatten],.Cm h.length 0 Au.length z):=by
 rcases hv with rfl|⟨rfl,hv⟩
 .cases Au with
  |nil=>exact absurd rfl hne
  |cons r Au=>rw[Bc] at hb;rcases hs with rfl|rfl<;>simp[Jt,PE,hb]
 .exact absurd hv hne
theorem N9{s v:Aa}{b:Nat}(hs:s= .slnil\/s= .sl z [])(hv:AL z [] v):Jt h z b s v=some (h,s):=by rcases hv with rfl|⟨rfl,hv⟩<;>rcases hs with rfl|rfl<;>simp[Jt,PE]
theorem gM{v:Aa}{b:Nat}(hv:AL z [] v):Fo h z b (.Cm id 0 n z) v=some (h,.Cm id 0 n z):=by rcases hv with rfl|⟨rfl,hv⟩<;>simp[Fo,Gi]
theorem IF{v:Aa}{b:Nat}{r2:List (List Aa)}(hr:∀r∈Au,r.length=z)(hz:0<z)(hc:h[id]?=some (.cells Au.flatten))(hv:AL z r2 v)(hne:r2≠[])(hb:(Au.length+r2.length)*b<=AS):
  Fo h z b (.Cm id 0 Au.length z) v=some (h.set id .CG++[.cells (Au++r2).flatten],.Cm h.length 0 (Au.length+r2.length) z):=by
 rcases hv with rfl|⟨rfl,hv⟩
 .cases r2 with
  |nil=>exact absurd rfl hne
  |cons r r2=>
   have hl:=Fe hr;have h1:¬(0+(Au.length+(r::r2).length)*z<=Au.flatten.length):=by rw[hl,Bc,BJ,BA,BA];omega
   have h2:Au.flatten.take (Au.length*z)=Au.flatten:=Ay (by rw[hl];exact Ac _);unfold Fo;simp only[Gi,BN,hc];rw[if_neg h1,if_pos ⟨trivial,by rw[hl];exact Ac _,hb⟩,h2,Wm]
 .exact absurd hv hne
end
end
section
section
end
def FB:List As:=[[100,100],[100,116],[108,105],aS3,aTg,[112],[114,98],[114,112],[114,116],[114,116,99]]
def IW:List As:=[aST,aS4,aTd,[116,100],aTc,[116,104],aTe,[116,114]]
def JG:List As:=[[109,105],[109,110],[109,111],[109,115],[109,116,101,120,116]]
def OH:List As:=[aTr,aSV,aTf]
section
end
def DY(k:Int)(s:As):Bool:=
 if k=3 then decide (s=aSL\/s∈JG) else if k=2 then decide (s∈OH) else if k=1 then decide (s∈Mj) else false
def sw(s:As)(t e:IT):List As->IT
 |[]=>e
 |c::cs=> .op (.str .eql) [.str s,.str c] λv=> .AH v t (sw s t e cs)
theorem xI{C:FI}{Q:Post}{h:Ae}{s:As}{t e:IT}:∀{cs:List As},W C (sw s t e cs) Q h↔(s∈cs->W C t Q h)/\(s∉cs->W C e Q h)
 |[]=>by simp[sw]
 |c::cs=>by
  simp only[sw,QL,Yy,J6,KO,QM,AM,not_or];rw[xI];by_cases hc:s=c;·simp[hc]
  .simp[hc]
theorem LX{C:FI}{f:FuncId}{args:List Aa}{r:Aa}:JE C f args r↔W C (B5 C f args) (λx vs _=>x= .ret/\vs=[r]) []:=by
 unfold JE Ev;constructor;·exact λh=>W.mono h λ_ _ _ ⟨h1,r,h2,h3⟩=>⟨h1,by rw[h2,h3]⟩
 .exact λh=>W.mono h λ_ _ _ ⟨h1,h2⟩=>⟨h1,r,h2,rfl⟩
section
variable{Q:Post}{h:Ae}{k:Aa->IT}{s:As}
end
section
variable{Q:Post}{h:Ae}{k:Aa->IT}{s:As}{n:Int}
end
section
variable{Q:Post}{h:Ae}{k:Aa->IT}{s:As}{n:Int}
end
end
section
theorem Pp{cur:As}:C4 cur []=[cur]:=by unfold C4;rfl
theorem Oa{cur r:As}{c:UInt8}:C4 cur (c::r)=if c=32 then cur::C4 [] r else C4 (cur++[c]) r:=by rw[C4]
def FC(l s:As):Bool:=decide (s≠[]/\(32:UInt8)∉s/\s∈C4 [] l)
theorem bJ{s:As}{a n:Nat}(ha:a<=n)(hn:n<s.length):(s.take (n+1)).drop a=(s.take n).drop a++[s[n]]:=by rw[Av hn,TJ (by simp;omega)]
end
section
theorem DS{l:As}{ws:List As}{s:As}(h1:C4 [] l=ws)(h2:ws.all (λw=> !w.isEmpty&& !w.contains 32)=true):FC l s=decide (s∈ws):=by
 unfold FC;rw[h1,D1];refine⟨λh=>h.2.2,λh=>⟨?_,?_,h⟩⟩;·have:=EJ.1 h2 s h;rintro rfl;simp at this
 .have:=EJ.1 h2 s h;intro h3;simp[h3] at this
section
variable{Q:Post}{h:Ae}{k:Aa->IT}{s:As}
theorem gN:FC aSE s=decide (s∈Mj):=DS (by decide+kernel) (by decide+kernel)
theorem YA:FC aSY s=decide (s∈JG):=DS (by decide+kernel) (by decide+kernel)
theorem bK:FC aSN s=decide (s∈OH):=DS (by decide+kernel) (by decide+kernel)
theorem gO:FC aSJ s=decide (s∈FB):=DS (by decide+kernel) (by decide+kernel)
theorem bL:FC aSK s=decide (s∈IW):=DS (by decide+kernel) (by decide+kernel)
def HX:List As:=C4 [] aSF
def He:List As:=C4 [] aSD
def MY:List As:=[aSR,aSO,aSI]
theorem rF:FC aSU s=decide (s∈MY):=DS (by decide+kernel) (by decide+kernel)
def La:List As:=[aS3,aTg]
theorem gP:FC aSZ s=decide (s∈La):=DS (by decide+kernel) (by decide+kernel)
def P3:List As:=[[111,108],[117,108]]
theorem xJ:FC aTt s=decide (s∈P3):=DS (by decide+kernel) (by decide+kernel)
def OI:List As:=[aTp,aST,aSR,aTm,aTq,aSO,[116,100],aSI,[116,104]]
theorem rG:FC aSG s=decide (s∈OI):=DS (by decide+kernel) (by decide+kernel)
end
section
variable{Q:Post}{h:Ae}{k:Aa->IT}{s:As}{n:Int}
end
end
section
def HY(c:UInt8):UInt8:=if 65<=c.toNat/\c.toNat<=90 then c+32 else c
def Ff(s:As):As:=s.map HY
theorem QS{c:UInt8}(h:65<=c.toNat/\c.toNat<=90):((HY c).toNat:Int)=(c.toNat:Int)+32:=by
 unfold HY;rw[if_pos h,UInt8.toNat_add];have:UInt8.toNat 32=32:=by decide
 rw[this];omega
theorem MZ{c:UInt8}(h:¬(65<=c.toNat/\c.toNat<=90)):HY c=c:=by unfold HY;rw[if_neg h]
theorem P4{s:As}{n:Nat}(hn:n<s.length):Ff (s.take (n+1))=Ff (s.take n)++[HY s[n]]:=by rw[Av hn];unfold Ff;rw[BI];rfl
def Nn(b:UInt8):Aa:= .int .u8 (b.toNat:Int)
def GQ(s:As)(n:Nat):As:=Ff (s.take n)++s.drop n
theorem U5(s:As)(n:Nat):(GQ s n).length=s.length:=by simp[GQ,Ff];omega
theorem U6{s:As}{n:Nat}(hn:n<s.length):(GQ s n)[n]?=some s[n]:=by unfold GQ Ff;rw[Bg (by simp;omega)];simp only[Ai,Al,Cn (WT hn),DB];rw[AG hn];rfl
theorem QT{s:As}{n:Nat}(hn:n<s.length):GQ s (n+1)=(GQ s n).set n (HY s[n]):=by
 unfold GQ;rw[P4 hn,B2 _ _ (by simp[Ff];omega)];have e:n-(Ff (s.take n)).length=0:=by simp[Ff];omega
 rw[e,AG hn,List.set_cons_zero,AB];rfl
theorem bM(s:As):GQ s s.length=Ff s:=by simp[GQ,Ff]
theorem xK{α:Type}{l:List α}{i:Nat}{v:α}(h:l[i]?=some v):l.set i v=l:=by
 apply List.ext_getElem?;intro j;rw[List.getElem?_set];split
 .rename_i e;subst e;split;·exact h.symm
  .rename_i hl;rw[E1 (by omega)]
 .rfl
theorem gQ{cs:List Aa}{i:Nat}{v:Aa}(h:cs[i]?=some v):Bb [.cells cs] none (.ptr (some (0,i)))=some v:=by simpa[Bb] using h
theorem WI{α:Type}{l:List α}{i:Nat}{v:α}(h:i<l.length):l.take i++v::l.drop (i+1)=l.set i v:=by rw[BY,if_pos h]
theorem bN{cs:List Aa}{i:Nat}{v:Aa}(h:i<cs.length)(hv:v.cells=[v]):Cv [.cells cs] 1 (.ptr (some (0,i))) v=some [.cells (cs.set i v)]:=by simp only[Cv,hv,JM,Bs];rw[if_pos ⟨trivial,by omega⟩,<-WI h];simp
theorem Ob(s:As):∀(n o:Nat),o+n=s.length->Ck (s.map Nn) 1 o n=BZ (s.drop o)
 |0,o,h=>by rw[A3 (by omega)];rfl
 |n+1,o,h=>by
  have ho:o<s.length:=by omega
  have e:(s.map Nn).drop o=Nn s[o]::(s.map Nn).drop (o+1):=by rw[AG (by simpa using ho)];simp
  rw[Ck,Ob s n (o+1) (by omega),AG ho,e];rfl
end
section
def Ca(name:As):List As->As
 |[]=>name
 |w::ws=>if Ff w=name then w else Ca name ws
def CH(w:As):List Aa:=[.str w]
def KP:As:=aSF
def Mk:As:=aSD
theorem U7:C4 [] KP=HX:=by decide+kernel
theorem U8:C4 [] Mk=He:=by decide+kernel
end
section
structure AW where
 AX:Int
 name:As
 value:As
 deriving DecidableEq
def AW.row(a:AW):List Aa:=[.int .i64 a.AX,.str a.name,.str a.value]
structure Item where
 node:Int
 AX:Int
 name:As
 No:Bool
 deriving DecidableEq
def Item.row(a:Item):List Aa:=[.int .i64 a.node,.int .i64 a.AX,.str a.name,.bool a.No]
def IG(ns:List As)(v:Aa):Prop:=AL 1 (ns.map CH) v
def Bx(l:List AW)(v:Aa):Prop:=AL 3 (l.map AW.row) v
def BM(l:List Item)(v:Aa):Prop:=AL 4 (l.map Item.row) v
def lM(l:List AW):Prop:=l.length<=12/\∀x∈l,x.name.length<=60/\x.value.length<=200
instance(l:List AW):Decidable (lM l):=by unfold lM;infer_instance
def xL(l:List As):Prop:=l.length<=12/\∀x∈l,x.length<=60
instance(l:List As):Decidable (xL l):=by unfold xL;infer_instance
def lN(l:List Item):Prop:=l.length<=60/\∀x∈l,x.name.length<=60
instance(l:List Item):Decidable (lN l):=by unfold lN;infer_instance
end
section
def B9{α:Type}(p:α->Bool)(n:Nat):List α->Int
 |[]=> -1
 |a::l=>if p a then(n:Int) else B9 p (n+1) l
theorem GR{α:Type}{p:α->Bool}:∀{l:List α} {k:Nat},(B9 p k l= -1/\l.find? p=none)\/∃(n:Nat) (a:α),B9 p k l=((k+n:Nat):Int)/\l[n]?=some a/\l.find? p=some a
 |[],k=> .inl ⟨rfl,rfl⟩
 |a::l,k=>by
  unfold B9;by_cases h:p a=true;·exact .inr ⟨0,a,by rw[if_pos h];rfl,rfl,by simp[h]⟩
  .rw[if_neg h];rcases GR (p:=p) (l:=l) (k:=k+1) with⟨h1,h2⟩|⟨n,b,h1,h2,h3⟩
   .exact .inl ⟨h1,by simp[h,h2]⟩
   .exact .inr ⟨n+1,b,by rw[h1];congr 1;omega,by simpa using h2,by simp[h,h3]⟩
def Np(a:AW):Bool:=decide (a.AX=0/\a.name=aTj)
theorem SV{s:As}(h:s.all (λc=> !(65<=c.toNat&&c.toNat<=90))=true):Ff s=s:=by
 unfold Ff;conv=>rhs;rw[<-List.map_id s]
 apply List.map_congr_left;intro c hc;have:=EJ.1 h c hc;refine MZ λh2=>?_;simp[h2.1,h2.2] at this
abbrev aEp:As:=aSL
abbrev lO:As:=aTh
abbrev YB:As:=aSQ
def EH(n:Int)(s:As)(l:List AW):Bool:=
 if n=2 then DY 2 s else if n≠3 then false else if s≠aEp then false else match l.find? Np with
  |none=>false
  |some a=>decide (Ff a.value=lO\/Ff a.value=YB)
end
section
section
variable{α:Type}{f:α->List Aa}{l l2:List α}{v v2:Aa}{z b:Nat}{k k2:IntKind}
theorem AL.Cq(hv:AL z (l.map f) v):Aw (.len false) [v]=some (.int .i64 (l.length:Int)):=by have:=AL.len hv;rwa [Ai] at this
theorem AL.Bz(hv:AL z (l.map f) v){n:Nat}(hn:n<l.length):Aw (.Fm z) [v,.int k (n:Int)]=some (.CA (f l[n])):=by have:=AL.Fm hv (k:=k) (n:=n) (by simpa using hn);simpa using this
theorem AL.Lb(hv:AL z (l.map f) v){n:Nat}(hn:n<=l.length):∃u,Aw (.Hs z false false true) [v,.int k (n:Int)]=some u/\AL z ((l.take n).map f) u:=by
 rcases hv with rfl|⟨rfl,h⟩
 .have e1:EK (n:Int) (l.map f).length=some n:=by unfold EK;rw[Ai,if_pos (by omega)];rfl
  refine⟨.sl z ((l.map f).take n),?_,.inl (by rw[HS])⟩;simp only[Aw,I4,DH,e1,BR,and_self,BN,Qh]
 .have:l=[]:=by simpa using h
  subst this;have:n=0:=by simpa using hn
  subst this;exact⟨.slnil,rfl,.inr ⟨rfl,rfl⟩⟩
theorem AL.QU(hv:AL z (l.map f) v){n:Nat}(hn:n<=l.length):∃u,Aw (.Hs z false true false) [v,.int k (n:Int)]=some u/\AL z ((l.drop n).map f) u:=by
 rcases hv with rfl|⟨rfl,h⟩
 .have e1:EK (n:Int) (l.map f).length=some n:=by unfold EK;rw[Ai,if_pos (by omega)];rfl
  refine⟨.sl z ((l.map f).drop n),?_,.inl (by rw[ND])⟩;simp only[Aw,I4,DH,e1,BR,and_self,BN,Bu]
 .have:l=[]:=by simpa using h
  subst this;have:n=0:=by simpa using hn
  subst this;exact⟨.slnil,rfl,.inr ⟨rfl,rfl⟩⟩
theorem AL.YC(hv:AL z (l.map f) v)(UC:AL z (l2.map f) v2)(hb:(l.length+l2.length)*b<=AS):∃u,Aw (.append z b) [v,v2]=some u/\AL z ((l++l2).map f) u:=by obtain⟨u,e,hu⟩:=AL.HB hv UC (b:=b) (by simpa using hb);exact⟨u,e,by rwa [BI]⟩
theorem AL.Gm(UC:AL z (l2.map f) v2)(hb:l2.length*b<=AS):∃u,Aw (.append z b) [.slnil,v2]=some u/\AL z (l2.map f) u:=by obtain⟨u,e,hu⟩:=AL.HB (v:= .slnil) (r:=[]) .nil UC (b:=b) (by simpa using hb);exact⟨u,e,by simpa using hu⟩
theorem AL.Ja{a:α}(hv:AL z (l.map f) v)(hb:(l.length+1)*b<=AS):Aw (.append z b) [v,.sl z [f a]]=some (.sl z ((l++[a]).map f)):=by rw[AL.xF hv (by simpa using hb)];simp
end
theorem CJ{a b:Int}(h1: -9223372036854775808<=a-b)(h2:a-b<9223372036854775808):Aw (.int .sub) [.int .i64 a,.int .i64 b]=some (.int .i64 (a-b)):=by rw[gL,wrap_i64 h1 h2]
theorem OJ{a b:Int}(h1: -9223372036854775808<=a+b)(h2:a+b<9223372036854775808):Aw (.int .add) [.int .i64 a,.int .i64 b]=some (.int .i64 (a+b)):=by rw[Yx,wrap_i64 h1 h2]
def Item.zero:Item:=⟨0,0,[],false⟩
theorem Item.Co{a:Item}:a.row.length=4:=rfl
theorem Item.g0{a:Item}{d:Aa}:a.row.getD 0 d= .int .i64 a.node:=rfl
theorem Item.g1{a:Item}{d:Aa}:a.row.getD 1 d= .int .i64 a.AX:=rfl
theorem Item.g2{a:Item}{d:Aa}:a.row.getD 2 d= .str a.name:=rfl
theorem Item.g3{a:Item}{d:Aa}:a.row.getD 3 d= .bool a.No:=rfl
theorem Item.uz{a:Item}:a.row[0]?=some (.int .i64 a.node):=rfl
theorem Item.GA{a:Item}:a.row.take 4=a.row:=rfl
theorem Item.bO{a:Item}:a.row.drop 1=[.int .i64 a.AX,.str a.name,.bool a.No]:=rfl
theorem Item.u_{a:Item}:a.row.drop 2=[.str a.name,.bool a.No]:=rfl
theorem Item.vd{a:Item}:a.row.drop 3=[.bool a.No]:=rfl
theorem Item.Ny{a:Item}:[Aa.int .i64 a.node,.int .i64 a.AX,.str a.name,.bool a.No]=a.row:=rfl
theorem Item.fill{a:Item}:AI [.int .i64 0,.int .i64 0,.str [],.bool false] ([(0,1),(1,1),(2,1),(3,1)].zip a.row)=some a.row:=rfl
theorem EB:type_of%(And.intro @Item.fill (And.intro @Item.Co (And.intro @Item.g0 (And.intro @Item.g1 (And.intro @Item.g2 (And.intro @Item.g3 (And.intro @Item.uz (And.intro @Item.GA (And.intro @Item.bO (And.intro @Item.u_ (And.intro @Item.vd (And.intro @Item.Ny (And.intro @B8 (@BB.{0})))))))))))))):=And.intro @Item.fill (And.intro @Item.Co (And.intro @Item.g0 (And.intro @Item.g1 (And.intro @Item.g2 (And.intro @Item.g3 (And.intro @Item.uz (And.intro @Item.GA (And.intro @Item.bO (And.intro @Item.u_ (And.intro @Item.vd (And.intro @Item.Ny (And.intro @B8 (@BB.{0})))))))))))))
def GB(l:List Item)(i:Int):Item:=if 0<=i then l.getD i.toNat Item.zero else Item.zero
def EU(l:List Item):Item:=GB l ((l.length:Int)-1)
def AK{α:Type}(q:α->Bool)(l:List α):Int:=match l.reverse.findIdx? q with
 |some k=>(l.length:Int)-1 -k
 |none=> -1
theorem IX{α:Type}{q:α->Bool}:AK q []= -1:=rfl
theorem HZ{α:Type}{q:α->Bool}{l:List α}{a:α}:AK q (l++[a])=if q a then(l.length:Int) else AK q l:=by
 unfold AK;rw[Nf,Qj,Rt,List.findIdx?_cons];by_cases h:q a=true;·simp only[h,BN,Aq,Bs];omega
 .simp only[h,Ea,C2,Aq,Bs];cases List.findIdx? q l.reverse with
  |none=>rfl
  |some k=>simp only[BR];omega
theorem Gb{α:Type}{q:α->Bool}{l:List α}{n:Nat}(hn:n<l.length):AK q (l.take (n+1))=if q l[n] then(n:Int) else AK q (l.take n):=by rw[Av hn,HZ,Al,Cn (WT hn)]
theorem CQ{α:Type}{q:α->Bool}{l:List α}:(AK q l= -1/\∀a∈l,q a=false)\/∃(n:Nat) (hn:n<l.length),AK q l=(n:Int)/\q l[n]=true/\∀m (hm:m<l.length),n<m->q l[m]=false:=by
 have key:∀r:List α,(AK q r.reverse= -1/\∀a∈r.reverse,q a=false)\/∃(n:Nat) (hn:n<r.reverse.length),AK q r.reverse=(n:Int)/\q r.reverse[n]=true/\∀m (hm:m<r.reverse.length),n<m->q r.reverse[m]=false:=by
  intro r;induction r with
  |nil=>exact .inl ⟨rfl,by simp⟩
  |cons a r ih=>
   rw[FQ,HZ];by_cases h:q a=true;·refine .inr ⟨r.reverse.length,by simp,by rw[if_pos h],by simp[h],λm hm hlt=>?_⟩;simp at hm hlt;omega
   .rw[if_neg h];rcases ih with⟨h1,h2⟩|⟨n,hn,h1,h2,h3⟩
    .exact .inl ⟨h1,λb hb=>by
      rcases Ao.1 hb with hb|hb
      .exact h2 b hb
      .simp at hb;subst hb;simpa using h⟩
    .refine .inr ⟨n,by simp at hn⊢;omega,h1,by rw[Jh hn];exact h2,λm hm hlt=>?_⟩;by_cases Th:m<r.reverse.length;·rw[Jh Th];exact h3 m Th hlt
     .have:m=r.reverse.length:=by simp at hm Th⊢;omega
      subst this;simpa using h
 have:=key l.reverse;rwa [GX] at this
def At(h:Ae)(id o:Nat)(v:Aa):Prop:=∃cs,h[id]?=some (.cells cs)/\cs[o]?=some v
def put(h:Ae)(id o:Nat)(u:Aa):Ae:=match h[id]? with
 |some (.cells cs)=>h.set id (.cells (cs.set o u))
 |_=>h
section
variable{h t:Ae}{id o:Nat}{u v w:Aa}
theorem Hn{cs:List Aa}(hc:h[id]?=some (.cells cs)):put h id o u=h.set id (.cells (cs.set o u)):=by unfold put;rw[hc]
theorem IB:(put h id o u).length=h.length:=by unfold put;split<;>simp
theorem At.lt(ha:At h id o v):id<h.length:=by obtain⟨cs,hc,_⟩:=ha;exact(Ah.1 hc).1
theorem At.load(ha:At h id o v):Bb h none (.ptr (some (id,o)))=some v:=by obtain⟨cs,hc,e⟩:=ha;simp only[Bb,hc,Et,e]
theorem At.store(ha:At h id o v)(hu:u.cells=[u]):Cv h 1 (.ptr (some (id,o))) u=some (put h id o u):=by
 obtain⟨cs,hc,e⟩:=ha;have hl:=(Ah.1 e).1;rw[Hn hc];simp only[Cv,hc,hu,Bs,NC];have e2:cs.set o u=cs.take o++[u]++cs.drop (o+1):=by rw[BY,if_pos hl];simp
 rw[if_pos (show o+1<=cs.length by omega),e2]
theorem At.put(ha:At h id o v):At (put h id o u) id o u:=by obtain⟨cs,hc,e⟩:=ha;have hl:=(Ah.1 e).1;have hi:=(Ah.1 hc).1;rw[Hn hc];exact⟨cs.set o u,by simp[hi],by simp[hl]⟩
theorem At.same(ha:At h id o v):Am.put h id o v=h:=by obtain⟨cs,hc,e⟩:=ha;obtain⟨hl,e⟩:=Ah.1 e;obtain⟨hi,e2⟩:=Ah.1 hc;rw[Hn hc,<-e,Ru,<-e2,Ru]
theorem YD:Am.put (Am.put h id o u) id o w=Am.put h id o w:=by
 cases hc:h[id]? with
 |none=>
  have e:∀u,Am.put h id o u=h:=λu=>by unfold Am.put;rw[hc]
  rw[e,e]
 |some x=>cases x with
  |cells cs=>have hi:=(Ah.1 hc).1;rw[Hn hc,Hn hc,Hn (cs:=cs.set o u) (by simp[hi])];simp
  |_=>
   have e:∀u,Am.put h id o u=h:=λu=>by unfold Am.put;rw[hc]
   rw[e,e]
theorem At.HB(ha:At h id o v):At (h++t) id o v:=by obtain⟨cs,hc,e⟩:=ha;exact⟨cs,by rw[Ad (Ah.1 hc).1];exact hc,e⟩
theorem YE(ha:At h id o v):Am.put (h++t) id o u=Am.put h id o u++t:=by have hi:=ha.lt;obtain⟨cs,hc,e⟩:=ha;rw[Hn hc,Hn (by rw[Ad hi];exact hc),List.set_append_left _ _ hi]
theorem B4{i:Nat}(hn:i≠id):(Am.put h id o u)[i]?=h[i]?:=by
 unfold Am.put;split;·rw[Aj (DR hn)]
 .rfl
end
def tX(h:Ae)(p:Aa)(l:List Item):Prop:=(p= .ptr none/\l=[])\/∃id o v,p= .ptr (some (id,o))/\At h id o v/\BM l v
theorem Hg{l:List Item}{n:Nat}(hn:n<l.length):GB l (n:Int)=l[n]:=by
 have:(0:Int)<=(n:Int):=by omega
 simp[GB,this,hn]
theorem M0{l:List Item}{i:Int}(h:i<0\/(l.length:Int)<=i):GB l i=Item.zero:=by
 unfold GB;rcases h with h|h
 .rw[if_neg (by omega)]
 .rw[if_pos (by omega),AE,E1 (by omega)];rfl
section
variable{h:Ae}{p:Aa}{l:List Item}
theorem ij{s:As}{ws:List As}:decide (0<=B9 (λw=>decide (s=w)) 0 ws)=decide (s∈ws):=by
 rcases GR (p:=λw=>decide (s=w)) (l:=ws) (k:=0) with⟨h1,h2⟩|⟨n,a,h1,h2,h3⟩
 .rw[h1,D1];have:=ZA.1 h2;exact⟨λh=>by omega,λh=>absurd (show s=s from rfl) (by simpa using this s h)⟩
 .rw[h1,D1];have e:s=a:=by simpa using List.find?_some h3
  have:a∈ws:=CD h2;refine⟨λ_=>e▸this,λ_=>by omega⟩
def Bp(ws:List As)(a:Item):Bool:=decide (a.AX=1/\a.name∈ws)
theorem CR{ws:List As}:IG ws (.sl 1 (ws.map CH)):= .mk
def IH(n:Int)(a:Item):Bool:=
 if n=4 then Bp MY a else if n=5 then !Bp La a else if a.AX=3\/a.AX=2 then DY a.AX a.name
 else Bp OI a||(decide (n=2)&&Bp P3 a)||(decide (n=3)&&Bp [aSP] a)
theorem DE{ws:List As}{args:List Aa}(e:args=ws.map Aa.str)(h:ws.length<=16777216):Aw (.By 1) args=some (.sl 1 (ws.map CH)):=by
 subst e;have e1:(ws.map Aa.str).all (λa=>a.cells.length==1)=true:=by simp
 have e2:(ws.map Aa.str).map (·.cells)=ws.map CH:=by simp[CH]
 rw[lL,e1,e2];simp[h]
theorem gR:Aw (.By 1) [S aSR,S aSO,S aSI]=some (.sl 1 (MY.map CH)):=DE (ws:=MY) rfl (by decide)
theorem bP:Aw (.By 1) [S aS3,S aTg]=some (.sl 1 (La.map CH)):=DE (ws:=La) rfl (by decide)
theorem rH:Aw (.By 1) [S [111,108],S [117,108]]=some (.sl 1 (P3.map CH)):=DE (ws:=P3) rfl (by decide)
theorem gS:Aw (.By 1) [S aTp,S aST,S aSR,S aTm,S aTq,S aSO,S [116,100],S aSI,S [116,104]]=some (.sl 1 (OI.map CH)):=DE (ws:=OI) rfl (by decide)
theorem rI:Aw (.By 1) [S aSP]=some (.sl 1 ([aSP].map CH)):=DE (ws:=[aSP]) rfl (by decide)
def I1{α:Type}(q e:α->Bool):List α->Bool
 |[]=>false
 |a::r=>if q a then true else if e a then false else I1 q e r
theorem gT{α:Type}{q e:α->Bool}(l:List α)(b:Bool):(if h:0<=AK (λa=>q a||e a) l/\(AK (λa=>q a||e a) l).toNat<l.length then q (l[(AK (λa=>q a||e a) l).toNat]'h.2) else false)=I1 q e l.reverse:=by
 have key:∀r:List α,(if h:0<=AK (λa=>q a||e a) r.reverse/\(AK (λa=>q a||e a) r.reverse).toNat<r.reverse.length then q (r.reverse[(AK (λa=>q a||e a) r.reverse).toNat]'h.2) else false)=I1 q e r:=by
  intro r;induction r with
  |nil=>simp[I1,IX]
  |cons a r ih=>
   simp only[FQ,I1];have e0:=HZ (q:=λa=>q a||e a) (l:=r.reverse) (a:=a);by_cases hq:q a=true
   .rw[if_pos (by simp[hq])] at e0;have e1:(AK (λa=>q a||e a) (r.reverse++[a])).toNat=r.reverse.length:=by rw[e0];omega
    simp only[e1];rw[dif_pos ⟨by rw[e0];omega,by simp⟩];simp[hq]
   .by_cases he:e a=true
    .rw[if_pos (by simp[he])] at e0;have e1:(AK (λa=>q a||e a) (r.reverse++[a])).toNat=r.reverse.length:=by rw[e0];omega
     simp only[e1];rw[dif_pos ⟨by rw[e0];omega,by simp⟩];simp[hq,he]
    .rw[if_neg (by simp[hq,he])] at e0;simp only[hq,he,Ea,C2,<-ih,e0];rcases CQ (q:=λa=>q a||e a) (l:=r.reverse) with⟨h1,h2⟩|⟨n,hn,h1,h2,h3⟩
     .simp[h1]
     .have c1:(0:Int)<=(n:Int)/\(n:Int).toNat<r.reverse.length:=⟨by omega,by simpa using hn⟩;have c2:(0:Int)<=(n:Int)/\(n:Int).toNat<(r.reverse++[a]).length:=⟨by omega,by simp at hn⊢;omega⟩;simp only[h1];rw[dif_pos c1,dif_pos c2,Jh c1.2]
 have:=key l.reverse;rwa [GX] at this
theorem IG.cells{v:Aa}{ws:List As}(hv:IG ws v):v.cells=[v]:=AL.cells hv
def Bm(node:Int)(a:Item):Bool:=decide (a.node=node)
end
end
section
section
variable{h:Ae}{p v:Aa}{l:List Item}
theorem Xy{n s:Int}{t:As}{b:Bool}:Aw (.Br [I 0,I 0,S [],ff] [(0,1),(1,1),(2,1),(3,1)]) [.int .i64 n,.int .i64 s,.str t,.bool b]=some (.agg (Item.row ⟨n,s,t,b⟩)):=by simp only[Az];rfl
theorem Lc{a:Item}:Aw (.By 4) [.agg a.row]=some (.sl 4 [a.row]):=K8 rfl (by decide)
def KG(h:Ae)(id o:Nat)(l:List Item):Prop:=∃v,At h id o v/\BM l v
theorem KG.at{id o:Nat}(hs:KG h id o l):tX h (.ptr (some (id,o))) l:=let⟨v,h1,h2⟩:=hs; .inr ⟨id,o,v,rfl,h1,h2⟩
theorem BM.cells(hv:BM l v):v.cells=[v]:=AL.cells hv
def Gc(a:Item):Bool:=DY a.AX a.name
def Dz(node:Int)(l:List Item):Int:=if AK (Bm node) l<0 then -1 else match(l.drop ((AK (Bm node) l).toNat+1)).findIdx? Gc with
 |some k=>AK (Bm node) l+1+k
 |none=> -1
def Em{α:Type}(q:α->Bool)(l:List α)(n:Nat):Int:=match(l.drop n).findIdx? q with
 |some k=>(n:Int)+k
 |none=> -1
theorem Pq{α:Type}{q:α->Bool}{l:List α}{n:Nat}(h:l.length<=n):Em q l n= -1:=by unfold Em;rw[A3 h];rfl
theorem QV{α:Type}{q:α->Bool}{l:List α}{n:Nat}(h:n<l.length):Em q l n=if q l[n] then(n:Int) else Em q l (n+1):=by
 unfold Em;rw[AG h,List.findIdx?_cons];by_cases hq:q l[n]=true;·simp only[hq,BN];omega
 .simp only[hq,C2,Ea];cases List.findIdx? q (l.drop (n+1)) with
  |none=>rfl
  |some k=>simp only[BR];omega
theorem HM{node:Int}:Dz node l=if AK (Bm node) l<0 then -1 else Em Gc l ((AK (Bm node) l).toNat+1):=by
 unfold Dz Em;by_cases h:AK (Bm node) l<0;·simp only[h,BN]
 .simp only[h,Ea];cases(l.drop ((AK (Bm node) l).toNat+1)).findIdx? Gc with
  |none=>rfl
  |some k=>simp only;omega
def U9{α:Type}(q e:α->Bool):List α->Bool
 |[]=>false
 |a::r=>(q a&& !(r.any e))||U9 q e r
theorem SW{α:Type}{q e:α->Bool}{a:α}:∀{r:List α},I1 q e (r++[a])=((q a&& !(r.any e))||I1 q e r)
 |[]=>by by_cases h:q a=true<;>simp[I1,h]
 |b::r=>by
  simp only[CB,I1,SW (r:=r)];by_cases h1:q b=true;·simp[h1]
  .by_cases h2:e b=true<;>simp[h1,h2]
theorem bQ{α:Type}{q e:α->Bool}:∀{l:List α},U9 q e l=I1 q e l.reverse
 |[]=>rfl
 |a::l=>by rw[FQ,SW,U9,bQ];simp
theorem L_{α:Type}{q e:α->Bool}(l:List α):(if AK q l<0 then false else !((l.drop ((AK q l).toNat+1)).any e))=I1 q e l.reverse:=by
 have key:∀r:List α,(if AK q r.reverse<0 then false else !((r.reverse.drop ((AK q r.reverse).toNat+1)).any e))=I1 q e r:=by
  intro r;induction r with
  |nil=>rfl
  |cons a r ih=>
   simp only[FQ,I1,HZ];by_cases hq:q a=true;·simp only[hq,BN];rw[if_neg (by omega),AQ,A3 (by simp)];rfl
   .simp only[hq,Ea,C2,<-ih];rcases CQ (q:=q) (l:=r.reverse) with⟨h1,h2⟩|⟨n,hn,h1,h2,h3⟩
    .simp[h1]
    .have i0:¬(n:Int)<0:=by omega
     rw[h1,if_neg i0,if_neg i0,AQ,TJ (by omega),List.any_append];cases he:e a<;>simp only[List.any_cons,List.any_nil,he,Bool.or_false,Bool.or_true,C2,Ea,BN,kC]
 have:=key l.reverse;rwa [GX] at this
end
end
section
theorem Ev.ret{C:FI}{f:FuncId}{args:List Aa}{h:Ae}{R:Aa->Ae->Prop}(hw:Ev C f args h R):∃r h',BE C f args h r h'/\R r h':=by obtain⟨n,x,vs,h',e,hx,r,hv,hR⟩:=hw;exact⟨r,h',⟨n,x,vs,h',e,hx,hv,rfl⟩,hR⟩
def Oc(b a:Item->Bool):List Item->List Item
 |x::y::r=>if b x then x::y::r else if a x then y::r else Oc b a (y::r)
 |r=>r
def Dr(b a:Item->Bool)(l:List Item):List Item:=(Oc b a l.reverse).reverse
theorem rJ{b a:Item->Bool}{l:List Item}(h:l.length<=1):Oc b a l=l:=by
 match l with
 |[]=>rfl
 |[x]=>rfl
 |x::y::r=>simp at h
theorem Va{b a:Item->Bool}{l:List Item}(h:l.length<=1):Dr b a l=l:=by unfold Dr;rw[rJ (by simpa using h),GX]
theorem Xz{b a:Item->Bool}{l:List Item}{x:Item}(h:1<=l.length):Dr b a (l++[x])=if b x then l++[x] else if a x then l else Dr b a l:=by
 unfold Dr;rw[Nf,Qj,Rt];cases hr:l.reverse with
 |nil=>
  have:l=[]:=by simpa using hr
  subst this;simp at h
 |cons y r=>
  have hl:l=r.reverse++[y]:=by rw[<-GX l,hr,FQ]
  rw[Oc];by_cases h1:b x=true;·rw[if_pos h1,if_pos h1];rw[hl];simp
  .rw[if_neg h1,if_neg h1];by_cases h2:a x=true;·rw[if_pos h2,if_pos h2];rw[hl];simp
   .rw[if_neg h2,if_neg h2]
theorem XA{b a:Item->Bool}{l:List Item}{n:Nat}(hn:n+1<l.length):Dr b a (l.take (n+2))=if b l[n+1] then l.take (n+2) else if a l[n+1] then l.take (n+1) else Dr b a (l.take (n+1)):=by have e:l.take (n+2)=l.take (n+1)++[l[n+1]]:=Av hn;rw[e,Xz (by rw[Al];omega)]
theorem OK{b a:Item->Bool}:∀{l:List Item},(Dr b a l).length<=l.length:=by
 have key:∀r:List Item,(Oc b a r).length<=r.length:=by
  intro r;induction r with
  |nil=>simp[Oc]
  |cons x r ih=>
   cases r with
   |nil=>simp[Oc]
   |cons y r=>
    rw[Oc];split;·simp
    .split;·simp
     .exact Bt ih (by simp)
 intro l;have:=key l.reverse;simpa[Dr] using this
section
variable{h:Ae}{p v:Aa}{l:List Item}
theorem Vb{n:Nat}(hn:n<l.length):EU (l.take (n+1))=l[n]:=by
 have e:((l.take (n+1)).length:Int)-1=(n:Int):=by rw[Al];omega
 unfold EU;rw[e,Hg (by rw[Al];omega)];simp
theorem KG.YF{id o:Nat}(hs:KG h id o l):∃u,h=put h id o u/\BM l u:=by obtain⟨u,hc,hu⟩:=hs;exact⟨u,hc.same.symm,hu⟩
theorem KG.lt{id o:Nat}(hs:KG h id o l):∃v,At h id o v:=let⟨u,hc,_⟩:=hs;⟨u,hc⟩
theorem KG.M_{id o:Nat}{u:Aa}(hlt:∃v,At h id o v)(hu:BM l u):KG (put h id o u) id o l:=let⟨_,ha⟩:=hlt;⟨u,ha.put,hu⟩
def CC(_:Item):Bool:=false
def DZ(s:As)(a:Item):Bool:=decide (a.AX≠1\/a.name∉FB\/a.name=s)
def Cr(a:Item):Bool:=decide (a.AX≠1\/¬(a.name∈IW\/a.name∈FB))
def Gd(node:Int)(l:List Item):List Item:=if AK (Bm node) l<0 then l else Dr CC (Bm node) l
def JH(l:List Item)(i:Int):List Item:=l.take (max 1 i.toNat)
theorem M1{q:Item->Bool}(l:List Item):Dr CC q l=JH l (AK q l):=by
 have key:∀r:List Item,Dr CC q r.reverse=JH r.reverse (AK q r.reverse):=by
  intro r;induction r with
  |nil=>rfl
  |cons x r ih=>
   rw[FQ,HZ];rcases Ou r.length with h0|h0
   .have:r=[]:=tO.1 h0;subst this;by_cases hq:q x=true<;>simp[hq,JH,Dr,Oc,IX]
   .have h1:1<=r.reverse.length:=by rw[Wo];omega
    rw[Xz h1];by_cases hq:q x=true;·rw[if_neg (by simp[CC]),if_pos hq,if_pos hq];unfold JH;rw[AQ,Nat.max_eq_right h1,CU (Ac _),Bu]
    .rw[if_neg (by simp[CC]),if_neg hq,if_neg hq,ih];unfold JH;rw[CU];rcases CQ (q:=q) (l:=r.reverse) with⟨e1,_⟩|⟨n,hn,e1,_⟩<;>rw[e1]<;>omega
 have:=key l.reverse;rwa [GX] at this
theorem SX{node:Int}(l:List Item):Gd node l=if AK (Bm node) l<0 then l else JH l (AK (Bm node) l):=by unfold Gd;rw[M1]
end
end
section
section
variable{h:Ae}{p v:Aa}{l:List Item}
theorem xM(l:List Item):∀r∈l.map Item.row,r.length=4:=K9 (f:=Item.row) (λa=>Item.Co) l
theorem Pr{n:Nat}(h:n<=2000000000):n*40<=AS:=by have:AS=140737488355328:=rfl;omega
def A6{α:Type}(l:List α)(k:Nat):List α:=l.take k++l.drop (k+1)
def CF(node:Int)(l:List Item):List Item:=if AK (Bm node) l<1 then l else A6 l (AK (Bm node) l).toNat
def En(i:Int)(n:Nat):Nat:=min (max i 1).toNat n
def Od(node:Int)(a:Item)(l:List Item):List Item:=if AK (Bm node) l<1 then l else l.set (AK (Bm node) l).toNat a
def YG(h:Ae)(l:List Item)(r:Aa)(h':Ae):Prop:=(l=[]/\r= .slnil/\h'=h)\/(l≠[]/\r= .Cm h.length 0 l.length 4/\h'=h++[.cells (l.map Item.row).flatten])
theorem ir(hv:BM l v)(hb:l.length<=1000000000):∃r h',Jt h 4 40 .slnil v=some (h',r)/\YG h l r h':=by
 by_cases hne:l=[];·subst hne;exact⟨_,_,N9 (.inl rfl) hv,.inl ⟨rfl,rfl,rfl⟩⟩
 .have e3:=J8 (h:=h) (s:= .slnil) (z:=4) (b:=40) (.inl rfl) hv (by simpa using hne) (by rw[Ai];exact Pr (by omega));rw[Ai] at e3;exact⟨_,_,e3,.inr ⟨hne,rfl,rfl⟩⟩
theorem YG.KU{r:Aa}{h':Ae}(hc:YG h l r h'):∃u t,Kn h' r=some (h++t,u)/\BM l u:=by
 rcases hc with⟨rfl,rfl,rfl⟩|⟨hne,rfl,rfl⟩
 .exact⟨.slnil,[],by rw[BB];rfl,.nil⟩
 .have c5:(h++[De.cells (l.map Item.row).flatten])[h.length]?=some (.cells (l.map Item.row).flatten):=by simp
  have f1:=JF (xM l) c5;rw[Ai] at f1;refine⟨.sl 4 (l.map Item.row),[.CG],?_,.mk⟩;rw[f1];congr 2
  rw[B2 _ _ (Ac _)];simp
end
end
section
end
section
section
variable{h:Ae}{p v w:Aa}{l:List Item}{ws:List As}
theorem xN:JH l (-1)=JH l 1:=rfl
def Ef(s:As)(all:Bool)(a:Item):Bool:=if all then Cr a else DZ s a
end
end
section
def fT:List (As×Int×As):=[(aSX,4,aTo),(aSW,4,aTn),(aS5,4,aTv),(aS6,4,aTw),(aS7,4,aTx),(aS0,4,aTf),(aS8,4,aTy),(aTa,5,[108,97,110,103]),(aS1,5,aTu),(aS2,6,aS2),(aSS,6,aTi)]
def Vd(x:As×Int×As):Aa×Aa:=(.str x.1,.agg [.int .i64 x.2.1,.str x.2.2,.str []])
def ft(n:Nat):List (Aa×Aa):=(fT.take n).map Vd
theorem aEq:Ns aSX (.agg [.int .i64 4,.str aTo,.str []]) (ft 0)=some (ft 1):=by kernel_rfl
theorem aEr:Ns aSW (.agg [.int .i64 4,.str aTn,.str []]) (ft 1)=some (ft 2):=by kernel_rfl
theorem aEs:Ns aS5 (.agg [.int .i64 4,.str aTv,.str []]) (ft 2)=some (ft 3):=by kernel_rfl
theorem aEt:Ns aS6 (.agg [.int .i64 4,.str aTw,.str []]) (ft 3)=some (ft 4):=by kernel_rfl
theorem aEu:Ns aS7 (.agg [.int .i64 4,.str aTx,.str []]) (ft 4)=some (ft 5):=by kernel_rfl
theorem aEv:Ns aS0 (.agg [.int .i64 4,.str aTf,.str []]) (ft 5)=some (ft 6):=by kernel_rfl
theorem aEw:Ns aS8 (.agg [.int .i64 4,.str aTy,.str []]) (ft 6)=some (ft 7):=by kernel_rfl
theorem aEx:Ns aTa (.agg [.int .i64 5,.str [108,97,110,103],.str []]) (ft 7)=some (ft 8):=by kernel_rfl
theorem aEy:Ns aS1 (.agg [.int .i64 5,.str aTu,.str []]) (ft 8)=some (ft 9):=by kernel_rfl
theorem aEz:Ns aS2 (.agg [.int .i64 6,.str aS2,.str []]) (ft 9)=some (ft 10):=by kernel_rfl
theorem N_:Ns aSS (.agg [.int .i64 6,.str aTi,.str []]) (ft 10)=some (ft 11):=by kernel_rfl
theorem gU{h:Ae}{es:List (Aa×Aa)}{s:As}{v:Aa}:Sq (h++[.map es]) (.map (some h.length)) (.str s) v=(Ns s v es).map λes=>h++[.map es]:=by simp[Sq]
def DF(n:As):Option (Int×As):=(fT.find? λx=>decide (n=x.1)).map (·.2)
theorem Ve(n:As):∀l:List (As×Int×As),Ud n (l.map Vd)=some ((l.find? λx=>decide (n=x.1)).map λx=>(Vd x).2)
 |[]=>rfl
 |x::l=>by
  rw[Bl,I0,Vd,Ud];by_cases e:n=x.1;·rw[if_pos e,AD e];rfl
  .rw[if_neg e,AA e];exact Ve n l
theorem Ld{h:Ae}{n:As}:Sr (h++[.map (ft 11)]) (.agg [.int .i64 0,.str [],.str []]) true (.map (some h.length)) (.str n)=
  some (match DF n with|some (s,m)=> .tuple [.agg [.int .i64 s,.str m,.str []],.bool true]|none=> .tuple [.agg [.int .i64 0,.str [],.str []],.bool false]):=by
 have e:Ue (h++[.map (ft 11)]) (.map (some h.length)) (.str n)=Ud n (fT.map Vd):=by simp[Ue,ft,fT]
 rw[Sr,e,Ve,DF];cases fT.find? λx=>decide (n=x.1)<;>rfl
abbrev O_:As:=aS9
abbrev To:As:=aTb
def Jb(sp:Int)(n:As):As:=if sp=2 then Ca n He else if sp=3/\n=O_ then To else n
def CM(sp:Int)(a:AW):AW:=
 if sp=2\/sp=3 then match DF (Jb sp a.name) with
  |some (s,m)=>⟨s,m,a.value⟩
  |none=>⟨0,Jb sp a.name,a.value⟩
 else⟨0,a.name,a.value⟩
theorem QW(s:As):(Ff s).length=s.length:=by simp[Ff]
theorem Kt(n:As):∀ws,Ca n ws=n\/(Ca n ws∈ws/\Ff (Ca n ws)=n)
 |[]=> .inl rfl
 |w::ws=>by
  rw[Ca];split;·rename_i e;exact .inr ⟨List.mem_cons_self,e⟩
  .rcases Kt n ws with h|⟨h1,h2⟩
   .exact .inl h
   .exact .inr ⟨List.mem_cons_of_mem _ h1,h2⟩
theorem QX(n:As)(ws:List As):(Ca n ws).length=n.length:=by
 rcases Kt n ws with h|⟨_,h⟩
 .rw[h]
 .rw[<-QW,h]
theorem DP{a b c:Aa}:Aw (.By 3) [.agg [a,b,c]]=some (.sl 3 [[a,b,c]]):=rfl
theorem AW.Co{a:AW}:a.row.length=3:=rfl
theorem AW.GA{a:AW}:a.row.take 3=a.row:=rfl
section
variable{v:Aa}{l:List AW}{h:Ae}
theorem bR{a b:AW}{neg:Bool}:Aw (.geq neg [.i,.s,.s]) [.agg a.row,.agg b.row]=some (.bool (decide (a=b) != neg)):=by
 rw[PY];have:DC [.i,.s,.s] a.row b.row=some (decide (a=b)):=by simp only[DC,Km,AW.row,BN,BC];cases a;cases b;simp only[AW.mk.injEq];rw[Bool.eq_iff_iff];simp
 rw[this];rfl
def KH:List As:=[aSX,aSW,aS5,aS6,aS7,aS0,aS8]
theorem iu{s:As}:FC aSH s=decide (s∈KH):=DS (by decide+kernel) (by decide+kernel)
theorem XB{k:IntKind}{s:As}{a z:Nat}(ha:a<=s.length):Aw (.Hs z true true false) [.str s,.int k (a:Int)]=some (.str (s.drop a)):=by
 have e1:EK (a:Int) s.length=some a:=by unfold EK;rw[if_pos (by omega)];rfl
 simp[Aw,I4,DH,e1]
abbrev bS:As:=aTa
abbrev Vf:As:=aS1
abbrev bT:As:=aS2
abbrev Vg:As:=aSS
theorem WJ:∀s∈KH,6<=s.length/\DF s=some (4,s.drop 6):=by decide
theorem YH{s:As}(h1:s∉KH)(h2:s≠bS)(h3:s≠Vf)(h4:s≠bT)(h5:s≠Vg):DF s=none:=by simp only[KH,AM,List.not_mem_nil,or_false,not_or] at h1;obtain⟨a1,a2,a3,a4,a5,a6,a7⟩:=h1;simp only[DF,fT,I0,List.find?_nil,AA a1,AA a2,AA a3,AA a4,AA a5,AA a6,AA a7,AA h2,AA h3,AA h4,AA h5,Option.map_none]
abbrev gV:As:=aTi
theorem Ps(s:As):(s∈KH/\6<=s.length/\DF s=some (4,s.drop 6))\/(s∉KH/\((s=bS/\4<=s.length/\DF s=some (5,s.drop 4))\/(¬s=bS/\((s=Vf/\4<=s.length/\DF s=some (5,s.drop 4))\/(¬s=Vf/\((s=bT/\DF s=some (6,s))\/(¬s=bT/\((s=Vg/\DF s=some (6,gV))\/(¬s=Vg/\DF s=none))))))))):=by
 by_cases c1:s∈KH;·exact .inl ⟨c1,WJ s c1⟩
 refine .inr ⟨c1,?_⟩;by_cases c2:s=bS;·subst c2;decide
 refine .inr ⟨c2,?_⟩;by_cases c3:s=Vf;·subst c3;decide
 refine .inr ⟨c3,?_⟩;by_cases c4:s=bT;·subst c4;decide
 refine .inr ⟨c4,?_⟩;by_cases c5:s=Vg;·subst c5;decide
 exact .inr ⟨c5,YH c1 c2 c3 c4 c5⟩
theorem sl6{s:As}(h:6<=s.length):Aw (.Hs 0 true true false) [.str s,.int .i64 6]=some (.str (s.drop 6)):=XB h
theorem sl4{s:As}(h:4<=s.length):Aw (.Hs 0 true true false) [.str s,.int .i64 4]=some (.str (s.drop 4)):=XB h
end
end
section
structure Cd where
 node:Int
 name:As
 Ax:List AW
deriving DecidableEq
structure B3 where
 c:Cd
 v:Aa
 ok:Bx c.Ax v
def B3.row(e:B3):List Aa:=[.int .i64 e.c.node,.str e.c.name,e.v]
def C0(l:List B3)(v:Aa):Prop:=AL 3 (l.map B3.row) v
section
variable{e:B3}{d:Aa}
theorem B3.Co:e.row.length=3:=rfl
theorem B3.g0:e.row.getD 0 d= .int .i64 e.c.node:=rfl
theorem B3.g1:e.row.getD 1 d= .str e.c.name:=rfl
theorem B3.g2:e.row.getD 2 d=e.v:=rfl
theorem B3.uz:e.row[0]?=some (.int .i64 e.c.node):=rfl
theorem B3.GA:e.row.take 3=e.row:=rfl
theorem B3.bO:e.row.drop 1=[.str e.c.name,e.v]:=rfl
theorem B3.Ny:[Aa.int .i64 e.c.node,.str e.c.name,e.v]=e.row:=rfl
theorem B3.iv:Aw (.len false) [e.v]=some (.int .i64 (e.c.Ax.length:Int)):=AL.Cq e.ok
end
theorem AW.g0{a:AW}{d:Aa}:a.row.getD 0 d= .int .i64 a.AX:=rfl
theorem AW.g1{a:AW}{d:Aa}:a.row.getD 1 d= .str a.name:=rfl
theorem AW.g2{a:AW}{d:Aa}:a.row.getD 2 d= .str a.value:=rfl
theorem AW.Ny{a:AW}:[Aa.int .i64 a.AX,.str a.name,.str a.value]=a.row:=rfl
theorem Oe{n:Nat}(h:n<=2000000000):n*48<=AS:=by have:AS=140737488355328:=rfl;omega
def RT(e:B3):Bool:=decide (e.c.node=0)
def Of(n:Int)(e:B3):Bool:=decide (e.c.node=n)
def since(l:List B3):Int:=AK RT l+1
theorem rK:since []=0:=rfl
theorem gW{l:List B3}{e:B3}:since (l++[e])=if e.c.node=0 then(l.length:Int)+1 else since l:=by unfold since;rw[HZ];by_cases h:e.c.node=0<;>simp[RT,h]
theorem Vh{l:List B3}{n:Nat}(hn:n<l.length):since (l.take (n+1))=if l[n].c.node=0 then(n:Int)+1 else since (l.take n):=by rw[Av hn,gW,Al,Cn (WT hn)]
theorem II(l:List B3):∃s:Nat,since l=(s:Int)/\s<=l.length/\(∀m (hm:m<l.length),s<=m->l[m].c.node≠0)/\(∀t,s=t+1->∃ht:t<l.length,l[t].c.node=0):=by
 rcases CQ (q:=RT) (l:=l) with⟨h1,h2⟩|⟨n,hn,h1,h2,h3⟩
 .refine⟨0,by unfold since;rw[h1];rfl,AO _,λm hm _=>?_,λt ht=>by omega⟩;have:=h2 _ (AJ hm);simpa[RT] using this
 .refine⟨n+1,by unfold since;rw[h1];rfl,hn,λm hm DW=>?_,λt ht=>?_⟩;·have:=h3 m hm (by omega);simpa[RT] using this
  .obtain rfl:t=n:=by omega
   exact⟨hn,by simpa[RT] using h2⟩
section
variable{h:Ae}{v:Aa}{l:List B3}{id:Nat}
def lP(name:As):List B3->Int
 |[]=> -1
 |e::t=>if e.c.node=0 then -1 else if e.c.name=name then(t.length:Int) else lP name t
def Ml(name:As)(l:List B3):Int:=lP name l.reverse
theorem P5{name:As}{n:Nat}(hn:n<l.length):Ml name (l.take (n+1))=if l[n].c.node=0 then -1 else if l[n].c.name=name then(n:Int) else Ml name (l.take n):=by rw[Av hn,Ml,Nf,Qj,Rt,lP,Wo,Al,Cn (WT hn),Ml]
theorem rL{name:As}:Ml name []= -1:=rfl
theorem bU{name:As}{s:Nat}(hs:since l=(s:Int)):Ml name (l.take s)= -1:=by
 obtain⟨s',e,h1,h2,h3⟩:=II l;obtain rfl:s=s':=by omega
 cases s with
 |zero=>rfl
 |succ t=>obtain⟨ht,h0⟩:=h3 t rfl;rw[P5 ht,if_pos h0]
def GC(node:Int)(l:List B3):Int:=if node=0 then -1 else AK (Of node) l
end
section
variable{h:Ae}{v:Aa}{l:List AW}
def FN(a b:Cd):Bool:=decide (a.name=b.name/\a.Ax.length=b.Ax.length/\(∀x∈a.Ax,x∈b.Ax)/\∀x∈b.Ax,x∈a.Ax)
def WK(e:B3):Prop:=e.c.Ax.length<=1000000000
end
end
section
mutual
theorem Aa.QY:∀a:Aa,Aa.beq a a=true
 | .bool a=>by simp[Aa.beq]
 | .int k a=>by simp[Aa.beq]
 | .str a=>by simp[Aa.beq]
 | .ptr a=>by simp[Aa.beq]
 | .CA a=>by simp[Aa.beq,Aa.JI a]
 | .sl n a=>by simp[Aa.beq,Aa.Vi a]
 | .slnil=>by simp[Aa.beq]
 | .Cm a c d e=>by simp[Aa.beq]
 | .map a=>by simp[Aa.beq]
 | .func f a c=>by simp[Aa.beq,Aa.JI a,Aa.JI c]
 | .nilFunc=>by simp[Aa.beq]
 | .iface t a=>by simp[Aa.beq,Aa.QY a]
 | .nilIface=>by simp[Aa.beq]
 | .agg a=>by simp[Aa.beq,Aa.JI a]
 | .tuple a=>by simp[Aa.beq,Aa.JI a]
theorem Aa.JI:∀a:List Aa,Aa.Qn a a=true
 |[]=>by simp[Aa.Qn]
 |a::x=>by simp[Aa.Qn,Aa.QY a,Aa.JI x]
theorem Aa.Vi:∀a:List (List Aa),Aa.Qo a a=true
 |[]=>by simp[Aa.Qo]
 |a::x=>by simp[Aa.Qo,Aa.JI a,Aa.Vi x]
end
def RU(h:Ae)(id o:Nat)(l:List B3):Prop:=∃u,At h id o u/\C0 l u
theorem C0.cells{l:List B3}{v:Aa}(hv:C0 l v):v.cells=[v]:=AL.cells hv
theorem RU.lt{h:Ae}{id o:Nat}{l:List B3}(hs:RU h id o l):∃v,At h id o v:=let⟨u,hc,_⟩:=hs;⟨u,hc⟩
theorem M2(l:List B3):∀r∈l.map B3.row,r.length=3:=K9 (f:=B3.row) (λa=>B3.Co) l
section
variable{h:Ae}{v:Aa}{l:List B3}{id:Nat}
theorem KQ{r:List Aa}(h:r.length=3):Aw (.By 3) [.agg r]=some (.sl 3 [r]):=K8 (a:= .agg r) h (by decide)
theorem bV(n:Int)(l:List B3):GC n l= -1\/∃k:Nat,k<l.length/\GC n l=(k:Int):=by
 unfold GC;split;·exact .inl rfl
 .rcases CQ (q:=Of n) (l:=l) with⟨h1,_⟩|⟨k,hk,h1,_⟩
  .exact .inl h1
  .exact .inr ⟨k,hk,h1⟩
def YI:B3:=⟨⟨0,[],[]⟩,.slnil,.nil⟩
theorem xO:[I 0,S [],Aa.slnil]=YI.row:=rfl
def Cl(i:Int)(n:Nat):Nat:=min (max i 0).toNat n
def Eg(l:List B3):Nat:=(since l-1).toNat
end
end
section
def iw(e:Cd):List B3->Nat
 |[]=>0
 |x::t=>if x.c.node=0 then 0 else iw e t+(if FN x.c e=true then 1 else 0)
def gX(e:Cd):List B3->Int
 |[]=> -1
 |x::t=>if x.c.node=0 then -1 else if 0<=gX e t then gX e t else if FN x.c e=true then(t.length:Int) else -1
def QZ(e:Cd)(l:List B3):Nat:=iw e l.reverse
def Mm(e:Cd)(l:List B3):Int:=gX e l.reverse
section
variable{e:Cd}{l:List B3}{n s:Nat}
theorem RV(hn:n<l.length):QZ e (l.take (n+1))=if l[n].c.node=0 then 0 else QZ e (l.take n)+(if FN l[n].c e=true then 1 else 0):=by rw[Av hn,QZ,Nf,Qj,Rt,iw,QZ]
theorem RY(hn:n<l.length):Mm e (l.take (n+1))=if l[n].c.node=0 then -1 else if 0<=Mm e (l.take n) then Mm e (l.take n) else if FN l[n].c e=true then(n:Int) else -1:=by rw[Av hn,Mm,Nf,Qj,Rt,gX,Mm,Wo,Al,Cn (WT hn)]
theorem Vj(hs:since l=(s:Int)):QZ e (l.take s)=0/\Mm e (l.take s)= -1:=by
 obtain⟨s',e,h1,h2,h3⟩:=II l;obtain rfl:s=s':=by omega
 cases s with
 |zero=>exact⟨rfl,rfl⟩
 |succ t=>obtain⟨ht,h0⟩:=h3 t rfl;exact⟨by rw[RV ht,if_pos h0],by rw[RY ht,if_pos h0]⟩
end
def Ku(e:Cd)(l:List B3):List B3:=if e.node≠0/\3<=QZ e l then A6 l (Mm e l).toNat else l
section
variable{h:Ae}{v:Aa}{l:List B3}{id:Nat}
end
end
section
section
variable{h:Ae}{v:Aa}{l:List B3}{id:Nat}
end
end
end Go.Am
end
section
namespace Go.Am
set_option maxRecDepth 100000
structure Eh where
 kind:Int:=0
 E8:Int:=0
 AZ:List Int:=[]
 Cy:Int:=0
 AX:Int:=0
 name:As:=[]
 Ax:List AW:=[]
 data:As:=[]
 pub:As:=[]
 sys:As:=[]
 Cb:Bool:=false
 cont:Int:=0
 DT:Int:=0
deriving DecidableEq
structure Ar where
 n:List Eh
 i:List Int
abbrev A5:As:=aSI
def YJ(x:Eh):Prop:=x.kind=4/\x.AX=1/\x.name=A5
instance(x:Eh):Decidable (YJ x):=by unfold YJ;infer_instance
namespace Ar
def len(A:Ar):Int:=A.n.length
def has(A:Ar)(h:Int):Prop:=1<=h/\h<=A.n.length
instance(A:Ar)(h:Int):Decidable (A.has h):=by unfold has;infer_instance
def nd(A:Ar)(h:Int):Eh:=if A.has h then A.n.getD (h.toNat-1) {} else{}
def inr(A:Ar)(h:Int):Int:=if A.has h then A.i.getD (h.toNat-1) 0 else 0
def set(A:Ar)(h:Int)(x:Eh):Ar:={n:=if A.has h then A.n.set (h.toNat-1) x else A.n,i:=A.i}
def H5(A:Ar)(h:Int)(x:Int):Ar:={n:=A.n,i:=if A.has h then A.i.set (h.toNat-1) x else A.i}
def add(A:Ar)(x:Eh):Ar:={n:=A.n++[x],i:=A.i++[0]}
def up(A:Ar)(h:Int):Int:=if(A.nd h).E8≠0 then(A.nd h).E8 else(A.nd h).DT
end Ar
section
variable{A:Ar}{h k:Int}{x y:Eh}
theorem GM(hh:¬A.has h):A.nd h={}:=by unfold Ar.nd;rw[if_neg hh]
theorem It:(A.set h x).n.length=A.n.length:=by simp only[Ar.set];split<;>simp
theorem iy:(A.set h x).len=A.len:=by unfold Ar.len;rw[It]
theorem Hz:(A.set h x).has k↔A.has k:=by unfold Ar.has;rw[It]
theorem IJ:(A.set h x).nd k=if k=h/\A.has h then x else A.nd k:=by
 unfold Ar.nd;simp only[Hz];by_cases hk:A.has k
 .rw[if_pos hk,if_pos hk];simp only[Ar.set];by_cases hh:A.has h
  .rw[if_pos hh];have h1:=hh;have h2:=hk;unfold Ar.has at h1 h2;by_cases e:k=h;·subst e;rw[if_pos ⟨rfl,hh⟩,AE,AN (by omega)];rfl
   .rw[if_neg (by simp[e]),AE,Aj (by omega),AE]
  .rw[if_neg hh,if_neg (by simp[hh])]
 .rw[if_neg hk,if_neg hk,if_neg];rintro⟨rfl,h2⟩;exact hk h2
theorem Q0:(A.set h x).inr k=A.inr k:=by unfold Ar.inr;simp only[Hz];rfl
theorem OL:(A.add x).len=A.len+1:=by simp[Ar.len,Ar.add]
theorem Dj:(A.add x).has k↔A.has k\/k=A.len+1:=by simp[Ar.has,Ar.add,Ar.len];omega
theorem HN:(A.add x).nd k=if k=A.len+1 then x else A.nd k:=by
 unfold Ar.nd;simp only[Dj];by_cases e:k=A.len+1;·subst e;simp[Ar.add,Ar.len]
 .by_cases hk:A.has k;·rw[if_pos (.inl hk),if_neg e,if_pos hk];unfold Ar.has at hk;simp only[Ar.add,AE];rw[Ad (by omega)]
  .rw[if_neg (by simp[hk,e]),if_neg e,if_neg hk]
theorem TZ(hl:A.i.length=A.n.length):(A.add x).inr k=A.inr k:=by
 unfold Ar.inr;simp only[Dj];by_cases e:k=A.len+1
 .subst e;have:¬A.has (A.len+1):=by unfold Ar.has Ar.len;omega
  rw[if_pos (.inr rfl),if_neg this];simp[Ar.add,Ar.len,<-hl]
 .by_cases hk:A.has k;·rw[if_pos (.inl hk),if_pos hk];unfold Ar.has at hk;simp only[Ar.add,AE];rw[Ad (by omega)]
  .rw[if_neg (by simp[hk,e]),if_neg hk]
theorem Q1:(A.H5 h k).len=A.len:=rfl
theorem Mn{m:Int}:(A.H5 h m).has k↔A.has k:=Iff.rfl
theorem Q2{m:Int}:(A.H5 h m).nd k=A.nd k:=by rfl
theorem Og{m:Int}(hl:A.i.length=A.n.length):(A.H5 h m).inr k=if k=h/\A.has h then m else A.inr k:=by
 unfold Ar.inr;simp only[Mn];by_cases hk:A.has k
 .rw[if_pos hk,if_pos hk];simp only[Ar.H5];by_cases hh:A.has h
  .rw[if_pos hh];have h1:=hh;have h2:=hk;unfold Ar.has at h1 h2;by_cases e:k=h;·subst e;rw[if_pos ⟨rfl,hh⟩,AE,AN (by omega)];rfl
   .rw[if_neg (by simp[e]),AE,Aj (by omega),AE]
  .rw[if_neg hh,if_neg (by simp[hh])]
 .rw[if_neg hk,if_neg hk,if_neg];rintro⟨rfl,h2⟩;exact hk h2
end
def Da(a:AW):Int×As:=(a.AX,a.name)
def GD(out:List AW):List AW->List AW
 |[]=>out
 |x::l=>if out.any (λy=>decide (Da x=Da y)) then GD out l else GD (out++[x]) l
def Cf(l:List AW):List AW:=GD [] l
theorem P6:∀{l out:List AW},(out.map Da).Nodup->((GD out l).map Da).Nodup
 |[],_,h=>h
 |x::l,out,h=>by
  rw[GD];split;·exact P6 h
  .rename_i hn;refine P6 ?_;rw[BI,B7];refine⟨h,by simp,?_⟩;rintro a ha b hb rfl;simp at hb;subst hb;simp at ha hn;obtain⟨y,hy,e⟩:=ha;exact hn y hy e.symm
theorem bW:∀{l out:List AW},((out++l).map Da).Nodup->GD out l=out++l
 |[],out,_=>by simp[GD]
 |x::l,out,h=>by
  rw[GD,if_neg,bW (by simpa using h)];·simp
  .intro ha;rw[BI,B7] at h;simp at ha;obtain⟨y,hy,e⟩:=ha;exact h.2.2 _ (Bk.2 ⟨y,hy,e.symm⟩) _ (by simp) rfl
theorem rM(l:List AW):((Cf l).map Da).Nodup:=P6 (by simp)
theorem iz{l:List AW}(h:(l.map Da).Nodup):Cf l=l:=by have:=bW (out:=[]) (l:=l) (by simpa using h);simpa[Cf] using this
theorem XC(l:List AW):Cf (Cf l)=Cf l:=iz (rM l)
theorem RZ:∀{l out:List AW} {a:AW},a∈GD out l->a∈out\/a∈l
 |[],_,_,h=> .inl h
 |x::l,out,a,h=>by
  rw[GD] at h;split at h
  .rcases RZ h with h|h
   .exact .inl h
   .exact .inr (by simp[h])
  .rcases RZ h with h|h
   .simp at h;rcases h with h|rfl
    .exact .inl h
    .exact .inr (by simp)
   .exact .inr (by simp[h])
theorem bX{l:List AW}{a:AW}(h:a∈Cf l):a∈l:=by simpa using RZ h
theorem Vk:∀{l out:List AW},(GD out l).length<=out.length+l.length
 |[],out=>by simp[GD]
 |x::l,out=>by
  rw[GD];split;·have:=Vk (l:=l) (out:=out);simp;omega
  .have:=Vk (l:=l) (out:=out++[x]);simp at this⊢;omega
theorem OM{l:List AW}:(Cf l).length<=l.length:=by have:=Vk (l:=l) (out:=[]);simpa[Cf] using this
structure tY(x:Eh):Prop where
 k:1<=x.kind/\x.kind<=6
 AZ:x.AZ≠[]->x.kind=1\/x.kind=2\/x.kind=4
 elem:x.kind≠4->x.AX=0/\x.Ax=[]
 nm:x.kind≠4->x.kind≠3->x.name=[]
 dt:x.kind≠3->x.pub=[]/\x.sys=[]
 data:x.kind≠5->x.kind≠6->x.data=[]
 Cb:x.kind≠1->x.Cb=false
 sp:0<=x.AX/\x.AX<=7
 dg:∀a∈x.Ax,0<=a.AX/\a.AX<=7
 Cf:Cf x.Ax=x.Ax
 SY:x.cont≠0->YJ x
 Oh:x.DT≠0->x.kind=2
 root:x.E8≠0->x.kind≠1/\x.kind≠2
 rN:x.AZ.Nodup
structure Eu(A:Ar)(e:Int):Prop where
 il:A.i.length=A.n.length
 Q3:∀h,A.has h->tY (A.nd h)
 Cy:∀h,A.has h->A.has (A.nd h).Cy/\(A.nd (A.nd h).Cy).kind=1
 YK:∀h,A.has h->(A.nd h).kind=1->(A.nd h).Cy=h
 E8:∀h,A.has h->(A.nd h).E8≠0->A.has (A.nd h).E8/\h∈(A.nd (A.nd h).E8).AZ
 LA:∀h,A.has h->∀k∈(A.nd h).AZ,A.has k/\(A.nd k).E8=h
 i_:∀h,A.has h->h≠e->YJ (A.nd h)->(A.nd h).cont≠0
 cont:∀h,A.has h->(A.nd h).cont≠0->A.has (A.nd h).cont/\(A.nd (A.nd h).cont).kind=2/\(A.nd (A.nd h).cont).DT=h
 DT:∀h,A.has h->(A.nd h).DT≠0->A.has (A.nd h).DT/\(A.nd (A.nd h).DT).cont=h
 P_:∀h,A.has h->A.inr h≠0->A.has (A.inr h)/\(A.nd (A.inr h)).kind=1
 YL:∃r:Int->Nat,∀h,A.has h->A.up h≠0->r (A.up h)<r h
section
variable{A:Ar}{e h k:Int}{x y:Eh}
theorem P7:¬A.has (A.len+1):=by unfold Ar.has Ar.len;omega
theorem Vl(hh:¬A.has h):A.up h=0:=by unfold Ar.up;rw[GM hh];simp
theorem gY(ok:Eu A e)(hh:A.has h)(hu:A.up h≠0):A.has (A.up h):=by
 unfold Ar.up at hu⊢;split;·rename_i h1;exact(ok.E8 h hh h1).1
 .rename_i h1;rw[if_neg h1] at hu;exact(ok.DT h hh hu).1
theorem Vm(ok:Eu A e)(hx:tY x)(hd:(x.kind=1/\x.Cy=A.len+1)\/(x.kind≠1/\A.has x.Cy/\(A.nd x.Cy).kind=1))(hp:x.E8=0)(hk:x.AZ=[])(hc:x.cont=0)(hh:x.DT=0)(hT:YJ x->e=A.len+1):Eu (A.add x) e:=by
 have no:=P7 (A:=A);obtain⟨r,hr⟩:=ok.YL;have ne:∀{k},A.has k->k≠A.len+1:=λhk e=>no (e▸hk);refine⟨by simp[Ar.add,ok.il],?_,?_,?_,?_,?_,?_,?_,?_,?_,r,?_⟩<;>intro m hm<;>rw[Dj] at hm<;>(try rw[TZ ok.il])<;>simp only[Ar.up,HN,Dj]<;>rcases hm with hm|rfl
 all_goals first|(rw[if_neg (ne hm)])|(rw[if_pos rfl])|skip
 .exact ok.Q3 m hm
 .exact hx
 .have:=ok.Cy m hm;rw[if_neg (ne this.1)];exact⟨.inl this.1,this.2⟩
 .rcases hd with⟨h1,h2⟩|⟨h1,h2,h3⟩
  .rw[if_pos h2];exact⟨.inr h2,h1⟩
  .rw[if_neg (ne h2)];exact⟨.inl h2,h3⟩
 .exact ok.YK m hm
 .intro h1;rcases hd with⟨_,h2⟩|⟨h2,_⟩
  .exact h2
  .exact absurd h1 h2
 .intro h1;have:=ok.E8 m hm h1;rw[if_neg (ne this.1)];exact⟨.inl this.1,this.2⟩
 .intro h1;exact absurd hp h1
 .intro q hq;have:=ok.LA m hm q hq;rw[if_neg (ne this.1)];exact⟨.inl this.1,this.2⟩
 .intro q hq;rw[hk] at hq;cases hq
 .exact ok.i_ m hm
 .intro h1 h2;exact absurd (hT h2).symm h1
 .intro h1;have:=ok.cont m hm h1;rw[if_neg (ne this.1)];exact⟨.inl this.1,this.2⟩
 .intro h1;exact absurd hc h1
 .intro h1;have:=ok.DT m hm h1;rw[if_neg (ne this.1)];exact⟨.inl this.1,this.2⟩
 .intro h1;exact absurd hh h1
 .intro h1;have:=ok.P_ m hm h1;rw[if_neg (ne this.1)];exact⟨.inl this.1,this.2⟩
 .intro h1;exfalso;apply h1;unfold Ar.inr;rw[if_neg no]
 .have:=hr m hm;unfold Ar.up at this;exact this
 .rw[hp,hh];simp
inductive Reach(A:Ar)(t:Int):Int->Prop
 |refl:Reach A t t
 |step {h:Int}:A.up h≠0->Reach A t (A.up h)->Reach A t h
def Ig(l:List Int)(b n:Int):List Int:=if b=0 then l++[n] else l.takeWhile (λk=>decide (k≠b))++n::l.dropWhile (λk=>decide (k≠b))
def Ar.cut(A:Ar)(n:Int):Ar:=
 let q:=(A.nd n).E8
 if q=0 then A else
  let A1:=A.set q {A.nd q with AZ:=(A.nd q).AZ.filter λk=>decide (k≠n)}
  A1.set n {A1.nd n with E8:=0}
def Ar.L2(A:Ar)(p n b:Int):Ar:=
 let A1:=A.set p {A.nd p with AZ:=Ig (A.nd p).AZ b n}
 A1.set n {A1.nd n with E8:=p}
def J9(k:Int):Prop:=k=1\/k=2\/k=4
instance(k:Int):Decidable (J9 k):=by unfold J9;infer_instance
structure xP(A:Ar)(p n b:Int):Prop where
 hp:A.has p
 hn:A.has n
 hb:b≠0->A.has b/\b≠n/\(A.nd b).E8=p
 kp:J9 (A.nd p).kind
 kn:(A.nd n).kind≠1/\(A.nd n).kind≠2
 re:¬Reach A n p
open Classical in
noncomputable def Ar.Fg(A:Ar)(p n b:Int):Ar:=if xP A p n b then(A.cut n).L2 p n b else A
theorem R2{l:List Int}{b n k:Int}:k∈Ig l b n↔k=n\/k∈l:=by
 unfold Ig;split;·simp;exact Or.comm
 .have e:=List.takeWhile_append_dropWhile (p:=λk=>decide (k≠b)) (l:=l);constructor
  .intro h;rw[Ao,AM] at h;rcases h with h|h|h
   .exact .inr (by rw[<-e];simp only[Ao];exact .inl h)
   .exact .inl h
   .exact .inr (by rw[<-e];simp only[Ao];exact .inr h)
  .intro h;rw[Ao,AM];rcases h with h|h
   .exact .inr (.inl h)
   .rw[<-e,Ao] at h;rcases h with h|h
    .exact .inl h
    .exact .inr (.inr h)
theorem bY{l:List Int}{b n:Int}(h:l.Nodup)(hn:n∉l):(Ig l b n).Nodup:=by
 unfold Ig;split;·rw[B7];refine⟨h,by simp,?_⟩;rintro a ha c hc rfl;simp at hc;subst hc;exact hn ha
 .have e:=List.takeWhile_append_dropWhile (p:=λk=>decide (k≠b)) (l:=l);generalize List.takeWhile _ l=u at e⊢;generalize List.dropWhile _ l=w at e⊢;subst e;rw[B7] at h⊢;simp at hn;refine⟨h.1,by simp[h.2.1,hn.2],?_⟩;rintro a ha c hc rfl;simp at hc;rcases hc with rfl|hc
  .exact hn.1 ha
  .exact h.2.2 _ ha _ hc rfl
theorem bZ:(A.cut h).n.length=A.n.length:=by unfold Ar.cut;simp only;split<;>simp[It]
theorem JV:(A.cut h).has k↔A.has k:=by unfold Ar.has;rw[bZ]
theorem cA{p n b:Int}:(A.L2 p n b).n.length=A.n.length:=by unfold Ar.L2;simp[It]
theorem lQ{p n b:Int}:(A.L2 p n b).has k↔A.has k:=by unfold Ar.has;rw[cA]
theorem ja:(A.cut h).inr k=A.inr k:=by unfold Ar.cut;simp only;split<;>simp[Q0]
theorem jb{p n b:Int}:(A.L2 p n b).inr k=A.inr k:=by unfold Ar.L2;simp[Q0]
theorem ve(ok:Eu A e)(hh:A.has h)(hu:A.up h≠0):A.up h≠h:=by obtain⟨r,hr⟩:=ok.YL;intro e;have:=hr h hh hu;rw[e] at this;exact C8 _ this
theorem gZ(ok:Eu A e)(hh:A.has h)(hu:(A.nd h).E8≠0):(A.nd h).E8≠h:=by
 have:A.up h=(A.nd h).E8:=by unfold Ar.up;rw[if_pos hu]
 have h2:=ve ok hh (by rw[this];exact hu);rwa [this] at h2
theorem P8(ok:Eu A e)(hh:A.has h):(A.cut h).nd k=if k=h then{A.nd h with E8:=0} else if(A.nd h).E8≠0/\k=(A.nd h).E8 then{A.nd k with AZ:=(A.nd k).AZ.filter λm=>decide (m≠h)} else A.nd k:=by
 unfold Ar.cut;simp only
 by_cases hp:(A.nd h).E8=0
 .rw[if_pos hp];by_cases e:k=h;·subst e;rw[if_pos rfl];have:A.nd k={A.nd k with E8:=(A.nd k).E8}:=rfl;rw[hp] at this;exact this
  .rw[if_neg e,if_neg (by simp[hp])]
 .have hn:=gZ ok hh hp;have hq:=(ok.E8 h hh hp).1;rw[if_neg hp];simp only[IJ,Hz,hh,hq,NB];by_cases e:k=h;·subst e;simp[DR hn]
  .simp[e,hp];split;·rename_i e;simp[e]
   .rfl
theorem cB{x:Eh}(hx:tY x){l:List Int}(h1:l.Nodup)(h2:l≠[]->J9 x.kind):tY {x with AZ:=l}:=
 {k:=hx.k,AZ:=h2,elem:=hx.elem,nm:=hx.nm,dt:=hx.dt,data:=hx.data,Cb:=hx.Cb,sp:=hx.sp,dg:=hx.dg,Cf:=hx.Cf,SY:=hx.SY,Oh:=hx.Oh,root:=hx.root,rN:=h1}
theorem lR{x:Eh}(hx:tY x){p:Int}(h2:p≠0->x.kind≠1/\x.kind≠2):tY {x with E8:=p}:=
 {k:=hx.k,AZ:=hx.AZ,elem:=hx.elem,nm:=hx.nm,dt:=hx.dt,data:=hx.data,Cb:=hx.Cb,sp:=hx.sp,dg:=hx.dg,Cf:=hx.Cf,SY:=hx.SY,Oh:=hx.Oh,root:=h2,rN:=hx.rN}
theorem Q_(ok:A.i.length=A.n.length):(A.cut h).i.length=(A.cut h).n.length:=by rw[bZ];unfold Ar.cut;simp only;split<;>exact ok
theorem R_{p n b:Int}(ok:A.i.length=A.n.length):(A.L2 p n b).i.length=(A.L2 p n b).n.length:=by rw[cA];exact ok
theorem jc(ok:Eu A e)(hh:A.has h)(hk:k∈(A.nd h).AZ):k≠h/\(A.nd k).E8=h/\A.has k:=by have:=ok.LA h hh k hk;refine⟨?_,this.2,this.1⟩;rintro rfl;have h0:=this.1.1;exact gZ ok hh (by rw[this.2];omega) this.2
theorem xQ(ok:Eu A e)(hh:A.has h):(A.cut h).up k=if k=h then(A.nd h).DT else A.up k:=by
 unfold Ar.up;rw[P8 ok hh];by_cases e:k=h;·simp[e]
 .simp only[e,Ea];split<;>rfl
theorem hC(ok:Eu A e)(hh:A.has h)(Wi:(A.nd h).kind≠2):Eu (A.cut h) e:=by
 obtain⟨r,hr⟩:=ok.YL;have hN:=λm=>P8 (k:=m) ok hh;have kd:∀m,((A.cut h).nd m).kind=(A.nd m).kind:=λm=>by rw[hN];grind
 have dc:∀m,((A.cut h).nd m).Cy=(A.nd m).Cy:=λm=>by rw[hN];grind
 have cn:∀m,((A.cut h).nd m).cont=(A.nd m).cont:=λm=>by rw[hN];grind
 have ho:∀m,((A.cut h).nd m).DT=(A.nd m).DT:=λm=>by rw[hN];grind
 have hh0:(A.nd h).DT=0:=by
  by_cases h0:(A.nd h).DT=0;·exact h0
  .exact absurd ((ok.Q3 h hh).Oh h0) Wi
 refine⟨Q_ ok.il,?_,?_,?_,?_,?_,?_,?_,?_,?_,r,?_⟩<;>intro m hm<;>rw[JV] at hm<;>(try simp only[kd,dc,cn,ho,JV,ja])
 .rw[hN];split;·exact lR (ok.Q3 h hh) (by simp)
  .split;·exact cB (ok.Q3 m hm) ((ok.Q3 m hm).rN.filter _) λh1=>(ok.Q3 m hm).AZ (by intro h2;rw[h2] at h1;simp at h1)
   .exact ok.Q3 m hm
 .exact ok.Cy m hm
 .exact ok.YK m hm
 .intro h1;have e1:m≠h:=by rintro rfl;rw[hN] at h1;simp at h1
  have e2:((A.cut h).nd m).E8=(A.nd m).E8:=by rw[hN,if_neg e1];split<;>rfl
  rw[e2] at h1⊢;have h2:=ok.E8 m hm h1;refine⟨h2.1,?_⟩;rw[hN];split;·rename_i e3;rw[<-e3];exact h2.2
  .split;·simp only[DV,DI];exact⟨h2.2,e1⟩
   .exact h2.2
 .intro q hq;have h1:q∈(A.nd m).AZ/\(m=(A.nd h).E8->q≠h):=by
   rw[hN] at hq;split at hq;·rename_i e1;subst e1;have:=jc ok hm hq;exact⟨hq,λ_=>this.1⟩
   .split at hq;·simp only[DV,DI] at hq;exact⟨hq.1,λ_=>hq.2⟩
    .rename_i h3;refine⟨hq,λh4 h5=>h3 ⟨?_,h4⟩⟩;rw[<-h4];have:=hm.1;omega
  have h2:=ok.LA m hm q h1.1;refine⟨h2.1,?_⟩;have e1:q≠h:=by rintro rfl;exact h1.2 h2.2.symm rfl
  rw[hN,if_neg e1,<-h2.2];split<;>rfl
 .intro h1 h2;refine ok.i_ m hm h1 ?_;rw[hN] at h2;unfold YJ at h2⊢;grind
 .exact ok.cont m hm
 .exact ok.DT m hm
 .exact ok.P_ m hm
 .rw[xQ ok hh];split;·rw[hh0];simp
  .exact hr m hm
theorem xR{p n b:Int}(hp:A.has p)(hn:A.has n)(hne:n≠p):(A.L2 p n b).nd k=if k=n then{A.nd n with E8:=p} else if k=p then{A.nd p with AZ:=Ig (A.nd p).AZ b n} else A.nd k:=by
 unfold Ar.L2;simp only[IJ,Hz,hp,hn,NB];by_cases e:k=n;·subst e;simp[hne]
 .simp[e]
theorem rO{p n b:Int}(hp:A.has p)(hn:A.has n)(hne:n≠p)(h0:(A.nd n).E8=0)(hh0:(A.nd n).DT=0)(hr:¬Reach A n p):∀{m},¬Reach A n m->(A.L2 p n b).up m=A.up m:=by
 intro m hm;have e:m≠n:=by rintro rfl;exact hm .refl
 unfold Ar.up;rw[xR hp hn hne,if_neg e];split;·rename_i e;subst e;rfl
 .rfl
open Classical in
theorem S_(ok:Eu A e){p n b:Int}(hp:A.has p)(hn:A.has n)(kp:J9 (A.nd p).kind)(kn:(A.nd n).kind≠1/\(A.nd n).kind≠2)(re:¬Reach A n p)(h0:(A.nd n).E8=0):Eu (A.L2 p n b) e:=by
 obtain⟨r,hr⟩:=ok.YL;have hne:n≠p:=by rintro rfl;exact re .refl
 have hN:=λm=>xR (k:=m) (b:=b) hp hn hne;have kd:∀m,((A.L2 p n b).nd m).kind=(A.nd m).kind:=λm=>by rw[hN];grind
 have dc:∀m,((A.L2 p n b).nd m).Cy=(A.nd m).Cy:=λm=>by rw[hN];grind
 have cn:∀m,((A.L2 p n b).nd m).cont=(A.nd m).cont:=λm=>by rw[hN];grind
 have ho:∀m,((A.L2 p n b).nd m).DT=(A.nd m).DT:=λm=>by rw[hN];grind
 have hh0:(A.nd n).DT=0:=by
  by_cases h0:(A.nd n).DT=0;·exact h0
  .exact absurd ((ok.Q3 n hn).Oh h0) kn.2
 have nk:∀m,A.has m->n∉(A.nd m).AZ:=by intro m hm h1;have:=ok.LA m hm n h1;rw[h0] at this;have:=hm.1;omega
 refine⟨R_ ok.il,?_,?_,?_,?_,?_,?_,?_,?_,?_,λm=>if Reach A n m then r m+r p+1 else r m,?_⟩<;>intro m hm<;>rw[lQ] at hm<;>(try simp only[kd,dc,cn,ho,lQ,jb])
 .rw[hN];split;·exact lR (ok.Q3 n hn) λ_=>kn
  .split;·exact cB (ok.Q3 p hp) (bY (ok.Q3 p hp).rN (nk p hp)) λ_=>kp
   .exact ok.Q3 m hm
 .exact ok.Cy m hm
 .exact ok.YK m hm
 .intro h1;by_cases e1:m=n
  .subst e1;rw[hN,if_pos rfl];refine⟨hp,?_⟩;simp only
   rw[hN,if_neg (DR hne),if_pos rfl];exact R2.2 (.inl rfl)
  .have e2:((A.L2 p n b).nd m).E8=(A.nd m).E8:=by rw[hN,if_neg e1];split;rename_i e;rw[e];rfl
   rw[e2] at h1⊢;have h2:=ok.E8 m hm h1;refine⟨h2.1,?_⟩;rw[hN];split;·rename_i e3;rw[<-e3];exact h2.2
   .split;·rename_i e3;rw[<-e3];exact R2.2 (.inr h2.2)
    .exact h2.2
 .intro q hq;by_cases e1:q=n
  .subst e1;refine⟨hn,?_⟩;rw[hN,if_pos rfl];rw[hN] at hq;split at hq;·exact absurd hq (nk q hn)
   .split at hq;·rename_i e;exact e.symm
    .exact absurd hq (nk m hm)
  .have h1:q∈(A.nd m).AZ:=by
    rw[hN] at hq;split at hq;·rename_i e;rw[e];exact hq
    .split at hq;·rename_i e;rw[e];exact(R2.1 hq).resolve_left e1
     .exact hq
   have h2:=ok.LA m hm q h1;refine⟨h2.1,?_⟩;rw[hN,if_neg e1,<-h2.2];split;·rename_i e;rw[e]
   .rfl
 .intro h1 h2;refine ok.i_ m hm h1 ?_;rw[hN] at h2;unfold YJ at h2⊢;grind
 .exact ok.cont m hm
 .exact ok.DT m hm
 .exact ok.P_ m hm
 .intro hu;by_cases hR:Reach A n m
  .by_cases e1:m=n
   .subst e1;have e2:(A.L2 p m b).up m=p:=by unfold Ar.up;rw[hN,if_pos rfl];simp only;rw[if_pos];have:=hp.1;omega
    rw[e2,if_neg re,if_pos hR];omega
   .have e2:(A.L2 p n b).up m=A.up m:=by
     unfold Ar.up;rw[hN,if_neg e1];split;·rename_i e;rw[e]
     .rfl
    rw[e2] at hu⊢;have hR2:Reach A n (A.up m):=by
     cases hR with
     |refl=>exact absurd rfl e1
     |step _ hx=>exact hx
    rw[if_pos hR2,if_pos hR];have:=hr m hm hu;omega
  .have e2:=rO (b:=b) hp hn hne h0 hh0 re hR;rw[e2] at hu⊢;have hR2:¬Reach A n (A.up m):=λh=>hR (.step hu h);rw[if_neg hR2,if_neg hR];exact hr m hm hu
theorem rP(ok:Eu A e)(hh:A.has h){m:Int}(hr:¬Reach A h m):¬Reach (A.cut h) h m:=by
 intro K0;have key:∀m,Reach (A.cut h) h m->Reach A h m:=by
  intro m hm;induction hm with
  |refl=>exact .refl
  |@step q h1 _ ih=>
   by_cases e1:q=h;·rw[e1];exact .refl
   .rw[xQ ok hh,if_neg e1] at h1 ih;exact .step h1 ih
 exact hr (key m K0)
theorem ON(ok:Eu A e){p n b:Int}:Eu (A.Fg p n b) e:=by
 unfold Ar.Fg;split
 .rename_i f;have o2:=hC ok f.hn f.kn.2;have kd:∀m,((A.cut n).nd m).kind=(A.nd m).kind:=λm=>by rw[P8 ok f.hn];grind
  refine S_ o2 (JV.2 f.hp) (JV.2 f.hn) ?_ ?_ (rP ok f.hn f.re) ?_;·rw[kd];exact f.kp
  .rw[kd];exact f.kn
  .rw[P8 ok f.hn,if_pos rfl]
 .exact ok
theorem xS(ok:Eu A e)(hh:A.has h)(hx:tY x)(h1:x.kind=(A.nd h).kind)(h2:x.E8=(A.nd h).E8)(h3:x.AZ=(A.nd h).AZ)(h4:A.has x.Cy/\(A.nd x.Cy).kind=1/\(x.kind=1->x.Cy=h))(h5:x.cont=(A.nd h).cont)(h6:x.DT=(A.nd h).DT)(h7:YJ x->YJ (A.nd h)):Eu (A.set h x) e:=by
 obtain⟨r,hr⟩:=ok.YL;have hN:∀m,(A.set h x).nd m=if m=h then x else A.nd m:=λm=>by rw[IJ];simp[hh]
 have kd:∀m,((A.set h x).nd m).kind=(A.nd m).kind:=λm=>by rw[hN];grind
 have pr:∀m,((A.set h x).nd m).E8=(A.nd m).E8:=λm=>by rw[hN];grind
 have ks:∀m,((A.set h x).nd m).AZ=(A.nd m).AZ:=λm=>by rw[hN];grind
 have cn:∀m,((A.set h x).nd m).cont=(A.nd m).cont:=λm=>by rw[hN];grind
 have ho:∀m,((A.set h x).nd m).DT=(A.nd m).DT:=λm=>by rw[hN];grind
 have u:∀m,(A.set h x).up m=A.up m:=λm=>by unfold Ar.up;rw[pr,ho]
 refine⟨by rw[It];exact ok.il,?_,?_,?_,?_,?_,?_,?_,?_,?_,r,?_⟩<;>intro m hm<;>rw[Hz] at hm<;>(try simp only[kd,pr,ks,cn,ho,u,Hz,Q0])
 .rw[hN];split;·exact hx
  .exact ok.Q3 m hm
 .rw[hN];split;·exact⟨h4.1,h4.2.1⟩
  .exact ok.Cy m hm
 .rw[hN];split;·rename_i e;intro h8;rw[e,h4.2.2 (by rw[h1,<-e];exact h8)]
  .exact ok.YK m hm
 .exact ok.E8 m hm
 .exact ok.LA m hm
 .intro h8 h9;refine ok.i_ m hm h8 ?_;rw[hN] at h9;split at h9;·rename_i e;rw[e];exact h7 h9
  .exact h9
 .exact ok.cont m hm
 .exact ok.DT m hm
 .exact ok.P_ m hm
 .exact hr m hm
def Ar.EV(A:Ar)(d:Int):Int:=if A.inr d≠0 then A.inr d else A.len+1
def Ar.CW(A:Ar)(d:Int):Ar:=if A.inr d≠0 then A else((A.add {kind:=1,Cy:=A.len+1}).H5 d (A.len+1)).H5 (A.len+1) (A.len+1)
theorem jd:tY {kind:=1,Cy:=k}:=by constructor<;>simp[Cf,GD]
theorem lS(ok:Eu A e)(hk:A.has k/\(A.nd k).kind=1):Eu (A.H5 h k) e:=by
 refine⟨?_,ok.Q3,ok.Cy,ok.YK,ok.E8,ok.LA,ok.i_,ok.cont,ok.DT,?_,ok.YL⟩;·simp only[Ar.H5];split<;>simp[ok.il]
 .intro m hm h1;rw[Mn] at hm;rw[Og ok.il] at h1⊢;split at h1;·rename_i h2;rw[if_pos h2];exact hk
  .rename_i h2;rw[if_neg h2];exact ok.P_ m hm h1
theorem xT(ok:Eu A e)(hh:A.has h)(he:e≠A.len+1):Eu (A.CW h) e/\(A.CW h).has (A.EV h)/\((A.CW h).nd (A.EV h)).kind=1:=by
 unfold Ar.CW Ar.EV;split;·rename_i h1;exact⟨ok,ok.P_ h hh h1⟩
 .have o1:=Vm ok (x:={kind:=1,Cy:=A.len+1}) jd (.inl ⟨rfl,rfl⟩) rfl rfl rfl rfl (by simp[YJ]);have h2:(A.add {kind:=1,Cy:=A.len+1}).has (A.len+1)/\((A.add {kind:=1,Cy:=A.len+1}).nd (A.len+1)).kind=1:=by rw[Dj,HN,if_pos rfl];exact⟨.inr rfl,rfl⟩
  exact⟨lS (lS o1 h2) h2,h2⟩
theorem Vn(hk:k≠A.len+1\/A.inr h≠0):(A.CW h).nd k=A.nd k:=by
 unfold Ar.CW;split;·rfl
 .rename_i h1;rw[Q2,Q2,HN,if_neg (hk.resolve_right h1)]
theorem rQ:(A.CW h).len=if A.inr h≠0 then A.len else A.len+1:=by
 unfold Ar.CW;split;·rfl
 .rw[Q1,Q1,OL]
theorem Mo:A.has k->(A.CW h).has k:=by
 unfold Ar.CW;split;·exact id
 .intro hk;rw[Mn,Mn,Dj];exact .inl hk
theorem je{d:Int}(ok:Eu A e)(he:A.has e)(hT:YJ (A.nd e))(hc:(A.nd e).cont=0)(hd:A.has d/\(A.nd d).kind=1):Eu ((A.add {kind:=2,DT:=e,Cy:=d}).set e {A.nd e with cont:=A.len+1}) 0:=by
 have no:=P7 (A:=A);obtain⟨r,hr⟩:=ok.YL;have ne:∀{k},A.has k->k≠A.len+1:=λhk e=>no (e▸hk);have l0:A.len+1≠0:=by have:=he.1;have:=he.2;unfold Ar.len;omega
 have hN:∀m,(((A.add {kind:=2,DT:=e,Cy:=d}).set e {A.nd e with cont:=A.len+1}).nd m)=if m=e then{A.nd e with cont:=A.len+1} else if m=A.len+1 then{kind:=2,DT:=e,Cy:=d} else A.nd m:=λm=>by rw[IJ,HN];simp[he,Dj]
 have hk:(A.nd e).kind=4:=hT.1;have h0:(A.nd e).DT=0:=by
  by_cases h0:(A.nd e).DT=0;·exact h0
  .have:=(ok.Q3 e he).Oh h0;omega
 have e0:e≠0:=by have:=he.1;omega
 have hnx:tY {kind:=2,DT:=e,Cy:=d}:=by constructor<;>simp[Cf,GD]
 have Q3:=ok.Q3;have o2:=Q3 e he;have hne:tY {A.nd e with cont:=A.len+1}:={k:=o2.k,AZ:=o2.AZ,elem:=o2.elem,nm:=o2.nm,dt:=o2.dt,data:=o2.data,Cb:=o2.Cb,sp:=o2.sp,dg:=o2.dg,Cf:=o2.Cf,SY:=λ_=>hT,Oh:=o2.Oh,root:=o2.root,rN:=o2.rN};have hs:∀m,((A.add {kind:=2,DT:=e,Cy:=d}).set e {A.nd e with cont:=A.len+1}).has m↔A.has m\/m=A.len+1:=λm=>by rw[Hz,Dj]
 have hi:∀m,((A.add {kind:=2,DT:=e,Cy:=d}).set e {A.nd e with cont:=A.len+1}).inr m=A.inr m:=λm=>by rw[Q0,TZ ok.il]
 have nee:e≠A.len+1:=ne he;refine⟨by rw[It];simp[Ar.add,Ar.set,ok.il],?_,?_,?_,?_,?_,?_,?_,?_,?_,λm=>if m=A.len+1 then r e+1 else r m,?_⟩<;>intro m hm<;>rw[hs] at hm<;>(try simp only[hs,hi])
 .rw[hN];split;·exact hne
  .split;·exact hnx
   .rename_i h1 h2;exact Q3 m (hm.resolve_right h2)
 .have key:∀q,A.has q/\(A.nd q).kind=1->(A.has q\/q=A.len+1)/\(((A.add {kind:=2,DT:=e,Cy:=d}).set e {A.nd e with cont:=A.len+1}).nd q).kind=1:=by
   intro q hq;refine⟨.inl hq.1,?_⟩;rw[hN,if_neg (ne hq.1)];split;·rename_i e1;rw[e1] at hq;exact hq.2
   .exact hq.2
  rw[hN m];split;·exact key _ (ok.Cy e he)
  .split;·exact key _ hd
   .rename_i h1 h2;exact key _ (ok.Cy m (hm.resolve_right h2))
 .rw[hN m];split;·rename_i e1;intro h1;rw[e1];exact ok.YK e he h1
  .split;·intro h1;simp at h1
   .rename_i h1 h2;exact ok.YK m (hm.resolve_right h2)
 .have key:∀q,A.has q->(A.nd q).E8≠0->(A.has (A.nd q).E8\/(A.nd q).E8=A.len+1)/\q∈(((A.add {kind:=2,DT:=e,Cy:=d}).set e {A.nd e with cont:=A.len+1}).nd (A.nd q).E8).AZ:=by
   intro q hq hp;have h1:=ok.E8 q hq hp;refine⟨.inl h1.1,?_⟩;rw[hN,if_neg (ne h1.1)];split;·rename_i e1;rw[e1] at h1;exact h1.2
   .exact h1.2
  rw[hN m];split;·rename_i e1;rw[e1];exact key e he
  .split;·intro h1;simp at h1
   .rename_i h1 h2;exact key m (hm.resolve_right h2)
 .have key:∀q,A.has q->∀k∈(A.nd q).AZ,(A.has k\/k=A.len+1)/\(((A.add {kind:=2,DT:=e,Cy:=d}).set e {A.nd e with cont:=A.len+1}).nd k).E8=q:=by
   intro q hq k hk;have h1:=ok.LA q hq k hk;refine⟨.inl h1.1,?_⟩;rw[hN,if_neg (ne h1.1)];split;·rename_i e1;rw[e1] at h1;exact h1.2
   .exact h1.2
  rw[hN m];split;·rename_i e1;rw[e1];exact key e he
  .split;·intro k hk;simp at hk
   .rename_i h1 h2;exact key m (hm.resolve_right h2)
 .intro _;rw[hN m];split;·intro _;exact l0
  .split;·intro h1;simp[YJ] at h1
   .rename_i h1 h2;exact ok.i_ m (hm.resolve_right h2) h1
 .rw[hN m];split
  .rename_i e1;intro _;simp only
   rw[hN,if_neg (DR nee),if_pos rfl,e1];exact⟨.inr trivial,rfl,rfl⟩
  .split;·intro h1;simp at h1
   .rename_i h1 h2;intro h3;have h4:=ok.cont m (hm.resolve_right h2) h3;refine⟨.inl h4.1,?_⟩;rw[hN,if_neg (ne h4.1)];split;·rename_i e1;rw[e1,hk] at h4;exact absurd h4.2.1 (by decide)
    .exact h4.2
 .rw[hN m];split;·intro h1;exact absurd h0 h1
  .split;·rename_i e1;intro _;simp only;refine⟨.inl he,?_⟩;rw[hN,if_pos rfl,e1]
   .rename_i h1 h2;intro h3;have h4:=ok.DT m (hm.resolve_right h2) h3;refine⟨.inl h4.1,?_⟩;rw[hN,if_neg (ne h4.1)];split;·rename_i e1;rw[e1,hc] at h4;have:=(hm.resolve_right h2).1;omega
    .exact h4.2
 .intro h1;rcases hm with hm|rfl
  .have h2:=ok.P_ m hm h1;refine⟨.inl h2.1,?_⟩;rw[hN,if_neg (ne h2.1)];split;·rename_i e1;rw[e1] at h2;exact h2.2
   .exact h2.2
  .exfalso;apply h1;unfold Ar.inr;rw[if_neg no]
 .by_cases e1:m=A.len+1
  .have e2:((A.add {kind:=2,DT:=e,Cy:=d}).set e {A.nd e with cont:=A.len+1}).up m=e:=by
    have e3:m≠e:=by rw[e1];exact DR nee
    unfold Ar.up;rw[hN m];simp[e1,DR nee]
   rw[e2,if_neg nee,if_pos e1];intro _;omega
  .have hm:=hm.resolve_right e1;have e2:((A.add {kind:=2,DT:=e,Cy:=d}).set e {A.nd e with cont:=A.len+1}).up m=A.up m:=by
    unfold Ar.up;rw[hN];split;·rename_i e3;rw[e3]
    .rfl
   rw[e2,if_neg e1];intro h1;rw[if_neg (ne (gY ok hm h1))];exact hr m hm h1
def Ar.elem(A:Ar)(d sp:Int)(nm:As)(at_:List AW):Ar:=
 let x:Eh:={kind:=4,Cy:=d,AX:=sp,name:=nm,Ax:=Cf at_}
 if YJ x then
  let A1:=A.add x
  let A2:=A1.CW d
  (A2.add {kind:=2,DT:=A.len+1,Cy:=A1.EV d}).set (A.len+1) {x with cont:=A2.len+1}
 else A.add x
theorem jf{d sp:Int}{nm:As}{l:List AW}(ok:Eu A 0)(hd:A.has d/\(A.nd d).kind=1)(hs:0<=sp/\sp<=7)(hl:∀a∈l,0<=a.AX/\a.AX<=7):Eu (A.elem d sp nm l) 0:=by
 have hx:tY {kind:=4,Cy:=d,AX:=sp,name:=nm,Ax:=Cf l}:=by constructor<;>simp[XC,hs];exact λa ha=>hl a (bX ha)
 unfold Ar.elem;simp only
 split
 .rename_i hT;have okx:Eu A (A.len+1):={ok with i_:=λh hh _=>ok.i_ h hh (by have:=hh.1;omega)};have o1:=Vm okx hx (.inr ⟨by simp,hd⟩) rfl rfl rfl rfl λ_=>rfl;have YM:(A.add {kind:=4,Cy:=d,AX:=sp,name:=nm,Ax:=Cf l}).has d:=Dj.2 (.inl hd.1);obtain⟨o2,h2,h3⟩:=xT o1 YM (by rw[OL];omega);have hN:((A.add {kind:=4,Cy:=d,AX:=sp,name:=nm,Ax:=Cf l}).CW d).nd (A.len+1)={kind:=4,Cy:=d,AX:=sp,name:=nm,Ax:=Cf l}:=by rw[Vn (.inl (by rw[OL];omega)),HN,if_pos rfl]
  have:=je o2 (Mo (Dj.2 (.inr rfl))) (by rw[hN];exact hT) (by rw[hN]) ⟨h2,h3⟩;rw[hN] at this;exact this
 .rename_i hT;exact Vm ok hx (.inr ⟨by simp,hd⟩) rfl rfl rfl rfl λh=>absurd h hT
end
def aJ6(e:Cd):Bool:=decide (e.node=0)
def Vo(n:Int)(e:Cd):Bool:=decide (e.node=n)
def hZ(l:List Cd):Int:=AK aJ6 l+1
def EE(n:Int)(l:List Cd):Int:=if n=0 then -1 else AK (Vo n) l
def Oi(name:As):List Cd->Int
 |[]=> -1
 |x::t=>if x.node=0 then -1 else if x.name=name then(t.length:Int) else Oi name t
def FL(name:As)(l:List Cd):Int:=Oi name l.reverse
def lT(e:Cd):List Cd->Nat
 |[]=>0
 |x::t=>if x.node=0 then 0 else lT e t+(if FN x e=true then 1 else 0)
def cC(e:Cd):List Cd->Int
 |[]=> -1
 |x::t=>if x.node=0 then -1 else if 0<=cC e t then cC e t else if FN x e=true then(t.length:Int) else -1
def cD(e:Cd)(l:List Cd):List Cd:=(if e.node≠0/\3<=lT e l.reverse then A6 l (cC e l.reverse).toNat else l)++[e]
def FD(l:List Cd):List Cd:=l.take (hZ l-1).toNat
structure BS where
 a:Ar
 Cy:Int
 AR:List Item
 A4:List Cd
 mode:Int
 Tp:Int
 tm:List Int
 head:Int
 Kv:Int
 Jj:Bool
 ctx:Item
 fs:Bool
 Ei:Bool
 cE:As
 skip:Bool
 sw:Int
 stop:Bool
def Q4(s:List As)(A:Ar)(h:Int):Prop:=(A.nd h).kind=4/\(A.nd h).AX=1/\(A.nd h).name∈s
instance(s:List As)(A:Ar)(h:Int):Decidable (Q4 s A h):=by unfold Q4;infer_instance
abbrev Ew:As:=aSO
abbrev R4:As:=aTd
abbrev R5:As:=aTc
abbrev R6:As:=aTe
abbrev wTr:As:=[116,114]
abbrev wP:As:=[112]
def GS:List As:=[Ew,R4,R5,R6,wTr]
namespace BS
def I2(b:BS):Int×Int:=
 let tp:=AK (Bp [A5]) b.AR
 let tb:=AK (Bp [Ew]) b.AR
 if tb<tp then((GB b.AR tp).node,0) else if tb<0 then((GB b.AR 0).node,0) else
 let t:=(GB b.AR tb).node
 if(b.a.nd t).E8≠0 then((b.a.nd t).E8,t) else((GB b.AR (max (tb-1) 0)).node,0)
def place(b:BS)(t:Int):Int×Int:=
 if t=0/\b.AR=[] then(b.Cy,0) else
 let t':=if t=0 then(EU b.AR).node else t
 let pb:=if b.Ei=true/\Q4 GS b.a t' then b.I2 else(t',0)
 if(b.a.nd pb.1).cont≠0 then((b.a.nd pb.1).cont,0) else pb
end BS
open Classical in
noncomputable def Ar.D0(A:Ar)(h p bf:Int):Ar:=if(A.nd p).kind=1/\(A.nd h).kind=4/\(∃k∈(A.nd p).AZ,(A.nd k).kind=4) then A else A.Fg p h bf
namespace BS
def Im(b:BS)(p:Int):Int:=if(b.a.nd p).cont≠0 then(if(b.a.nd (b.a.nd p).cont).Cy≠0 then(b.a.nd (b.a.nd p).cont).Cy else b.Cy) else if(b.a.nd p).Cy≠0 then(b.a.nd p).Cy else b.Cy
def Ho(sp:Int):Prop:=0<=sp/\sp<=7
instance(sp:Int):Decidable (Ho sp):=by unfold Ho;infer_instance
def Io(sp:Int)(nm:As):As:=if sp=2 then Ca nm HX else nm
def FE(b:BS)(nm:As)(at_:List AW)(sp:Int):Item:=if Ho sp then⟨b.a.len+1,sp,Io sp nm,EH sp (Io sp nm) (at_.map (CM sp))⟩ else Item.zero
def D9(b:BS)(nm:As)(at_:List AW)(sp p:Int):BS:=if Ho sp then{b with a:=b.a.elem (b.Im p) sp (Io sp nm) (at_.map (CM sp))} else b
def Oj(b:BS)(sp:Int):Int:=if Ho sp then b.a.len+1 else 0
noncomputable def Ex(b:BS)(nm:As)(at_:List AW)(sp:Int):BS:=
 if Ho sp then
  let pb:=b.place 0
  let b1:=b.D9 nm at_ sp pb.1
  {b1 with a:=b1.a.D0 (b.a.len+1) pb.1 pb.2,AR:=b1.AR++[b.FE nm at_ sp]}
 else b
noncomputable def Jc(b:BS)(nm:As)(at_:List AW):BS:=
 let b1:=b.Ex nm at_ 1
 {b1 with A4:=cD ⟨b.a.len+1,nm,at_⟩ b1.A4}
end BS
def GU(r:Int):As:=
 if 0<=r/\r<128 then[UInt8.ofNat r.toNat]
 else if 128<=r/\r<2048 then[UInt8.ofNat (192+r.toNat/64),UInt8.ofNat (128+r.toNat%64)]
 else if 2048<=r/\r<65536/\¬(55296<=r/\r<57344) then[UInt8.ofNat (224+r.toNat/4096),UInt8.ofNat (128+r.toNat/64%64),UInt8.ofNat (128+r.toNat%64)]
 else if 65536<=r/\r<=1114111 then[UInt8.ofNat (240+r.toNat/262144),UInt8.ofNat (128+r.toNat/4096%64),UInt8.ofNat (128+r.toNat/64%64),UInt8.ofNat (128+r.toNat%64)]
 else[239,191,189]
def R7(l:List Int)(bf:Int):Option Int:=if bf=0 then l.getLast? else(l.takeWhile λk=>decide (k≠bf)).getLast?
def Ar.Q5(A:Ar)(h:Int)(s:As):Ar:=A.set h {A.nd h with data:=s}
def Ar.Iu(A:Ar)(h:Int)(l:List AW):Ar:=A.set h {A.nd h with Ax:=Cf l}
namespace BS
noncomputable def Kw(A:Ar)(s:As)(p bf:Int):Ar:=
 if(A.nd p).kind=4\/(A.nd p).kind=2 then
  match R7 (A.nd p).AZ bf with
  |some t=>if(A.nd t).kind=5 then A.Q5 t ((A.nd t).data++s) else(A.add {kind:=5,Cy:=(A.nd p).Cy,data:=s}).D0 (A.len+1) p bf
  |none=>(A.add {kind:=5,Cy:=(A.nd p).Cy,data:=s}).D0 (A.len+1) p bf
 else A
noncomputable def iA(b:BS)(r:Int):BS:={b with a:=Kw b.a (GU r) (b.place 0).1 (b.place 0).2}
noncomputable def Eo(A:Ar)(s:As)(p bf:Int):Ar:=
 if J9 (A.nd p).kind then(A.add {kind:=6,Cy:=(A.nd p).Cy,data:=s}).D0 (A.len+1) p bf else A
noncomputable def JW(b:BS)(s:As)(p:Int):BS:={b with a:=if p=0 then Eo b.a s (b.place 0).1 (b.place 0).2 else Eo b.a s p 0}
noncomputable def OO(b:BS)(nm:As)(at_:List AW)(st:Int):BS:=let b1:=b.Ex nm at_ 1;{b1 with sw:=st,Tp:=b1.mode,mode:=8}
def IK(b:BS):BS:=if I1 (Bp [wP]) (IH 3) b.AR.reverse then{b with AR:=Dr CC (Bp [wP]) (Dr (DZ wP) CC b.AR)} else b
def settled(b:BS)(e:Cd):Bool:=decide (e.node=0\/0<=AK (Bm e.node) b.AR)
noncomputable def Iv:List Cd->BS->List Cd×BS
 |[],b=>([],b)
 |e::l,b=>let r:=Iv l (b.Ex e.name e.Ax 1);({e with node:=b.a.len+1}::r.1,r.2)
def Ka(b:BS):Nat:=(AK b.settled b.A4+1).toNat
noncomputable def Dv(b:BS):BS:=let r:=Iv (b.A4.drop b.Ka) b;{r.2 with A4:=b.A4.take b.Ka++r.1}
def C1(b:BS)(nm:As):BS:=match b.AR.reverse.find? λi=>Bp [nm] i||Gc i with
 |some i=>if Bp [nm] i then{b with AR:=Gd i.node (Dr (DZ nm) CC b.AR)} else b
 |none=>b
def IC(l:List Item):Int:=match l.reverse.find? λi=>Bp [A5] i||Bp [Ew] i with
 |some i=>if Bp [A5] i then 16 else 17
 |none=>16
end BS
abbrev Q6:As:=aST
abbrev OP:As:=aS4
abbrev lU:As:=[98,111,100,121]
abbrev OQ:As:=aTk
abbrev JX:As:=aTl
abbrev xU:As:=[116,100]
abbrev xV:As:=[116,104]
abbrev Pu:As:=aTs
abbrev Dc:As:=aSR
def Iw:List (As×Int):=[(wTr,14),(R4,13),(R6,13),(R5,13),(Q6,11),(OP,12),(Ew,9),(lU,7),(OQ,20)]
namespace BS
def Gn(b:BS)(x:Item)(k:Nat):Option Int:=
 if x.AX=1 then
  match Iw.find? λr=>decide (r.1=x.name) with
  |some r=>some r.2
  |none=>
   if x.name=JX then some (IC (b.AR.take k))
   else if(x.name=xU\/x.name=xV)/\0<k then some 15
   else if x.name=A5 then some (b.tm.getLast?.getD 7)
   else if x.name=Pu/\0<k then some 4
   else if x.name=Dc then some (if b.head=0 then 3 else 6)
   else if k=0 then some 7 else none
 else if k=0 then some 7 else none
def D4(b:BS)(k:Nat):Item:=if k=0/\b.Jj=true then b.ctx else b.AR.getD k Item.zero
def Kx(b:BS):Nat->Int
 |0=>7
 |k+1=>match b.Gn (b.D4 k) k with
  |some m=>m
  |none=>b.Kx k
def HO(b:BS):BS:={b with mode:=b.Kx b.AR.length}
def plain(l:List AW):List AW:=l.map λa=>⟨0,a.name,a.value⟩
def GF(b:BS)(l:List AW)(h:Int):BS:=if(b.a.nd h).kind=4 then{b with a:=b.a.Iu h ((b.a.nd h).Ax++plain l)} else b
def C7(b:BS):BS:=
 if AK (Bp [A5]) b.AR<0 then b
 else HO {b with AR:=Dr CC (Bp [A5]) (Dr Cr CC b.AR),A4:=FD b.A4,tm:=b.tm.dropLast}
def P9(b:BS):BS:=if b.AR.length<2 then b else{b with AR:=b.AR.take (b.AR.length-1)}
def iB(b:BS):Item:=if b.AR.length<2 then Item.zero else EU b.AR
end BS
def Cd.zero:Cd:=⟨0,[],[]⟩
namespace BS
noncomputable def EM(blk anc:Int)(far i:Nat)(b:BS)(l:Int)(m:Nat):BS×Int×Nat:=
 let x:=b.AR.getD i Item.zero
 let e:=EE x.node b.A4
 if e<0 then({b with AR:=A6 b.AR i},l,m)
 else if i+3<far then({b with A4:=A6 b.A4 e.toNat,AR:=A6 b.AR i},l,if e.toNat<m then m-1 else m)
 else
  let en:=b.A4.getD e.toNat Cd.zero
  let n:=b.FE en.name en.Ax 1
  let b1:=b.D9 en.name en.Ax 1 anc
  ({b1 with a:=b1.a.Fg n.node l 0,AR:=b1.AR.set i n,A4:=b1.A4.set e.toNat {en with node:=n.node}},n.node,if l=blk then e.toNat+1 else m)
noncomputable def Jk(blk anc:Int)(far k:Nat):Nat->BS×Int×Nat->BS×Int×Nat
 |0,s=>s
 |c+1,s=>Jk blk anc far k c (EM blk anc far (k+(c+1)) s.1 s.2.1 s.2.2)
noncomputable def Cj(A:Ar)(n:Int)(l:List Int):Ar:=l.foldl (λA x=>A.Fg n x 0) A
noncomputable def FO(fe:Cd)(blk anc:Int)(s:BS×Int×Nat):BS:=
 let b1:=s.1
 let pb:=b1.place anc
 let b2:={b1 with a:=b1.a.D0 s.2.1 pb.1 pb.2}
 let n:=b2.FE fe.name fe.Ax 1
 let b3:=b2.D9 fe.name fe.Ax 1 blk
 let ef:=EE fe.node b3.A4
 let mk:=if ef.toNat<s.2.2 then s.2.2 -1 else s.2.2
 let ac:=A6 b3.A4 ef.toNat
 let op:=CF fe.node b3.AR
 let ip:=En (AK (Bm blk) op+1) op.length
 {b3 with a:=(Cj b3.a n.node (b3.a.nd blk).AZ).Fg blk n.node 0,A4:=ac.take (Cl mk ac.length)++{fe with node:=n.node}::ac.drop (Cl mk ac.length),AR:=op.take ip++n::op.drop ip}
noncomputable def round(b:BS)(nm:As):Bool×BS:=
 let f:=FL nm b.A4
 if f<0 then(false,b.C1 nm) else
 let fe:=b.A4.getD f.toNat Cd.zero
 let k:=AK (Bm fe.node) b.AR
 if k<0 then(false,{b with A4:=A6 b.A4 f.toNat}) else
 if k=0\/I1 (Bm fe.node) (IH 1) b.AR.reverse=false then(false,b) else
 let far:=Dz fe.node b.AR
 if far<0 then(false,{b with AR:=Gd fe.node b.AR,A4:=A6 b.A4 f.toNat}) else
 let blk:=(b.AR.getD far.toNat Item.zero).node
 let anc:=(b.AR.getD (k.toNat-1) Item.zero).node
 (true,FO fe blk anc (Jk blk anc far.toNat k.toNat (far.toNat-1 -k.toNat) (b,blk,f.toNat)))
noncomputable def DK:Nat->BS->As->BS
 |0,b,_=>b
 |n+1,b,nm=>let r:=b.round nm;if r.1 then DK n r.2 nm else r.2
noncomputable def Hp(b:BS)(nm:As):BS:=
 if Bp [nm] (EU b.AR)/\EE (EU b.AR).node b.A4<0 then b.P9 else DK 8 b nm
end BS
end Go.Am
end
