/- Lemmas -/
import Derived.Test.YtbnogamdhadfcaaGreatDoorT18
set_option linter.unusedVariables false
set_option linter.unusedSimpArgs false
section
namespace Go.Am
open Go
set_option maxRecDepth 100000
section
section
variable{α:Type}{z:Nat}
theorem D0{Au:List (List α)}(h:∀r∈Au,r.length=z):Au.flatten.length=Au.length*z:=by
 induction Au with
 |nil=>simp
 |cons q Au ih=>rw[Dc,Ao,h q (by simp),ih λr hr=>h r (by simp[hr]),Bf,BC];omega
theorem Xy{Au:List (List α)}(h:∀r∈Au,r.length=z):∀{k:Nat},Au.flatten.take (k*z)=(Au.take k).flatten:=by
 induction Au with
 |nil=>intro k;simp
 |cons q Au ih=>
  intro k;have hq:=h q (by simp);cases k with
  |zero=>simp
  |succ k=>rw[Dc,BC,Ez,Nat.add_comm,List.take_append,Az (by omega),hq,Nat.add_sub_cancel_left,ih λr hr=>h r (by simp[hr])];simp
theorem H6{Au:List (List α)}(h:∀r∈Au,r.length=z):∀{k:Nat},Au.flatten.drop (k*z)=(Au.drop k).flatten:=by
 induction Au with
 |nil=>intro k;simp
 |cons q Au ih=>
  intro k;have hq:=h q (by simp);cases k with
  |zero=>simp
  |succ k=>rw[Dc,BC,Ez,Nat.add_comm,List.drop_append,AY (by omega),hq,Nat.add_sub_cancel_left,ih λr hr=>h r (by simp[hr])];simp
theorem bG{Au:List (List α)}(h:∀r∈Au,r.length=z){k:Nat}(hk:k<Au.length)(q:List α):Au.flatten.take (k*z)++q++Au.flatten.drop (k*z+z)=(Au.set k q).flatten:=by
 have e:k*z+z=(k+1)*z:=by rw[BC,Ez]
 rw[e,Xy h,H6 h,BZ,if_pos hk];simp
theorem Xz{Au:List (List Aa)}(h:∀r∈Au,r.length=z):∀{n off:Nat},off+n<=Au.length->Cm Au.flatten z (off*z) n=(Au.drop off).take n:=by
 intro n;induction n with
 |zero=>intro off _;simp[Cm]
 |succ n ih=>
  intro off hl;rw[Cm];have e:off*z+z=(off+1)*z:=by rw[BC,Ez]
  rw[e,ih (by omega),H6 h];have hlt:off<Au.length:=by omega
  rw[AH hlt,Dc,CV (by rw[h _ (AI hlt)];exact Ac _),Az (by rw[h _ (AI hlt)];exact Ac _),aIc]
theorem xI{Au:List (List Aa)}(h:∀r∈Au,r.length=z):Cm Au.flatten z 0 Au.length=Au:=by have:=Xz h (n:=Au.length) (off:=0) (by omega);simpa using this
end
section
variable{h:Ag}{id z n:Nat}{Au:List (List Aa)}
theorem JJ(hr:∀r∈Au,r.length=z)(hc:h[id]?=some (.cells Au.flatten)):Kp h (.Ck id 0 Au.length z)=some (h.set id .CH,.sl z Au):=by unfold Kp;simp only[hc,BJ];rw[if_pos (by rw[D0 hr];exact Ac _),xI hr]
theorem DO{k:IntKind}{i:Nat}(hi:i<n):Aw (.EE z) [.Ck id 0 n z,.int k (i:Int)]=some (.ptr (some (id,i*z))):=by
 have:L4 (i:Int) n=some i:=by unfold L4;rw[if_pos (by omega)];rfl
 simp[Aw,elemOf,this]
theorem SY(hr:∀r∈Au,r.length=z)(hc:h[id]?=some (.cells Au.flatten)){i:Nat}(hi:i<Au.length){q:List Aa}(hq:q.length=z):Cd h z (.ptr (some (id,i*z))) (.agg q)=some (h.set id (.cells (Au.set i q).flatten)):=by
 simp only[Cd,hc,OM];have:i*z+z<=Au.flatten.length:=by rw[D0 hr];have:=EA z (show i+1<=Au.length by omega);rwa [BC,Ez] at this
 rw[<-bG hr hi];exact if_pos ⟨hq,this⟩
theorem bH(hr:∀r∈Au,r.length=z){i:Nat}{q:List Aa}(hq:q.length=z):∀r∈Au.set i q,r.length=z:=by
 intro r h;rcases Dk h with h|rfl
 .exact hr r h
 .exact hq
theorem Kd{α:Type}{f:α->List Aa}(hf:∀a,(f a).length=z)(l:List α):∀r∈l.map f,r.length=z:=by intro r h;obtain⟨a,_,rfl⟩:=Bl.1 h;exact hf a
theorem I0{s v:Aa}{b:Nat}(hs:s= .slnil\/s= .sl z [])(hv:AM z Au v)(hne:Au≠[])(hb:Au.length*b<=AT):IG h z b s v=some (h++[.cells Au.flatten],.Ck h.length 0 Au.length z):=by
 rcases hv with rfl|⟨rfl,hv⟩
 .cases Au with
  |nil=>exact absurd rfl hne
  |cons r Au=>rw[Bf] at hb;rcases hs with rfl|rfl<;>simp[IG,NL,hb]
 .exact absurd hv hne
theorem Oc{s v:Aa}{b:Nat}(hs:s= .slnil\/s= .sl z [])(hv:AM z [] v):IG h z b s v=some (h,s):=by rcases hv with rfl|⟨rfl,hv⟩<;>rcases hs with rfl|rfl<;>simp[IG,NL]
theorem gI{v:Aa}{b:Nat}(hv:AM z [] v):Fl h z b (.Ck id 0 n z) v=some (h,.Ck id 0 n z):=by rcases hv with rfl|⟨rfl,hv⟩<;>simp[Fl,Ft]
theorem IJ{v:Aa}{b:Nat}{r2:List (List Aa)}(hr:∀r∈Au,r.length=z)(hz:0<z)(hc:h[id]?=some (.cells Au.flatten))(hv:AM z r2 v)(hne:r2≠[])(hb:(Au.length+r2.length)*b<=AT):
  Fl h z b (.Ck id 0 Au.length z) v=some (h.set id .CH++[.cells (Au++r2).flatten],.Ck h.length 0 (Au.length+r2.length) z):=by
 rcases hv with rfl|⟨rfl,hv⟩
 .cases r2 with
  |nil=>exact absurd rfl hne
  |cons r r2=>
   have hl:=D0 hr;have h1:¬(0+(Au.length+(r::r2).length)*z<=Au.flatten.length):=by rw[hl,Bf,BJ,BC,BC];omega
   have h2:Au.flatten.take (Au.length*z)=Au.flatten:=Az (by rw[hl];exact Ac _);unfold Fl;simp only[Ft,BO,hc];rw[if_neg h1,if_pos ⟨trivial,by rw[hl];exact Ac _,hb⟩,h2,Wo]
 .exact absurd hv hne
end
end
section
section
end
def FB:List As:=[[100,100],[100,116],[108,105],aSX,aTa,[112],[114,98],[114,112],[114,116],[114,116,99]]
def I1:List As:=[aSN,aSY,aS7,[116,100],aS6,[116,104],aS8,[116,114]]
def JK:List As:=[[109,105],[109,110],[109,111],[109,115],[109,116,101,120,116]]
def ON:List As:=[aTl,aSP,aS9]
section
end
def D1(k:Int)(s:As):Bool:=
 if k=3 then decide (s=aSF\/s∈JK) else if k=2 then decide (s∈ON) else if k=1 then decide (s∈Ml) else false
def sw(s:As)(t e:IT):List As->IT
 |[]=>e
 |c::cs=> .op (.str .eql) [.str s,.str c] λv=> .AJ v t (sw s t e cs)
theorem xJ{C:FJ}{Q:Post}{h:Ag}{s:As}{t e:IT}:∀{cs:List As},W C (sw s t e cs) Q h↔(s∈cs->W C t Q h)/\(s∉cs->W C e Q h)
 |[]=>by simp[sw]
 |c::cs=>by
  simp only[sw,QK,YA,Mk,KQ,QL,AP,not_or];rw[xJ];by_cases hc:s=c;·simp[hc]
  .simp[hc]
theorem LV{C:FJ}{f:FuncId}{args:List Aa}{r:Aa}:JI C f args r↔W C (B5 C f args) (λx vs _=>x= .ret/\vs=[r]) []:=by
 unfold JI Ev;constructor;·exact λh=>W.mono h λ_ _ _ ⟨h1,r,h2,h3⟩=>⟨h1,by rw[h2,h3]⟩
 .exact λh=>W.mono h λ_ _ _ ⟨h1,h2⟩=>⟨h1,r,h2,rfl⟩
section
variable{Q:Post}{h:Ag}{k:Aa->IT}{s:As}
end
section
variable{Q:Post}{h:Ag}{k:Aa->IT}{s:As}{n:Int}
end
section
variable{Q:Post}{h:Ag}{k:Aa->IT}{s:As}{n:Int}
end
end
section
theorem Pu{cur:As}:C4 cur []=[cur]:=by unfold C4;rfl
theorem Od{cur r:As}{c:UInt8}:C4 cur (c::r)=if c=32 then cur::C4 [] r else C4 (cur++[c]) r:=by rw[C4]
def FC(l s:As):Bool:=decide (s≠[]/\(32:UInt8)∉s/\s∈C4 [] l)
theorem bI{s:As}{a n:Nat}(ha:a<=n)(hn:n<s.length):(s.take (n+1)).drop a=(s.take n).drop a++[s[n]]:=by rw[Av hn,TL (by simp;omega)]
end
section
theorem DV{l:As}{ws:List As}{s:As}(h1:C4 [] l=ws)(h2:ws.all (λw=> !w.isEmpty&& !w.contains 32)=true):FC l s=decide (s∈ws):=by
 unfold FC;rw[h1,D4];refine⟨λh=>h.2.2,λh=>⟨?_,?_,h⟩⟩;·have:=EL.1 h2 s h;rintro rfl;simp at this
 .have:=EL.1 h2 s h;intro h3;simp[h3] at this
section
variable{Q:Post}{h:Ag}{k:Aa->IT}{s:As}
theorem gJ:FC aSy s=decide (s∈Ml):=DV (by decide+kernel) (by decide+kernel)
theorem YC:FC aSS s=decide (s∈JK):=DV (by decide+kernel) (by decide+kernel)
theorem bJ:FC aSH s=decide (s∈ON):=DV (by decide+kernel) (by decide+kernel)
theorem gK:FC aSD s=decide (s∈FB):=DV (by decide+kernel) (by decide+kernel)
theorem bK:FC aSE s=decide (s∈I1):=DV (by decide+kernel) (by decide+kernel)
def H7:List As:=C4 [] aSz
def Hi:List As:=C4 [] aSx
def M1:List As:=[aSL,aSI,aSC]
theorem rI:FC aSO s=decide (s∈M1):=DV (by decide+kernel) (by decide+kernel)
def Lb:List As:=[aSX,aTa]
theorem gL:FC aST s=decide (s∈Lb):=DV (by decide+kernel) (by decide+kernel)
def P4:List As:=[[111,108],[117,108]]
theorem xK:FC aTn s=decide (s∈P4):=DV (by decide+kernel) (by decide+kernel)
def OO:List As:=[aTj,aSN,aSL,aTg,aTk,aSI,[116,100],aSC,[116,104]]
theorem rJ:FC aSA s=decide (s∈OO):=DV (by decide+kernel) (by decide+kernel)
end
section
variable{Q:Post}{h:Ag}{k:Aa->IT}{s:As}{n:Int}
end
end
section
def H8(c:UInt8):UInt8:=if 65<=c.toNat/\c.toNat<=90 then c+32 else c
def Ff(s:As):As:=s.map H8
theorem QR{c:UInt8}(h:65<=c.toNat/\c.toNat<=90):((H8 c).toNat:Int)=(c.toNat:Int)+32:=by
 unfold H8;rw[if_pos h,UInt8.toNat_add];have:UInt8.toNat 32=32:=by decide
 rw[this];omega
theorem M2{c:UInt8}(h:¬(65<=c.toNat/\c.toNat<=90)):H8 c=c:=by unfold H8;rw[if_neg h]
theorem P5{s:As}{n:Nat}(hn:n<s.length):Ff (s.take (n+1))=Ff (s.take n)++[H8 s[n]]:=by rw[Av hn];unfold Ff;rw[BE];rfl
def Ns(b:UInt8):Aa:= .int .u8 (b.toNat:Int)
def GR(s:As)(n:Nat):As:=Ff (s.take n)++s.drop n
theorem U6(s:As)(n:Nat):(GR s n).length=s.length:=by simp[GR,Ff];omega
theorem U7{s:As}{n:Nat}(hn:n<s.length):(GR s n)[n]?=some s[n]:=by unfold GR Ff;rw[A5 (by simp;omega)];simp only[Ah,Al,Co (WU hn),CY];rw[AH hn];rfl
theorem QS{s:As}{n:Nat}(hn:n<s.length):GR s (n+1)=(GR s n).set n (H8 s[n]):=by
 unfold GR;rw[P5 hn,BP _ _ (by simp[Ff];omega)];have e:n-(Ff (s.take n)).length=0:=by simp[Ff];omega
 rw[e,AH hn,List.set_cons_zero,Ax];rfl
theorem bL(s:As):GR s s.length=Ff s:=by simp[GR,Ff]
theorem xL{α:Type}{l:List α}{i:Nat}{v:α}(h:l[i]?=some v):l.set i v=l:=by
 apply List.ext_getElem?;intro j;rw[List.getElem?_set];split
 .rename_i e;subst e;split;·exact h.symm
  .rename_i hl;rw[E3 (by omega)]
 .rfl
theorem gM{cs:List Aa}{i:Nat}{v:Aa}(h:cs[i]?=some v):A9 [.cells cs] none (.ptr (some (0,i)))=some v:=by simpa[A9] using h
theorem J0{α:Type}{l:List α}{i:Nat}{v:α}(h:i<l.length):l.take i++v::l.drop (i+1)=l.set i v:=by rw[BZ,if_pos h]
theorem bM{cs:List Aa}{i:Nat}{v:Aa}(h:i<cs.length)(hv:v.cells=[v]):Cd [.cells cs] 1 (.ptr (some (0,i))) v=some [.cells (cs.set i v)]:=by simp only[Cd,hv,JR,Bc];rw[if_pos ⟨trivial,by omega⟩,<-J0 h];simp
theorem Oe(s:As):∀(n o:Nat),o+n=s.length->Cm (s.map Ns) 1 o n=B1 (s.drop o)
 |0,o,h=>by rw[AY (by omega)];rfl
 |n+1,o,h=>by
  have ho:o<s.length:=by omega
  have e:(s.map Ns).drop o=Ns s[o]::(s.map Ns).drop (o+1):=by rw[AH (by simpa using ho)];simp
  rw[Cm,Oe s n (o+1) (by omega),AH ho,e];rfl
end
section
def Cb(name:As):List As->As
 |[]=>name
 |w::ws=>if Ff w=name then w else Cb name ws
def CI(w:As):List Aa:=[.str w]
def KR:As:=aSz
def Mm:As:=aSx
theorem U8:C4 [] KR=H7:=by decide+kernel
theorem U9:C4 [] Mm=Hi:=by decide+kernel
end
section
structure AU where
 A0:Int
 name:As
 value:As
 deriving DecidableEq
def AU.row(a:AU):List Aa:=[.int .i64 a.A0,.str a.name,.str a.value]
structure Item where
 node:Int
 A0:Int
 name:As
 Nt:Bool
 deriving DecidableEq
def Item.row(a:Item):List Aa:=[.int .i64 a.node,.int .i64 a.A0,.str a.name,.bool a.Nt]
def IK(ns:List As)(v:Aa):Prop:=AM 1 (ns.map CI) v
def Bz(l:List AU)(v:Aa):Prop:=AM 3 (l.map AU.row) v
def BM(l:List Item)(v:Aa):Prop:=AM 4 (l.map Item.row) v
def lL(l:List AU):Prop:=l.length<=12/\∀x∈l,x.name.length<=60/\x.value.length<=200
instance(l:List AU):Decidable (lL l):=by unfold lL;infer_instance
def xM(l:List As):Prop:=l.length<=12/\∀x∈l,x.length<=60
instance(l:List As):Decidable (xM l):=by unfold xM;infer_instance
def lM(l:List Item):Prop:=l.length<=60/\∀x∈l,x.name.length<=60
instance(l:List Item):Decidable (lM l):=by unfold lM;infer_instance
end
section
def Ca{α:Type}(p:α->Bool)(n:Nat):List α->Int
 |[]=> -1
 |a::l=>if p a then(n:Int) else Ca p (n+1) l
theorem GS{α:Type}{p:α->Bool}:∀{l:List α} {k:Nat},(Ca p k l= -1/\l.find? p=none)\/∃(n:Nat) (a:α),Ca p k l=((k+n:Nat):Int)/\l[n]?=some a/\l.find? p=some a
 |[],k=> .inl ⟨rfl,rfl⟩
 |a::l,k=>by
  unfold Ca;by_cases h:p a=true;·exact .inr ⟨0,a,by rw[if_pos h];rfl,rfl,by simp[h]⟩
  .rw[if_neg h];rcases GS (p:=p) (l:=l) (k:=k+1) with⟨h1,h2⟩|⟨n,b,h1,h2,h3⟩
   .exact .inl ⟨h1,by simp[h,h2]⟩
   .exact .inr ⟨n+1,b,by rw[h1];congr 1;omega,by simpa using h2,by simp[h,h3]⟩
def Nu(a:AU):Bool:=decide (a.A0=0/\a.name=aTd)
theorem SZ{s:As}(h:s.all (λc=> !(65<=c.toNat&&c.toNat<=90))=true):Ff s=s:=by
 unfold Ff;conv=>rhs;rw[<-List.map_id s]
 apply List.map_congr_left;intro c hc;have:=EL.1 h c hc;refine M2 λh2=>?_;simp[h2.1,h2.2] at this
abbrev aEk:As:=aSF
abbrev lN:As:=aTb
abbrev YD:As:=aSK
def EJ(n:Int)(s:As)(l:List AU):Bool:=
 if n=2 then D1 2 s else if n≠3 then false else if s≠aEk then false else match l.find? Nu with
  |none=>false
  |some a=>decide (Ff a.value=lN\/Ff a.value=YD)
end
section
section
variable{α:Type}{f:α->List Aa}{l l2:List α}{v v2:Aa}{z b:Nat}{k k2:IntKind}
theorem AM.Cp(hv:AM z (l.map f) v):Aw (.len false) [v]=some (.int .i64 (l.length:Int)):=by have:=AM.len hv;rwa [Ah] at this
theorem AM.BA(hv:AM z (l.map f) v){n:Nat}(hn:n<l.length):Aw (.EE z) [v,.int k (n:Int)]=some (.CB (f l[n])):=by have:=AM.EE hv (k:=k) (n:=n) (by simpa using hn);simpa using this
theorem AM.Lc(hv:AM z (l.map f) v){n:Nat}(hn:n<=l.length):∃u,Aw (.Hv z false false true) [v,.int k (n:Int)]=some u/\AM z ((l.take n).map f) u:=by
 rcases hv with rfl|⟨rfl,h⟩
 .have e1:EM (n:Int) (l.map f).length=some n:=by unfold EM;rw[Ah,if_pos (by omega)];rfl
  refine⟨.sl z ((l.map f).take n),?_,.inl (by rw[HV])⟩;simp only[Aw,Ja,DJ,e1,BT,and_self,BO,Qg]
 .have:l=[]:=by simpa using h
  subst this;have:n=0:=by simpa using hn
  subst this;exact⟨.slnil,rfl,.inr ⟨rfl,rfl⟩⟩
theorem AM.QT(hv:AM z (l.map f) v){n:Nat}(hn:n<=l.length):∃u,Aw (.Hv z false true false) [v,.int k (n:Int)]=some u/\AM z ((l.drop n).map f) u:=by
 rcases hv with rfl|⟨rfl,h⟩
 .have e1:EM (n:Int) (l.map f).length=some n:=by unfold EM;rw[Ah,if_pos (by omega)];rfl
  refine⟨.sl z ((l.map f).drop n),?_,.inl (by rw[NG])⟩;simp only[Aw,Ja,DJ,e1,BT,and_self,BO,Bu]
 .have:l=[]:=by simpa using h
  subst this;have:n=0:=by simpa using hn
  subst this;exact⟨.slnil,rfl,.inr ⟨rfl,rfl⟩⟩
theorem AM.YE(hv:AM z (l.map f) v)(UD:AM z (l2.map f) v2)(hb:(l.length+l2.length)*b<=AT):∃u,Aw (.append z b) [v,v2]=some u/\AM z ((l++l2).map f) u:=by obtain⟨u,e,hu⟩:=AM.HB hv UD (b:=b) (by simpa using hb);exact⟨u,e,by rwa [BE]⟩
theorem AM.Gk(UD:AM z (l2.map f) v2)(hb:l2.length*b<=AT):∃u,Aw (.append z b) [.slnil,v2]=some u/\AM z (l2.map f) u:=by obtain⟨u,e,hu⟩:=AM.HB (v:= .slnil) (r:=[]) .nil UD (b:=b) (by simpa using hb);exact⟨u,e,by simpa using hu⟩
theorem AM.Jg{a:α}(hv:AM z (l.map f) v)(hb:(l.length+1)*b<=AT):Aw (.append z b) [v,.sl z [f a]]=some (.sl z ((l++[a]).map f)):=by rw[AM.xG hv (by simpa using hb)];simp
end
theorem CK{a b:Int}(h1: -9223372036854775808<=a-b)(h2:a-b<9223372036854775808):Aw (.int .sub) [.int .i64 a,.int .i64 b]=some (.int .i64 (a-b)):=by rw[gH,wrap_i64 h1 h2]
theorem OP{a b:Int}(h1: -9223372036854775808<=a+b)(h2:a+b<9223372036854775808):Aw (.int .add) [.int .i64 a,.int .i64 b]=some (.int .i64 (a+b)):=by rw[Yz,wrap_i64 h1 h2]
def Item.zero:Item:=⟨0,0,[],false⟩
theorem Item.Cq{a:Item}:a.row.length=4:=rfl
theorem Item.g0{a:Item}{d:Aa}:a.row.getD 0 d= .int .i64 a.node:=rfl
theorem Item.g1{a:Item}{d:Aa}:a.row.getD 1 d= .int .i64 a.A0:=rfl
theorem Item.g2{a:Item}{d:Aa}:a.row.getD 2 d= .str a.name:=rfl
theorem Item.g3{a:Item}{d:Aa}:a.row.getD 3 d= .bool a.Nt:=rfl
theorem Item.u_{a:Item}:a.row[0]?=some (.int .i64 a.node):=rfl
theorem Item.GA{a:Item}:a.row.take 4=a.row:=rfl
theorem Item.bN{a:Item}:a.row.drop 1=[.int .i64 a.A0,.str a.name,.bool a.Nt]:=rfl
theorem Item.vd{a:Item}:a.row.drop 2=[.str a.name,.bool a.Nt]:=rfl
theorem Item.ve{a:Item}:a.row.drop 3=[.bool a.Nt]:=rfl
theorem Item.NB{a:Item}:[Aa.int .i64 a.node,.int .i64 a.A0,.str a.name,.bool a.Nt]=a.row:=rfl
theorem Item.fill{a:Item}:AK [.int .i64 0,.int .i64 0,.str [],.bool false] ([(0,1),(1,1),(2,1),(3,1)].zip a.row)=some a.row:=rfl
theorem EC:type_of%(And.intro @Item.fill (And.intro @Item.Cq (And.intro @Item.g0 (And.intro @Item.g1 (And.intro @Item.g2 (And.intro @Item.g3 (And.intro @Item.u_ (And.intro @Item.GA (And.intro @Item.bN (And.intro @Item.vd (And.intro @Item.ve (And.intro @Item.NB (And.intro @B9 (@Bv.{0})))))))))))))):=And.intro @Item.fill (And.intro @Item.Cq (And.intro @Item.g0 (And.intro @Item.g1 (And.intro @Item.g2 (And.intro @Item.g3 (And.intro @Item.u_ (And.intro @Item.GA (And.intro @Item.bN (And.intro @Item.vd (And.intro @Item.ve (And.intro @Item.NB (And.intro @B9 (@Bv.{0})))))))))))))
def GB(l:List Item)(i:Int):Item:=if 0<=i then l.getD i.toNat Item.zero else Item.zero
def EW(l:List Item):Item:=GB l ((l.length:Int)-1)
def AL{α:Type}(q:α->Bool)(l:List α):Int:=match l.reverse.findIdx? q with
 |some k=>(l.length:Int)-1 -k
 |none=> -1
theorem I2{α:Type}{q:α->Bool}:AL q []= -1:=rfl
theorem H9{α:Type}{q:α->Bool}{l:List α}{a:α}:AL q (l++[a])=if q a then(l.length:Int) else AL q l:=by
 unfold AL;rw[Nk,Qi,Ru,List.findIdx?_cons];by_cases h:q a=true;·simp only[h,BO,Ao,Bc];omega
 .simp only[h,Ef,C2,Ao,Bc];cases List.findIdx? q l.reverse with
  |none=>rfl
  |some k=>simp only[BT];omega
theorem Gb{α:Type}{q:α->Bool}{l:List α}{n:Nat}(hn:n<l.length):AL q (l.take (n+1))=if q l[n] then(n:Int) else AL q (l.take n):=by rw[Av hn,H9,Al,Co (WU hn)]
theorem CR{α:Type}{q:α->Bool}{l:List α}:(AL q l= -1/\∀a∈l,q a=false)\/∃(n:Nat) (hn:n<l.length),AL q l=(n:Int)/\q l[n]=true/\∀m (hm:m<l.length),n<m->q l[m]=false:=by
 have key:∀r:List α,(AL q r.reverse= -1/\∀a∈r.reverse,q a=false)\/∃(n:Nat) (hn:n<r.reverse.length),AL q r.reverse=(n:Int)/\q r.reverse[n]=true/\∀m (hm:m<r.reverse.length),n<m->q r.reverse[m]=false:=by
  intro r;induction r with
  |nil=>exact .inl ⟨rfl,by simp⟩
  |cons a r ih=>
   rw[FQ,H9];by_cases h:q a=true;·refine .inr ⟨r.reverse.length,by simp,by rw[if_pos h],by simp[h],λm hm hlt=>?_⟩;simp at hm hlt;omega
   .rw[if_neg h];rcases ih with⟨h1,h2⟩|⟨n,hn,h1,h2,h3⟩
    .exact .inl ⟨h1,λb hb=>by
      rcases Ap.1 hb with hb|hb
      .exact h2 b hb
      .simp at hb;subst hb;simpa using h⟩
    .refine .inr ⟨n,by simp at hn⊢;omega,h1,by rw[GL hn];exact h2,λm hm hlt=>?_⟩;by_cases Tl:m<r.reverse.length;·rw[GL Tl];exact h3 m Tl hlt
     .have:m=r.reverse.length:=by simp at hm Tl⊢;omega
      subst this;simpa using h
 have:=key l.reverse;rwa [GZ] at this
def At(h:Ag)(id o:Nat)(v:Aa):Prop:=∃cs,h[id]?=some (.cells cs)/\cs[o]?=some v
def put(h:Ag)(id o:Nat)(u:Aa):Ag:=match h[id]? with
 |some (.cells cs)=>h.set id (.cells (cs.set o u))
 |_=>h
section
variable{h t:Ag}{id o:Nat}{u v w:Aa}
theorem Hp{cs:List Aa}(hc:h[id]?=some (.cells cs)):put h id o u=h.set id (.cells (cs.set o u)):=by unfold put;rw[hc]
theorem IE:(put h id o u).length=h.length:=by unfold put;split<;>simp
theorem At.lt(ha:At h id o v):id<h.length:=by obtain⟨cs,hc,_⟩:=ha;exact(Ae.1 hc).1
theorem At.load(ha:At h id o v):A9 h none (.ptr (some (id,o)))=some v:=by obtain⟨cs,hc,e⟩:=ha;simp only[A9,hc,Dz,e]
theorem At.store(ha:At h id o v)(hu:u.cells=[u]):Cd h 1 (.ptr (some (id,o))) u=some (put h id o u):=by
 obtain⟨cs,hc,e⟩:=ha;have hl:=(Ae.1 e).1;rw[Hp hc];simp only[Cd,hc,hu,Bc,LZ];have e2:cs.set o u=cs.take o++[u]++cs.drop (o+1):=by rw[BZ,if_pos hl];simp
 rw[if_pos (show o+1<=cs.length by omega),e2]
theorem At.put(ha:At h id o v):At (put h id o u) id o u:=by obtain⟨cs,hc,e⟩:=ha;have hl:=(Ae.1 e).1;have hi:=(Ae.1 hc).1;rw[Hp hc];exact⟨cs.set o u,by simp[hi],by simp[hl]⟩
theorem At.same(ha:At h id o v):Am.put h id o v=h:=by obtain⟨cs,hc,e⟩:=ha;obtain⟨hl,e⟩:=Ae.1 e;obtain⟨hi,e2⟩:=Ae.1 hc;rw[Hp hc,<-e,Rv,<-e2,Rv]
theorem YF:Am.put (Am.put h id o u) id o w=Am.put h id o w:=by
 cases hc:h[id]? with
 |none=>
  have e:∀u,Am.put h id o u=h:=λu=>by unfold Am.put;rw[hc]
  rw[e,e]
 |some x=>cases x with
  |cells cs=>have hi:=(Ae.1 hc).1;rw[Hp hc,Hp hc,Hp (cs:=cs.set o u) (by simp[hi])];simp
  |_=>
   have e:∀u,Am.put h id o u=h:=λu=>by unfold Am.put;rw[hc]
   rw[e,e]
theorem At.HB(ha:At h id o v):At (h++t) id o v:=by obtain⟨cs,hc,e⟩:=ha;exact⟨cs,by rw[Ad (Ae.1 hc).1];exact hc,e⟩
theorem YG(ha:At h id o v):Am.put (h++t) id o u=Am.put h id o u++t:=by have hi:=ha.lt;obtain⟨cs,hc,e⟩:=ha;rw[Hp hc,Hp (by rw[Ad hi];exact hc),List.set_append_left _ _ hi]
theorem B4{i:Nat}(hn:i≠id):(Am.put h id o u)[i]?=h[i]?:=by
 unfold Am.put;split;·rw[Af (DS hn)]
 .rfl
end
def tY(h:Ag)(p:Aa)(l:List Item):Prop:=(p= .ptr none/\l=[])\/∃id o v,p= .ptr (some (id,o))/\At h id o v/\BM l v
theorem Hj{l:List Item}{n:Nat}(hn:n<l.length):GB l (n:Int)=l[n]:=by
 have:(0:Int)<=(n:Int):=by omega
 simp[GB,this,hn]
theorem M3{l:List Item}{i:Int}(h:i<0\/(l.length:Int)<=i):GB l i=Item.zero:=by
 unfold GB;rcases h with h|h
 .rw[if_neg (by omega)]
 .rw[if_pos (by omega),AE,E3 (by omega)];rfl
section
variable{h:Ag}{p:Aa}{l:List Item}
theorem iz{s:As}{ws:List As}:decide (0<=Ca (λw=>decide (s=w)) 0 ws)=decide (s∈ws):=by
 rcases GS (p:=λw=>decide (s=w)) (l:=ws) (k:=0) with⟨h1,h2⟩|⟨n,a,h1,h2,h3⟩
 .rw[h1,D4];have:=ZA.1 h2;exact⟨λh=>by omega,λh=>absurd (show s=s from rfl) (by simpa using this s h)⟩
 .rw[h1,D4];have e:s=a:=by simpa using List.find?_some h3
  have:a∈ws:=CE h2;refine⟨λ_=>e▸this,λ_=>by omega⟩
def Bq(ws:List As)(a:Item):Bool:=decide (a.A0=1/\a.name∈ws)
theorem CS{ws:List As}:IK ws (.sl 1 (ws.map CI)):= .mk
def IL(n:Int)(a:Item):Bool:=
 if n=4 then Bq M1 a else if n=5 then !Bq Lb a else if a.A0=3\/a.A0=2 then D1 a.A0 a.name
 else Bq OO a||(decide (n=2)&&Bq P4 a)||(decide (n=3)&&Bq [aSJ] a)
theorem DE{ws:List As}{args:List Aa}(e:args=ws.map Aa.str)(h:ws.length<=16777216):Aw (.By 1) args=some (.sl 1 (ws.map CI)):=by
 subst e;have e1:(ws.map Aa.str).all (λa=>a.cells.length==1)=true:=by simp
 have e2:(ws.map Aa.str).map (·.cells)=ws.map CI:=by simp[CI]
 rw[lK,e1,e2];simp[h]
theorem gN:Aw (.By 1) [S aSL,S aSI,S aSC]=some (.sl 1 (M1.map CI)):=DE (ws:=M1) rfl (by decide)
theorem bO:Aw (.By 1) [S aSX,S aTa]=some (.sl 1 (Lb.map CI)):=DE (ws:=Lb) rfl (by decide)
theorem rK:Aw (.By 1) [S [111,108],S [117,108]]=some (.sl 1 (P4.map CI)):=DE (ws:=P4) rfl (by decide)
theorem gO:Aw (.By 1) [S aTj,S aSN,S aSL,S aTg,S aTk,S aSI,S [116,100],S aSC,S [116,104]]=some (.sl 1 (OO.map CI)):=DE (ws:=OO) rfl (by decide)
theorem rL:Aw (.By 1) [S aSJ]=some (.sl 1 ([aSJ].map CI)):=DE (ws:=[aSJ]) rfl (by decide)
def I6{α:Type}(q e:α->Bool):List α->Bool
 |[]=>false
 |a::r=>if q a then true else if e a then false else I6 q e r
theorem gP{α:Type}{q e:α->Bool}(l:List α)(b:Bool):(if h:0<=AL (λa=>q a||e a) l/\(AL (λa=>q a||e a) l).toNat<l.length then q (l[(AL (λa=>q a||e a) l).toNat]'h.2) else false)=I6 q e l.reverse:=by
 have key:∀r:List α,(if h:0<=AL (λa=>q a||e a) r.reverse/\(AL (λa=>q a||e a) r.reverse).toNat<r.reverse.length then q (r.reverse[(AL (λa=>q a||e a) r.reverse).toNat]'h.2) else false)=I6 q e r:=by
  intro r;induction r with
  |nil=>simp[I6,I2]
  |cons a r ih=>
   simp only[FQ,I6];have e0:=H9 (q:=λa=>q a||e a) (l:=r.reverse) (a:=a);by_cases hq:q a=true
   .rw[if_pos (by simp[hq])] at e0;have e1:(AL (λa=>q a||e a) (r.reverse++[a])).toNat=r.reverse.length:=by rw[e0];omega
    simp only[e1];rw[dif_pos ⟨by rw[e0];omega,by simp⟩];simp[hq]
   .by_cases he:e a=true
    .rw[if_pos (by simp[he])] at e0;have e1:(AL (λa=>q a||e a) (r.reverse++[a])).toNat=r.reverse.length:=by rw[e0];omega
     simp only[e1];rw[dif_pos ⟨by rw[e0];omega,by simp⟩];simp[hq,he]
    .rw[if_neg (by simp[hq,he])] at e0;simp only[hq,he,Ef,C2,<-ih,e0];rcases CR (q:=λa=>q a||e a) (l:=r.reverse) with⟨h1,h2⟩|⟨n,hn,h1,h2,h3⟩
     .simp[h1]
     .have c1:(0:Int)<=(n:Int)/\(n:Int).toNat<r.reverse.length:=⟨by omega,by simpa using hn⟩;have c2:(0:Int)<=(n:Int)/\(n:Int).toNat<(r.reverse++[a]).length:=⟨by omega,by simp at hn⊢;omega⟩;simp only[h1];rw[dif_pos c1,dif_pos c2,GL c1.2]
 have:=key l.reverse;rwa [GZ] at this
theorem IK.cells{v:Aa}{ws:List As}(hv:IK ws v):v.cells=[v]:=AM.cells hv
def Bp(node:Int)(a:Item):Bool:=decide (a.node=node)
end
end
section
section
variable{h:Ag}{p v:Aa}{l:List Item}
theorem XA{n s:Int}{t:As}{b:Bool}:Aw (.Bs [I 0,I 0,S [],ff] [(0,1),(1,1),(2,1),(3,1)]) [.int .i64 n,.int .i64 s,.str t,.bool b]=some (.agg (Item.row ⟨n,s,t,b⟩)):=by simp only[AA];rfl
theorem Ld{a:Item}:Aw (.By 4) [.agg a.row]=some (.sl 4 [a.row]):=La rfl (by decide)
def KJ(h:Ag)(id o:Nat)(l:List Item):Prop:=∃v,At h id o v/\BM l v
theorem KJ.at{id o:Nat}(hs:KJ h id o l):tY h (.ptr (some (id,o))) l:=let⟨v,h1,h2⟩:=hs; .inr ⟨id,o,v,rfl,h1,h2⟩
theorem BM.cells(hv:BM l v):v.cells=[v]:=AM.cells hv
def Gc(a:Item):Bool:=D1 a.A0 a.name
def DA(node:Int)(l:List Item):Int:=if AL (Bp node) l<0 then -1 else match(l.drop ((AL (Bp node) l).toNat+1)).findIdx? Gc with
 |some k=>AL (Bp node) l+1+k
 |none=> -1
def Ep{α:Type}(q:α->Bool)(l:List α)(n:Nat):Int:=match(l.drop n).findIdx? q with
 |some k=>(n:Int)+k
 |none=> -1
theorem Pv{α:Type}{q:α->Bool}{l:List α}{n:Nat}(h:l.length<=n):Ep q l n= -1:=by unfold Ep;rw[AY h];rfl
theorem QU{α:Type}{q:α->Bool}{l:List α}{n:Nat}(h:n<l.length):Ep q l n=if q l[n] then(n:Int) else Ep q l (n+1):=by
 unfold Ep;rw[AH h,List.findIdx?_cons];by_cases hq:q l[n]=true;·simp only[hq,BO];omega
 .simp only[hq,C2,Ef];cases List.findIdx? q (l.drop (n+1)) with
  |none=>rfl
  |some k=>simp only[BT];omega
theorem HN{node:Int}:DA node l=if AL (Bp node) l<0 then -1 else Ep Gc l ((AL (Bp node) l).toNat+1):=by
 unfold DA Ep;by_cases h:AL (Bp node) l<0;·simp only[h,BO]
 .simp only[h,Ef];cases(l.drop ((AL (Bp node) l).toNat+1)).findIdx? Gc with
  |none=>rfl
  |some k=>simp only;omega
def Va{α:Type}(q e:α->Bool):List α->Bool
 |[]=>false
 |a::r=>(q a&& !(r.any e))||Va q e r
theorem S0{α:Type}{q e:α->Bool}{a:α}:∀{r:List α},I6 q e (r++[a])=((q a&& !(r.any e))||I6 q e r)
 |[]=>by by_cases h:q a=true<;>simp[I6,h]
 |b::r=>by
  simp only[CC,I6,S0 (r:=r)];by_cases h1:q b=true;·simp[h1]
  .by_cases h2:e b=true<;>simp[h1,h2]
theorem bP{α:Type}{q e:α->Bool}:∀{l:List α},Va q e l=I6 q e l.reverse
 |[]=>rfl
 |a::l=>by rw[FQ,S0,Va,bP];simp
theorem I_{α:Type}{q e:α->Bool}(l:List α):(if AL q l<0 then false else !((l.drop ((AL q l).toNat+1)).any e))=I6 q e l.reverse:=by
 have key:∀r:List α,(if AL q r.reverse<0 then false else !((r.reverse.drop ((AL q r.reverse).toNat+1)).any e))=I6 q e r:=by
  intro r;induction r with
  |nil=>rfl
  |cons a r ih=>
   simp only[FQ,I6,H9];by_cases hq:q a=true;·simp only[hq,BO];rw[if_neg (by omega),AS,AY (by simp)];rfl
   .simp only[hq,Ef,C2,<-ih];rcases CR (q:=q) (l:=r.reverse) with⟨h1,h2⟩|⟨n,hn,h1,h2,h3⟩
    .simp[h1]
    .have i0:¬(n:Int)<0:=by omega
     rw[h1,if_neg i0,if_neg i0,AS,TL (by omega),List.any_append];cases he:e a<;>simp only[List.any_cons,List.any_nil,he,Bool.or_false,Bool.or_true,C2,Ef,BO,kC]
 have:=key l.reverse;rwa [GZ] at this
end
end
section
theorem Ev.ret{C:FJ}{f:FuncId}{args:List Aa}{h:Ag}{R:Aa->Ag->Prop}(hw:Ev C f args h R):∃r h',BI C f args h r h'/\R r h':=by obtain⟨n,x,vs,h',e,hx,r,hv,hR⟩:=hw;exact⟨r,h',⟨n,x,vs,h',e,hx,hv,rfl⟩,hR⟩
def Of(b a:Item->Bool):List Item->List Item
 |x::y::r=>if b x then x::y::r else if a x then y::r else Of b a (y::r)
 |r=>r
def Ds(b a:Item->Bool)(l:List Item):List Item:=(Of b a l.reverse).reverse
theorem rM{b a:Item->Bool}{l:List Item}(h:l.length<=1):Of b a l=l:=by
 match l with
 |[]=>rfl
 |[x]=>rfl
 |x::y::r=>simp at h
theorem Vb{b a:Item->Bool}{l:List Item}(h:l.length<=1):Ds b a l=l:=by unfold Ds;rw[rM (by simpa using h),GZ]
theorem XB{b a:Item->Bool}{l:List Item}{x:Item}(h:1<=l.length):Ds b a (l++[x])=if b x then l++[x] else if a x then l else Ds b a l:=by
 unfold Ds;rw[Nk,Qi,Ru];cases hr:l.reverse with
 |nil=>
  have:l=[]:=by simpa using hr
  subst this;simp at h
 |cons y r=>
  have hl:l=r.reverse++[y]:=by rw[<-GZ l,hr,FQ]
  rw[Of];by_cases h1:b x=true;·rw[if_pos h1,if_pos h1];rw[hl];simp
  .rw[if_neg h1,if_neg h1];by_cases h2:a x=true;·rw[if_pos h2,if_pos h2];rw[hl];simp
   .rw[if_neg h2,if_neg h2]
theorem XC{b a:Item->Bool}{l:List Item}{n:Nat}(hn:n+1<l.length):Ds b a (l.take (n+2))=if b l[n+1] then l.take (n+2) else if a l[n+1] then l.take (n+1) else Ds b a (l.take (n+1)):=by have e:l.take (n+2)=l.take (n+1)++[l[n+1]]:=Av hn;rw[e,XB (by rw[Al];omega)]
theorem OQ{b a:Item->Bool}:∀{l:List Item},(Ds b a l).length<=l.length:=by
 have key:∀r:List Item,(Of b a r).length<=r.length:=by
  intro r;induction r with
  |nil=>simp[Of]
  |cons x r ih=>
   cases r with
   |nil=>simp[Of]
   |cons y r=>
    rw[Of];split;·simp
    .split;·simp
     .exact Bt ih (by simp)
 intro l;have:=key l.reverse;simpa[Ds] using this
section
variable{h:Ag}{p v:Aa}{l:List Item}
theorem Vd{n:Nat}(hn:n<l.length):EW (l.take (n+1))=l[n]:=by
 have e:((l.take (n+1)).length:Int)-1=(n:Int):=by rw[Al];omega
 unfold EW;rw[e,Hj (by rw[Al];omega)];simp
theorem KJ.YH{id o:Nat}(hs:KJ h id o l):∃u,h=put h id o u/\BM l u:=by obtain⟨u,hc,hu⟩:=hs;exact⟨u,hc.same.symm,hu⟩
theorem KJ.lt{id o:Nat}(hs:KJ h id o l):∃v,At h id o v:=let⟨u,hc,_⟩:=hs;⟨u,hc⟩
theorem KJ.J_{id o:Nat}{u:Aa}(hlt:∃v,At h id o v)(hu:BM l u):KJ (put h id o u) id o l:=let⟨_,ha⟩:=hlt;⟨u,ha.put,hu⟩
def CD(_:Item):Bool:=false
def D2(s:As)(a:Item):Bool:=decide (a.A0≠1\/a.name∉FB\/a.name=s)
def Cs(a:Item):Bool:=decide (a.A0≠1\/¬(a.name∈I1\/a.name∈FB))
def Gd(node:Int)(l:List Item):List Item:=if AL (Bp node) l<0 then l else Ds CD (Bp node) l
def JL(l:List Item)(i:Int):List Item:=l.take (max 1 i.toNat)
theorem M4{q:Item->Bool}(l:List Item):Ds CD q l=JL l (AL q l):=by
 have key:∀r:List Item,Ds CD q r.reverse=JL r.reverse (AL q r.reverse):=by
  intro r;induction r with
  |nil=>rfl
  |cons x r ih=>
   rw[FQ,H9];rcases Oz r.length with h0|h0
   .have:r=[]:=tP.1 h0;subst this;by_cases hq:q x=true<;>simp[hq,JL,Ds,Of,I2]
   .have h1:1<=r.reverse.length:=by rw[Wq];omega
    rw[XB h1];by_cases hq:q x=true;·rw[if_neg (by simp[CD]),if_pos hq,if_pos hq];unfold JL;rw[AS,Nat.max_eq_right h1,CV (Ac _),Bu]
    .rw[if_neg (by simp[CD]),if_neg hq,if_neg hq,ih];unfold JL;rw[CV];rcases CR (q:=q) (l:=r.reverse) with⟨e1,_⟩|⟨n,hn,e1,_⟩<;>rw[e1]<;>omega
 have:=key l.reverse;rwa [GZ] at this
theorem S1{node:Int}(l:List Item):Gd node l=if AL (Bp node) l<0 then l else JL l (AL (Bp node) l):=by unfold Gd;rw[M4]
end
end
section
section
variable{h:Ag}{p v:Aa}{l:List Item}
theorem xN(l:List Item):∀r∈l.map Item.row,r.length=4:=Kd (f:=Item.row) (λa=>Item.Cq) l
theorem Pw{n:Nat}(h:n<=2000000000):n*40<=AT:=by have:AT=140737488355328:=rfl;omega
def A7{α:Type}(l:List α)(k:Nat):List α:=l.take k++l.drop (k+1)
def CG(node:Int)(l:List Item):List Item:=if AL (Bp node) l<1 then l else A7 l (AL (Bp node) l).toNat
def Er(i:Int)(n:Nat):Nat:=min (max i 1).toNat n
def Og(node:Int)(a:Item)(l:List Item):List Item:=if AL (Bp node) l<1 then l else l.set (AL (Bp node) l).toNat a
def YI(h:Ag)(l:List Item)(r:Aa)(h':Ag):Prop:=(l=[]/\r= .slnil/\h'=h)\/(l≠[]/\r= .Ck h.length 0 l.length 4/\h'=h++[.cells (l.map Item.row).flatten])
theorem i_(hv:BM l v)(hb:l.length<=1000000000):∃r h',IG h 4 40 .slnil v=some (h',r)/\YI h l r h':=by
 by_cases hne:l=[];·subst hne;exact⟨_,_,Oc (.inl rfl) hv,.inl ⟨rfl,rfl,rfl⟩⟩
 .have e3:=I0 (h:=h) (s:= .slnil) (z:=4) (b:=40) (.inl rfl) hv (by simpa using hne) (by rw[Ah];exact Pw (by omega));rw[Ah] at e3;exact⟨_,_,e3,.inr ⟨hne,rfl,rfl⟩⟩
theorem YI.KW{r:Aa}{h':Ag}(hc:YI h l r h'):∃u t,Kp h' r=some (h++t,u)/\BM l u:=by
 rcases hc with⟨rfl,rfl,rfl⟩|⟨hne,rfl,rfl⟩
 .exact⟨.slnil,[],by rw[Bv];rfl,.nil⟩
 .have c5:(h++[C6.cells (l.map Item.row).flatten])[h.length]?=some (.cells (l.map Item.row).flatten):=by simp
  have f1:=JJ (xN l) c5;rw[Ah] at f1;refine⟨.sl 4 (l.map Item.row),[.CH],?_,.mk⟩;rw[f1];congr 2
  rw[BP _ _ (Ac _)];simp
end
end
section
end
section
section
variable{h:Ag}{p v w:Aa}{l:List Item}{ws:List As}
theorem xO:JL l (-1)=JL l 1:=rfl
def Ek(s:As)(all:Bool)(a:Item):Bool:=if all then Cs a else D2 s a
end
end
section
def fT:List (As×Int×As):=[(aSR,4,aTi),(aSQ,4,aTh),(aSZ,4,aTp),(aS0,4,aTq),(aS1,4,aTr),(aSU,4,aS9),(aS2,4,aTs),(aS4,5,[108,97,110,103]),(aSV,5,aTo),(aSW,6,aSW),(aSM,6,aTc)]
def Ve(x:As×Int×As):Aa×Aa:=(.str x.1,.agg [.int .i64 x.2.1,.str x.2.2,.str []])
def ft(n:Nat):List (Aa×Aa):=(fT.take n).map Ve
theorem aEl:Nw aSR (.agg [.int .i64 4,.str aTi,.str []]) (ft 0)=some (ft 1):=by kernel_rfl
theorem aEm:Nw aSQ (.agg [.int .i64 4,.str aTh,.str []]) (ft 1)=some (ft 2):=by kernel_rfl
theorem aEn:Nw aSZ (.agg [.int .i64 4,.str aTp,.str []]) (ft 2)=some (ft 3):=by kernel_rfl
theorem aEo:Nw aS0 (.agg [.int .i64 4,.str aTq,.str []]) (ft 3)=some (ft 4):=by kernel_rfl
theorem aEp:Nw aS1 (.agg [.int .i64 4,.str aTr,.str []]) (ft 4)=some (ft 5):=by kernel_rfl
theorem aEq:Nw aSU (.agg [.int .i64 4,.str aS9,.str []]) (ft 5)=some (ft 6):=by kernel_rfl
theorem aEr:Nw aS2 (.agg [.int .i64 4,.str aTs,.str []]) (ft 6)=some (ft 7):=by kernel_rfl
theorem aEs:Nw aS4 (.agg [.int .i64 5,.str [108,97,110,103],.str []]) (ft 7)=some (ft 8):=by kernel_rfl
theorem aEt:Nw aSV (.agg [.int .i64 5,.str aTo,.str []]) (ft 8)=some (ft 9):=by kernel_rfl
theorem aEu:Nw aSW (.agg [.int .i64 6,.str aSW,.str []]) (ft 9)=some (ft 10):=by kernel_rfl
theorem K_:Nw aSM (.agg [.int .i64 6,.str aTc,.str []]) (ft 10)=some (ft 11):=by kernel_rfl
theorem gQ{h:Ag}{es:List (Aa×Aa)}{s:As}{v:Aa}:Sv (h++[.map es]) (.map (some h.length)) (.str s) v=(Nw s v es).map λes=>h++[.map es]:=by simp[Sv]
def DF(n:As):Option (Int×As):=(fT.find? λx=>decide (n=x.1)).map (·.2)
theorem Vf(n:As):∀l:List (As×Int×As),Ue n (l.map Ve)=some ((l.find? λx=>decide (n=x.1)).map λx=>(Ve x).2)
 |[]=>rfl
 |x::l=>by
  rw[Bm,I5,Ve,Ue];by_cases e:n=x.1;·rw[if_pos e,AD e];rfl
  .rw[if_neg e,AB e];exact Vf n l
theorem Lf{h:Ag}{n:As}:Sw (h++[.map (ft 11)]) (.agg [.int .i64 0,.str [],.str []]) true (.map (some h.length)) (.str n)=
  some (match DF n with|some (s,m)=> .tuple [.agg [.int .i64 s,.str m,.str []],.bool true]|none=> .tuple [.agg [.int .i64 0,.str [],.str []],.bool false]):=by
 have e:Uf (h++[.map (ft 11)]) (.map (some h.length)) (.str n)=Ue n (fT.map Ve):=by simp[Uf,ft,fT]
 rw[Sw,e,Vf,DF];cases fT.find? λx=>decide (n=x.1)<;>rfl
abbrev L_:As:=aS3
abbrev Tt:As:=aS5
def Jh(sp:Int)(n:As):As:=if sp=2 then Cb n Hi else if sp=3/\n=L_ then Tt else n
def CO(sp:Int)(a:AU):AU:=
 if sp=2\/sp=3 then match DF (Jh sp a.name) with
  |some (s,m)=>⟨s,m,a.value⟩
  |none=>⟨0,Jh sp a.name,a.value⟩
 else⟨0,a.name,a.value⟩
theorem QV(s:As):(Ff s).length=s.length:=by simp[Ff]
theorem Kv(n:As):∀ws,Cb n ws=n\/(Cb n ws∈ws/\Ff (Cb n ws)=n)
 |[]=> .inl rfl
 |w::ws=>by
  rw[Cb];split;·rename_i e;exact .inr ⟨List.mem_cons_self,e⟩
  .rcases Kv n ws with h|⟨h1,h2⟩
   .exact .inl h
   .exact .inr ⟨List.mem_cons_of_mem _ h1,h2⟩
theorem QW(n:As)(ws:List As):(Cb n ws).length=n.length:=by
 rcases Kv n ws with h|⟨_,h⟩
 .rw[h]
 .rw[<-QV,h]
theorem DQ{a b c:Aa}:Aw (.By 3) [.agg [a,b,c]]=some (.sl 3 [[a,b,c]]):=rfl
theorem AU.Cq{a:AU}:a.row.length=3:=rfl
theorem AU.GA{a:AU}:a.row.take 3=a.row:=rfl
section
variable{v:Aa}{l:List AU}{h:Ag}
theorem bQ{a b:AU}{neg:Bool}:Aw (.geq neg [.i,.s,.s]) [.agg a.row,.agg b.row]=some (.bool (decide (a=b) != neg)):=by
 rw[PZ];have:DC [.i,.s,.s] a.row b.row=some (decide (a=b)):=by simp only[DC,Ko,AU.row,BO,BF];cases a;cases b;simp only[AU.mk.injEq];rw[Bool.eq_iff_iff];simp
 rw[this];rfl
def KK:List As:=[aSR,aSQ,aSZ,aS0,aS1,aSU,aS2]
theorem ja{s:As}:FC aSB s=decide (s∈KK):=DV (by decide+kernel) (by decide+kernel)
theorem XD{k:IntKind}{s:As}{a z:Nat}(ha:a<=s.length):Aw (.Hv z true true false) [.str s,.int k (a:Int)]=some (.str (s.drop a)):=by
 have e1:EM (a:Int) s.length=some a:=by unfold EM;rw[if_pos (by omega)];rfl
 simp[Aw,Ja,DJ,e1]
abbrev bR:As:=aS4
abbrev Vg:As:=aSV
abbrev bS:As:=aSW
abbrev Vh:As:=aSM
theorem WK:∀s∈KK,6<=s.length/\DF s=some (4,s.drop 6):=by decide
theorem YJ{s:As}(h1:s∉KK)(h2:s≠bR)(h3:s≠Vg)(h4:s≠bS)(h5:s≠Vh):DF s=none:=by simp only[KK,AP,List.not_mem_nil,or_false,not_or] at h1;obtain⟨a1,a2,a3,a4,a5,a6,a7⟩:=h1;simp only[DF,fT,I5,List.find?_nil,AB a1,AB a2,AB a3,AB a4,AB a5,AB a6,AB a7,AB h2,AB h3,AB h4,AB h5,Option.map_none]
abbrev gR:As:=aTc
theorem Px(s:As):(s∈KK/\6<=s.length/\DF s=some (4,s.drop 6))\/(s∉KK/\((s=bR/\4<=s.length/\DF s=some (5,s.drop 4))\/(¬s=bR/\((s=Vg/\4<=s.length/\DF s=some (5,s.drop 4))\/(¬s=Vg/\((s=bS/\DF s=some (6,s))\/(¬s=bS/\((s=Vh/\DF s=some (6,gR))\/(¬s=Vh/\DF s=none))))))))):=by
 by_cases c1:s∈KK;·exact .inl ⟨c1,WK s c1⟩
 refine .inr ⟨c1,?_⟩;by_cases c2:s=bR;·subst c2;decide
 refine .inr ⟨c2,?_⟩;by_cases c3:s=Vg;·subst c3;decide
 refine .inr ⟨c3,?_⟩;by_cases c4:s=bS;·subst c4;decide
 refine .inr ⟨c4,?_⟩;by_cases c5:s=Vh;·subst c5;decide
 exact .inr ⟨c5,YJ c1 c2 c3 c4 c5⟩
theorem sl6{s:As}(h:6<=s.length):Aw (.Hv 0 true true false) [.str s,.int .i64 6]=some (.str (s.drop 6)):=XD h
theorem sl4{s:As}(h:4<=s.length):Aw (.Hv 0 true true false) [.str s,.int .i64 4]=some (.str (s.drop 4)):=XD h
end
end
section
structure Ce where
 node:Int
 name:As
 Ay:List AU
deriving DecidableEq
structure B0 where
 c:Ce
 v:Aa
 ok:Bz c.Ay v
def B0.row(e:B0):List Aa:=[.int .i64 e.c.node,.str e.c.name,e.v]
def C0(l:List B0)(v:Aa):Prop:=AM 3 (l.map B0.row) v
section
variable{e:B0}{d:Aa}
theorem B0.Cq:e.row.length=3:=rfl
theorem B0.g0:e.row.getD 0 d= .int .i64 e.c.node:=rfl
theorem B0.g1:e.row.getD 1 d= .str e.c.name:=rfl
theorem B0.g2:e.row.getD 2 d=e.v:=rfl
theorem B0.u_:e.row[0]?=some (.int .i64 e.c.node):=rfl
theorem B0.GA:e.row.take 3=e.row:=rfl
theorem B0.bN:e.row.drop 1=[.str e.c.name,e.v]:=rfl
theorem B0.NB:[Aa.int .i64 e.c.node,.str e.c.name,e.v]=e.row:=rfl
theorem B0.jb:Aw (.len false) [e.v]=some (.int .i64 (e.c.Ay.length:Int)):=AM.Cp e.ok
end
theorem AU.g0{a:AU}{d:Aa}:a.row.getD 0 d= .int .i64 a.A0:=rfl
theorem AU.g1{a:AU}{d:Aa}:a.row.getD 1 d= .str a.name:=rfl
theorem AU.g2{a:AU}{d:Aa}:a.row.getD 2 d= .str a.value:=rfl
theorem AU.NB{a:AU}:[Aa.int .i64 a.A0,.str a.name,.str a.value]=a.row:=rfl
theorem Oh{n:Nat}(h:n<=2000000000):n*48<=AT:=by have:AT=140737488355328:=rfl;omega
def RV(e:B0):Bool:=decide (e.c.node=0)
def Oi(n:Int)(e:B0):Bool:=decide (e.c.node=n)
def since(l:List B0):Int:=AL RV l+1
theorem rN:since []=0:=rfl
theorem gS{l:List B0}{e:B0}:since (l++[e])=if e.c.node=0 then(l.length:Int)+1 else since l:=by unfold since;rw[H9];by_cases h:e.c.node=0<;>simp[RV,h]
theorem Vi{l:List B0}{n:Nat}(hn:n<l.length):since (l.take (n+1))=if l[n].c.node=0 then(n:Int)+1 else since (l.take n):=by rw[Av hn,gS,Al,Co (WU hn)]
theorem IM(l:List B0):∃s:Nat,since l=(s:Int)/\s<=l.length/\(∀m (hm:m<l.length),s<=m->l[m].c.node≠0)/\(∀t,s=t+1->∃ht:t<l.length,l[t].c.node=0):=by
 rcases CR (q:=RV) (l:=l) with⟨h1,h2⟩|⟨n,hn,h1,h2,h3⟩
 .refine⟨0,by unfold since;rw[h1];rfl,AO _,λm hm _=>?_,λt ht=>by omega⟩;have:=h2 _ (AI hm);simpa[RV] using this
 .refine⟨n+1,by unfold since;rw[h1];rfl,hn,λm hm DY=>?_,λt ht=>?_⟩;·have:=h3 m hm (by omega);simpa[RV] using this
  .obtain rfl:t=n:=by omega
   exact⟨hn,by simpa[RV] using h2⟩
section
variable{h:Ag}{v:Aa}{l:List B0}{id:Nat}
def lO(name:As):List B0->Int
 |[]=> -1
 |e::t=>if e.c.node=0 then -1 else if e.c.name=name then(t.length:Int) else lO name t
def Mn(name:As)(l:List B0):Int:=lO name l.reverse
theorem P6{name:As}{n:Nat}(hn:n<l.length):Mn name (l.take (n+1))=if l[n].c.node=0 then -1 else if l[n].c.name=name then(n:Int) else Mn name (l.take n):=by rw[Av hn,Mn,Nk,Qi,Ru,lO,Wq,Al,Co (WU hn),Mn]
theorem rO{name:As}:Mn name []= -1:=rfl
theorem bT{name:As}{s:Nat}(hs:since l=(s:Int)):Mn name (l.take s)= -1:=by
 obtain⟨s',e,h1,h2,h3⟩:=IM l;obtain rfl:s=s':=by omega
 cases s with
 |zero=>rfl
 |succ t=>obtain⟨ht,h0⟩:=h3 t rfl;rw[P6 ht,if_pos h0]
def GC(node:Int)(l:List B0):Int:=if node=0 then -1 else AL (Oi node) l
end
section
variable{h:Ag}{v:Aa}{l:List AU}
def FN(a b:Ce):Bool:=decide (a.name=b.name/\a.Ay.length=b.Ay.length/\(∀x∈a.Ay,x∈b.Ay)/\∀x∈b.Ay,x∈a.Ay)
def WL(e:B0):Prop:=e.c.Ay.length<=1000000000
end
end
section
mutual
theorem Aa.QX:∀a:Aa,Aa.beq a a=true
 | .bool a=>by simp[Aa.beq]
 | .int k a=>by simp[Aa.beq]
 | .str a=>by simp[Aa.beq]
 | .ptr a=>by simp[Aa.beq]
 | .CB a=>by simp[Aa.beq,Aa.JM a]
 | .sl n a=>by simp[Aa.beq,Aa.Vj a]
 | .slnil=>by simp[Aa.beq]
 | .Ck a c d e=>by simp[Aa.beq]
 | .map a=>by simp[Aa.beq]
 | .func f a c=>by simp[Aa.beq,Aa.JM a,Aa.JM c]
 | .nilFunc=>by simp[Aa.beq]
 | .iface t a=>by simp[Aa.beq,Aa.QX a]
 | .nilIface=>by simp[Aa.beq]
 | .agg a=>by simp[Aa.beq,Aa.JM a]
 | .tuple a=>by simp[Aa.beq,Aa.JM a]
theorem Aa.JM:∀a:List Aa,Aa.Qm a a=true
 |[]=>by simp[Aa.Qm]
 |a::x=>by simp[Aa.Qm,Aa.QX a,Aa.JM x]
theorem Aa.Vj:∀a:List (List Aa),Aa.Qn a a=true
 |[]=>by simp[Aa.Qn]
 |a::x=>by simp[Aa.Qn,Aa.JM a,Aa.Vj x]
end
def RY(h:Ag)(id o:Nat)(l:List B0):Prop:=∃u,At h id o u/\C0 l u
theorem C0.cells{l:List B0}{v:Aa}(hv:C0 l v):v.cells=[v]:=AM.cells hv
theorem RY.lt{h:Ag}{id o:Nat}{l:List B0}(hs:RY h id o l):∃v,At h id o v:=let⟨u,hc,_⟩:=hs;⟨u,hc⟩
theorem LW(l:List B0):∀r∈l.map B0.row,r.length=3:=Kd (f:=B0.row) (λa=>B0.Cq) l
section
variable{h:Ag}{v:Aa}{l:List B0}{id:Nat}
theorem KS{r:List Aa}(h:r.length=3):Aw (.By 3) [.agg r]=some (.sl 3 [r]):=La (a:= .agg r) h (by decide)
theorem bU(n:Int)(l:List B0):GC n l= -1\/∃k:Nat,k<l.length/\GC n l=(k:Int):=by
 unfold GC;split;·exact .inl rfl
 .rcases CR (q:=Oi n) (l:=l) with⟨h1,_⟩|⟨k,hk,h1,_⟩
  .exact .inl h1
  .exact .inr ⟨k,hk,h1⟩
def YK:B0:=⟨⟨0,[],[]⟩,.slnil,.nil⟩
theorem xP:[I 0,S [],Aa.slnil]=YK.row:=rfl
def Cn(i:Int)(n:Nat):Nat:=min (max i 0).toNat n
def El(l:List B0):Nat:=(since l-1).toNat
end
end
section
def jc(e:Ce):List B0->Nat
 |[]=>0
 |x::t=>if x.c.node=0 then 0 else jc e t+(if FN x.c e=true then 1 else 0)
def gT(e:Ce):List B0->Int
 |[]=> -1
 |x::t=>if x.c.node=0 then -1 else if 0<=gT e t then gT e t else if FN x.c e=true then(t.length:Int) else -1
def QY(e:Ce)(l:List B0):Nat:=jc e l.reverse
def Mo(e:Ce)(l:List B0):Int:=gT e l.reverse
section
variable{e:Ce}{l:List B0}{n s:Nat}
theorem RZ(hn:n<l.length):QY e (l.take (n+1))=if l[n].c.node=0 then 0 else QY e (l.take n)+(if FN l[n].c e=true then 1 else 0):=by rw[Av hn,QY,Nk,Qi,Ru,jc,QY]
theorem R2(hn:n<l.length):Mo e (l.take (n+1))=if l[n].c.node=0 then -1 else if 0<=Mo e (l.take n) then Mo e (l.take n) else if FN l[n].c e=true then(n:Int) else -1:=by rw[Av hn,Mo,Nk,Qi,Ru,gT,Mo,Wq,Al,Co (WU hn)]
theorem Vk(hs:since l=(s:Int)):QY e (l.take s)=0/\Mo e (l.take s)= -1:=by
 obtain⟨s',e,h1,h2,h3⟩:=IM l;obtain rfl:s=s':=by omega
 cases s with
 |zero=>exact⟨rfl,rfl⟩
 |succ t=>obtain⟨ht,h0⟩:=h3 t rfl;exact⟨by rw[RZ ht,if_pos h0],by rw[R2 ht,if_pos h0]⟩
end
def Kw(e:Ce)(l:List B0):List B0:=if e.node≠0/\3<=QY e l then A7 l (Mo e l).toNat else l
section
variable{h:Ag}{v:Aa}{l:List B0}{id:Nat}
end
end
section
section
variable{h:Ag}{v:Aa}{l:List B0}{id:Nat}
end
end
end Go.Am
end
section
namespace Go.Am
set_option maxRecDepth 100000
structure Em where
 kind:Int:=0
 Fa:Int:=0
 AZ:List Int:=[]
 Cz:Int:=0
 A0:Int:=0
 name:As:=[]
 Ay:List AU:=[]
 data:As:=[]
 pub:As:=[]
 sys:As:=[]
 Cr:Bool:=false
 cont:Int:=0
 DW:Int:=0
deriving DecidableEq
structure Ar where
 n:List Em
 i:List Int
abbrev A6:As:=aSC
def YL(x:Em):Prop:=x.kind=4/\x.A0=1/\x.name=A6
instance(x:Em):Decidable (YL x):=by unfold YL;infer_instance
namespace Ar
def len(A:Ar):Int:=A.n.length
def has(A:Ar)(h:Int):Prop:=1<=h/\h<=A.n.length
instance(A:Ar)(h:Int):Decidable (A.has h):=by unfold has;infer_instance
def nd(A:Ar)(h:Int):Em:=if A.has h then A.n.getD (h.toNat-1) {} else{}
def inr(A:Ar)(h:Int):Int:=if A.has h then A.i.getD (h.toNat-1) 0 else 0
def set(A:Ar)(h:Int)(x:Em):Ar:={n:=if A.has h then A.n.set (h.toNat-1) x else A.n,i:=A.i}
def Ia(A:Ar)(h:Int)(x:Int):Ar:={n:=A.n,i:=if A.has h then A.i.set (h.toNat-1) x else A.i}
def add(A:Ar)(x:Em):Ar:={n:=A.n++[x],i:=A.i++[0]}
def up(A:Ar)(h:Int):Int:=if(A.nd h).Fa≠0 then(A.nd h).Fa else(A.nd h).DW
end Ar
section
variable{A:Ar}{h k:Int}{x y:Em}
theorem GN(hh:¬A.has h):A.nd h={}:=by unfold Ar.nd;rw[if_neg hh]
theorem Iu:(A.set h x).n.length=A.n.length:=by simp only[Ar.set];split<;>simp
theorem jd:(A.set h x).len=A.len:=by unfold Ar.len;rw[Iu]
theorem HC:(A.set h x).has k↔A.has k:=by unfold Ar.has;rw[Iu]
theorem IN:(A.set h x).nd k=if k=h/\A.has h then x else A.nd k:=by
 unfold Ar.nd;simp only[HC];by_cases hk:A.has k
 .rw[if_pos hk,if_pos hk];simp only[Ar.set];by_cases hh:A.has h
  .rw[if_pos hh];have h1:=hh;have h2:=hk;unfold Ar.has at h1 h2;by_cases e:k=h;·subst e;rw[if_pos ⟨rfl,hh⟩,AE,AG (by omega)];rfl
   .rw[if_neg (by simp[e]),AE,Af (by omega),AE]
  .rw[if_neg hh,if_neg (by simp[hh])]
 .rw[if_neg hk,if_neg hk,if_neg];rintro⟨rfl,h2⟩;exact hk h2
theorem QZ:(A.set h x).inr k=A.inr k:=by unfold Ar.inr;simp only[HC];rfl
theorem OR:(A.add x).len=A.len+1:=by simp[Ar.len,Ar.add]
theorem Dl:(A.add x).has k↔A.has k\/k=A.len+1:=by simp[Ar.has,Ar.add,Ar.len];omega
theorem HO:(A.add x).nd k=if k=A.len+1 then x else A.nd k:=by
 unfold Ar.nd;simp only[Dl];by_cases e:k=A.len+1;·subst e;simp[Ar.add,Ar.len]
 .by_cases hk:A.has k;·rw[if_pos (.inl hk),if_neg e,if_pos hk];unfold Ar.has at hk;simp only[Ar.add,AE];rw[Ad (by omega)]
  .rw[if_neg (by simp[hk,e]),if_neg e,if_neg hk]
theorem T1(hl:A.i.length=A.n.length):(A.add x).inr k=A.inr k:=by
 unfold Ar.inr;simp only[Dl];by_cases e:k=A.len+1
 .subst e;have:¬A.has (A.len+1):=by unfold Ar.has Ar.len;omega
  rw[if_pos (.inr rfl),if_neg this];simp[Ar.add,Ar.len,<-hl]
 .by_cases hk:A.has k;·rw[if_pos (.inl hk),if_pos hk];unfold Ar.has at hk;simp only[Ar.add,AE];rw[Ad (by omega)]
  .rw[if_neg (by simp[hk,e]),if_neg hk]
theorem Q0:(A.Ia h k).len=A.len:=rfl
theorem Mp{m:Int}:(A.Ia h m).has k↔A.has k:=Iff.rfl
theorem Q1{m:Int}:(A.Ia h m).nd k=A.nd k:=by rfl
theorem Oj{m:Int}(hl:A.i.length=A.n.length):(A.Ia h m).inr k=if k=h/\A.has h then m else A.inr k:=by
 unfold Ar.inr;simp only[Mp];by_cases hk:A.has k
 .rw[if_pos hk,if_pos hk];simp only[Ar.Ia];by_cases hh:A.has h
  .rw[if_pos hh];have h1:=hh;have h2:=hk;unfold Ar.has at h1 h2;by_cases e:k=h;·subst e;rw[if_pos ⟨rfl,hh⟩,AE,AG (by omega)];rfl
   .rw[if_neg (by simp[e]),AE,Af (by omega),AE]
  .rw[if_neg hh,if_neg (by simp[hh])]
 .rw[if_neg hk,if_neg hk,if_neg];rintro⟨rfl,h2⟩;exact hk h2
end
def Da(a:AU):Int×As:=(a.A0,a.name)
def GD(out:List AU):List AU->List AU
 |[]=>out
 |x::l=>if out.any (λy=>decide (Da x=Da y)) then GD out l else GD (out++[x]) l
def Cg(l:List AU):List AU:=GD [] l
theorem P7:∀{l out:List AU},(out.map Da).Nodup->((GD out l).map Da).Nodup
 |[],_,h=>h
 |x::l,out,h=>by
  rw[GD];split;·exact P7 h
  .rename_i hn;refine P7 ?_;rw[BE,B8];refine⟨h,by simp,?_⟩;rintro a ha b hb rfl;simp at hb;subst hb;simp at ha hn;obtain⟨y,hy,e⟩:=ha;exact hn y hy e.symm
theorem bV:∀{l out:List AU},((out++l).map Da).Nodup->GD out l=out++l
 |[],out,_=>by simp[GD]
 |x::l,out,h=>by
  rw[GD,if_neg,bV (by simpa using h)];·simp
  .intro ha;rw[BE,B8] at h;simp at ha;obtain⟨y,hy,e⟩:=ha;exact h.2.2 _ (Bl.2 ⟨y,hy,e.symm⟩) _ (by simp) rfl
theorem rP(l:List AU):((Cg l).map Da).Nodup:=P7 (by simp)
theorem je{l:List AU}(h:(l.map Da).Nodup):Cg l=l:=by have:=bV (out:=[]) (l:=l) (by simpa using h);simpa[Cg] using this
theorem XE(l:List AU):Cg (Cg l)=Cg l:=je (rP l)
theorem R4:∀{l out:List AU} {a:AU},a∈GD out l->a∈out\/a∈l
 |[],_,_,h=> .inl h
 |x::l,out,a,h=>by
  rw[GD] at h;split at h
  .rcases R4 h with h|h
   .exact .inl h
   .exact .inr (by simp[h])
  .rcases R4 h with h|h
   .simp at h;rcases h with h|rfl
    .exact .inl h
    .exact .inr (by simp)
   .exact .inr (by simp[h])
theorem bW{l:List AU}{a:AU}(h:a∈Cg l):a∈l:=by simpa using R4 h
theorem Vl:∀{l out:List AU},(GD out l).length<=out.length+l.length
 |[],out=>by simp[GD]
 |x::l,out=>by
  rw[GD];split;·have:=Vl (l:=l) (out:=out);simp;omega
  .have:=Vl (l:=l) (out:=out++[x]);simp at this⊢;omega
theorem OS{l:List AU}:(Cg l).length<=l.length:=by have:=Vl (l:=l) (out:=[]);simpa[Cg] using this
structure tZ(x:Em):Prop where
 k:1<=x.kind/\x.kind<=6
 AZ:x.AZ≠[]->x.kind=1\/x.kind=2\/x.kind=4
 elem:x.kind≠4->x.A0=0/\x.Ay=[]
 nm:x.kind≠4->x.kind≠3->x.name=[]
 dt:x.kind≠3->x.pub=[]/\x.sys=[]
 data:x.kind≠5->x.kind≠6->x.data=[]
 Cr:x.kind≠1->x.Cr=false
 sp:0<=x.A0/\x.A0<=7
 dn:∀a∈x.Ay,0<=a.A0/\a.A0<=7
 Cg:Cg x.Ay=x.Ay
 S2:x.cont≠0->YL x
 Ok:x.DW≠0->x.kind=2
 root:x.Fa≠0->x.kind≠1/\x.kind≠2
 rQ:x.AZ.Nodup
structure Ew(A:Ar)(e:Int):Prop where
 il:A.i.length=A.n.length
 Q2:∀h,A.has h->tZ (A.nd h)
 Cz:∀h,A.has h->A.has (A.nd h).Cz/\(A.nd (A.nd h).Cz).kind=1
 YM:∀h,A.has h->(A.nd h).kind=1->(A.nd h).Cz=h
 Fa:∀h,A.has h->(A.nd h).Fa≠0->A.has (A.nd h).Fa/\h∈(A.nd (A.nd h).Fa).AZ
 LD:∀h,A.has h->∀k∈(A.nd h).AZ,A.has k/\(A.nd k).Fa=h
 jf:∀h,A.has h->h≠e->YL (A.nd h)->(A.nd h).cont≠0
 cont:∀h,A.has h->(A.nd h).cont≠0->A.has (A.nd h).cont/\(A.nd (A.nd h).cont).kind=2/\(A.nd (A.nd h).cont).DW=h
 DW:∀h,A.has h->(A.nd h).DW≠0->A.has (A.nd h).DW/\(A.nd (A.nd h).DW).cont=h
 M_:∀h,A.has h->A.inr h≠0->A.has (A.inr h)/\(A.nd (A.inr h)).kind=1
 YN:∃r:Int->Nat,∀h,A.has h->A.up h≠0->r (A.up h)<r h
section
variable{A:Ar}{e h k:Int}{x y:Em}
theorem P8:¬A.has (A.len+1):=by unfold Ar.has Ar.len;omega
theorem Vm(hh:¬A.has h):A.up h=0:=by unfold Ar.up;rw[GN hh];simp
theorem gU(ok:Ew A e)(hh:A.has h)(hu:A.up h≠0):A.has (A.up h):=by
 unfold Ar.up at hu⊢;split;·rename_i h1;exact(ok.Fa h hh h1).1
 .rename_i h1;rw[if_neg h1] at hu;exact(ok.DW h hh hu).1
theorem Vn(ok:Ew A e)(hx:tZ x)(hd:(x.kind=1/\x.Cz=A.len+1)\/(x.kind≠1/\A.has x.Cz/\(A.nd x.Cz).kind=1))(hp:x.Fa=0)(hk:x.AZ=[])(hc:x.cont=0)(hh:x.DW=0)(hT:YL x->e=A.len+1):Ew (A.add x) e:=by
 have no:=P8 (A:=A);obtain⟨r,hr⟩:=ok.YN;have ne:∀{k},A.has k->k≠A.len+1:=λhk e=>no (e▸hk);refine⟨by simp[Ar.add,ok.il],?_,?_,?_,?_,?_,?_,?_,?_,?_,r,?_⟩<;>intro m hm<;>rw[Dl] at hm<;>(try rw[T1 ok.il])<;>simp only[Ar.up,HO,Dl]<;>rcases hm with hm|rfl
 all_goals first|(rw[if_neg (ne hm)])|(rw[if_pos rfl])|skip
 .exact ok.Q2 m hm
 .exact hx
 .have:=ok.Cz m hm;rw[if_neg (ne this.1)];exact⟨.inl this.1,this.2⟩
 .rcases hd with⟨h1,h2⟩|⟨h1,h2,h3⟩
  .rw[if_pos h2];exact⟨.inr h2,h1⟩
  .rw[if_neg (ne h2)];exact⟨.inl h2,h3⟩
 .exact ok.YM m hm
 .intro h1;rcases hd with⟨_,h2⟩|⟨h2,_⟩
  .exact h2
  .exact absurd h1 h2
 .intro h1;have:=ok.Fa m hm h1;rw[if_neg (ne this.1)];exact⟨.inl this.1,this.2⟩
 .intro h1;exact absurd hp h1
 .intro q hq;have:=ok.LD m hm q hq;rw[if_neg (ne this.1)];exact⟨.inl this.1,this.2⟩
 .intro q hq;rw[hk] at hq;cases hq
 .exact ok.jf m hm
 .intro h1 h2;exact absurd (hT h2).symm h1
 .intro h1;have:=ok.cont m hm h1;rw[if_neg (ne this.1)];exact⟨.inl this.1,this.2⟩
 .intro h1;exact absurd hc h1
 .intro h1;have:=ok.DW m hm h1;rw[if_neg (ne this.1)];exact⟨.inl this.1,this.2⟩
 .intro h1;exact absurd hh h1
 .intro h1;have:=ok.M_ m hm h1;rw[if_neg (ne this.1)];exact⟨.inl this.1,this.2⟩
 .intro h1;exfalso;apply h1;unfold Ar.inr;rw[if_neg no]
 .have:=hr m hm;unfold Ar.up at this;exact this
 .rw[hp,hh];simp
inductive Reach(A:Ar)(t:Int):Int->Prop
 |refl:Reach A t t
 |step {h:Int}:A.up h≠0->Reach A t (A.up h)->Reach A t h
def Il(l:List Int)(b n:Int):List Int:=if b=0 then l++[n] else l.takeWhile (λk=>decide (k≠b))++n::l.dropWhile (λk=>decide (k≠b))
def Ar.cut(A:Ar)(n:Int):Ar:=
 let q:=(A.nd n).Fa
 if q=0 then A else
  let A1:=A.set q {A.nd q with AZ:=(A.nd q).AZ.filter λk=>decide (k≠n)}
  A1.set n {A1.nd n with Fa:=0}
def Ar.L1(A:Ar)(p n b:Int):Ar:=
 let A1:=A.set p {A.nd p with AZ:=Il (A.nd p).AZ b n}
 A1.set n {A1.nd n with Fa:=p}
def Ke(k:Int):Prop:=k=1\/k=2\/k=4
instance(k:Int):Decidable (Ke k):=by unfold Ke;infer_instance
structure xQ(A:Ar)(p n b:Int):Prop where
 hp:A.has p
 hn:A.has n
 hb:b≠0->A.has b/\b≠n/\(A.nd b).Fa=p
 kp:Ke (A.nd p).kind
 kn:(A.nd n).kind≠1/\(A.nd n).kind≠2
 re:¬Reach A n p
open Classical in
noncomputable def Ar.Fg(A:Ar)(p n b:Int):Ar:=if xQ A p n b then(A.cut n).L1 p n b else A
theorem R5{l:List Int}{b n k:Int}:k∈Il l b n↔k=n\/k∈l:=by
 unfold Il;split;·simp;exact Or.comm
 .have e:=List.takeWhile_append_dropWhile (p:=λk=>decide (k≠b)) (l:=l);constructor
  .intro h;rw[Ap,AP] at h;rcases h with h|h|h
   .exact .inr (by rw[<-e];simp only[Ap];exact .inl h)
   .exact .inl h
   .exact .inr (by rw[<-e];simp only[Ap];exact .inr h)
  .intro h;rw[Ap,AP];rcases h with h|h
   .exact .inr (.inl h)
   .rw[<-e,Ap] at h;rcases h with h|h
    .exact .inl h
    .exact .inr (.inr h)
theorem bX{l:List Int}{b n:Int}(h:l.Nodup)(hn:n∉l):(Il l b n).Nodup:=by
 unfold Il;split;·rw[B8];refine⟨h,by simp,?_⟩;rintro a ha c hc rfl;simp at hc;subst hc;exact hn ha
 .have e:=List.takeWhile_append_dropWhile (p:=λk=>decide (k≠b)) (l:=l);generalize List.takeWhile _ l=u at e⊢;generalize List.dropWhile _ l=w at e⊢;subst e;rw[B8] at h⊢;simp at hn;refine⟨h.1,by simp[h.2.1,hn.2],?_⟩;rintro a ha c hc rfl;simp at hc;rcases hc with rfl|hc
  .exact hn.1 ha
  .exact h.2.2 _ ha _ hc rfl
theorem bY:(A.cut h).n.length=A.n.length:=by unfold Ar.cut;simp only;split<;>simp[Iu]
theorem J1:(A.cut h).has k↔A.has k:=by unfold Ar.has;rw[bY]
theorem bZ{p n b:Int}:(A.L1 p n b).n.length=A.n.length:=by unfold Ar.L1;simp[Iu]
theorem lP{p n b:Int}:(A.L1 p n b).has k↔A.has k:=by unfold Ar.has;rw[bZ]
theorem jg:(A.cut h).inr k=A.inr k:=by unfold Ar.cut;simp only;split<;>simp[QZ]
theorem jh{p n b:Int}:(A.L1 p n b).inr k=A.inr k:=by unfold Ar.L1;simp[QZ]
theorem vf(ok:Ew A e)(hh:A.has h)(hu:A.up h≠0):A.up h≠h:=by obtain⟨r,hr⟩:=ok.YN;intro e;have:=hr h hh hu;rw[e] at this;exact Dg _ this
theorem gV(ok:Ew A e)(hh:A.has h)(hu:(A.nd h).Fa≠0):(A.nd h).Fa≠h:=by
 have:A.up h=(A.nd h).Fa:=by unfold Ar.up;rw[if_pos hu]
 have h2:=vf ok hh (by rw[this];exact hu);rwa [this] at h2
theorem P9(ok:Ew A e)(hh:A.has h):(A.cut h).nd k=if k=h then{A.nd h with Fa:=0} else if(A.nd h).Fa≠0/\k=(A.nd h).Fa then{A.nd k with AZ:=(A.nd k).AZ.filter λm=>decide (m≠h)} else A.nd k:=by
 unfold Ar.cut;simp only
 by_cases hp:(A.nd h).Fa=0
 .rw[if_pos hp];by_cases e:k=h;·subst e;rw[if_pos rfl];have:A.nd k={A.nd k with Fa:=(A.nd k).Fa}:=rfl;rw[hp] at this;exact this
  .rw[if_neg e,if_neg (by simp[hp])]
 .have hn:=gV ok hh hp;have hq:=(ok.Fa h hh hp).1;rw[if_neg hp];simp only[IN,HC,hh,hq,NF];by_cases e:k=h;·subst e;simp[DS hn]
  .simp[e,hp];split;·rename_i e;simp[e]
   .rfl
theorem cA{x:Em}(hx:tZ x){l:List Int}(h1:l.Nodup)(h2:l≠[]->Ke x.kind):tZ {x with AZ:=l}:=
 {k:=hx.k,AZ:=h2,elem:=hx.elem,nm:=hx.nm,dt:=hx.dt,data:=hx.data,Cr:=hx.Cr,sp:=hx.sp,dn:=hx.dn,Cg:=hx.Cg,S2:=hx.S2,Ok:=hx.Ok,root:=hx.root,rQ:=h1}
theorem lQ{x:Em}(hx:tZ x){p:Int}(h2:p≠0->x.kind≠1/\x.kind≠2):tZ {x with Fa:=p}:=
 {k:=hx.k,AZ:=hx.AZ,elem:=hx.elem,nm:=hx.nm,dt:=hx.dt,data:=hx.data,Cr:=hx.Cr,sp:=hx.sp,dn:=hx.dn,Cg:=hx.Cg,S2:=hx.S2,Ok:=hx.Ok,root:=h2,rQ:=hx.rQ}
theorem N_(ok:A.i.length=A.n.length):(A.cut h).i.length=(A.cut h).n.length:=by rw[bY];unfold Ar.cut;simp only;split<;>exact ok
theorem O_{p n b:Int}(ok:A.i.length=A.n.length):(A.L1 p n b).i.length=(A.L1 p n b).n.length:=by rw[bZ];exact ok
theorem ji(ok:Ew A e)(hh:A.has h)(hk:k∈(A.nd h).AZ):k≠h/\(A.nd k).Fa=h/\A.has k:=by have:=ok.LD h hh k hk;refine⟨?_,this.2,this.1⟩;rintro rfl;have h0:=this.1.1;exact gV ok hh (by rw[this.2];omega) this.2
theorem xR(ok:Ew A e)(hh:A.has h):(A.cut h).up k=if k=h then(A.nd h).DW else A.up k:=by
 unfold Ar.up;rw[P9 ok hh];by_cases e:k=h;·simp[e]
 .simp only[e,Ef];split<;>rfl
theorem gW(ok:Ew A e)(hh:A.has h)(Wj:(A.nd h).kind≠2):Ew (A.cut h) e:=by
 obtain⟨r,hr⟩:=ok.YN;have hN:=λm=>P9 (k:=m) ok hh;have kd:∀m,((A.cut h).nd m).kind=(A.nd m).kind:=λm=>by rw[hN];grind
 have dc:∀m,((A.cut h).nd m).Cz=(A.nd m).Cz:=λm=>by rw[hN];grind
 have cn:∀m,((A.cut h).nd m).cont=(A.nd m).cont:=λm=>by rw[hN];grind
 have ho:∀m,((A.cut h).nd m).DW=(A.nd m).DW:=λm=>by rw[hN];grind
 have hh0:(A.nd h).DW=0:=by
  by_cases h0:(A.nd h).DW=0;·exact h0
  .exact absurd ((ok.Q2 h hh).Ok h0) Wj
 refine⟨N_ ok.il,?_,?_,?_,?_,?_,?_,?_,?_,?_,r,?_⟩<;>intro m hm<;>rw[J1] at hm<;>(try simp only[kd,dc,cn,ho,J1,jg])
 .rw[hN];split;·exact lQ (ok.Q2 h hh) (by simp)
  .split;·exact cA (ok.Q2 m hm) ((ok.Q2 m hm).rQ.filter _) λh1=>(ok.Q2 m hm).AZ (by intro h2;rw[h2] at h1;simp at h1)
   .exact ok.Q2 m hm
 .exact ok.Cz m hm
 .exact ok.YM m hm
 .intro h1;have e1:m≠h:=by rintro rfl;rw[hN] at h1;simp at h1
  have e2:((A.cut h).nd m).Fa=(A.nd m).Fa:=by rw[hN,if_neg e1];split<;>rfl
  rw[e2] at h1⊢;have h2:=ok.Fa m hm h1;refine⟨h2.1,?_⟩;rw[hN];split;·rename_i e3;rw[<-e3];exact h2.2
  .split;·simp only[DX,DK];exact⟨h2.2,e1⟩
   .exact h2.2
 .intro q hq;have h1:q∈(A.nd m).AZ/\(m=(A.nd h).Fa->q≠h):=by
   rw[hN] at hq;split at hq;·rename_i e1;subst e1;have:=ji ok hm hq;exact⟨hq,λ_=>this.1⟩
   .split at hq;·simp only[DX,DK] at hq;exact⟨hq.1,λ_=>hq.2⟩
    .rename_i h3;refine⟨hq,λh4 h5=>h3 ⟨?_,h4⟩⟩;rw[<-h4];have:=hm.1;omega
  have h2:=ok.LD m hm q h1.1;refine⟨h2.1,?_⟩;have e1:q≠h:=by rintro rfl;exact h1.2 h2.2.symm rfl
  rw[hN,if_neg e1,<-h2.2];split<;>rfl
 .intro h1 h2;refine ok.jf m hm h1 ?_;rw[hN] at h2;unfold YL at h2⊢;grind
 .exact ok.cont m hm
 .exact ok.DW m hm
 .exact ok.M_ m hm
 .rw[xR ok hh];split;·rw[hh0];simp
  .exact hr m hm
theorem xS{p n b:Int}(hp:A.has p)(hn:A.has n)(hne:n≠p):(A.L1 p n b).nd k=if k=n then{A.nd n with Fa:=p} else if k=p then{A.nd p with AZ:=Il (A.nd p).AZ b n} else A.nd k:=by
 unfold Ar.L1;simp only[IN,HC,hp,hn,NF];by_cases e:k=n;·subst e;simp[hne]
 .simp[e]
theorem rR{p n b:Int}(hp:A.has p)(hn:A.has n)(hne:n≠p)(h0:(A.nd n).Fa=0)(hh0:(A.nd n).DW=0)(hr:¬Reach A n p):∀{m},¬Reach A n m->(A.L1 p n b).up m=A.up m:=by
 intro m hm;have e:m≠n:=by rintro rfl;exact hm .refl
 unfold Ar.up;rw[xS hp hn hne,if_neg e];split;·rename_i e;subst e;rfl
 .rfl
open Classical in
theorem P_(ok:Ew A e){p n b:Int}(hp:A.has p)(hn:A.has n)(kp:Ke (A.nd p).kind)(kn:(A.nd n).kind≠1/\(A.nd n).kind≠2)(re:¬Reach A n p)(h0:(A.nd n).Fa=0):Ew (A.L1 p n b) e:=by
 obtain⟨r,hr⟩:=ok.YN;have hne:n≠p:=by rintro rfl;exact re .refl
 have hN:=λm=>xS (k:=m) (b:=b) hp hn hne;have kd:∀m,((A.L1 p n b).nd m).kind=(A.nd m).kind:=λm=>by rw[hN];grind
 have dc:∀m,((A.L1 p n b).nd m).Cz=(A.nd m).Cz:=λm=>by rw[hN];grind
 have cn:∀m,((A.L1 p n b).nd m).cont=(A.nd m).cont:=λm=>by rw[hN];grind
 have ho:∀m,((A.L1 p n b).nd m).DW=(A.nd m).DW:=λm=>by rw[hN];grind
 have hh0:(A.nd n).DW=0:=by
  by_cases h0:(A.nd n).DW=0;·exact h0
  .exact absurd ((ok.Q2 n hn).Ok h0) kn.2
 have nk:∀m,A.has m->n∉(A.nd m).AZ:=by intro m hm h1;have:=ok.LD m hm n h1;rw[h0] at this;have:=hm.1;omega
 refine⟨O_ ok.il,?_,?_,?_,?_,?_,?_,?_,?_,?_,λm=>if Reach A n m then r m+r p+1 else r m,?_⟩<;>intro m hm<;>rw[lP] at hm<;>(try simp only[kd,dc,cn,ho,lP,jh])
 .rw[hN];split;·exact lQ (ok.Q2 n hn) λ_=>kn
  .split;·exact cA (ok.Q2 p hp) (bX (ok.Q2 p hp).rQ (nk p hp)) λ_=>kp
   .exact ok.Q2 m hm
 .exact ok.Cz m hm
 .exact ok.YM m hm
 .intro h1;by_cases e1:m=n
  .subst e1;rw[hN,if_pos rfl];refine⟨hp,?_⟩;simp only
   rw[hN,if_neg (DS hne),if_pos rfl];exact R5.2 (.inl rfl)
  .have e2:((A.L1 p n b).nd m).Fa=(A.nd m).Fa:=by rw[hN,if_neg e1];split;rename_i e;rw[e];rfl
   rw[e2] at h1⊢;have h2:=ok.Fa m hm h1;refine⟨h2.1,?_⟩;rw[hN];split;·rename_i e3;rw[<-e3];exact h2.2
   .split;·rename_i e3;rw[<-e3];exact R5.2 (.inr h2.2)
    .exact h2.2
 .intro q hq;by_cases e1:q=n
  .subst e1;refine⟨hn,?_⟩;rw[hN,if_pos rfl];rw[hN] at hq;split at hq;·exact absurd hq (nk q hn)
   .split at hq;·rename_i e;exact e.symm
    .exact absurd hq (nk m hm)
  .have h1:q∈(A.nd m).AZ:=by
    rw[hN] at hq;split at hq;·rename_i e;rw[e];exact hq
    .split at hq;·rename_i e;rw[e];exact(R5.1 hq).resolve_left e1
     .exact hq
   have h2:=ok.LD m hm q h1;refine⟨h2.1,?_⟩;rw[hN,if_neg e1,<-h2.2];split;·rename_i e;rw[e]
   .rfl
 .intro h1 h2;refine ok.jf m hm h1 ?_;rw[hN] at h2;unfold YL at h2⊢;grind
 .exact ok.cont m hm
 .exact ok.DW m hm
 .exact ok.M_ m hm
 .intro hu;by_cases hR:Reach A n m
  .by_cases e1:m=n
   .subst e1;have e2:(A.L1 p m b).up m=p:=by unfold Ar.up;rw[hN,if_pos rfl];simp only;rw[if_pos];have:=hp.1;omega
    rw[e2,if_neg re,if_pos hR];omega
   .have e2:(A.L1 p n b).up m=A.up m:=by
     unfold Ar.up;rw[hN,if_neg e1];split;·rename_i e;rw[e]
     .rfl
    rw[e2] at hu⊢;have hR2:Reach A n (A.up m):=by
     cases hR with
     |refl=>exact absurd rfl e1
     |step _ hx=>exact hx
    rw[if_pos hR2,if_pos hR];have:=hr m hm hu;omega
  .have e2:=rR (b:=b) hp hn hne h0 hh0 re hR;rw[e2] at hu⊢;have hR2:¬Reach A n (A.up m):=λh=>hR (.step hu h);rw[if_neg hR2,if_neg hR];exact hr m hm hu
theorem rS(ok:Ew A e)(hh:A.has h){m:Int}(hr:¬Reach A h m):¬Reach (A.cut h) h m:=by
 intro K5;have key:∀m,Reach (A.cut h) h m->Reach A h m:=by
  intro m hm;induction hm with
  |refl=>exact .refl
  |@step q h1 _ ih=>
   by_cases e1:q=h;·rw[e1];exact .refl
   .rw[xR ok hh,if_neg e1] at h1 ih;exact .step h1 ih
 exact hr (key m K5)
theorem OT(ok:Ew A e){p n b:Int}:Ew (A.Fg p n b) e:=by
 unfold Ar.Fg;split
 .rename_i f;have o2:=gW ok f.hn f.kn.2;have kd:∀m,((A.cut n).nd m).kind=(A.nd m).kind:=λm=>by rw[P9 ok f.hn];grind
  refine P_ o2 (J1.2 f.hp) (J1.2 f.hn) ?_ ?_ (rS ok f.hn f.re) ?_;·rw[kd];exact f.kp
  .rw[kd];exact f.kn
  .rw[P9 ok f.hn,if_pos rfl]
 .exact ok
theorem xT(ok:Ew A e)(hh:A.has h)(hx:tZ x)(h1:x.kind=(A.nd h).kind)(h2:x.Fa=(A.nd h).Fa)(h3:x.AZ=(A.nd h).AZ)(h4:A.has x.Cz/\(A.nd x.Cz).kind=1/\(x.kind=1->x.Cz=h))(h5:x.cont=(A.nd h).cont)(h6:x.DW=(A.nd h).DW)(h7:YL x->YL (A.nd h)):Ew (A.set h x) e:=by
 obtain⟨r,hr⟩:=ok.YN;have hN:∀m,(A.set h x).nd m=if m=h then x else A.nd m:=λm=>by rw[IN];simp[hh]
 have kd:∀m,((A.set h x).nd m).kind=(A.nd m).kind:=λm=>by rw[hN];grind
 have pr:∀m,((A.set h x).nd m).Fa=(A.nd m).Fa:=λm=>by rw[hN];grind
 have ks:∀m,((A.set h x).nd m).AZ=(A.nd m).AZ:=λm=>by rw[hN];grind
 have cn:∀m,((A.set h x).nd m).cont=(A.nd m).cont:=λm=>by rw[hN];grind
 have ho:∀m,((A.set h x).nd m).DW=(A.nd m).DW:=λm=>by rw[hN];grind
 have u:∀m,(A.set h x).up m=A.up m:=λm=>by unfold Ar.up;rw[pr,ho]
 refine⟨by rw[Iu];exact ok.il,?_,?_,?_,?_,?_,?_,?_,?_,?_,r,?_⟩<;>intro m hm<;>rw[HC] at hm<;>(try simp only[kd,pr,ks,cn,ho,u,HC,QZ])
 .rw[hN];split;·exact hx
  .exact ok.Q2 m hm
 .rw[hN];split;·exact⟨h4.1,h4.2.1⟩
  .exact ok.Cz m hm
 .rw[hN];split;·rename_i e;intro h8;rw[e,h4.2.2 (by rw[h1,<-e];exact h8)]
  .exact ok.YM m hm
 .exact ok.Fa m hm
 .exact ok.LD m hm
 .intro h8 h9;refine ok.jf m hm h8 ?_;rw[hN] at h9;split at h9;·rename_i e;rw[e];exact h7 h9
  .exact h9
 .exact ok.cont m hm
 .exact ok.DW m hm
 .exact ok.M_ m hm
 .exact hr m hm
def Ar.EX(A:Ar)(d:Int):Int:=if A.inr d≠0 then A.inr d else A.len+1
def Ar.CW(A:Ar)(d:Int):Ar:=if A.inr d≠0 then A else((A.add {kind:=1,Cz:=A.len+1}).Ia d (A.len+1)).Ia (A.len+1) (A.len+1)
theorem jj:tZ {kind:=1,Cz:=k}:=by constructor<;>simp[Cg,GD]
theorem lR(ok:Ew A e)(hk:A.has k/\(A.nd k).kind=1):Ew (A.Ia h k) e:=by
 refine⟨?_,ok.Q2,ok.Cz,ok.YM,ok.Fa,ok.LD,ok.jf,ok.cont,ok.DW,?_,ok.YN⟩;·simp only[Ar.Ia];split<;>simp[ok.il]
 .intro m hm h1;rw[Mp] at hm;rw[Oj ok.il] at h1⊢;split at h1;·rename_i h2;rw[if_pos h2];exact hk
  .rename_i h2;rw[if_neg h2];exact ok.M_ m hm h1
theorem xU(ok:Ew A e)(hh:A.has h)(he:e≠A.len+1):Ew (A.CW h) e/\(A.CW h).has (A.EX h)/\((A.CW h).nd (A.EX h)).kind=1:=by
 unfold Ar.CW Ar.EX;split;·rename_i h1;exact⟨ok,ok.M_ h hh h1⟩
 .have o1:=Vn ok (x:={kind:=1,Cz:=A.len+1}) jj (.inl ⟨rfl,rfl⟩) rfl rfl rfl rfl (by simp[YL]);have h2:(A.add {kind:=1,Cz:=A.len+1}).has (A.len+1)/\((A.add {kind:=1,Cz:=A.len+1}).nd (A.len+1)).kind=1:=by rw[Dl,HO,if_pos rfl];exact⟨.inr rfl,rfl⟩
  exact⟨lR (lR o1 h2) h2,h2⟩
theorem Vo(hk:k≠A.len+1\/A.inr h≠0):(A.CW h).nd k=A.nd k:=by
 unfold Ar.CW;split;·rfl
 .rename_i h1;rw[Q1,Q1,HO,if_neg (hk.resolve_right h1)]
theorem rT:(A.CW h).len=if A.inr h≠0 then A.len else A.len+1:=by
 unfold Ar.CW;split;·rfl
 .rw[Q0,Q0,OR]
theorem Mq:A.has k->(A.CW h).has k:=by
 unfold Ar.CW;split;·exact id
 .intro hk;rw[Mp,Mp,Dl];exact .inl hk
theorem jk{d:Int}(ok:Ew A e)(he:A.has e)(hT:YL (A.nd e))(hc:(A.nd e).cont=0)(hd:A.has d/\(A.nd d).kind=1):Ew ((A.add {kind:=2,DW:=e,Cz:=d}).set e {A.nd e with cont:=A.len+1}) 0:=by
 have no:=P8 (A:=A);obtain⟨r,hr⟩:=ok.YN;have ne:∀{k},A.has k->k≠A.len+1:=λhk e=>no (e▸hk);have l0:A.len+1≠0:=by have:=he.1;have:=he.2;unfold Ar.len;omega
 have hN:∀m,(((A.add {kind:=2,DW:=e,Cz:=d}).set e {A.nd e with cont:=A.len+1}).nd m)=if m=e then{A.nd e with cont:=A.len+1} else if m=A.len+1 then{kind:=2,DW:=e,Cz:=d} else A.nd m:=λm=>by rw[IN,HO];simp[he,Dl]
 have hk:(A.nd e).kind=4:=hT.1;have h0:(A.nd e).DW=0:=by
  by_cases h0:(A.nd e).DW=0;·exact h0
  .have:=(ok.Q2 e he).Ok h0;omega
 have e0:e≠0:=by have:=he.1;omega
 have hnx:tZ {kind:=2,DW:=e,Cz:=d}:=by constructor<;>simp[Cg,GD]
 have Q2:=ok.Q2;have o2:=Q2 e he;have hne:tZ {A.nd e with cont:=A.len+1}:={k:=o2.k,AZ:=o2.AZ,elem:=o2.elem,nm:=o2.nm,dt:=o2.dt,data:=o2.data,Cr:=o2.Cr,sp:=o2.sp,dn:=o2.dn,Cg:=o2.Cg,S2:=λ_=>hT,Ok:=o2.Ok,root:=o2.root,rQ:=o2.rQ};have hs:∀m,((A.add {kind:=2,DW:=e,Cz:=d}).set e {A.nd e with cont:=A.len+1}).has m↔A.has m\/m=A.len+1:=λm=>by rw[HC,Dl]
 have hi:∀m,((A.add {kind:=2,DW:=e,Cz:=d}).set e {A.nd e with cont:=A.len+1}).inr m=A.inr m:=λm=>by rw[QZ,T1 ok.il]
 have nee:e≠A.len+1:=ne he;refine⟨by rw[Iu];simp[Ar.add,Ar.set,ok.il],?_,?_,?_,?_,?_,?_,?_,?_,?_,λm=>if m=A.len+1 then r e+1 else r m,?_⟩<;>intro m hm<;>rw[hs] at hm<;>(try simp only[hs,hi])
 .rw[hN];split;·exact hne
  .split;·exact hnx
   .rename_i h1 h2;exact Q2 m (hm.resolve_right h2)
 .have key:∀q,A.has q/\(A.nd q).kind=1->(A.has q\/q=A.len+1)/\(((A.add {kind:=2,DW:=e,Cz:=d}).set e {A.nd e with cont:=A.len+1}).nd q).kind=1:=by
   intro q hq;refine⟨.inl hq.1,?_⟩;rw[hN,if_neg (ne hq.1)];split;·rename_i e1;rw[e1] at hq;exact hq.2
   .exact hq.2
  rw[hN m];split;·exact key _ (ok.Cz e he)
  .split;·exact key _ hd
   .rename_i h1 h2;exact key _ (ok.Cz m (hm.resolve_right h2))
 .rw[hN m];split;·rename_i e1;intro h1;rw[e1];exact ok.YM e he h1
  .split;·intro h1;simp at h1
   .rename_i h1 h2;exact ok.YM m (hm.resolve_right h2)
 .have key:∀q,A.has q->(A.nd q).Fa≠0->(A.has (A.nd q).Fa\/(A.nd q).Fa=A.len+1)/\q∈(((A.add {kind:=2,DW:=e,Cz:=d}).set e {A.nd e with cont:=A.len+1}).nd (A.nd q).Fa).AZ:=by
   intro q hq hp;have h1:=ok.Fa q hq hp;refine⟨.inl h1.1,?_⟩;rw[hN,if_neg (ne h1.1)];split;·rename_i e1;rw[e1] at h1;exact h1.2
   .exact h1.2
  rw[hN m];split;·rename_i e1;rw[e1];exact key e he
  .split;·intro h1;simp at h1
   .rename_i h1 h2;exact key m (hm.resolve_right h2)
 .have key:∀q,A.has q->∀k∈(A.nd q).AZ,(A.has k\/k=A.len+1)/\(((A.add {kind:=2,DW:=e,Cz:=d}).set e {A.nd e with cont:=A.len+1}).nd k).Fa=q:=by
   intro q hq k hk;have h1:=ok.LD q hq k hk;refine⟨.inl h1.1,?_⟩;rw[hN,if_neg (ne h1.1)];split;·rename_i e1;rw[e1] at h1;exact h1.2
   .exact h1.2
  rw[hN m];split;·rename_i e1;rw[e1];exact key e he
  .split;·intro k hk;simp at hk
   .rename_i h1 h2;exact key m (hm.resolve_right h2)
 .intro _;rw[hN m];split;·intro _;exact l0
  .split;·intro h1;simp[YL] at h1
   .rename_i h1 h2;exact ok.jf m (hm.resolve_right h2) h1
 .rw[hN m];split
  .rename_i e1;intro _;simp only
   rw[hN,if_neg (DS nee),if_pos rfl,e1];exact⟨.inr trivial,rfl,rfl⟩
  .split;·intro h1;simp at h1
   .rename_i h1 h2;intro h3;have h4:=ok.cont m (hm.resolve_right h2) h3;refine⟨.inl h4.1,?_⟩;rw[hN,if_neg (ne h4.1)];split;·rename_i e1;rw[e1,hk] at h4;exact absurd h4.2.1 (by decide)
    .exact h4.2
 .rw[hN m];split;·intro h1;exact absurd h0 h1
  .split;·rename_i e1;intro _;simp only;refine⟨.inl he,?_⟩;rw[hN,if_pos rfl,e1]
   .rename_i h1 h2;intro h3;have h4:=ok.DW m (hm.resolve_right h2) h3;refine⟨.inl h4.1,?_⟩;rw[hN,if_neg (ne h4.1)];split;·rename_i e1;rw[e1,hc] at h4;have:=(hm.resolve_right h2).1;omega
    .exact h4.2
 .intro h1;rcases hm with hm|rfl
  .have h2:=ok.M_ m hm h1;refine⟨.inl h2.1,?_⟩;rw[hN,if_neg (ne h2.1)];split;·rename_i e1;rw[e1] at h2;exact h2.2
   .exact h2.2
  .exfalso;apply h1;unfold Ar.inr;rw[if_neg no]
 .by_cases e1:m=A.len+1
  .have e2:((A.add {kind:=2,DW:=e,Cz:=d}).set e {A.nd e with cont:=A.len+1}).up m=e:=by
    have e3:m≠e:=by rw[e1];exact DS nee
    unfold Ar.up;rw[hN m];simp[e1,DS nee]
   rw[e2,if_neg nee,if_pos e1];intro _;omega
  .have hm:=hm.resolve_right e1;have e2:((A.add {kind:=2,DW:=e,Cz:=d}).set e {A.nd e with cont:=A.len+1}).up m=A.up m:=by
    unfold Ar.up;rw[hN];split;·rename_i e3;rw[e3]
    .rfl
   rw[e2,if_neg e1];intro h1;rw[if_neg (ne (gU ok hm h1))];exact hr m hm h1
def Ar.elem(A:Ar)(d sp:Int)(nm:As)(at_:List AU):Ar:=
 let x:Em:={kind:=4,Cz:=d,A0:=sp,name:=nm,Ay:=Cg at_}
 if YL x then
  let A1:=A.add x
  let A2:=A1.CW d
  (A2.add {kind:=2,DW:=A.len+1,Cz:=A1.EX d}).set (A.len+1) {x with cont:=A2.len+1}
 else A.add x
theorem jl{d sp:Int}{nm:As}{l:List AU}(ok:Ew A 0)(hd:A.has d/\(A.nd d).kind=1)(hs:0<=sp/\sp<=7)(hl:∀a∈l,0<=a.A0/\a.A0<=7):Ew (A.elem d sp nm l) 0:=by
 have hx:tZ {kind:=4,Cz:=d,A0:=sp,name:=nm,Ay:=Cg l}:=by constructor<;>simp[XE,hs];exact λa ha=>hl a (bW ha)
 unfold Ar.elem;simp only
 split
 .rename_i hT;have okx:Ew A (A.len+1):={ok with jf:=λh hh _=>ok.jf h hh (by have:=hh.1;omega)};have o1:=Vn okx hx (.inr ⟨by simp,hd⟩) rfl rfl rfl rfl λ_=>rfl;have YO:(A.add {kind:=4,Cz:=d,A0:=sp,name:=nm,Ay:=Cg l}).has d:=Dl.2 (.inl hd.1);obtain⟨o2,h2,h3⟩:=xU o1 YO (by rw[OR];omega);have hN:((A.add {kind:=4,Cz:=d,A0:=sp,name:=nm,Ay:=Cg l}).CW d).nd (A.len+1)={kind:=4,Cz:=d,A0:=sp,name:=nm,Ay:=Cg l}:=by rw[Vo (.inl (by rw[OR];omega)),HO,if_pos rfl]
  have:=jk o2 (Mq (Dl.2 (.inr rfl))) (by rw[hN];exact hT) (by rw[hN]) ⟨h2,h3⟩;rw[hN] at this;exact this
 .rename_i hT;exact Vn ok hx (.inr ⟨by simp,hd⟩) rfl rfl rfl rfl λh=>absurd h hT
end
def aJY(e:Ce):Bool:=decide (e.node=0)
def Vp(n:Int)(e:Ce):Bool:=decide (e.node=n)
def gX(l:List Ce):Int:=AL aJY l+1
def EG(n:Int)(l:List Ce):Int:=if n=0 then -1 else AL (Vp n) l
def Ol(name:As):List Ce->Int
 |[]=> -1
 |x::t=>if x.node=0 then -1 else if x.name=name then(t.length:Int) else Ol name t
def FL(name:As)(l:List Ce):Int:=Ol name l.reverse
def lS(e:Ce):List Ce->Nat
 |[]=>0
 |x::t=>if x.node=0 then 0 else lS e t+(if FN x e=true then 1 else 0)
def cB(e:Ce):List Ce->Int
 |[]=> -1
 |x::t=>if x.node=0 then -1 else if 0<=cB e t then cB e t else if FN x e=true then(t.length:Int) else -1
def cC(e:Ce)(l:List Ce):List Ce:=(if e.node≠0/\3<=lS e l.reverse then A7 l (cB e l.reverse).toNat else l)++[e]
def FD(l:List Ce):List Ce:=l.take (gX l-1).toNat
structure BS where
 a:Ar
 Cz:Int
 AR:List Item
 A3:List Ce
 mode:Int
 R6:Int
 tm:List Int
 head:Int
 Mr:Int
 KL:Bool
 ctx:Item
 fs:Bool
 Eb:Bool
 YP:As
 skip:Bool
 sw:Int
 stop:Bool
def Q3(s:List As)(A:Ar)(h:Int):Prop:=(A.nd h).kind=4/\(A.nd h).A0=1/\(A.nd h).name∈s
instance(s:List As)(A:Ar)(h:Int):Decidable (Q3 s A h):=by unfold Q3;infer_instance
abbrev Ex:As:=aSI
abbrev R7:As:=aS7
abbrev Sa:As:=aS6
abbrev Sb:As:=aS8
abbrev wTr:As:=[116,114]
abbrev wP:As:=[112]
def GU:List As:=[Ex,R7,Sa,Sb,wTr]
namespace BS
def I7(b:BS):Int×Int:=
 let tp:=AL (Bq [A6]) b.AR
 let tb:=AL (Bq [Ex]) b.AR
 if tb<tp then((GB b.AR tp).node,0) else if tb<0 then((GB b.AR 0).node,0) else
 let t:=(GB b.AR tb).node
 if(b.a.nd t).Fa≠0 then((b.a.nd t).Fa,t) else((GB b.AR (max (tb-1) 0)).node,0)
def place(b:BS)(t:Int):Int×Int:=
 if t=0/\b.AR=[] then(b.Cz,0) else
 let t':=if t=0 then(EW b.AR).node else t
 let pb:=if b.Eb=true/\Q3 GU b.a t' then b.I7 else(t',0)
 if(b.a.nd pb.1).cont≠0 then((b.a.nd pb.1).cont,0) else pb
end BS
open Classical in
noncomputable def Ar.D3(A:Ar)(h p bf:Int):Ar:=if(A.nd p).kind=1/\(A.nd h).kind=4/\(∃k∈(A.nd p).AZ,(A.nd k).kind=4) then A else A.Fg p h bf
namespace BS
def Iq(b:BS)(p:Int):Int:=if(b.a.nd p).cont≠0 then(if(b.a.nd (b.a.nd p).cont).Cz≠0 then(b.a.nd (b.a.nd p).cont).Cz else b.Cz) else if(b.a.nd p).Cz≠0 then(b.a.nd p).Cz else b.Cz
def Hq(sp:Int):Prop:=0<=sp/\sp<=7
instance(sp:Int):Decidable (Hq sp):=by unfold Hq;infer_instance
def Ir(sp:Int)(nm:As):As:=if sp=2 then Cb nm H7 else nm
def FE(b:BS)(nm:As)(at_:List AU)(sp:Int):Item:=if Hq sp then⟨b.a.len+1,sp,Ir sp nm,EJ sp (Ir sp nm) (at_.map (CO sp))⟩ else Item.zero
def Ee(b:BS)(nm:As)(at_:List AU)(sp p:Int):BS:=if Hq sp then{b with a:=b.a.elem (b.Iq p) sp (Ir sp nm) (at_.map (CO sp))} else b
def Om(b:BS)(sp:Int):Int:=if Hq sp then b.a.len+1 else 0
noncomputable def Ey(b:BS)(nm:As)(at_:List AU)(sp:Int):BS:=
 if Hq sp then
  let pb:=b.place 0
  let b1:=b.Ee nm at_ sp pb.1
  {b1 with a:=b1.a.D3 (b.a.len+1) pb.1 pb.2,AR:=b1.AR++[b.FE nm at_ sp]}
 else b
noncomputable def Ji(b:BS)(nm:As)(at_:List AU):BS:=
 let b1:=b.Ey nm at_ 1
 {b1 with A3:=cC ⟨b.a.len+1,nm,at_⟩ b1.A3}
end BS
def GV(r:Int):As:=
 if 0<=r/\r<128 then[UInt8.ofNat r.toNat]
 else if 128<=r/\r<2048 then[UInt8.ofNat (192+r.toNat/64),UInt8.ofNat (128+r.toNat%64)]
 else if 2048<=r/\r<65536/\¬(55296<=r/\r<57344) then[UInt8.ofNat (224+r.toNat/4096),UInt8.ofNat (128+r.toNat/64%64),UInt8.ofNat (128+r.toNat%64)]
 else if 65536<=r/\r<=1114111 then[UInt8.ofNat (240+r.toNat/262144),UInt8.ofNat (128+r.toNat/4096%64),UInt8.ofNat (128+r.toNat/64%64),UInt8.ofNat (128+r.toNat%64)]
 else[239,191,189]
def Sc(l:List Int)(bf:Int):Option Int:=if bf=0 then l.getLast? else(l.takeWhile λk=>decide (k≠bf)).getLast?
def Ar.Q4(A:Ar)(h:Int)(s:As):Ar:=A.set h {A.nd h with data:=s}
def Ar.Iv(A:Ar)(h:Int)(l:List AU):Ar:=A.set h {A.nd h with Ay:=Cg l}
namespace BS
noncomputable def Kx(A:Ar)(s:As)(p bf:Int):Ar:=
 if(A.nd p).kind=4\/(A.nd p).kind=2 then
  match Sc (A.nd p).AZ bf with
  |some t=>if(A.nd t).kind=5 then A.Q4 t ((A.nd t).data++s) else(A.add {kind:=5,Cz:=(A.nd p).Cz,data:=s}).D3 (A.len+1) p bf
  |none=>(A.add {kind:=5,Cz:=(A.nd p).Cz,data:=s}).D3 (A.len+1) p bf
 else A
noncomputable def gY(b:BS)(r:Int):BS:={b with a:=Kx b.a (GV r) (b.place 0).1 (b.place 0).2}
noncomputable def Es(A:Ar)(s:As)(p bf:Int):Ar:=
 if Ke (A.nd p).kind then(A.add {kind:=6,Cz:=(A.nd p).Cz,data:=s}).D3 (A.len+1) p bf else A
noncomputable def J2(b:BS)(s:As)(p:Int):BS:={b with a:=if p=0 then Es b.a s (b.place 0).1 (b.place 0).2 else Es b.a s p 0}
noncomputable def OU(b:BS)(nm:As)(at_:List AU)(st:Int):BS:=let b1:=b.Ey nm at_ 1;{b1 with sw:=st,R6:=b1.mode,mode:=8}
def IP(b:BS):BS:=if I6 (Bq [wP]) (IL 3) b.AR.reverse then{b with AR:=Ds CD (Bq [wP]) (Ds (D2 wP) CD b.AR)} else b
def settled(b:BS)(e:Ce):Bool:=decide (e.node=0\/0<=AL (Bp e.node) b.AR)
noncomputable def Iw:List Ce->BS->List Ce×BS
 |[],b=>([],b)
 |e::l,b=>let r:=Iw l (b.Ey e.name e.Ay 1);({e with node:=b.a.len+1}::r.1,r.2)
def Kf(b:BS):Nat:=(AL b.settled b.A3+1).toNat
noncomputable def Dv(b:BS):BS:=let r:=Iw (b.A3.drop b.Kf) b;{r.2 with A3:=b.A3.take b.Kf++r.1}
def C1(b:BS)(nm:As):BS:=match b.AR.reverse.find? λi=>Bq [nm] i||Gc i with
 |some i=>if Bq [nm] i then{b with AR:=Gd i.node (Ds (D2 nm) CD b.AR)} else b
 |none=>b
def IF(l:List Item):Int:=match l.reverse.find? λi=>Bq [A6] i||Bq [Ex] i with
 |some i=>if Bq [A6] i then 16 else 17
 |none=>16
end BS
abbrev Q5:As:=aSN
abbrev OV:As:=aSY
abbrev lT:As:=[98,111,100,121]
abbrev OW:As:=aTe
abbrev J3:As:=aTf
abbrev xV:As:=[116,100]
abbrev xW:As:=[116,104]
abbrev Py:As:=aTm
abbrev Dd:As:=aSL
def Iy:List (As×Int):=[(wTr,14),(R7,13),(Sb,13),(Sa,13),(Q5,11),(OV,12),(Ex,9),(lT,7),(OW,20)]
namespace BS
def Gl(b:BS)(x:Item)(k:Nat):Option Int:=
 if x.A0=1 then
  match Iy.find? λr=>decide (r.1=x.name) with
  |some r=>some r.2
  |none=>
   if x.name=J3 then some (IF (b.AR.take k))
   else if(x.name=xV\/x.name=xW)/\0<k then some 15
   else if x.name=A6 then some (b.tm.getLast?.getD 7)
   else if x.name=Py/\0<k then some 4
   else if x.name=Dd then some (if b.head=0 then 3 else 6)
   else if k=0 then some 7 else none
 else if k=0 then some 7 else none
def D6(b:BS)(k:Nat):Item:=if k=0/\b.KL=true then b.ctx else b.AR.getD k Item.zero
def Ky(b:BS):Nat->Int
 |0=>7
 |k+1=>match b.Gl (b.D6 k) k with
  |some m=>m
  |none=>b.Ky k
def HP(b:BS):BS:={b with mode:=b.Ky b.AR.length}
def plain(l:List AU):List AU:=l.map λa=>⟨0,a.name,a.value⟩
def GF(b:BS)(l:List AU)(h:Int):BS:=if(b.a.nd h).kind=4 then{b with a:=b.a.Iv h ((b.a.nd h).Ay++plain l)} else b
def C8(b:BS):BS:=
 if AL (Bq [A6]) b.AR<0 then b
 else HP {b with AR:=Ds CD (Bq [A6]) (Ds Cs CD b.AR),A3:=FD b.A3,tm:=b.tm.dropLast}
def Qa(b:BS):BS:=if b.AR.length<2 then b else{b with AR:=b.AR.take (b.AR.length-1)}
def gZ(b:BS):Item:=if b.AR.length<2 then Item.zero else EW b.AR
end BS
def Ce.zero:Ce:=⟨0,[],[]⟩
namespace BS
noncomputable def EO(blk anc:Int)(far i:Nat)(b:BS)(l:Int)(m:Nat):BS×Int×Nat:=
 let x:=b.AR.getD i Item.zero
 let e:=EG x.node b.A3
 if e<0 then({b with AR:=A7 b.AR i},l,m)
 else if i+3<far then({b with A3:=A7 b.A3 e.toNat,AR:=A7 b.AR i},l,if e.toNat<m then m-1 else m)
 else
  let en:=b.A3.getD e.toNat Ce.zero
  let n:=b.FE en.name en.Ay 1
  let b1:=b.Ee en.name en.Ay 1 anc
  ({b1 with a:=b1.a.Fg n.node l 0,AR:=b1.AR.set i n,A3:=b1.A3.set e.toNat {en with node:=n.node}},n.node,if l=blk then e.toNat+1 else m)
noncomputable def Jp(blk anc:Int)(far k:Nat):Nat->BS×Int×Nat->BS×Int×Nat
 |0,s=>s
 |c+1,s=>Jp blk anc far k c (EO blk anc far (k+(c+1)) s.1 s.2.1 s.2.2)
noncomputable def Cl(A:Ar)(n:Int)(l:List Int):Ar:=l.foldl (λA x=>A.Fg n x 0) A
noncomputable def FO(fe:Ce)(blk anc:Int)(s:BS×Int×Nat):BS:=
 let b1:=s.1
 let pb:=b1.place anc
 let b2:={b1 with a:=b1.a.D3 s.2.1 pb.1 pb.2}
 let n:=b2.FE fe.name fe.Ay 1
 let b3:=b2.Ee fe.name fe.Ay 1 blk
 let ef:=EG fe.node b3.A3
 let mk:=if ef.toNat<s.2.2 then s.2.2 -1 else s.2.2
 let ac:=A7 b3.A3 ef.toNat
 let op:=CG fe.node b3.AR
 let ip:=Er (AL (Bp blk) op+1) op.length
 {b3 with a:=(Cl b3.a n.node (b3.a.nd blk).AZ).Fg blk n.node 0,A3:=ac.take (Cn mk ac.length)++{fe with node:=n.node}::ac.drop (Cn mk ac.length),AR:=op.take ip++n::op.drop ip}
noncomputable def round(b:BS)(nm:As):Bool×BS:=
 let f:=FL nm b.A3
 if f<0 then(false,b.C1 nm) else
 let fe:=b.A3.getD f.toNat Ce.zero
 let k:=AL (Bp fe.node) b.AR
 if k<0 then(false,{b with A3:=A7 b.A3 f.toNat}) else
 if k=0\/I6 (Bp fe.node) (IL 1) b.AR.reverse=false then(false,b) else
 let far:=DA fe.node b.AR
 if far<0 then(false,{b with AR:=Gd fe.node b.AR,A3:=A7 b.A3 f.toNat}) else
 let blk:=(b.AR.getD far.toNat Item.zero).node
 let anc:=(b.AR.getD (k.toNat-1) Item.zero).node
 (true,FO fe blk anc (Jp blk anc far.toNat k.toNat (far.toNat-1 -k.toNat) (b,blk,f.toNat)))
noncomputable def DM:Nat->BS->As->BS
 |0,b,_=>b
 |n+1,b,nm=>let r:=b.round nm;if r.1 then DM n r.2 nm else r.2
noncomputable def Hr(b:BS)(nm:As):BS:=
 if Bq [nm] (EW b.AR)/\EG (EW b.AR).node b.A3<0 then b.Qa else DM 8 b nm
end BS
end Go.Am
end
