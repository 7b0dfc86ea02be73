/- Lemmas -/
import Derived.Test.YtefjamneieebhaaGreatDoorS18
set_option linter.unusedVariables false
set_option linter.unusedSimpArgs false
section
namespace Go.Am
open Go
set_option maxRecDepth 100000
section
section
variable{α:Type}{z:Nat}
theorem Fb{Au:List (List α)}(h:∀r∈Au,r.length=z):Au.flatten.length=Au.length*z:=by
 induction Au with
 |nil=>simp
 |cons q Au ih=>rw[C9,As,h q (by simp),ih λr hr=>h r (by simp[hr]),Bd,BB];omega
theorem XC{Au:List (List α)}(h:∀r∈Au,r.length=z):∀{k:Nat},Au.flatten.take (k*z)=(Au.take k).flatten:=by
 induction Au with
 |nil=>intro k;simp
 |cons q Au ih=>
  intro k;have hq:=h q (by simp);cases k with
  |zero=>simp
  |succ k=>rw[C9,BB,Ey,Nat.add_comm,List.take_append,Ay (by omega),hq,Nat.add_sub_cancel_left,ih λr hr=>h r (by simp[hr])];simp
theorem HW{Au:List (List α)}(h:∀r∈Au,r.length=z):∀{k:Nat},Au.flatten.drop (k*z)=(Au.drop k).flatten:=by
 induction Au with
 |nil=>intro k;simp
 |cons q Au ih=>
  intro k;have hq:=h q (by simp);cases k with
  |zero=>simp
  |succ k=>rw[C9,BB,Ey,Nat.add_comm,List.drop_append,A3 (by omega),hq,Nat.add_sub_cancel_left,ih λr hr=>h r (by simp[hr])];simp
theorem bP{Au:List (List α)}(h:∀r∈Au,r.length=z){k:Nat}(hk:k<Au.length)(q:List α):Au.flatten.take (k*z)++q++Au.flatten.drop (k*z+z)=(Au.set k q).flatten:=by
 have e:k*z+z=(k+1)*z:=by rw[BB,Ey]
 rw[e,XC h,HW h,BW,if_pos hk];simp
theorem XD{Au:List (List Aa)}(h:∀r∈Au,r.length=z):∀{n off:Nat},off+n<=Au.length->Cj Au.flatten z (off*z) n=(Au.drop off).take n:=by
 intro n;induction n with
 |zero=>intro off _;simp[Cj]
 |succ n ih=>
  intro off hl;rw[Cj];have e:off*z+z=(off+1)*z:=by rw[BB,Ey]
  rw[e,ih (by omega),HW h];have hlt:off<Au.length:=by omega
  rw[AG hlt,C9,CT (by rw[h _ (AI hlt)];exact Ac _),Ay (by rw[h _ (AI hlt)];exact Ac _),aIo]
theorem xW{Au:List (List Aa)}(h:∀r∈Au,r.length=z):Cj Au.flatten z 0 Au.length=Au:=by have:=XD h (n:=Au.length) (off:=0) (by omega);simpa using this
end
section
variable{h:Ad}{id z n:Nat}{Au:List (List Aa)}
theorem JH(hr:∀r∈Au,r.length=z)(hc:h[id]?=some (.cells Au.flatten)):Kl h (.Cl id 0 Au.length z)=some (h.set id .CG,.sl z Au):=by unfold Kl;simp only[hc,BJ];rw[if_pos (by rw[Fb hr];exact Ac _),xW hr]
theorem EX{k:IntKind}{i:Nat}(hi:i<n):Aw (.Fj z) [.Cl id 0 n z,.int k (i:Int)]=some (.ptr (some (id,i*z))):=by
 have:Ma (i:Int) n=some i:=by unfold Ma;rw[if_pos (by omega)];rfl
 simp[Aw,elemOf,this]
theorem S1(hr:∀r∈Au,r.length=z)(hc:h[id]?=some (.cells Au.flatten)){i:Nat}(hi:i<Au.length){q:List Aa}(hq:q.length=z):Cv h z (.ptr (some (id,i*z))) (.agg q)=some (h.set id (.cells (Au.set i q).flatten)):=by
 simp only[Cv,hc,OQ];have:i*z+z<=Au.flatten.length:=by rw[Fb hr];have:=Ez z (show i+1<=Au.length by omega);rwa [BB,Ey] at this
 rw[<-bP hr hi];exact if_pos ⟨hq,this⟩
theorem bQ(hr:∀r∈Au,r.length=z){i:Nat}{q:List Aa}(hq:q.length=z):∀r∈Au.set i q,r.length=z:=by
 intro r h;rcases Dh h with h|rfl
 .exact hr r h
 .exact hq
theorem K5{α:Type}{f:α->List Aa}(hf:∀a,(f a).length=z)(l:List α):∀r∈l.map f,r.length=z:=by intro r h;obtain⟨a,_,rfl⟩:=Bk.1 h;exact hf a
theorem J8{s v:Aa}{b:Nat}(hs:s= .slnil\/s= .sl z [])(hv:AM z Au v)(hne:Au≠[])(hb:Au.length*b<=AS):Jv h z b s v=some (h++[.cells Au.flatten],.Cl h.length 0 Au.length z):=by
 rcases hv with rfl|⟨rfl,hv⟩
 .cases Au with
  |nil=>exact absurd rfl hne
  |cons r Au=>rw[Bd] at hb;rcases hs with rfl|rfl<;>simp[Jv,PL,hb]
 .exact absurd hv hne
theorem Oj{s v:Aa}{b:Nat}(hs:s= .slnil\/s= .sl z [])(hv:AM z [] v):Jv h z b s v=some (h,s):=by rcases hv with rfl|⟨rfl,hv⟩<;>rcases hs with rfl|rfl<;>simp[Jv,PL]
theorem gW{v:Aa}{b:Nat}(hv:AM z [] v):Fk h z b (.Cl id 0 n z) v=some (h,.Cl id 0 n z):=by rcases hv with rfl|⟨rfl,hv⟩<;>simp[Fk,Ge]
theorem IG{v:Aa}{b:Nat}{r2:List (List Aa)}(hr:∀r∈Au,r.length=z)(hz:0<z)(hc:h[id]?=some (.cells Au.flatten))(hv:AM z r2 v)(hne:r2≠[])(hb:(Au.length+r2.length)*b<=AS):
  Fk h z b (.Cl id 0 Au.length z) v=some (h.set id .CG++[.cells (Au++r2).flatten],.Cl h.length 0 (Au.length+r2.length) z):=by
 rcases hv with rfl|⟨rfl,hv⟩
 .cases r2 with
  |nil=>exact absurd rfl hne
  |cons r r2=>
   have hl:=Fb hr;have h1:¬(0+(Au.length+(r::r2).length)*z<=Au.flatten.length):=by rw[hl,Bd,BJ,BB,BB];omega
   have h2:Au.flatten.take (Au.length*z)=Au.flatten:=Ay (by rw[hl];exact Ac _);unfold Fk;simp only[Ge,BK,hc];rw[if_neg h1,if_pos ⟨trivial,by rw[hl];exact Ac _,hb⟩,h2,Wq]
 .exact absurd hv hne
end
end
section
def Fx:List Ap:=[[100,100],[100,116],[108,105],aSM,aSY,[112],[114,98],[114,112],[114,116],[114,116,99]]
def IX:List Ap:=[aSz,aSG,aSN,[116,100],aSK,[116,104],aSO,[116,114]]
def JI:List Ap:=[[109,105],[109,110],[109,111],[109,115],[109,116,101,120,116]]
def OR:List Ap:=[aTa,aSy,aSW]
section
end
def DX(k:Int)(s:Ap):Bool:=
 if k=3 then decide (s=aSs\/s∈JI) else if k=2 then decide (s∈OR) else if k=1 then decide (s∈Mq) else false
def sw(s:Ap)(t e:IT):List Ap->IT
 |[]=>e
 |c::cs=> .op (.str .eql) [.str s,.str c] λv=> .AH v t (sw s t e cs)
theorem xX{C:FG}{Q:Post}{h:Ad}{s:Ap}{t e:IT}:∀{cs:List Ap},W C (sw s t e cs) Q h↔(s∈cs->W C t Q h)/\(s∉cs->W C e Q h)
 |[]=>by simp[sw]
 |c::cs=>by
  simp only[sw,QR,YE,Mp,KM,QS,AL,not_or];rw[xX];by_cases hc:s=c;·simp[hc]
  .simp[hc]
theorem LZ{C:FG}{f:FuncId}{args:List Aa}{r:Aa}:JG C f args r↔W C (B5 C f args) (λx vs _=>x= .ret/\vs=[r]) []:=by
 unfold JG Ev;constructor;·exact λh=>W.mono h λ_ _ _ ⟨h1,r,h2,h3⟩=>⟨h1,by rw[h2,h3]⟩
 .exact λh=>W.mono h λ_ _ _ ⟨h1,h2⟩=>⟨h1,r,h2,rfl⟩
section
variable{Q:Post}{h:Ad}{k:Aa->IT}{s:Ap}
end
section
variable{Q:Post}{h:Ad}{k:Aa->IT}{s:Ap}{n:Int}
end
section
variable{Q:Post}{h:Ad}{k:Aa->IT}{s:Ap}{n:Int}
end
end
section
def Dl:Ap->Ap->List Ap
 |cur,[]=>[cur]
 |cur,c::r=>if c=32 then cur::Dl [] r else Dl (cur++[c]) r
theorem Py{cur:Ap}:Dl cur []=[cur]:=by unfold Dl;rfl
theorem Ok{cur r:Ap}{c:UInt8}:Dl cur (c::r)=if c=32 then cur::Dl [] r else Dl (cur++[c]) r:=by rw[Dl]
def Fy(l s:Ap):Bool:=decide (s≠[]/\(32:UInt8)∉s/\s∈Dl [] l)
theorem bR{s:Ap}{a n:Nat}(ha:a<=n)(hn:n<s.length):(s.take (n+1)).drop a=(s.take n).drop a++[s[n]]:=by rw[Av hn,TP (by simp;omega)]
end
section
theorem DS{l:Ap}{ws:List Ap}{s:Ap}(h1:Dl [] l=ws)(h2:ws.all (λw=> !w.isEmpty&& !w.contains 32)=true):Fy l s=decide (s∈ws):=by
 unfold Fy;rw[h1,D0];refine⟨λh=>h.2.2,λh=>⟨?_,?_,h⟩⟩;·have:=EI.1 h2 s h;rintro rfl;simp at this
 .have:=EI.1 h2 s h;intro h3;simp[h3] at this
section
variable{Q:Post}{h:Ad}{k:Aa->IT}{s:Ap}
theorem gX:Fy aSl s=decide (s∈Mq):=DS (by decide+kernel) (by decide+kernel)
theorem YG:Fy aSF s=decide (s∈JI):=DS (by decide+kernel) (by decide+kernel)
theorem bS:Fy aSu s=decide (s∈OR):=DS (by decide+kernel) (by decide+kernel)
theorem gY:Fy aSq s=decide (s∈Fx):=DS (by decide+kernel) (by decide+kernel)
theorem bT:Fy aSr s=decide (s∈IX):=DS (by decide+kernel) (by decide+kernel)
def HX:List Ap:=[[97,108,116,71,108,121,112,104],[97,108,116,71,108,121,112,104,68,101,102],[97,108,116,71,108,121,112,104,73,116,101,109],[97,110,105,109,97,116,101,67,111,108,111,114],[97,110,105,109,97,116,101,77,111,116,105,111,110],[97,110,105,109,97,116,101,84,114,97,110,115,102,111,114,109],[99,108,105,112,80,97,116,104],[102,101,66,108,101,110,100],[102,101,67,111,108,111,114,77,97,116,114,105,120],[102,101,67,111,109,112,111,110,101,110,116,84,114,97,110,115,102,101,114],[102,101,67,111,109,112,111,115,105,116,101],[102,101,67,111,110,118,111,108,118,101,77,97,116,114,105,120],[102,101,68,105,102,102,117,115,101,76,105,103,104,116,105,110,103],[102,101,68,105,115,112,108,97,99,101,109,101,110,116,77,97,112],[102,101,68,105,115,116,97,110,116,76,105,103,104,116],[102,101,68,114,111,112,83,104,97,100,111,119],[102,101,70,108,111,111,100],[102,101,70,117,110,99,65],[102,101,70,117,110,99,66],[102,101,70,117,110,99,71],[102,101,70,117,110,99,82],[102,101,71,97,117,115,115,105,97,110,66,108,117,114],[102,101,73,109,97,103,101],[102,101,77,101,114,103,101],[102,101,77,101,114,103,101,78,111,100,101],[102,101,77,111,114,112,104,111,108,111,103,121],[102,101,79,102,102,115,101,116],[102,101,80,111,105,110,116,76,105,103,104,116],[102,101,83,112,101,99,117,108,97,114,76,105,103,104,116,105,110,103],[102,101,83,112,111,116,76,105,103,104,116],[102,101,84,105,108,101],[102,101,84,117,114,98,117,108,101,110,99,101],aSy,aTb,[108,105,110,101,97,114,71,114,97,100,105,101,110,116],[114,97,100,105,97,108,71,114,97,100,105,101,110,116],[116,101,120,116,80,97,116,104]]
def Hd:List Ap:=[[97,116,116,114,105,98,117,116,101,78,97,109,101],[97,116,116,114,105,98,117,116,101,84,121,112,101],[98,97,115,101,70,114,101,113,117,101,110,99,121],[98,97,115,101,80,114,111,102,105,108,101],[99,97,108,99,77,111,100,101],[99,108,105,112,80,97,116,104,85,110,105,116,115],[100,105,102,102,117,115,101,67,111,110,115,116,97,110,116],[101,100,103,101,77,111,100,101],[102,105,108,116,101,114,85,110,105,116,115],aTb,[103,114,97,100,105,101,110,116,84,114,97,110,115,102,111,114,109],[103,114,97,100,105,101,110,116,85,110,105,116,115],[107,101,114,110,101,108,77,97,116,114,105,120],[107,101,114,110,101,108,85,110,105,116,76,101,110,103,116,104],[107,101,121,80,111,105,110,116,115],[107,101,121,83,112,108,105,110,101,115],[107,101,121,84,105,109,101,115],[108,101,110,103,116,104,65,100,106,117,115,116],[108,105,109,105,116,105,110,103,67,111,110,101,65,110,103,108,101],[109,97,114,107,101,114,72,101,105,103,104,116],[109,97,114,107,101,114,85,110,105,116,115],[109,97,114,107,101,114,87,105,100,116,104],[109,97,115,107,67,111,110,116,101,110,116,85,110,105,116,115],[109,97,115,107,85,110,105,116,115],[110,117,109,79,99,116,97,118,101,115],[112,97,116,104,76,101,110,103,116,104],[112,97,116,116,101,114,110,67,111,110,116,101,110,116,85,110,105,116,115],[112,97,116,116,101,114,110,84,114,97,110,115,102,111,114,109],[112,97,116,116,101,114,110,85,110,105,116,115],[112,111,105,110,116,115,65,116,88],[112,111,105,110,116,115,65,116,89],[112,111,105,110,116,115,65,116,90],[112,114,101,115,101,114,118,101,65,108,112,104,97],[112,114,101,115,101,114,118,101,65,115,112,101,99,116,82,97,116,105,111],[112,114,105,109,105,116,105,118,101,85,110,105,116,115],[114,101,102,88],[114,101,102,89],[114,101,112,101,97,116,67,111,117,110,116],[114,101,112,101,97,116,68,117,114],[114,101,113,117,105,114,101,100,69,120,116,101,110,115,105,111,110,115],[114,101,113,117,105,114,101,100,70,101,97,116,117,114,101,115],[115,112,101,99,117,108,97,114,67,111,110,115,116,97,110,116],[115,112,101,99,117,108,97,114,69,120,112,111,110,101,110,116],[115,112,114,101,97,100,77,101,116,104,111,100],[115,116,97,114,116,79,102,102,115,101,116],[115,116,100,68,101,118,105,97,116,105,111,110],[115,116,105,116,99,104,84,105,108,101,115],[115,117,114,102,97,99,101,83,99,97,108,101],[115,121,115,116,101,109,76,97,110,103,117,97,103,101],[116,97,98,108,101,86,97,108,117,101,115],[116,97,114,103,101,116,88],[116,97,114,103,101,116,89],[116,101,120,116,76,101,110,103,116,104],[118,105,101,119,66,111,120],[118,105,101,119,84,97,114,103,101,116],[120,67,104,97,110,110,101,108,83,101,108,101,99,116,111,114],[121,67,104,97,110,110,101,108,83,101,108,101,99,116,111,114],[122,111,111,109,65,110,100,80,97,110]]
def M8:List Ap:=[aSx,aSv,aSo]
theorem rP:Fy aSC s=decide (s∈M8):=DS (by decide+kernel) (by decide+kernel)
def K6:List Ap:=[aSM,aSY]
theorem gZ:Fy aSH s=decide (s∈K6):=DS (by decide+kernel) (by decide+kernel)
def P7:List Ap:=[[111,108],[117,108]]
theorem xY:Fy aTc s=decide (s∈P7):=DS (by decide+kernel) (by decide+kernel)
def OS:List Ap:=[aS3,aSz,aSx,aS0,aS5,aSv,[116,100],aSo,[116,104]]
theorem rQ:Fy aSn s=decide (s∈OS):=DS (by decide+kernel) (by decide+kernel)
end
section
variable{Q:Post}{h:Ad}{k:Aa->IT}{s:Ap}{n:Int}
end
end
section
def HY(c:UInt8):UInt8:=if 65<=c.toNat/\c.toNat<=90 then c+32 else c
def Fc(s:Ap):Ap:=s.map HY
theorem QX{c:UInt8}(h:65<=c.toNat/\c.toNat<=90):((HY c).toNat:Int)=(c.toNat:Int)+32:=by
 unfold HY;rw[if_pos h,UInt8.toNat_add];have:UInt8.toNat 32=32:=by decide
 rw[this];omega
theorem M9{c:UInt8}(h:¬(65<=c.toNat/\c.toNat<=90)):HY c=c:=by unfold HY;rw[if_neg h]
theorem P8{s:Ap}{n:Nat}(hn:n<s.length):Fc (s.take (n+1))=Fc (s.take n)++[HY s[n]]:=by rw[Av hn];unfold Fc;rw[BH];rfl
def Nz(b:UInt8):Aa:= .int .u8 (b.toNat:Int)
def GM(s:Ap)(n:Nat):Ap:=Fc (s.take n)++s.drop n
theorem Vd(s:Ap)(n:Nat):(GM s n).length=s.length:=by simp[GM,Fc];omega
theorem Ve{s:Ap}{n:Nat}(hn:n<s.length):(GM s n)[n]?=some s[n]:=by unfold GM Fc;rw[Bg (by simp;omega)];simp only[Ai,Al,Cm (WY hn),DC];rw[AG hn];rfl
theorem QY{s:Ap}{n:Nat}(hn:n<s.length):GM s (n+1)=(GM s n).set n (HY s[n]):=by
 unfold GM;rw[P8 hn,B2 _ _ (by simp[Fc];omega)];have e:n-(Fc (s.take n)).length=0:=by simp[Fc];omega
 rw[e,AG hn,List.set_cons_zero,AD];rfl
theorem bU(s:Ap):GM s s.length=Fc s:=by simp[GM,Fc]
theorem xZ{α:Type}{l:List α}{i:Nat}{v:α}(h:l[i]?=some v):l.set i v=l:=by
 apply List.ext_getElem?;intro j;rw[List.getElem?_set];split
 .rename_i e;subst e;split;·exact h.symm
  .rename_i hl;rw[EZ (by omega)]
 .rfl
theorem hC{cs:List Aa}{i:Nat}{v:Aa}(h:cs[i]?=some v):A6 [.cells cs] none (.ptr (some (0,i)))=some v:=by simpa[A6] using h
theorem WN{α:Type}{l:List α}{i:Nat}{v:α}(h:i<l.length):l.take i++v::l.drop (i+1)=l.set i v:=by rw[BW,if_pos h]
theorem bV{cs:List Aa}{i:Nat}{v:Aa}(h:i<cs.length)(hv:v.cells=[v]):Cv [.cells cs] 1 (.ptr (some (0,i))) v=some [.cells (cs.set i v)]:=by simp only[Cv,hv,JN,Br];rw[if_pos ⟨trivial,by omega⟩,<-WN h];simp
theorem Ol(s:Ap):∀(n o:Nat),o+n=s.length->Cj (s.map Nz) 1 o n=BZ (s.drop o)
 |0,o,h=>by rw[A3 (by omega)];rfl
 |n+1,o,h=>by
  have ho:o<s.length:=by omega
  have e:(s.map Nz).drop o=Nz s[o]::(s.map Nz).drop (o+1):=by rw[AG (by simpa using ho)];simp
  rw[Cj,Ol s n (o+1) (by omega),AG ho,e];rfl
end
section
def Ca(name:Ap):List Ap->Ap
 |[]=>name
 |w::ws=>if Fc w=name then w else Ca name ws
def CH(w:Ap):List Aa:=[.str w]
def KN:Ap:=aSm
def Mr:Ap:=aSk
theorem Vf:Dl [] KN=HX:=by decide+kernel
theorem Vg:Dl [] Mr=Hd:=by decide+kernel
end
section
structure AU where
 AZ:Int
 name:Ap
 value:Ap
 deriving DecidableEq
def AU.row(a:AU):List Aa:=[.int .i64 a.AZ,.str a.name,.str a.value]
structure Item where
 node:Int
 AZ:Int
 name:Ap
 NA:Bool
 deriving DecidableEq
def Item.row(a:Item):List Aa:=[.int .i64 a.node,.int .i64 a.AZ,.str a.name,.bool a.NA]
def IH(ns:List Ap)(v:Aa):Prop:=AM 1 (ns.map CH) v
def Bw(l:List AU)(v:Aa):Prop:=AM 3 (l.map AU.row) v
def BN(l:List Item)(v:Aa):Prop:=AM 4 (l.map Item.row) v
def lV(l:List AU):Prop:=l.length<=12/\∀x∈l,x.name.length<=60/\x.value.length<=200
instance(l:List AU):Decidable (lV l):=by unfold lV;infer_instance
def yA(l:List Ap):Prop:=l.length<=12/\∀x∈l,x.length<=60
instance(l:List Ap):Decidable (yA l):=by unfold yA;infer_instance
def lW(l:List Item):Prop:=l.length<=60/\∀x∈l,x.name.length<=60
instance(l:List Item):Decidable (lW l):=by unfold lW;infer_instance
end
section
def B9{α:Type}(p:α->Bool)(n:Nat):List α->Int
 |[]=> -1
 |a::l=>if p a then(n:Int) else B9 p (n+1) l
theorem GN{α:Type}{p:α->Bool}:∀{l:List α} {k:Nat},(B9 p k l= -1/\l.find? p=none)\/∃(n:Nat) (a:α),B9 p k l=((k+n:Nat):Int)/\l[n]?=some a/\l.find? p=some a
 |[],k=> .inl ⟨rfl,rfl⟩
 |a::l,k=>by
  unfold B9;by_cases h:p a=true;·exact .inr ⟨0,a,by rw[if_pos h];rfl,rfl,by simp[h]⟩
  .rw[if_neg h];rcases GN (p:=p) (l:=l) (k:=k+1) with⟨h1,h2⟩|⟨n,b,h1,h2,h3⟩
   .exact .inl ⟨h1,by simp[h,h2]⟩
   .exact .inr ⟨n+1,b,by rw[h1];congr 1;omega,by simpa using h2,by simp[h,h3]⟩
def NB(a:AU):Bool:=decide (a.AZ=0/\a.name=aS4)
theorem S2{s:Ap}(h:s.all (λc=> !(65<=c.toNat&&c.toNat<=90))=true):Fc s=s:=by
 unfold Fc;conv=>rhs;rw[<-List.map_id s]
 apply List.map_congr_left;intro c hc;have:=EI.1 h c hc;refine M9 λh2=>?_;simp[h2.1,h2.2] at this
abbrev aEo:Ap:=aSs
abbrev lX:Ap:=aS1
abbrev YH:Ap:=aSA
def EH(n:Int)(s:Ap)(l:List AU):Bool:=
 if n=2 then DX 2 s else if n≠3 then false else if s≠aEo then false else match l.find? NB with
  |none=>false
  |some a=>decide (Fc a.value=lX\/Fc a.value=YH)
end
section
section
variable{α:Type}{f:α->List Aa}{l l2:List α}{v v2:Aa}{z b:Nat}{k k2:IntKind}
theorem AM.Cp(hv:AM z (l.map f) v):Aw (.len false) [v]=some (.int .i64 (l.length:Int)):=by have:=AM.len hv;rwa [Ai] at this
theorem AM.Bz(hv:AM z (l.map f) v){n:Nat}(hn:n<l.length):Aw (.Fj z) [v,.int k (n:Int)]=some (.CA (f l[n])):=by have:=AM.Fj hv (k:=k) (n:=n) (by simpa using hn);simpa using this
theorem AM.K8(hv:AM z (l.map f) v){n:Nat}(hn:n<=l.length):∃u,Aw (.Hq z false false true) [v,.int k (n:Int)]=some u/\AM z ((l.take n).map f) u:=by
 rcases hv with rfl|⟨rfl,h⟩
 .have e1:EJ (n:Int) (l.map f).length=some n:=by unfold EJ;rw[Ai,if_pos (by omega)];rfl
  refine⟨.sl z ((l.map f).take n),?_,.inl (by rw[HS])⟩;simp only[Aw,I5,DI,e1,BR,and_self,BK,Qm]
 .have:l=[]:=by simpa using h
  subst this;have:n=0:=by simpa using hn
  subst this;exact⟨.slnil,rfl,.inr ⟨rfl,rfl⟩⟩
theorem AM.QZ(hv:AM z (l.map f) v){n:Nat}(hn:n<=l.length):∃u,Aw (.Hq z false true false) [v,.int k (n:Int)]=some u/\AM z ((l.drop n).map f) u:=by
 rcases hv with rfl|⟨rfl,h⟩
 .have e1:EJ (n:Int) (l.map f).length=some n:=by unfold EJ;rw[Ai,if_pos (by omega)];rfl
  refine⟨.sl z ((l.map f).drop n),?_,.inl (by rw[NP])⟩;simp only[Aw,I5,DI,e1,BR,and_self,BK,Bu]
 .have:l=[]:=by simpa using h
  subst this;have:n=0:=by simpa using hn
  subst this;exact⟨.slnil,rfl,.inr ⟨rfl,rfl⟩⟩
theorem AM.YI(hv:AM z (l.map f) v)(UI:AM z (l2.map f) v2)(hb:(l.length+l2.length)*b<=AS):∃u,Aw (.append z b) [v,v2]=some u/\AM z ((l++l2).map f) u:=by obtain⟨u,e,hu⟩:=AM.HA hv UI (b:=b) (by simpa using hb);exact⟨u,e,by rwa [BH]⟩
theorem AM.Gj(UI:AM z (l2.map f) v2)(hb:l2.length*b<=AS):∃u,Aw (.append z b) [.slnil,v2]=some u/\AM z (l2.map f) u:=by obtain⟨u,e,hu⟩:=AM.HA (v:= .slnil) (r:=[]) .nil UI (b:=b) (by simpa using hb);exact⟨u,e,by simpa using hu⟩
theorem AM.Jb{a:α}(hv:AM z (l.map f) v)(hb:(l.length+1)*b<=AS):Aw (.append z b) [v,.sl z [f a]]=some (.sl z ((l++[a]).map f)):=by rw[AM.xT hv (by simpa using hb)];simp
end
theorem CJ{a b:Int}(h1: -9223372036854775808<=a-b)(h2:a-b<9223372036854775808):Aw (.int .sub) [.int .i64 a,.int .i64 b]=some (.int .i64 (a-b)):=by rw[gV,wrap_i64 h1 h2]
theorem OT{a b:Int}(h1: -9223372036854775808<=a+b)(h2:a+b<9223372036854775808):Aw (.int .add) [.int .i64 a,.int .i64 b]=some (.int .i64 (a+b)):=by rw[YD,wrap_i64 h1 h2]
def Item.zero:Item:=⟨0,0,[],false⟩
theorem Item.Co{a:Item}:a.row.length=4:=rfl
theorem Item.g0{a:Item}{d:Aa}:a.row.getD 0 d= .int .i64 a.node:=rfl
theorem Item.g1{a:Item}{d:Aa}:a.row.getD 1 d= .int .i64 a.AZ:=rfl
theorem Item.g2{a:Item}{d:Aa}:a.row.getD 2 d= .str a.name:=rfl
theorem Item.g3{a:Item}{d:Aa}:a.row.getD 3 d= .bool a.NA:=rfl
theorem Item.uv{a:Item}:a.row[0]?=some (.int .i64 a.node):=rfl
theorem Item.Gx{a:Item}:a.row.take 4=a.row:=rfl
theorem Item.bW{a:Item}:a.row.drop 1=[.int .i64 a.AZ,.str a.name,.bool a.NA]:=rfl
theorem Item.uw{a:Item}:a.row.drop 2=[.str a.name,.bool a.NA]:=rfl
theorem Item.ux{a:Item}:a.row.drop 3=[.bool a.NA]:=rfl
theorem Item.NJ{a:Item}:[Aa.int .i64 a.node,.int .i64 a.AZ,.str a.name,.bool a.NA]=a.row:=rfl
theorem Item.fill{a:Item}:AK [.int .i64 0,.int .i64 0,.str [],.bool false] ([(0,1),(1,1),(2,1),(3,1)].zip a.row)=some a.row:=rfl
theorem EB:type_of%(And.intro @Item.fill (And.intro @Item.Co (And.intro @Item.g0 (And.intro @Item.g1 (And.intro @Item.g2 (And.intro @Item.g3 (And.intro @Item.uv (And.intro @Item.Gx (And.intro @Item.bW (And.intro @Item.uw (And.intro @Item.ux (And.intro @Item.NJ (And.intro @B8 (@BC.{0})))))))))))))):=And.intro @Item.fill (And.intro @Item.Co (And.intro @Item.g0 (And.intro @Item.g1 (And.intro @Item.g2 (And.intro @Item.g3 (And.intro @Item.uv (And.intro @Item.Gx (And.intro @Item.bW (And.intro @Item.uw (And.intro @Item.ux (And.intro @Item.NJ (And.intro @B8 (@BC.{0})))))))))))))
def Gy(l:List Item)(i:Int):Item:=if 0<=i then l.getD i.toNat Item.zero else Item.zero
def D7(l:List Item):Item:=Gy l ((l.length:Int)-1)
def AJ{α:Type}(q:α->Bool)(l:List α):Int:=match l.reverse.findIdx? q with
 |some k=>(l.length:Int)-1 -k
 |none=> -1
theorem IY{α:Type}{q:α->Bool}:AJ q []= -1:=rfl
theorem HZ{α:Type}{q:α->Bool}{l:List α}{a:α}:AJ q (l++[a])=if q a then(l.length:Int) else AJ q l:=by
 unfold AJ;rw[Ns,Qo,Rz,List.findIdx?_cons];by_cases h:q a=true;·simp only[h,BK,As,Br];omega
 .simp only[h,D9,C1,As,Br];cases List.findIdx? q l.reverse with
  |none=>rfl
  |some k=>simp only[BR];omega
theorem F8{α:Type}{q:α->Bool}{l:List α}{n:Nat}(hn:n<l.length):AJ q (l.take (n+1))=if q l[n] then(n:Int) else AJ q (l.take n):=by rw[Av hn,HZ,Al,Cm (WY hn)]
theorem CP{α:Type}{q:α->Bool}{l:List α}:(AJ q l= -1/\∀a∈l,q a=false)\/∃(n:Nat) (hn:n<l.length),AJ q l=(n:Int)/\q l[n]=true/\∀m (hm:m<l.length),n<m->q l[m]=false:=by
 have key:∀r:List α,(AJ q r.reverse= -1/\∀a∈r.reverse,q a=false)\/∃(n:Nat) (hn:n<r.reverse.length),AJ q r.reverse=(n:Int)/\q r.reverse[n]=true/\∀m (hm:m<r.reverse.length),n<m->q r.reverse[m]=false:=by
  intro r;induction r with
  |nil=>exact .inl ⟨rfl,by simp⟩
  |cons a r ih=>
   rw[FN,HZ];by_cases h:q a=true;·refine .inr ⟨r.reverse.length,by simp,by rw[if_pos h],by simp[h],λm hm hlt=>?_⟩;simp at hm hlt;omega
   .rw[if_neg h];rcases ih with⟨h1,h2⟩|⟨n,hn,h1,h2,h3⟩
    .exact .inl ⟨h1,λb hb=>by
      rcases Ao.1 hb with hb|hb
      .exact h2 b hb
      .simp at hb;subst hb;simpa using h⟩
    .refine .inr ⟨n,by simp at hn⊢;omega,h1,by rw[Jj hn];exact h2,λm hm hlt=>?_⟩;by_cases Tq:m<r.reverse.length;·rw[Jj Tq];exact h3 m Tq hlt
     .have:m=r.reverse.length:=by simp at hm Tq⊢;omega
      subst this;simpa using h
 have:=key l.reverse;rwa [GU] at this
def At(h:Ad)(id o:Nat)(v:Aa):Prop:=∃cs,h[id]?=some (.cells cs)/\cs[o]?=some v
def put(h:Ad)(id o:Nat)(u:Aa):Ad:=match h[id]? with
 |some (.cells cs)=>h.set id (.cells (cs.set o u))
 |_=>h
section
variable{h t:Ad}{id o:Nat}{u v w:Aa}
theorem Hm{cs:List Aa}(hc:h[id]?=some (.cells cs)):put h id o u=h.set id (.cells (cs.set o u)):=by unfold put;rw[hc]
theorem IC:(put h id o u).length=h.length:=by unfold put;split<;>simp
theorem At.lt(ha:At h id o v):id<h.length:=by obtain⟨cs,hc,_⟩:=ha;exact(Ah.1 hc).1
theorem At.load(ha:At h id o v):A6 h none (.ptr (some (id,o)))=some v:=by obtain⟨cs,hc,e⟩:=ha;simp only[A6,hc,Et,e]
theorem At.store(ha:At h id o v)(hu:u.cells=[u]):Cv h 1 (.ptr (some (id,o))) u=some (put h id o u):=by
 obtain⟨cs,hc,e⟩:=ha;have hl:=(Ah.1 e).1;rw[Hm hc];simp only[Cv,hc,hu,Br,NO];have e2:cs.set o u=cs.take o++[u]++cs.drop (o+1):=by rw[BW,if_pos hl];simp
 rw[if_pos (show o+1<=cs.length by omega),e2]
theorem At.put(ha:At h id o v):At (put h id o u) id o u:=by obtain⟨cs,hc,e⟩:=ha;have hl:=(Ah.1 e).1;have hi:=(Ah.1 hc).1;rw[Hm hc];exact⟨cs.set o u,by simp[hi],by simp[hl]⟩
theorem At.same(ha:At h id o v):Am.put h id o v=h:=by obtain⟨cs,hc,e⟩:=ha;obtain⟨hl,e⟩:=Ah.1 e;obtain⟨hi,e2⟩:=Ah.1 hc;rw[Hm hc,<-e,RC,<-e2,RC]
theorem YJ:Am.put (Am.put h id o u) id o w=Am.put h id o w:=by
 cases hc:h[id]? with
 |none=>
  have e:∀u,Am.put h id o u=h:=λu=>by unfold Am.put;rw[hc]
  rw[e,e]
 |some x=>cases x with
  |cells cs=>have hi:=(Ah.1 hc).1;rw[Hm hc,Hm hc,Hm (cs:=cs.set o u) (by simp[hi])];simp
  |_=>
   have e:∀u,Am.put h id o u=h:=λu=>by unfold Am.put;rw[hc]
   rw[e,e]
theorem At.HA(ha:At h id o v):At (h++t) id o v:=by obtain⟨cs,hc,e⟩:=ha;exact⟨cs,by rw[Af (Ah.1 hc).1];exact hc,e⟩
theorem YK(ha:At h id o v):Am.put (h++t) id o u=Am.put h id o u++t:=by have hi:=ha.lt;obtain⟨cs,hc,e⟩:=ha;rw[Hm hc,Hm (by rw[Af hi];exact hc),List.set_append_left _ _ hi]
theorem B4{i:Nat}(hn:i≠id):(Am.put h id o u)[i]?=h[i]?:=by
 unfold Am.put;split;·rw[Aj (DQ hn)]
 .rfl
end
def uJ(h:Ad)(p:Aa)(l:List Item):Prop:=(p= .ptr none/\l=[])\/∃id o v,p= .ptr (some (id,o))/\At h id o v/\BN l v
theorem He{l:List Item}{n:Nat}(hn:n<l.length):Gy l (n:Int)=l[n]:=by
 have:(0:Int)<=(n:Int):=by omega
 simp[Gy,this,hn]
theorem Na{l:List Item}{i:Int}(h:i<0\/(l.length:Int)<=i):Gy l i=Item.zero:=by
 unfold Gy;rcases h with h|h
 .rw[if_neg (by omega)]
 .rw[if_pos (by omega),AE,EZ (by omega)];rfl
section
variable{h:Ad}{p:Aa}{l:List Item}
theorem i_{s:Ap}{ws:List Ap}:decide (0<=B9 (λw=>decide (s=w)) 0 ws)=decide (s∈ws):=by
 rcases GN (p:=λw=>decide (s=w)) (l:=ws) (k:=0) with⟨h1,h2⟩|⟨n,a,h1,h2,h3⟩
 .rw[h1,D0];have:=ZE.1 h2;exact⟨λh=>by omega,λh=>absurd (show s=s from rfl) (by simpa using this s h)⟩
 .rw[h1,D0];have e:s=a:=by simpa using List.find?_some h3
  have:a∈ws:=CD h2;refine⟨λ_=>e▸this,λ_=>by omega⟩
def Bp(ws:List Ap)(a:Item):Bool:=decide (a.AZ=1/\a.name∈ws)
theorem CQ{ws:List Ap}:IH ws (.sl 1 (ws.map CH)):= .mk
def II(n:Int)(a:Item):Bool:=
 if n=4 then Bp M8 a else if n=5 then !Bp K6 a else if a.AZ=3\/a.AZ=2 then DX a.AZ a.name
 else Bp OS a||(decide (n=2)&&Bp P7 a)||(decide (n=3)&&Bp [aSw] a)
theorem DE{ws:List Ap}{args:List Aa}(e:args=ws.map Aa.str)(h:ws.length<=16777216):Aw (.Bx 1) args=some (.sl 1 (ws.map CH)):=by
 subst e;have e1:(ws.map Aa.str).all (λa=>a.cells.length==1)=true:=by simp
 have e2:(ws.map Aa.str).map (·.cells)=ws.map CH:=by simp[CH]
 rw[lU,e1,e2];simp[h]
theorem hZ:Aw (.Bx 1) [S aSx,S aSv,S aSo]=some (.sl 1 (M8.map CH)):=DE (ws:=M8) rfl (by decide)
theorem bX:Aw (.Bx 1) [S aSM,S aSY]=some (.sl 1 (K6.map CH)):=DE (ws:=K6) rfl (by decide)
theorem rR:Aw (.Bx 1) [S [111,108],S [117,108]]=some (.sl 1 (P7.map CH)):=DE (ws:=P7) rfl (by decide)
theorem iA:Aw (.Bx 1) [S aS3,S aSz,S aSx,S aS0,S aS5,S aSv,S [116,100],S aSo,S [116,104]]=some (.sl 1 (OS.map CH)):=DE (ws:=OS) rfl (by decide)
theorem rS:Aw (.Bx 1) [S aSw]=some (.sl 1 ([aSw].map CH)):=DE (ws:=[aSw]) rfl (by decide)
def I2{α:Type}(q e:α->Bool):List α->Bool
 |[]=>false
 |a::r=>if q a then true else if e a then false else I2 q e r
theorem iB{α:Type}{q e:α->Bool}(l:List α)(b:Bool):(if h:0<=AJ (λa=>q a||e a) l/\(AJ (λa=>q a||e a) l).toNat<l.length then q (l[(AJ (λa=>q a||e a) l).toNat]'h.2) else false)=I2 q e l.reverse:=by
 have key:∀r:List α,(if h:0<=AJ (λa=>q a||e a) r.reverse/\(AJ (λa=>q a||e a) r.reverse).toNat<r.reverse.length then q (r.reverse[(AJ (λa=>q a||e a) r.reverse).toNat]'h.2) else false)=I2 q e r:=by
  intro r;induction r with
  |nil=>simp[I2,IY]
  |cons a r ih=>
   simp only[FN,I2];have e0:=HZ (q:=λa=>q a||e a) (l:=r.reverse) (a:=a);by_cases hq:q a=true
   .rw[if_pos (by simp[hq])] at e0;have e1:(AJ (λa=>q a||e a) (r.reverse++[a])).toNat=r.reverse.length:=by rw[e0];omega
    simp only[e1];rw[dif_pos ⟨by rw[e0];omega,by simp⟩];simp[hq]
   .by_cases he:e a=true
    .rw[if_pos (by simp[he])] at e0;have e1:(AJ (λa=>q a||e a) (r.reverse++[a])).toNat=r.reverse.length:=by rw[e0];omega
     simp only[e1];rw[dif_pos ⟨by rw[e0];omega,by simp⟩];simp[hq,he]
    .rw[if_neg (by simp[hq,he])] at e0;simp only[hq,he,D9,C1,<-ih,e0];rcases CP (q:=λa=>q a||e a) (l:=r.reverse) with⟨h1,h2⟩|⟨n,hn,h1,h2,h3⟩
     .simp[h1]
     .have c1:(0:Int)<=(n:Int)/\(n:Int).toNat<r.reverse.length:=⟨by omega,by simpa using hn⟩;have c2:(0:Int)<=(n:Int)/\(n:Int).toNat<(r.reverse++[a]).length:=⟨by omega,by simp at hn⊢;omega⟩;simp only[h1];rw[dif_pos c1,dif_pos c2,Jj c1.2]
 have:=key l.reverse;rwa [GU] at this
theorem IH.cells{v:Aa}{ws:List Ap}(hv:IH ws v):v.cells=[v]:=AM.cells hv
def Bm(node:Int)(a:Item):Bool:=decide (a.node=node)
end
end
section
section
variable{h:Ad}{p v:Aa}{l:List Item}
theorem XE{n s:Int}{t:Ap}{b:Bool}:Aw (.Bs [I 0,I 0,S [],ff] [(0,1),(1,1),(2,1),(3,1)]) [.int .i64 n,.int .i64 s,.str t,.bool b]=some (.agg (Item.row ⟨n,s,t,b⟩)):=by simp only[AB];rfl
theorem K9{a:Item}:Aw (.Bx 4) [.agg a.row]=some (.sl 4 [a.row]):=K4 rfl (by decide)
def KG(h:Ad)(id o:Nat)(l:List Item):Prop:=∃v,At h id o v/\BN l v
theorem KG.at{id o:Nat}(hs:KG h id o l):uJ h (.ptr (some (id,o))) l:=let⟨v,h1,h2⟩:=hs; .inr ⟨id,o,v,rfl,h1,h2⟩
theorem BN.cells(hv:BN l v):v.cells=[v]:=AM.cells hv
def F9(a:Item):Bool:=DX a.AZ a.name
def Dz(node:Int)(l:List Item):Int:=if AJ (Bm node) l<0 then -1 else match(l.drop ((AJ (Bm node) l).toNat+1)).findIdx? F9 with
 |some k=>AJ (Bm node) l+1+k
 |none=> -1
def Em{α:Type}(q:α->Bool)(l:List α)(n:Nat):Int:=match(l.drop n).findIdx? q with
 |some k=>(n:Int)+k
 |none=> -1
theorem Pz{α:Type}{q:α->Bool}{l:List α}{n:Nat}(h:l.length<=n):Em q l n= -1:=by unfold Em;rw[A3 h];rfl
theorem Q0{α:Type}{q:α->Bool}{l:List α}{n:Nat}(h:n<l.length):Em q l n=if q l[n] then(n:Int) else Em q l (n+1):=by
 unfold Em;rw[AG h,List.findIdx?_cons];by_cases hq:q l[n]=true;·simp only[hq,BK];omega
 .simp only[hq,C1,D9];cases List.findIdx? q (l.drop (n+1)) with
  |none=>rfl
  |some k=>simp only[BR];omega
theorem HL{node:Int}:Dz node l=if AJ (Bm node) l<0 then -1 else Em F9 l ((AJ (Bm node) l).toNat+1):=by
 unfold Dz Em;by_cases h:AJ (Bm node) l<0;·simp only[h,BK]
 .simp only[h,D9];cases(l.drop ((AJ (Bm node) l).toNat+1)).findIdx? F9 with
  |none=>rfl
  |some k=>simp only;omega
def Vh{α:Type}(q e:α->Bool):List α->Bool
 |[]=>false
 |a::r=>(q a&& !(r.any e))||Vh q e r
theorem S3{α:Type}{q e:α->Bool}{a:α}:∀{r:List α},I2 q e (r++[a])=((q a&& !(r.any e))||I2 q e r)
 |[]=>by by_cases h:q a=true<;>simp[I2,h]
 |b::r=>by
  simp only[CB,I2,S3 (r:=r)];by_cases h1:q b=true;·simp[h1]
  .by_cases h2:e b=true<;>simp[h1,h2]
theorem bY{α:Type}{q e:α->Bool}:∀{l:List α},Vh q e l=I2 q e l.reverse
 |[]=>rfl
 |a::l=>by rw[FN,S3,Vh,bY];simp
theorem G_{α:Type}{q e:α->Bool}(l:List α):(if AJ q l<0 then false else !((l.drop ((AJ q l).toNat+1)).any e))=I2 q e l.reverse:=by
 have key:∀r:List α,(if AJ q r.reverse<0 then false else !((r.reverse.drop ((AJ q r.reverse).toNat+1)).any e))=I2 q e r:=by
  intro r;induction r with
  |nil=>rfl
  |cons a r ih=>
   simp only[FN,I2,HZ];by_cases hq:q a=true;·simp only[hq,BK];rw[if_neg (by omega),AQ,A3 (by simp)];rfl
   .simp only[hq,D9,C1,<-ih];rcases CP (q:=q) (l:=r.reverse) with⟨h1,h2⟩|⟨n,hn,h1,h2,h3⟩
    .simp[h1]
    .have i0:¬(n:Int)<0:=by omega
     rw[h1,if_neg i0,if_neg i0,AQ,TP (by omega),List.any_append];cases he:e a<;>simp only[List.any_cons,List.any_nil,he,Bool.or_false,Bool.or_true,C1,D9,BK,kN]
 have:=key l.reverse;rwa [GU] at this
end
end
section
theorem Ev.ret{C:FG}{f:FuncId}{args:List Aa}{h:Ad}{R:Aa->Ad->Prop}(hw:Ev C f args h R):∃r h',BI C f args h r h'/\R r h':=by obtain⟨n,x,vs,h',e,hx,r,hv,hR⟩:=hw;exact⟨r,h',⟨n,x,vs,h',e,hx,hv,rfl⟩,hR⟩
def Om(b a:Item->Bool):List Item->List Item
 |x::y::r=>if b x then x::y::r else if a x then y::r else Om b a (y::r)
 |r=>r
def Dr(b a:Item->Bool)(l:List Item):List Item:=(Om b a l.reverse).reverse
theorem rT{b a:Item->Bool}{l:List Item}(h:l.length<=1):Om b a l=l:=by
 match l with
 |[]=>rfl
 |[x]=>rfl
 |x::y::r=>simp at h
theorem Vi{b a:Item->Bool}{l:List Item}(h:l.length<=1):Dr b a l=l:=by unfold Dr;rw[rT (by simpa using h),GU]
theorem XF{b a:Item->Bool}{l:List Item}{x:Item}(h:1<=l.length):Dr b a (l++[x])=if b x then l++[x] else if a x then l else Dr b a l:=by
 unfold Dr;rw[Ns,Qo,Rz];cases hr:l.reverse with
 |nil=>
  have:l=[]:=by simpa using hr
  subst this;simp at h
 |cons y r=>
  have hl:l=r.reverse++[y]:=by rw[<-GU l,hr,FN]
  rw[Om];by_cases h1:b x=true;·rw[if_pos h1,if_pos h1];rw[hl];simp
  .rw[if_neg h1,if_neg h1];by_cases h2:a x=true;·rw[if_pos h2,if_pos h2];rw[hl];simp
   .rw[if_neg h2,if_neg h2]
theorem XG{b a:Item->Bool}{l:List Item}{n:Nat}(hn:n+1<l.length):Dr b a (l.take (n+2))=if b l[n+1] then l.take (n+2) else if a l[n+1] then l.take (n+1) else Dr b a (l.take (n+1)):=by have e:l.take (n+2)=l.take (n+1)++[l[n+1]]:=Av hn;rw[e,XF (by rw[Al];omega)]
theorem OU{b a:Item->Bool}:∀{l:List Item},(Dr b a l).length<=l.length:=by
 have key:∀r:List Item,(Om b a r).length<=r.length:=by
  intro r;induction r with
  |nil=>simp[Om]
  |cons x r ih=>
   cases r with
   |nil=>simp[Om]
   |cons y r=>
    rw[Om];split;·simp
    .split;·simp
     .exact Bt ih (by simp)
 intro l;have:=key l.reverse;simpa[Dr] using this
section
variable{h:Ad}{p v:Aa}{l:List Item}
theorem Vj{n:Nat}(hn:n<l.length):D7 (l.take (n+1))=l[n]:=by
 have e:((l.take (n+1)).length:Int)-1=(n:Int):=by rw[Al];omega
 unfold D7;rw[e,He (by rw[Al];omega)];simp
theorem KG.YL{id o:Nat}(hs:KG h id o l):∃u,h=put h id o u/\BN l u:=by obtain⟨u,hc,hu⟩:=hs;exact⟨u,hc.same.symm,hu⟩
theorem KG.lt{id o:Nat}(hs:KG h id o l):∃v,At h id o v:=let⟨u,hc,_⟩:=hs;⟨u,hc⟩
theorem KG.H_{id o:Nat}{u:Aa}(hlt:∃v,At h id o v)(hu:BN l u):KG (put h id o u) id o l:=let⟨_,ha⟩:=hlt;⟨u,ha.put,hu⟩
def CC(_:Item):Bool:=false
def DY(s:Ap)(a:Item):Bool:=decide (a.AZ≠1\/a.name∉Fx\/a.name=s)
def Cs(a:Item):Bool:=decide (a.AZ≠1\/¬(a.name∈IX\/a.name∈Fx))
def Ga(node:Int)(l:List Item):List Item:=if AJ (Bm node) l<0 then l else Dr CC (Bm node) l
def JJ(l:List Item)(i:Int):List Item:=l.take (max 1 i.toNat)
theorem Nb{q:Item->Bool}(l:List Item):Dr CC q l=JJ l (AJ q l):=by
 have key:∀r:List Item,Dr CC q r.reverse=JJ r.reverse (AJ q r.reverse):=by
  intro r;induction r with
  |nil=>rfl
  |cons x r ih=>
   rw[FN,HZ];rcases OC r.length with h0|h0
   .have:r=[]:=uA.1 h0;subst this;by_cases hq:q x=true<;>simp[hq,JJ,Dr,Om,IY]
   .have h1:1<=r.reverse.length:=by rw[Ws];omega
    rw[XF h1];by_cases hq:q x=true;·rw[if_neg (by simp[CC]),if_pos hq,if_pos hq];unfold JJ;rw[AQ,Nat.max_eq_right h1,CT (Ac _),Bu]
    .rw[if_neg (by simp[CC]),if_neg hq,if_neg hq,ih];unfold JJ;rw[CT];rcases CP (q:=q) (l:=r.reverse) with⟨e1,_⟩|⟨n,hn,e1,_⟩<;>rw[e1]<;>omega
 have:=key l.reverse;rwa [GU] at this
theorem S4{node:Int}(l:List Item):Ga node l=if AJ (Bm node) l<0 then l else JJ l (AJ (Bm node) l):=by unfold Ga;rw[Nb]
end
end
section
section
variable{h:Ad}{p v:Aa}{l:List Item}
theorem yB(l:List Item):∀r∈l.map Item.row,r.length=4:=K5 (f:=Item.row) (λa=>Item.Co) l
theorem PC{n:Nat}(h:n<=2000000000):n*40<=AS:=by have:AS=140737488355328:=rfl;omega
def A7{α:Type}(l:List α)(k:Nat):List α:=l.take k++l.drop (k+1)
def CF(node:Int)(l:List Item):List Item:=if AJ (Bm node) l<1 then l else A7 l (AJ (Bm node) l).toNat
def En(i:Int)(n:Nat):Nat:=min (max i 1).toNat n
def On(node:Int)(a:Item)(l:List Item):List Item:=if AJ (Bm node) l<1 then l else l.set (AJ (Bm node) l).toNat a
def YM(h:Ad)(l:List Item)(r:Aa)(h':Ad):Prop:=(l=[]/\r= .slnil/\h'=h)\/(l≠[]/\r= .Cl h.length 0 l.length 4/\h'=h++[.cells (l.map Item.row).flatten])
theorem ja(hv:BN l v)(hb:l.length<=1000000000):∃r h',Jv h 4 40 .slnil v=some (h',r)/\YM h l r h':=by
 by_cases hne:l=[];·subst hne;exact⟨_,_,Oj (.inl rfl) hv,.inl ⟨rfl,rfl,rfl⟩⟩
 .have e3:=J8 (h:=h) (s:= .slnil) (z:=4) (b:=40) (.inl rfl) hv (by simpa using hne) (by rw[Ai];exact PC (by omega));rw[Ai] at e3;exact⟨_,_,e3,.inr ⟨hne,rfl,rfl⟩⟩
theorem YM.KR{r:Aa}{h':Ad}(hc:YM h l r h'):∃u t,Kl h' r=some (h++t,u)/\BN l u:=by
 rcases hc with⟨rfl,rfl,rfl⟩|⟨hne,rfl,rfl⟩
 .exact⟨.slnil,[],by rw[BC];rfl,.nil⟩
 .have c5:(h++[Dc.cells (l.map Item.row).flatten])[h.length]?=some (.cells (l.map Item.row).flatten):=by simp
  have f1:=JH (yB l) c5;rw[Ai] at f1;refine⟨.sl 4 (l.map Item.row),[.CG],?_,.mk⟩;rw[f1];congr 2
  rw[B2 _ _ (Ac _)];simp
end
end
section
theorem bZ{a b:Item}{neg:Bool}:Aw (.geq neg [.i,.i,.s,.b]) [.agg a.row,.agg b.row]=some (.bool (decide (a=b) != neg)):=by
 rw[M6];have:Ds [.i,.i,.s,.b] a.row b.row=some (decide (a=b)):=by simp only[Ds,Ju,Item.row,BK,BA];cases a;cases b;simp only[Item.mk.injEq];rw[Bool.eq_iff_iff];simp
 rw[this];rfl
end
section
section
variable{h:Ad}{p v w:Aa}{l:List Item}{ws:List Ap}
theorem yC:JJ l (-1)=JJ l 1:=rfl
def Ee(s:Ap)(all:Bool)(a:Item):Bool:=if all then Cs a else DY s a
end
end
section
def fT:List (Ap×Int×Ap):=[(aSE,4,aS8),(aSD,4,aS6),(aSP,4,aTe),(aSQ,4,aTf),(aSR,4,aTg),(aSI,4,aSW),(aSS,4,aTh),(aSU,5,[108,97,110,103]),(aSJ,5,aTd),(aSL,6,aSL),(aSB,6,aS2)]
def Vk(x:Ap×Int×Ap):Aa×Aa:=(.str x.1,.agg [.int .i64 x.2.1,.str x.2.2,.str []])
def ft(n:Nat):List (Aa×Aa):=(fT.take n).map Vk
theorem aEp:ND aSE (.agg [.int .i64 4,.str aS8,.str []]) (ft 0)=some (ft 1):=by kernel_rfl
theorem aEq:ND aSD (.agg [.int .i64 4,.str aS6,.str []]) (ft 1)=some (ft 2):=by kernel_rfl
theorem aEr:ND aSP (.agg [.int .i64 4,.str aTe,.str []]) (ft 2)=some (ft 3):=by kernel_rfl
theorem aEs:ND aSQ (.agg [.int .i64 4,.str aTf,.str []]) (ft 3)=some (ft 4):=by kernel_rfl
theorem aEt:ND aSR (.agg [.int .i64 4,.str aTg,.str []]) (ft 4)=some (ft 5):=by kernel_rfl
theorem aEu:ND aSI (.agg [.int .i64 4,.str aSW,.str []]) (ft 5)=some (ft 6):=by kernel_rfl
theorem aEv:ND aSS (.agg [.int .i64 4,.str aTh,.str []]) (ft 6)=some (ft 7):=by kernel_rfl
theorem aEw:ND aSU (.agg [.int .i64 5,.str [108,97,110,103],.str []]) (ft 7)=some (ft 8):=by kernel_rfl
theorem aEx:ND aSJ (.agg [.int .i64 5,.str aTd,.str []]) (ft 8)=some (ft 9):=by kernel_rfl
theorem aEy:ND aSL (.agg [.int .i64 6,.str aSL,.str []]) (ft 9)=some (ft 10):=by kernel_rfl
theorem I_:ND aSB (.agg [.int .i64 6,.str aS2,.str []]) (ft 10)=some (ft 11):=by kernel_rfl
theorem iC{h:Ad}{es:List (Aa×Aa)}{s:Ap}{v:Aa}:SA (h++[.map es]) (.map (some h.length)) (.str s) v=(ND s v es).map λes=>h++[.map es]:=by simp[SA]
def DF(n:Ap):Option (Int×Ap):=(fT.find? λx=>decide (n=x.1)).map (·.2)
theorem Vl(n:Ap):∀l:List (Ap×Int×Ap),Uj n (l.map Vk)=some ((l.find? λx=>decide (n=x.1)).map λx=>(Vk x).2)
 |[]=>rfl
 |x::l=>by
  rw[Bl,I1,Vk,Uj];by_cases e:n=x.1;·rw[if_pos e,Az e];rfl
  .rw[if_neg e,AA e];exact Vl n l
theorem La{h:Ad}{n:Ap}:SB (h++[.map (ft 11)]) (.agg [.int .i64 0,.str [],.str []]) true (.map (some h.length)) (.str n)=
  some (match DF n with|some (s,m)=> .tuple [.agg [.int .i64 s,.str m,.str []],.bool true]|none=> .tuple [.agg [.int .i64 0,.str [],.str []],.bool false]):=by
 have e:Uk (h++[.map (ft 11)]) (.map (some h.length)) (.str n)=Uj n (fT.map Vk):=by simp[Uk,ft,fT]
 rw[SB,e,Vl,DF];cases fT.find? λx=>decide (n=x.1)<;>rfl
abbrev J_:Ap:=aST
abbrev Tx:Ap:=aSV
def Jc(sp:Int)(n:Ap):Ap:=if sp=2 then Ca n Hd else if sp=3/\n=J_ then Tx else n
def CM(sp:Int)(a:AU):AU:=
 if sp=2\/sp=3 then match DF (Jc sp a.name) with
  |some (s,m)=>⟨s,m,a.value⟩
  |none=>⟨0,Jc sp a.name,a.value⟩
 else⟨0,a.name,a.value⟩
theorem Q1(s:Ap):(Fc s).length=s.length:=by simp[Fc]
theorem Ks(n:Ap):∀ws,Ca n ws=n\/(Ca n ws∈ws/\Fc (Ca n ws)=n)
 |[]=> .inl rfl
 |w::ws=>by
  rw[Ca];split;·rename_i e;exact .inr ⟨List.mem_cons_self,e⟩
  .rcases Ks n ws with h|⟨h1,h2⟩
   .exact .inl h
   .exact .inr ⟨List.mem_cons_of_mem _ h1,h2⟩
theorem Q2(n:Ap)(ws:List Ap):(Ca n ws).length=n.length:=by
 rcases Ks n ws with h|⟨_,h⟩
 .rw[h]
 .rw[<-Q1,h]
theorem DO{a b c:Aa}:Aw (.Bx 3) [.agg [a,b,c]]=some (.sl 3 [[a,b,c]]):=rfl
theorem AU.Co{a:AU}:a.row.length=3:=rfl
theorem AU.Gx{a:AU}:a.row.take 3=a.row:=rfl
section
variable{v:Aa}{l:List AU}{h:Ad}
theorem cA{a b:AU}{neg:Bool}:Aw (.geq neg [.i,.s,.s]) [.agg a.row,.agg b.row]=some (.bool (decide (a=b) != neg)):=by
 rw[M6];have:Ds [.i,.s,.s] a.row b.row=some (decide (a=b)):=by simp only[Ds,Ju,AU.row,BK,BA];cases a;cases b;simp only[AU.mk.injEq];rw[Bool.eq_iff_iff];simp
 rw[this];rfl
def KH:List Ap:=[aSE,aSD,aSP,aSQ,aSR,aSI,aSS]
theorem jb{s:Ap}:Fy aSp s=decide (s∈KH):=DS (by decide+kernel) (by decide+kernel)
theorem XH{k:IntKind}{s:Ap}{a z:Nat}(ha:a<=s.length):Aw (.Hq z true true false) [.str s,.int k (a:Int)]=some (.str (s.drop a)):=by
 have e1:EJ (a:Int) s.length=some a:=by unfold EJ;rw[if_pos (by omega)];rfl
 simp[Aw,I5,DI,e1]
abbrev cB:Ap:=aSU
abbrev Vm:Ap:=aSJ
abbrev cC:Ap:=aSL
abbrev Vn:Ap:=aSB
theorem WO:∀s∈KH,6<=s.length/\DF s=some (4,s.drop 6):=by decide
theorem YN{s:Ap}(h1:s∉KH)(h2:s≠cB)(h3:s≠Vm)(h4:s≠cC)(h5:s≠Vn):DF s=none:=by simp only[KH,AL,Sy,or_false,not_or] at h1;obtain⟨a1,a2,a3,a4,a5,a6,a7⟩:=h1;simp only[DF,fT,I1,List.find?_nil,AA a1,AA a2,AA a3,AA a4,AA a5,AA a6,AA a7,AA h2,AA h3,AA h4,AA h5,Option.map_none]
abbrev iD:Ap:=aS2
theorem PD(s:Ap):(s∈KH/\6<=s.length/\DF s=some (4,s.drop 6))\/(s∉KH/\((s=cB/\4<=s.length/\DF s=some (5,s.drop 4))\/(¬s=cB/\((s=Vm/\4<=s.length/\DF s=some (5,s.drop 4))\/(¬s=Vm/\((s=cC/\DF s=some (6,s))\/(¬s=cC/\((s=Vn/\DF s=some (6,iD))\/(¬s=Vn/\DF s=none))))))))):=by
 by_cases c1:s∈KH;·exact .inl ⟨c1,WO s c1⟩
 refine .inr ⟨c1,?_⟩;by_cases c2:s=cB;·subst c2;decide
 refine .inr ⟨c2,?_⟩;by_cases c3:s=Vm;·subst c3;decide
 refine .inr ⟨c3,?_⟩;by_cases c4:s=cC;·subst c4;decide
 refine .inr ⟨c4,?_⟩;by_cases c5:s=Vn;·subst c5;decide
 exact .inr ⟨c5,YN c1 c2 c3 c4 c5⟩
theorem sl6{s:Ap}(h:6<=s.length):Aw (.Hq 0 true true false) [.str s,.int .i64 6]=some (.str (s.drop 6)):=XH h
theorem sl4{s:Ap}(h:4<=s.length):Aw (.Hq 0 true true false) [.str s,.int .i64 4]=some (.str (s.drop 4)):=XH h
end
end
section
structure Cc where
 node:Int
 name:Ap
 Ax:List AU
deriving DecidableEq
structure B3 where
 c:Cc
 v:Aa
 ok:Bw c.Ax v
def B3.row(e:B3):List Aa:=[.int .i64 e.c.node,.str e.c.name,e.v]
def CZ(l:List B3)(v:Aa):Prop:=AM 3 (l.map B3.row) v
section
variable{e:B3}{d:Aa}
theorem B3.Co:e.row.length=3:=rfl
theorem B3.g0:e.row.getD 0 d= .int .i64 e.c.node:=rfl
theorem B3.g1:e.row.getD 1 d= .str e.c.name:=rfl
theorem B3.g2:e.row.getD 2 d=e.v:=rfl
theorem B3.uv:e.row[0]?=some (.int .i64 e.c.node):=rfl
theorem B3.Gx:e.row.take 3=e.row:=rfl
theorem B3.bW:e.row.drop 1=[.str e.c.name,e.v]:=rfl
theorem B3.NJ:[Aa.int .i64 e.c.node,.str e.c.name,e.v]=e.row:=rfl
theorem B3.jc:Aw (.len false) [e.v]=some (.int .i64 (e.c.Ax.length:Int)):=AM.Cp e.ok
end
theorem AU.g0{a:AU}{d:Aa}:a.row.getD 0 d= .int .i64 a.AZ:=rfl
theorem AU.g1{a:AU}{d:Aa}:a.row.getD 1 d= .str a.name:=rfl
theorem AU.g2{a:AU}{d:Aa}:a.row.getD 2 d= .str a.value:=rfl
theorem AU.NJ{a:AU}:[Aa.int .i64 a.AZ,.str a.name,.str a.value]=a.row:=rfl
theorem Oo{n:Nat}(h:n<=2000000000):n*48<=AS:=by have:AS=140737488355328:=rfl;omega
def R4(e:B3):Bool:=decide (e.c.node=0)
def Oq(n:Int)(e:B3):Bool:=decide (e.c.node=n)
def since(l:List B3):Int:=AJ R4 l+1
theorem rU:since []=0:=rfl
theorem iE{l:List B3}{e:B3}:since (l++[e])=if e.c.node=0 then(l.length:Int)+1 else since l:=by unfold since;rw[HZ];by_cases h:e.c.node=0<;>simp[R4,h]
theorem Vo{l:List B3}{n:Nat}(hn:n<l.length):since (l.take (n+1))=if l[n].c.node=0 then(n:Int)+1 else since (l.take n):=by rw[Av hn,iE,Al,Cm (WY hn)]
theorem IJ(l:List B3):∃s:Nat,since l=(s:Int)/\s<=l.length/\(∀m (hm:m<l.length),s<=m->l[m].c.node≠0)/\(∀t,s=t+1->∃ht:t<l.length,l[t].c.node=0):=by
 rcases CP (q:=R4) (l:=l) with⟨h1,h2⟩|⟨n,hn,h1,h2,h3⟩
 .refine⟨0,by unfold since;rw[h1];rfl,AR _,λm hm _=>?_,λt ht=>by omega⟩;have:=h2 _ (AI hm);simpa[R4] using this
 .refine⟨n+1,by unfold since;rw[h1];rfl,hn,λm hm DV=>?_,λt ht=>?_⟩;·have:=h3 m hm (by omega);simpa[R4] using this
  .obtain rfl:t=n:=by omega
   exact⟨hn,by simpa[R4] using h2⟩
section
variable{h:Ad}{v:Aa}{l:List B3}{id:Nat}
def lY(name:Ap):List B3->Int
 |[]=> -1
 |e::t=>if e.c.node=0 then -1 else if e.c.name=name then(t.length:Int) else lY name t
def Ms(name:Ap)(l:List B3):Int:=lY name l.reverse
theorem P9{name:Ap}{n:Nat}(hn:n<l.length):Ms name (l.take (n+1))=if l[n].c.node=0 then -1 else if l[n].c.name=name then(n:Int) else Ms name (l.take n):=by rw[Av hn,Ms,Ns,Qo,Rz,lY,Ws,Al,Cm (WY hn),Ms]
theorem rV{name:Ap}:Ms name []= -1:=rfl
theorem cD{name:Ap}{s:Nat}(hs:since l=(s:Int)):Ms name (l.take s)= -1:=by
 obtain⟨s',e,h1,h2,h3⟩:=IJ l;obtain rfl:s=s':=by omega
 cases s with
 |zero=>rfl
 |succ t=>obtain⟨ht,h0⟩:=h3 t rfl;rw[P9 ht,if_pos h0]
def Gz(node:Int)(l:List B3):Int:=if node=0 then -1 else AJ (Oq node) l
end
section
variable{h:Ad}{v:Aa}{l:List AU}
def FL(a b:Cc):Bool:=decide (a.name=b.name/\a.Ax.length=b.Ax.length/\(∀x∈a.Ax,x∈b.Ax)/\∀x∈b.Ax,x∈a.Ax)
def WQ(e:B3):Prop:=e.c.Ax.length<=1000000000
end
end
section
mutual
theorem Aa.Q3:∀a:Aa,Aa.beq a a=true
 | .bool a=>by simp[Aa.beq]
 | .int k a=>by simp[Aa.beq]
 | .str a=>by simp[Aa.beq]
 | .ptr a=>by simp[Aa.beq]
 | .CA a=>by simp[Aa.beq,Aa.JK a]
 | .sl n a=>by simp[Aa.beq,Aa.Vp a]
 | .slnil=>by simp[Aa.beq]
 | .Cl a c d e=>by simp[Aa.beq]
 | .map a=>by simp[Aa.beq]
 | .func f a c=>by simp[Aa.beq,Aa.JK a,Aa.JK c]
 | .nilFunc=>by simp[Aa.beq]
 | .iface t a=>by simp[Aa.beq,Aa.Q3 a]
 | .nilIface=>by simp[Aa.beq]
 | .agg a=>by simp[Aa.beq,Aa.JK a]
 | .tuple a=>by simp[Aa.beq,Aa.JK a]
theorem Aa.JK:∀a:List Aa,Aa.Qs a a=true
 |[]=>by simp[Aa.Qs]
 |a::x=>by simp[Aa.Qs,Aa.Q3 a,Aa.JK x]
theorem Aa.Vp:∀a:List (List Aa),Aa.Qt a a=true
 |[]=>by simp[Aa.Qt]
 |a::x=>by simp[Aa.Qt,Aa.JK a,Aa.Vp x]
end
def R5(h:Ad)(id o:Nat)(l:List B3):Prop:=∃u,At h id o u/\CZ l u
theorem CZ.cells{l:List B3}{v:Aa}(hv:CZ l v):v.cells=[v]:=AM.cells hv
theorem R5.lt{h:Ad}{id o:Nat}{l:List B3}(hs:R5 h id o l):∃v,At h id o v:=let⟨u,hc,_⟩:=hs;⟨u,hc⟩
theorem Nc(l:List B3):∀r∈l.map B3.row,r.length=3:=K5 (f:=B3.row) (λa=>B3.Co) l
section
variable{h:Ad}{v:Aa}{l:List B3}{id:Nat}
theorem KO{r:List Aa}(h:r.length=3):Aw (.Bx 3) [.agg r]=some (.sl 3 [r]):=K4 (a:= .agg r) h (by decide)
theorem cE(n:Int)(l:List B3):Gz n l= -1\/∃k:Nat,k<l.length/\Gz n l=(k:Int):=by
 unfold Gz;split;·exact .inl rfl
 .rcases CP (q:=Oq n) (l:=l) with⟨h1,_⟩|⟨k,hk,h1,_⟩
  .exact .inl h1
  .exact .inr ⟨k,hk,h1⟩
def YO:B3:=⟨⟨0,[],[]⟩,.slnil,.nil⟩
theorem yD:[I 0,S [],Aa.slnil]=YO.row:=rfl
def Ck(i:Int)(n:Nat):Nat:=min (max i 0).toNat n
def Ef(l:List B3):Nat:=(since l-1).toNat
end
end
section
def jd(e:Cc):List B3->Nat
 |[]=>0
 |x::t=>if x.c.node=0 then 0 else jd e t+(if FL x.c e=true then 1 else 0)
def iF(e:Cc):List B3->Int
 |[]=> -1
 |x::t=>if x.c.node=0 then -1 else if 0<=iF e t then iF e t else if FL x.c e=true then(t.length:Int) else -1
def Q4(e:Cc)(l:List B3):Nat:=jd e l.reverse
def Mt(e:Cc)(l:List B3):Int:=iF e l.reverse
section
variable{e:Cc}{l:List B3}{n s:Nat}
theorem R6(hn:n<l.length):Q4 e (l.take (n+1))=if l[n].c.node=0 then 0 else Q4 e (l.take n)+(if FL l[n].c e=true then 1 else 0):=by rw[Av hn,Q4,Ns,Qo,Rz,jd,Q4]
theorem R7(hn:n<l.length):Mt e (l.take (n+1))=if l[n].c.node=0 then -1 else if 0<=Mt e (l.take n) then Mt e (l.take n) else if FL l[n].c e=true then(n:Int) else -1:=by rw[Av hn,Mt,Ns,Qo,Rz,iF,Mt,Ws,Al,Cm (WY hn)]
theorem Vq(hs:since l=(s:Int)):Q4 e (l.take s)=0/\Mt e (l.take s)= -1:=by
 obtain⟨s',e,h1,h2,h3⟩:=IJ l;obtain rfl:s=s':=by omega
 cases s with
 |zero=>exact⟨rfl,rfl⟩
 |succ t=>obtain⟨ht,h0⟩:=h3 t rfl;exact⟨by rw[R6 ht,if_pos h0],by rw[R7 ht,if_pos h0]⟩
end
def Kt(e:Cc)(l:List B3):List B3:=if e.node≠0/\3<=Q4 e l then A7 l (Mt e l).toNat else l
section
variable{h:Ad}{v:Aa}{l:List B3}{id:Nat}
end
end
section
section
variable{h:Ad}{v:Aa}{l:List B3}{id:Nat}
end
end
end Go.Am
end
section
namespace Go.Am
set_option maxRecDepth 100000
structure Eg where
 kind:Int:=0
 E6:Int:=0
 AY:List Int:=[]
 Cy:Int:=0
 AZ:Int:=0
 name:Ap:=[]
 Ax:List AU:=[]
 data:Ap:=[]
 pub:Ap:=[]
 sys:Ap:=[]
 Cq:Bool:=false
 cont:Int:=0
 DT:Int:=0
deriving DecidableEq
structure Ar where
 n:List Eg
 i:List Int
abbrev A5:Ap:=aSo
def YP(x:Eg):Prop:=x.kind=4/\x.AZ=1/\x.name=A5
instance(x:Eg):Decidable (YP x):=by unfold YP;infer_instance
namespace Ar
def len(A:Ar):Int:=A.n.length
def has(A:Ar)(h:Int):Prop:=1<=h/\h<=A.n.length
instance(A:Ar)(h:Int):Decidable (A.has h):=by unfold has;infer_instance
def nd(A:Ar)(h:Int):Eg:=if A.has h then A.n.getD (h.toNat-1) {} else{}
def inr(A:Ar)(h:Int):Int:=if A.has h then A.i.getD (h.toNat-1) 0 else 0
def set(A:Ar)(h:Int)(x:Eg):Ar:={n:=if A.has h then A.n.set (h.toNat-1) x else A.n,i:=A.i}
def H5(A:Ar)(h:Int)(x:Int):Ar:={n:=A.n,i:=if A.has h then A.i.set (h.toNat-1) x else A.i}
def add(A:Ar)(x:Eg):Ar:={n:=A.n++[x],i:=A.i++[0]}
def up(A:Ar)(h:Int):Int:=if(A.nd h).E6≠0 then(A.nd h).E6 else(A.nd h).DT
end Ar
section
variable{A:Ar}{h k:Int}{x y:Eg}
theorem GI(hh:¬A.has h):A.nd h={}:=by unfold Ar.nd;rw[if_neg hh]
theorem It:(A.set h x).n.length=A.n.length:=by simp only[Ar.set];split<;>simp
theorem je:(A.set h x).len=A.len:=by unfold Ar.len;rw[It]
theorem Hw:(A.set h x).has k↔A.has k:=by unfold Ar.has;rw[It]
theorem IK:(A.set h x).nd k=if k=h/\A.has h then x else A.nd k:=by
 unfold Ar.nd;simp only[Hw];by_cases hk:A.has k
 .rw[if_pos hk,if_pos hk];simp only[Ar.set];by_cases hh:A.has h
  .rw[if_pos hh];have h1:=hh;have h2:=hk;unfold Ar.has at h1 h2;by_cases e:k=h;·subst e;rw[if_pos ⟨rfl,hh⟩,AE,AN (by omega)];rfl
   .rw[if_neg (by simp[e]),AE,Aj (by omega),AE]
  .rw[if_neg hh,if_neg (by simp[hh])]
 .rw[if_neg hk,if_neg hk,if_neg];rintro⟨rfl,h2⟩;exact hk h2
theorem Q5:(A.set h x).inr k=A.inr k:=by unfold Ar.inr;simp only[Hw];rfl
theorem OV:(A.add x).len=A.len+1:=by simp[Ar.len,Ar.add]
theorem Di:(A.add x).has k↔A.has k\/k=A.len+1:=by simp[Ar.has,Ar.add,Ar.len];omega
theorem HM:(A.add x).nd k=if k=A.len+1 then x else A.nd k:=by
 unfold Ar.nd;simp only[Di];by_cases e:k=A.len+1;·subst e;simp[Ar.add,Ar.len]
 .by_cases hk:A.has k;·rw[if_pos (.inl hk),if_neg e,if_pos hk];unfold Ar.has at hk;simp only[Ar.add,AE];rw[Af (by omega)]
  .rw[if_neg (by simp[hk,e]),if_neg e,if_neg hk]
theorem T5(hl:A.i.length=A.n.length):(A.add x).inr k=A.inr k:=by
 unfold Ar.inr;simp only[Di];by_cases e:k=A.len+1
 .subst e;have:¬A.has (A.len+1):=by unfold Ar.has Ar.len;omega
  rw[if_pos (.inr rfl),if_neg this];simp[Ar.add,Ar.len,<-hl]
 .by_cases hk:A.has k;·rw[if_pos (.inl hk),if_pos hk];unfold Ar.has at hk;simp only[Ar.add,AE];rw[Af (by omega)]
  .rw[if_neg (by simp[hk,e]),if_neg hk]
theorem Q6:(A.H5 h k).len=A.len:=rfl
theorem Mu{m:Int}:(A.H5 h m).has k↔A.has k:=Iff.rfl
theorem Q7{m:Int}:(A.H5 h m).nd k=A.nd k:=by rfl
theorem Ot{m:Int}(hl:A.i.length=A.n.length):(A.H5 h m).inr k=if k=h/\A.has h then m else A.inr k:=by
 unfold Ar.inr;simp only[Mu];by_cases hk:A.has k
 .rw[if_pos hk,if_pos hk];simp only[Ar.H5];by_cases hh:A.has h
  .rw[if_pos hh];have h1:=hh;have h2:=hk;unfold Ar.has at h1 h2;by_cases e:k=h;·subst e;rw[if_pos ⟨rfl,hh⟩,AE,AN (by omega)];rfl
   .rw[if_neg (by simp[e]),AE,Aj (by omega),AE]
  .rw[if_neg hh,if_neg (by simp[hh])]
 .rw[if_neg hk,if_neg hk,if_neg];rintro⟨rfl,h2⟩;exact hk h2
end
def C7(a:AU):Int×Ap:=(a.AZ,a.name)
def GA(out:List AU):List AU->List AU
 |[]=>out
 |x::l=>if out.any (λy=>decide (C7 x=C7 y)) then GA out l else GA (out++[x]) l
def Ce(l:List AU):List AU:=GA [] l
theorem Qa:∀{l out:List AU},(out.map C7).Nodup->((GA out l).map C7).Nodup
 |[],_,h=>h
 |x::l,out,h=>by
  rw[GA];split;·exact Qa h
  .rename_i hn;refine Qa ?_;rw[BH,B7];refine⟨h,by simp,?_⟩;rintro a ha b hb rfl;simp at hb;subst hb;simp at ha hn;obtain⟨y,hy,e⟩:=ha;exact hn y hy e.symm
theorem cF:∀{l out:List AU},((out++l).map C7).Nodup->GA out l=out++l
 |[],out,_=>by simp[GA]
 |x::l,out,h=>by
  rw[GA,if_neg,cF (by simpa using h)];·simp
  .intro ha;rw[BH,B7] at h;simp at ha;obtain⟨y,hy,e⟩:=ha;exact h.2.2 _ (Bk.2 ⟨y,hy,e.symm⟩) _ (by simp) rfl
theorem rW(l:List AU):((Ce l).map C7).Nodup:=Qa (by simp)
theorem jf{l:List AU}(h:(l.map C7).Nodup):Ce l=l:=by have:=cF (out:=[]) (l:=l) (by simpa using h);simpa[Ce] using this
theorem XI(l:List AU):Ce (Ce l)=Ce l:=jf (rW l)
theorem Sa:∀{l out:List AU} {a:AU},a∈GA out l->a∈out\/a∈l
 |[],_,_,h=> .inl h
 |x::l,out,a,h=>by
  rw[GA] at h;split at h
  .rcases Sa h with h|h
   .exact .inl h
   .exact .inr (by simp[h])
  .rcases Sa h with h|h
   .simp at h;rcases h with h|rfl
    .exact .inl h
    .exact .inr (by simp)
   .exact .inr (by simp[h])
theorem cG{l:List AU}{a:AU}(h:a∈Ce l):a∈l:=by simpa using Sa h
theorem Vr:∀{l out:List AU},(GA out l).length<=out.length+l.length
 |[],out=>by simp[GA]
 |x::l,out=>by
  rw[GA];split;·have:=Vr (l:=l) (out:=out);simp;omega
  .have:=Vr (l:=l) (out:=out++[x]);simp at this⊢;omega
theorem OW{l:List AU}:(Ce l).length<=l.length:=by have:=Vr (l:=l) (out:=[]);simpa[Ce] using this
structure uK(x:Eg):Prop where
 k:1<=x.kind/\x.kind<=6
 AY:x.AY≠[]->x.kind=1\/x.kind=2\/x.kind=4
 elem:x.kind≠4->x.AZ=0/\x.Ax=[]
 nm:x.kind≠4->x.kind≠3->x.name=[]
 dt:x.kind≠3->x.pub=[]/\x.sys=[]
 data:x.kind≠5->x.kind≠6->x.data=[]
 Cq:x.kind≠1->x.Cq=false
 sp:0<=x.AZ/\x.AZ<=7
 dw:∀a∈x.Ax,0<=a.AZ/\a.AZ<=7
 Ce:Ce x.Ax=x.Ax
 S5:x.cont≠0->YP x
 Ou:x.DT≠0->x.kind=2
 root:x.E6≠0->x.kind≠1/\x.kind≠2
 rX:x.AY.Nodup
structure Eu(A:Ar)(e:Int):Prop where
 il:A.i.length=A.n.length
 Q8:∀h,A.has h->uK (A.nd h)
 Cy:∀h,A.has h->A.has (A.nd h).Cy/\(A.nd (A.nd h).Cy).kind=1
 YQ:∀h,A.has h->(A.nd h).kind=1->(A.nd h).Cy=h
 E6:∀h,A.has h->(A.nd h).E6≠0->A.has (A.nd h).E6/\h∈(A.nd (A.nd h).E6).AY
 LF:∀h,A.has h->∀k∈(A.nd h).AY,A.has k/\(A.nd k).E6=h
 jg:∀h,A.has h->h≠e->YP (A.nd h)->(A.nd h).cont≠0
 cont:∀h,A.has h->(A.nd h).cont≠0->A.has (A.nd h).cont/\(A.nd (A.nd h).cont).kind=2/\(A.nd (A.nd h).cont).DT=h
 DT:∀h,A.has h->(A.nd h).DT≠0->A.has (A.nd h).DT/\(A.nd (A.nd h).DT).cont=h
 K_:∀h,A.has h->A.inr h≠0->A.has (A.inr h)/\(A.nd (A.inr h)).kind=1
 YR:∃r:Int->Nat,∀h,A.has h->A.up h≠0->r (A.up h)<r h
section
variable{A:Ar}{e h k:Int}{x y:Eg}
theorem Qb:¬A.has (A.len+1):=by unfold Ar.has Ar.len;omega
theorem Vs(hh:¬A.has h):A.up h=0:=by unfold Ar.up;rw[GI hh];simp
theorem iG(ok:Eu A e)(hh:A.has h)(hu:A.up h≠0):A.has (A.up h):=by
 unfold Ar.up at hu⊢;split;·rename_i h1;exact(ok.E6 h hh h1).1
 .rename_i h1;rw[if_neg h1] at hu;exact(ok.DT h hh hu).1
theorem Vt(ok:Eu A e)(hx:uK x)(hd:(x.kind=1/\x.Cy=A.len+1)\/(x.kind≠1/\A.has x.Cy/\(A.nd x.Cy).kind=1))(hp:x.E6=0)(hk:x.AY=[])(hc:x.cont=0)(hh:x.DT=0)(hT:YP x->e=A.len+1):Eu (A.add x) e:=by
 have no:=Qb (A:=A);obtain⟨r,hr⟩:=ok.YR;have ne:∀{k},A.has k->k≠A.len+1:=λhk e=>no (e▸hk);refine⟨by simp[Ar.add,ok.il],?_,?_,?_,?_,?_,?_,?_,?_,?_,r,?_⟩<;>intro m hm<;>rw[Di] at hm<;>(try rw[T5 ok.il])<;>simp only[Ar.up,HM,Di]<;>rcases hm with hm|rfl
 all_goals first|(rw[if_neg (ne hm)])|(rw[if_pos rfl])|skip
 .exact ok.Q8 m hm
 .exact hx
 .have:=ok.Cy m hm;rw[if_neg (ne this.1)];exact⟨.inl this.1,this.2⟩
 .rcases hd with⟨h1,h2⟩|⟨h1,h2,h3⟩
  .rw[if_pos h2];exact⟨.inr h2,h1⟩
  .rw[if_neg (ne h2)];exact⟨.inl h2,h3⟩
 .exact ok.YQ m hm
 .intro h1;rcases hd with⟨_,h2⟩|⟨h2,_⟩
  .exact h2
  .exact absurd h1 h2
 .intro h1;have:=ok.E6 m hm h1;rw[if_neg (ne this.1)];exact⟨.inl this.1,this.2⟩
 .intro h1;exact absurd hp h1
 .intro q hq;have:=ok.LF m hm q hq;rw[if_neg (ne this.1)];exact⟨.inl this.1,this.2⟩
 .intro q hq;rw[hk] at hq;cases hq
 .exact ok.jg m hm
 .intro h1 h2;exact absurd (hT h2).symm h1
 .intro h1;have:=ok.cont m hm h1;rw[if_neg (ne this.1)];exact⟨.inl this.1,this.2⟩
 .intro h1;exact absurd hc h1
 .intro h1;have:=ok.DT m hm h1;rw[if_neg (ne this.1)];exact⟨.inl this.1,this.2⟩
 .intro h1;exact absurd hh h1
 .intro h1;have:=ok.K_ m hm h1;rw[if_neg (ne this.1)];exact⟨.inl this.1,this.2⟩
 .intro h1;exfalso;apply h1;unfold Ar.inr;rw[if_neg no]
 .have:=hr m hm;unfold Ar.up at this;exact this
 .rw[hp,hh];simp
inductive Reach(A:Ar)(t:Int):Int->Prop
 |refl:Reach A t t
 |step {h:Int}:A.up h≠0->Reach A t (A.up h)->Reach A t h
def Ig(l:List Int)(b n:Int):List Int:=if b=0 then l++[n] else l.takeWhile (λk=>decide (k≠b))++n::l.dropWhile (λk=>decide (k≠b))
def Ar.cut(A:Ar)(n:Int):Ar:=
 let q:=(A.nd n).E6
 if q=0 then A else
  let A1:=A.set q {A.nd q with AY:=(A.nd q).AY.filter λk=>decide (k≠n)}
  A1.set n {A1.nd n with E6:=0}
def Ar.L7(A:Ar)(p n b:Int):Ar:=
 let A1:=A.set p {A.nd p with AY:=Ig (A.nd p).AY b n}
 A1.set n {A1.nd n with E6:=p}
def J9(k:Int):Prop:=k=1\/k=2\/k=4
instance(k:Int):Decidable (J9 k):=by unfold J9;infer_instance
structure yE(A:Ar)(p n b:Int):Prop where
 hp:A.has p
 hn:A.has n
 hb:b≠0->A.has b/\b≠n/\(A.nd b).E6=p
 kp:J9 (A.nd p).kind
 kn:(A.nd n).kind≠1/\(A.nd n).kind≠2
 re:¬Reach A n p
open Classical in
noncomputable def Ar.Fe(A:Ar)(p n b:Int):Ar:=if yE A p n b then(A.cut n).L7 p n b else A
theorem Sb{l:List Int}{b n k:Int}:k∈Ig l b n↔k=n\/k∈l:=by
 unfold Ig;split;·simp;exact Or.comm
 .have e:=List.takeWhile_append_dropWhile (p:=λk=>decide (k≠b)) (l:=l);constructor
  .intro h;rw[Ao,AL] at h;rcases h with h|h|h
   .exact .inr (by rw[<-e];simp only[Ao];exact .inl h)
   .exact .inl h
   .exact .inr (by rw[<-e];simp only[Ao];exact .inr h)
  .intro h;rw[Ao,AL];rcases h with h|h
   .exact .inr (.inl h)
   .rw[<-e,Ao] at h;rcases h with h|h
    .exact .inl h
    .exact .inr (.inr h)
theorem cH{l:List Int}{b n:Int}(h:l.Nodup)(hn:n∉l):(Ig l b n).Nodup:=by
 unfold Ig;split;·rw[B7];refine⟨h,by simp,?_⟩;rintro a ha c hc rfl;simp at hc;subst hc;exact hn ha
 .have e:=List.takeWhile_append_dropWhile (p:=λk=>decide (k≠b)) (l:=l);generalize List.takeWhile _ l=u at e⊢;generalize List.dropWhile _ l=w at e⊢;subst e;rw[B7] at h⊢;simp at hn;refine⟨h.1,by simp[h.2.1,hn.2],?_⟩;rintro a ha c hc rfl;simp at hc;rcases hc with rfl|hc
  .exact hn.1 ha
  .exact h.2.2 _ ha _ hc rfl
theorem cI:(A.cut h).n.length=A.n.length:=by unfold Ar.cut;simp only;split<;>simp[It]
theorem JX:(A.cut h).has k↔A.has k:=by unfold Ar.has;rw[cI]
theorem cJ{p n b:Int}:(A.L7 p n b).n.length=A.n.length:=by unfold Ar.L7;simp[It]
theorem lZ{p n b:Int}:(A.L7 p n b).has k↔A.has k:=by unfold Ar.has;rw[cJ]
theorem jh:(A.cut h).inr k=A.inr k:=by unfold Ar.cut;simp only;split<;>simp[Q5]
theorem ji{p n b:Int}:(A.L7 p n b).inr k=A.inr k:=by unfold Ar.L7;simp[Q5]
theorem uy(ok:Eu A e)(hh:A.has h)(hu:A.up h≠0):A.up h≠h:=by obtain⟨r,hr⟩:=ok.YR;intro e;have:=hr h hh hu;rw[e] at this;exact Dd _ this
theorem iH(ok:Eu A e)(hh:A.has h)(hu:(A.nd h).E6≠0):(A.nd h).E6≠h:=by
 have:A.up h=(A.nd h).E6:=by unfold Ar.up;rw[if_pos hu]
 have h2:=uy ok hh (by rw[this];exact hu);rwa [this] at h2
theorem Qc(ok:Eu A e)(hh:A.has h):(A.cut h).nd k=if k=h then{A.nd h with E6:=0} else if(A.nd h).E6≠0/\k=(A.nd h).E6 then{A.nd k with AY:=(A.nd k).AY.filter λm=>decide (m≠h)} else A.nd k:=by
 unfold Ar.cut;simp only
 by_cases hp:(A.nd h).E6=0
 .rw[if_pos hp];by_cases e:k=h;·subst e;rw[if_pos rfl];have:A.nd k={A.nd k with E6:=(A.nd k).E6}:=rfl;rw[hp] at this;exact this
  .rw[if_neg e,if_neg (by simp[hp])]
 .have hn:=iH ok hh hp;have hq:=(ok.E6 h hh hp).1;rw[if_neg hp];simp only[IK,Hw,hh,hq,NN];by_cases e:k=h;·subst e;simp[DQ hn]
  .simp[e,hp];split;·rename_i e;simp[e]
   .rfl
theorem cK{x:Eg}(hx:uK x){l:List Int}(h1:l.Nodup)(h2:l≠[]->J9 x.kind):uK {x with AY:=l}:=
 {k:=hx.k,AY:=h2,elem:=hx.elem,nm:=hx.nm,dt:=hx.dt,data:=hx.data,Cq:=hx.Cq,sp:=hx.sp,dw:=hx.dw,Ce:=hx.Ce,S5:=hx.S5,Ou:=hx.Ou,root:=hx.root,rX:=h1}
theorem l8{x:Eg}(hx:uK x){p:Int}(h2:p≠0->x.kind≠1/\x.kind≠2):uK {x with E6:=p}:=
 {k:=hx.k,AY:=hx.AY,elem:=hx.elem,nm:=hx.nm,dt:=hx.dt,data:=hx.data,Cq:=hx.Cq,sp:=hx.sp,dw:=hx.dw,Ce:=hx.Ce,S5:=hx.S5,Ou:=hx.Ou,root:=h2,rX:=hx.rX}
theorem L_(ok:A.i.length=A.n.length):(A.cut h).i.length=(A.cut h).n.length:=by rw[cI];unfold Ar.cut;simp only;split<;>exact ok
theorem M_{p n b:Int}(ok:A.i.length=A.n.length):(A.L7 p n b).i.length=(A.L7 p n b).n.length:=by rw[cJ];exact ok
theorem jj(ok:Eu A e)(hh:A.has h)(hk:k∈(A.nd h).AY):k≠h/\(A.nd k).E6=h/\A.has k:=by have:=ok.LF h hh k hk;refine⟨?_,this.2,this.1⟩;rintro rfl;have h0:=this.1.1;exact iH ok hh (by rw[this.2];omega) this.2
theorem yF(ok:Eu A e)(hh:A.has h):(A.cut h).up k=if k=h then(A.nd h).DT else A.up k:=by
 unfold Ar.up;rw[Qc ok hh];by_cases e:k=h;·simp[e]
 .simp only[e,D9];split<;>rfl
theorem iI(ok:Eu A e)(hh:A.has h)(Wl:(A.nd h).kind≠2):Eu (A.cut h) e:=by
 obtain⟨r,hr⟩:=ok.YR;have hN:=λm=>Qc (k:=m) ok hh;have kd:∀m,((A.cut h).nd m).kind=(A.nd m).kind:=λm=>by rw[hN];grind
 have dc:∀m,((A.cut h).nd m).Cy=(A.nd m).Cy:=λm=>by rw[hN];grind
 have cn:∀m,((A.cut h).nd m).cont=(A.nd m).cont:=λm=>by rw[hN];grind
 have ho:∀m,((A.cut h).nd m).DT=(A.nd m).DT:=λm=>by rw[hN];grind
 have hh0:(A.nd h).DT=0:=by
  by_cases h0:(A.nd h).DT=0;·exact h0
  .exact absurd ((ok.Q8 h hh).Ou h0) Wl
 refine⟨L_ ok.il,?_,?_,?_,?_,?_,?_,?_,?_,?_,r,?_⟩<;>intro m hm<;>rw[JX] at hm<;>(try simp only[kd,dc,cn,ho,JX,jh])
 .rw[hN];split;·exact l8 (ok.Q8 h hh) (by simp)
  .split;·exact cK (ok.Q8 m hm) ((ok.Q8 m hm).rX.filter _) λh1=>(ok.Q8 m hm).AY (by intro h2;rw[h2] at h1;simp at h1)
   .exact ok.Q8 m hm
 .exact ok.Cy m hm
 .exact ok.YQ m hm
 .intro h1;have e1:m≠h:=by rintro rfl;rw[hN] at h1;simp at h1
  have e2:((A.cut h).nd m).E6=(A.nd m).E6:=by rw[hN,if_neg e1];split<;>rfl
  rw[e2] at h1⊢;have h2:=ok.E6 m hm h1;refine⟨h2.1,?_⟩;rw[hN];split;·rename_i e3;rw[<-e3];exact h2.2
  .split;·simp only[DU,DJ];exact⟨h2.2,e1⟩
   .exact h2.2
 .intro q hq;have h1:q∈(A.nd m).AY/\(m=(A.nd h).E6->q≠h):=by
   rw[hN] at hq;split at hq;·rename_i e1;subst e1;have:=jj ok hm hq;exact⟨hq,λ_=>this.1⟩
   .split at hq;·simp only[DU,DJ] at hq;exact⟨hq.1,λ_=>hq.2⟩
    .rename_i h3;refine⟨hq,λh4 h5=>h3 ⟨?_,h4⟩⟩;rw[<-h4];have:=hm.1;omega
  have h2:=ok.LF m hm q h1.1;refine⟨h2.1,?_⟩;have e1:q≠h:=by rintro rfl;exact h1.2 h2.2.symm rfl
  rw[hN,if_neg e1,<-h2.2];split<;>rfl
 .intro h1 h2;refine ok.jg m hm h1 ?_;rw[hN] at h2;unfold YP at h2⊢;grind
 .exact ok.cont m hm
 .exact ok.DT m hm
 .exact ok.K_ m hm
 .rw[yF ok hh];split;·rw[hh0];simp
  .exact hr m hm
theorem yG{p n b:Int}(hp:A.has p)(hn:A.has n)(hne:n≠p):(A.L7 p n b).nd k=if k=n then{A.nd n with E6:=p} else if k=p then{A.nd p with AY:=Ig (A.nd p).AY b n} else A.nd k:=by
 unfold Ar.L7;simp only[IK,Hw,hp,hn,NN];by_cases e:k=n;·subst e;simp[hne]
 .simp[e]
theorem rY{p n b:Int}(hp:A.has p)(hn:A.has n)(hne:n≠p)(h0:(A.nd n).E6=0)(hh0:(A.nd n).DT=0)(hr:¬Reach A n p):∀{m},¬Reach A n m->(A.L7 p n b).up m=A.up m:=by
 intro m hm;have e:m≠n:=by rintro rfl;exact hm .refl
 unfold Ar.up;rw[yG hp hn hne,if_neg e];split;·rename_i e;subst e;rfl
 .rfl
open Classical in
theorem N_(ok:Eu A e){p n b:Int}(hp:A.has p)(hn:A.has n)(kp:J9 (A.nd p).kind)(kn:(A.nd n).kind≠1/\(A.nd n).kind≠2)(re:¬Reach A n p)(h0:(A.nd n).E6=0):Eu (A.L7 p n b) e:=by
 obtain⟨r,hr⟩:=ok.YR;have hne:n≠p:=by rintro rfl;exact re .refl
 have hN:=λm=>yG (k:=m) (b:=b) hp hn hne;have kd:∀m,((A.L7 p n b).nd m).kind=(A.nd m).kind:=λm=>by rw[hN];grind
 have dc:∀m,((A.L7 p n b).nd m).Cy=(A.nd m).Cy:=λm=>by rw[hN];grind
 have cn:∀m,((A.L7 p n b).nd m).cont=(A.nd m).cont:=λm=>by rw[hN];grind
 have ho:∀m,((A.L7 p n b).nd m).DT=(A.nd m).DT:=λm=>by rw[hN];grind
 have hh0:(A.nd n).DT=0:=by
  by_cases h0:(A.nd n).DT=0;·exact h0
  .exact absurd ((ok.Q8 n hn).Ou h0) kn.2
 have nk:∀m,A.has m->n∉(A.nd m).AY:=by intro m hm h1;have:=ok.LF m hm n h1;rw[h0] at this;have:=hm.1;omega
 refine⟨M_ ok.il,?_,?_,?_,?_,?_,?_,?_,?_,?_,λm=>if Reach A n m then r m+r p+1 else r m,?_⟩<;>intro m hm<;>rw[lZ] at hm<;>(try simp only[kd,dc,cn,ho,lZ,ji])
 .rw[hN];split;·exact l8 (ok.Q8 n hn) λ_=>kn
  .split;·exact cK (ok.Q8 p hp) (cH (ok.Q8 p hp).rX (nk p hp)) λ_=>kp
   .exact ok.Q8 m hm
 .exact ok.Cy m hm
 .exact ok.YQ m hm
 .intro h1;by_cases e1:m=n
  .subst e1;rw[hN,if_pos rfl];refine⟨hp,?_⟩;simp only
   rw[hN,if_neg (DQ hne),if_pos rfl];exact Sb.2 (.inl rfl)
  .have e2:((A.L7 p n b).nd m).E6=(A.nd m).E6:=by rw[hN,if_neg e1];split;rename_i e;rw[e];rfl
   rw[e2] at h1⊢;have h2:=ok.E6 m hm h1;refine⟨h2.1,?_⟩;rw[hN];split;·rename_i e3;rw[<-e3];exact h2.2
   .split;·rename_i e3;rw[<-e3];exact Sb.2 (.inr h2.2)
    .exact h2.2
 .intro q hq;by_cases e1:q=n
  .subst e1;refine⟨hn,?_⟩;rw[hN,if_pos rfl];rw[hN] at hq;split at hq;·exact absurd hq (nk q hn)
   .split at hq;·rename_i e;exact e.symm
    .exact absurd hq (nk m hm)
  .have h1:q∈(A.nd m).AY:=by
    rw[hN] at hq;split at hq;·rename_i e;rw[e];exact hq
    .split at hq;·rename_i e;rw[e];exact(Sb.1 hq).resolve_left e1
     .exact hq
   have h2:=ok.LF m hm q h1;refine⟨h2.1,?_⟩;rw[hN,if_neg e1,<-h2.2];split;·rename_i e;rw[e]
   .rfl
 .intro h1 h2;refine ok.jg m hm h1 ?_;rw[hN] at h2;unfold YP at h2⊢;grind
 .exact ok.cont m hm
 .exact ok.DT m hm
 .exact ok.K_ m hm
 .intro hu;by_cases hR:Reach A n m
  .by_cases e1:m=n
   .subst e1;have e2:(A.L7 p m b).up m=p:=by unfold Ar.up;rw[hN,if_pos rfl];simp only;rw[if_pos];have:=hp.1;omega
    rw[e2,if_neg re,if_pos hR];omega
   .have e2:(A.L7 p n b).up m=A.up m:=by
     unfold Ar.up;rw[hN,if_neg e1];split;·rename_i e;rw[e]
     .rfl
    rw[e2] at hu⊢;have hR2:Reach A n (A.up m):=by
     cases hR with
     |refl=>exact absurd rfl e1
     |step _ hx=>exact hx
    rw[if_pos hR2,if_pos hR];have:=hr m hm hu;omega
  .have e2:=rY (b:=b) hp hn hne h0 hh0 re hR;rw[e2] at hu⊢;have hR2:¬Reach A n (A.up m):=λh=>hR (.step hu h);rw[if_neg hR2,if_neg hR];exact hr m hm hu
theorem rZ(ok:Eu A e)(hh:A.has h){m:Int}(hr:¬Reach A h m):¬Reach (A.cut h) h m:=by
 intro KX;have key:∀m,Reach (A.cut h) h m->Reach A h m:=by
  intro m hm;induction hm with
  |refl=>exact .refl
  |@step q h1 _ ih=>
   by_cases e1:q=h;·rw[e1];exact .refl
   .rw[yF ok hh,if_neg e1] at h1 ih;exact .step h1 ih
 exact hr (key m KX)
theorem OX(ok:Eu A e){p n b:Int}:Eu (A.Fe p n b) e:=by
 unfold Ar.Fe;split
 .rename_i f;have o2:=iI ok f.hn f.kn.2;have kd:∀m,((A.cut n).nd m).kind=(A.nd m).kind:=λm=>by rw[Qc ok f.hn];grind
  refine N_ o2 (JX.2 f.hp) (JX.2 f.hn) ?_ ?_ (rZ ok f.hn f.re) ?_;·rw[kd];exact f.kp
  .rw[kd];exact f.kn
  .rw[Qc ok f.hn,if_pos rfl]
 .exact ok
theorem yH(ok:Eu A e)(hh:A.has h)(hx:uK x)(h1:x.kind=(A.nd h).kind)(h2:x.E6=(A.nd h).E6)(h3:x.AY=(A.nd h).AY)(h4:A.has x.Cy/\(A.nd x.Cy).kind=1/\(x.kind=1->x.Cy=h))(h5:x.cont=(A.nd h).cont)(h6:x.DT=(A.nd h).DT)(h7:YP x->YP (A.nd h)):Eu (A.set h x) e:=by
 obtain⟨r,hr⟩:=ok.YR;have hN:∀m,(A.set h x).nd m=if m=h then x else A.nd m:=λm=>by rw[IK];simp[hh]
 have kd:∀m,((A.set h x).nd m).kind=(A.nd m).kind:=λm=>by rw[hN];grind
 have pr:∀m,((A.set h x).nd m).E6=(A.nd m).E6:=λm=>by rw[hN];grind
 have ks:∀m,((A.set h x).nd m).AY=(A.nd m).AY:=λm=>by rw[hN];grind
 have cn:∀m,((A.set h x).nd m).cont=(A.nd m).cont:=λm=>by rw[hN];grind
 have ho:∀m,((A.set h x).nd m).DT=(A.nd m).DT:=λm=>by rw[hN];grind
 have u:∀m,(A.set h x).up m=A.up m:=λm=>by unfold Ar.up;rw[pr,ho]
 refine⟨by rw[It];exact ok.il,?_,?_,?_,?_,?_,?_,?_,?_,?_,r,?_⟩<;>intro m hm<;>rw[Hw] at hm<;>(try simp only[kd,pr,ks,cn,ho,u,Hw,Q5])
 .rw[hN];split;·exact hx
  .exact ok.Q8 m hm
 .rw[hN];split;·exact⟨h4.1,h4.2.1⟩
  .exact ok.Cy m hm
 .rw[hN];split;·rename_i e;intro h8;rw[e,h4.2.2 (by rw[h1,<-e];exact h8)]
  .exact ok.YQ m hm
 .exact ok.E6 m hm
 .exact ok.LF m hm
 .intro h8 h9;refine ok.jg m hm h8 ?_;rw[hN] at h9;split at h9;·rename_i e;rw[e];exact h7 h9
  .exact h9
 .exact ok.cont m hm
 .exact ok.DT m hm
 .exact ok.K_ m hm
 .exact hr m hm
def Ar.ET(A:Ar)(d:Int):Int:=if A.inr d≠0 then A.inr d else A.len+1
def Ar.CU(A:Ar)(d:Int):Ar:=if A.inr d≠0 then A else((A.add {kind:=1,Cy:=A.len+1}).H5 d (A.len+1)).H5 (A.len+1) (A.len+1)
theorem jk:uK {kind:=1,Cy:=k}:=by constructor<;>simp[Ce,GA]
theorem mA(ok:Eu A e)(hk:A.has k/\(A.nd k).kind=1):Eu (A.H5 h k) e:=by
 refine⟨?_,ok.Q8,ok.Cy,ok.YQ,ok.E6,ok.LF,ok.jg,ok.cont,ok.DT,?_,ok.YR⟩;·simp only[Ar.H5];split<;>simp[ok.il]
 .intro m hm h1;rw[Mu] at hm;rw[Ot ok.il] at h1⊢;split at h1;·rename_i h2;rw[if_pos h2];exact hk
  .rename_i h2;rw[if_neg h2];exact ok.K_ m hm h1
theorem yI(ok:Eu A e)(hh:A.has h)(he:e≠A.len+1):Eu (A.CU h) e/\(A.CU h).has (A.ET h)/\((A.CU h).nd (A.ET h)).kind=1:=by
 unfold Ar.CU Ar.ET;split;·rename_i h1;exact⟨ok,ok.K_ h hh h1⟩
 .have o1:=Vt ok (x:={kind:=1,Cy:=A.len+1}) jk (.inl ⟨rfl,rfl⟩) rfl rfl rfl rfl (by simp[YP]);have h2:(A.add {kind:=1,Cy:=A.len+1}).has (A.len+1)/\((A.add {kind:=1,Cy:=A.len+1}).nd (A.len+1)).kind=1:=by rw[Di,HM,if_pos rfl];exact⟨.inr rfl,rfl⟩
  exact⟨mA (mA o1 h2) h2,h2⟩
theorem Vu(hk:k≠A.len+1\/A.inr h≠0):(A.CU h).nd k=A.nd k:=by
 unfold Ar.CU;split;·rfl
 .rename_i h1;rw[Q7,Q7,HM,if_neg (hk.resolve_right h1)]
theorem sB:(A.CU h).len=if A.inr h≠0 then A.len else A.len+1:=by
 unfold Ar.CU;split;·rfl
 .rw[Q6,Q6,OV]
theorem Mv:A.has k->(A.CU h).has k:=by
 unfold Ar.CU;split;·exact id
 .intro hk;rw[Mu,Mu,Di];exact .inl hk
theorem jl{d:Int}(ok:Eu A e)(he:A.has e)(hT:YP (A.nd e))(hc:(A.nd e).cont=0)(hd:A.has d/\(A.nd d).kind=1):Eu ((A.add {kind:=2,DT:=e,Cy:=d}).set e {A.nd e with cont:=A.len+1}) 0:=by
 have no:=Qb (A:=A);obtain⟨r,hr⟩:=ok.YR;have ne:∀{k},A.has k->k≠A.len+1:=λhk e=>no (e▸hk);have l0:A.len+1≠0:=by have:=he.1;have:=he.2;unfold Ar.len;omega
 have hN:∀m,(((A.add {kind:=2,DT:=e,Cy:=d}).set e {A.nd e with cont:=A.len+1}).nd m)=if m=e then{A.nd e with cont:=A.len+1} else if m=A.len+1 then{kind:=2,DT:=e,Cy:=d} else A.nd m:=λm=>by rw[IK,HM];simp[he,Di]
 have hk:(A.nd e).kind=4:=hT.1;have h0:(A.nd e).DT=0:=by
  by_cases h0:(A.nd e).DT=0;·exact h0
  .have:=(ok.Q8 e he).Ou h0;omega
 have e0:e≠0:=by have:=he.1;omega
 have hnx:uK {kind:=2,DT:=e,Cy:=d}:=by constructor<;>simp[Ce,GA]
 have Q8:=ok.Q8;have o2:=Q8 e he;have hne:uK {A.nd e with cont:=A.len+1}:={k:=o2.k,AY:=o2.AY,elem:=o2.elem,nm:=o2.nm,dt:=o2.dt,data:=o2.data,Cq:=o2.Cq,sp:=o2.sp,dw:=o2.dw,Ce:=o2.Ce,S5:=λ_=>hT,Ou:=o2.Ou,root:=o2.root,rX:=o2.rX};have hs:∀m,((A.add {kind:=2,DT:=e,Cy:=d}).set e {A.nd e with cont:=A.len+1}).has m↔A.has m\/m=A.len+1:=λm=>by rw[Hw,Di]
 have hi:∀m,((A.add {kind:=2,DT:=e,Cy:=d}).set e {A.nd e with cont:=A.len+1}).inr m=A.inr m:=λm=>by rw[Q5,T5 ok.il]
 have nee:e≠A.len+1:=ne he;refine⟨by rw[It];simp[Ar.add,Ar.set,ok.il],?_,?_,?_,?_,?_,?_,?_,?_,?_,λm=>if m=A.len+1 then r e+1 else r m,?_⟩<;>intro m hm<;>rw[hs] at hm<;>(try simp only[hs,hi])
 .rw[hN];split;·exact hne
  .split;·exact hnx
   .rename_i h1 h2;exact Q8 m (hm.resolve_right h2)
 .have key:∀q,A.has q/\(A.nd q).kind=1->(A.has q\/q=A.len+1)/\(((A.add {kind:=2,DT:=e,Cy:=d}).set e {A.nd e with cont:=A.len+1}).nd q).kind=1:=by
   intro q hq;refine⟨.inl hq.1,?_⟩;rw[hN,if_neg (ne hq.1)];split;·rename_i e1;rw[e1] at hq;exact hq.2
   .exact hq.2
  rw[hN m];split;·exact key _ (ok.Cy e he)
  .split;·exact key _ hd
   .rename_i h1 h2;exact key _ (ok.Cy m (hm.resolve_right h2))
 .rw[hN m];split;·rename_i e1;intro h1;rw[e1];exact ok.YQ e he h1
  .split;·intro h1;simp at h1
   .rename_i h1 h2;exact ok.YQ m (hm.resolve_right h2)
 .have key:∀q,A.has q->(A.nd q).E6≠0->(A.has (A.nd q).E6\/(A.nd q).E6=A.len+1)/\q∈(((A.add {kind:=2,DT:=e,Cy:=d}).set e {A.nd e with cont:=A.len+1}).nd (A.nd q).E6).AY:=by
   intro q hq hp;have h1:=ok.E6 q hq hp;refine⟨.inl h1.1,?_⟩;rw[hN,if_neg (ne h1.1)];split;·rename_i e1;rw[e1] at h1;exact h1.2
   .exact h1.2
  rw[hN m];split;·rename_i e1;rw[e1];exact key e he
  .split;·intro h1;simp at h1
   .rename_i h1 h2;exact key m (hm.resolve_right h2)
 .have key:∀q,A.has q->∀k∈(A.nd q).AY,(A.has k\/k=A.len+1)/\(((A.add {kind:=2,DT:=e,Cy:=d}).set e {A.nd e with cont:=A.len+1}).nd k).E6=q:=by
   intro q hq k hk;have h1:=ok.LF q hq k hk;refine⟨.inl h1.1,?_⟩;rw[hN,if_neg (ne h1.1)];split;·rename_i e1;rw[e1] at h1;exact h1.2
   .exact h1.2
  rw[hN m];split;·rename_i e1;rw[e1];exact key e he
  .split;·intro k hk;simp at hk
   .rename_i h1 h2;exact key m (hm.resolve_right h2)
 .intro _;rw[hN m];split;·intro _;exact l0
  .split;·intro h1;simp[YP] at h1
   .rename_i h1 h2;exact ok.jg m (hm.resolve_right h2) h1
 .rw[hN m];split
  .rename_i e1;intro _;simp only
   rw[hN,if_neg (DQ nee),if_pos rfl,e1];exact⟨.inr trivial,rfl,rfl⟩
  .split;·intro h1;simp at h1
   .rename_i h1 h2;intro h3;have h4:=ok.cont m (hm.resolve_right h2) h3;refine⟨.inl h4.1,?_⟩;rw[hN,if_neg (ne h4.1)];split;·rename_i e1;rw[e1,hk] at h4;exact absurd h4.2.1 (by decide)
    .exact h4.2
 .rw[hN m];split;·intro h1;exact absurd h0 h1
  .split;·rename_i e1;intro _;simp only;refine⟨.inl he,?_⟩;rw[hN,if_pos rfl,e1]
   .rename_i h1 h2;intro h3;have h4:=ok.DT m (hm.resolve_right h2) h3;refine⟨.inl h4.1,?_⟩;rw[hN,if_neg (ne h4.1)];split;·rename_i e1;rw[e1,hc] at h4;have:=(hm.resolve_right h2).1;omega
    .exact h4.2
 .intro h1;rcases hm with hm|rfl
  .have h2:=ok.K_ m hm h1;refine⟨.inl h2.1,?_⟩;rw[hN,if_neg (ne h2.1)];split;·rename_i e1;rw[e1] at h2;exact h2.2
   .exact h2.2
  .exfalso;apply h1;unfold Ar.inr;rw[if_neg no]
 .by_cases e1:m=A.len+1
  .have e2:((A.add {kind:=2,DT:=e,Cy:=d}).set e {A.nd e with cont:=A.len+1}).up m=e:=by
    have e3:m≠e:=by rw[e1];exact DQ nee
    unfold Ar.up;rw[hN m];simp[e1,DQ nee]
   rw[e2,if_neg nee,if_pos e1];intro _;omega
  .have hm:=hm.resolve_right e1;have e2:((A.add {kind:=2,DT:=e,Cy:=d}).set e {A.nd e with cont:=A.len+1}).up m=A.up m:=by
    unfold Ar.up;rw[hN];split;·rename_i e3;rw[e3]
    .rfl
   rw[e2,if_neg e1];intro h1;rw[if_neg (ne (iG ok hm h1))];exact hr m hm h1
def Ar.elem(A:Ar)(d sp:Int)(nm:Ap)(at_:List AU):Ar:=
 let x:Eg:={kind:=4,Cy:=d,AZ:=sp,name:=nm,Ax:=Ce at_}
 if YP x then
  let A1:=A.add x
  let A2:=A1.CU d
  (A2.add {kind:=2,DT:=A.len+1,Cy:=A1.ET d}).set (A.len+1) {x with cont:=A2.len+1}
 else A.add x
theorem jm{d sp:Int}{nm:Ap}{l:List AU}(ok:Eu A 0)(hd:A.has d/\(A.nd d).kind=1)(hs:0<=sp/\sp<=7)(hl:∀a∈l,0<=a.AZ/\a.AZ<=7):Eu (A.elem d sp nm l) 0:=by
 have hx:uK {kind:=4,Cy:=d,AZ:=sp,name:=nm,Ax:=Ce l}:=by constructor<;>simp[XI,hs];exact λa ha=>hl a (cG ha)
 unfold Ar.elem;simp only
 split
 .rename_i hT;have okx:Eu A (A.len+1):={ok with jg:=λh hh _=>ok.jg h hh (by have:=hh.1;omega)};have o1:=Vt okx hx (.inr ⟨by simp,hd⟩) rfl rfl rfl rfl λ_=>rfl;have YS:(A.add {kind:=4,Cy:=d,AZ:=sp,name:=nm,Ax:=Ce l}).has d:=Di.2 (.inl hd.1);obtain⟨o2,h2,h3⟩:=yI o1 YS (by rw[OV];omega);have hN:((A.add {kind:=4,Cy:=d,AZ:=sp,name:=nm,Ax:=Ce l}).CU d).nd (A.len+1)={kind:=4,Cy:=d,AZ:=sp,name:=nm,Ax:=Ce l}:=by rw[Vu (.inl (by rw[OV];omega)),HM,if_pos rfl]
  have:=jl o2 (Mv (Di.2 (.inr rfl))) (by rw[hN];exact hT) (by rw[hN]) ⟨h2,h3⟩;rw[hN] at this;exact this
 .rename_i hT;exact Vt ok hx (.inr ⟨by simp,hd⟩) rfl rfl rfl rfl λh=>absurd h hT
end
def aKj(e:Cc):Bool:=decide (e.node=0)
def Vv(n:Int)(e:Cc):Bool:=decide (e.node=n)
def iJ(l:List Cc):Int:=AJ aKj l+1
def EE(n:Int)(l:List Cc):Int:=if n=0 then -1 else AJ (Vv n) l
def Ov(name:Ap):List Cc->Int
 |[]=> -1
 |x::t=>if x.node=0 then -1 else if x.name=name then(t.length:Int) else Ov name t
def FI(name:Ap)(l:List Cc):Int:=Ov name l.reverse
def mB(e:Cc):List Cc->Nat
 |[]=>0
 |x::t=>if x.node=0 then 0 else mB e t+(if FL x e=true then 1 else 0)
def cL(e:Cc):List Cc->Int
 |[]=> -1
 |x::t=>if x.node=0 then -1 else if 0<=cL e t then cL e t else if FL x e=true then(t.length:Int) else -1
def cM(e:Cc)(l:List Cc):List Cc:=(if e.node≠0/\3<=mB e l.reverse then A7 l (cL e l.reverse).toNat else l)++[e]
def Fz(l:List Cc):List Cc:=l.take (iJ l-1).toNat
structure BS where
 a:Ar
 Cy:Int
 AO:List Item
 A4:List Cc
 mode:Int
 Q9:Int
 tm:List Int
 head:Int
 L0:Int
 Im:Bool
 ctx:Item
 fs:Bool
 Eh:Bool
 WR:Ap
 skip:Bool
 sw:Int
 stop:Bool
def Ra(s:List Ap)(A:Ar)(h:Int):Prop:=(A.nd h).kind=4/\(A.nd h).AZ=1/\(A.nd h).name∈s
instance(s:List Ap)(A:Ar)(h:Int):Decidable (Ra s A h):=by unfold Ra;infer_instance
abbrev Ew:Ap:=aSv
abbrev Sc:Ap:=aSN
abbrev Sd:Ap:=aSK
abbrev Se:Ap:=aSO
abbrev wTr:Ap:=[116,114]
abbrev wP:Ap:=[112]
def GO:List Ap:=[Ew,Sc,Sd,Se,wTr]
namespace BS
def I3(b:BS):Int×Int:=
 let tp:=AJ (Bp [A5]) b.AO
 let tb:=AJ (Bp [Ew]) b.AO
 if tb<tp then((Gy b.AO tp).node,0) else if tb<0 then((Gy b.AO 0).node,0) else
 let t:=(Gy b.AO tb).node
 if(b.a.nd t).E6≠0 then((b.a.nd t).E6,t) else((Gy b.AO (max (tb-1) 0)).node,0)
def place(b:BS)(t:Int):Int×Int:=
 if t=0/\b.AO=[] then(b.Cy,0) else
 let t':=if t=0 then(D7 b.AO).node else t
 let pb:=if b.Eh=true/\Ra GO b.a t' then b.I3 else(t',0)
 if(b.a.nd pb.1).cont≠0 then((b.a.nd pb.1).cont,0) else pb
end BS
open Classical in
noncomputable def Ar.DZ(A:Ar)(h p bf:Int):Ar:=if(A.nd p).kind=1/\(A.nd h).kind=4/\(∃k∈(A.nd p).AY,(A.nd k).kind=4) then A else A.Fe p h bf
namespace BS
def Io(b:BS)(p:Int):Int:=if(b.a.nd p).cont≠0 then(if(b.a.nd (b.a.nd p).cont).Cy≠0 then(b.a.nd (b.a.nd p).cont).Cy else b.Cy) else if(b.a.nd p).Cy≠0 then(b.a.nd p).Cy else b.Cy
def Hn(sp:Int):Prop:=0<=sp/\sp<=7
instance(sp:Int):Decidable (Hn sp):=by unfold Hn;infer_instance
def Ip(sp:Int)(nm:Ap):Ap:=if sp=2 then Ca nm HX else nm
def FA(b:BS)(nm:Ap)(at_:List AU)(sp:Int):Item:=if Hn sp then⟨b.a.len+1,sp,Ip sp nm,EH sp (Ip sp nm) (at_.map (CM sp))⟩ else Item.zero
def D8(b:BS)(nm:Ap)(at_:List AU)(sp p:Int):BS:=if Hn sp then{b with a:=b.a.elem (b.Io p) sp (Ip sp nm) (at_.map (CM sp))} else b
def Ow(b:BS)(sp:Int):Int:=if Hn sp then b.a.len+1 else 0
noncomputable def Ex(b:BS)(nm:Ap)(at_:List AU)(sp:Int):BS:=
 if Hn sp then
  let pb:=b.place 0
  let b1:=b.D8 nm at_ sp pb.1
  {b1 with a:=b1.a.DZ (b.a.len+1) pb.1 pb.2,AO:=b1.AO++[b.FA nm at_ sp]}
 else b
noncomputable def Jd(b:BS)(nm:Ap)(at_:List AU):BS:=
 let b1:=b.Ex nm at_ 1
 {b1 with A4:=cM ⟨b.a.len+1,nm,at_⟩ b1.A4}
end BS
def GP(r:Int):Ap:=
 if 0<=r/\r<128 then[UInt8.ofNat r.toNat]
 else if 128<=r/\r<2048 then[UInt8.ofNat (192+r.toNat/64),UInt8.ofNat (128+r.toNat%64)]
 else if 2048<=r/\r<65536/\¬(55296<=r/\r<57344) then[UInt8.ofNat (224+r.toNat/4096),UInt8.ofNat (128+r.toNat/64%64),UInt8.ofNat (128+r.toNat%64)]
 else if 65536<=r/\r<=1114111 then[UInt8.ofNat (240+r.toNat/262144),UInt8.ofNat (128+r.toNat/4096%64),UInt8.ofNat (128+r.toNat/64%64),UInt8.ofNat (128+r.toNat%64)]
 else[239,191,189]
def Sf(l:List Int)(bf:Int):Option Int:=if bf=0 then l.getLast? else(l.takeWhile λk=>decide (k≠bf)).getLast?
def Ar.Rb(A:Ar)(h:Int)(s:Ap):Ar:=A.set h {A.nd h with data:=s}
def Ar.Iu(A:Ar)(h:Int)(l:List AU):Ar:=A.set h {A.nd h with Ax:=Ce l}
namespace BS
noncomputable def Ku(A:Ar)(s:Ap)(p bf:Int):Ar:=
 if(A.nd p).kind=4\/(A.nd p).kind=2 then
  match Sf (A.nd p).AY bf with
  |some t=>if(A.nd t).kind=5 then A.Rb t ((A.nd t).data++s) else(A.add {kind:=5,Cy:=(A.nd p).Cy,data:=s}).DZ (A.len+1) p bf
  |none=>(A.add {kind:=5,Cy:=(A.nd p).Cy,data:=s}).DZ (A.len+1) p bf
 else A
noncomputable def iK(b:BS)(r:Int):BS:={b with a:=Ku b.a (GP r) (b.place 0).1 (b.place 0).2}
noncomputable def Eo(A:Ar)(s:Ap)(p bf:Int):Ar:=
 if J9 (A.nd p).kind then(A.add {kind:=6,Cy:=(A.nd p).Cy,data:=s}).DZ (A.len+1) p bf else A
noncomputable def JY(b:BS)(s:Ap)(p:Int):BS:={b with a:=if p=0 then Eo b.a s (b.place 0).1 (b.place 0).2 else Eo b.a s p 0}
noncomputable def OY(b:BS)(nm:Ap)(at_:List AU)(st:Int):BS:=let b1:=b.Ex nm at_ 1;{b1 with sw:=st,Q9:=b1.mode,mode:=8}
def IL(b:BS):BS:=if I2 (Bp [wP]) (II 3) b.AO.reverse then{b with AO:=Dr CC (Bp [wP]) (Dr (DY wP) CC b.AO)} else b
def settled(b:BS)(e:Cc):Bool:=decide (e.node=0\/0<=AJ (Bm e.node) b.AO)
noncomputable def Iv:List Cc->BS->List Cc×BS
 |[],b=>([],b)
 |e::l,b=>let r:=Iv l (b.Ex e.name e.Ax 1);({e with node:=b.a.len+1}::r.1,r.2)
def Ka(b:BS):Nat:=(AJ b.settled b.A4+1).toNat
noncomputable def Dv(b:BS):BS:=let r:=Iv (b.A4.drop b.Ka) b;{r.2 with A4:=b.A4.take b.Ka++r.1}
def C0(b:BS)(nm:Ap):BS:=match b.AO.reverse.find? λi=>Bp [nm] i||F9 i with
 |some i=>if Bp [nm] i then{b with AO:=Ga i.node (Dr (DY nm) CC b.AO)} else b
 |none=>b
def ID(l:List Item):Int:=match l.reverse.find? λi=>Bp [A5] i||Bp [Ew] i with
 |some i=>if Bp [A5] i then 16 else 17
 |none=>16
end BS
abbrev Rc:Ap:=aSz
abbrev OZ:Ap:=aSG
abbrev mC:Ap:=aS9
abbrev O0:Ap:=aSX
abbrev JZ:Ap:=aSZ
abbrev yJ:Ap:=[116,100]
abbrev yK:Ap:=[116,104]
abbrev PE:Ap:=aS7
abbrev Da:Ap:=aSx
def Iw:List (Ap×Int):=[(wTr,14),(Sc,13),(Se,13),(Sd,13),(Rc,11),(OZ,12),(Ew,9),(mC,7),(O0,20)]
namespace BS
def Gk(b:BS)(x:Item)(k:Nat):Option Int:=
 if x.AZ=1 then
  match Iw.find? λr=>decide (r.1=x.name) with
  |some r=>some r.2
  |none=>
   if x.name=JZ then some (ID (b.AO.take k))
   else if(x.name=yJ\/x.name=yK)/\0<k then some 15
   else if x.name=A5 then some (b.tm.getLast?.getD 7)
   else if x.name=PE/\0<k then some 4
   else if x.name=Da then some (if b.head=0 then 3 else 6)
   else if k=0 then some 7 else none
 else if k=0 then some 7 else none
def D3(b:BS)(k:Nat):Item:=if k=0/\b.Im=true then b.ctx else b.AO.getD k Item.zero
def Kv(b:BS):Nat->Int
 |0=>7
 |k+1=>match b.Gk (b.D3 k) k with
  |some m=>m
  |none=>b.Kv k
def HN(b:BS):BS:={b with mode:=b.Kv b.AO.length}
def plain(l:List AU):List AU:=l.map λa=>⟨0,a.name,a.value⟩
def GB(b:BS)(l:List AU)(h:Int):BS:=if(b.a.nd h).kind=4 then{b with a:=b.a.Iu h ((b.a.nd h).Ax++plain l)} else b
def C5(b:BS):BS:=
 if AJ (Bp [A5]) b.AO<0 then b
 else HN {b with AO:=Dr CC (Bp [A5]) (Dr Cs CC b.AO),A4:=Fz b.A4,tm:=b.tm.dropLast}
def Qd(b:BS):BS:=if b.AO.length<2 then b else{b with AO:=b.AO.take (b.AO.length-1)}
def iL(b:BS):Item:=if b.AO.length<2 then Item.zero else D7 b.AO
end BS
def Cc.zero:Cc:=⟨0,[],[]⟩
namespace BS
noncomputable def EL(blk anc:Int)(far i:Nat)(b:BS)(l:Int)(m:Nat):BS×Int×Nat:=
 let x:=b.AO.getD i Item.zero
 let e:=EE x.node b.A4
 if e<0 then({b with AO:=A7 b.AO i},l,m)
 else if i+3<far then({b with A4:=A7 b.A4 e.toNat,AO:=A7 b.AO i},l,if e.toNat<m then m-1 else m)
 else
  let en:=b.A4.getD e.toNat Cc.zero
  let n:=b.FA en.name en.Ax 1
  let b1:=b.D8 en.name en.Ax 1 anc
  ({b1 with a:=b1.a.Fe n.node l 0,AO:=b1.AO.set i n,A4:=b1.A4.set e.toNat {en with node:=n.node}},n.node,if l=blk then e.toNat+1 else m)
noncomputable def Jl(blk anc:Int)(far k:Nat):Nat->BS×Int×Nat->BS×Int×Nat
 |0,s=>s
 |c+1,s=>Jl blk anc far k c (EL blk anc far (k+(c+1)) s.1 s.2.1 s.2.2)
noncomputable def Ci(A:Ar)(n:Int)(l:List Int):Ar:=l.foldl (λA x=>A.Fe n x 0) A
noncomputable def FM(fe:Cc)(blk anc:Int)(s:BS×Int×Nat):BS:=
 let b1:=s.1
 let pb:=b1.place anc
 let b2:={b1 with a:=b1.a.DZ s.2.1 pb.1 pb.2}
 let n:=b2.FA fe.name fe.Ax 1
 let b3:=b2.D8 fe.name fe.Ax 1 blk
 let ef:=EE fe.node b3.A4
 let mk:=if ef.toNat<s.2.2 then s.2.2 -1 else s.2.2
 let ac:=A7 b3.A4 ef.toNat
 let op:=CF fe.node b3.AO
 let ip:=En (AJ (Bm blk) op+1) op.length
 {b3 with a:=(Ci b3.a n.node (b3.a.nd blk).AY).Fe blk n.node 0,A4:=ac.take (Ck mk ac.length)++{fe with node:=n.node}::ac.drop (Ck mk ac.length),AO:=op.take ip++n::op.drop ip}
noncomputable def round(b:BS)(nm:Ap):Bool×BS:=
 let f:=FI nm b.A4
 if f<0 then(false,b.C0 nm) else
 let fe:=b.A4.getD f.toNat Cc.zero
 let k:=AJ (Bm fe.node) b.AO
 if k<0 then(false,{b with A4:=A7 b.A4 f.toNat}) else
 if k=0\/I2 (Bm fe.node) (II 1) b.AO.reverse=false then(false,b) else
 let far:=Dz fe.node b.AO
 if far<0 then(false,{b with AO:=Ga fe.node b.AO,A4:=A7 b.A4 f.toNat}) else
 let blk:=(b.AO.getD far.toNat Item.zero).node
 let anc:=(b.AO.getD (k.toNat-1) Item.zero).node
 (true,FM fe blk anc (Jl blk anc far.toNat k.toNat (far.toNat-1 -k.toNat) (b,blk,f.toNat)))
noncomputable def DL:Nat->BS->Ap->BS
 |0,b,_=>b
 |n+1,b,nm=>let r:=b.round nm;if r.1 then DL n r.2 nm else r.2
noncomputable def FB(b:BS)(nm:Ap):BS:=
 if Bp [nm] (D7 b.AO)/\EE (D7 b.AO).node b.A4<0 then b.Qd else DL 8 b nm
end BS
end Go.Am
end
