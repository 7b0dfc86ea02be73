/- Lemmas -/
import Derived.Test.YtemolpggcmbieaaGreatDoorZ18
set_option linter.all false
noncomputable section
set_option maxRecDepth 100000
section
namespace Go.Am
open Go
section
section
variable{U:Type}{z:Nat}
def Gr{Aw:List (List U)}(h:∀r∈Aw,r.length=z):Aw.flatten.length=Aw.length*z:=by
 induction Aw with
 |nil=>simp
 |cons q Aw ih=>rw[CB,Ap,h q Ax,ih λr hr=>h r (by simp[hr]),AJ,BE];omega
def Zt{Aw:List (List U)}(h:∀r∈Aw,r.length=z):∀{k:Nat},Aw.flatten.take (k*z)=(Aw.take k).flatten:=by
 induction Aw with
 |nil=>intro k;simp
 |cons q Aw ih=>
  intro k;have hq:=h q Ax;cases k with
  |zero=>simp
  |succ k=>rw[CB,BE,Eh,OQ,qL,Be Ac,hq,SU,ih λr hr=>h r (by simp[hr])];simp
def Iu{Aw:List (List U)}(h:∀r∈Aw,r.length=z):∀{k:Nat},Aw.flatten.drop (k*z)=(Aw.drop k).flatten:=by
 induction Aw with
 |nil=>intro k;simp
 |cons q Aw ih=>
  intro k;have hq:=h q Ax;cases k with
  |zero=>simp
  |succ k=>rw[CB,BE,Eh,OQ,SN,AT Ac,hq,SU,ih λr hr=>h r (by simp[hr])];simp
def iK{Aw:List (List U)}(h:∀r∈Aw,r.length=z){k:Nat}(hk:k<Aw.length)(q:List U):Aw.flatten.take (k*z)++q++Aw.flatten.drop (k*z+z)=(Aw.set k q).flatten:=by
 have e:k*z+z=(k+1)*z:=by rw[BE,Eh]
 rw[e,Zt h,Iu h,Ck,Af hk];simp
def Zu{Aw:List (List Aa)}(h:∀r∈Aw,r.length=z):∀{n off:Nat},off+n<=Aw.length->Cs Aw.flatten z (off*z) n=(Aw.drop off).take n:=by
 intro n;induction n with
 |zero=>intro off _;simp[Cs]
 |succ n ih=>
  intro off hl;rw[Cs];have e:off*z+z=(off+1)*z:=by rw[BE,Eh]
  rw[e,ih Ac,Iu h];have hlt:off<Aw.length:=Ac;rw[Az hlt,CB,Dz (by rw[h _ (A5 hlt)];exact Ab _),Be (by rw[h _ (A5 hlt)];exact Ab _),OI]
def m_{Aw:List (List Aa)}(h:∀r∈Aw,r.length=z):Cs Aw.flatten z 0 Aw.length=Aw:=by have:=Zu h (n:=Aw.length) (off:=0) Ac;simpa using this
end
section
variable{h:Ah}{id z n:Nat}{Aw:List (List Aa)}
def Nh(hr:∀r∈Aw,r.length=z)(hc:h[id]?=some (.cells Aw.flatten)):KO h (.CW id 0 Aw.length z)=some (h.set id .Ds,.sl z Aw):=by unfold KO;simp only[hc,BC];rw[Af (by rw[Gr hr];exact Ab _),m_ hr]
def Fi{k:IntKind}{i:Nat}(hi:i<n):Ay (.FH z) [.CW id 0 n z,.int k (i:Int)]=some (.ptr (some (id,i*z))):=by
 have:LK (i:Int) n=some i:=by unfold LK;rw[Af Ac];rfl
 simp[Ay,elemOf,this]
def Ut(hr:∀r∈Aw,r.length=z)(hc:h[id]?=some (.cells Aw.flatten)){i:Nat}(hi:i<Aw.length){q:List Aa}(hq:q.length=z):CH h z (.ptr (some (id,i*z))) (.agg q)=some (h.set id (.cells (Aw.set i q).flatten)):=by
 simp only[CH,hc,P4];have:i*z+z<=Aw.flatten.length:=by rw[Gr hr];have:=DW z (Ac:i+1<=Aw.length);rwa [BE,Eh] at this
 rw[<-iK hr hi];exact Af ⟨hq,this⟩
def iL(hr:∀r∈Aw,r.length=z){i:Nat}{q:List Aa}(hq:q.length=z):∀r∈Aw.set i q,r.length=z:=by
 intro r h;rcases DA h with h|rfl
 .exact hr r h
 .exact hq
def LV{U:Type}{f:U->List Aa}(hf:∀a,(f a).length=z)(l:List U):∀r∈l.map f,r.length=z:=by intro r h;obtain⟨a,_,rfl⟩:=AZ.1 h;exact hf a
def Pk{s v:Aa}{b:Nat}(hs:s= .slnil\/s= .sl z [])(hv:Bz z Aw v)(hne:Aw≠[])(hb:Aw.length*b<=AK):Kg h z b s v=some (h++[.cells Aw.flatten],.CW h.length 0 Aw.length z):=by
 rcases hv with rfl|⟨rfl,hv⟩
 .cases Aw with
  |nil=>exact absurd rfl hne
  |cons r Aw=>rw[AJ] at hb;rcases hs with rfl|rfl<;>simp[Kg,NB,hb]
 .exact absurd hv hne
def iM{s v:Aa}{b:Nat}(hs:s= .slnil\/s= .sl z [])(hv:Bz z [] v):Kg h z b s v=some (h,s):=by rcases hv with rfl|⟨rfl,hv⟩<;>rcases hs with rfl|rfl<;>simp[Kg,NB]
def NX{v:Aa}{b:Nat}{r2:List (List Aa)}(hr:∀r∈Aw,r.length=z)(hz:0<z)(hc:h[id]?=some (.cells Aw.flatten))(hv:Bz z r2 v)(hne:r2≠[])(hb:(Aw.length+r2.length)*b<=AK):
  FT h z b (.CW id 0 Aw.length z) v=some (h.set id .Ds++[.cells (Aw++r2).flatten],.CW h.length 0 (Aw.length+r2.length) z):=by
 rcases hv with rfl|⟨rfl,hv⟩
 .cases r2 with
  |nil=>exact absurd rfl hne
  |cons r r2=>
   have hl:=Gr hr;have h1:¬(0+(Aw.length+(r::r2).length)*z<=Aw.flatten.length):=by rw[hl,AJ,BC,BE,BE];omega
   have h2:Aw.flatten.take (Aw.length*z)=Aw.flatten:=Be (by rw[hl];exact Ab _);unfold FT;simp only[Gb,BD,hc];rw[Ag h1,Af ⟨trivial,by rw[hl];exact Ab _,hb⟩,h2,Kz]
 .exact absurd hv hne
end
end
section
section
end
def JM:List Ak:=[[100,100],[100,116],[108,105],aT6,aTO,[112],[114,98],[114,112],[114,116],aUI]
def P6:List Ak:=[aTU,aT8,aUi,[116,100],aUh,[116,104],aUj,[116,114]]
def NY:List Ak:=[[109,105],[109,110],[109,111],[109,115],[109,116,101,120,116]]
def Zv:List Ak:=[aVa,aT5,aTJ]
section
end
def Da:List Ak:=[[104,49],[104,50],[104,51],[104,52],[104,53],[104,54]]
def D7(k:Int)(s:Ak):Bool:=
 if k=3 then decide (s=aTK\/s∈NY) else if k=2 then decide (s∈Zv) else if k=1 then decide (s∈R4) else false
def sw(s:Ak)(t e:IT):List Ak->IT
 |[]=>e
 |c::cs=> .op (.str .eql) [.str s,.str c] λv=> .AH v t (sw s t e cs)
def nc{C:FB}{Q:Kj}{h:Ah}{s:Ak}{t e:IT}:∀{cs:List Ak},W C (sw s t e cs) Q h↔(s∈cs->W C t Q h)/\(s∉cs->W C e Q h)
 |[]=>by simp[sw]
 |c::cs=>by
  simp only[sw,WB,sF,LU,Nf,WD,AE,PL];rw[nc];by_cases hc:s=c;.simp[hc]
  .simp[hc]
def Tm{C:FB}{f:FuncId}{args:List Aa}{r:Aa}:NW C f args r↔W C (B7 C f args) (λx vs _=>x= .ret/\vs=[r]) []:=by
 unfold NW Ev;constructor;.exact λh=>W.mono h λ_ _ _ ⟨h1,r,h2,a⟩=>⟨h1,by rw[h2,a]⟩
 .exact λh=>W.mono h λ_ _ _ ⟨h1,h2⟩=>⟨h1,r,h2,rfl⟩
section
variable{Q:Kj}{h:Ah}{k:Aa->IT}{s:Ak}
end
section
variable{Q:Kj}{h:Ah}{k:Aa->IT}{s:Ak}{n:Int}
end
end
section
def ng{s:Ak}{a n:Nat}(ha:a<=n)(hn:n<s.length):(s.take (n+1)).drop a=(s.take n).drop a++[s[n]]:=by rw[AS hn,yY Ed]
end
section
section
variable{Q:Kj}{h:Ah}{k:Aa->IT}{s:Ak}
def Ni:List Ak:=Ng [] aTq
def Nj:List Ak:=Ng [] aTp
def R5:List Ak:=[aTu,aTL,aTv]
def Pl:List Ak:=[aT6,aTO]
def bL:List Ak:=[[111,108],[117,108]]
def Vm:List Ak:=[aUJ,aTU,aTu,aUA,aUP,aTL,[116,100],aTv,[116,104]]
end
section
variable{Q:Kj}{h:Ah}{k:Aa->IT}{s:Ak}{n:Int}
end
end
section
def Js(c:UInt8):UInt8:=if 65<=c.toNat/\c.toNat<=90 then c+32 else c
def EH(s:Ak):Ak:=s.map Js
def bM{c:UInt8}(h:65<=c.toNat/\c.toNat<=90):((Js c).toNat:Int)=(c.toNat:Int)+32:=by unfold Js;rw[Af h,UInt8.toNat_add];have:UInt8.toNat 32=32:=AI;rw[this];omega
def R6{c:UInt8}(h:¬(65<=c.toNat/\c.toNat<=90)):Js c=c:=by unfold Js;rw[Ag h]
def nQ{s:Ak}{n:Nat}(hn:n<s.length):EH (s.take (n+1))=EH (s.take n)++[Js s[n]]:=by rw[AS hn];unfold EH;rw[BP];rfl
def Oy(b:UInt8):Aa:= .int .u8 (b.toNat:Int)
def Hl(s:Ak)(n:Nat):Ak:=EH (s.take n)++s.drop n
def WU(s:Ak)(n:Nat):(Hl s n).length=s.length:=by simp[Hl,EH];omega
def WV{s:Ak}{n:Nat}(hn:n<s.length):(Hl s n)[n]?=some s[n]:=by unfold Hl EH;rw[Bn Ed];simp only[As,AB,CG (TW hn),DB];rw[Az hn];rfl
def R7{s:Ak}{n:Nat}(hn:n<s.length):Hl s (n+1)=(Hl s n).set n (Js s[n]):=by
 unfold Hl;rw[nQ hn,BL _ _ (by simp[EH];omega)];have e:n-(EH (s.take n)).length=0:=by simp[EH];omega
 rw[e,Az hn,eU,AQ];rfl
def iN(s:Ak):Hl s s.length=EH s:=by simp[Hl,EH]
def Sa{U:Type}{l:List U}{i:Nat}{v:U}(h:l[i]?=some v):l.set i v=l:=by
 apply L7;intro j;rw[aOM];split
 .rename_i e;subst e;split;.exact h.symm
  .rename_i hl;rw[C4 Ac]
 .rfl
def nR{cs:List Aa}{i:Nat}{v:Aa}(h:cs[i]?=some v):Bi [.cells cs] none (.ptr (some (0,i)))=some v:=by simpa[Bi] using h
def Yw{U:Type}{l:List U}{i:Nat}{v:U}(h:i<l.length):l.take i++v::l.drop (i+1)=l.set i v:=by rw[Ck,Af h]
def iO{cs:List Aa}{i:Nat}{v:Aa}(h:i<cs.length)(hv:v.cells=[v]):CH [.cells cs] 1 (.ptr (some (0,i))) v=some [.cells (cs.set i v)]:=by simp only[CH,hv,Il,Bc];rw[Af ⟨trivial,Ac⟩,<-Yw h];simp
def Pm(s:Ak):∀(n o:Nat),o+n=s.length->Cs (s.map Oy) 1 o n=CY (s.drop o)
 |0,o,h=>by rw[AT Ac];rfl
 |n+1,o,h=>by
  have ho:o<s.length:=Ac;have e:(s.map Oy).drop o=Oy s[o]::(s.map Oy).drop (o+1):=by rw[Az (by simpa using ho)];simp
  rw[Cs,Pm s n (o+1) Ac,Az ho,e];rfl
end
section
def DG(name:Ak):List Ak->Ak
 |[]=>name
 |w::ws=>if EH w=name then w else DG name ws
def Cc(w:Ak):List Aa:=[.str w]
def Tn:Ak:=aTq
def To:Ak:=aTp
end
section
structure A7 where
 A9:Int
 name:Ak
 value:Ak
 deriving DecidableEq
def A7.row(a:A7):List Aa:=[.int .i64 a.A9,.str a.name,.str a.value]
structure Item where
 node:Int
 A9:Int
 name:Ak
 Oz:Bool
 deriving DecidableEq
def Item.row(a:Item):List Aa:=[.int .i64 a.node,.int .i64 a.A9,.str a.name,.bool a.Oz]
def HN(ns:List Ak)(v:Aa):Prop:=Bz 1 (ns.map Cc) v
def A8(l:List A7)(v:Aa):Prop:=Bz 3 (l.map A7.row) v
def Dy(l:List Item)(v:Aa):Prop:=Bz 4 (l.map Item.row) v
def sH(l:List A7):Prop:=l.length<=12/\∀x∈l,x.name.length<=60/\x.value.length<=200
instance(l:List A7):Decidable (sH l):=by unfold sH;infer_instance
def nh(l:List Ak):Prop:=l.length<=12/\∀x∈l,x.length<=60
instance(l:List Ak):Decidable (nh l):=by unfold nh;infer_instance
def sI(l:List Item):Prop:=l.length<=60/\∀x∈l,x.name.length<=60
instance(l:List Item):Decidable (sI l):=by unfold sI;infer_instance
end
section
def Cf{U:Type}(p:U->Bool)(n:Nat):List U->Int
 |[]=> -1
 |a::l=>if p a then(n:Int) else Cf p (n+1) l
def Gs{U:Type}{p:U->Bool}:∀{l:List U} {k:Nat},(Cf p k l= -1/\l.find? p=none)\/∃(n:Nat) (a:U),Cf p k l=((k+n:Nat):Int)/\l[n]?=some a/\l.find? p=some a
 |[],k=> .inl ⟨rfl,rfl⟩
 |a::l,k=>by
  unfold Cf;by_cases h:p a=true;.exact .inr ⟨0,a,by rw[Af h];rfl,rfl,by simp[h]⟩
  .rw[Ag h];rcases Gs (p:=p) (l:=l) (k:=k+1) with⟨h1,h2⟩|⟨n,b,h1,h2,c⟩
   .exact .inl ⟨h1,by simp[h,h2]⟩
   .exact .inr ⟨n+1,b,by rw[h1];congr 1;omega,by simpa using h2,by simp[h,c]⟩
def sJ(a:A7):Bool:=decide (a.A9=0/\a.name=aVb)
def Pn{s:Ak}(h:s.all (λc=> !(65<=c.toNat&&c.toNat<=90))=true):EH s=s:=by
 unfold EH;conv=>rhs;rw[<-List.map_id s]
 apply YO;intro c hc;have:=CK.1 h c hc;refine R6 λh2=>?_;simp[h2.1,h2.2] at this
abbrev aFf:Ak:=aTK
abbrev sK:Ak:=aU5
abbrev bN:Ak:=aUk
def Iv(n:Int)(s:Ak)(l:List A7):Bool:=
 if n=2 then D7 2 s else if n≠3 then false else if s≠aFf then false else match l.find? sJ with
  |none=>false
  |some a=>decide (EH a.value=sK\/EH a.value=bN)
end
section
section
variable{U:Type}{f:U->List Aa}{l l2:List U}{v v2:Aa}{z b:Nat}{k k2:IntKind}
def Bz.Ha(hv:Bz z (l.map f) v):Ay (.len false) [v]=some (.int .i64 (l.length:Int)):=by have:=Bz.len hv;rwa [As] at this
def Bz.Dh(hv:Bz z (l.map f) v){n:Nat}(hn:n<l.length):Ay (.FH z) [v,.int k (n:Int)]=some (.BW (f l[n])):=by have:=Bz.FH hv (k:=k) (n:=n) (by simpa using hn);simpa using this
def Bz.Sb(hv:Bz z (l.map f) v){n:Nat}(hn:n<=l.length):∃u,Ay (.PQ z false false true) [v,.int k (n:Int)]=some u/\Bz z ((l.take n).map f) u:=by
 rcases hv with rfl|⟨rfl,h⟩
 .have a:Eg (n:Int) (l.map f).length=some n:=by unfold Eg;rw[As,Af Ac];rfl
  refine⟨.sl z ((l.map f).take n),?_,.inl (by rw[GO])⟩;simp only[Ay,Io,Dx,a,Bt,X7,BD,J2]
 .have:l=[]:=by simpa using h
  subst this;have:n=0:=by simpa using hn
  subst this;exact⟨.slnil,rfl,.inr ⟨rfl,rfl⟩⟩
def Bz.sL(hv:Bz z (l.map f) v){n:Nat}(hn:n<=l.length):∃u,Ay (.PQ z false true false) [v,.int k (n:Int)]=some u/\Bz z ((l.drop n).map f) u:=by
 rcases hv with rfl|⟨rfl,h⟩
 .have a:Eg (n:Int) (l.map f).length=some n:=by unfold Eg;rw[As,Af Ac];rfl
  refine⟨.sl z ((l.map f).drop n),?_,.inl (by rw[K6])⟩;simp only[Ay,Io,Dx,a,Bt,X7,BD,BZ]
 .have:l=[]:=by simpa using h
  subst this;have:n=0:=by simpa using hn
  subst this;exact⟨.slnil,rfl,.inr ⟨rfl,rfl⟩⟩
def Bz.ni(hv:Bz z (l.map f) v)(Qv:Bz z (l2.map f) v2)(hb:(l.length+l2.length)*b<=AK):∃u,Ay (.append z b) [v,v2]=some u/\Bz z ((l++l2).map f) u:=by obtain⟨u,e,hu⟩:=Bz.JL hv Qv (b:=b) (by simpa using hb);exact⟨u,e,by rwa [BP]⟩
def Bz.Po(Qv:Bz z (l2.map f) v2)(hb:l2.length*b<=AK):∃u,Ay (.append z b) [.slnil,v2]=some u/\Bz z (l2.map f) u:=by obtain⟨u,e,hu⟩:=Bz.JL (v:= .slnil) (r:=[]) .nil Qv (b:=b) (by simpa using hb);exact⟨u,e,by simpa using hu⟩
def Bz.Zw{a:U}(hv:Bz z (l.map f) v)(hb:(l.length+1)*b<=AK):Ay (.append z b) [v,.sl z [f a]]=some (.sl z ((l++[a]).map f)):=by rw[Bz.zx hv (by simpa using hb)];simp
end
def DJ{a b:Int}(h1: -9223372036854775808<=a-b)(h2:a-b<9223372036854775808):Ay (.int .sub) [.int .i64 a,.int .i64 b]=some (.int .i64 (a-b)):=by rw[nN,wrap_i64 h1 h2]
def Vn{a b:Int}(h1: -9223372036854775808<=a+b)(h2:a+b<9223372036854775808):Ay (.int .add) [.int .i64 a,.int .i64 b]=some (.int .i64 (a+b)):=by rw[nM,wrap_i64 h1 h2]
def Item.zero:Item:=⟨0,0,[],false⟩
def Item.DS{a:Item}:a.row.length=4:=rfl
def Item.g0{a:Item}{d:Aa}:a.row.getD 0 d= .int .i64 a.node:=rfl
def Item.g1{a:Item}{d:Aa}:a.row.getD 1 d= .int .i64 a.A9:=rfl
def Item.g2{a:Item}{d:Aa}:a.row.getD 2 d= .str a.name:=rfl
def Item.g3{a:Item}{d:Aa}:a.row.getD 3 d= .bool a.Oz:=rfl
def Item.at0{a:Item}:a.row[0]?=some (.int .i64 a.node):=rfl
def Item.KV{a:Item}:a.row.take 4=a.row:=rfl
def Item.nj{a:Item}:a.row.drop 1=[.int .i64 a.A9,.str a.name,.bool a.Oz]:=rfl
def Item.aFh{a:Item}:a.row.drop 2=[.str a.name,.bool a.Oz]:=rfl
def Item.aFi{a:Item}:a.row.drop 3=[.bool a.Oz]:=rfl
def Item.UX{a:Item}:[Aa.int .i64 a.node,.int .i64 a.A9,.str a.name,.bool a.Oz]=a.row:=rfl
def Item.fill{a:Item}:Bv [.int .i64 0,.int .i64 0,.str [],.bool false] ([(0,1),(1,1),(2,1),(3,1)].zip a.row)=some a.row:=rfl
def JB:=ai @Item.fill (ai @Item.DS (ai @Item.g0 (ai @Item.g1 (ai @Item.g2 (ai @Item.g3 (ai @Item.at0 (ai @Item.KV (ai @Item.nj (ai @Item.aFh (ai @Item.aFi (ai @Item.UX (ai @Fo (@Bq.{0})))))))))))))
def DK(l:List Item)(i:Int):Item:=if 0<=i then l.getD i.toNat Item.zero else Item.zero
def E4(l:List Item):Item:=DK l ((l.length:Int)-1)
def AX{U:Type}(q:U->Bool)(l:List U):Int:=match l.reverse.findIdx? q with
 |some k=>(l.length:Int)-1 -k
 |none=> -1
def Pp{U:Type}{q:U->Bool}:AX q []= -1:=rfl
def Lr{U:Type}{q:U->Bool}{l:List U}{a:U}:AX q (l++[a])=if q a then(l.length:Int) else AX q l:=by
 unfold AX;rw[HZ,IM,Jj,aM3];by_cases h:q a=true;.simp only[h,BD,Ap,Bc];omega
 .simp only[h,DO,Co,Ap,Bc];cases List.findIdx? q l.reverse with
  |none=>rfl
  |some k=>simp only[Bt];omega
def NZ{U:Type}{q:U->Bool}{l:List U}{n:Nat}(hn:n<l.length):AX q (l.take (n+1))=if q l[n] then(n:Int) else AX q (l.take n):=by rw[AS hn,Lr,AB,CG (TW hn)]
def DY{U:Type}{q:U->Bool}{l:List U}:(AX q l= -1/\∀a∈l,q a=false)\/∃(n:Nat) (hn:n<l.length),AX q l=(n:Int)/\q l[n]=true/\∀m (hm:m<l.length),n<m->q l[m]=false:=by
 have key:∀r:List U,(AX q r.reverse= -1/\∀a∈r.reverse,q a=false)\/∃(n:Nat) (hn:n<r.reverse.length),AX q r.reverse=(n:Int)/\q r.reverse[n]=true/\∀m (hm:m<r.reverse.length),n<m->q r.reverse[m]=false:=by
  intro r;induction r with
  |nil=>exact .inl ⟨rfl,Ax⟩
  |cons a r ih=>
   rw[HD,Lr];by_cases h:q a=true;.refine .inr ⟨r.reverse.length,Ax,by rw[Af h],by simp[h],λm hm hlt=>?_⟩;simp at hm hlt;omega
   .rw[Ag h];rcases ih with⟨h1,h2⟩|⟨n,hn,h1,h2,c⟩
    .exact .inl ⟨h1,λb hb=>by
      rcases Aq.1 hb with hb|hb
      .exact h2 b hb
      .simp at hb;subst hb;simpa using h⟩
    .refine .inr ⟨n,by simp at hn⊢;omega,h1,by rw[Rs hn];exact h2,λm hm hlt=>?_⟩;by_cases UQ:m<r.reverse.length;.rw[Rs UQ];exact c m UQ hlt
     .have:m=r.reverse.length:=by simp at hm UQ⊢;omega
      subst this;simpa using h
 have:=key l.reverse;rwa [J6] at this
def At(h:Ah)(id o:Nat)(v:Aa):Prop:=∃cs,h[id]?=some (.cells cs)/\cs[o]?=some v
def put(h:Ah)(id o:Nat)(u:Aa):Ah:=match h[id]? with
 |some (.cells cs)=>h.set id (.cells (cs.set o u))
 |_=>h
section
variable{h t:Ah}{id o:Nat}{u v w:Aa}
def HO{cs:List Aa}(hc:h[id]?=some (.cells cs)):put h id o u=h.set id (.cells (cs.set o u)):=by unfold put;rw[hc]
def Ls:(put h id o u).length=h.length:=by unfold put;split<;>simp
def At.lt(ha:At h id o v):id<h.length:=by obtain⟨cs,hc,_⟩:=ha;exact(Aj.1 hc).1
def At.load(ha:At h id o v):Bi h none (.ptr (some (id,o)))=some v:=by obtain⟨cs,hc,e⟩:=ha;simp only[Bi,hc,FJ,e]
def At.store(ha:At h id o v)(hu:u.cells=[u]):CH h 1 (.ptr (some (id,o))) u=some (put h id o u):=by
 obtain⟨cs,hc,e⟩:=ha;have hl:=(Aj.1 e).1;rw[HO hc];simp only[CH,hc,hu,Bc,Nx];have a:cs.set o u=cs.take o++[u]++cs.drop (o+1):=by rw[Ck,Af hl];simp
 rw[Af (Ac:o+1<=cs.length),a]
def At.put(ha:At h id o v):At (put h id o u) id o u:=by obtain⟨cs,hc,e⟩:=ha;have hl:=(Aj.1 e).1;have hi:=(Aj.1 hc).1;rw[HO hc];exact⟨cs.set o u,by simp[hi],by simp[hl]⟩
def At.same(ha:At h id o v):Am.put h id o v=h:=by obtain⟨cs,hc,e⟩:=ha;obtain⟨hl,e⟩:=Aj.1 e;obtain⟨hi,a⟩:=Aj.1 hc;rw[HO hc,<-e,Hg,<-a,Hg]
def bO:Am.put (Am.put h id o u) id o w=Am.put h id o w:=by
 cases hc:h[id]? with
 |none=>
  have e:∀u,Am.put h id o u=h:=λu=>by unfold Am.put;rw[hc]
  rw[e,e]
 |some x=>cases x with
  |cells cs=>have hi:=(Aj.1 hc).1;rw[HO hc,HO hc,HO (cs:=cs.set o u) (by simp[hi])];simp
  |_=>
   have e:∀u,Am.put h id o u=h:=λu=>by unfold Am.put;rw[hc]
   rw[e,e]
def At.JL(ha:At h id o v):At (h++t) id o v:=by obtain⟨cs,hc,e⟩:=ha;exact⟨cs,by rw[An (Aj.1 hc).1];exact hc,e⟩
def bP(ha:At h id o v):Am.put (h++t) id o u=Am.put h id o u++t:=by have hi:=ha.lt;obtain⟨cs,hc,e⟩:=ha;rw[HO hc,HO (by rw[An hi];exact hc),aHW _ _ hi]
def CU{i:Nat}(hn:i≠id):(Am.put h id o u)[i]?=h[i]?:=by
 unfold Am.put;split;.rw[Ao (Dr hn)]
 .rfl
end
def bk(h:Ah)(p:Aa)(l:List Item):Prop:=(p= .ptr none/\l=[])\/∃id o v,p= .ptr (some (id,o))/\At h id o v/\Dy l v
def HI{l:List Item}{n:Nat}(hn:n<l.length):DK l (n:Int)=l[n]:=by have:(0:Int)<=(n:Int):=Ac;simp[DK,this,hn]
def WW{l:List Item}{i:Int}(h:i<0\/(l.length:Int)<=i):DK l i=Item.zero:=by
 unfold DK;rcases h with h|h
 .rw[Ag Ac]
 .rw[Af Ac,AP,C4 Ac];rfl
section
variable{h:Ah}{p:Aa}{l:List Item}
def zy{s:Ak}{ws:List Ak}:decide (0<=Cf (λw=>decide (s=w)) 0 ws)=decide (s∈ws):=by
 rcases Gs (p:=λw=>decide (s=w)) (l:=ws) (k:=0) with⟨h1,h2⟩|⟨n,a,h1,h2,c⟩
 .rw[h1,Dn];have:=IN.1 h2;exact⟨λh=>Ac,λh=>absurd (show s=s from rfl) (by simpa using this s h)⟩
 .rw[h1,Dn];have e:s=a:=by simpa using Lb c
  have:a∈ws:=Cv h2;refine⟨λ_=>e▸this,λ_=>Ac⟩
def Bf(ws:List Ak)(a:Item):Bool:=decide (a.A9=1/\a.name∈ws)
def CO{ws:List Ak}:HN ws (.sl 1 (ws.map Cc)):= .mk
def N0(n:Int)(a:Item):Bool:=
 if n=4 then Bf R5 a else if n=5 then !Bf Pl a else if a.A9=3\/a.A9=2 then D7 a.A9 a.name
 else Bf Vm a||(decide (n=2)&&Bf bL a)||(decide (n=3)&&Bf [aTw] a)
def Es{ws:List Ak}{args:List Aa}(e:args=ws.map Aa.str)(h:ws.length<=16777216):Ay (.Cl 1) args=some (.sl 1 (ws.map Cc)):=by
 subst e;have g:(ws.map Aa.str).all (λa=>a.cells.length==1)=true:=Ax;have c:(ws.map Aa.str).map (·.cells)=ws.map Cc:=by simp[Cc]
 rw[sG,g,c];simp[h]
def nS:Ay (.Cl 1) [S aTu,S aTL,S aTv]=some (.sl 1 (R5.map Cc)):=Es (ws:=R5) rfl AI
def iP:Ay (.Cl 1) [S aT6,S aTO]=some (.sl 1 (Pl.map Cc)):=Es (ws:=Pl) rfl AI
def bl:Ay (.Cl 1) [S [111,108],S [117,108]]=some (.sl 1 (bL.map Cc)):=Es (ws:=bL) rfl AI
def nT:Ay (.Cl 1) [S aUJ,S aTU,S aTu,S aUA,S aUP,S aTL,S [116,100],S aTv,S [116,104]]=some (.sl 1 (Vm.map Cc)):=Es (ws:=Vm) rfl AI
def bm:Ay (.Cl 1) [S aTw]=some (.sl 1 ([aTw].map Cc)):=Es (ws:=[aTw]) rfl AI
def Pq{U:Type}(q e:U->Bool):List U->Bool
 |[]=>false
 |a::r=>if q a then true else if e a then false else Pq q e r
def nU{U:Type}{q e:U->Bool}(l:List U)(b:Bool):(if h:0<=AX (λa=>q a||e a) l/\(AX (λa=>q a||e a) l).toNat<l.length then q (l[(AX (λa=>q a||e a) l).toNat]'h.2) else false)=Pq q e l.reverse:=by
 have key:∀r:List U,(if h:0<=AX (λa=>q a||e a) r.reverse/\(AX (λa=>q a||e a) r.reverse).toNat<r.reverse.length then q (r.reverse[(AX (λa=>q a||e a) r.reverse).toNat]'h.2) else false)=Pq q e r:=by
  intro r;induction r with
  |nil=>simp[Pq,Pp]
  |cons a r ih=>
   simp only[HD,Pq];have e0:=Lr (q:=λa=>q a||e a) (l:=r.reverse) (a:=a);by_cases hq:q a=true
   .rw[Af (by simp[hq])] at e0;have c:(AX (λa=>q a||e a) (r.reverse++[a])).toNat=r.reverse.length:=by rw[e0];omega
    simp only[c];rw[lD ⟨by rw[e0];omega,Ax⟩];simp[hq]
   .by_cases he:e a=true
    .rw[Af (by simp[he])] at e0;have c:(AX (λa=>q a||e a) (r.reverse++[a])).toNat=r.reverse.length:=by rw[e0];omega
     simp only[c];rw[lD ⟨by rw[e0];omega,Ax⟩];simp[hq,he]
    .rw[Ag (by simp[hq,he])] at e0;simp only[hq,he,DO,Co,<-ih,e0];rcases DY (q:=λa=>q a||e a) (l:=r.reverse) with⟨h1,h2⟩|⟨n,hn,h1,h2,j⟩
     .simp[h1]
     .have g:(0:Int)<=(n:Int)/\(n:Int).toNat<r.reverse.length:=⟨Ac,by simpa using hn⟩;have i:(0:Int)<=(n:Int)/\(n:Int).toNat<(r.reverse++[a]).length:=⟨Ac,by simp at hn⊢;omega⟩;simp only[h1];rw[lD g,lD i,Rs g.2]
 have:=key l.reverse;rwa [J6] at this
def HN.cells{v:Aa}{ws:List Ak}(hv:HN ws v):v.cells=[v]:=Bz.cells hv
def BU(node:Int)(a:Item):Bool:=decide (a.node=node)
end
end
section
section
variable{h:Ah}{p v:Aa}{l:List Item}
def bn{n s:Int}{t:Ak}{b:Bool}:Ay (.BV [I 0,I 0,S [],ff] [(0,1),(1,1),(2,1),(3,1)]) [.int .i64 n,.int .i64 s,.str t,.bool b]=some (.agg (Item.row ⟨n,s,t,b⟩)):=by simp only[Ci];rfl
def nl{a:Item}:Ay (.Cl 4) [.agg a.row]=some (.sl 4 [a.row]):=WT rfl AI
def Lt(h:Ah)(id o:Nat)(l:List Item):Prop:=∃v,At h id o v/\Dy l v
def Lt.at{id o:Nat}(hs:Lt h id o l):bk h (.ptr (some (id,o))) l:=let⟨v,h1,h2⟩:=hs; .inr ⟨id,o,v,rfl,h1,h2⟩
def Dy.cells(hv:Dy l v):v.cells=[v]:=Bz.cells hv
def Dp(a:Item):Bool:=D7 a.A9 a.name
def Et(node:Int)(l:List Item):Int:=if AX (BU node) l<0 then -1 else match(l.drop ((AX (BU node) l).toNat+1)).findIdx? Dp with
 |some k=>AX (BU node) l+1+k
 |none=> -1
def Gk{U:Type}(q:U->Bool)(l:List U)(n:Nat):Int:=match(l.drop n).findIdx? q with
 |some k=>(n:Int)+k
 |none=> -1
def Yx{U:Type}{q:U->Bool}{l:List U}{n:Nat}(h:l.length<=n):Gk q l n= -1:=by unfold Gk;rw[AT h];rfl
def bQ{U:Type}{q:U->Bool}{l:List U}{n:Nat}(h:n<l.length):Gk q l n=if q l[n] then(n:Int) else Gk q l (n+1):=by
 unfold Gk;rw[Az h,aM3];by_cases hq:q l[n]=true;.simp only[hq,BD];omega
 .simp only[hq,Co,DO];cases List.findIdx? q (l.drop (n+1)) with
  |none=>rfl
  |some k=>simp only[Bt];omega
def Mw{node:Int}:Et node l=if AX (BU node) l<0 then -1 else Gk Dp l ((AX (BU node) l).toNat+1):=by
 unfold Et Gk;by_cases h:AX (BU node) l<0;.simp only[h,BD]
 .simp only[h,DO];cases(l.drop ((AX (BU node) l).toNat+1)).findIdx? Dp with
  |none=>rfl
  |some k=>simp only;omega
end
end
section
def Ev.ret{C:FB}{f:FuncId}{args:List Aa}{h:Ah}{R:Aa->Ah->Prop}(hw:Ev C f args h R):∃r h',Ca C f args h r h'/\R r h':=by obtain⟨n,x,vs,h',e,hx,r,hv,hR⟩:=hw;exact⟨r,h',⟨n,x,vs,h',e,hx,hv,rfl⟩,hR⟩
def QD(b a:Item->Bool):List Item->List Item
 |x::y::r=>if b x then x::y::r else if a x then y::r else QD b a (y::r)
 |r=>r
def DV(b a:Item->Bool)(l:List Item):List Item:=(QD b a l.reverse).reverse
def bo{b a:Item->Bool}{l:List Item}(h:l.length<=1):QD b a l=l:=by
 match l with
 |[]=>rfl
 |[x]=>rfl
 |x::y::r=>simp at h
def iQ{b a:Item->Bool}{l:List Item}(h:l.length<=1):DV b a l=l:=by unfold DV;rw[bo (by simpa using h),J6]
def bp{b a:Item->Bool}{l:List Item}{x:Item}(h:1<=l.length):DV b a (l++[x])=if b x then l++[x] else if a x then l else DV b a l:=by
 unfold DV;rw[HZ,IM,Jj];cases hr:l.reverse with
 |nil=>
  have:l=[]:=by simpa using hr
  subst this;simp at h
 |cons y r=>
  have hl:l=r.reverse++[y]:=by rw[<-J6 l,hr,HD]
  rw[QD];by_cases h1:b x=true;.rw[Af h1,Af h1];rw[hl];simp
  .rw[Ag h1,Ag h1];by_cases h2:a x=true;.rw[Af h2,Af h2];rw[hl];simp
   .rw[Ag h2,Ag h2]
def bq{b a:Item->Bool}{l:List Item}{n:Nat}(hn:n+1<l.length):DV b a (l.take (n+2))=if b l[n+1] then l.take (n+2) else if a l[n+1] then l.take (n+1) else DV b a (l.take (n+1)):=by have e:l.take (n+2)=l.take (n+1)++[l[n+1]]:=AS hn;rw[e,bp (by rw[AB];omega)]
def bR{b a:Item->Bool}:∀{l:List Item},(DV b a l).length<=l.length:=by
 have key:∀r:List Item,(QD b a r).length<=r.length:=by
  intro r;induction r with
  |nil=>simp[QD]
  |cons x r ih=>
   cases r with
   |nil=>simp[QD]
   |cons y r=>
    rw[QD];split;.simp
    .split;.simp
     .exact Bp ih Ax
 intro l;have:=key l.reverse;simpa[DV] using this
section
variable{h:Ah}{p v:Aa}{l:List Item}
def WX{n:Nat}(hn:n<l.length):E4 (l.take (n+1))=l[n]:=by
 have e:((l.take (n+1)).length:Int)-1=(n:Int):=by rw[AB];omega
 unfold E4;rw[e,HI (by rw[AB];omega)];simp
def Lt.bS{id o:Nat}(hs:Lt h id o l):∃u,h=put h id o u/\Dy l u:=by obtain⟨u,hc,hu⟩:=hs;exact⟨u,hc.same.symm,hu⟩
def Lt.lt{id o:Nat}(hs:Lt h id o l):∃v,At h id o v:=let⟨u,hc,_⟩:=hs;⟨u,hc⟩
def Lt.aAl{id o:Nat}{u:Aa}(hlt:∃v,At h id o v)(hu:Dy l u):Lt (put h id o u) id o l:=let⟨_,ha⟩:=hlt;⟨u,ha.put,hu⟩
def Db(_:Item):Bool:=false
def EB(s:Ak)(a:Item):Bool:=decide (a.A9≠1\/a.name∉JM\/a.name=s)
def DQ(a:Item):Bool:=decide (a.A9≠1\/¬(a.name∈P6\/a.name∈JM))
def I5(node:Int)(l:List Item):List Item:=if AX (BU node) l<0 then l else DV Db (BU node) l
end
end
section
section
variable{h:Ah}{p v:Aa}{l:List Item}
def aFj(l:List Item):∀r∈l.map Item.row,r.length=4:=LV (f:=Item.row) (λa=>Item.DS) l
def sM{n:Nat}(h:n<=2000000000):n*40<=AK:=by have:AK=140737488355328:=rfl;omega
def BB{U:Type}(l:List U)(k:Nat):List U:=l.take k++l.drop (k+1)
def Di(node:Int)(l:List Item):List Item:=if AX (BU node) l<1 then l else BB l (AX (BU node) l).toNat
def Iw(i:Int)(n:Nat):Nat:=min (max i 1).toNat n
def Pr(node:Int)(a:Item)(l:List Item):List Item:=if AX (BU node) l<1 then l else l.set (AX (BU node) l).toNat a
end
end
section
end
section
section
variable{h:Ah}{p v w:Aa}{l:List Item}{ws:List Ak}
end
end
section
def fT:List (Ak×Int×Ak):=[(aUo,4,aUZ),(aUm,4,aUW),(aUu,4,aVo),(aUv,4,aVp),(aUw,4,aVq),(aUq,4,aTJ),(aUx,4,aUz),(aUN,5,[108,97,110,103]),(aUE,5,aVi),(aUs,6,aUs),(aUr,6,aVc)]
def WY(x:Ak×Int×Ak):Aa×Aa:=(.str x.1,.agg [.int .i64 x.2.1,.str x.2.2,.str []])
def ft(n:Nat):List (Aa×Aa):=(fT.take n).map WY
def aFk:MZ aUo (.agg [.int .i64 4,.str aUZ,.str []]) (ft 0)=some (ft 1):=by kernel_rfl
def aFl:MZ aUm (.agg [.int .i64 4,.str aUW,.str []]) (ft 1)=some (ft 2):=by kernel_rfl
def aFm:MZ aUu (.agg [.int .i64 4,.str aVo,.str []]) (ft 2)=some (ft 3):=by kernel_rfl
def aFn:MZ aUv (.agg [.int .i64 4,.str aVp,.str []]) (ft 3)=some (ft 4):=by kernel_rfl
def aFo:MZ aUw (.agg [.int .i64 4,.str aVq,.str []]) (ft 4)=some (ft 5):=by kernel_rfl
def aFp:MZ aUq (.agg [.int .i64 4,.str aTJ,.str []]) (ft 5)=some (ft 6):=by kernel_rfl
def aFq:MZ aUx (.agg [.int .i64 4,.str aUz,.str []]) (ft 6)=some (ft 7):=by kernel_rfl
def aFr:MZ aUN (.agg [.int .i64 5,.str [108,97,110,103],.str []]) (ft 7)=some (ft 8):=by kernel_rfl
def aFs:MZ aUE (.agg [.int .i64 5,.str aVi,.str []]) (ft 8)=some (ft 9):=by kernel_rfl
def aFt:MZ aUs (.agg [.int .i64 6,.str aUs,.str []]) (ft 9)=some (ft 10):=by kernel_rfl
def aAm:MZ aUr (.agg [.int .i64 6,.str aVc,.str []]) (ft 10)=some (ft 11):=by kernel_rfl
def nV{h:Ah}{es:List (Aa×Aa)}{s:Ak}{v:Aa}:Qs (h++[.map es]) (.map (some h.length)) (.str s) v=(MZ s v es).map λes=>h++[.map es]:=by simp[Qs]
def Jt(n:Ak):Option (Int×Ak):=(fT.find? λx=>decide (n=x.1)).map (·.2)
def WZ(n:Ak):∀l:List (Ak×Int×Ak),Ry n (l.map WY)=some ((l.find? λx=>decide (n=x.1)).map λx=>(WY x).2)
 |[]=>rfl
 |x::l=>by
  rw[A0,Hs,WY,Ry];by_cases e:n=x.1;.rw[Af e,Al e];rfl
  .rw[Ag e,Ai e];exact WZ n l
def LW{h:Ah}{n:Ak}:Oo (h++[.map (ft 11)]) (.agg [.int .i64 0,.str [],.str []]) true (.map (some h.length)) (.str n)=
  some (match Jt n with|some (s,m)=> .tuple [.agg [.int .i64 s,.str m,.str []],.bool true]|none=> .tuple [.agg [.int .i64 0,.str [],.str []],.bool false]):=by
 have e:S4 (h++[.map (ft 11)]) (.map (some h.length)) (.str n)=Ry n (fT.map WY):=by simp[S4,ft,fT]
 rw[Oo,e,WZ,Jt];cases fT.find? λx=>decide (n=x.1)<;>rfl
abbrev aFu:Ak:=aUD
abbrev aAn:Ak:=aUF
def Mx(sp:Int)(n:Ak):Ak:=if sp=2 then DG n Nj else if sp=3/\n=aFu then aAn else n
def DL(sp:Int)(a:A7):A7:=
 if sp=2\/sp=3 then match Jt (Mx sp a.name) with
  |some (s,m)=>⟨s,m,a.value⟩
  |none=>⟨0,Mx sp a.name,a.value⟩
 else⟨0,a.name,a.value⟩
def bT(s:Ak):(EH s).length=s.length:=by simp[EH]
def OA(n:Ak):∀ws,DG n ws=n\/(DG n ws∈ws/\EH (DG n ws)=n)
 |[]=> .inl rfl
 |w::ws=>by
  rw[DG];split;.rename_i e;exact .inr ⟨List.mem_cons_self,e⟩
  .rcases OA n ws with h|⟨h1,h2⟩
   .exact .inl h
   .exact .inr ⟨X6 _ h1,h2⟩
def LX{a b c:Aa}:Ay (.Cl 3) [.agg [a,b,c]]=some (.sl 3 [[a,b,c]]):=rfl
def A7.DS{a:A7}:a.row.length=3:=rfl
def A7.KV{a:A7}:a.row.take 3=a.row:=rfl
section
variable{v:Aa}{l:List A7}{h:Ah}
def np{a b:A7}{neg:Bool}:Ay (.geq neg [.i,.s,.s]) [.agg a.row,.agg b.row]=some (.bool (decide (a=b) != neg)):=by
 rw[WM];have:DR [.i,.s,.s] a.row b.row=some (decide (a=b)):=by simp only[DR,LJ,A7.row,BD,Bx];cases a;cases b;simp only[A7.mk.injEq];rw[Lc];simp
 rw[this];rfl
def br{k:IntKind}{s:Ak}{a z:Nat}(ha:a<=s.length):Ay (.PQ z true true false) [.str s,.int k (a:Int)]=some (.str (s.drop a)):=by
 have c:Eg (a:Int) s.length=some a:=by unfold Eg;rw[Af Ac];rfl
 simp[Ay,Io,Dx,c]
end
end
section
structure Cp where
 node:Int
 name:Ak
 Av:List A7
deriving DecidableEq
structure C1 where
 c:Cp
 v:Aa
 ok:A8 c.Av v
def C1.row(e:C1):List Aa:=[.int .i64 e.c.node,.str e.c.name,e.v]
def EJ(l:List C1)(v:Aa):Prop:=Bz 3 (l.map C1.row) v
section
variable{e:C1}{d:Aa}
def C1.DS:e.row.length=3:=rfl
def C1.g0:e.row.getD 0 d= .int .i64 e.c.node:=rfl
def C1.g1:e.row.getD 1 d= .str e.c.name:=rfl
def C1.g2:e.row.getD 2 d=e.v:=rfl
def C1.at0:e.row[0]?=some (.int .i64 e.c.node):=rfl
def C1.KV:e.row.take 3=e.row:=rfl
def C1.nj:e.row.drop 1=[.str e.c.name,e.v]:=rfl
def C1.UX:[Aa.int .i64 e.c.node,.str e.c.name,e.v]=e.row:=rfl
def C1.aJ5:Ay (.len false) [e.v]=some (.int .i64 (e.c.Av.length:Int)):=Bz.Ha e.ok
end
def A7.g0{a:A7}{d:Aa}:a.row.getD 0 d= .int .i64 a.A9:=rfl
def A7.g1{a:A7}{d:Aa}:a.row.getD 1 d= .str a.name:=rfl
def A7.g2{a:A7}{d:Aa}:a.row.getD 2 d= .str a.value:=rfl
def A7.UX{a:A7}:[Aa.int .i64 a.A9,.str a.name,.str a.value]=a.row:=rfl
def Zx{n:Nat}(h:n<=2000000000):n*48<=AK:=by have:AK=140737488355328:=rfl;omega
def Tp(e:C1):Bool:=decide (e.c.node=0)
def Tq(n:Int)(e:C1):Bool:=decide (e.c.node=n)
def since(l:List C1):Int:=AX Tp l+1
def bt:since []=0:=rfl
def nW{l:List C1}{e:C1}:since (l++[e])=if e.c.node=0 then(l.length:Int)+1 else since l:=by unfold since;rw[Lr];by_cases h:e.c.node=0<;>simp[Tp,h]
def nX{l:List C1}{n:Nat}(hn:n<l.length):since (l.take (n+1))=if l[n].c.node=0 then(n:Int)+1 else since (l.take n):=by rw[AS hn,nW,AB,CG (TW hn)]
def Q4(l:List C1):∃s:Nat,since l=(s:Int)/\s<=l.length/\(∀m (hm:m<l.length),s<=m->l[m].c.node≠0)/\(∀t,s=t+1->∃ht:t<l.length,l[t].c.node=0):=by
 rcases DY (q:=Tp) (l:=l) with⟨h1,h2⟩|⟨n,hn,h1,h2,a⟩
 .refine⟨0,by unfold since;rw[h1];rfl,Bd _,λm hm _=>?_,λt ht=>by omega⟩;have:=h2 _ (A5 hm);simpa[Tp] using this
 .refine⟨n+1,by unfold since;rw[h1];rfl,hn,λm hm Ek=>?_,λt ht=>?_⟩;.have:=a m hm Ac;simpa[Tp] using this
  .obtain rfl:t=n:=by omega
   exact⟨hn,by simpa[Tp] using h2⟩
section
variable{h:Ah}{v:Aa}{l:List C1}{id:Nat}
def sN(name:Ak):List C1->Int
 |[]=> -1
 |e::t=>if e.c.node=0 then -1 else if e.c.name=name then(t.length:Int) else sN name t
def QE(name:Ak)(l:List C1):Int:=sN name l.reverse
def nY{name:Ak}{n:Nat}(hn:n<l.length):QE name (l.take (n+1))=if l[n].c.node=0 then -1 else if l[n].c.name=name then(n:Int) else QE name (l.take n):=by rw[AS hn,QE,HZ,IM,Jj,sN,YQ,AB,CG (TW hn),QE]
def bu{name:Ak}:QE name []= -1:=rfl
def Ko(node:Int)(l:List C1):Int:=if node=0 then -1 else AX (Tq node) l
end
section
variable{h:Ah}{v:Aa}{l:List A7}
def Li(a b:Cp):Bool:=decide (a.name=b.name/\a.Av.length=b.Av.length/\(∀x∈a.Av,x∈b.Av)/\∀x∈b.Av,x∈a.Av)
def gi(e:C1):Prop:=e.c.Av.length<=1000000000
end
end
section
mutual
def Aa.Sc:∀a:Aa,Aa.beq a a=true
 | .bool a=>by simp[Aa.beq]
 | .int k a=>by simp[Aa.beq]
 | .str a=>by simp[Aa.beq]
 | .ptr a=>by simp[Aa.beq]
 | .BW a=>by simp[Aa.beq,Aa.Kp a]
 | .sl n a=>by simp[Aa.beq,Aa.W0 a]
 | .EC _=>by simp[Aa.beq]
 | .slnil=>by simp[Aa.beq]
 | .CW a c d e=>by simp[Aa.beq]
 | .map a=>by simp[Aa.beq]
 | .func f a c=>by simp[Aa.beq,Aa.Kp a,Aa.Kp c]
 | .nilFunc=>by simp[Aa.beq]
 | .iface t a=>by simp[Aa.beq,Aa.Sc a]
 | .nilIface=>by simp[Aa.beq]
 | .agg a=>by simp[Aa.beq,Aa.Kp a]
 | .tuple a=>by simp[Aa.beq,Aa.Kp a]
def Aa.Kp:∀a:List Aa,Aa.Rw a a=true
 |[]=>by simp[Aa.Rw]
 |a::x=>by simp[Aa.Rw,Aa.Sc a,Aa.Kp x]
def Aa.W0:∀a:List (List Aa),Aa.Rx a a=true
 |[]=>by simp[Aa.Rx]
 |a::x=>by simp[Aa.Rx,Aa.Kp a,Aa.W0 x]
end
def Tr(h:Ah)(id o:Nat)(l:List C1):Prop:=∃u,At h id o u/\EJ l u
def EJ.cells{l:List C1}{v:Aa}(hv:EJ l v):v.cells=[v]:=Bz.cells hv
def Tr.lt{h:Ah}{id o:Nat}{l:List C1}(hs:Tr h id o l):∃v,At h id o v:=let⟨u,hc,_⟩:=hs;⟨u,hc⟩
def Ts(l:List C1):∀r∈l.map C1.row,r.length=3:=LV (f:=C1.row) (λa=>C1.DS) l
section
variable{h:Ah}{v:Aa}{l:List C1}{id:Nat}
def bw{r:List Aa}(h:r.length=3):Ay (.Cl 3) [.agg r]=some (.sl 3 [r]):=WT (a:= .agg r) h AI
def iR(n:Int)(l:List C1):Ko n l= -1\/∃k:Nat,k<l.length/\Ko n l=(k:Int):=by
 unfold Ko;split;.exact .inl rfl
 .rcases DY (q:=Tq n) (l:=l) with⟨h1,_⟩|⟨k,hk,h1,_⟩
  .exact .inl h1
  .exact .inr ⟨k,hk,h1⟩
def bU:C1:=⟨⟨0,[],[]⟩,.slnil,.nil⟩
def nr:[I 0,S [],Aa.slnil]=bU.row:=rfl
def Gt(i:Int)(n:Nat):Nat:=min (max i 0).toNat n
def Hz(l:List C1):Nat:=(since l-1).toNat
end
end
section
def z_(e:Cp):List C1->Nat
 |[]=>0
 |x::t=>if x.c.node=0 then 0 else z_ e t+(if Li x.c e=true then 1 else 0)
def nZ(e:Cp):List C1->Int
 |[]=> -1
 |x::t=>if x.c.node=0 then -1 else if 0<=nZ e t then nZ e t else if Li x.c e=true then(t.length:Int) else -1
def Yy(e:Cp)(l:List C1):Nat:=z_ e l.reverse
def Q5(e:Cp)(l:List C1):Int:=nZ e l.reverse
section
variable{e:Cp}{l:List C1}{n s:Nat}
def Zy(hn:n<l.length):Yy e (l.take (n+1))=if l[n].c.node=0 then 0 else Yy e (l.take n)+(if Li l[n].c e=true then 1 else 0):=by rw[AS hn,Yy,HZ,IM,Jj,z_,Yy]
def Zz(hn:n<l.length):Q5 e (l.take (n+1))=if l[n].c.node=0 then -1 else if 0<=Q5 e (l.take n) then Q5 e (l.take n) else if Li l[n].c e=true then(n:Int) else -1:=by rw[AS hn,Q5,HZ,IM,Jj,nZ,Q5,YQ,AB,CG (TW hn)]
def oA(hs:since l=(s:Int)):Yy e (l.take s)=0/\Q5 e (l.take s)= -1:=by
 obtain⟨s',e,h1,h2,a⟩:=Q4 l;obtain rfl:s=s':=Ac;cases s with
 |zero=>exact⟨rfl,rfl⟩
 |succ t=>obtain⟨ht,h0⟩:=a t rfl;exact⟨by rw[Zy ht,Af h0],by rw[Zz ht,Af h0]⟩
end
def Q6(e:Cp)(l:List C1):List C1:=if e.node≠0/\3<=Yy e l then BB l (Q5 e l).toNat else l
section
variable{h:Ah}{v:Aa}{l:List C1}{id:Nat}
end
end
section
section
variable{h:Ah}{v:Aa}{l:List C1}{id:Nat}
end
end
end Go.Am
end
section
namespace Go.Am
structure GL where
 kind:Int:=0
 He:Int:=0
 Bw:List Int:=[]
 Cy:Int:=0
 A9:Int:=0
 name:Ak:=[]
 Av:List A7:=[]
 data:Ak:=[]
 JN:Ak:=[]
 sys:Ak:=[]
 CS:Bool:=false
 cont:Int:=0
 EK:Int:=0
deriving DecidableEq
structure Ar where
 n:List GL
 i:List Int
abbrev Bb:Ak:=aTv
def fE(x:GL):Prop:=x.kind=4/\x.A9=1/\x.name=Bb
instance(x:GL):Decidable (fE x):=by unfold fE;infer_instance
namespace Ar
def len(A:Ar):Int:=A.n.length
def has(A:Ar)(h:Int):Prop:=1<=h/\h<=A.n.length
instance(A:Ar)(h:Int):Decidable (A.has h):=by unfold has;infer_instance
def nd(A:Ar)(h:Int):GL:=if A.has h then A.n.getD (h.toNat-1) {} else{}
def inr(A:Ar)(h:Int):Int:=if A.has h then A.i.getD (h.toNat-1) 0 else 0
def set(A:Ar)(h:Int)(x:GL):Ar:={n:=if A.has h then A.n.set (h.toNat-1) x else A.n,i:=A.i}
def Nk(A:Ar)(h:Int)(x:Int):Ar:={n:=A.n,i:=if A.has h then A.i.set (h.toNat-1) x else A.i}
def add(A:Ar)(x:GL):Ar:={n:=A.n++[x],i:=A.i++[0]}
def up(A:Ar)(h:Int):Int:=if(A.nd h).He≠0 then(A.nd h).He else(A.nd h).EK
end Ar
section
variable{A:Ar}{h k:Int}{x y:GL}
def OB(a:¬A.has h):A.nd h={}:=by unfold Ar.nd;rw[Ag a]
def IX:(A.set h x).n.length=A.n.length:=by simp only[Ar.set];split<;>simp
def A_:(A.set h x).len=A.len:=by unfold Ar.len;rw[IX]
def I6:(A.set h x).has k↔A.has k:=by unfold Ar.has;rw[IX]
def JO:(A.set h x).nd k=if k=h/\A.has h then x else A.nd k:=by
 unfold Ar.nd;simp only[I6];by_cases hk:A.has k
 .rw[Af hk,Af hk];simp only[Ar.set];by_cases a:A.has h
  .rw[Af a];have h1:=a;have h2:=hk;unfold Ar.has at h1 h2;by_cases e:k=h;.subst e;rw[Af ⟨rfl,a⟩,AP,AA Ac];rfl
   .rw[Ag (by simp[e]),AP,Ao Ac,AP]
  .rw[Ag a,Ag (by simp[a])]
 .rw[Ag hk,Ag hk,Ag];rintro⟨rfl,h2⟩;exact hk h2
def Sd:(A.set h x).inr k=A.inr k:=by unfold Ar.inr;simp only[I6];rfl
def N1:(A.add x).len=A.len+1:=by simp[Ar.len,Ar.add]
def Ea:(A.add x).has k↔A.has k\/k=A.len+1:=by simp[Ar.has,Ar.add,Ar.len];omega
def Lj:(A.add x).nd k=if k=A.len+1 then x else A.nd k:=by
 unfold Ar.nd;simp only[Ea];by_cases e:k=A.len+1;.subst e;simp[Ar.add,Ar.len]
 .by_cases hk:A.has k;.rw[Af (.inl hk),Ag e,Af hk];unfold Ar.has at hk;simp only[Ar.add,AP];rw[An Ac]
  .rw[Ag (by simp[hk,e]),Ag e,Ag hk]
def Vo(hl:A.i.length=A.n.length):(A.add x).inr k=A.inr k:=by
 unfold Ar.inr;simp only[Ea];by_cases e:k=A.len+1
 .subst e;have:¬A.has (A.len+1):=by unfold Ar.has Ar.len;omega
  rw[Af (.inr rfl),Ag this];simp[Ar.add,Ar.len,<-hl]
 .by_cases hk:A.has k;.rw[Af (.inl hk),Af hk];unfold Ar.has at hk;simp only[Ar.add,AP];rw[An Ac]
  .rw[Ag (by simp[hk,e]),Ag hk]
def iS:(A.Nk h k).len=A.len:=rfl
def Se{m:Int}:(A.Nk h m).has k↔A.has k:=Iff.rfl
def sP{m:Int}:(A.Nk h m).nd k=A.nd k:=by rfl
def W8{m:Int}(hl:A.i.length=A.n.length):(A.Nk h m).inr k=if k=h/\A.has h then m else A.inr k:=by
 unfold Ar.inr;simp only[Se];by_cases hk:A.has k
 .rw[Af hk,Af hk];simp only[Ar.Nk];by_cases a:A.has h
  .rw[Af a];have h1:=a;have h2:=hk;unfold Ar.has at h1 h2;by_cases e:k=h;.subst e;rw[Af ⟨rfl,a⟩,AP,AA Ac];rfl
   .rw[Ag (by simp[e]),AP,Ao Ac,AP]
  .rw[Ag a,Ag (by simp[a])]
 .rw[Ag hk,Ag hk,Ag];rintro⟨rfl,h2⟩;exact hk h2
end
def keyOf(a:A7):Int×Ak:=(a.A9,a.name)
def Gu(out:List A7):List A7->List A7
 |[]=>out
 |x::l=>if out.any (λy=>decide (keyOf x=keyOf y)) then Gu out l else Gu (out++[x]) l
def C7(l:List A7):List A7:=Gu [] l
def Q7:∀{l out:List A7},(out.map keyOf).Nodup->((Gu out l).map keyOf).Nodup
 |[],_,h=>h
 |x::l,out,h=>by
  rw[Gu];split;.exact Q7 h
  .rename_i hn;refine Q7 ?_;rw[BP,BQ];refine⟨h,Ax,?_⟩;rintro a ha b hb rfl;simp at hb;subst hb;simp at ha hn;obtain⟨y,hy,e⟩:=ha;exact hn y hy e.symm
def iT:∀{l out:List A7},((out++l).map keyOf).Nodup->Gu out l=out++l
 |[],out,_=>by simp[Gu]
 |x::l,out,h=>by
  rw[Gu,Ag,iT (by simpa using h)];.simp
  .intro ha;rw[BP,BQ] at h;simp at ha;obtain⟨y,hy,e⟩:=ha;exact h.2.2 _ (AZ.2 ⟨y,hy,e.symm⟩) _ Ax rfl
def bx(l:List A7):((C7 l).map keyOf).Nodup:=Q7 Ax
def B_{l:List A7}(h:(l.map keyOf).Nodup):C7 l=l:=by have:=iT (out:=[]) (l:=l) (by simpa using h);simpa[C7] using this
def ZA(l:List A7):C7 (C7 l)=C7 l:=B_ (bx l)
def Tt:∀{l out:List A7} {a:A7},a∈Gu out l->a∈out\/a∈l
 |[],_,_,h=> .inl h
 |x::l,out,a,h=>by
  rw[Gu] at h;split at h
  .rcases Tt h with h|h
   .exact .inl h
   .exact .inr (by simp[h])
  .rcases Tt h with h|h
   .simp at h;rcases h with h|rfl
    .exact .inl h
    .exact .inr Ax
   .exact .inr (by simp[h])
def iU{l:List A7}{a:A7}(h:a∈C7 l):a∈l:=by simpa using Tt h
def W9:∀{l out:List A7},(Gu out l).length<=out.length+l.length
 |[],out=>by simp[Gu]
 |x::l,out=>by
  rw[Gu];split;.have:=W9 (l:=l) (out:=out);simp;omega
  .have:=W9 (l:=l) (out:=out++[x]);simp at this⊢;omega
def Sf{l:List A7}:(C7 l).length<=l.length:=by have:=W9 (l:=l) (out:=[]);simpa[C7] using this
structure sQ(x:GL):Prop where
 k:1<=x.kind/\x.kind<=6
 Bw:x.Bw≠[]->x.kind=1\/x.kind=2\/x.kind=4
 elem:x.kind≠4->x.A9=0/\x.Av=[]
 nm:x.kind≠4->x.kind≠3->x.name=[]
 dt:x.kind≠3->x.JN=[]/\x.sys=[]
 data:x.kind≠5->x.kind≠6->x.data=[]
 CS:x.kind≠1->x.CS=false
 sp:0<=x.A9/\x.A9<=7
 xi:∀a∈x.Av,0<=a.A9/\a.A9<=7
 C7:C7 x.Av=x.Av
 Uu:x.cont≠0->fE x
 OC:x.EK≠0->x.kind=2
 root:x.He≠0->x.kind≠1/\x.kind≠2
 bz:x.Bw.Nodup
structure EY(A:Ar)(e:Int):Prop where
 il:A.i.length=A.n.length
 Tu:∀h,A.has h->sQ (A.nd h)
 Cy:∀h,A.has h->A.has (A.nd h).Cy/\(A.nd (A.nd h).Cy).kind=1
 Yz:∀h,A.has h->(A.nd h).kind=1->(A.nd h).Cy=h
 He:∀h,A.has h->(A.nd h).He≠0->A.has (A.nd h).He/\h∈(A.nd (A.nd h).He).Bw
 P2:∀h,A.has h->∀k∈(A.nd h).Bw,A.has k/\(A.nd k).He=h
 Xa:∀h,A.has h->h≠e->fE (A.nd h)->(A.nd h).cont≠0
 cont:∀h,A.has h->(A.nd h).cont≠0->A.has (A.nd h).cont/\(A.nd (A.nd h).cont).kind=2/\(A.nd (A.nd h).cont).EK=h
 EK:∀h,A.has h->(A.nd h).EK≠0->A.has (A.nd h).EK/\(A.nd (A.nd h).EK).cont=h
 ine:∀h,A.has h->A.inr h≠0->A.has (A.inr h)/\(A.nd (A.inr h)).kind=1
 iV:∃r:Int->Nat,∀h,A.has h->A.up h≠0->r (A.up h)<r h
section
variable{A:Ar}{e h k:Int}{x y:GL}
def Q8:¬A.has (A.len+1):=by unfold Ar.has Ar.len;omega
def Xb(a:¬A.has h):A.up h=0:=by unfold Ar.up;rw[OB a];simp
def oB(ok:EY A e)(a:A.has h)(hu:A.up h≠0):A.has (A.up h):=by
 unfold Ar.up at hu⊢;split;.rename_i h1;exact(ok.He h a h1).1
 .rename_i h1;rw[Ag h1] at hu;exact(ok.EK h a hu).1
def Q9(ok:EY A e)(hx:sQ x)(hd:(x.kind=1/\x.Cy=A.len+1)\/(x.kind≠1/\A.has x.Cy/\(A.nd x.Cy).kind=1))(hp:x.He=0)(hk:x.Bw=[])(hc:x.cont=0)(a:x.EK=0)(b:fE x->e=A.len+1):EY (A.add x) e:=by
 have no:=Q8 (A:=A);obtain⟨r,hr⟩:=ok.iV;have ne:∀{k},A.has k->k≠A.len+1:=λhk e=>no (e▸hk);refine⟨by simp[Ar.add,ok.il],?_,?_,?_,?_,?_,?_,?_,?_,?_,r,?_⟩<;>intro m hm<;>rw[Ea] at hm<;>(try rw[Vo ok.il])<;>simp only[Ar.up,Lj,Ea]<;>rcases hm with hm|rfl
 all_goals first|(rw[Ag (ne hm)])|(rw[Af rfl])|skip
 .exact ok.Tu m hm
 .exact hx
 .have:=ok.Cy m hm;rw[Ag (ne this.1)];exact⟨.inl this.1,this.2⟩
 .rcases hd with⟨h1,h2⟩|⟨h1,h2,c⟩
  .rw[Af h2];exact⟨.inr h2,h1⟩
  .rw[Ag (ne h2)];exact⟨.inl h2,c⟩
 .exact ok.Yz m hm
 .intro h1;rcases hd with⟨_,h2⟩|⟨h2,_⟩
  .exact h2
  .exact absurd h1 h2
 .intro h1;have:=ok.He m hm h1;rw[Ag (ne this.1)];exact⟨.inl this.1,this.2⟩
 .intro h1;exact absurd hp h1
 .intro q hq;have:=ok.P2 m hm q hq;rw[Ag (ne this.1)];exact⟨.inl this.1,this.2⟩
 .intro q hq;rw[hk] at hq;cases hq
 .exact ok.Xa m hm
 .intro h1 h2;exact absurd (b h2).symm h1
 .intro h1;have:=ok.cont m hm h1;rw[Ag (ne this.1)];exact⟨.inl this.1,this.2⟩
 .intro h1;exact absurd hc h1
 .intro h1;have:=ok.EK m hm h1;rw[Ag (ne this.1)];exact⟨.inl this.1,this.2⟩
 .intro h1;exact absurd a h1
 .intro h1;have:=ok.ine m hm h1;rw[Ag (ne this.1)];exact⟨.inl this.1,this.2⟩
 .intro h1;exfalso;apply h1;unfold Ar.inr;rw[Ag no]
 .have:=hr m hm;unfold Ar.up at this;exact this
 .rw[hp,a];simp
inductive Reach(A:Ar)(t:Int):Int->Prop
 |refl:Reach A t t
 |step {h:Int}:A.up h≠0->Reach A t (A.up h)->Reach A t h
def My(l:List Int)(b n:Int):List Int:=if b=0 then l++[n] else l.takeWhile (λk=>decide (k≠b))++n::l.dropWhile (λk=>decide (k≠b))
def Ar.cut(A:Ar)(n:Int):Ar:=
 let q:=(A.nd n).He
 if q=0 then A else
  let a:=A.set q {A.nd q with Bw:=(A.nd q).Bw.filter λk=>decide (k≠n)}
  a.set n {a.nd n with He:=0}
def Ar.MG(A:Ar)(p n b:Int):Ar:=
 let a:=A.set p {A.nd p with Bw:=My (A.nd p).Bw b n}
 a.set n {a.nd n with He:=p}
def OD(k:Int):Prop:=k=1\/k=2\/k=4
instance(k:Int):Decidable (OD k):=by unfold OD;infer_instance
structure aAp(A:Ar)(p n b:Int):Prop where
 hp:A.has p
 hn:A.has n
 hb:b≠0->A.has b/\b≠n/\(A.nd b).He=p
 kp:OD (A.nd p).kind
 kn:(A.nd n).kind≠1/\(A.nd n).kind≠2
 re:¬Reach A n p
open Classical in
def Ar.If(A:Ar)(p n b:Int):Ar:=if aAp A p n b then(A.cut n).MG p n b else A
def Tv{l:List Int}{b n k:Int}:k∈My l b n↔k=n\/k∈l:=by
 unfold My;split;.simp;exact Or.comm
 .have e:=lQ (p:=λk=>decide (k≠b)) (l:=l);constructor
  .intro h;rw[Aq,AE] at h;rcases h with h|h|h
   .exact .inr (by rw[<-e];simp only[Aq];exact .inl h)
   .exact .inl h
   .exact .inr (by rw[<-e];simp only[Aq];exact .inr h)
  .intro h;rw[Aq,AE];rcases h with h|h
   .exact .inr (.inl h)
   .rw[<-e,Aq] at h;rcases h with h|h
    .exact .inl h
    .exact .inr (.inr h)
def iW{l:List Int}{b n:Int}(h:l.Nodup)(hn:n∉l):(My l b n).Nodup:=by
 unfold My;split;.rw[BQ];refine⟨h,Ax,?_⟩;rintro a ha c hc rfl;simp at hc;subst hc;exact hn ha
 .have e:=lQ (p:=λk=>decide (k≠b)) (l:=l);generalize List.takeWhile _ l=u at e⊢;generalize List.dropWhile _ l=w at e⊢;subst e;rw[BQ] at h⊢;simp at hn;refine⟨h.1,by simp[h.2.1,hn.2],?_⟩;rintro a ha c hc rfl;simp at hc;rcases hc with rfl|hc
  .exact hn.1 ha
  .exact h.2.2 _ ha _ hc rfl
def iX:(A.cut h).n.length=A.n.length:=by unfold Ar.cut;simp only;split<;>simp[IX]
def N2:(A.cut h).has k↔A.has k:=by unfold Ar.has;rw[iX]
def iY{p n b:Int}:(A.MG p n b).n.length=A.n.length:=by unfold Ar.MG;simp[IX]
def sR{p n b:Int}:(A.MG p n b).has k↔A.has k:=by unfold Ar.has;rw[iY]
def C_:(A.cut h).inr k=A.inr k:=by unfold Ar.cut;simp only;split<;>simp[Sd]
def D_{p n b:Int}:(A.MG p n b).inr k=A.inr k:=by unfold Ar.MG;simp[Sd]
def Ħ(ok:EY A e)(a:A.has h)(hu:A.up h≠0):A.up h≠h:=by obtain⟨r,hr⟩:=ok.iV;intro e;have:=hr h a hu;rw[e] at this;exact Dd _ this
def oC(ok:EY A e)(a:A.has h)(hu:(A.nd h).He≠0):(A.nd h).He≠h:=by
 have:A.up h=(A.nd h).He:=by unfold Ar.up;rw[Af hu]
 have h2:=Ħ ok a (by rw[this];exact hu);rwa [this] at h2
def Xc(ok:EY A e)(a:A.has h):(A.cut h).nd k=if k=h then{A.nd h with He:=0} else if(A.nd h).He≠0/\k=(A.nd h).He then{A.nd k with Bw:=(A.nd k).Bw.filter λm=>decide (m≠h)} else A.nd k:=by
 unfold Ar.cut;simp only
 by_cases hp:(A.nd h).He=0
 .rw[Af hp];by_cases e:k=h;.subst e;rw[Af rfl];have:A.nd k={A.nd k with He:=(A.nd k).He}:=rfl;rw[hp] at this;exact this
  .rw[Ag e,Ag (by simp[hp])]
 .have hn:=oC ok a hp;have hq:=(ok.He h a hp).1;rw[Ag hp];simp only[JO,I6,a,hq,Mb];by_cases e:k=h;.subst e;simp[Dr hn]
  .simp[e,hp];split;.rename_i e;simp[e]
   .rfl
def iZ{x:GL}(hx:sQ x){l:List Int}(h1:l.Nodup)(h2:l≠[]->OD x.kind):sQ {x with Bw:=l}:=
 {k:=hx.k,Bw:=h2,elem:=hx.elem,nm:=hx.nm,dt:=hx.dt,data:=hx.data,CS:=hx.CS,sp:=hx.sp,xi:=hx.xi,C7:=hx.C7,Uu:=hx.Uu,OC:=hx.OC,root:=hx.root,bz:=h1}
def sS{x:GL}(hx:sQ x){p:Int}(h2:p≠0->x.kind≠1/\x.kind≠2):sQ {x with He:=p}:=
 {k:=hx.k,Bw:=hx.Bw,elem:=hx.elem,nm:=hx.nm,dt:=hx.dt,data:=hx.data,CS:=hx.CS,sp:=hx.sp,xi:=hx.xi,C7:=hx.C7,Uu:=hx.Uu,OC:=hx.OC,root:=h2,bz:=hx.bz}
def aAq(ok:A.i.length=A.n.length):(A.cut h).i.length=(A.cut h).n.length:=by rw[iX];unfold Ar.cut;simp only;split<;>exact ok
def aAr{p n b:Int}(ok:A.i.length=A.n.length):(A.MG p n b).i.length=(A.MG p n b).n.length:=by rw[iY];exact ok
def E_(ok:EY A e)(a:A.has h)(hk:k∈(A.nd h).Bw):k≠h/\(A.nd k).He=h/\A.has k:=by have:=ok.P2 h a k hk;refine⟨?_,this.2,this.1⟩;rintro rfl;have h0:=this.1.1;exact oC ok a (by rw[this.2];omega) this.2
def nu(ok:EY A e)(a:A.has h):(A.cut h).up k=if k=h then(A.nd h).EK else A.up k:=by
 unfold Ar.up;rw[Xc ok a];by_cases e:k=h;.simp[e]
 .simp only[e,DO];split<;>rfl
def bV(ok:EY A e)(c:A.has h)(Ya:(A.nd h).kind≠2):EY (A.cut h) e:=by
 obtain⟨r,hr⟩:=ok.iV;have a:=λm=>Xc (k:=m) ok c;have kd:∀m,((A.cut h).nd m).kind=(A.nd m).kind:=λm=>by rw[a];grind
 have l:∀m,((A.cut h).nd m).Cy=(A.nd m).Cy:=λm=>by rw[a];grind
 have n:∀m,((A.cut h).nd m).cont=(A.nd m).cont:=λm=>by rw[a];grind
 have ho:∀m,((A.cut h).nd m).EK=(A.nd m).EK:=λm=>by rw[a];grind
 have d:(A.nd h).EK=0:=by
  by_cases h0:(A.nd h).EK=0;.exact h0
  .exact absurd ((ok.Tu h c).OC h0) Ya
 refine⟨aAq ok.il,?_,?_,?_,?_,?_,?_,?_,?_,?_,r,?_⟩<;>intro m hm<;>rw[N2] at hm<;>(try simp only[kd,l,n,ho,N2,C_])
 .rw[a];split;.exact sS (ok.Tu h c) Ax
  .split;.exact iZ (ok.Tu m hm) ((ok.Tu m hm).bz.filter _) λh1=>(ok.Tu m hm).Bw (by intro h2;rw[h2] at h1;simp at h1)
   .exact ok.Tu m hm
 .exact ok.Cy m hm
 .exact ok.Yz m hm
 .intro h1;have b:m≠h:=by rintro rfl;rw[a] at h1;simp at h1
  have j:((A.cut h).nd m).He=(A.nd m).He:=by rw[a,Ag b];split<;>rfl
  rw[j] at h1⊢;have h2:=ok.He m hm h1;refine⟨h2.1,?_⟩;rw[a];split;.rename_i i;rw[<-i];exact h2.2
  .split;.simp only[Dk,B4];exact⟨h2.2,b⟩
   .exact h2.2
 .intro q hq;have h1:q∈(A.nd m).Bw/\(m=(A.nd h).He->q≠h):=by
   rw[a] at hq;split at hq;.rename_i b;subst b;have:=E_ ok hm hq;exact⟨hq,λ_=>this.1⟩
   .split at hq;.simp only[Dk,B4] at hq;exact⟨hq.1,λ_=>hq.2⟩
    .rename_i g;refine⟨hq,λf o=>g ⟨?_,f⟩⟩;rw[<-f];have:=hm.1;omega
  have h2:=ok.P2 m hm q h1.1;refine⟨h2.1,?_⟩;have b:q≠h:=by rintro rfl;exact h1.2 h2.2.symm rfl
  rw[a,Ag b,<-h2.2];split<;>rfl
 .intro h1 h2;refine ok.Xa m hm h1 ?_;rw[a] at h2;unfold fE at h2⊢;grind
 .exact ok.cont m hm
 .exact ok.EK m hm
 .exact ok.ine m hm
 .rw[nu ok c];split;.rw[d];simp
  .exact hr m hm
def nv{p n b:Int}(hp:A.has p)(hn:A.has n)(hne:n≠p):(A.MG p n b).nd k=if k=n then{A.nd n with He:=p} else if k=p then{A.nd p with Bw:=My (A.nd p).Bw b n} else A.nd k:=by
 unfold Ar.MG;simp only[JO,I6,hp,hn,Mb];by_cases e:k=n;.subst e;simp[hne]
 .simp[e]
def b_{p n b:Int}(hp:A.has p)(hn:A.has n)(hne:n≠p)(h0:(A.nd n).He=0)(a:(A.nd n).EK=0)(hr:¬Reach A n p):∀{m},¬Reach A n m->(A.MG p n b).up m=A.up m:=by
 intro m hm;have e:m≠n:=by rintro rfl;exact hm .refl
 unfold Ar.up;rw[nv hp hn hne,Ag e];split;.rename_i e;subst e;rfl
 .rfl
open Classical in
def aAs(ok:EY A e){p n b:Int}(hp:A.has p)(hn:A.has n)(kp:OD (A.nd p).kind)(kn:(A.nd n).kind≠1/\(A.nd n).kind≠2)(re:¬Reach A n p)(h0:(A.nd n).He=0):EY (A.MG p n b) e:=by
 obtain⟨r,hr⟩:=ok.iV;have hne:n≠p:=by rintro rfl;exact re .refl
 have a:=λm=>nv (k:=m) (b:=b) hp hn hne;have kd:∀m,((A.MG p n b).nd m).kind=(A.nd m).kind:=λm=>by rw[a];grind
 have l:∀m,((A.MG p n b).nd m).Cy=(A.nd m).Cy:=λm=>by rw[a];grind
 have o:∀m,((A.MG p n b).nd m).cont=(A.nd m).cont:=λm=>by rw[a];grind
 have ho:∀m,((A.MG p n b).nd m).EK=(A.nd m).EK:=λm=>by rw[a];grind
 have i:(A.nd n).EK=0:=by
  by_cases h0:(A.nd n).EK=0;.exact h0
  .exact absurd ((ok.Tu n hn).OC h0) kn.2
 have g:∀m,A.has m->n∉(A.nd m).Bw:=by intro m hm h1;have:=ok.P2 m hm n h1;rw[h0] at this;have:=hm.1;omega
 refine⟨aAr ok.il,?_,?_,?_,?_,?_,?_,?_,?_,?_,λm=>if Reach A n m then r m+r p+1 else r m,?_⟩<;>intro m hm<;>rw[sR] at hm<;>(try simp only[kd,l,o,ho,sR,D_])
 .rw[a];split;.exact sS (ok.Tu n hn) λ_=>kn
  .split;.exact iZ (ok.Tu p hp) (iW (ok.Tu p hp).bz (g p hp)) λ_=>kp
   .exact ok.Tu m hm
 .exact ok.Cy m hm
 .exact ok.Yz m hm
 .intro h1;by_cases c:m=n
  .subst c;rw[a,Af rfl];refine⟨hp,?_⟩;simp only
   rw[a,Ag (Dr hne),Af rfl];exact Tv.2 (.inl rfl)
  .have f:((A.MG p n b).nd m).He=(A.nd m).He:=by rw[a,Ag c];split;rename_i e;rw[e];rfl
   rw[f] at h1⊢;have h2:=ok.He m hm h1;refine⟨h2.1,?_⟩;rw[a];split;.rename_i j;rw[<-j];exact h2.2
   .split;.rename_i j;rw[<-j];exact Tv.2 (.inr h2.2)
    .exact h2.2
 .intro q hq;by_cases c:q=n
  .subst c;refine⟨hn,?_⟩;rw[a,Af rfl];rw[a] at hq;split at hq;.exact absurd hq (g q hn)
   .split at hq;.rename_i e;exact e.symm
    .exact absurd hq (g m hm)
  .have h1:q∈(A.nd m).Bw:=by
    rw[a] at hq;split at hq;.rename_i e;rw[e];exact hq
    .split at hq;.rename_i e;rw[e];exact(Tv.1 hq).resolve_left c
     .exact hq
   have h2:=ok.P2 m hm q h1;refine⟨h2.1,?_⟩;rw[a,Ag c,<-h2.2];split;.rename_i e;rw[e]
   .rfl
 .intro h1 h2;refine ok.Xa m hm h1 ?_;rw[a] at h2;unfold fE at h2⊢;grind
 .exact ok.cont m hm
 .exact ok.EK m hm
 .exact ok.ine m hm
 .intro hu;by_cases hR:Reach A n m
  .by_cases c:m=n
   .subst c;have f:(A.MG p m b).up m=p:=by unfold Ar.up;rw[a,Af rfl];simp only;rw[Af];have:=hp.1;omega
    rw[f,Ag re,Af hR];omega
   .have f:(A.MG p n b).up m=A.up m:=by
     unfold Ar.up;rw[a,Ag c];split;.rename_i e;rw[e]
     .rfl
    rw[f] at hu⊢;have d:Reach A n (A.up m):=by
     cases hR with
     |refl=>exact absurd rfl c
     |step _ hx=>exact hx
    rw[Af d,Af hR];have:=hr m hm hu;omega
  .have f:=b_ (b:=b) hp hn hne h0 i re hR;rw[f] at hu⊢;have d:¬Reach A n (A.up m):=λh=>hR (.step hu h);rw[Ag d,Ag hR];exact hr m hm hu
def cf(ok:EY A e)(b:A.has h){m:Int}(hr:¬Reach A h m):¬Reach (A.cut h) h m:=by
 intro LQ;have key:∀m,Reach (A.cut h) h m->Reach A h m:=by
  intro m hm;induction hm with
  |refl=>exact .refl
  |@step q h1 _ ih=>
   by_cases a:q=h;.rw[a];exact .refl
   .rw[nu ok b,Ag a] at h1 ih;exact .step h1 ih
 exact hr (key m LQ)
def P7(ok:EY A e){p n b:Int}:EY (A.If p n b) e:=by
 unfold Ar.If;split
 .rename_i f;have a:=bV ok f.hn f.kn.2;have kd:∀m,((A.cut n).nd m).kind=(A.nd m).kind:=λm=>by rw[Xc ok f.hn];grind
  refine aAs a (N2.2 f.hp) (N2.2 f.hn) ?_ ?_ (cf ok f.hn f.re) ?_;.rw[kd];exact f.kp
  .rw[kd];exact f.kn
  .rw[Xc ok f.hn,Af rfl]
 .exact ok
def oD(ok:EY A e)(g:A.has h)(hx:sQ x)(h1:x.kind=(A.nd h).kind)(h2:x.He=(A.nd h).He)(o:x.Bw=(A.nd h).Bw)(d:A.has x.Cy/\(A.nd x.Cy).kind=1/\(x.kind=1->x.Cy=h))(n:x.cont=(A.nd h).cont)(l:x.EK=(A.nd h).EK)(i:fE x->fE (A.nd h)):EY (A.set h x) e:=by
 obtain⟨r,hr⟩:=ok.iV;have a:∀m,(A.set h x).nd m=if m=h then x else A.nd m:=λm=>by rw[JO];simp[g]
 have kd:∀m,((A.set h x).nd m).kind=(A.nd m).kind:=λm=>by rw[a];grind
 have f:∀m,((A.set h x).nd m).He=(A.nd m).He:=λm=>by rw[a];grind
 have ks:∀m,((A.set h x).nd m).Bw=(A.nd m).Bw:=λm=>by rw[a];grind
 have j:∀m,((A.set h x).nd m).cont=(A.nd m).cont:=λm=>by rw[a];grind
 have ho:∀m,((A.set h x).nd m).EK=(A.nd m).EK:=λm=>by rw[a];grind
 have u:∀m,(A.set h x).up m=A.up m:=λm=>by unfold Ar.up;rw[f,ho]
 refine⟨by rw[IX];exact ok.il,?_,?_,?_,?_,?_,?_,?_,?_,?_,r,?_⟩<;>intro m hm<;>rw[I6] at hm<;>(try simp only[kd,f,ks,j,ho,u,I6,Sd])
 .rw[a];split;.exact hx
  .exact ok.Tu m hm
 .rw[a];split;.exact⟨d.1,d.2.1⟩
  .exact ok.Cy m hm
 .rw[a];split;.rename_i e;intro c;rw[e,d.2.2 (by rw[h1,<-e];exact c)]
  .exact ok.Yz m hm
 .exact ok.He m hm
 .exact ok.P2 m hm
 .intro c b;refine ok.Xa m hm c ?_;rw[a] at b;split at b;.rename_i e;rw[e];exact i b
  .exact b
 .exact ok.cont m hm
 .exact ok.EK m hm
 .exact ok.ine m hm
 .exact hr m hm
def Ar.HP(A:Ar)(d:Int):Int:=if A.inr d≠0 then A.inr d else A.len+1
def Ar.EL(A:Ar)(d:Int):Ar:=if A.inr d≠0 then A else((A.add {kind:=1,Cy:=A.len+1}).Nk d (A.len+1)).Nk (A.len+1) (A.len+1)
def F_:sQ {kind:=1,Cy:=k}:=by constructor<;>simp[C7,Gu]
def sT(ok:EY A e)(hk:A.has k/\(A.nd k).kind=1):EY (A.Nk h k) e:=by
 refine⟨?_,ok.Tu,ok.Cy,ok.Yz,ok.He,ok.P2,ok.Xa,ok.cont,ok.EK,?_,ok.iV⟩;.simp only[Ar.Nk];split<;>simp[ok.il]
 .intro m hm h1;rw[Se] at hm;rw[W8 ok.il] at h1⊢;split at h1;.rename_i h2;rw[Af h2];exact hk
  .rename_i h2;rw[Ag h2];exact ok.ine m hm h1
def ny(ok:EY A e)(b:A.has h)(he:e≠A.len+1):EY (A.EL h) e/\(A.EL h).has (A.HP h)/\((A.EL h).nd (A.HP h)).kind=1:=by
 unfold Ar.EL Ar.HP;split;.rename_i h1;exact⟨ok,ok.ine h b h1⟩
 .have a:=Q9 ok (x:={kind:=1,Cy:=A.len+1}) F_ (.inl ⟨rfl,rfl⟩) rfl rfl rfl rfl (by simp[fE]);have h2:(A.add {kind:=1,Cy:=A.len+1}).has (A.len+1)/\((A.add {kind:=1,Cy:=A.len+1}).nd (A.len+1)).kind=1:=by rw[Ea,Lj,Af rfl];exact⟨.inr rfl,rfl⟩
  exact⟨sT (sT a h2) h2,h2⟩
def Xd(hk:k≠A.len+1\/A.inr h≠0):(A.EL h).nd k=A.nd k:=by
 unfold Ar.EL;split;.rfl
 .rename_i h1;rw[sP,sP,Lj,Ag (hk.resolve_right h1)]
def cg:(A.EL h).len=if A.inr h≠0 then A.len else A.len+1:=by
 unfold Ar.EL;split;.rfl
 .rw[iS,iS,N1]
def Nl:A.has k->(A.EL h).has k:=by
 unfold Ar.EL;split;.exact id
 .intro hk;rw[Se,Se,Ea];exact .inl hk
def G_{d:Int}(ok:EY A e)(he:A.has e)(n:fE (A.nd e))(hc:(A.nd e).cont=0)(hd:A.has d/\(A.nd d).kind=1):EY ((A.add {kind:=2,EK:=e,Cy:=d}).set e {A.nd e with cont:=A.len+1}) 0:=by
 have no:=Q8 (A:=A);obtain⟨r,hr⟩:=ok.iV;have ne:∀{k},A.has k->k≠A.len+1:=λhk e=>no (e▸hk);have l0:A.len+1≠0:=by have:=he.1;have:=he.2;unfold Ar.len;omega
 have b:∀m,(((A.add {kind:=2,EK:=e,Cy:=d}).set e {A.nd e with cont:=A.len+1}).nd m)=if m=e then{A.nd e with cont:=A.len+1} else if m=A.len+1 then{kind:=2,EK:=e,Cy:=d} else A.nd m:=λm=>by rw[JO,Lj];simp[he,Ea]
 have hk:(A.nd e).kind=4:=n.1;have h0:(A.nd e).EK=0:=by
  by_cases h0:(A.nd e).EK=0;.exact h0
  .have:=(ok.Tu e he).OC h0;omega
 have e0:e≠0:=by have:=he.1;omega
 have i:sQ {kind:=2,EK:=e,Cy:=d}:=by constructor<;>simp[C7,Gu]
 have Tu:=ok.Tu;have c:=Tu e he;have hne:sQ {A.nd e with cont:=A.len+1}:={k:=c.k,Bw:=c.Bw,elem:=c.elem,nm:=c.nm,dt:=c.dt,data:=c.data,CS:=c.CS,sp:=c.sp,xi:=c.xi,C7:=c.C7,Uu:=λ_=>n,OC:=c.OC,root:=c.root,bz:=c.bz};have hs:∀m,((A.add {kind:=2,EK:=e,Cy:=d}).set e {A.nd e with cont:=A.len+1}).has m↔A.has m\/m=A.len+1:=λm=>by rw[I6,Ea]
 have hi:∀m,((A.add {kind:=2,EK:=e,Cy:=d}).set e {A.nd e with cont:=A.len+1}).inr m=A.inr m:=λm=>by rw[Sd,Vo ok.il]
 have g:e≠A.len+1:=ne he;refine⟨by rw[IX];simp[Ar.add,Ar.set,ok.il],?_,?_,?_,?_,?_,?_,?_,?_,?_,λm=>if m=A.len+1 then r e+1 else r m,?_⟩<;>intro m hm<;>rw[hs] at hm<;>(try simp only[hs,hi])
 .rw[b];split;.exact hne
  .split;.exact i
   .rename_i h1 h2;exact Tu m (hm.resolve_right h2)
 .have key:∀q,A.has q/\(A.nd q).kind=1->(A.has q\/q=A.len+1)/\(((A.add {kind:=2,EK:=e,Cy:=d}).set e {A.nd e with cont:=A.len+1}).nd q).kind=1:=by
   intro q hq;refine⟨.inl hq.1,?_⟩;rw[b,Ag (ne hq.1)];split;.rename_i a;rw[a] at hq;exact hq.2
   .exact hq.2
  rw[b m];split;.exact key _ (ok.Cy e he)
  .split;.exact key _ hd
   .rename_i h1 h2;exact key _ (ok.Cy m (hm.resolve_right h2))
 .rw[b m];split;.rename_i a;intro h1;rw[a];exact ok.Yz e he h1
  .split;.intro h1;simp at h1
   .rename_i h1 h2;exact ok.Yz m (hm.resolve_right h2)
 .have key:∀q,A.has q->(A.nd q).He≠0->(A.has (A.nd q).He\/(A.nd q).He=A.len+1)/\q∈(((A.add {kind:=2,EK:=e,Cy:=d}).set e {A.nd e with cont:=A.len+1}).nd (A.nd q).He).Bw:=by
   intro q hq hp;have h1:=ok.He q hq hp;refine⟨.inl h1.1,?_⟩;rw[b,Ag (ne h1.1)];split;.rename_i a;rw[a] at h1;exact h1.2
   .exact h1.2
  rw[b m];split;.rename_i a;rw[a];exact key e he
  .split;.intro h1;simp at h1
   .rename_i h1 h2;exact key m (hm.resolve_right h2)
 .have key:∀q,A.has q->∀k∈(A.nd q).Bw,(A.has k\/k=A.len+1)/\(((A.add {kind:=2,EK:=e,Cy:=d}).set e {A.nd e with cont:=A.len+1}).nd k).He=q:=by
   intro q hq k hk;have h1:=ok.P2 q hq k hk;refine⟨.inl h1.1,?_⟩;rw[b,Ag (ne h1.1)];split;.rename_i a;rw[a] at h1;exact h1.2
   .exact h1.2
  rw[b m];split;.rename_i a;rw[a];exact key e he
  .split;.intro k hk;simp at hk
   .rename_i h1 h2;exact key m (hm.resolve_right h2)
 .intro _;rw[b m];split;.intro _;exact l0
  .split;.intro h1;simp[fE] at h1
   .rename_i h1 h2;exact ok.Xa m (hm.resolve_right h2) h1
 .rw[b m];split
  .rename_i a;intro _;simp only
   rw[b,Ag (Dr g),Af rfl,a];exact⟨.inr trivial,rfl,rfl⟩
  .split;.intro h1;simp at h1
   .rename_i h1 h2;intro j;have f:=ok.cont m (hm.resolve_right h2) j;refine⟨.inl f.1,?_⟩;rw[b,Ag (ne f.1)];split;.rename_i a;rw[a,hk] at f;exact absurd f.2.1 AI
    .exact f.2
 .rw[b m];split;.intro h1;exact absurd h0 h1
  .split;.rename_i a;intro _;simp only;refine⟨.inl he,?_⟩;rw[b,Af rfl,a]
   .rename_i h1 h2;intro j;have f:=ok.EK m (hm.resolve_right h2) j;refine⟨.inl f.1,?_⟩;rw[b,Ag (ne f.1)];split;.rename_i a;rw[a,hc] at f;have:=(hm.resolve_right h2).1;omega
    .exact f.2
 .intro h1;rcases hm with hm|rfl
  .have h2:=ok.ine m hm h1;refine⟨.inl h2.1,?_⟩;rw[b,Ag (ne h2.1)];split;.rename_i a;rw[a] at h2;exact h2.2
   .exact h2.2
  .exfalso;apply h1;unfold Ar.inr;rw[Ag no]
 .by_cases a:m=A.len+1
  .have l:((A.add {kind:=2,EK:=e,Cy:=d}).set e {A.nd e with cont:=A.len+1}).up m=e:=by
    have o:m≠e:=by rw[a];exact Dr g
    unfold Ar.up;rw[b m];simp[a,Dr g]
   rw[l,Ag g,Af a];intro _;omega
  .have hm:=hm.resolve_right a;have l:((A.add {kind:=2,EK:=e,Cy:=d}).set e {A.nd e with cont:=A.len+1}).up m=A.up m:=by
    unfold Ar.up;rw[b];split;.rename_i o;rw[o]
    .rfl
   rw[l,Ag a];intro h1;rw[Ag (ne (oB ok hm h1))];exact hr m hm h1
def Ar.elem(A:Ar)(d sp:Int)(nm:Ak)(at_:List A7):Ar:=
 let x:GL:={kind:=4,Cy:=d,A9:=sp,name:=nm,Av:=C7 at_}
 if fE x then
  let b:=A.add x
  let a:=b.EL d
  (a.add {kind:=2,EK:=A.len+1,Cy:=b.HP d}).set (A.len+1) {x with cont:=a.len+1}
 else A.add x
def sU{d sp:Int}{nm:Ak}{l:List A7}(ok:EY A 0)(hd:A.has d/\(A.nd d).kind=1)(hs:0<=sp/\sp<=7)(hl:∀a∈l,0<=a.A9/\a.A9<=7):EY (A.elem d sp nm l) 0:=by
 have hx:sQ {kind:=4,Cy:=d,A9:=sp,name:=nm,Av:=C7 l}:=by constructor<;>simp[ZA,hs];exact λa ha=>hl a (iU ha)
 unfold Ar.elem;simp only
 split
 .rename_i f;have b:EY A (A.len+1):={ok with Xa:=λh i _=>ok.Xa h i (by have:=i.1;omega)};have m:=Q9 b hx (.inr ⟨Ax,hd⟩) rfl rfl rfl rfl λ_=>rfl;have c:(A.add {kind:=4,Cy:=d,A9:=sp,name:=nm,Av:=C7 l}).has d:=Ea.2 (.inl hd.1);obtain⟨j,h2,n⟩:=ny m c (by rw[N1];omega);have g:((A.add {kind:=4,Cy:=d,A9:=sp,name:=nm,Av:=C7 l}).EL d).nd (A.len+1)={kind:=4,Cy:=d,A9:=sp,name:=nm,Av:=C7 l}:=by rw[Xd (.inl (by rw[N1];omega)),Lj,Af rfl]
  have:=G_ j (Nl (Ea.2 (.inr rfl))) (by rw[g];exact f) (by rw[g]) ⟨h2,n⟩;rw[g] at this;exact this
 .rename_i f;exact Q9 ok hx (.inr ⟨Ax,hd⟩) rfl rfl rfl rfl λh=>absurd h f
end
def aJ6(e:Cp):Bool:=decide (e.node=0)
def Xe(n:Int)(e:Cp):Bool:=decide (e.node=n)
def oE(l:List Cp):Int:=AX aJ6 l+1
def FC(n:Int)(l:List Cp):Int:=if n=0 then -1 else AX (Xe n) l
def Xf(name:Ak):List Cp->Int
 |[]=> -1
 |x::t=>if x.node=0 then -1 else if x.name=name then(t.length:Int) else Xf name t
def Fj(name:Ak)(l:List Cp):Int:=Xf name l.reverse
def sV(e:Cp):List Cp->Nat
 |[]=>0
 |x::t=>if x.node=0 then 0 else sV e t+(if Li x e=true then 1 else 0)
def i5(e:Cp):List Cp->Int
 |[]=> -1
 |x::t=>if x.node=0 then -1 else if 0<=i5 e t then i5 e t else if Li x e=true then(t.length:Int) else -1
def i6(e:Cp)(l:List Cp):List Cp:=(if e.node≠0/\3<=sV e l.reverse then BB l (i5 e l.reverse).toNat else l)++[e]
def FD(l:List Cp):List Cp:=l.take (oE l-1).toNat
structure BS where
 a:Ar
 Cy:Int
 AL:List Item
 AY:List Cp
 mode:Int
 Nn:Int
 tm:List Int
 head:Int
 HQ:Int
 Ps:Bool
 ctx:Item
 fs:Bool
 F5:Bool
 cj:Ak
 skip:Bool
 sw:Int
 stop:Bool
def lM(s:List Ak)(A:Ar)(h:Int):Prop:=(A.nd h).kind=4/\(A.nd h).A9=1/\(A.nd h).name∈s
instance(s:List Ak)(A:Ar)(h:Int):Decidable (lM s A h):=by unfold lM;infer_instance
abbrev IG:Ak:=aTL
abbrev oF:Ak:=aUi
abbrev oG:Ak:=aUh
abbrev oH:Ak:=aUj
abbrev wTr:Ak:=[116,114]
abbrev wP:Ak:=[112]
def Jd:List Ak:=[IG,oF,oG,oH,wTr]
namespace BS
def MO(b:BS):Int×Int:=
 let d:=AX (Bf [Bb]) b.AL
 let c:=AX (Bf [IG]) b.AL
 if c<d then((DK b.AL d).node,0) else if c<0 then((DK b.AL 0).node,0) else
 let t:=(DK b.AL c).node
 if(b.a.nd t).He≠0 then((b.a.nd t).He,t) else((DK b.AL (max (c-1) 0)).node,0)
def place(b:BS)(t:Int):Int×Int:=
 if t=0/\b.AL=[] then(b.Cy,0) else
 let t':=if t=0 then(E4 b.AL).node else t
 let pb:=if b.F5=true/\lM Jd b.a t' then b.MO else(t',0)
 if(b.a.nd pb.1).cont≠0 then((b.a.nd pb.1).cont,0) else pb
end BS
open Classical in
def Ar.HU(A:Ar)(h p bf:Int):Ar:=if(A.nd p).kind=1/\(A.nd h).kind=4/\(∃k∈(A.nd p).Bw,(A.nd k).kind=4) then A else A.If p h bf
namespace BS
def LY(b:BS)(p:Int):Int:=if(b.a.nd p).cont≠0 then(if(b.a.nd (b.a.nd p).cont).Cy≠0 then(b.a.nd (b.a.nd p).cont).Cy else b.Cy) else if(b.a.nd p).Cy≠0 then(b.a.nd p).Cy else b.Cy
def Lu(sp:Int):Prop:=0<=sp/\sp<=7
instance(sp:Int):Decidable (Lu sp):=by unfold Lu;infer_instance
def MP(sp:Int)(nm:Ak):Ak:=if sp=2 then DG nm Ni else nm
def JP(b:BS)(nm:Ak)(at_:List A7)(sp:Int):Item:=if Lu sp then⟨b.a.len+1,sp,MP sp nm,Iv sp (MP sp nm) (at_.map (DL sp))⟩ else Item.zero
def Fz(b:BS)(nm:Ak)(at_:List A7)(sp p:Int):BS:=if Lu sp then{b with a:=b.a.elem (b.LY p) sp (MP sp nm) (at_.map (DL sp))} else b
def No(b:BS)(sp:Int):Int:=if Lu sp then b.a.len+1 else 0
def E5(b:BS)(nm:Ak)(at_:List A7)(sp:Int):BS:=
 if Lu sp then
  let pb:=b.place 0
  let b1:=b.Fz nm at_ sp pb.1
  {b1 with a:=b1.a.HU (b.a.len+1) pb.1 pb.2,AL:=b1.AL++[b.JP nm at_ sp]}
 else b
def Hm(b:BS)(nm:Ak)(at_:List A7):BS:=
 let b1:=b.E5 nm at_ 1
 {b1 with AY:=i6 ⟨b.a.len+1,nm,at_⟩ b1.AY}
end BS
def LZ(r:Int):Ak:=
 if 0<=r/\r<128 then[UInt8.ofNat r.toNat]
 else if 128<=r/\r<2048 then[UInt8.ofNat (192+r.toNat/64),UInt8.ofNat (128+r.toNat%64)]
 else if 2048<=r/\r<65536/\¬(55296<=r/\r<57344) then[UInt8.ofNat (224+r.toNat/4096),UInt8.ofNat (128+r.toNat/64%64),UInt8.ofNat (128+r.toNat%64)]
 else if 65536<=r/\r<=1114111 then[UInt8.ofNat (240+r.toNat/262144),UInt8.ofNat (128+r.toNat/4096%64),UInt8.ofNat (128+r.toNat/64%64),UInt8.ofNat (128+r.toNat%64)]
 else[239,191,189]
def Tw(l:List Int)(bf:Int):Option Int:=if bf=0 then l.getLast? else(l.takeWhile λk=>decide (k≠bf)).getLast?
def Ar.Sg(A:Ar)(h:Int)(s:Ak):Ar:=A.set h {A.nd h with data:=s}
def Ar.L0(A:Ar)(h:Int)(l:List A7):Ar:=A.set h {A.nd h with Av:=C7 l}
namespace BS
def Ra(A:Ar)(s:Ak)(p bf:Int):Ar:=
 if(A.nd p).kind=4\/(A.nd p).kind=2 then
  match Tw (A.nd p).Bw bf with
  |some t=>if(A.nd t).kind=5 then A.Sg t ((A.nd t).data++s) else(A.add {kind:=5,Cy:=(A.nd p).Cy,data:=s}).HU (A.len+1) p bf
  |none=>(A.add {kind:=5,Cy:=(A.nd p).Cy,data:=s}).HU (A.len+1) p bf
 else A
def OM(b:BS)(r:Int):BS:={b with a:=Ra b.a (LZ r) (b.place 0).1 (b.place 0).2}
def Iy(A:Ar)(s:Ak)(p bf:Int):Ar:=
 if OD (A.nd p).kind then(A.add {kind:=6,Cy:=(A.nd p).Cy,data:=s}).HU (A.len+1) p bf else A
def DM(b:BS)(s:Ak)(p:Int):BS:={b with a:=if p=0 then Iy b.a s (b.place 0).1 (b.place 0).2 else Iy b.a s p 0}
def Eu(b:BS)(nm:Ak)(at_:List A7)(st:Int):BS:=let b1:=b.E5 nm at_ 1;{b1 with sw:=st,Nn:=b1.mode,mode:=8}
def CD(b:BS):BS:=if Pq (Bf [wP]) (N0 3) b.AL.reverse then{b with AL:=DV Db (Bf [wP]) (DV (EB wP) Db b.AL)} else b
def settled(b:BS)(e:Cp):Bool:=decide (e.node=0\/0<=AX (BU e.node) b.AL)
def Lv:List Cp->BS->List Cp×BS
 |[],b=>([],b)
 |e::l,b=>let r:=Lv l (b.E5 e.name e.Av 1);({e with node:=b.a.len+1}::r.1,r.2)
def ON(b:BS):Nat:=(AX b.settled b.AY+1).toNat
def Bg(b:BS):BS:=let r:=Lv (b.AY.drop b.ON) b;{r.2 with AY:=b.AY.take b.ON++r.1}
def Dw(b:BS)(nm:Ak):BS:=match b.AL.reverse.find? λi=>Bf [nm] i||Dp i with
 |some i=>if Bf [nm] i then{b with AL:=I5 i.node (DV (EB nm) Db b.AL)} else b
 |none=>b
def P8(l:List Item):Int:=match l.reverse.find? λi=>Bf [Bb] i||Bf [IG] i with
 |some i=>if Bf [Bb] i then 16 else 17
 |none=>16
end BS
abbrev nz:Ak:=aTU
abbrev cl:Ak:=aT8
abbrev aFv:Ak:=aTy
abbrev cm:Ak:=aTD
abbrev N3:Ak:=aT9
abbrev ħ:Ak:=[116,100]
abbrev Ĩ:Ak:=[116,104]
abbrev Xg:Ak:=aTx
abbrev Gd:Ak:=aTu
def JQ:List (Ak×Int):=[(wTr,14),(oF,13),(oH,13),(oG,13),(nz,11),(cl,12),(IG,9),(aFv,7),(cm,20)]
namespace BS
def N4(b:BS)(x:Item)(k:Nat):Option Int:=
 if x.A9=1 then
  match JQ.find? λr=>decide (r.1=x.name) with
  |some r=>some r.2
  |none=>
   if x.name=N3 then some (P8 (b.AL.take k))
   else if(x.name=ħ\/x.name=Ĩ)/\0<k then some 15
   else if x.name=Bb then some (b.tm.getLast?.getD 7)
   else if x.name=Xg/\0<k then some 4
   else if x.name=Gd then some (if b.head=0 then 3 else 6)
   else if k=0 then some 7 else none
 else if k=0 then some 7 else none
def GS(b:BS)(k:Nat):Item:=if k=0/\b.Ps=true then b.ctx else b.AL.getD k Item.zero
def Tx(b:BS):Nat->Int
 |0=>7
 |k+1=>match b.N4 (b.GS k) k with
  |some m=>m
  |none=>b.Tx k
def IY(b:BS):BS:={b with mode:=b.Tx b.AL.length}
def plain(l:List A7):List A7:=l.map λa=>⟨0,a.name,a.value⟩
def GM(b:BS)(l:List A7)(h:Int):BS:=if(b.a.nd h).kind=4 then{b with a:=b.a.L0 h ((b.a.nd h).Av++plain l)} else b
def De(b:BS):BS:=
 if AX (Bf [Bb]) b.AL<0 then b
 else IY {b with AL:=DV Db (Bf [Bb]) (DV DQ Db b.AL),AY:=FD b.AY,tm:=b.tm.dropLast}
def IQ(b:BS):BS:=if b.AL.length<2 then b else{b with AL:=b.AL.take (b.AL.length-1)}
def oI(b:BS):Item:=if b.AL.length<2 then Item.zero else E4 b.AL
end BS
def Cp.zero:Cp:=⟨0,[],[]⟩
namespace BS
def Ig(blk anc:Int)(far i:Nat)(b:BS)(l:Int)(m:Nat):BS×Int×Nat:=
 let x:=b.AL.getD i Item.zero
 let e:=FC x.node b.AY
 if e<0 then({b with AL:=BB b.AL i},l,m)
 else if i+3<far then({b with AY:=BB b.AY e.toNat,AL:=BB b.AL i},l,if e.toNat<m then m-1 else m)
 else
  let en:=b.AY.getD e.toNat Cp.zero
  let n:=b.JP en.name en.Av 1
  let b1:=b.Fz en.name en.Av 1 anc
  ({b1 with a:=b1.a.If n.node l 0,AL:=b1.AL.set i n,AY:=b1.AY.set e.toNat {en with node:=n.node}},n.node,if l=blk then e.toNat+1 else m)
def Pu(blk anc:Int)(far k:Nat):Nat->BS×Int×Nat->BS×Int×Nat
 |0,s=>s
 |c+1,s=>Pu blk anc far k c (Ig blk anc far (k+(c+1)) s.1 s.2.1 s.2.2)
def Dm(A:Ar)(n:Int)(l:List Int):Ar:=l.foldl (λA x=>A.If n x 0) A
def Kq(fe:Cp)(blk anc:Int)(s:BS×Int×Nat):BS:=
 let b1:=s.1
 let pb:=b1.place anc
 let b2:={b1 with a:=b1.a.HU s.2.1 pb.1 pb.2}
 let n:=b2.JP fe.name fe.Av 1
 let b3:=b2.Fz fe.name fe.Av 1 blk
 let b:=FC fe.node b3.AY
 let mk:=if b.toNat<s.2.2 then s.2.2 -1 else s.2.2
 let ac:=BB b3.AY b.toNat
 let op:=Di fe.node b3.AL
 let ip:=Iw (AX (BU blk) op+1) op.length
 {b3 with a:=(Dm b3.a n.node (b3.a.nd blk).Bw).If blk n.node 0,AY:=ac.take (Gt mk ac.length)++{fe with node:=n.node}::ac.drop (Gt mk ac.length),AL:=op.take ip++n::op.drop ip}
def round(b:BS)(nm:Ak):Bool×BS:=
 let f:=Fj nm b.AY
 if f<0 then(false,b.Dw nm) else
 let fe:=b.AY.getD f.toNat Cp.zero
 let k:=AX (BU fe.node) b.AL
 if k<0 then(false,{b with AY:=BB b.AY f.toNat}) else
 if k=0\/Pq (BU fe.node) (N0 1) b.AL.reverse=false then(false,b) else
 let far:=Et fe.node b.AL
 if far<0 then(false,{b with AL:=I5 fe.node b.AL,AY:=BB b.AY f.toNat}) else
 let blk:=(b.AL.getD far.toNat Item.zero).node
 let anc:=(b.AL.getD (k.toNat-1) Item.zero).node
 (true,Kq fe blk anc (Pu blk anc far.toNat k.toNat (far.toNat-1 -k.toNat) (b,blk,f.toNat)))
def Hn:Nat->BS->Ak->BS
 |0,b,_=>b
 |n+1,b,nm=>let r:=b.round nm;if r.1 then Hn n r.2 nm else r.2
def DN(b:BS)(nm:Ak):BS:=
 if Bf [nm] (E4 b.AL)/\FC (E4 b.AL).node b.AY<0 then b.IQ else Hn 8 b nm
end BS
structure Le(A A':Ar):Prop where
 has:∀h,A.has h->A'.has h
 kind:∀h,A.has h->(A'.nd h).kind=(A.nd h).kind
 A9:∀h,A.has h->(A'.nd h).A9=(A.nd h).A9
 name:∀h,A.has h->(A'.nd h).name=(A.nd h).name
section
variable{A A' A'':Ar}{h k e p n b:Int}{x:GL}
def Le.refl:Le A A:=⟨λ_ h=>h,λ_ _=>rfl,λ_ _=>rfl,λ_ _=>rfl⟩
def Le.trans(h1:Le A A')(h2:Le A' A''):Le A A'':=⟨λh a=>h2.has h (h1.has h a),λh a=>by rw[h2.kind h (h1.has h a),h1.kind h a],λh a=>by rw[h2.A9 h (h1.has h a),h1.A9 h a],λh a=>by rw[h2.name h (h1.has h a),h1.name h a]⟩
def Le.ĩ(h1:∀h,A.has h->A'.has h)(h2:∀h,A.has h->A'.nd h=A.nd h):Le A A':=⟨h1,λh a=>by rw[h2 h a],λh a=>by rw[h2 h a],λh a=>by rw[h2 h a]⟩
def Xh(a:A.has h):h≠A.len+1:=λe=>Q8 (A:=A) (e▸a)
def L1(a:A.has h):(A.add x).nd h=A.nd h:=by rw[Lj,Ag (Xh a)]
def Xi:Le A (A.add x):= .ĩ (λh a=>Ea.2 (.inl a)) λh a=>L1 a
def Xj(h1:x.kind=(A.nd h).kind)(h2:x.A9=(A.nd h).A9)(a:x.name=(A.nd h).name):Le A (A.set h x):=by
 refine⟨λk hk=>I6.2 hk,?_,?_,?_⟩<;>intro k hk<;>rw[JO]<;>split;.rename_i e;rw[e.1,h1]
 .rfl
 .rename_i e;rw[e.1,h2]
 .rfl
 .rename_i e;rw[e.1,a]
 .rfl
def sW{l:List Int}:Le A (A.set h {A.nd h with Bw:=l}):=Xj rfl rfl rfl
def sX:Le A (A.set h {A.nd h with He:=p}):=Xj rfl rfl rfl
def oJ:Le A (A.cut n):=by
 unfold Ar.cut;simp only;split;.exact .refl
 .exact Le.trans sW sX
def aAu:Le A (A.MG p n b):=Le.trans sW sX
def P9:Le A (A.If p n b):=by unfold Ar.If;split;exact oJ.trans aAu;exact .refl
def I7:Le A (A.HU n p b):=by unfold Ar.HU;split;exact .refl;exact P9
def N5(ok:EY A e):EY (A.HU n p b) e:=by unfold Ar.HU;split;exact ok;exact P7 ok
def i7{d sp:Int}{nm:Ak}{l:List A7}(a:A.has h):(A.elem d sp nm l).has h/\(A.elem d sp nm l).nd h=A.nd h:=by
 have hne:=Xh a;unfold Ar.elem;simp only
 split;.have h1:(A.add {kind:=4,Cy:=d,A9:=sp,name:=nm,Av:=C7 l}).has h:=Ea.2 (.inl a);refine⟨I6.2 (Ea.2 (.inl (Nl h1))),?_⟩;rw[JO,Ag (λe=>hne e.1),L1 (Nl h1),Xd (.inl (Xh h1)),L1 a]
 .exact⟨Ea.2 (.inl a),L1 a⟩
def jA{d sp:Int}{nm:Ak}{l:List A7}:(A.elem d sp nm l).has (A.len+1)/\((A.elem d sp nm l).nd (A.len+1)).kind=4/\((A.elem d sp nm l).nd (A.len+1)).A9=sp/\((A.elem d sp nm l).nd (A.len+1)).name=nm/\((A.elem d sp nm l).nd (A.len+1)).Bw=[]/\((A.elem d sp nm l).nd (A.len+1)).He=0/\((A.elem d sp nm l).nd (A.len+1)).Cy=d/\((A.elem d sp nm l).nd (A.len+1)).Av=C7 l:=by
 unfold Ar.elem;simp only
 split;.have h1:(A.add {kind:=4,Cy:=d,A9:=sp,name:=nm,Av:=C7 l}).has (A.len+1):=Ea.2 (.inr rfl);have h2:=Ea (x:={kind:=2,EK:=A.len+1,Cy:=(A.add {kind:=4,Cy:=d,A9:=sp,name:=nm,Av:=C7 l}).HP d}).2 (.inl (Nl (h:=d) h1));rw[I6,JO,Af ⟨rfl,h2⟩];exact⟨h2,rfl,rfl,rfl,rfl,rfl,rfl,rfl⟩
 .rw[Lj,Af rfl];exact⟨Ea.2 (.inr rfl),rfl,rfl,rfl,rfl,rfl,rfl,rfl⟩
def Vp{d sp:Int}{nm:Ak}{l:List A7}:Le A (A.elem d sp nm l):= .ĩ (λ_ h=>(i7 h).1) λ_ h=>(i7 h).2
def jB{l:List A7}(ok:EY A e)(c:A.has h)(hk:(A.nd h).kind=4)(hl:∀a∈l,0<=a.A9/\a.A9<=7):EY (A.L0 h l) e:=by have hx:=ok.Tu h c;refine oD ok c ⟨hx.k,hx.Bw,λh=>absurd hk h,hx.nm,hx.dt,hx.data,hx.CS,hx.sp,λa ha=>hl a (iU ha),ZA l,hx.Uu,hx.OC,hx.root,hx.bz⟩ rfl rfl rfl ⟨(ok.Cy h c).1,(ok.Cy h c).2,ok.Yz h c⟩ rfl rfl λd=>d
def oK{s:Ak}(ok:EY A e)(a:A.has h)(hk:(A.nd h).kind=5\/(A.nd h).kind=6):EY (A.Sg h s) e:=by have hx:=ok.Tu h a;refine oD ok a ⟨hx.k,hx.Bw,hx.elem,hx.nm,hx.dt,λf d=>by have:(A.nd h).kind≠5:=f;have:(A.nd h).kind≠6:=d;omega,hx.CS,hx.sp,hx.xi,hx.C7,hx.Uu,hx.OC,hx.root,hx.bz⟩ rfl rfl rfl ⟨(ok.Cy h a).1,(ok.Cy h a).2,ok.Yz h a⟩ rfl rfl λc=>c
def bW{kd d:Int}{s:Ak}(ok:EY A e)(he:e≠A.len+1)(hd:A.has d/\(A.nd d).kind=1)(hk:kd=5\/kd=6):EY (A.add {kind:=kd,Cy:=d,data:=s}) e:=by
 refine Q9 ok ?_ (.inr ⟨Ed,hd⟩) rfl rfl rfl rfl (λh=>?_);.constructor<;>simp[C7,Gu]<;>omega
 .have:=h.1;simp at this;omega
def oL{s:Ak}:Le A (A.Sg h s):=Xj rfl rfl rfl
def jC{l:List A7}:Le A (A.L0 h l):=Xj rfl rfl rfl
def oM{sp:Int}{a:A7}:0<=(DL sp a).A9/\(DL sp a).A9<=7:=by
 unfold DL;split
 .split
  .rename_i s m he;have:∀x∈fT,0<=x.2.1/\x.2.1<=7:=AI;unfold Jt at he;cases hf:fT.find? λx=>decide (Mx sp a.name=x.1) with
   |none=>rw[hf] at he;cases he
   |some y=>rw[hf] at he;have:=this y (Hq hf);simp at he;rw[he] at this;exact this
  .exact⟨Ny 0,Ax⟩
 .exact⟨Ny 0,Ax⟩
end
structure E6(b:BS):Prop where
 ok:EY b.a 0
 Cy:b.a.has b.Cy/\(b.a.nd b.Cy).kind=1
 op:∀i∈b.AL,b.a.has i.node/\(b.a.nd i.node).kind=4/\(b.a.nd i.node).A9=i.A9/\(b.a.nd i.node).name=i.name
 xj:(b.AL.map Item.node).Nodup
 ac:∀e∈b.AY,e.node=0\/(b.a.has e.node/\(b.a.nd e.node).kind=4)
 gj:((b.AY.map Cp.node).filter λn=>decide (n≠0)).Nodup
structure BA(b:BS):Prop where
 ok:EY b.a 0
 Cy:b.a.has b.Cy/\(b.a.nd b.Cy).kind=1
def E6.ba{b:BS}(o:E6 b):BA b:=⟨o.ok,o.Cy⟩
instance{b:BS}:Coe (E6 b) (BA b):=⟨E6.ba⟩
section
variable{b:BS}{t:Int}
def H_{A A':Ar}{l:List Item}(hl:Le A A')(h:∀i∈l,A.has i.node/\(A.nd i.node).kind=4/\(A.nd i.node).A9=i.A9/\(A.nd i.node).name=i.name):∀i∈l,A'.has i.node/\(A'.nd i.node).kind=4/\(A'.nd i.node).A9=i.A9/\(A'.nd i.node).name=i.name:=by intro i hi;have:=h i hi;rw[hl.kind _ this.1,hl.A9 _ this.1,hl.name _ this.1];exact⟨hl.has _ this.1,this.2⟩
def sY{A A':Ar}{l:List Cp}(hl:Le A A')(h:∀e∈l,e.node=0\/(A.has e.node/\(A.nd e.node).kind=4)):∀e∈l,e.node=0\/(A'.has e.node/\(A'.nd e.node).kind=4):=by
 intro e he;rcases h e he with h|h
 .exact .inl h
 .rw[hl.kind _ h.1];exact .inr ⟨hl.has _ h.1,h.2⟩
def E6.IH(o:E6 b){A:Ar}(ok:EY A 0)(hl:Le b.a A):E6 {b with a:=A}:=
 ⟨ok,by rw[hl.kind _ o.Cy.1];exact⟨hl.has _ o.Cy.1,o.Cy.2⟩,H_ hl o.op,o.xj,sY hl o.ac,o.gj⟩
def E6.aJ8(o:E6 b){l:List Item}(h1:∀i∈l,i∈b.AL)(h2:(l.map Item.node).Nodup):E6 {b with AL:=l}:=
 ⟨o.ok,o.Cy,λi hi=>o.op i (h1 i hi),h2,o.ac,o.gj⟩
def E6.II(o:E6 b){l:List Item}(h1:List.Sublist l b.AL):E6 {b with AL:=l}:=o.aJ8 (λ_ hi=>h1.subset hi) (o.xj.sublist (h1.map _))
def E6.jD(o:E6 b){l:List Cp}(h1:List.Sublist l b.AY):E6 {b with AY:=l}:=
 ⟨o.ok,o.Cy,o.op,o.xj,λe he=>o.ac e (h1.subset he),o.gj.sublist ((h1.map _).filter _)⟩
def Ct{p q:Item->Bool}{l:List Item}:List.Sublist (DV p q l) l:=by
 have key:∀r:List Item,List.Sublist (QD p q r) r:=by
  intro r;induction r with
  |nil=>exact AD _
  |cons x r ih=>
   cases r with
   |nil=>exact AD _
   |cons y r=>
    rw[QD];split;.exact AD _
    .split;.exact TV _ _
     .exact ih.trans (TV _ _)
 have:=(key l.reverse).reverse;rwa [J6] at this
def Hk{n:Int}{l:List Item}:List.Sublist (I5 n l) l:=by unfold I5;split;exact AD _;exact Ct
def C0{U:Type}{l:List U}{k:Nat}:List.Sublist (BB l k) l:=by
 unfold BB;conv=>rhs;rw[<-Cx k l]
 refine List.Sublist.append (AD _) ?_;rw[<-Ez];exact aOQ _ _
def Gv{n:Int}{l:List Item}:List.Sublist (Di n l) l:=by unfold Di;split;exact AD _;exact C0
def Kr{l:List Item}{i:Int}(h0:0<=i)(h1:i<l.length):DK l i∈l:=by unfold DK;rw[Af h0,AP,Au Ac];exact A5 _
def N6{U:Type}{q:U->Bool}{l:List U}:AX q l<l.length∧-1<=AX q l:=by rcases DY (q:=q) (l:=l) with⟨h1,_⟩|⟨n,hn,h1,_⟩<;>rw[h1]<;>omega
def cq{l:List Item}(h:l≠[]):E4 l∈l:=by have:0<l.length:=Ef.2 h;exact Kr Ac Ac
def I_(o:E6 b)(hn:b.AL≠[]):b.a.has b.MO.1/\(b.MO.2≠0->b.a.has b.MO.2/\(b.a.nd b.MO.2).He=b.MO.1):=by
 have hl:0<b.AL.length:=Ef.2 hn;have h1:=N6 (q:=Bf [Bb]) (l:=b.AL);have h2:=N6 (q:=Bf [IG]) (l:=b.AL);unfold BS.MO;simp only
 split;.exact⟨(o.op _ (Kr Ac Ac)).1,λh=>absurd rfl h⟩
 .split;.exact⟨(o.op _ (Kr Ac Ac)).1,λh=>absurd rfl h⟩
  .have c:=o.op _ (Kr (l:=b.AL) (i:=AX (Bf [IG]) b.AL) Ac Ac);split;.rename_i hp;exact⟨(o.ok.He _ c.1 hp).1,λ_=>⟨c.1,rfl⟩⟩
   .exact⟨(o.op _ (Kr Ac Ac)).1,λh=>absurd rfl h⟩
def jE(o:E6 b)(ht:t=0\/(b.a.has t/\b.AL≠[])):b.a.has (b.place t).1/\((b.place t).2≠0->b.a.has (b.place t).2/\(b.a.nd (b.place t).2).He=(b.place t).1):=by
 unfold BS.place;simp only
 split;.exact⟨o.Cy.1,λh=>absurd rfl h⟩
 .rename_i h0;have hn:b.AL≠[]:=by
   rcases ht with h|h
   .intro h2;exact h0 ⟨h,h2⟩
   .exact h.2
  have h1:b.a.has (if t=0 then(E4 b.AL).node else t):=by
   split;.exact(o.op _ (cq hn)).1
   .rename_i h2;exact(ht.resolve_left h2).1
  generalize(if t=0 then(E4 b.AL).node else t)=t' at h1;have h2:b.a.has (if b.F5=true/\lM Jd b.a t' then b.MO else(t',0)).1/\((if b.F5=true/\lM Jd b.a t' then b.MO else(t',0)).2≠0->b.a.has (if b.F5=true/\lM Jd b.a t' then b.MO else(t',0)).2/\(b.a.nd (if b.F5=true/\lM Jd b.a t' then b.MO else(t',0)).2).He=(if b.F5=true/\lM Jd b.a t' then b.MO else(t',0)).1):=by
   split;.exact I_ o hn
   .exact⟨h1,λh=>absurd rfl h⟩
  generalize(if b.F5=true/\lM Jd b.a t' then b.MO else(t',0))=pb at h2;split;.rename_i hc;exact⟨(o.ok.cont _ h2.1 hc).1,λh=>absurd rfl h⟩
  .exact h2
def Tz(o:BA b){p:Int}:b.a.has (b.LY p)/\(b.a.nd (b.LY p)).kind=1:=by
 unfold BS.LY;by_cases hp:b.a.has p
 .have key:∀q,b.a.has q->b.a.has (if(b.a.nd q).Cy≠0 then(b.a.nd q).Cy else b.Cy)/\(b.a.nd (if(b.a.nd q).Cy≠0 then(b.a.nd q).Cy else b.Cy)).kind=1:=by
   intro q hq;split;.exact o.ok.Cy q hq
   .exact o.Cy
  split;.rename_i hc;exact key _ (o.ok.cont p hp hc).1
  .exact key p hp
 .rw[OB hp];exact o.Cy
variable{nm:Ak}{at_:List A7}{sp p:Int}
structure n_(b b1:BS)(i:Item):Prop where
 has:b1.a.has i.node
 kind:(b1.a.nd i.node).kind=4
 A9:(b1.a.nd i.node).A9=i.A9
 name:(b1.a.nd i.node).name=i.name
 new:¬b.a.has i.node
def Uv(o:E6 b)(hs:BS.Lu sp):E6 (b.Fz nm at_ sp p)/\n_ b (b.Fz nm at_ sp p) (b.JP nm at_ sp)/\Le b.a (b.Fz nm at_ sp p).a:=by
 have hd:=Tz o.ba (p:=p);unfold BS.Fz BS.JP;rw[Af hs,Af hs];have ok:=sU (sp:=sp) (nm:=BS.MP sp nm) (l:=at_.map (DL sp)) o.ok hd hs (by intro a ha;obtain⟨c,_,rfl⟩:=AZ.1 ha;exact oM)
 have hn:=jA (A:=b.a) (d:=b.LY p) (sp:=sp) (nm:=BS.MP sp nm) (l:=at_.map (DL sp));exact⟨o.IH ok Vp,⟨hn.1,hn.2.1,hn.2.2.1,hn.2.2.2.1,Q8⟩,Vp⟩
def oa(o:BA b)(hs:BS.Lu sp):BA (b.Fz nm at_ sp p):=by
 have hd:=Tz o (p:=p);unfold BS.Fz;rw[Af hs];have ok:=sU (sp:=sp) (nm:=BS.MP sp nm) (l:=at_.map (DL sp)) o.ok hd hs (by intro a ha;obtain⟨c,_,rfl⟩:=AZ.1 ha;exact oM)
 have l:Le b.a _:=Vp (A:=b.a) (d:=b.LY p) (sp:=sp) (nm:=BS.MP sp nm) (l:=at_.map (DL sp));exact⟨ok,by rw[l.kind _ o.Cy.1];exact⟨l.has _ o.Cy.1,o.Cy.2⟩⟩
def J_(o:BA b):BA (b.E5 nm at_ sp):=by
 unfold BS.E5;split
 .rename_i hs;have c:=oa (nm:=nm) (at_:=at_) (p:=(b.place 0).1) o hs;have f:Le (b.Fz nm at_ sp (b.place 0).1).a ((b.Fz nm at_ sp (b.place 0).1).a.HU (b.a.len+1) (b.place 0).1 (b.place 0).2):=I7;exact⟨N5 (n:=b.a.len+1) (p:=(b.place 0).1) (b:=(b.place 0).2) c.ok,by
   have e:(b.Fz nm at_ sp (b.place 0).1).Cy=b.Cy:=by unfold BS.Fz;split<;>rfl
   have d:=c.Cy;rw[e] at d;show _/\_;simp only[e];rw[f.kind _ d.1];exact⟨f.has _ d.1,d.2⟩⟩
 .exact o
def Qa(o:E6 b){b1:BS}{i:Item}(f:n_ b b1 i):i.node∉b.AL.map Item.node:=by intro h;obtain⟨j,hj,e⟩:=AZ.1 h;exact f.new (e▸(o.op j hj).1)
def TA(o:E6 b){b1:BS}{i:Item}(f:n_ b b1 i):i.node∉b.AY.map Cp.node:=by
 intro h;obtain⟨j,hj,e⟩:=AZ.1 h;rcases o.ac j hj with h1|h1
 .have:=f.has.1;omega
 .exact f.new (e▸h1.1)
def cr{U:Type}[DecidableEq U]{l:List U}{k:Nat}{x:U}(h:l.Nodup)(hx:x∉l):(l.take k++x::l.drop k).Nodup:=by
 have e:=Cx k l;rw[BQ];rw[<-e,BQ] at h;refine⟨h.1,B6.2 ⟨λh1=>hx (Bu h1),h.2.1⟩,?_⟩;rintro a ha c hc rfl;rcases AE.1 hc with rfl|hc
 .exact hx (A4 ha)
 .exact h.2.2 _ ha _ hc rfl
def oN{U:Type}[DecidableEq U]{l:List U}{k:Nat}{x:U}(h:l.Nodup)(hx:x∉l):(l.set k x).Nodup:=by
 rw[Ck];split
 .have e:=Cx k l;rw[BQ];rw[<-e,BQ] at h;have hd:List.Sublist (l.drop (k+1)) (l.drop k):=by rw[<-Ez];exact aOQ _ _
  refine⟨h.1,B6.2 ⟨λh1=>hx (Bu h1),h.2.1.sublist hd⟩,?_⟩;rintro a ha c hc rfl;rcases AE.1 hc with rfl|hc
  .exact hx (A4 ha)
  .exact h.2.2 _ ha _ (hd.subset hc) rfl
 .exact h
def ZB{U Z:Type}(f:U->Z)(l:List U)(k:Nat)(x:U):(l.take k++x::l.drop k).map f=(l.map f).take k++f x::(l.map f).drop k:=Ax
def E6.K_(o:E6 b){i:Item}{k:Nat}(h1:b.a.has i.node/\(b.a.nd i.node).kind=4/\(b.a.nd i.node).A9=i.A9/\(b.a.nd i.node).name=i.name)(h2:i.node∉b.AL.map Item.node):E6 {b with AL:=b.AL.take k++i::b.AL.drop k}:=by
 refine⟨o.ok,o.Cy,?_,by show((b.AL.take k++i::b.AL.drop k).map Item.node).Nodup;rw[ZB];exact cr o.xj h2,o.ac,o.gj⟩;intro j hj;rcases Aq.1 hj with hj|hj
 .exact o.op j (A4 hj)
 .rcases AE.1 hj with rfl|hj
  .exact h1
  .exact o.op j (Bu hj)
def E6.ob(o:E6 b){i:Item}{k:Nat}(h1:b.a.has i.node/\(b.a.nd i.node).kind=4/\(b.a.nd i.node).A9=i.A9/\(b.a.nd i.node).name=i.name)(h2:i.node∉b.AL.map Item.node):E6 {b with AL:=b.AL.set k i}:=by
 refine⟨o.ok,o.Cy,?_,by show((b.AL.set k i).map Item.node).Nodup;rw[GK];exact oN o.xj h2,o.ac,o.gj⟩;intro j hj;rcases DA hj with hj|rfl
 .exact o.op j hj
 .exact h1
def oe{l:List Int}{k:Nat}{x:Int}(h:(l.filter λn=>decide (n≠0)).Nodup)(hx:x∉l):((l.take k++x::l.drop k).filter λn=>decide (n≠0)).Nodup:=by
 have e:=Cx k l;rw[<-e,EN,BQ] at h;rw[EN,BQ];by_cases h0:x=0;.subst h0;simpa using h
 .rw[ŋ (by simpa using h0)];refine⟨h.1,B6.2 ⟨λh1=>hx (Bu ((Dk.1 h1).1)),h.2.1⟩,?_⟩;rintro a ha c hc rfl;rcases AE.1 hc with rfl|hc
  .exact hx (A4 (Dk.1 ha).1)
  .exact h.2.2 _ ha _ hc rfl
def og{l:List Int}{k:Nat}{x:Int}(h:(l.filter λn=>decide (n≠0)).Nodup)(hx:x∉l):((l.set k x).filter λn=>decide (n≠0)).Nodup:=by
 rw[Ck];split
 .have h2:(((l.take k++l.drop (k+1))).filter λn=>decide (n≠0)).Nodup:=h.sublist ((show List.Sublist (BB l k) l from C0).filter _);rw[EN,BQ] at h2⊢;by_cases h0:x=0;.subst h0;simpa using h2
  .rw[ŋ (by simpa using h0)];refine⟨h2.1,B6.2 ⟨λh1=>hx (Bu ((Dk.1 h1).1)),h2.2.1⟩,?_⟩;rintro a ha c hc rfl;rcases AE.1 hc with rfl|hc
   .exact hx (A4 (Dk.1 ha).1)
   .exact h2.2.2 _ ha _ hc rfl
 .exact h
def E6.aAv(o:E6 b){e:Cp}{k:Nat}(h1:e.node=0\/(b.a.has e.node/\(b.a.nd e.node).kind=4))(h2:e.node=0\/e.node∉b.AY.map Cp.node):E6 {b with AY:=b.AY.take k++e::b.AY.drop k}:=by
 refine⟨o.ok,o.Cy,o.op,o.xj,?_,?_⟩
 .intro j hj;rcases Aq.1 hj with hj|hj
  .exact o.ac j (A4 hj)
  .rcases AE.1 hj with rfl|hj
   .exact h1
   .exact o.ac j (Bu hj)
 .show(((b.AY.take k++e::b.AY.drop k).map Cp.node).filter _).Nodup;rw[ZB];rcases h2 with h2|h2
  .have:=o.gj;conv at this=>rw[<-Cx k (b.AY.map Cp.node),EN]
   rw[EN,List.filter_cons_of_neg (by simp[h2])];exact this
  .exact oe o.gj h2
def E6.oh(o:E6 b){e:Cp}{k:Nat}(h1:b.a.has e.node/\(b.a.nd e.node).kind=4)(h2:e.node∉b.AY.map Cp.node):E6 {b with AY:=b.AY.set k e}:=by
 refine⟨o.ok,o.Cy,o.op,o.xj,?_,?_⟩
 .intro j hj;rcases DA hj with hj|rfl
  .exact o.ac j hj
  .exact .inr h1
 .show(((b.AY.set k e).map Cp.node).filter _).Nodup;rw[GK];exact og o.gj h2
def Rb(o:E6 b):E6 (b.E5 nm at_ sp):=by
 unfold BS.E5;split
 .rename_i hs;obtain⟨d,f,hl⟩:=Uv (nm:=nm) (at_:=at_) (p:=(b.place 0).1) o hs;have g:=d.IH (N5 (n:=b.a.len+1) (p:=(b.place 0).1) (b:=(b.place 0).2) d.ok) I7;have hn:(b.JP nm at_ sp).node=b.a.len+1:=by unfold BS.JP;rw[Af hs]
  have c:Le (b.Fz nm at_ sp (b.place 0).1).a ((b.Fz nm at_ sp (b.place 0).1).a.HU (b.a.len+1) (b.place 0).1 (b.place 0).2):=I7;have ho:(b.Fz nm at_ sp (b.place 0).1).AL=b.AL:=by unfold BS.Fz;rw[Af hs]
  have:=g.K_ (i:=b.JP nm at_ sp) (k:=b.AL.length) ⟨c.has _ f.has,by rw[c.kind _ f.has];exact f.kind,by rw[c.A9 _ f.has];exact f.A9,by rw[c.name _ f.has];exact f.name⟩ (by simp only[ho];exact Qa o f);simp only[ho,BZ,GQ] at this;simp only[ho];exact this
 .exact o
def Si{l:List Cp}{e:Cp}:∃l',List.Sublist l' l/\i6 e l=l'++[e]:=by
 unfold i6;split;.exact⟨_,C0,rfl⟩
 .exact⟨_,AD _,rfl⟩
def L_:Le b.a (b.E5 nm at_ sp).a:=by
 unfold BS.E5 BS.Fz;split;.exact Le.trans Vp I7
 .exact .refl
def jF(hs:BS.Lu sp):(b.E5 nm at_ sp).a.has (b.a.len+1)/\((b.E5 nm at_ sp).a.nd (b.a.len+1)).kind=4:=by
 unfold BS.E5 BS.Fz;rw[Af hs];simp only
 rw[Af hs];have hn:=jA (A:=b.a) (d:=b.LY (b.place 0).1) (sp:=sp) (nm:=BS.MP sp nm) (l:=at_.map (DL sp));exact⟨I7.has _ hn.1,by rw[I7.kind _ hn.1];exact hn.2.1⟩
def E7:(b.E5 nm at_ sp).AY=b.AY:=by unfold BS.E5 BS.Fz;split<;>rfl
def Mh:BS.Lu 1:=⟨AI,AI⟩
def M_(o:E6 b):b.a.len+1∉b.AY.map Cp.node:=by
 intro h;obtain⟨j,hj,e⟩:=AZ.1 h;rcases o.ac j hj with h1|h1
 .unfold Ar.len at e;omega
 .exact Q8 (e▸h1.1)
def ZC(o:E6 b):E6 (b.Hm nm at_):=by
 have d:=Rb (nm:=nm) (at_:=at_) (sp:=1) o;unfold BS.Hm;simp only
 obtain⟨l',h1,h2⟩:=Si (l:=(b.E5 nm at_ 1).AY) (e:=⟨b.a.len+1,nm,at_⟩);rw[h2];have c:=d.jD h1;have:=c.aAv (e:=⟨b.a.len+1,nm,at_⟩) (k:=l'.length) (.inr (jF Mh)) (.inr (by intro h;rw[E7] at h1;exact M_ o ((h1.map Cp.node).subset h)))
 simpa using this
def E6.of_eq{c:BS}(o:E6 b)(h1:c.a=b.a)(h2:c.Cy=b.Cy)(f:c.AL=b.AL)(d:c.AY=b.AY):E6 c:=
 ⟨h1▸o.ok,by rw[h1,h2];exact o.Cy,by rw[h1,f];exact o.op,by rw[f];exact o.xj,by rw[h1,d];exact o.ac,by rw[d];exact o.gj⟩
def oO{l:List Int}{bf t:Int}(h:Tw l bf=some t):t∈l:=by
 unfold Tw at h;split at h;.exact aHX h
 .exact(List.takeWhile_sublist _).subset (aHX h)
def ct{A:Ar}{s:Ak}{p bf:Int}(ok:EY A 0)(hp:A.has p):EY (BS.Ra A s p bf) 0/\Le A (BS.Ra A s p bf):=by
 have h0:(0:Int)≠A.len+1:=by unfold Ar.len;omega
 have ha:=N5 (n:=A.len+1) (p:=p) (b:=bf) (bW (s:=s) (kd:=5) ok h0 (ok.Cy p hp) (.inl rfl));have hl:Le A ((A.add {kind:=5,Cy:=(A.nd p).Cy,data:=s}).HU (A.len+1) p bf):=Le.trans Xi I7;unfold BS.Ra;split
 .split
  .rename_i t ht;split;.rename_i hk;exact⟨oK ok (ok.P2 p hp _ (oO ht)).1 (.inl hk),oL⟩
   .exact⟨ha,hl⟩
  .exact⟨ha,hl⟩
 .exact⟨ok,.refl⟩
def sZ(o:E6 b){r:Int}:E6 (b.OM r):=by have h:=ct (s:=LZ r) (bf:=(b.place 0).2) o.ok (jE o (.inl rfl)).1;exact o.IH h.1 h.2
def Sj{A:Ar}{s:Ak}{p bf:Int}(ok:EY A 0):EY (BS.Iy A s p bf) 0/\Le A (BS.Iy A s p bf):=by
 unfold BS.Iy;split
 .rename_i hk;have hp:A.has p:=by
   by_cases hp:A.has p;.exact hp
   .rw[OB hp] at hk;unfold OD at hk;simp at hk
  have h0:(0:Int)≠A.len+1:=by unfold Ar.len;omega
  exact⟨N5 (bW (s:=s) (kd:=6) ok h0 (ok.Cy p hp) (.inr rfl)),Le.trans Xi I7⟩
 .exact⟨ok,.refl⟩
def Xk(o:E6 b){s:Ak}{p:Int}:E6 (b.DM s p):=by
 unfold BS.DM;split;.have h:=Sj (s:=s) (p:=(b.place 0).1) (bf:=(b.place 0).2) o.ok;exact o.IH h.1 h.2
 .have h:=Sj (s:=s) (p:=p) (bf:=0) o.ok;exact o.IH h.1 h.2
def oP(o:E6 b){st:Int}:E6 (b.Eu nm at_ st):=(Rb o).of_eq rfl rfl rfl rfl
def cu(o:E6 b):E6 b.CD:=by
 unfold BS.CD;split;.exact o.II (Ct.trans Ct)
 .exact o
def ZD(o:E6 b):E6 (b.Dw nm):=by
 unfold BS.Dw;split
 .split;.exact o.II (Hk.trans Ct)
  .exact o
 .exact o
def Sk(o:E6 b):E6 b.IY:=o.of_eq rfl rfl rfl rfl
def jG(o:E6 b){l:List A7}{h:Int}:E6 (b.GM l h):=by
 unfold BS.GM;split
 .rename_i hk;have d:b.a.has h:=by
   by_cases hp:b.a.has h;.exact hp
   .rw[OB hp] at hk;simp at hk
  refine o.IH (jB o.ok d hk ?_) jC;intro a ha;rcases Aq.1 ha with ha|ha
  .exact(o.ok.Tu h d).xi a ha
  .obtain⟨c,_,rfl⟩:=AZ.1 ha;simp
 .exact o
def Xl(o:E6 b):E6 b.De:=by
 unfold BS.De;split;.exact o
 .have a:=(o.II (Ct (p:=Db) (q:=Bf [Bb]) (l:=DV DQ Db b.AL) |>.trans Ct)).jD (l:=FD b.AY) (Ch _ _);exact(Sk (b:={b with AL:=DV Db (Bf [Bb]) (DV DQ Db b.AL),AY:=FD b.AY,tm:=b.tm.dropLast}) (a.of_eq rfl rfl rfl rfl))
def oj(o:E6 b):E6 b.IQ:=by
 unfold BS.IQ;split;.exact o
 .exact o.II (Ch _ _)
structure aFw(b:BS)(l:List Cp)(r:List Cp×BS):Prop where
 ok:E6 r.2
 le:Le b.a r.2.a
 AY:r.2.AY=b.AY
 len:r.1.length=l.length
 nodes:∀e∈r.1,r.2.a.has e.node/\(r.2.a.nd e.node).kind=4/\¬b.a.has e.node
 Ī:(r.1.map Cp.node).Nodup
 aFx:r.1.map Cp.name=l.map Cp.name
def tC:∀{l:List Cp} {b:BS},E6 b->aFw b l (BS.Lv l b)
 |[],b,o=>by
  refine⟨o,.refl,rfl,rfl,?_,?_,rfl⟩;.intro e he;cases he
  .exact J3
 |e::l,b,o=>by
  have d:=Rb (nm:=e.name) (at_:=e.Av) (sp:=1) o;have r:=tC (l:=l) d;have hl:Le b.a (b.E5 e.name e.Av 1).a:=L_;have hn:=jF (b:=b) (nm:=e.name) (at_:=e.Av) Mh;refine⟨r.ok,hl.trans r.le,r.AY.trans E7,by simp[BS.Lv,r.len],?_,?_,by simp[BS.Lv,r.aFx]⟩
  .intro c hc;rcases AE.1 hc with rfl|hc
   .exact⟨r.le.has _ hn.1,(r.le.kind _ hn.1).trans hn.2,Q8⟩
   .have:=r.nodes c hc;exact⟨this.1,this.2.1,λh=>this.2.2 (hl.has _ h)⟩
  .simp only[BS.Lv,A0,B6];refine⟨λh=>?_,r.Ī⟩;obtain⟨c,hc,f⟩:=AZ.1 h;exact(r.nodes c hc).2.2 (f▸hn.1)
def Xm(o:E6 b):E6 b.Bg:=by
 have r:=tC (l:=b.AY.drop b.ON) o;unfold BS.Bg;simp only
 have hc:=sY r.le o.ac;refine⟨r.ok.ok,r.ok.Cy,r.ok.op,r.ok.xj,?_,?_⟩
 .intro e he;rcases Aq.1 he with he|he
  .exact hc e (A4 he)
  .exact .inr ⟨(r.nodes e he).1,(r.nodes e he).2.1⟩
 .show(((b.AY.take b.ON++(BS.Lv (b.AY.drop b.ON) b).1).map Cp.node).filter _).Nodup;rw[BP,EN,BQ];refine⟨o.gj.sublist (((Ch _ _).map _).filter _),r.Ī.filter _,?_⟩;rintro a ha c K9 rfl;obtain⟨j,h1,rfl⟩:=AZ.1 (Dk.1 ha).1;obtain⟨i,h2,g⟩:=AZ.1 (Dk.1 K9).1;have d:=(r.nodes i h2);rw[g] at d;rcases o.ac j (A4 h1) with f|f
  .have:=d.1.1;omega
  .exact d.2.2 f.1
def jH(o:E6 b){blk anc:Int}{far i:Nat}{l:Int}{m:Nat}(hl:b.a.has l):E6 (BS.Ig blk anc far i b l m).1/\(BS.Ig blk anc far i b l m).1.a.has (BS.Ig blk anc far i b l m).2.1/\Le b.a (BS.Ig blk anc far i b l m).1.a:=by
 unfold BS.Ig;simp only
 split;.exact⟨o.II C0,hl,.refl⟩
 .split;.exact⟨(o.jD C0).II C0,hl,.refl⟩
  .generalize Rc:b.AY.getD (FC (b.AL.getD i Item.zero).node b.AY).toNat Cp.zero=en;obtain⟨d,f,Ek⟩:=Uv (nm:=en.name) (at_:=en.Av) (p:=anc) o Mh;have c:Le (b.Fz en.name en.Av 1 anc).a ((b.Fz en.name en.Av 1 anc).a.If (b.JP en.name en.Av 1).node l 0):=P9;have Qu:(b.Fz en.name en.Av 1 anc).AL=b.AL:=by unfold BS.Fz;rw[Af Mh]
   have Vq:(b.Fz en.name en.Av 1 anc).AY=b.AY:=by unfold BS.Fz;rw[Af Mh]
   have q:=d.IH (P7 (p:=(b.JP en.name en.Av 1).node) (n:=l) (b:=0) d.ok) c;have j:=q.ob (i:=b.JP en.name en.Av 1) (k:=i) ⟨c.has _ f.has,by rw[c.kind _ f.has];exact f.kind,by rw[c.A9 _ f.has];exact f.A9,by rw[c.name _ f.has];exact f.name⟩ (by simp only[Qu];exact Qa o f);have g:=j.oh (e:={en with node:=(b.JP en.name en.Av 1).node}) (k:=(FC (b.AL.getD i Item.zero).node b.AY).toNat) ⟨c.has _ f.has,by rw[c.kind _ f.has];exact f.kind⟩ (by simp only[Vq];exact TA o f);exact⟨g,c.has _ f.has,Ek.trans c⟩
def bX{blk anc:Int}{far k:Nat}:∀{c:Nat} {s:BS×Int×Nat},E6 s.1->s.1.a.has s.2.1->E6 (BS.Pu blk anc far k c s).1/\(BS.Pu blk anc far k c s).1.a.has (BS.Pu blk anc far k c s).2.1/\Le s.1.a (BS.Pu blk anc far k c s).1.a
 |0,s,o,h=>⟨o,h,.refl⟩
 |c+1,s,o,h=>by obtain⟨f,h1,l1⟩:=jH (blk:=blk) (anc:=anc) (far:=far) (i:=k+(c+1)) (m:=s.2.2) o h;obtain⟨d,h2,g⟩:=bX (blk:=blk) (anc:=anc) (far:=far) (k:=k) (c:=c) f h1;exact⟨d,h2,l1.trans g⟩
def Mz{n:Int}:∀{l:List Int} {A:Ar},EY A 0->EY (BS.Dm A n l) 0/\Le A (BS.Dm A n l)
 |[],A,ok=>⟨ok,.refl⟩
 |x::l,A,ok=>by have h:=Mz (n:=n) (l:=l) (P7 (p:=n) (n:=x) (b:=0) ok);exact⟨h.1,Le.trans P9 h.2⟩
def cw{fe:Cp}{blk anc:Int}{s:BS×Int×Nat}(o:E6 s.1):E6 (BS.Kq fe blk anc s)/\Le s.1.a (BS.Kq fe blk anc s).a:=by
 unfold BS.Kq;simp only
 generalize tD:s.1.place anc=pb;have l1:Le s.1.a (s.1.a.HU s.2.1 pb.1 pb.2):=I7;have d:=o.IH (N5 (n:=s.2.1) (p:=pb.1) (b:=pb.2) o.ok) l1;generalize Qm:({s.1 with a:=s.1.a.HU s.2.1 pb.1 pb.2}:BS)=b2 at d;have RT:b2.a=s.1.a.HU s.2.1 pb.1 pb.2:=by rw[<-Qm]
 have rK:b2.AL=s.1.AL:=by rw[<-Qm]
 have K9:b2.AY=s.1.AY:=by rw[<-Qm]
 obtain⟨j,f,l3⟩:=Uv (nm:=fe.name) (at_:=fe.Av) (p:=blk) d Mh;have Qu:(b2.Fz fe.name fe.Av 1 blk).AL=b2.AL:=by unfold BS.Fz;rw[Af Mh]
 have Vq:(b2.Fz fe.name fe.Av 1 blk).AY=b2.AY:=by unfold BS.Fz;rw[Af Mh]
 generalize ž:b2.Fz fe.name fe.Av 1 blk=b3 at*;generalize hn:b2.JP fe.name fe.Av 1=n at*;obtain⟨ī,l4⟩:=Mz (n:=n.node) (l:=(b3.a.nd blk).Bw) j.ok;have g:=P7 (p:=blk) (n:=n.node) (b:=0) ī;have c:Le b3.a ((BS.Dm b3.a n.node (b3.a.nd blk).Bw).If blk n.node 0):=l4.trans P9;have q:=j.IH g c;have fr:((BS.Dm b3.a n.node (b3.a.nd blk).Bw).If blk n.node 0).has n.node/\(((BS.Dm b3.a n.node (b3.a.nd blk).Bw).If blk n.node 0).nd n.node).kind=4/\(((BS.Dm b3.a n.node (b3.a.nd blk).Bw).If blk n.node 0).nd n.node).A9=n.A9/\(((BS.Dm b3.a n.node (b3.a.nd blk).Bw).If blk n.node 0).nd n.node).name=n.name:=
  ⟨c.has _ f.has,by rw[c.kind _ f.has];exact f.kind,by rw[c.A9 _ f.has];exact f.A9,by rw[c.name _ f.has];exact f.name⟩
 have m:=(q.jD (l:=BB b3.AY (FC fe.node b3.AY).toNat) C0).II (l:=Di fe.node b3.AL) Gv;have u:n.node∉(Di fe.node b3.AL).map Item.node:=λh=>Qa d f ((Gv.map Item.node).subset (by rw[Qu] at h;exact h));have r:n.node∉(BB b3.AY (FC fe.node b3.AY).toNat).map Cp.node:=λh=>TA d f ((C0.map Cp.node).subset (by rw[Vq] at h;exact h));refine⟨(m.K_ (i:=n) fr u).aAv (e:={fe with node:=n.node}) (.inr ⟨fr.1,fr.2.1⟩) (.inr r),?_⟩;rw[RT] at l3;exact l1.trans (l3.trans c)
def jI(o:E6 b):E6 (b.round nm).2/\Le b.a (b.round nm).2.a:=by
 have d:Le b.a (b.Dw nm).a:=by
  unfold BS.Dw;split;.split<;>exact .refl
  .exact .refl
 unfold BS.round;simp only
 split;.exact⟨ZD o,d⟩
 .split;.exact⟨o.jD C0,.refl⟩
  .split;.exact⟨o,.refl⟩
   .split;.exact⟨(o.II Hk).jD C0,.refl⟩
    .rename_i hf;have aQC:Et (b.AY.getD (Fj nm b.AY).toNat Cp.zero).node b.AL<b.AL.length:=by
      rw[Mw];split;.omega
      .unfold Gk;split;.rename_i k hk;have:=(KC.1 hk).1;rw[Bj] at this;omega
       .omega
     have hb:b.a.has (b.AL.getD (Et (b.AY.getD (Fj nm b.AY).toNat Cp.zero).node b.AL).toNat Item.zero).node:=by rw[AP,Au Ac];exact(o.op _ (A5 _)).1
     obtain⟨f,h1,l1⟩:=bX (blk:=(b.AL.getD (Et (b.AY.getD (Fj nm b.AY).toNat Cp.zero).node b.AL).toNat Item.zero).node) (anc:=(b.AL.getD ((AX (BU (b.AY.getD (Fj nm b.AY).toNat Cp.zero).node) b.AL).toNat-1) Item.zero).node) (far:=(Et (b.AY.getD (Fj nm b.AY).toNat Cp.zero).node b.AL).toNat) (k:=(AX (BU (b.AY.getD (Fj nm b.AY).toNat Cp.zero).node) b.AL).toNat) (c:=(Et (b.AY.getD (Fj nm b.AY).toNat Cp.zero).node b.AL).toNat-1 -(AX (BU (b.AY.getD (Fj nm b.AY).toNat Cp.zero).node) b.AL).toNat) (s:=(b,(b.AL.getD (Et (b.AY.getD (Fj nm b.AY).toNat Cp.zero).node b.AL).toNat Item.zero).node,(Fj nm b.AY).toNat)) o hb;have r:=cw (fe:=b.AY.getD (Fj nm b.AY).toNat Cp.zero) (blk:=(b.AL.getD (Et (b.AY.getD (Fj nm b.AY).toNat Cp.zero).node b.AL).toNat Item.zero).node) (anc:=(b.AL.getD ((AX (BU (b.AY.getD (Fj nm b.AY).toNat Cp.zero).node) b.AL).toNat-1) Item.zero).node) f;exact⟨r.1,l1.trans r.2⟩
def ZE:∀{n:Nat} {b:BS},E6 b->E6 (BS.Hn n b nm)/\Le b.a (BS.Hn n b nm).a
 |0,b,o=>⟨o,.refl⟩
 |n+1,b,o=>by
  obtain⟨c,l1⟩:=jI (nm:=nm) o;unfold BS.Hn;simp only
  split;.have r:=ZE (n:=n) c;exact⟨r.1,l1.trans r.2⟩
  .exact⟨c,l1⟩
def ZF(o:E6 b):E6 (b.DN nm):=by
 unfold BS.DN;split;.exact oj o
 .exact(ZE o).1
end
structure Mi(A:Ar):Prop where
 n:A.n.length<=1000000000
 at_:∀x,(A.nd x).Av.length<=1000000000
 data:∀x,(A.nd x).data.length<=1000000000
def EM(l:List A7):Prop:=l.length<=1000/\∀a∈l,a.name.length<=1000/\a.value.length<=1000
structure Cd(b:BS)(m:Nat):Prop where
 n:b.a.n.length+m<=900000000
 at_:∀x,(b.a.nd x).Av.length+m<=1000000000
 data:∀x,(b.a.nd x).data.length+m<=1000000000
 AL:b.AL.length+m<=900000000
 AY:b.AY.length+m<=900000000
 tm:b.tm.length+m<=900000000
 C5:∀e∈b.AY,e.name.length<=1000/\EM e.Av
 ZG:∀i∈b.AL,i.name.length<=1000
def Cd.UY{b:BS}{m:Nat}(r:Cd b m):Mi b.a:=⟨by have:=r.n;omega,λx=>by have:=r.at_ x;omega,λx=>by have:=r.data x;omega⟩
def Cd.le{b:BS}{m m':Nat}(r:Cd b m)(hm:m'<=m):Cd b m':=⟨by have:=r.n;omega,λx=>by have:=r.at_ x;omega,λx=>by have:=r.data x;omega,by have:=r.AL;omega,by have:=r.AY;omega,by have:=r.tm;omega,r.C5,r.ZG⟩
def cy{sp:Int}{y:A7}:(DL sp y).value=y.value:=by
 unfold DL;split;.split<;>rfl
 .rfl
structure MQ(A A':Ar):Prop where
 n:A'.n.length=A.n.length
 at_:∀x,(A'.nd x).Av=(A.nd x).Av
 data:∀x,(A'.nd x).data=(A.nd x).data
section
variable{A A' A'':Ar}{x p bf:Int}{b:BS}{m:Nat}
def MQ.refl:MQ A A:=⟨rfl,λ_=>rfl,λ_=>rfl⟩
def MQ.trans(h:MQ A A')(k:MQ A' A''):MQ A A'':=⟨k.n.trans h.n,λx=>(k.at_ x).trans (h.at_ x),λx=>(k.data x).trans (h.data x)⟩
def Xn{y:GL}(h1:y.Av=(A.nd x).Av)(h2:y.data=(A.nd x).data):MQ A (A.set x y):=by
 refine⟨IX,λk=>?_,λk=>?_⟩<;>rw[JO]<;>split;.rename_i e;rw[h1,e.1]
 .rfl
 .rename_i e;rw[h2,e.1]
 .rfl
def TB{l:List Int}:MQ A (A.set x {A.nd x with Bw:=l}):=Xn rfl rfl
def TC:MQ A (A.set x {A.nd x with He:=p}):=Xn rfl rfl
def Ks:MQ A (A.If p x bf):=by
 unfold Ar.If;split
 .refine MQ.trans ?_ (MQ.trans TB TC);unfold Ar.cut;simp only;split;.exact .refl
  .exact MQ.trans TB TC
 .exact .refl
def LF:MQ A (A.HU x p bf):=by unfold Ar.HU;split;exact .refl;exact Ks
def QF{n:Int}:∀{l:List Int} {A:Ar},MQ A (BS.Dm A n l)
 |[],A=> .refl
 |y::l,A=>MQ.trans Ks (QF (l:=l))
def Cd.same{c:BS}(r:Cd b m)(h:MQ b.a c.a)(h1:c.AL.length<=b.AL.length)(h2:c.AY.length<=b.AY.length)(g:c.tm.length<=b.tm.length)(f:∀e∈c.AY,e.name.length<=1000/\EM e.Av)(d:∀i∈c.AL,i.name.length<=1000):Cd c m:=
 ⟨by rw[h.n];exact r.n,λx=>by rw[h.at_];exact r.at_ x,λx=>by rw[h.data];exact r.data x,by have:=r.AL;omega,by have:=r.AY;omega,by have:=r.tm;omega,f,d⟩
def Cd.IH{A':Ar}(r:Cd b m)(h:MQ b.a A'):Cd {b with a:=A'} m:=r.same h (Ab _) (Ab _) (Ab _) r.C5 r.ZG
def Cd.II{l:List Item}(r:Cd b m)(h:List.Sublist l b.AL):Cd {b with AL:=l} m:=r.same .refl h.length_le (Ab _) (Ab _) r.C5 λi hi=>r.ZG i (h.subset hi)
def Cd.eq{c:BS}(r:Cd b m)(h1:c.a=b.a)(h2:c.AL=b.AL)(d:c.AY=b.AY)(e:c.tm=b.tm):Cd c m:=⟨by rw[h1];exact r.n,by rw[h1];exact r.at_,by rw[h1];exact r.data,by rw[h2];exact r.AL,by rw[d];exact r.AY,by rw[e];exact r.tm,by rw[d];exact r.C5,by rw[h2];exact r.ZG⟩
structure TD(A A':Ar)(k:Nat):Prop where
 n:A'.n.length<=A.n.length+k
 at_:∀x,(A'.nd x).Av.length<=max (A.nd x).Av.length 1000
 data:∀x,(A'.nd x).data.length<=max (A.nd x).data.length 100000
def KW{y:GL}(h1:y.Av.length<=1000)(h2:y.data.length<=100000):TD A (A.add y) 1:=by refine⟨by simp[Ar.add],λx=>?_,λx=>?_⟩<;>rw[Lj]<;>split<;>omega
def TD.trans{k k':Nat}(h:TD A A' k)(g:TD A' A'' k'):TD A A'' (k+k'):=
 ⟨by have:=h.n;have:=g.n;omega,λx=>by have:=h.at_ x;have:=g.at_ x;omega,λx=>by have:=h.data x;have:=g.data x;omega⟩
def TD.le{k k':Nat}(h:TD A A' k)(hk:k<=k'):TD A A' k':=⟨by have:=h.n;omega,h.at_,h.data⟩
def cz(h:MQ A A'):TD A A' 0:=⟨by rw[h.n];exact Ab _,λx=>by rw[h.at_];omega,λx=>by rw[h.data];omega⟩
def oQ:TD A (A.EL x) 1:=by
 unfold Ar.EL;split;.exact(cz .refl).le Ac
 .have:=KW (A:=A) (y:={kind:=1,Cy:=A.len+1}) (Bd _) (Bd _);exact⟨this.n,this.at_,this.data⟩
def om{y:GL}(h1:y.Av.length<=1000)(h2:y.data.length<=100000):TD A (A.set x y) 0:=by refine⟨by rw[IX];exact Ab _,λx=>?_,λx=>?_⟩<;>rw[JO]<;>split<;>omega
def c_{d sp:Int}{nm:Ak}{l:List A7}(hl:l.length<=1000):TD A (A.elem d sp nm l) 3:=by
 have ho:=Bp (Sf (l:=l)) hl;have g1:=KW (A:=A) (y:={kind:=4,Cy:=d,A9:=sp,name:=nm,Av:=C7 l}) ho (Bd _);unfold Ar.elem;simp only
 split;.have g2:=oQ (A:=A.add {kind:=4,Cy:=d,A9:=sp,name:=nm,Av:=C7 l}) (x:=d);have g3:=KW (A:=(A.add {kind:=4,Cy:=d,A9:=sp,name:=nm,Av:=C7 l}).EL d) (y:={kind:=2,EK:=A.len+1,Cy:=(A.add {kind:=4,Cy:=d,A9:=sp,name:=nm,Av:=C7 l}).HP d}) (Bd _) (Bd _);exact g1.trans (k':=2) (g2.trans (k':=1) (g3.trans (k':=0) (om ho (Bd _))))
 .exact g1.le Ac
def Cd.FQ{A':Ar}{k:Nat}(r:Cd b (m+k))(h:TD b.a A' k):Cd {b with a:=A'} m:=
 ⟨by have:=r.n;have:=h.n;simp only;omega,λx=>by have:=r.at_ x;have:=h.at_ x;have:=r.n;simp only;omega,λx=>by have:=r.data x;have:=h.data x;have:=r.n;simp only;omega,by have:=r.AL;simp only;omega,by have:=r.AY;simp only;omega,by have:=r.tm;simp only;omega,r.C5,r.ZG⟩
def oq{sp:Int}{nm:Ak}:(BS.MP sp nm).length=nm.length:=by
 unfold BS.MP;split
 .rcases OA nm Ni with h|h
  .rw[h]
  .conv=>rhs;rw[<-h.2,bT]
 .rfl
variable{nm:Ak}{l:List A7}{sp:Int}
def Lw(r:Cd b (m+3))(hl:EM l):Cd (b.Fz nm l sp p) m:=by
 unfold BS.Fz;split;.exact r.FQ (c_ (by rw[As];exact hl.1))
 .exact r.le Ac
def Pv(hn:nm.length<=1000):(b.JP nm l sp).name.length<=1000:=by
 unfold BS.JP;split;.show(BS.MP sp nm).length<=1000;rw[oq];exact hn
 .exact Bd _
def Cd.tE{i:Item}{l':List Item}(r:Cd b (m+1))(h1:l'.length<=b.AL.length+1)(h2:∀j∈l',j∈b.AL\/j=i)(hi:i.name.length<=1000):Cd {b with AL:=l'} m:=
 ⟨by have:=r.n;simp only;omega,λx=>by have:=r.at_ x;simp only;omega,λx=>by have:=r.data x;simp only;omega,by have:=r.AL;simp only;omega,by have:=r.AY;simp only;omega,by have:=r.tm;simp only;omega,r.C5,λj hj=>by
  rcases h2 j hj with h|rfl
  .exact r.ZG j h
  .exact hi⟩
def Cd.tF{e:Cp}{l':List Cp}(r:Cd b (m+1))(h1:l'.length<=b.AY.length+1)(h2:∀j∈l',j∈b.AY\/j=e)(hi:e.name.length<=1000/\EM e.Av):Cd {b with AY:=l'} m:=
 ⟨by have:=r.n;simp only;omega,λx=>by have:=r.at_ x;simp only;omega,λx=>by have:=r.data x;simp only;omega,by have:=r.AL;simp only;omega,by have:=r.AY;simp only;omega,by have:=r.tm;simp only;omega,λj hj=>by
  rcases h2 j hj with h|rfl
  .exact r.C5 j h
  .exact hi,r.ZG⟩
def JR(r:Cd b (m+4))(hl:EM l)(hn:nm.length<=1000):Cd (b.E5 nm l sp) m:=by
 unfold BS.E5;split
 .rename_i hs;have c:=Lw (m:=m+1) (nm:=nm) (sp:=sp) (p:=(b.place 0).1) (r.le Ac) hl;have r2:=c.IH (LF (x:=b.a.len+1) (p:=(b.place 0).1) (bf:=(b.place 0).2));have ho:(b.Fz nm l sp (b.place 0).1).AL=b.AL:=by unfold BS.Fz;rw[Af hs]
  refine r2.tE (i:=b.JP nm l sp) (by simp only[Ap,Bc];exact Ab _) (λj hj=>?_) (Pv hn);rcases Aq.1 hj with h|h
  .exact .inl h
  .exact .inr (by simpa using h)
 .exact r.le Ac
def Uw(r:Cd b (m+5))(hl:EM l)(hn:nm.length<=1000):Cd (b.Hm nm l) m:=by
 have c:=JR (m:=m+1) (sp:=1) (nm:=nm) (r.le Ac) hl hn;unfold BS.Hm;simp only
 obtain⟨l',h1,h2⟩:=Si (l:=(b.E5 nm l 1).AY) (e:=⟨b.a.len+1,nm,l⟩);rw[h2];refine c.tF (e:=⟨b.a.len+1,nm,l⟩) (by have:=h1.length_le;simp;omega) (λj hj=>?_) ⟨hn,hl⟩;rcases Aq.1 hj with h|h
 .exact .inl (h1.subset h)
 .exact .inr (by simpa using h)
end
end Go.Am
end
