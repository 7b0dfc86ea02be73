/- Lemmas -/
import Derived.Test.YtbkijlifflhdiaaGreatDoorV18
set_option linter.all false
noncomputable section
set_option maxRecDepth 100000
section
namespace Go.Am
open Go
section
section
variable{U:Type}{z:Nat}
def Gk{An:List (List U)}(h:∀r∈An,r.length=z):An.flatten.length=An.length*z:=by
 induction An with
 |nil=>simp
 |cons q An ih=>rw[Cs,Ao,h q Au,ih λr hr=>h r (by simp[hr]),AH,Bg];omega
def VQ{An:List (List U)}(h:∀r∈An,r.length=z):∀{k:Nat},An.flatten.take (k*z)=(An.take k).flatten:=by
 induction An with
 |nil=>intro k;simp
 |cons q An ih=>
  intro k;have hq:=h q Au;cases k with
  |zero=>simp
  |succ k=>rw[Cs,Bg,DI,MG,fK,AT Ab,hq,PX,ih λr hr=>h r (by simp[hr])];simp
def He{An:List (List U)}(h:∀r∈An,r.length=z):∀{k:Nat},An.flatten.drop (k*z)=(An.drop k).flatten:=by
 induction An with
 |nil=>intro k;simp
 |cons q An ih=>
  intro k;have hq:=h q Au;cases k with
  |zero=>simp
  |succ k=>rw[Cs,Bg,DI,MG,PS,Bc Ab,hq,PX,ih λr hr=>h r (by simp[hr])];simp
def Y3{An:List (List U)}(h:∀r∈An,r.length=z){k:Nat}(hk:k<An.length)(q:List U):An.flatten.take (k*z)++q++An.flatten.drop (k*z+z)=(An.set k q).flatten:=by
 have e:k*z+z=(k+1)*z:=by rw[Bg,DI]
 rw[e,VQ h,He h,B8,Ad hk];simp
def VR{An:List (List Aa)}(h:∀r∈An,r.length=z):∀{n off:Nat},off+n<=An.length->B9 An.flatten z (off*z) n=(An.drop off).take n:=by
 intro n;induction n with
 |zero=>intro off _;simp[B9]
 |succ n ih=>
  intro off hl;rw[B9];have e:off*z+z=(off+1)*z:=by rw[Bg,DI]
  rw[e,ih Ab,He h];have hlt:off<An.length:=Ab;rw[AE hlt,Cs,CY (by rw[h _ (AX hlt)];exact Af _),AT (by rw[h _ (AX hlt)];exact Af _),U7]
def rV{An:List (List Aa)}(h:∀r∈An,r.length=z):B9 An.flatten z 0 An.length=An:=by have:=VR h (n:=An.length) (off:=0) Ab;simpa using this
end
section
variable{h:Ag}{id z n:Nat}{An:List (List Aa)}
def Qo(hr:∀r∈An,r.length=z)(hc:h[id]?=some (.cells An.flatten)):La h (.CG id 0 An.length z)=some (h.set id .Ec,.sl z An):=by unfold La;simp only[hc,Bm];rw[Ad (by rw[Gk hr];exact Af _),rV hr]
def H6{k:IntKind}{i:Nat}(hi:i<n):Ax (.F8 z) [.CG id 0 n z,.int k (i:Int)]=some (.ptr (some (id,i*z))):=by
 have:Lr (i:Int) n=some i:=by unfold Lr;rw[Ad Ab];rfl
 simp[Ax,elemOf,this]
def Rm(hr:∀r∈An,r.length=z)(hc:h[id]?=some (.cells An.flatten)){i:Nat}(hi:i<An.length){q:List Aa}(hq:q.length=z):Cx h z (.ptr (some (id,i*z))) (.agg q)=some (h.set id (.cells (An.set i q).flatten)):=by
 simp only[Cx,hc,Qn];have:i*z+z<=An.flatten.length:=by rw[Gk hr];have:=Dn z (Ab:i+1<=An.length);rwa [Bg,DI] at this
 rw[<-Y3 hr hi];exact Ad ⟨hq,this⟩
def Y4(hr:∀r∈An,r.length=z){i:Nat}{q:List Aa}(hq:q.length=z):∀r∈An.set i q,r.length=z:=by
 intro r h;rcases CZ h with h|rfl
 .exact hr r h
 .exact hq
def Po{U:Type}{f:U->List Aa}(hf:∀a,(f a).length=z)(l:List U):∀r∈l.map f,r.length=z:=by intro r h;obtain⟨a,_,rfl⟩:=AR.1 h;exact hf a
def M9{s v:Aa}{b:Nat}(hs:s= .slnil\/s= .sl z [])(hv:Bu z An v)(hne:An≠[])(hb:An.length*b<=AO):K9 h z b s v=some (h++[.cells An.flatten],.CG h.length 0 An.length z):=by
 rcases hv with rfl|⟨rfl,hv⟩
 .cases An with
  |nil=>exact absurd rfl hne
  |cons r An=>rw[AH] at hb;rcases hs with rfl|rfl<;>simp[K9,MK,hb]
 .exact absurd hv hne
def Y5{s v:Aa}{b:Nat}(hs:s= .slnil\/s= .sl z [])(hv:Bu z [] v):K9 h z b s v=some (h,s):=by rcases hv with rfl|⟨rfl,hv⟩<;>rcases hs with rfl|rfl<;>simp[K9,MK]
def TB{v:Aa}{b:Nat}{r2:List (List Aa)}(hr:∀r∈An,r.length=z)(hz:0<z)(hc:h[id]?=some (.cells An.flatten))(hv:Bu z r2 v)(hne:r2≠[])(hb:(An.length+r2.length)*b<=AO):
  hgrow h z b (.CG id 0 An.length z) v=some (h.set id .Ec++[.cells (An++r2).flatten],.CG h.length 0 (An.length+r2.length) z):=by
 rcases hv with rfl|⟨rfl,hv⟩
 .cases r2 with
  |nil=>exact absurd rfl hne
  |cons r r2=>
   have hl:=Gk hr;have h1:¬(0+(An.length+(r::r2).length)*z<=An.flatten.length):=by rw[hl,AH,Bm,Bg,Bg];omega
   have h2:An.flatten.take (An.length*z)=An.flatten:=AT (by rw[hl];exact Af _);unfold hgrow;simp only[Gt,BB,hc];rw[Ac h1,Ad ⟨trivial,by rw[hl];exact Af _,hb⟩,h2,MB]
 .exact absurd hv hne
end
end
section
section
end
def Iq:List Aq:=[[100,100],[100,116],[108,105],aJx,aJH,[112],[114,98],[114,112],[114,116],[114,116,99]]
def NF:List Aq:=[aJu,aJD,aJI,[116,100],aJE,[116,104],aJJ,[116,114]]
def Md:List Aq:=[[109,105],[109,110],[109,111],[109,115],[109,116,101,120,116]]
def VS:List Aq:=[aJZ,aJt,aJF]
section
end
def Hg(k:Int)(s:Aq):Bool:=
 if k=3 then decide (s=aJr\/s∈Md) else if k=2 then decide (s∈VS) else if k=1 then decide (s∈Pn) else false
def sw(s:Aq)(t e:IT):List Aq->IT
 |[]=>e
 |c::cs=> .op (.str .eql) [.str s,.str c] λv=> .A4 v t (sw s t e cs)
def rW{C:E7}{Q:IA}{h:Ag}{s:Aq}{t e:IT}:∀{cs:List Aq},W C (sw s t e cs) Q h↔(s∈cs->W C t Q h)/\(s∉cs->W C e Q h)
 |[]=>by simp[sw]
 |c::cs=>by
  simp only[sw,Tl,gW,M5,LJ,Tn,Az,OO];rw[rW];by_cases hc:s=c;.simp[hc]
  .simp[hc]
def UM{C:E7}{f:FuncId}{args:List Aa}{r:Aa}:OA C f args r↔W C (BK C f args) (λx vs _=>x= .ret/\vs=[r]) []:=by
 unfold OA Ev;constructor;.exact λh=>W.mono h λ_ _ _ ⟨h1,r,h2,a⟩=>⟨h1,by rw[h2,a]⟩
 .exact λh=>W.mono h λ_ _ _ ⟨h1,h2⟩=>⟨h1,r,h2,rfl⟩
section
variable{Q:IA}{h:Ag}{k:Aa->IT}{s:Aq}
end
section
variable{Q:IA}{h:Ag}{k:Aa->IT}{s:Aq}{n:Int}
end
end
section
end
section
section
variable{Q:IA}{h:Ag}{k:Aa->IT}{s:Aq}
def LL:List Aq:=LK [] aJp
def LM:List Aq:=LK [] aJo
def Pp:List Aq:=[aJv,aJs,aJq]
def Na:List Aq:=[aJx,aJH]
def Xc:List Aq:=[[111,108],[117,108]]
def Sb:List Aq:=[aJV,aJu,aJv,aJS,aJY,aJs,[116,100],aJq,[116,104]]
end
section
variable{Q:IA}{h:Ag}{k:Aa->IT}{s:Aq}{n:Int}
end
end
section
def H7(c:UInt8):UInt8:=if 65<=c.toNat/\c.toNat<=90 then c+32 else c
def Fs(s:Aq):Aq:=s.map H7
def Xd{c:UInt8}(h:65<=c.toNat/\c.toNat<=90):((H7 c).toNat:Int)=(c.toNat:Int)+32:=by unfold H7;rw[Ad h,UInt8.toNat_add];have:UInt8.toNat 32=32:=Be;rw[this];omega
def Pq{c:UInt8}(h:¬(65<=c.toNat/\c.toNat<=90)):H7 c=c:=by unfold H7;rw[Ac h]
def cO{s:Aq}{n:Nat}(hn:n<s.length):Fs (s.take (n+1))=Fs (s.take n)++[H7 s[n]]:=by rw[AL hn];unfold Fs;rw[B3];rfl
def Mx(b:UInt8):Aa:= .int .u8 (b.toNat:Int)
def F9(s:Aq)(n:Nat):Aq:=Fs (s.take n)++s.drop n
def TC(s:Aq)(n:Nat):(F9 s n).length=s.length:=by simp[F9,Fs];omega
def TD{s:Aq}{n:Nat}(hn:n<s.length):(F9 s n)[n]?=some s[n]:=by unfold F9 Fs;rw[BG D5];simp only[Aw,Av,Cg (QM hn),FD];rw[AE hn];rfl
def Pr{s:Aq}{n:Nat}(hn:n<s.length):F9 s (n+1)=(F9 s n).set n (H7 s[n]):=by
 unfold F9;rw[cO hn,CO _ _ (by simp[Fs];omega)];have e:n-(Fs (s.take n)).length=0:=by simp[Fs];omega
 rw[e,AE hn,List.set_cons_zero,AI];rfl
def Y6(s:Aq):F9 s s.length=Fs s:=by simp[F9,Fs]
def rX{U:Type}{l:List U}{i:Nat}{v:U}(h:l[i]?=some v):l.set i v=l:=by
 apply Oc;intro j;rw[aEX];split
 .rename_i e;subst e;split;.exact h.symm
  .rename_i hl;rw[Dd Ab]
 .rfl
def cP{cs:List Aa}{i:Nat}{v:Aa}(h:cs[i]?=some v):BE [.cells cs] none (.ptr (some (0,i)))=some v:=by simpa[BE] using h
def UN{U:Type}{l:List U}{i:Nat}{v:U}(h:i<l.length):l.take i++v::l.drop (i+1)=l.set i v:=by rw[B8,Ad h]
def Y7{cs:List Aa}{i:Nat}{v:Aa}(h:i<cs.length)(hv:v.cells=[v]):Cx [.cells cs] 1 (.ptr (some (0,i))) v=some [.cells (cs.set i v)]:=by simp only[Cx,hv,JP,BT];rw[Ad ⟨trivial,Ab⟩,<-UN h];simp
def Nb(s:Aq):∀(n o:Nat),o+n=s.length->B9 (s.map Mx) 1 o n=Cu (s.drop o)
 |0,o,h=>by rw[Bc Ab];rfl
 |n+1,o,h=>by
  have ho:o<s.length:=Ab;have e:(s.map Mx).drop o=Mx s[o]::(s.map Mx).drop (o+1):=by rw[AE (by simpa using ho)];simp
  rw[B9,Nb s n (o+1) Ab,AE ho,e];rfl
end
section
def C7(name:Aq):List Aq->Aq
 |[]=>name
 |w::ws=>if Fs w=name then w else C7 name ws
def CK(w:Aq):List Aa:=[.str w]
def Qp:Aq:=aJp
def Qq:Aq:=aJo
end
section
structure AS where
 AY:Int
 name:Aq
 value:Aq
 deriving DecidableEq
def AS.row(a:AS):List Aa:=[.int .i64 a.AY,.str a.name,.str a.value]
structure Item where
 node:Int
 AY:Int
 name:Aq
 Nc:Bool
 deriving DecidableEq
def Item.row(a:Item):List Aa:=[.int .i64 a.node,.int .i64 a.AY,.str a.name,.bool a.Nc]
def Jz(ns:List Aq)(v:Aa):Prop:=Bu 1 (ns.map CK) v
def Cl(l:List AS)(v:Aa):Prop:=Bu 3 (l.map AS.row) v
def CW(l:List Item)(v:Aa):Prop:=Bu 4 (l.map Item.row) v
def gY(l:List AS):Prop:=l.length<=12/\∀x∈l,x.name.length<=60/\x.value.length<=200
instance(l:List AS):Decidable (gY l):=by unfold gY;infer_instance
def rY(l:List Aq):Prop:=l.length<=12/\∀x∈l,x.length<=60
instance(l:List Aq):Decidable (rY l):=by unfold rY;infer_instance
def gZ(l:List Item):Prop:=l.length<=60/\∀x∈l,x.name.length<=60
instance(l:List Item):Decidable (gZ l):=by unfold gZ;infer_instance
end
section
def B5{U:Type}(p:U->Bool)(n:Nat):List U->Int
 |[]=> -1
 |a::l=>if p a then(n:Int) else B5 p (n+1) l
def Ga{U:Type}{p:U->Bool}:∀{l:List U} {k:Nat},(B5 p k l= -1/\l.find? p=none)\/∃(n:Nat) (a:U),B5 p k l=((k+n:Nat):Int)/\l[n]?=some a/\l.find? p=some a
 |[],k=> .inl ⟨rfl,rfl⟩
 |a::l,k=>by
  unfold B5;by_cases h:p a=true;.exact .inr ⟨0,a,by rw[Ad h];rfl,rfl,by simp[h]⟩
  .rw[Ac h];rcases Ga (p:=p) (l:=l) (k:=k+1) with⟨h1,h2⟩|⟨n,b,h1,h2,c⟩
   .exact .inl ⟨h1,by simp[h,h2]⟩
   .exact .inr ⟨n+1,b,by rw[h1];congr 1;omega,by simpa using h2,by simp[h,c]⟩
def hC(a:AS):Bool:=decide (a.AY=0/\a.name=aJ0)
def Rn{s:Aq}(h:s.all (λc=> !(65<=c.toNat&&c.toNat<=90))=true):Fs s=s:=by
 unfold Fs;conv=>rhs;rw[<-List.map_id s]
 apply Vb;intro c hc;have:=D8.1 h c hc;refine Pq λh2=>?_;simp[h2.1,h2.2] at this
abbrev zu:Aq:=aJr
abbrev hO:Aq:=aJW
abbrev Xe:Aq:=aJy
def Hh(n:Int)(s:Aq)(l:List AS):Bool:=
 if n=2 then Hg 2 s else if n≠3 then false else if s≠zu then false else match l.find? hC with
  |none=>false
  |some a=>decide (Fs a.value=hO\/Fs a.value=Xe)
end
section
section
variable{U:Type}{f:U->List Aa}{l l2:List U}{v v2:Aa}{z b:Nat}{k k2:IntKind}
def Bu.GF(hv:Bu z (l.map f) v):Ax (.len false) [v]=some (.int .i64 (l.length:Int)):=by have:=Bu.len hv;rwa [Aw] at this
def Bu.Dl(hv:Bu z (l.map f) v){n:Nat}(hn:n<l.length):Ax (.F8 z) [v,.int k (n:Int)]=some (.Cb (f l[n])):=by have:=Bu.F8 hv (k:=k) (n:=n) (by simpa using hn);simpa using this
def Bu.Ro(hv:Bu z (l.map f) v){n:Nat}(hn:n<=l.length):∃u,Ax (.P4 z false false true) [v,.int k (n:Int)]=some u/\Bu z ((l.take n).map f) u:=by
 rcases hv with rfl|⟨rfl,h⟩
 .have e1:E8 (n:Int) (l.map f).length=some n:=by unfold E8;rw[Aw,Ad Ab];rfl
  refine⟨.sl z ((l.map f).take n),?_,.inl (by rw[HO])⟩;simp only[Ax,JR,Dx,e1,BM,ZZ,BB,Ky]
 .have:l=[]:=by simpa using h
  subst this;have:n=0:=by simpa using hn
  subst this;exact⟨.slnil,rfl,.inr ⟨rfl,rfl⟩⟩
def Bu.hZ(hv:Bu z (l.map f) v){n:Nat}(hn:n<=l.length):∃u,Ax (.P4 z false true false) [v,.int k (n:Int)]=some u/\Bu z ((l.drop n).map f) u:=by
 rcases hv with rfl|⟨rfl,h⟩
 .have e1:E8 (n:Int) (l.map f).length=some n:=by unfold E8;rw[Aw,Ad Ab];rfl
  refine⟨.sl z ((l.map f).drop n),?_,.inl (by rw[Lq])⟩;simp only[Ax,JR,Dx,e1,BM,ZZ,BB,BZ]
 .have:l=[]:=by simpa using h
  subst this;have:n=0:=by simpa using hn
  subst this;exact⟨.slnil,rfl,.inr ⟨rfl,rfl⟩⟩
def Bu.yJ(hv:Bu z (l.map f) v)(SN:Bu z (l2.map f) v2)(hb:(l.length+l2.length)*b<=AO):∃u,Ax (.append z b) [v,v2]=some u/\Bu z ((l++l2).map f) u:=by obtain⟨u,e,hu⟩:=Bu.J5 hv SN (b:=b) (by simpa using hb);exact⟨u,e,by rwa [B3]⟩
def Bu.Nd(SN:Bu z (l2.map f) v2)(hb:l2.length*b<=AO):∃u,Ax (.append z b) [.slnil,v2]=some u/\Bu z (l2.map f) u:=by obtain⟨u,e,hu⟩:=Bu.J5 (v:= .slnil) (r:=[]) .nil SN (b:=b) (by simpa using hb);exact⟨u,e,by simpa using hu⟩
def Bu.Y8{a:U}(hv:Bu z (l.map f) v)(hb:(l.length+1)*b<=AO):Ax (.append z b) [v,.sl z [f a]]=some (.sl z ((l++[a]).map f)):=by rw[Bu.zq hv (by simpa using hb)];simp
end
def DP{a b:Int}(h1: -9223372036854775808<=a-b)(h2:a-b<9223372036854775808):Ax (.int .sub) [.int .i64 a,.int .i64 b]=some (.int .i64 (a-b)):=by rw[cL,wrap_i64 h1 h2]
def Xf{a b:Int}(h1: -9223372036854775808<=a+b)(h2:a+b<9223372036854775808):Ax (.int .add) [.int .i64 a,.int .i64 b]=some (.int .i64 (a+b)):=by rw[cK,wrap_i64 h1 h2]
def Item.zero:Item:=⟨0,0,[],false⟩
def Item.Di{a:Item}:a.row.length=4:=rfl
def Item.g0{a:Item}{d:Aa}:a.row.getD 0 d= .int .i64 a.node:=rfl
def Item.g1{a:Item}{d:Aa}:a.row.getD 1 d= .int .i64 a.AY:=rfl
def Item.g2{a:Item}{d:Aa}:a.row.getD 2 d= .str a.name:=rfl
def Item.g3{a:Item}{d:Aa}:a.row.getD 3 d= .bool a.Nc:=rfl
def Item.zw{a:Item}:a.row[0]?=some (.int .i64 a.node):=rfl
def Item.Jj{a:Item}:a.row.take 4=a.row:=rfl
def Item.rZ{a:Item}:a.row.drop 1=[.int .i64 a.AY,.str a.name,.bool a.Nc]:=rfl
def Item.zx{a:Item}:a.row.drop 2=[.str a.name,.bool a.Nc]:=rfl
def Item.zy{a:Item}:a.row.drop 3=[.bool a.Nc]:=rfl
def Item.RK{a:Item}:[Aa.int .i64 a.node,.int .i64 a.AY,.str a.name,.bool a.Nc]=a.row:=rfl
def Item.fill{a:Item}:Bt [.int .i64 0,.int .i64 0,.str [],.bool false] ([(0,1),(1,1),(2,1),(3,1)].zip a.row)=some a.row:=rfl
def Ic:=ai @Item.fill (ai @Item.Di (ai @Item.g0 (ai @Item.g1 (ai @Item.g2 (ai @Item.g3 (ai @Item.zw (ai @Item.Jj (ai @Item.rZ (ai @Item.zx (ai @Item.zy (ai @Item.RK (ai @DW (@BN.{0})))))))))))))
def Ir(l:List Item)(i:Int):Item:=if 0<=i then l.getD i.toNat Item.zero else Item.zero
def GO(l:List Item):Item:=Ir l ((l.length:Int)-1)
def AM{U:Type}(q:U->Bool)(l:List U):Int:=match l.reverse.findIdx? q with
 |some k=>(l.length:Int)-1 -k
 |none=> -1
def Nf{U:Type}{q:U->Bool}:AM q []= -1:=rfl
def JX{U:Type}{q:U->Bool}{l:List U}{a:U}:AM q (l++[a])=if q a then(l.length:Int) else AM q l:=by
 unfold AM;rw[GG,Hv,F5,aDq];by_cases h:q a=true;.simp only[h,BB,Ao,BT];omega
 .simp only[h,EH,C0,Ao,BT];cases List.findIdx? q l.reverse with
  |none=>rfl
  |some k=>simp only[BM];omega
def Me{U:Type}{q:U->Bool}{l:List U}{n:Nat}(hn:n<l.length):AM q (l.take (n+1))=if q l[n] then(n:Int) else AM q (l.take n):=by rw[AL hn,JX,Av,Cg (QM hn)]
def Ds{U:Type}{q:U->Bool}{l:List U}:(AM q l= -1/\∀a∈l,q a=false)\/∃(n:Nat) (hn:n<l.length),AM q l=(n:Int)/\q l[n]=true/\∀m (hm:m<l.length),n<m->q l[m]=false:=by
 have key:∀r:List U,(AM q r.reverse= -1/\∀a∈r.reverse,q a=false)\/∃(n:Nat) (hn:n<r.reverse.length),AM q r.reverse=(n:Int)/\q r.reverse[n]=true/\∀m (hm:m<r.reverse.length),n<m->q r.reverse[m]=false:=by
  intro r;induction r with
  |nil=>exact .inl ⟨rfl,Au⟩
  |cons a r ih=>
   rw[Ib,JX];by_cases h:q a=true;.refine .inr ⟨r.reverse.length,Au,by rw[Ad h],by simp[h],λm hm hlt=>?_⟩;simp at hm hlt;omega
   .rw[Ac h];rcases ih with⟨h1,h2⟩|⟨n,hn,h1,h2,c⟩
    .exact .inl ⟨h1,λb hb=>by
      rcases Al.1 hb with hb|hb
      .exact h2 b hb
      .simp at hb;subst hb;simpa using h⟩
    .refine .inr ⟨n,by simp at hn⊢;omega,h1,by rw[Jq hn];exact h2,λm hm hlt=>?_⟩;by_cases SY:m<r.reverse.length;.rw[Jq SY];exact c m SY hlt
     .have:m=r.reverse.length:=by simp at hm SY⊢;omega
      subst this;simpa using h
 have:=key l.reverse;rwa [Iz] at this
def At(h:Ag)(id o:Nat)(v:Aa):Prop:=∃cs,h[id]?=some (.cells cs)/\cs[o]?=some v
def put(h:Ag)(id o:Nat)(u:Aa):Ag:=match h[id]? with
 |some (.cells cs)=>h.set id (.cells (cs.set o u))
 |_=>h
section
variable{h t:Ag}{id o:Nat}{u v w:Aa}
def Hr{cs:List Aa}(hc:h[id]?=some (.cells cs)):put h id o u=h.set id (.cells (cs.set o u)):=by unfold put;rw[hc]
def KW:(put h id o u).length=h.length:=by unfold put;split<;>simp
def At.lt(ha:At h id o v):id<h.length:=by obtain⟨cs,hc,_⟩:=ha;exact(Ae.1 hc).1
def At.load(ha:At h id o v):BE h none (.ptr (some (id,o)))=some v:=by obtain⟨cs,hc,e⟩:=ha;simp only[BE,hc,Ji,e]
def At.store(ha:At h id o v)(hu:u.cells=[u]):Cx h 1 (.ptr (some (id,o))) u=some (put h id o u):=by
 obtain⟨cs,hc,e⟩:=ha;have hl:=(Ae.1 e).1;rw[Hr hc];simp only[Cx,hc,hu,BT,PV];have a:cs.set o u=cs.take o++[u]++cs.drop (o+1):=by rw[B8,Ad hl];simp
 rw[Ad (Ab:o+1<=cs.length),a]
def At.put(ha:At h id o v):At (put h id o u) id o u:=by obtain⟨cs,hc,e⟩:=ha;have hl:=(Ae.1 e).1;have hi:=(Ae.1 hc).1;rw[Hr hc];exact⟨cs.set o u,by simp[hi],by simp[hl]⟩
def At.same(ha:At h id o v):Am.put h id o v=h:=by obtain⟨cs,hc,e⟩:=ha;obtain⟨hl,e⟩:=Ae.1 e;obtain⟨hi,a⟩:=Ae.1 hc;rw[Hr hc,<-e,HV,<-a,HV]
def Xg:Am.put (Am.put h id o u) id o w=Am.put h id o w:=by
 cases hc:h[id]? with
 |none=>
  have e:∀u,Am.put h id o u=h:=λu=>by unfold Am.put;rw[hc]
  rw[e,e]
 |some x=>cases x with
  |cells cs=>have hi:=(Ae.1 hc).1;rw[Hr hc,Hr hc,Hr (cs:=cs.set o u) (by simp[hi])];simp
  |_=>
   have e:∀u,Am.put h id o u=h:=λu=>by unfold Am.put;rw[hc]
   rw[e,e]
def At.J5(ha:At h id o v):At (h++t) id o v:=by obtain⟨cs,hc,e⟩:=ha;exact⟨cs,by rw[Ai (Ae.1 hc).1];exact hc,e⟩
def Xh(ha:At h id o v):Am.put (h++t) id o u=Am.put h id o u++t:=by have hi:=ha.lt;obtain⟨cs,hc,e⟩:=ha;rw[Hr hc,Hr (by rw[Ai hi];exact hc),List.set_append_left _ _ hi]
def Cz{i:Nat}(hn:i≠id):(Am.put h id o u)[i]?=h[i]?:=by
 unfold Am.put;split;.rw[Aj (Dv hn)]
 .rfl
end
def oW(h:Ag)(p:Aa)(l:List Item):Prop:=(p= .ptr none/\l=[])\/∃id o v,p= .ptr (some (id,o))/\At h id o v/\CW l v
def H8{l:List Item}{n:Nat}(hn:n<l.length):Ir l (n:Int)=l[n]:=by have:(0:Int)<=(n:Int):=Ab;simp[Ir,this,hn]
def TE{l:List Item}{i:Int}(h:i<0\/(l.length:Int)<=i):Ir l i=Item.zero:=by
 unfold Ir;rcases h with h|h
 .rw[Ac Ab]
 .rw[Ad Ab,AG,Dd Ab];rfl
section
variable{h:Ag}{p:Aa}{l:List Item}
def yK{s:Aq}{ws:List Aq}:decide (0<=B5 (λw=>decide (s=w)) 0 ws)=decide (s∈ws):=by
 rcases Ga (p:=λw=>decide (s=w)) (l:=ws) (k:=0) with⟨h1,h2⟩|⟨n,a,h1,h2,c⟩
 .rw[h1,Eb];have:=JJ.1 h2;exact⟨λh=>Ab,λh=>absurd (show s=s from rfl) (by simpa using this s h)⟩
 .rw[h1,Eb];have e:s=a:=by simpa using Rv c
  have:a∈ws:=B6 h2;refine⟨λ_=>e▸this,λ_=>Ab⟩
def BF(ws:List Aq)(a:Item):Bool:=decide (a.AY=1/\a.name∈ws)
def DA{ws:List Aq}:Jz ws (.sl 1 (ws.map CK)):= .mk
def Ng(n:Int)(a:Item):Bool:=
 if n=4 then BF Pp a else if n=5 then !BF Na a else if a.AY=3\/a.AY=2 then Hg a.AY a.name
 else BF Sb a||(decide (n=2)&&BF Xc a)||(decide (n=3)&&BF [aJw] a)
def Eu{ws:List Aq}{args:List Aa}(e:args=ws.map Aa.str)(h:ws.length<=16777216):Ax (.Cd 1) args=some (.sl 1 (ws.map CK)):=by
 subst e;have e1:(ws.map Aa.str).all (λa=>a.cells.length==1)=true:=Au;have c:(ws.map Aa.str).map (·.cells)=ws.map CK:=by simp[CK]
 rw[gX,e1,c];simp[h]
def cQ:Ax (.Cd 1) [S aJv,S aJs,S aJq]=some (.sl 1 (Pp.map CK)):=Eu (ws:=Pp) rfl Be
def Y9:Ax (.Cd 1) [S aJx,S aJH]=some (.sl 1 (Na.map CK)):=Eu (ws:=Na) rfl Be
def mO:Ax (.Cd 1) [S [111,108],S [117,108]]=some (.sl 1 (Xc.map CK)):=Eu (ws:=Xc) rfl Be
def cR:Ax (.Cd 1) [S aJV,S aJu,S aJv,S aJS,S aJY,S aJs,S [116,100],S aJq,S [116,104]]=some (.sl 1 (Sb.map CK)):=Eu (ws:=Sb) rfl Be
def mP:Ax (.Cd 1) [S aJw]=some (.sl 1 ([aJw].map CK)):=Eu (ws:=[aJw]) rfl Be
def OB{U:Type}(q e:U->Bool):List U->Bool
 |[]=>false
 |a::r=>if q a then true else if e a then false else OB q e r
def cS{U:Type}{q e:U->Bool}(l:List U)(b:Bool):(if h:0<=AM (λa=>q a||e a) l/\(AM (λa=>q a||e a) l).toNat<l.length then q (l[(AM (λa=>q a||e a) l).toNat]'h.2) else false)=OB q e l.reverse:=by
 have key:∀r:List U,(if h:0<=AM (λa=>q a||e a) r.reverse/\(AM (λa=>q a||e a) r.reverse).toNat<r.reverse.length then q (r.reverse[(AM (λa=>q a||e a) r.reverse).toNat]'h.2) else false)=OB q e r:=by
  intro r;induction r with
  |nil=>simp[OB,Nf]
  |cons a r ih=>
   simp only[Ib,OB];have e0:=JX (q:=λa=>q a||e a) (l:=r.reverse) (a:=a);by_cases hq:q a=true
   .rw[Ad (by simp[hq])] at e0;have e1:(AM (λa=>q a||e a) (r.reverse++[a])).toNat=r.reverse.length:=by rw[e0];omega
    simp only[e1];rw[Z0 ⟨by rw[e0];omega,Au⟩];simp[hq]
   .by_cases he:e a=true
    .rw[Ad (by simp[he])] at e0;have e1:(AM (λa=>q a||e a) (r.reverse++[a])).toNat=r.reverse.length:=by rw[e0];omega
     simp only[e1];rw[Z0 ⟨by rw[e0];omega,Au⟩];simp[hq,he]
    .rw[Ac (by simp[hq,he])] at e0;simp only[hq,he,EH,C0,<-ih,e0];rcases Ds (q:=λa=>q a||e a) (l:=r.reverse) with⟨h1,h2⟩|⟨n,hn,h1,h2,c⟩
     .simp[h1]
     .have c1:(0:Int)<=(n:Int)/\(n:Int).toNat<r.reverse.length:=⟨Ab,by simpa using hn⟩;have c2:(0:Int)<=(n:Int)/\(n:Int).toNat<(r.reverse++[a]).length:=⟨Ab,by simp at hn⊢;omega⟩;simp only[h1];rw[Z0 c1,Z0 c2,Jq c1.2]
 have:=key l.reverse;rwa [Iz] at this
def Jz.cells{v:Aa}{ws:List Aq}(hv:Jz ws v):v.cells=[v]:=Bu.cells hv
def BJ(node:Int)(a:Item):Bool:=decide (a.node=node)
end
end
section
section
variable{h:Ag}{p v:Aa}{l:List Item}
def mQ{n s:Int}{t:Aq}{b:Bool}:Ax (.B4 [I 0,I 0,S [],ff] [(0,1),(1,1),(2,1),(3,1)]) [.int .i64 n,.int .i64 s,.str t,.bool b]=some (.agg (Item.row ⟨n,s,t,b⟩)):=by simp only[Ch];rfl
def sB{a:Item}:Ax (.Cd 4) [.agg a.row]=some (.sl 4 [a.row]):=Pl rfl Be
def JY(h:Ag)(id o:Nat)(l:List Item):Prop:=∃v,At h id o v/\CW l v
def JY.at{id o:Nat}(hs:JY h id o l):oW h (.ptr (some (id,o))) l:=let⟨v,h1,h2⟩:=hs; .inr ⟨id,o,v,rfl,h1,h2⟩
def CW.cells(hv:CW l v):v.cells=[v]:=Bu.cells hv
def Is(a:Item):Bool:=Hg a.AY a.name
def DQ(node:Int)(l:List Item):Int:=if AM (BJ node) l<0 then -1 else match(l.drop ((AM (BJ node) l).toNat+1)).findIdx? Is with
 |some k=>AM (BJ node) l+1+k
 |none=> -1
def Fj{U:Type}(q:U->Bool)(l:List U)(n:Nat):Int:=match(l.drop n).findIdx? q with
 |some k=>(n:Int)+k
 |none=> -1
def UO{U:Type}{q:U->Bool}{l:List U}{n:Nat}(h:l.length<=n):Fj q l n= -1:=by unfold Fj;rw[Bc h];rfl
def Xi{U:Type}{q:U->Bool}{l:List U}{n:Nat}(h:n<l.length):Fj q l n=if q l[n] then(n:Int) else Fj q l (n+1):=by
 unfold Fj;rw[AE h,aDq];by_cases hq:q l[n]=true;.simp only[hq,BB];omega
 .simp only[hq,C0,EH];cases List.findIdx? q (l.drop (n+1)) with
  |none=>rfl
  |some k=>simp only[BM];omega
def KX{node:Int}:DQ node l=if AM (BJ node) l<0 then -1 else Fj Is l ((AM (BJ node) l).toNat+1):=by
 unfold DQ Fj;by_cases h:AM (BJ node) l<0;.simp only[h,BB]
 .simp only[h,EH];cases(l.drop ((AM (BJ node) l).toNat+1)).findIdx? Is with
  |none=>rfl
  |some k=>simp only;omega
end
end
section
def Ev.ret{C:E7}{f:FuncId}{args:List Aa}{h:Ag}{R:Aa->Ag->Prop}(hw:Ev C f args h R):∃r h',Cm C f args h r h'/\R r h':=by obtain⟨n,x,vs,h',e,hx,r,hv,hR⟩:=hw;exact⟨r,h',⟨n,x,vs,h',e,hx,hv,rfl⟩,hR⟩
def N7(b a:Item->Bool):List Item->List Item
 |x::y::r=>if b x then x::y::r else if a x then y::r else N7 b a (y::r)
 |r=>r
def EP(b a:Item->Bool)(l:List Item):List Item:=(N7 b a l.reverse).reverse
def mR{b a:Item->Bool}{l:List Item}(h:l.length<=1):N7 b a l=l:=by
 match l with
 |[]=>rfl
 |[x]=>rfl
 |x::y::r=>simp at h
def Za{b a:Item->Bool}{l:List Item}(h:l.length<=1):EP b a l=l:=by unfold EP;rw[mR (by simpa using h),Iz]
def mS{b a:Item->Bool}{l:List Item}{x:Item}(h:1<=l.length):EP b a (l++[x])=if b x then l++[x] else if a x then l else EP b a l:=by
 unfold EP;rw[GG,Hv,F5];cases hr:l.reverse with
 |nil=>
  have:l=[]:=by simpa using hr
  subst this;simp at h
 |cons y r=>
  have hl:l=r.reverse++[y]:=by rw[<-Iz l,hr,Ib]
  rw[N7];by_cases h1:b x=true;.rw[Ad h1,Ad h1];rw[hl];simp
  .rw[Ac h1,Ac h1];by_cases h2:a x=true;.rw[Ad h2,Ad h2];rw[hl];simp
   .rw[Ac h2,Ac h2]
def mT{b a:Item->Bool}{l:List Item}{n:Nat}(hn:n+1<l.length):EP b a (l.take (n+2))=if b l[n+1] then l.take (n+2) else if a l[n+1] then l.take (n+1) else EP b a (l.take (n+1)):=by have e:l.take (n+2)=l.take (n+1)++[l[n+1]]:=AL hn;rw[e,mS (by rw[Av];omega)]
def Xj{b a:Item->Bool}:∀{l:List Item},(EP b a l).length<=l.length:=by
 have key:∀r:List Item,(N7 b a r).length<=r.length:=by
  intro r;induction r with
  |nil=>simp[N7]
  |cons x r ih=>
   cases r with
   |nil=>simp[N7]
   |cons y r=>
    rw[N7];split;.simp
    .split;.simp
     .exact A5 ih Au
 intro l;have:=key l.reverse;simpa[EP] using this
section
variable{h:Ag}{p v:Aa}{l:List Item}
def TF{n:Nat}(hn:n<l.length):GO (l.take (n+1))=l[n]:=by
 have e:((l.take (n+1)).length:Int)-1=(n:Int):=by rw[Av];omega
 unfold GO;rw[e,H8 (by rw[Av];omega)];simp
def JY.Xk{id o:Nat}(hs:JY h id o l):∃u,h=put h id o u/\CW l u:=by obtain⟨u,hc,hu⟩:=hs;exact⟨u,hc.same.symm,hu⟩
def JY.lt{id o:Nat}(hs:JY h id o l):∃v,At h id o v:=let⟨u,hc,_⟩:=hs;⟨u,hc⟩
def JY.od{id o:Nat}{u:Aa}(hlt:∃v,At h id o v)(hu:CW l u):JY (put h id o u) id o l:=let⟨_,ha⟩:=hlt;⟨u,ha.put,hu⟩
def DZ(_:Item):Bool:=false
def Hi(s:Aq)(a:Item):Bool:=decide (a.AY≠1\/a.name∉Iq\/a.name=s)
def Du(a:Item):Bool:=decide (a.AY≠1\/¬(a.name∈NF\/a.name∈Iq))
def HM(node:Int)(l:List Item):List Item:=if AM (BJ node) l<0 then l else EP DZ (BJ node) l
end
end
section
section
variable{h:Ag}{p v:Aa}{l:List Item}
def z_(l:List Item):∀r∈l.map Item.row,r.length=4:=Po (f:=Item.row) (λa=>Item.Di) l
def iA{n:Nat}(h:n<=2000000000):n*40<=AO:=by have:AO=140737488355328:=rfl;omega
def Bf{U:Type}(l:List U)(k:Nat):List U:=l.take k++l.drop (k+1)
def DR(node:Int)(l:List Item):List Item:=if AM (BJ node) l<1 then l else Bf l (AM (BJ node) l).toNat
def Hj(i:Int)(n:Nat):Nat:=min (max i 1).toNat n
def Nh(node:Int)(a:Item)(l:List Item):List Item:=if AM (BJ node) l<1 then l else l.set (AM (BJ node) l).toNat a
end
end
section
end
section
section
variable{h:Ag}{p v w:Aa}{l:List Item}{ws:List Aq}
end
end
section
def fT:List (Aq×Int×Aq):=[(aJA,4,aJU),(aJz,4,aJT),(aJK,4,aJ4),(aJL,4,aJ5),(aJM,4,aJ6),(aJB,4,aJF),(aJN,4,aJ7),(aJR,5,[108,97,110,103]),(aJP,5,aJ3),(aJG,6,aJG),(aJC,6,aJ2)]
def TG(x:Aq×Int×Aq):Aa×Aa:=(.str x.1,.agg [.int .i64 x.2.1,.str x.2.2,.str []])
def ft(n:Nat):List (Aa×Aa):=(fT.take n).map TG
def A_:MD aJA (.agg [.int .i64 4,.str aJU,.str []]) (ft 0)=some (ft 1):=by kernel_rfl
def B_:MD aJz (.agg [.int .i64 4,.str aJT,.str []]) (ft 1)=some (ft 2):=by kernel_rfl
def C_:MD aJK (.agg [.int .i64 4,.str aJ4,.str []]) (ft 2)=some (ft 3):=by kernel_rfl
def D_:MD aJL (.agg [.int .i64 4,.str aJ5,.str []]) (ft 3)=some (ft 4):=by kernel_rfl
def E_:MD aJM (.agg [.int .i64 4,.str aJ6,.str []]) (ft 4)=some (ft 5):=by kernel_rfl
def F_:MD aJB (.agg [.int .i64 4,.str aJF,.str []]) (ft 5)=some (ft 6):=by kernel_rfl
def G_:MD aJN (.agg [.int .i64 4,.str aJ7,.str []]) (ft 6)=some (ft 7):=by kernel_rfl
def H_:MD aJR (.agg [.int .i64 5,.str [108,97,110,103],.str []]) (ft 7)=some (ft 8):=by kernel_rfl
def I_:MD aJP (.agg [.int .i64 5,.str aJ3,.str []]) (ft 8)=some (ft 9):=by kernel_rfl
def J_:MD aJG (.agg [.int .i64 6,.str aJG,.str []]) (ft 9)=some (ft 10):=by kernel_rfl
def oe:MD aJC (.agg [.int .i64 6,.str aJ2,.str []]) (ft 10)=some (ft 11):=by kernel_rfl
def cT{h:Ag}{es:List (Aa×Aa)}{s:Aq}{v:Aa}:QP (h++[.map es]) (.map (some h.length)) (.str s) v=(MD s v es).map λes=>h++[.map es]:=by simp[QP]
def H9(n:Aq):Option (Int×Aq):=(fT.find? λx=>decide (n=x.1)).map (·.2)
def TH(n:Aq):∀l:List (Aq×Int×Aq),So n (l.map TG)=some ((l.find? λx=>decide (n=x.1)).map λx=>(TG x).2)
 |[]=>rfl
 |x::l=>by
  rw[AZ,Mq,TG,So];by_cases e:n=x.1;.rw[Ad e,Bs e];rfl
  .rw[Ac e,Bk e];exact TH n l
def Kk{h:Ag}{n:Aq}:QQ (h++[.map (ft 11)]) (.agg [.int .i64 0,.str [],.str []]) true (.map (some h.length)) (.str n)=
  some (match H9 n with|some (s,m)=> .tuple [.agg [.int .i64 s,.str m,.str []],.bool true]|none=> .tuple [.agg [.int .i64 0,.str [],.str []],.bool false]):=by
 have e:Sp (h++[.map (ft 11)]) (.map (some h.length)) (.str n)=So n (fT.map TG):=by simp[Sp,ft,fT]
 rw[QQ,e,TH,H9];cases fT.find? λx=>decide (n=x.1)<;>rfl
abbrev K_:Aq:=aJO
abbrev og:Aq:=aJQ
def KY(sp:Int)(n:Aq):Aq:=if sp=2 then C7 n LM else if sp=3/\n=K_ then og else n
def CX(sp:Int)(a:AS):AS:=
 if sp=2\/sp=3 then match H9 (KY sp a.name) with
  |some (s,m)=>⟨s,m,a.value⟩
  |none=>⟨0,KY sp a.name,a.value⟩
 else⟨0,a.name,a.value⟩
def Xl(s:Aq):(Fs s).length=s.length:=by simp[Fs]
def My(n:Aq):∀ws,C7 n ws=n\/(C7 n ws∈ws/\Fs (C7 n ws)=n)
 |[]=> .inl rfl
 |w::ws=>by
  rw[C7];split;.rename_i e;exact .inr ⟨List.mem_cons_self,e⟩
  .rcases My n ws with h|⟨h1,h2⟩
   .exact .inl h
   .exact .inr ⟨D9 _ h1,h2⟩
def Kl{a b c:Aa}:Ax (.Cd 3) [.agg [a,b,c]]=some (.sl 3 [[a,b,c]]):=rfl
def AS.Di{a:AS}:a.row.length=3:=rfl
def AS.Jj{a:AS}:a.row.take 3=a.row:=rfl
section
variable{v:Aa}{l:List AS}{h:Ag}
def sC{a b:AS}{neg:Bool}:Ax (.geq neg [.i,.s,.s]) [.agg a.row,.agg b.row]=some (.bool (decide (a=b) != neg)):=by
 rw[Tv];have:Dh [.i,.s,.s] a.row b.row=some (decide (a=b)):=by simp only[Dh,Ka,AS.row,BB,Bv];cases a;cases b;simp only[AS.mk.injEq];rw[oK];simp
 rw[this];rfl
end
end
section
structure Cp where
 node:Int
 name:Aq
 AB:List AS
deriving DecidableEq
structure CJ where
 c:Cp
 v:Aa
 ok:Cl c.AB v
def CJ.row(e:CJ):List Aa:=[.int .i64 e.c.node,.str e.c.name,e.v]
def Ef(l:List CJ)(v:Aa):Prop:=Bu 3 (l.map CJ.row) v
section
variable{e:CJ}{d:Aa}
def CJ.Di:e.row.length=3:=rfl
def CJ.g0:e.row.getD 0 d= .int .i64 e.c.node:=rfl
def CJ.g1:e.row.getD 1 d= .str e.c.name:=rfl
def CJ.g2:e.row.getD 2 d=e.v:=rfl
def CJ.zw:e.row[0]?=some (.int .i64 e.c.node):=rfl
def CJ.Jj:e.row.take 3=e.row:=rfl
def CJ.rZ:e.row.drop 1=[.str e.c.name,e.v]:=rfl
def CJ.RK:[Aa.int .i64 e.c.node,.str e.c.name,e.v]=e.row:=rfl
def CJ.aA8:Ax (.len false) [e.v]=some (.int .i64 (e.c.AB.length:Int)):=Bu.GF e.ok
end
def AS.g0{a:AS}{d:Aa}:a.row.getD 0 d= .int .i64 a.AY:=rfl
def AS.g1{a:AS}{d:Aa}:a.row.getD 1 d= .str a.name:=rfl
def AS.g2{a:AS}{d:Aa}:a.row.getD 2 d= .str a.value:=rfl
def AS.RK{a:AS}:[Aa.int .i64 a.AY,.str a.name,.str a.value]=a.row:=rfl
def VT{n:Nat}(h:n<=2000000000):n*48<=AO:=by have:AO=140737488355328:=rfl;omega
def Qr(e:CJ):Bool:=decide (e.c.node=0)
def Qs(n:Int)(e:CJ):Bool:=decide (e.c.node=n)
def since(l:List CJ):Int:=AM Qr l+1
def mU:since []=0:=rfl
def cU{l:List CJ}{e:CJ}:since (l++[e])=if e.c.node=0 then(l.length:Int)+1 else since l:=by unfold since;rw[JX];by_cases h:e.c.node=0<;>simp[Qr,h]
def cV{l:List CJ}{n:Nat}(hn:n<l.length):since (l.take (n+1))=if l[n].c.node=0 then(n:Int)+1 else since (l.take n):=by rw[AL hn,cU,Av,Cg (QM hn)]
def OC(l:List CJ):∃s:Nat,since l=(s:Int)/\s<=l.length/\(∀m (hm:m<l.length),s<=m->l[m].c.node≠0)/\(∀t,s=t+1->∃ht:t<l.length,l[t].c.node=0):=by
 rcases Ds (q:=Qr) (l:=l) with⟨h1,h2⟩|⟨n,hn,h1,h2,a⟩
 .refine⟨0,by unfold since;rw[h1];rfl,A8 _,λm hm _=>?_,λt ht=>by omega⟩;have:=h2 _ (AX hm);simpa[Qr] using this
 .refine⟨n+1,by unfold since;rw[h1];rfl,hn,λm hm DG=>?_,λt ht=>?_⟩;.have:=a m hm Ab;simpa[Qr] using this
  .obtain rfl:t=n:=by omega
   exact⟨hn,by simpa[Qr] using h2⟩
section
variable{h:Ag}{v:Aa}{l:List CJ}{id:Nat}
def iB(name:Aq):List CJ->Int
 |[]=> -1
 |e::t=>if e.c.node=0 then -1 else if e.c.name=name then(t.length:Int) else iB name t
def N8(name:Aq)(l:List CJ):Int:=iB name l.reverse
def cW{name:Aq}{n:Nat}(hn:n<l.length):N8 name (l.take (n+1))=if l[n].c.node=0 then -1 else if l[n].c.name=name then(n:Int) else N8 name (l.take n):=by rw[AL hn,N8,GG,Hv,F5,iB,Vd,Av,Cg (QM hn),N8]
def mV{name:Aq}:N8 name []= -1:=rfl
def IU(node:Int)(l:List CJ):Int:=if node=0 then -1 else AM (Qs node) l
end
section
variable{h:Ag}{v:Aa}{l:List AS}
def JA(a b:Cp):Bool:=decide (a.name=b.name/\a.AB.length=b.AB.length/\(∀x∈a.AB,x∈b.AB)/\∀x∈b.AB,x∈a.AB)
def oX(e:CJ):Prop:=e.c.AB.length<=1000000000
end
end
section
mutual
def Aa.Ps:∀a:Aa,Aa.beq a a=true
 | .bool a=>by simp[Aa.beq]
 | .int k a=>by simp[Aa.beq]
 | .str a=>by simp[Aa.beq]
 | .ptr a=>by simp[Aa.beq]
 | .Cb a=>by simp[Aa.beq,Aa.IV a]
 | .sl n a=>by simp[Aa.beq,Aa.TI a]
 | .EV _=>by simp[Aa.beq]
 | .slnil=>by simp[Aa.beq]
 | .CG a c d e=>by simp[Aa.beq]
 | .map a=>by simp[Aa.beq]
 | .func f a c=>by simp[Aa.beq,Aa.IV a,Aa.IV c]
 | .nilFunc=>by simp[Aa.beq]
 | .iface t a=>by simp[Aa.beq,Aa.Ps a]
 | .nilIface=>by simp[Aa.beq]
 | .agg a=>by simp[Aa.beq,Aa.IV a]
 | .tuple a=>by simp[Aa.beq,Aa.IV a]
def Aa.IV:∀a:List Aa,Aa.OS a a=true
 |[]=>by simp[Aa.OS]
 |a::x=>by simp[Aa.OS,Aa.Ps a,Aa.IV x]
def Aa.TI:∀a:List (List Aa),Aa.OT a a=true
 |[]=>by simp[Aa.OT]
 |a::x=>by simp[Aa.OT,Aa.IV a,Aa.TI x]
end
def Qt(h:Ag)(id o:Nat)(l:List CJ):Prop:=∃u,At h id o u/\Ef l u
def Ef.cells{l:List CJ}{v:Aa}(hv:Ef l v):v.cells=[v]:=Bu.cells hv
def Qt.lt{h:Ag}{id o:Nat}{l:List CJ}(hs:Qt h id o l):∃v,At h id o v:=let⟨u,hc,_⟩:=hs;⟨u,hc⟩
def Xm(l:List CJ):∀r∈l.map CJ.row,r.length=3:=Po (f:=CJ.row) (λa=>CJ.Di) l
section
variable{h:Ag}{v:Aa}{l:List CJ}{id:Nat}
def mW{r:List Aa}(h:r.length=3):Ax (.Cd 3) [.agg r]=some (.sl 3 [r]):=Pl (a:= .agg r) h Be
def Zb(n:Int)(l:List CJ):IU n l= -1\/∃k:Nat,k<l.length/\IU n l=(k:Int):=by
 unfold IU;split;.exact .inl rfl
 .rcases Ds (q:=Qs n) (l:=l) with⟨h1,_⟩|⟨k,hk,h1,_⟩
  .exact .inl h1
  .exact .inr ⟨k,hk,h1⟩
def Xn:CJ:=⟨⟨0,[],[]⟩,.slnil,.nil⟩
def sD:[I 0,S [],Aa.slnil]=Xn.row:=rfl
def Ft(i:Int)(n:Nat):Nat:=min (max i 0).toNat n
def Gl(l:List CJ):Nat:=(since l-1).toNat
end
end
section
def yL(e:Cp):List CJ->Nat
 |[]=>0
 |x::t=>if x.c.node=0 then 0 else yL e t+(if JA x.c e=true then 1 else 0)
def cX(e:Cp):List CJ->Int
 |[]=> -1
 |x::t=>if x.c.node=0 then -1 else if 0<=cX e t then cX e t else if JA x.c e=true then(t.length:Int) else -1
def UP(e:Cp)(l:List CJ):Nat:=yL e l.reverse
def OD(e:Cp)(l:List CJ):Int:=cX e l.reverse
section
variable{e:Cp}{l:List CJ}{n s:Nat}
def VU(hn:n<l.length):UP e (l.take (n+1))=if l[n].c.node=0 then 0 else UP e (l.take n)+(if JA l[n].c e=true then 1 else 0):=by rw[AL hn,UP,GG,Hv,F5,yL,UP]
def VV(hn:n<l.length):OD e (l.take (n+1))=if l[n].c.node=0 then -1 else if 0<=OD e (l.take n) then OD e (l.take n) else if JA l[n].c e=true then(n:Int) else -1:=by rw[AL hn,OD,GG,Hv,F5,cX,OD,Vd,Av,Cg (QM hn)]
def cY(hs:since l=(s:Int)):UP e (l.take s)=0/\OD e (l.take s)= -1:=by
 obtain⟨s',e,h1,h2,a⟩:=OC l;obtain rfl:s=s':=Ab;cases s with
 |zero=>exact⟨rfl,rfl⟩
 |succ t=>obtain⟨ht,h0⟩:=a t rfl;exact⟨by rw[VU ht,Ad h0],by rw[VV ht,Ad h0]⟩
end
def OE(e:Cp)(l:List CJ):List CJ:=if e.node≠0/\3<=UP e l then Bf l (OD e l).toNat else l
section
variable{h:Ag}{v:Aa}{l:List CJ}{id:Nat}
end
end
section
section
variable{h:Ag}{v:Aa}{l:List CJ}{id:Nat}
end
end
end Go.Am
end
section
namespace Go.Am
structure DB where
 kind:Int:=0
 ER:Int:=0
 AP:List Int:=[]
 CD:Int:=0
 AY:Int:=0
 name:Aq:=[]
 AB:List AS:=[]
 data:Aq:=[]
 L_:Aq:=[]
 sys:Aq:=[]
 CB:Bool:=false
 cont:Int:=0
 D0:Int:=0
deriving DecidableEq
structure Ar where
 n:List DB
 i:List Int
abbrev BC:Aq:=aJq
def Z9(x:DB):Prop:=x.kind=4/\x.AY=1/\x.name=BC
instance(x:DB):Decidable (Z9 x):=by unfold Z9;infer_instance
namespace Ar
def len(A:Ar):Int:=A.n.length
def has(A:Ar)(h:Int):Prop:=1<=h/\h<=A.n.length
instance(A:Ar)(h:Int):Decidable (A.has h):=by unfold has;infer_instance
def nd(A:Ar)(h:Int):DB:=if A.has h then A.n.getD (h.toNat-1) {} else{}
def inr(A:Ar)(h:Int):Int:=if A.has h then A.i.getD (h.toNat-1) 0 else 0
def set(A:Ar)(h:Int)(x:DB):Ar:={n:=if A.has h then A.n.set (h.toNat-1) x else A.n,i:=A.i}
def Lj(A:Ar)(h:Int)(x:Int):Ar:={n:=A.n,i:=if A.has h then A.i.set (h.toNat-1) x else A.i}
def add(A:Ar)(x:DB):Ar:={n:=A.n++[x],i:=A.i++[0]}
def up(A:Ar)(h:Int):Int:=if(A.nd h).ER≠0 then(A.nd h).ER else(A.nd h).D0
end Ar
section
variable{A:Ar}{h k:Int}{x y:DB}
def Km(a:¬A.has h):A.nd h={}:=by unfold Ar.nd;rw[Ac a]
def HF:(A.set h x).n.length=A.n.length:=by simp only[Ar.set];split<;>simp
def yM:(A.set h x).len=A.len:=by unfold Ar.len;rw[HF]
def HN:(A.set h x).has k↔A.has k:=by unfold Ar.has;rw[HF]
def GP:(A.set h x).nd k=if k=h/\A.has h then x else A.nd k:=by
 unfold Ar.nd;simp only[HN];by_cases hk:A.has k
 .rw[Ad hk,Ad hk];simp only[Ar.set];by_cases a:A.has h
  .rw[Ad a];have h1:=a;have h2:=hk;unfold Ar.has at h1 h2;by_cases e:k=h;.subst e;rw[Ad ⟨rfl,a⟩,AG,AA Ab];rfl
   .rw[Ac (by simp[e]),AG,Aj Ab,AG]
  .rw[Ac a,Ac (by simp[a])]
 .rw[Ac hk,Ac hk,Ac];rintro⟨rfl,h2⟩;exact hk h2
def Pu:(A.set h x).inr k=A.inr k:=by unfold Ar.inr;simp only[HN];rfl
def Mf:(A.add x).len=A.len+1:=by simp[Ar.len,Ar.add]
def Dj:(A.add x).has k↔A.has k\/k=A.len+1:=by simp[Ar.has,Ar.add,Ar.len];omega
def FV:(A.add x).nd k=if k=A.len+1 then x else A.nd k:=by
 unfold Ar.nd;simp only[Dj];by_cases e:k=A.len+1;.subst e;simp[Ar.add,Ar.len]
 .by_cases hk:A.has k;.rw[Ad (.inl hk),Ac e,Ad hk];unfold Ar.has at hk;simp only[Ar.add,AG];rw[Ai Ab]
  .rw[Ac (by simp[hk,e]),Ac e,Ac hk]
def Sc(hl:A.i.length=A.n.length):(A.add x).inr k=A.inr k:=by
 unfold Ar.inr;simp only[Dj];by_cases e:k=A.len+1
 .subst e;have:¬A.has (A.len+1):=by unfold Ar.has Ar.len;omega
  rw[Ad (.inr rfl),Ac this];simp[Ar.add,Ar.len,<-hl]
 .by_cases hk:A.has k;.rw[Ad (.inl hk),Ad hk];unfold Ar.has at hk;simp only[Ar.add,AG];rw[Ai Ab]
  .rw[Ac (by simp[hk,e]),Ac hk]
def Zc:(A.Lj h k).len=A.len:=rfl
def Pv{m:Int}:(A.Lj h m).has k↔A.has k:=Iff.rfl
def iC{m:Int}:(A.Lj h m).nd k=A.nd k:=by rfl
def TJ{m:Int}(hl:A.i.length=A.n.length):(A.Lj h m).inr k=if k=h/\A.has h then m else A.inr k:=by
 unfold Ar.inr;simp only[Pv];by_cases hk:A.has k
 .rw[Ad hk,Ad hk];simp only[Ar.Lj];by_cases a:A.has h
  .rw[Ad a];have h1:=a;have h2:=hk;unfold Ar.has at h1 h2;by_cases e:k=h;.subst e;rw[Ad ⟨rfl,a⟩,AG,AA Ab];rfl
   .rw[Ac (by simp[e]),AG,Aj Ab,AG]
  .rw[Ac a,Ac (by simp[a])]
 .rw[Ac hk,Ac hk,Ac];rintro⟨rfl,h2⟩;exact hk h2
end
def Ew(a:AS):Int×Aq:=(a.AY,a.name)
def FW(out:List AS):List AS->List AS
 |[]=>out
 |x::l=>if out.any (λy=>decide (Ew x=Ew y)) then FW out l else FW (out++[x]) l
def CI(l:List AS):List AS:=FW [] l
def OF:∀{l out:List AS},(out.map Ew).Nodup->((FW out l).map Ew).Nodup
 |[],_,h=>h
 |x::l,out,h=>by
  rw[FW];split;.exact OF h
  .rename_i hn;refine OF ?_;rw[B3,Bx];refine⟨h,Au,?_⟩;rintro a ha b hb rfl;simp at hb;subst hb;simp at ha hn;obtain⟨y,hy,e⟩:=ha;exact hn y hy e.symm
def Zd:∀{l out:List AS},((out++l).map Ew).Nodup->FW out l=out++l
 |[],out,_=>by simp[FW]
 |x::l,out,h=>by
  rw[FW,Ac,Zd (by simpa using h)];.simp
  .intro ha;rw[B3,Bx] at h;simp at ha;obtain⟨y,hy,e⟩:=ha;exact h.2.2 _ (AR.2 ⟨y,hy,e.symm⟩) _ Au rfl
def mX(l:List AS):((CI l).map Ew).Nodup:=OF Au
def yN{l:List AS}(h:(l.map Ew).Nodup):CI l=l:=by have:=Zd (out:=[]) (l:=l) (by simpa using h);simpa[CI] using this
def VW(l:List AS):CI (CI l)=CI l:=yN (mX l)
def Qu:∀{l out:List AS} {a:AS},a∈FW out l->a∈out\/a∈l
 |[],_,_,h=> .inl h
 |x::l,out,a,h=>by
  rw[FW] at h;split at h
  .rcases Qu h with h|h
   .exact .inl h
   .exact .inr (by simp[h])
  .rcases Qu h with h|h
   .simp at h;rcases h with h|rfl
    .exact .inl h
    .exact .inr Au
   .exact .inr (by simp[h])
def Ze{l:List AS}{a:AS}(h:a∈CI l):a∈l:=by simpa using Qu h
def TK:∀{l out:List AS},(FW out l).length<=out.length+l.length
 |[],out=>by simp[FW]
 |x::l,out=>by
  rw[FW];split;.have:=TK (l:=l) (out:=out);simp;omega
  .have:=TK (l:=l) (out:=out++[x]);simp at this⊢;omega
def Pw{l:List AS}:(CI l).length<=l.length:=by have:=TK (l:=l) (out:=[]);simpa[CI] using this
structure oY(x:DB):Prop where
 k:1<=x.kind/\x.kind<=6
 AP:x.AP≠[]->x.kind=1\/x.kind=2\/x.kind=4
 elem:x.kind≠4->x.AY=0/\x.AB=[]
 nm:x.kind≠4->x.kind≠3->x.name=[]
 dt:x.kind≠3->x.L_=[]/\x.sys=[]
 data:x.kind≠5->x.kind≠6->x.data=[]
 CB:x.kind≠1->x.CB=false
 sp:0<=x.AY/\x.AY<=7
 yO:∀a∈x.AB,0<=a.AY/\a.AY<=7
 CI:CI x.AB=x.AB
 TL:x.cont≠0->Z9 x
 Ni:x.D0≠0->x.kind=2
 root:x.ER≠0->x.kind≠1/\x.kind≠2
 mY:x.AP.Nodup
structure C8(A:Ar)(e:Int):Prop where
 il:A.i.length=A.n.length
 Qv:∀h,A.has h->oY (A.nd h)
 CD:∀h,A.has h->A.has (A.nd h).CD/\(A.nd (A.nd h).CD).kind=1
 Xo:∀h,A.has h->(A.nd h).kind=1->(A.nd h).CD=h
 ER:∀h,A.has h->(A.nd h).ER≠0->A.has (A.nd h).ER/\h∈(A.nd (A.nd h).ER).AP
 KU:∀h,A.has h->∀k∈(A.nd h).AP,A.has k/\(A.nd k).ER=h
 gi:∀h,A.has h->h≠e->Z9 (A.nd h)->(A.nd h).cont≠0
 cont:∀h,A.has h->(A.nd h).cont≠0->A.has (A.nd h).cont/\(A.nd (A.nd h).cont).kind=2/\(A.nd (A.nd h).cont).D0=h
 D0:∀h,A.has h->(A.nd h).D0≠0->A.has (A.nd h).D0/\(A.nd (A.nd h).D0).cont=h
 oh:∀h,A.has h->A.inr h≠0->A.has (A.inr h)/\(A.nd (A.inr h)).kind=1
 UQ:∃r:Int->Nat,∀h,A.has h->A.up h≠0->r (A.up h)<r h
section
variable{A:Ar}{e h k:Int}{x y:DB}
def OG:¬A.has (A.len+1):=by unfold Ar.has Ar.len;omega
def TM(a:¬A.has h):A.up h=0:=by unfold Ar.up;rw[Km a];simp
def cZ(ok:C8 A e)(a:A.has h)(hu:A.up h≠0):A.has (A.up h):=by
 unfold Ar.up at hu⊢;split;.rename_i h1;exact(ok.ER h a h1).1
 .rename_i h1;rw[Ac h1] at hu;exact(ok.D0 h a hu).1
def TN(ok:C8 A e)(hx:oY x)(hd:(x.kind=1/\x.CD=A.len+1)\/(x.kind≠1/\A.has x.CD/\(A.nd x.CD).kind=1))(hp:x.ER=0)(hk:x.AP=[])(hc:x.cont=0)(a:x.D0=0)(b:Z9 x->e=A.len+1):C8 (A.add x) e:=by
 have no:=OG (A:=A);obtain⟨r,hr⟩:=ok.UQ;have ne:∀{k},A.has k->k≠A.len+1:=λhk e=>no (e▸hk);refine⟨by simp[Ar.add,ok.il],?_,?_,?_,?_,?_,?_,?_,?_,?_,r,?_⟩<;>intro m hm<;>rw[Dj] at hm<;>(try rw[Sc ok.il])<;>simp only[Ar.up,FV,Dj]<;>rcases hm with hm|rfl
 all_goals first|(rw[Ac (ne hm)])|(rw[Ad rfl])|skip
 .exact ok.Qv m hm
 .exact hx
 .have:=ok.CD m hm;rw[Ac (ne this.1)];exact⟨.inl this.1,this.2⟩
 .rcases hd with⟨h1,h2⟩|⟨h1,h2,c⟩
  .rw[Ad h2];exact⟨.inr h2,h1⟩
  .rw[Ac (ne h2)];exact⟨.inl h2,c⟩
 .exact ok.Xo m hm
 .intro h1;rcases hd with⟨_,h2⟩|⟨h2,_⟩
  .exact h2
  .exact absurd h1 h2
 .intro h1;have:=ok.ER m hm h1;rw[Ac (ne this.1)];exact⟨.inl this.1,this.2⟩
 .intro h1;exact absurd hp h1
 .intro q hq;have:=ok.KU m hm q hq;rw[Ac (ne this.1)];exact⟨.inl this.1,this.2⟩
 .intro q hq;rw[hk] at hq;cases hq
 .exact ok.gi m hm
 .intro h1 h2;exact absurd (b h2).symm h1
 .intro h1;have:=ok.cont m hm h1;rw[Ac (ne this.1)];exact⟨.inl this.1,this.2⟩
 .intro h1;exact absurd hc h1
 .intro h1;have:=ok.D0 m hm h1;rw[Ac (ne this.1)];exact⟨.inl this.1,this.2⟩
 .intro h1;exact absurd a h1
 .intro h1;have:=ok.oh m hm h1;rw[Ac (ne this.1)];exact⟨.inl this.1,this.2⟩
 .intro h1;exfalso;apply h1;unfold Ar.inr;rw[Ac no]
 .have:=hr m hm;unfold Ar.up at this;exact this
 .rw[hp,a];simp
inductive Reach(A:Ar)(t:Int):Int->Prop
 |refl:Reach A t t
 |step {h:Int}:A.up h≠0->Reach A t (A.up h)->Reach A t h
def JM(l:List Int)(b n:Int):List Int:=if b=0 then l++[n] else l.takeWhile (λk=>decide (k≠b))++n::l.dropWhile (λk=>decide (k≠b))
def Ar.cut(A:Ar)(n:Int):Ar:=
 let q:=(A.nd n).ER
 if q=0 then A else
  let a:=A.set q {A.nd q with AP:=(A.nd q).AP.filter λk=>decide (k≠n)}
  a.set n {a.nd n with ER:=0}
def Ar.Mr(A:Ar)(p n b:Int):Ar:=
 let a:=A.set p {A.nd p with AP:=JM (A.nd p).AP b n}
 a.set n {a.nd n with ER:=p}
def Mz(k:Int):Prop:=k=1\/k=2\/k=4
instance(k:Int):Decidable (Mz k):=by unfold Mz;infer_instance
structure oj(A:Ar)(p n b:Int):Prop where
 hp:A.has p
 hn:A.has n
 hb:b≠0->A.has b/\b≠n/\(A.nd b).ER=p
 kp:Mz (A.nd p).kind
 kn:(A.nd n).kind≠1/\(A.nd n).kind≠2
 re:¬Reach A n p
open Classical in
def Ar.Hs(A:Ar)(p n b:Int):Ar:=if oj A p n b then(A.cut n).Mr p n b else A
def Qw{l:List Int}{b n k:Int}:k∈JM l b n↔k=n\/k∈l:=by
 unfold JM;split;.simp;exact Or.comm
 .have e:=KL (p:=λk=>decide (k≠b)) (l:=l);constructor
  .intro h;rw[Al,Az] at h;rcases h with h|h|h
   .exact .inr (by rw[<-e];simp only[Al];exact .inl h)
   .exact .inl h
   .exact .inr (by rw[<-e];simp only[Al];exact .inr h)
  .intro h;rw[Al,Az];rcases h with h|h
   .exact .inr (.inl h)
   .rw[<-e,Al] at h;rcases h with h|h
    .exact .inl h
    .exact .inr (.inr h)
def Zf{l:List Int}{b n:Int}(h:l.Nodup)(hn:n∉l):(JM l b n).Nodup:=by
 unfold JM;split;.rw[Bx];refine⟨h,Au,?_⟩;rintro a ha c hc rfl;simp at hc;subst hc;exact hn ha
 .have e:=KL (p:=λk=>decide (k≠b)) (l:=l);generalize List.takeWhile _ l=u at e⊢;generalize List.dropWhile _ l=w at e⊢;subst e;rw[Bx] at h⊢;simp at hn;refine⟨h.1,by simp[h.2.1,hn.2],?_⟩;rintro a ha c hc rfl;simp at hc;rcases hc with rfl|hc
  .exact hn.1 ha
  .exact h.2.2 _ ha _ hc rfl
def Zg:(A.cut h).n.length=A.n.length:=by unfold Ar.cut;simp only;split<;>simp[HF]
def Mg:(A.cut h).has k↔A.has k:=by unfold Ar.has;rw[Zg]
def Zh{p n b:Int}:(A.Mr p n b).n.length=A.n.length:=by unfold Ar.Mr;simp[HF]
def Sd{p n b:Int}:(A.Mr p n b).has k↔A.has k:=by unfold Ar.has;rw[Zh]
def yP:(A.cut h).inr k=A.inr k:=by unfold Ar.cut;simp only;split<;>simp[Pu]
def yQ{p n b:Int}:(A.Mr p n b).inr k=A.inr k:=by unfold Ar.Mr;simp[Pu]
def gj(ok:C8 A e)(a:A.has h)(hu:A.up h≠0):A.up h≠h:=by obtain⟨r,hr⟩:=ok.UQ;intro e;have:=hr h a hu;rw[e] at this;exact CL _ this
def dA(ok:C8 A e)(a:A.has h)(hu:(A.nd h).ER≠0):(A.nd h).ER≠h:=by
 have:A.up h=(A.nd h).ER:=by unfold Ar.up;rw[Ad hu]
 have h2:=gj ok a (by rw[this];exact hu);rwa [this] at h2
def TO(ok:C8 A e)(a:A.has h):(A.cut h).nd k=if k=h then{A.nd h with ER:=0} else if(A.nd h).ER≠0/\k=(A.nd h).ER then{A.nd k with AP:=(A.nd k).AP.filter λm=>decide (m≠h)} else A.nd k:=by
 unfold Ar.cut;simp only
 by_cases hp:(A.nd h).ER=0
 .rw[Ad hp];by_cases e:k=h;.subst e;rw[Ad rfl];have:A.nd k={A.nd k with ER:=(A.nd k).ER}:=rfl;rw[hp] at this;exact this
  .rw[Ac e,Ac (by simp[hp])]
 .have hn:=dA ok a hp;have hq:=(ok.ER h a hp).1;rw[Ac hp];simp only[GP,HN,a,hq,KB];by_cases e:k=h;.subst e;simp[Dv hn]
  .simp[e,hp];split;.rename_i e;simp[e]
   .rfl
def Zi{x:DB}(hx:oY x){l:List Int}(h1:l.Nodup)(h2:l≠[]->Mz x.kind):oY {x with AP:=l}:=
 {k:=hx.k,AP:=h2,elem:=hx.elem,nm:=hx.nm,dt:=hx.dt,data:=hx.data,CB:=hx.CB,sp:=hx.sp,yO:=hx.yO,CI:=hx.CI,TL:=hx.TL,Ni:=hx.Ni,root:=hx.root,mY:=h1}
def iD{x:DB}(hx:oY x){p:Int}(h2:p≠0->x.kind≠1/\x.kind≠2):oY {x with ER:=p}:=
 {k:=hx.k,AP:=hx.AP,elem:=hx.elem,nm:=hx.nm,dt:=hx.dt,data:=hx.data,CB:=hx.CB,sp:=hx.sp,yO:=hx.yO,CI:=hx.CI,TL:=hx.TL,Ni:=hx.Ni,root:=h2,mY:=hx.mY}
def om(ok:A.i.length=A.n.length):(A.cut h).i.length=(A.cut h).n.length:=by rw[Zg];unfold Ar.cut;simp only;split<;>exact ok
def oo{p n b:Int}(ok:A.i.length=A.n.length):(A.Mr p n b).i.length=(A.Mr p n b).n.length:=by rw[Zh];exact ok
def yR(ok:C8 A e)(a:A.has h)(hk:k∈(A.nd h).AP):k≠h/\(A.nd k).ER=h/\A.has k:=by have:=ok.KU h a k hk;refine⟨?_,this.2,this.1⟩;rintro rfl;have h0:=this.1.1;exact dA ok a (by rw[this.2];omega) this.2
def sE(ok:C8 A e)(a:A.has h):(A.cut h).up k=if k=h then(A.nd h).D0 else A.up k:=by
 unfold Ar.up;rw[TO ok a];by_cases e:k=h;.simp[e]
 .simp only[e,EH];split<;>rfl
def sF(ok:C8 A e)(b:A.has h)(RJ:(A.nd h).kind≠2):C8 (A.cut h) e:=by
 obtain⟨r,hr⟩:=ok.UQ;have a:=λm=>TO (k:=m) ok b;have kd:∀m,((A.cut h).nd m).kind=(A.nd m).kind:=λm=>by rw[a];grind
 have i:∀m,((A.cut h).nd m).CD=(A.nd m).CD:=λm=>by rw[a];grind
 have j:∀m,((A.cut h).nd m).cont=(A.nd m).cont:=λm=>by rw[a];grind
 have ho:∀m,((A.cut h).nd m).D0=(A.nd m).D0:=λm=>by rw[a];grind
 have Ŗ:(A.nd h).D0=0:=by
  by_cases h0:(A.nd h).D0=0;.exact h0
  .exact absurd ((ok.Qv h b).Ni h0) RJ
 refine⟨om ok.il,?_,?_,?_,?_,?_,?_,?_,?_,?_,r,?_⟩<;>intro m hm<;>rw[Mg] at hm<;>(try simp only[kd,i,j,ho,Mg,yP])
 .rw[a];split;.exact iD (ok.Qv h b) Au
  .split;.exact Zi (ok.Qv m hm) ((ok.Qv m hm).mY.filter _) λh1=>(ok.Qv m hm).AP (by intro h2;rw[h2] at h1;simp at h1)
   .exact ok.Qv m hm
 .exact ok.CD m hm
 .exact ok.Xo m hm
 .intro h1;have e1:m≠h:=by rintro rfl;rw[a] at h1;simp at h1
  have g:((A.cut h).nd m).ER=(A.nd m).ER:=by rw[a,Ac e1];split<;>rfl
  rw[g] at h1⊢;have h2:=ok.ER m hm h1;refine⟨h2.1,?_⟩;rw[a];split;.rename_i f;rw[<-f];exact h2.2
  .split;.simp only[CH,Df];exact⟨h2.2,e1⟩
   .exact h2.2
 .intro q hq;have h1:q∈(A.nd m).AP/\(m=(A.nd h).ER->q≠h):=by
   rw[a] at hq;split at hq;.rename_i e1;subst e1;have:=yR ok hm hq;exact⟨hq,λ_=>this.1⟩
   .split at hq;.simp only[CH,Df] at hq;exact⟨hq.1,λ_=>hq.2⟩
    .rename_i d;refine⟨hq,λc l=>d ⟨?_,c⟩⟩;rw[<-c];have:=hm.1;omega
  have h2:=ok.KU m hm q h1.1;refine⟨h2.1,?_⟩;have e1:q≠h:=by rintro rfl;exact h1.2 h2.2.symm rfl
  rw[a,Ac e1,<-h2.2];split<;>rfl
 .intro h1 h2;refine ok.gi m hm h1 ?_;rw[a] at h2;unfold Z9 at h2⊢;grind
 .exact ok.cont m hm
 .exact ok.D0 m hm
 .exact ok.oh m hm
 .rw[sE ok b];split;.rw[Ŗ];simp
  .exact hr m hm
def dB{p n b:Int}(hp:A.has p)(hn:A.has n)(hne:n≠p):(A.Mr p n b).nd k=if k=n then{A.nd n with ER:=p} else if k=p then{A.nd p with AP:=JM (A.nd p).AP b n} else A.nd k:=by
 unfold Ar.Mr;simp only[GP,HN,hp,hn,KB];by_cases e:k=n;.subst e;simp[hne]
 .simp[e]
def mZ{p n b:Int}(hp:A.has p)(hn:A.has n)(hne:n≠p)(h0:(A.nd n).ER=0)(Ŗ:(A.nd n).D0=0)(hr:¬Reach A n p):∀{m},¬Reach A n m->(A.Mr p n b).up m=A.up m:=by
 intro m hm;have e:m≠n:=by rintro rfl;exact hm .refl
 unfold Ar.up;rw[dB hp hn hne,Ac e];split;.rename_i e;subst e;rfl
 .rfl
open Classical in
def oq(ok:C8 A e){p n b:Int}(hp:A.has p)(hn:A.has n)(kp:Mz (A.nd p).kind)(kn:(A.nd n).kind≠1/\(A.nd n).kind≠2)(re:¬Reach A n p)(h0:(A.nd n).ER=0):C8 (A.Mr p n b) e:=by
 obtain⟨r,hr⟩:=ok.UQ;have hne:n≠p:=by rintro rfl;exact re .refl
 have a:=λm=>dB (k:=m) (b:=b) hp hn hne;have kd:∀m,((A.Mr p n b).nd m).kind=(A.nd m).kind:=λm=>by rw[a];grind
 have g:∀m,((A.Mr p n b).nd m).CD=(A.nd m).CD:=λm=>by rw[a];grind
 have i:∀m,((A.Mr p n b).nd m).cont=(A.nd m).cont:=λm=>by rw[a];grind
 have ho:∀m,((A.Mr p n b).nd m).D0=(A.nd m).D0:=λm=>by rw[a];grind
 have Ŗ:(A.nd n).D0=0:=by
  by_cases h0:(A.nd n).D0=0;.exact h0
  .exact absurd ((ok.Qv n hn).Ni h0) kn.2
 have d:∀m,A.has m->n∉(A.nd m).AP:=by intro m hm h1;have:=ok.KU m hm n h1;rw[h0] at this;have:=hm.1;omega
 refine⟨oo ok.il,?_,?_,?_,?_,?_,?_,?_,?_,?_,λm=>if Reach A n m then r m+r p+1 else r m,?_⟩<;>intro m hm<;>rw[Sd] at hm<;>(try simp only[kd,g,i,ho,Sd,yQ])
 .rw[a];split;.exact iD (ok.Qv n hn) λ_=>kn
  .split;.exact Zi (ok.Qv p hp) (Zf (ok.Qv p hp).mY (d p hp)) λ_=>kp
   .exact ok.Qv m hm
 .exact ok.CD m hm
 .exact ok.Xo m hm
 .intro h1;by_cases e1:m=n
  .subst e1;rw[a,Ad rfl];refine⟨hp,?_⟩;simp only
   rw[a,Ac (Dv hne),Ad rfl];exact Qw.2 (.inl rfl)
  .have c:((A.Mr p n b).nd m).ER=(A.nd m).ER:=by rw[a,Ac e1];split;rename_i e;rw[e];rfl
   rw[c] at h1⊢;have h2:=ok.ER m hm h1;refine⟨h2.1,?_⟩;rw[a];split;.rename_i f;rw[<-f];exact h2.2
   .split;.rename_i f;rw[<-f];exact Qw.2 (.inr h2.2)
    .exact h2.2
 .intro q hq;by_cases e1:q=n
  .subst e1;refine⟨hn,?_⟩;rw[a,Ad rfl];rw[a] at hq;split at hq;.exact absurd hq (d q hn)
   .split at hq;.rename_i e;exact e.symm
    .exact absurd hq (d m hm)
  .have h1:q∈(A.nd m).AP:=by
    rw[a] at hq;split at hq;.rename_i e;rw[e];exact hq
    .split at hq;.rename_i e;rw[e];exact(Qw.1 hq).resolve_left e1
     .exact hq
   have h2:=ok.KU m hm q h1;refine⟨h2.1,?_⟩;rw[a,Ac e1,<-h2.2];split;.rename_i e;rw[e]
   .rfl
 .intro h1 h2;refine ok.gi m hm h1 ?_;rw[a] at h2;unfold Z9 at h2⊢;grind
 .exact ok.cont m hm
 .exact ok.D0 m hm
 .exact ok.oh m hm
 .intro hu;by_cases hR:Reach A n m
  .by_cases e1:m=n
   .subst e1;have c:(A.Mr p m b).up m=p:=by unfold Ar.up;rw[a,Ad rfl];simp only;rw[Ad];have:=hp.1;omega
    rw[c,Ac re,Ad hR];omega
   .have c:(A.Mr p n b).up m=A.up m:=by
     unfold Ar.up;rw[a,Ac e1];split;.rename_i e;rw[e]
     .rfl
    rw[c] at hu⊢;have hR2:Reach A n (A.up m):=by
     cases hR with
     |refl=>exact absurd rfl e1
     |step _ hx=>exact hx
    rw[Ad hR2,Ad hR];have:=hr m hm hu;omega
  .have c:=mZ (b:=b) hp hn hne h0 Ŗ re hR;rw[c] at hu⊢;have hR2:¬Reach A n (A.up m):=λh=>hR (.step hu h);rw[Ac hR2,Ac hR];exact hr m hm hu
def m0(ok:C8 A e)(a:A.has h){m:Int}(hr:¬Reach A h m):¬Reach (A.cut h) h m:=by
 intro JT;have key:∀m,Reach (A.cut h) h m->Reach A h m:=by
  intro m hm;induction hm with
  |refl=>exact .refl
  |@step q h1 _ ih=>
   by_cases e1:q=h;.rw[e1];exact .refl
   .rw[sE ok a,Ac e1] at h1 ih;exact .step h1 ih
 exact hr (key m JT)
def Px(ok:C8 A e){p n b:Int}:C8 (A.Hs p n b) e:=by
 unfold Ar.Hs;split
 .rename_i f;have a:=sF ok f.hn f.kn.2;have kd:∀m,((A.cut n).nd m).kind=(A.nd m).kind:=λm=>by rw[TO ok f.hn];grind
  refine oq a (Mg.2 f.hp) (Mg.2 f.hn) ?_ ?_ (m0 ok f.hn f.re) ?_;.rw[kd];exact f.kp
  .rw[kd];exact f.kn
  .rw[TO ok f.hn,Ad rfl]
 .exact ok
def sG(ok:C8 A e)(d:A.has h)(hx:oY x)(h1:x.kind=(A.nd h).kind)(h2:x.ER=(A.nd h).ER)(l:x.AP=(A.nd h).AP)(c:A.has x.CD/\(A.nd x.CD).kind=1/\(x.kind=1->x.CD=h))(j:x.cont=(A.nd h).cont)(i:x.D0=(A.nd h).D0)(f:Z9 x->Z9 (A.nd h)):C8 (A.set h x) e:=by
 obtain⟨r,hr⟩:=ok.UQ;have a:∀m,(A.set h x).nd m=if m=h then x else A.nd m:=λm=>by rw[GP];simp[d]
 have kd:∀m,((A.set h x).nd m).kind=(A.nd m).kind:=λm=>by rw[a];grind
 have pr:∀m,((A.set h x).nd m).ER=(A.nd m).ER:=λm=>by rw[a];grind
 have ks:∀m,((A.set h x).nd m).AP=(A.nd m).AP:=λm=>by rw[a];grind
 have g:∀m,((A.set h x).nd m).cont=(A.nd m).cont:=λm=>by rw[a];grind
 have ho:∀m,((A.set h x).nd m).D0=(A.nd m).D0:=λm=>by rw[a];grind
 have u:∀m,(A.set h x).up m=A.up m:=λm=>by unfold Ar.up;rw[pr,ho]
 refine⟨by rw[HF];exact ok.il,?_,?_,?_,?_,?_,?_,?_,?_,?_,r,?_⟩<;>intro m hm<;>rw[HN] at hm<;>(try simp only[kd,pr,ks,g,ho,u,HN,Pu])
 .rw[a];split;.exact hx
  .exact ok.Qv m hm
 .rw[a];split;.exact⟨c.1,c.2.1⟩
  .exact ok.CD m hm
 .rw[a];split;.rename_i e;intro h8;rw[e,c.2.2 (by rw[h1,<-e];exact h8)]
  .exact ok.Xo m hm
 .exact ok.ER m hm
 .exact ok.KU m hm
 .intro h8 b;refine ok.gi m hm h8 ?_;rw[a] at b;split at b;.rename_i e;rw[e];exact f b
  .exact b
 .exact ok.cont m hm
 .exact ok.D0 m hm
 .exact ok.oh m hm
 .exact hr m hm
def Ar.Gy(A:Ar)(d:Int):Int:=if A.inr d≠0 then A.inr d else A.len+1
def Ar.DS(A:Ar)(d:Int):Ar:=if A.inr d≠0 then A else((A.add {kind:=1,CD:=A.len+1}).Lj d (A.len+1)).Lj (A.len+1) (A.len+1)
def yS:oY {kind:=1,CD:=k}:=by constructor<;>simp[CI,FW]
def iE(ok:C8 A e)(hk:A.has k/\(A.nd k).kind=1):C8 (A.Lj h k) e:=by
 refine⟨?_,ok.Qv,ok.CD,ok.Xo,ok.ER,ok.KU,ok.gi,ok.cont,ok.D0,?_,ok.UQ⟩;.simp only[Ar.Lj];split<;>simp[ok.il]
 .intro m hm h1;rw[Pv] at hm;rw[TJ ok.il] at h1⊢;split at h1;.rename_i h2;rw[Ad h2];exact hk
  .rename_i h2;rw[Ac h2];exact ok.oh m hm h1
def sH(ok:C8 A e)(b:A.has h)(he:e≠A.len+1):C8 (A.DS h) e/\(A.DS h).has (A.Gy h)/\((A.DS h).nd (A.Gy h)).kind=1:=by
 unfold Ar.DS Ar.Gy;split;.rename_i h1;exact⟨ok,ok.oh h b h1⟩
 .have a:=TN ok (x:={kind:=1,CD:=A.len+1}) yS (.inl ⟨rfl,rfl⟩) rfl rfl rfl rfl (by simp[Z9]);have h2:(A.add {kind:=1,CD:=A.len+1}).has (A.len+1)/\((A.add {kind:=1,CD:=A.len+1}).nd (A.len+1)).kind=1:=by rw[Dj,FV,Ad rfl];exact⟨.inr rfl,rfl⟩
  exact⟨iE (iE a h2) h2,h2⟩
def TP(hk:k≠A.len+1\/A.inr h≠0):(A.DS h).nd k=A.nd k:=by
 unfold Ar.DS;split;.rfl
 .rename_i h1;rw[iC,iC,FV,Ac (hk.resolve_right h1)]
def m6:(A.DS h).len=if A.inr h≠0 then A.len else A.len+1:=by
 unfold Ar.DS;split;.rfl
 .rw[Zc,Zc,Mf]
def LN:A.has k->(A.DS h).has k:=by
 unfold Ar.DS;split;.exact id
 .intro hk;rw[Pv,Pv,Dj];exact .inl hk
def yT{d:Int}(ok:C8 A e)(he:A.has e)(l:Z9 (A.nd e))(hc:(A.nd e).cont=0)(hd:A.has d/\(A.nd d).kind=1):C8 ((A.add {kind:=2,D0:=e,CD:=d}).set e {A.nd e with cont:=A.len+1}) 0:=by
 have no:=OG (A:=A);obtain⟨r,hr⟩:=ok.UQ;have ne:∀{k},A.has k->k≠A.len+1:=λhk e=>no (e▸hk);have l0:A.len+1≠0:=by have:=he.1;have:=he.2;unfold Ar.len;omega
 have a:∀m,(((A.add {kind:=2,D0:=e,CD:=d}).set e {A.nd e with cont:=A.len+1}).nd m)=if m=e then{A.nd e with cont:=A.len+1} else if m=A.len+1 then{kind:=2,D0:=e,CD:=d} else A.nd m:=λm=>by rw[GP,FV];simp[he,Dj]
 have hk:(A.nd e).kind=4:=l.1;have h0:(A.nd e).D0=0:=by
  by_cases h0:(A.nd e).D0=0;.exact h0
  .have:=(ok.Qv e he).Ni h0;omega
 have e0:e≠0:=by have:=he.1;omega
 have g:oY {kind:=2,D0:=e,CD:=d}:=by constructor<;>simp[CI,FW]
 have Qv:=ok.Qv;have b:=Qv e he;have hne:oY {A.nd e with cont:=A.len+1}:={k:=b.k,AP:=b.AP,elem:=b.elem,nm:=b.nm,dt:=b.dt,data:=b.data,CB:=b.CB,sp:=b.sp,yO:=b.yO,CI:=b.CI,TL:=λ_=>l,Ni:=b.Ni,root:=b.root,mY:=b.mY};have hs:∀m,((A.add {kind:=2,D0:=e,CD:=d}).set e {A.nd e with cont:=A.len+1}).has m↔A.has m\/m=A.len+1:=λm=>by rw[HN,Dj]
 have hi:∀m,((A.add {kind:=2,D0:=e,CD:=d}).set e {A.nd e with cont:=A.len+1}).inr m=A.inr m:=λm=>by rw[Pu,Sc ok.il]
 have f:e≠A.len+1:=ne he;refine⟨by rw[HF];simp[Ar.add,Ar.set,ok.il],?_,?_,?_,?_,?_,?_,?_,?_,?_,λm=>if m=A.len+1 then r e+1 else r m,?_⟩<;>intro m hm<;>rw[hs] at hm<;>(try simp only[hs,hi])
 .rw[a];split;.exact hne
  .split;.exact g
   .rename_i h1 h2;exact Qv m (hm.resolve_right h2)
 .have key:∀q,A.has q/\(A.nd q).kind=1->(A.has q\/q=A.len+1)/\(((A.add {kind:=2,D0:=e,CD:=d}).set e {A.nd e with cont:=A.len+1}).nd q).kind=1:=by
   intro q hq;refine⟨.inl hq.1,?_⟩;rw[a,Ac (ne hq.1)];split;.rename_i e1;rw[e1] at hq;exact hq.2
   .exact hq.2
  rw[a m];split;.exact key _ (ok.CD e he)
  .split;.exact key _ hd
   .rename_i h1 h2;exact key _ (ok.CD m (hm.resolve_right h2))
 .rw[a m];split;.rename_i e1;intro h1;rw[e1];exact ok.Xo e he h1
  .split;.intro h1;simp at h1
   .rename_i h1 h2;exact ok.Xo m (hm.resolve_right h2)
 .have key:∀q,A.has q->(A.nd q).ER≠0->(A.has (A.nd q).ER\/(A.nd q).ER=A.len+1)/\q∈(((A.add {kind:=2,D0:=e,CD:=d}).set e {A.nd e with cont:=A.len+1}).nd (A.nd q).ER).AP:=by
   intro q hq hp;have h1:=ok.ER q hq hp;refine⟨.inl h1.1,?_⟩;rw[a,Ac (ne h1.1)];split;.rename_i e1;rw[e1] at h1;exact h1.2
   .exact h1.2
  rw[a m];split;.rename_i e1;rw[e1];exact key e he
  .split;.intro h1;simp at h1
   .rename_i h1 h2;exact key m (hm.resolve_right h2)
 .have key:∀q,A.has q->∀k∈(A.nd q).AP,(A.has k\/k=A.len+1)/\(((A.add {kind:=2,D0:=e,CD:=d}).set e {A.nd e with cont:=A.len+1}).nd k).ER=q:=by
   intro q hq k hk;have h1:=ok.KU q hq k hk;refine⟨.inl h1.1,?_⟩;rw[a,Ac (ne h1.1)];split;.rename_i e1;rw[e1] at h1;exact h1.2
   .exact h1.2
  rw[a m];split;.rename_i e1;rw[e1];exact key e he
  .split;.intro k hk;simp at hk
   .rename_i h1 h2;exact key m (hm.resolve_right h2)
 .intro _;rw[a m];split;.intro _;exact l0
  .split;.intro h1;simp[Z9] at h1
   .rename_i h1 h2;exact ok.gi m (hm.resolve_right h2) h1
 .rw[a m];split
  .rename_i e1;intro _;simp only
   rw[a,Ac (Dv f),Ad rfl,e1];exact⟨.inr trivial,rfl,rfl⟩
  .split;.intro h1;simp at h1
   .rename_i h1 h2;intro i;have c:=ok.cont m (hm.resolve_right h2) i;refine⟨.inl c.1,?_⟩;rw[a,Ac (ne c.1)];split;.rename_i e1;rw[e1,hk] at c;exact absurd c.2.1 Be
    .exact c.2
 .rw[a m];split;.intro h1;exact absurd h0 h1
  .split;.rename_i e1;intro _;simp only;refine⟨.inl he,?_⟩;rw[a,Ad rfl,e1]
   .rename_i h1 h2;intro i;have c:=ok.D0 m (hm.resolve_right h2) i;refine⟨.inl c.1,?_⟩;rw[a,Ac (ne c.1)];split;.rename_i e1;rw[e1,hc] at c;have:=(hm.resolve_right h2).1;omega
    .exact c.2
 .intro h1;rcases hm with hm|rfl
  .have h2:=ok.oh m hm h1;refine⟨.inl h2.1,?_⟩;rw[a,Ac (ne h2.1)];split;.rename_i e1;rw[e1] at h2;exact h2.2
   .exact h2.2
  .exfalso;apply h1;unfold Ar.inr;rw[Ac no]
 .by_cases e1:m=A.len+1
  .have j:((A.add {kind:=2,D0:=e,CD:=d}).set e {A.nd e with cont:=A.len+1}).up m=e:=by
    have n:m≠e:=by rw[e1];exact Dv f
    unfold Ar.up;rw[a m];simp[e1,Dv f]
   rw[j,Ac f,Ad e1];intro _;omega
  .have hm:=hm.resolve_right e1;have j:((A.add {kind:=2,D0:=e,CD:=d}).set e {A.nd e with cont:=A.len+1}).up m=A.up m:=by
    unfold Ar.up;rw[a];split;.rename_i n;rw[n]
    .rfl
   rw[j,Ac e1];intro h1;rw[Ac (ne (cZ ok hm h1))];exact hr m hm h1
def Ar.elem(A:Ar)(d sp:Int)(nm:Aq)(at_:List AS):Ar:=
 let x:DB:={kind:=4,CD:=d,AY:=sp,name:=nm,AB:=CI at_}
 if Z9 x then
  let b:=A.add x
  let a:=b.DS d
  (a.add {kind:=2,D0:=A.len+1,CD:=b.Gy d}).set (A.len+1) {x with cont:=a.len+1}
 else A.add x
def iF{d sp:Int}{nm:Aq}{l:List AS}(ok:C8 A 0)(hd:A.has d/\(A.nd d).kind=1)(hs:0<=sp/\sp<=7)(hl:∀a∈l,0<=a.AY/\a.AY<=7):C8 (A.elem d sp nm l) 0:=by
 have hx:oY {kind:=4,CD:=d,AY:=sp,name:=nm,AB:=CI l}:=by constructor<;>simp[VW,hs];exact λa ha=>hl a (Ze ha)
 unfold Ar.elem;simp only
 split
 .rename_i c;have b:C8 A (A.len+1):={ok with gi:=λh g _=>ok.gi h g (by have:=g.1;omega)};have j:=TN b hx (.inr ⟨Au,hd⟩) rfl rfl rfl rfl λ_=>rfl;have ot:(A.add {kind:=4,CD:=d,AY:=sp,name:=nm,AB:=CI l}).has d:=Dj.2 (.inl hd.1);obtain⟨i,h2,m⟩:=sH j ot (by rw[Mf];omega);have f:((A.add {kind:=4,CD:=d,AY:=sp,name:=nm,AB:=CI l}).DS d).nd (A.len+1)={kind:=4,CD:=d,AY:=sp,name:=nm,AB:=CI l}:=by rw[TP (.inl (by rw[Mf];omega)),FV,Ad rfl]
  have:=yT i (LN (Dj.2 (.inr rfl))) (by rw[f];exact c) (by rw[f]) ⟨h2,m⟩;rw[f] at this;exact this
 .rename_i c;exact TN ok hx (.inr ⟨Au,hd⟩) rfl rfl rfl rfl λh=>absurd h c
end
def aA9(e:Cp):Bool:=decide (e.node=0)
def TQ(n:Int)(e:Cp):Bool:=decide (e.node=n)
def dC(l:List Cp):Int:=AM aA9 l+1
def FI(n:Int)(l:List Cp):Int:=if n=0 then -1 else AM (TQ n) l
def TR(name:Aq):List Cp->Int
 |[]=> -1
 |x::t=>if x.node=0 then -1 else if x.name=name then(t.length:Int) else TR name t
def Gm(name:Aq)(l:List Cp):Int:=TR name l.reverse
def iG(e:Cp):List Cp->Nat
 |[]=>0
 |x::t=>if x.node=0 then 0 else iG e t+(if JA x e=true then 1 else 0)
def Zj(e:Cp):List Cp->Int
 |[]=> -1
 |x::t=>if x.node=0 then -1 else if 0<=Zj e t then Zj e t else if JA x e=true then(t.length:Int) else -1
def Zk(e:Cp)(l:List Cp):List Cp:=(if e.node≠0/\3<=iG e l.reverse then Bf l (Zj e l.reverse).toNat else l)++[e]
def HT(l:List Cp):List Cp:=l.take (dC l-1).toNat
structure BS where
 a:Ar
 CD:Int
 A3:List Item
 Bb:List Cp
 mode:Int
 yU:Int
 tm:List Int
 head:Int
 TS:Int
 Nj:Bool
 ctx:Item
 fs:Bool
 FX:Bool
 M_:Aq
 skip:Bool
 sw:Int
 stop:Bool
def Zl(s:List Aq)(A:Ar)(h:Int):Prop:=(A.nd h).kind=4/\(A.nd h).AY=1/\(A.nd h).name∈s
instance(s:List Aq)(A:Ar)(h:Int):Decidable (Zl s A h):=by unfold Zl;infer_instance
abbrev Gz:Aq:=aJs
abbrev dD:Aq:=aJI
abbrev dE:Aq:=aJE
abbrev dF:Aq:=aJJ
abbrev wTr:Aq:=[116,114]
abbrev wP:Aq:=[112]
def Ht:List Aq:=[Gz,dD,dE,dF,wTr]
namespace BS
def JB(b:BS):Int×Int:=
 let d:=AM (BF [BC]) b.A3
 let c:=AM (BF [Gz]) b.A3
 if c<d then((Ir b.A3 d).node,0) else if c<0 then((Ir b.A3 0).node,0) else
 let t:=(Ir b.A3 c).node
 if(b.a.nd t).ER≠0 then((b.a.nd t).ER,t) else((Ir b.A3 (max (c-1) 0)).node,0)
def place(b:BS)(t:Int):Int×Int:=
 if t=0/\b.A3=[] then(b.CD,0) else
 let t':=if t=0 then(GO b.A3).node else t
 let c:=if b.FX=true/\Zl Ht b.a t' then b.JB else(t',0)
 if(b.a.nd c.1).cont≠0 then((b.a.nd c.1).cont,0) else c
end BS
open Classical in
def Ar.E9(A:Ar)(h p bf:Int):Ar:=if(A.nd p).kind=1/\(A.nd h).kind=4/\(∃k∈(A.nd p).AP,(A.nd k).kind=4) then A else A.Hs p h bf
namespace BS
def IW(b:BS)(p:Int):Int:=if(b.a.nd p).cont≠0 then(if(b.a.nd (b.a.nd p).cont).CD≠0 then(b.a.nd (b.a.nd p).cont).CD else b.CD) else if(b.a.nd p).CD≠0 then(b.a.nd p).CD else b.CD
def JC(sp:Int):Prop:=0<=sp/\sp<=7
instance(sp:Int):Decidable (JC sp):=by unfold JC;infer_instance
def Kn(sp:Int)(nm:Aq):Aq:=if sp=2 then C7 nm LL else nm
def Ie(b:BS)(nm:Aq)(at_:List AS)(sp:Int):Item:=if JC sp then⟨b.a.len+1,sp,Kn sp nm,Hh sp (Kn sp nm) (at_.map (CX sp))⟩ else Item.zero
def EU(b:BS)(nm:Aq)(at_:List AS)(sp p:Int):BS:=if JC sp then{b with a:=b.a.elem (b.IW p) sp (Kn sp nm) (at_.map (CX sp))} else b
def UR(b:BS)(sp:Int):Int:=if JC sp then b.a.len+1 else 0
def Fa(b:BS)(nm:Aq)(at_:List AS)(sp:Int):BS:=
 if JC sp then
  let c:=b.place 0
  let b1:=b.EU nm at_ sp c.1
  {b1 with a:=b1.a.E9 (b.a.len+1) c.1 c.2,A3:=b1.A3++[b.Ie nm at_ sp]}
 else b
def Ko(b:BS)(nm:Aq)(at_:List AS):BS:=
 let b1:=b.Fa nm at_ 1
 {b1 with Bb:=Zk ⟨b.a.len+1,nm,at_⟩ b1.Bb}
end BS
def JD(r:Int):Aq:=
 if 0<=r/\r<128 then[UInt8.ofNat r.toNat]
 else if 128<=r/\r<2048 then[UInt8.ofNat (192+r.toNat/64),UInt8.ofNat (128+r.toNat%64)]
 else if 2048<=r/\r<65536/\¬(55296<=r/\r<57344) then[UInt8.ofNat (224+r.toNat/4096),UInt8.ofNat (128+r.toNat/64%64),UInt8.ofNat (128+r.toNat%64)]
 else if 65536<=r/\r<=1114111 then[UInt8.ofNat (240+r.toNat/262144),UInt8.ofNat (128+r.toNat/4096%64),UInt8.ofNat (128+r.toNat/64%64),UInt8.ofNat (128+r.toNat%64)]
 else[239,191,189]
def JE(l:List Int)(bf:Int):Option Int:=if bf=0 then l.getLast? else(l.takeWhile λk=>decide (k≠bf)).getLast?
def Ar.JZ(A:Ar)(h:Int)(s:Aq):Ar:=A.set h {A.nd h with data:=s}
def Ar.Kq(A:Ar)(h:Int)(l:List AS):Ar:=A.set h {A.nd h with AB:=CI l}
namespace BS
def Kr(A:Ar)(s:Aq)(p bf:Int):Ar:=
 if(A.nd p).kind=4\/(A.nd p).kind=2 then
  match JE (A.nd p).AP bf with
  |some t=>if(A.nd t).kind=5 then A.JZ t ((A.nd t).data++s) else(A.add {kind:=5,CD:=(A.nd p).CD,data:=s}).E9 (A.len+1) p bf
  |none=>(A.add {kind:=5,CD:=(A.nd p).CD,data:=s}).E9 (A.len+1) p bf
 else A
def sJ(b:BS)(r:Int):BS:={b with a:=Kr b.a (JD r) (b.place 0).1 (b.place 0).2}
def ES(A:Ar)(s:Aq)(p bf:Int):Ar:=
 if Mz (A.nd p).kind then(A.add {kind:=6,CD:=(A.nd p).CD,data:=s}).E9 (A.len+1) p bf else A
def Mh(b:BS)(s:Aq)(p:Int):BS:={b with a:=if p=0 then ES b.a s (b.place 0).1 (b.place 0).2 else ES b.a s p 0}
def Py(b:BS)(nm:Aq)(at_:List AS)(st:Int):BS:=let b1:=b.Fa nm at_ 1;{b1 with sw:=st,yU:=b1.mode,mode:=8}
def Mi(b:BS):BS:=if OB (BF [wP]) (Ng 3) b.A3.reverse then{b with A3:=EP DZ (BF [wP]) (EP (Hi wP) DZ b.A3)} else b
def settled(b:BS)(e:Cp):Bool:=decide (e.node=0\/0<=AM (BJ e.node) b.A3)
def KJ:List Cp->BS->List Cp×BS
 |[],b=>([],b)
 |e::l,b=>let r:=KJ l (b.Fa e.name e.AB 1);({e with node:=b.a.len+1}::r.1,r.2)
def ME(b:BS):Nat:=(AM b.settled b.Bb+1).toNat
def Ex(b:BS):BS:=let r:=KJ (b.Bb.drop b.ME) b;{r.2 with Bb:=b.Bb.take b.ME++r.1}
def D1(b:BS)(nm:Aq):BS:=match b.A3.reverse.find? λi=>BF [nm] i||Is i with
 |some i=>if BF [nm] i then{b with A3:=HM i.node (EP (Hi nm) DZ b.A3)} else b
 |none=>b
def NG(l:List Item):Int:=match l.reverse.find? λi=>BF [BC] i||BF [Gz] i with
 |some i=>if BF [BC] i then 16 else 17
 |none=>16
end BS
abbrev sK:Aq:=aJu
abbrev m7:Aq:=aJD
abbrev N_:Aq:=[98,111,100,121]
abbrev m8:Aq:=aJ1
abbrev Mj:Aq:=aJX
abbrev gl:Aq:=[116,100]
abbrev gm:Aq:=[116,104]
abbrev TT:Aq:=[104,101,97,100]
abbrev ET:Aq:=aJv
def It:List (Aq×Int):=[(wTr,14),(dD,13),(dF,13),(dE,13),(sK,11),(m7,12),(Gz,9),(N_,7),(m8,20)]
namespace BS
def Mk(b:BS)(x:Item)(k:Nat):Option Int:=
 if x.AY=1 then
  match It.find? λr=>decide (r.1=x.name) with
  |some r=>some r.2
  |none=>
   if x.name=Mj then some (NG (b.A3.take k))
   else if(x.name=gl\/x.name=gm)/\0<k then some 15
   else if x.name=BC then some (b.tm.getLast?.getD 7)
   else if x.name=TT/\0<k then some 4
   else if x.name=ET then some (if b.head=0 then 3 else 6)
   else if k=0 then some 7 else none
 else if k=0 then some 7 else none
def FL(b:BS)(k:Nat):Item:=if k=0/\b.Nj=true then b.ctx else b.A3.getD k Item.zero
def Qx(b:BS):Nat->Int
 |0=>7
 |k+1=>match b.Mk (b.FL k) k with
  |some m=>m
  |none=>b.Qx k
def Ks(b:BS):BS:={b with mode:=b.Qx b.A3.length}
def plain(l:List AS):List AS:=l.map λa=>⟨0,a.name,a.value⟩
def JN(b:BS)(l:List AS)(h:Int):BS:=if(b.a.nd h).kind=4 then{b with a:=b.a.Kq h ((b.a.nd h).AB++plain l)} else b
def En(b:BS):BS:=
 if AM (BF [BC]) b.A3<0 then b
 else Ks {b with A3:=EP DZ (BF [BC]) (EP Du DZ b.A3),Bb:=HT b.Bb,tm:=b.tm.dropLast}
def Xp(b:BS):BS:=if b.A3.length<2 then b else{b with A3:=b.A3.take (b.A3.length-1)}
def sL(b:BS):Item:=if b.A3.length<2 then Item.zero else GO b.A3
end BS
def Cp.zero:Cp:=⟨0,[],[]⟩
namespace BS
def GQ(blk anc:Int)(far i:Nat)(b:BS)(l:Int)(m:Nat):BS×Int×Nat:=
 let x:=b.A3.getD i Item.zero
 let e:=FI x.node b.Bb
 if e<0 then({b with A3:=Bf b.A3 i},l,m)
 else if i+3<far then({b with Bb:=Bf b.Bb e.toNat,A3:=Bf b.A3 i},l,if e.toNat<m then m-1 else m)
 else
  let c:=b.Bb.getD e.toNat Cp.zero
  let n:=b.Ie c.name c.AB 1
  let b1:=b.EU c.name c.AB 1 anc
  ({b1 with a:=b1.a.Hs n.node l 0,A3:=b1.A3.set i n,Bb:=b1.Bb.set e.toNat {c with node:=n.node}},n.node,if l=blk then e.toNat+1 else m)
def Nk(blk anc:Int)(far k:Nat):Nat->BS×Int×Nat->BS×Int×Nat
 |0,s=>s
 |c+1,s=>Nk blk anc far k c (GQ blk anc far (k+(c+1)) s.1 s.2.1 s.2.2)
def CR(A:Ar)(n:Int)(l:List Int):Ar:=l.foldl (λA x=>A.Hs n x 0) A
def IX(fe:Cp)(blk anc:Int)(s:BS×Int×Nat):BS:=
 let b1:=s.1
 let b:=b1.place anc
 let b2:={b1 with a:=b1.a.E9 s.2.1 b.1 b.2}
 let n:=b2.Ie fe.name fe.AB 1
 let b3:=b2.EU fe.name fe.AB 1 blk
 let c:=FI fe.node b3.Bb
 let mk:=if c.toNat<s.2.2 then s.2.2 -1 else s.2.2
 let ac:=Bf b3.Bb c.toNat
 let op:=DR fe.node b3.A3
 let ip:=Hj (AM (BJ blk) op+1) op.length
 {b3 with a:=(CR b3.a n.node (b3.a.nd blk).AP).Hs blk n.node 0,Bb:=ac.take (Ft mk ac.length)++{fe with node:=n.node}::ac.drop (Ft mk ac.length),A3:=op.take ip++n::op.drop ip}
def round(b:BS)(nm:Aq):Bool×BS:=
 let f:=Gm nm b.Bb
 if f<0 then(false,b.D1 nm) else
 let fe:=b.Bb.getD f.toNat Cp.zero
 let k:=AM (BJ fe.node) b.A3
 if k<0 then(false,{b with Bb:=Bf b.Bb f.toNat}) else
 if k=0\/OB (BJ fe.node) (Ng 1) b.A3.reverse=false then(false,b) else
 let far:=DQ fe.node b.A3
 if far<0 then(false,{b with A3:=HM fe.node b.A3,Bb:=Bf b.Bb f.toNat}) else
 let blk:=(b.A3.getD far.toNat Item.zero).node
 let anc:=(b.A3.getD (k.toNat-1) Item.zero).node
 (true,IX fe blk anc (Nk blk anc far.toNat k.toNat (far.toNat-1 -k.toNat) (b,blk,f.toNat)))
def Gb:Nat->BS->Aq->BS
 |0,b,_=>b
 |n+1,b,nm=>let r:=b.round nm;if r.1 then Gb n r.2 nm else r.2
def Kt(b:BS)(nm:Aq):BS:=
 if BF [nm] (GO b.A3)/\FI (GO b.A3).node b.Bb<0 then b.Xp else Gb 8 b nm
end BS
structure Le(A A':Ar):Prop where
 has:∀h,A.has h->A'.has h
 kind:∀h,A.has h->(A'.nd h).kind=(A.nd h).kind
 AY:∀h,A.has h->(A'.nd h).AY=(A.nd h).AY
 name:∀h,A.has h->(A'.nd h).name=(A.nd h).name
section
variable{A A' A'':Ar}{h k e p n b:Int}{x:DB}
def Le.refl:Le A A:=⟨λ_ h=>h,λ_ _=>rfl,λ_ _=>rfl,λ_ _=>rfl⟩
def Le.trans(h1:Le A A')(h2:Le A' A''):Le A A'':=⟨λh a=>h2.has h (h1.has h a),λh a=>by rw[h2.kind h (h1.has h a),h1.kind h a],λh a=>by rw[h2.AY h (h1.has h a),h1.AY h a],λh a=>by rw[h2.name h (h1.has h a),h1.name h a]⟩
def Le.gp(h1:∀h,A.has h->A'.has h)(h2:∀h,A.has h->A'.nd h=A.nd h):Le A A':=⟨h1,λh a=>by rw[h2 h a],λh a=>by rw[h2 h a],λh a=>by rw[h2 h a]⟩
def TU(a:A.has h):h≠A.len+1:=λe=>OG (A:=A) (e▸a)
def E5(a:A.has h):(A.add x).nd h=A.nd h:=by rw[FV,Ac (TU a)]
def dG:Le A (A.add x):= .gp (λh a=>Dj.2 (.inl a)) λh a=>E5 a
def Xq(h1:x.kind=(A.nd h).kind)(h2:x.AY=(A.nd h).AY)(a:x.name=(A.nd h).name):Le A (A.set h x):=by
 refine⟨λk hk=>HN.2 hk,?_,?_,?_⟩<;>intro k hk<;>rw[GP]<;>split;.rename_i e;rw[e.1,h1]
 .rfl
 .rename_i e;rw[e.1,h2]
 .rfl
 .rename_i e;rw[e.1,a]
 .rfl
def iH{l:List Int}:Le A (A.set h {A.nd h with AP:=l}):=Xq rfl rfl rfl
def iI:Le A (A.set h {A.nd h with ER:=p}):=Xq rfl rfl rfl
def ou:Le A (A.cut n):=by
 unfold Ar.cut;simp only;split;.exact .refl
 .exact Le.trans iH iI
def ov:Le A (A.Mr p n b):=Le.trans iH iI
def Pz:Le A (A.Hs p n b):=by unfold Ar.Hs;split;exact ou.trans ov;exact .refl
def Iu:Le A (A.E9 n p b):=by unfold Ar.E9;split;exact .refl;exact Pz
def NH(ok:C8 A e):C8 (A.E9 n p b) e:=by unfold Ar.E9;split;exact ok;exact Px ok
def TV{d sp:Int}{nm:Aq}{l:List AS}(a:A.has h):(A.elem d sp nm l).has h/\(A.elem d sp nm l).nd h=A.nd h:=by
 have hne:=TU a;unfold Ar.elem;simp only
 split;.have h1:(A.add {kind:=4,CD:=d,AY:=sp,name:=nm,AB:=CI l}).has h:=Dj.2 (.inl a);refine⟨HN.2 (Dj.2 (.inl (LN h1))),?_⟩;rw[GP,Ac (λe=>hne e.1),E5 (LN h1),TP (.inl (TU h1)),E5 a]
 .exact⟨Dj.2 (.inl a),E5 a⟩
def PC{d sp:Int}{nm:Aq}{l:List AS}:(A.elem d sp nm l).has (A.len+1)/\((A.elem d sp nm l).nd (A.len+1)).kind=4/\((A.elem d sp nm l).nd (A.len+1)).AY=sp/\((A.elem d sp nm l).nd (A.len+1)).name=nm/\((A.elem d sp nm l).nd (A.len+1)).AP=[]/\((A.elem d sp nm l).nd (A.len+1)).ER=0/\((A.elem d sp nm l).nd (A.len+1)).CD=d/\((A.elem d sp nm l).nd (A.len+1)).AB=CI l:=by
 unfold Ar.elem;simp only
 split;.have h1:(A.add {kind:=4,CD:=d,AY:=sp,name:=nm,AB:=CI l}).has (A.len+1):=Dj.2 (.inr rfl);have h2:=Dj (x:={kind:=2,D0:=A.len+1,CD:=(A.add {kind:=4,CD:=d,AY:=sp,name:=nm,AB:=CI l}).Gy d}).2 (.inl (LN (h:=d) h1));rw[HN,GP,Ad ⟨rfl,h2⟩];exact⟨h2,rfl,rfl,rfl,rfl,rfl,rfl,rfl⟩
 .rw[FV,Ad rfl];exact⟨Dj.2 (.inr rfl),rfl,rfl,rfl,rfl,rfl,rfl,rfl⟩
def Se{d sp:Int}{nm:Aq}{l:List AS}:Le A (A.elem d sp nm l):= .gp (λ_ h=>(TV h).1) λ_ h=>(TV h).2
def Zm{l:List AS}(ok:C8 A e)(c:A.has h)(hk:(A.nd h).kind=4)(hl:∀a∈l,0<=a.AY/\a.AY<=7):C8 (A.Kq h l) e:=by have hx:=ok.Qv h c;refine sG ok c ⟨hx.k,hx.AP,λh=>absurd hk h,hx.nm,hx.dt,hx.data,hx.CB,hx.sp,λa ha=>hl a (Ze ha),VW l,hx.TL,hx.Ni,hx.root,hx.mY⟩ rfl rfl rfl ⟨(ok.CD h c).1,(ok.CD h c).2,ok.Xo h c⟩ rfl rfl λd=>d
def dH{s:Aq}(ok:C8 A e)(a:A.has h)(hk:(A.nd h).kind=5\/(A.nd h).kind=6):C8 (A.JZ h s) e:=by have hx:=ok.Qv h a;refine sG ok a ⟨hx.k,hx.AP,hx.elem,hx.nm,hx.dt,λf d=>by have:(A.nd h).kind≠5:=f;have:(A.nd h).kind≠6:=d;omega,hx.CB,hx.sp,hx.yO,hx.CI,hx.TL,hx.Ni,hx.root,hx.mY⟩ rfl rfl rfl ⟨(ok.CD h a).1,(ok.CD h a).2,ok.Xo h a⟩ rfl rfl λc=>c
def Xr{kd d:Int}{s:Aq}(ok:C8 A e)(he:e≠A.len+1)(hd:A.has d/\(A.nd d).kind=1)(hk:kd=5\/kd=6):C8 (A.add {kind:=kd,CD:=d,data:=s}) e:=by
 refine TN ok ?_ (.inr ⟨D5,hd⟩) rfl rfl rfl rfl (λh=>?_);.constructor<;>simp[CI,FW]<;>omega
 .have:=h.1;simp at this;omega
def dI{s:Aq}:Le A (A.JZ h s):=Xq rfl rfl rfl
def Zn{l:List AS}:Le A (A.Kq h l):=Xq rfl rfl rfl
def dJ{sp:Int}{a:AS}:0<=(CX sp a).AY/\(CX sp a).AY<=7:=by
 unfold CX;split
 .split
  .rename_i s m he;have:∀x∈fT,0<=x.2.1/\x.2.1<=7:=Be;unfold H9 at he;cases hf:fT.find? λx=>decide (KY sp a.name=x.1) with
   |none=>rw[hf] at he;cases he
   |some y=>rw[hf] at he;have:=this y (NV hf);simp at he;rw[he] at this;exact this
  .exact⟨LS 0,Au⟩
 .exact⟨LS 0,Au⟩
end
structure Eg(b:BS):Prop where
 ok:C8 b.a 0
 CD:b.a.has b.CD/\(b.a.nd b.CD).kind=1
 op:∀i∈b.A3,b.a.has i.node/\(b.a.nd i.node).kind=4/\(b.a.nd i.node).AY=i.AY/\(b.a.nd i.node).name=i.name
 wF:(b.A3.map Item.node).Nodup
 ac:∀e∈b.Bb,e.node=0\/(b.a.has e.node/\(b.a.nd e.node).kind=4)
 oZ:((b.Bb.map Cp.node).filter λn=>decide (n≠0)).Nodup
structure BA(b:BS):Prop where
 ok:C8 b.a 0
 CD:b.a.has b.CD/\(b.a.nd b.CD).kind=1
def Eg.ba{b:BS}(o:Eg b):BA b:=⟨o.ok,o.CD⟩
instance{b:BS}:Coe (Eg b) (BA b):=⟨Eg.ba⟩
section
variable{b:BS}{t:Int}
def yV{A A':Ar}{l:List Item}(hl:Le A A')(h:∀i∈l,A.has i.node/\(A.nd i.node).kind=4/\(A.nd i.node).AY=i.AY/\(A.nd i.node).name=i.name):∀i∈l,A'.has i.node/\(A'.nd i.node).kind=4/\(A'.nd i.node).AY=i.AY/\(A'.nd i.node).name=i.name:=by intro i hi;have:=h i hi;rw[hl.kind _ this.1,hl.AY _ this.1,hl.name _ this.1];exact⟨hl.has _ this.1,this.2⟩
def iJ{A A':Ar}{l:List Cp}(hl:Le A A')(h:∀e∈l,e.node=0\/(A.has e.node/\(A.nd e.node).kind=4)):∀e∈l,e.node=0\/(A'.has e.node/\(A'.nd e.node).kind=4):=by
 intro e he;rcases h e he with h|h
 .exact .inl h
 .rw[hl.kind _ h.1];exact .inr ⟨hl.has _ h.1,h.2⟩
def Eg.J0(o:Eg b){A:Ar}(ok:C8 A 0)(hl:Le b.a A):Eg {b with a:=A}:=
 ⟨ok,by rw[hl.kind _ o.CD.1];exact⟨hl.has _ o.CD.1,o.CD.2⟩,yV hl o.op,o.wF,iJ hl o.ac,o.oZ⟩
def Eg.aBb(o:Eg b){l:List Item}(h1:∀i∈l,i∈b.A3)(h2:(l.map Item.node).Nodup):Eg {b with A3:=l}:=
 ⟨o.ok,o.CD,λi hi=>o.op i (h1 i hi),h2,o.ac,o.oZ⟩
def Eg.Xs(o:Eg b){l:List Item}(h1:List.Sublist l b.A3):Eg {b with A3:=l}:=o.aBb (λ_ hi=>h1.subset hi) (o.wF.sublist (h1.map _))
def Eg.dK(o:Eg b){l:List Cp}(h1:List.Sublist l b.Bb):Eg {b with Bb:=l}:=
 ⟨o.ok,o.CD,o.op,o.wF,λe he=>o.ac e (h1.subset he),o.oZ.sublist ((h1.map _).filter _)⟩
def EG{p q:Item->Bool}{l:List Item}:List.Sublist (EP p q l) l:=by
 have key:∀r:List Item,List.Sublist (N7 p q r) r:=by
  intro r;induction r with
  |nil=>exact AD _
  |cons x r ih=>
   cases r with
   |nil=>exact AD _
   |cons y r=>
    rw[N7];split;.exact AD _
    .split;.exact QK _ _
     .exact ih.trans (QK _ _)
 have:=(key l.reverse).reverse;rwa [Iz] at this
def GR{n:Int}{l:List Item}:List.Sublist (HM n l) l:=by unfold HM;split;exact AD _;exact EG
def Cy{U:Type}{l:List U}{k:Nat}:List.Sublist (Bf l k) l:=by
 unfold Bf;conv=>rhs;rw[<-BY k l]
 refine List.Sublist.append (AD _) ?_;rw[<-DU];exact aE1 _ _
def KZ{n:Int}{l:List Item}:List.Sublist (DR n l) l:=by unfold DR;split;exact AD _;exact Cy
def IY{l:List Item}{i:Int}(h0:0<=i)(h1:i<l.length):Ir l i∈l:=by unfold Ir;rw[Ad h0,AG,Ap Ab];exact AX _
def Ku{U:Type}{q:U->Bool}{l:List U}:AM q l<l.length∧-1<=AM q l:=by rcases Ds (q:=q) (l:=l) with⟨h1,_⟩|⟨n,hn,h1,_⟩<;>rw[h1]<;>omega
def m9{l:List Item}(h:l≠[]):GO l∈l:=by have:0<l.length:=Fv.2 h;exact IY Ab Ab
def yW(o:Eg b)(hn:b.A3≠[]):b.a.has b.JB.1/\(b.JB.2≠0->b.a.has b.JB.2/\(b.a.nd b.JB.2).ER=b.JB.1):=by
 have hl:0<b.A3.length:=Fv.2 hn;have h1:=Ku (q:=BF [BC]) (l:=b.A3);have h2:=Ku (q:=BF [Gz]) (l:=b.A3);unfold BS.JB;simp only
 split;.exact⟨(o.op _ (IY Ab Ab)).1,λh=>absurd rfl h⟩
 .split;.exact⟨(o.op _ (IY Ab Ab)).1,λh=>absurd rfl h⟩
  .have c:=o.op _ (IY (l:=b.A3) (i:=AM (BF [Gz]) b.A3) Ab Ab);split;.rename_i hp;exact⟨(o.ok.ER _ c.1 hp).1,λ_=>⟨c.1,rfl⟩⟩
   .exact⟨(o.op _ (IY Ab Ab)).1,λh=>absurd rfl h⟩
def TW(o:Eg b)(ht:t=0\/(b.a.has t/\b.A3≠[])):b.a.has (b.place t).1/\((b.place t).2≠0->b.a.has (b.place t).2/\(b.a.nd (b.place t).2).ER=(b.place t).1):=by
 unfold BS.place;simp only
 split;.exact⟨o.CD.1,λh=>absurd rfl h⟩
 .rename_i h0;have hn:b.A3≠[]:=by
   rcases ht with h|h
   .intro h2;exact h0 ⟨h,h2⟩
   .exact h.2
  have h1:b.a.has (if t=0 then(GO b.A3).node else t):=by
   split;.exact(o.op _ (m9 hn)).1
   .rename_i h2;exact(ht.resolve_left h2).1
  generalize(if t=0 then(GO b.A3).node else t)=t' at h1;have h2:b.a.has (if b.FX=true/\Zl Ht b.a t' then b.JB else(t',0)).1/\((if b.FX=true/\Zl Ht b.a t' then b.JB else(t',0)).2≠0->b.a.has (if b.FX=true/\Zl Ht b.a t' then b.JB else(t',0)).2/\(b.a.nd (if b.FX=true/\Zl Ht b.a t' then b.JB else(t',0)).2).ER=(if b.FX=true/\Zl Ht b.a t' then b.JB else(t',0)).1):=by
   split;.exact yW o hn
   .exact⟨h1,λh=>absurd rfl h⟩
  generalize(if b.FX=true/\Zl Ht b.a t' then b.JB else(t',0))=c at h2;split;.rename_i hc;exact⟨(o.ok.cont _ h2.1 hc).1,λh=>absurd rfl h⟩
  .exact h2
def Qy(o:BA b){p:Int}:b.a.has (b.IW p)/\(b.a.nd (b.IW p)).kind=1:=by
 unfold BS.IW;by_cases hp:b.a.has p
 .have key:∀q,b.a.has q->b.a.has (if(b.a.nd q).CD≠0 then(b.a.nd q).CD else b.CD)/\(b.a.nd (if(b.a.nd q).CD≠0 then(b.a.nd q).CD else b.CD)).kind=1:=by
   intro q hq;split;.exact o.ok.CD q hq
   .exact o.CD
  split;.rename_i hc;exact key _ (o.ok.cont p hp hc).1
  .exact key p hp
 .rw[Km hp];exact o.CD
variable{nm:Aq}{at_:List AS}{sp p:Int}
structure sM(b b1:BS)(i:Item):Prop where
 has:b1.a.has i.node
 kind:(b1.a.nd i.node).kind=4
 AY:(b1.a.nd i.node).AY=i.AY
 name:(b1.a.nd i.node).name=i.name
 new:¬b.a.has i.node
def Rp(o:Eg b)(hs:BS.JC sp):Eg (b.EU nm at_ sp p)/\sM b (b.EU nm at_ sp p) (b.Ie nm at_ sp)/\Le b.a (b.EU nm at_ sp p).a:=by
 have hd:=Qy o.ba (p:=p);unfold BS.EU BS.Ie;rw[Ad hs,Ad hs];have ok:=iF (sp:=sp) (nm:=BS.Kn sp nm) (l:=at_.map (CX sp)) o.ok hd hs (by intro a ha;obtain⟨c,_,rfl⟩:=AR.1 ha;exact dJ)
 have hn:=PC (A:=b.a) (d:=b.IW p) (sp:=sp) (nm:=BS.Kn sp nm) (l:=at_.map (CX sp));exact⟨o.J0 ok Se,⟨hn.1,hn.2.1,hn.2.2.1,hn.2.2.2.1,OG⟩,Se⟩
def oz(o:BA b)(hs:BS.JC sp):BA (b.EU nm at_ sp p):=by
 have hd:=Qy o (p:=p);unfold BS.EU;rw[Ad hs];have ok:=iF (sp:=sp) (nm:=BS.Kn sp nm) (l:=at_.map (CX sp)) o.ok hd hs (by intro a ha;obtain⟨c,_,rfl⟩:=AR.1 ha;exact dJ)
 have l:Le b.a _:=Se (A:=b.a) (d:=b.IW p) (sp:=sp) (nm:=BS.Kn sp nm) (l:=at_.map (CX sp));exact⟨ok,by rw[l.kind _ o.CD.1];exact⟨l.has _ o.CD.1,o.CD.2⟩⟩
def NI(o:Eg b){b1:BS}{i:Item}(f:sM b b1 i):i.node∉b.A3.map Item.node:=by intro h;obtain⟨j,hj,e⟩:=AR.1 h;exact f.new (e▸(o.op j hj).1)
def Qz(o:Eg b){b1:BS}{i:Item}(f:sM b b1 i):i.node∉b.Bb.map Cp.node:=by
 intro h;obtain⟨j,hj,e⟩:=AR.1 h;rcases o.ac j hj with h1|h1
 .have:=f.has.1;omega
 .exact f.new (e▸h1.1)
def nA{U:Type}[DecidableEq U]{l:List U}{k:Nat}{x:U}(h:l.Nodup)(hx:x∉l):(l.take k++x::l.drop k).Nodup:=by
 have e:=BY k l;rw[Bx];rw[<-e,Bx] at h;refine⟨h.1,By.2 ⟨λh1=>hx (A7 h1),h.2.1⟩,?_⟩;rintro a ha c hc rfl;rcases Az.1 hc with rfl|hc
 .exact hx (AN ha)
 .exact h.2.2 _ ha _ hc rfl
def dL{U:Type}[DecidableEq U]{l:List U}{k:Nat}{x:U}(h:l.Nodup)(hx:x∉l):(l.set k x).Nodup:=by
 rw[B8];split
 .have e:=BY k l;rw[Bx];rw[<-e,Bx] at h;have hd:List.Sublist (l.drop (k+1)) (l.drop k):=by rw[<-DU];exact aE1 _ _
  refine⟨h.1,By.2 ⟨λh1=>hx (A7 h1),h.2.1.sublist hd⟩,?_⟩;rintro a ha c hc rfl;rcases Az.1 hc with rfl|hc
  .exact hx (AN ha)
  .exact h.2.2 _ ha _ (hd.subset hc) rfl
 .exact h
def VX{U Z:Type}(f:U->Z)(l:List U)(k:Nat)(x:U):(l.take k++x::l.drop k).map f=(l.map f).take k++f x::(l.map f).drop k:=Au
def Eg.o_(o:Eg b){i:Item}{k:Nat}(h1:b.a.has i.node/\(b.a.nd i.node).kind=4/\(b.a.nd i.node).AY=i.AY/\(b.a.nd i.node).name=i.name)(h2:i.node∉b.A3.map Item.node):Eg {b with A3:=b.A3.take k++i::b.A3.drop k}:=by
 refine⟨o.ok,o.CD,?_,by show((b.A3.take k++i::b.A3.drop k).map Item.node).Nodup;rw[VX];exact nA o.wF h2,o.ac,o.oZ⟩;intro j hj;rcases Al.1 hj with hj|hj
 .exact o.op j (AN hj)
 .rcases Az.1 hj with rfl|hj
  .exact h1
  .exact o.op j (A7 hj)
def Eg.sN(o:Eg b){i:Item}{k:Nat}(h1:b.a.has i.node/\(b.a.nd i.node).kind=4/\(b.a.nd i.node).AY=i.AY/\(b.a.nd i.node).name=i.name)(h2:i.node∉b.A3.map Item.node):Eg {b with A3:=b.A3.set k i}:=by
 refine⟨o.ok,o.CD,?_,by show((b.A3.set k i).map Item.node).Nodup;rw[Hw];exact dL o.wF h2,o.ac,o.oZ⟩;intro j hj;rcases CZ hj with hj|rfl
 .exact o.op j hj
 .exact h1
def sP{l:List Int}{k:Nat}{x:Int}(h:(l.filter λn=>decide (n≠0)).Nodup)(hx:x∉l):((l.take k++x::l.drop k).filter λn=>decide (n≠0)).Nodup:=by
 have e:=BY k l;rw[<-e,D3,Bx] at h;rw[D3,Bx];by_cases h0:x=0;.subst h0;simpa using h
 .rw[jh (by simpa using h0)];refine⟨h.1,By.2 ⟨λh1=>hx (A7 ((CH.1 h1).1)),h.2.1⟩,?_⟩;rintro a ha c hc rfl;rcases Az.1 hc with rfl|hc
  .exact hx (AN (CH.1 ha).1)
  .exact h.2.2 _ ha _ hc rfl
def sQ{l:List Int}{k:Nat}{x:Int}(h:(l.filter λn=>decide (n≠0)).Nodup)(hx:x∉l):((l.set k x).filter λn=>decide (n≠0)).Nodup:=by
 rw[B8];split
 .have h2:(((l.take k++l.drop (k+1))).filter λn=>decide (n≠0)).Nodup:=h.sublist ((show List.Sublist (Bf l k) l from Cy).filter _);rw[D3,Bx] at h2⊢;by_cases h0:x=0;.subst h0;simpa using h2
  .rw[jh (by simpa using h0)];refine⟨h2.1,By.2 ⟨λh1=>hx (A7 ((CH.1 h1).1)),h2.2.1⟩,?_⟩;rintro a ha c hc rfl;rcases Az.1 hc with rfl|hc
   .exact hx (AN (CH.1 ha).1)
   .exact h2.2.2 _ ha _ hc rfl
 .exact h
def Eg.pc(o:Eg b){e:Cp}{k:Nat}(h1:e.node=0\/(b.a.has e.node/\(b.a.nd e.node).kind=4))(h2:e.node=0\/e.node∉b.Bb.map Cp.node):Eg {b with Bb:=b.Bb.take k++e::b.Bb.drop k}:=by
 refine⟨o.ok,o.CD,o.op,o.wF,?_,?_⟩
 .intro j hj;rcases Al.1 hj with hj|hj
  .exact o.ac j (AN hj)
  .rcases Az.1 hj with rfl|hj
   .exact h1
   .exact o.ac j (A7 hj)
 .show(((b.Bb.take k++e::b.Bb.drop k).map Cp.node).filter _).Nodup;rw[VX];rcases h2 with h2|h2
  .have:=o.oZ;conv at this=>rw[<-BY k (b.Bb.map Cp.node),D3]
   rw[D3,List.filter_cons_of_neg (by simp[h2])];exact this
  .exact sP o.oZ h2
def Eg.sR(o:Eg b){e:Cp}{k:Nat}(h1:b.a.has e.node/\(b.a.nd e.node).kind=4)(h2:e.node∉b.Bb.map Cp.node):Eg {b with Bb:=b.Bb.set k e}:=by
 refine⟨o.ok,o.CD,o.op,o.wF,?_,?_⟩
 .intro j hj;rcases CZ hj with hj|rfl
  .exact o.ac j hj
  .exact .inr h1
 .show(((b.Bb.set k e).map Cp.node).filter _).Nodup;rw[Hw];exact sQ o.oZ h2
def QA(o:Eg b):Eg (b.Fa nm at_ sp):=by
 unfold BS.Fa;split
 .rename_i hs;obtain⟨c,f,hl⟩:=Rp (nm:=nm) (at_:=at_) (p:=(b.place 0).1) o hs;have d:=c.J0 (NH (n:=b.a.len+1) (p:=(b.place 0).1) (b:=(b.place 0).2) c.ok) Iu;have hn:(b.Ie nm at_ sp).node=b.a.len+1:=by unfold BS.Ie;rw[Ad hs]
  have l2:Le (b.EU nm at_ sp (b.place 0).1).a ((b.EU nm at_ sp (b.place 0).1).a.E9 (b.a.len+1) (b.place 0).1 (b.place 0).2):=Iu;have ho:(b.EU nm at_ sp (b.place 0).1).A3=b.A3:=by unfold BS.EU;rw[Ad hs]
  have:=d.o_ (i:=b.Ie nm at_ sp) (k:=b.A3.length) ⟨l2.has _ f.has,by rw[l2.kind _ f.has];exact f.kind,by rw[l2.AY _ f.has];exact f.AY,by rw[l2.name _ f.has];exact f.name⟩ (by simp only[ho];exact NI o f);simp only[ho,BZ,Ha] at this;simp only[ho];exact this
 .exact o
def TX{l:List Cp}{e:Cp}:∃l',List.Sublist l' l/\Zk e l=l'++[e]:=by
 unfold Zk;split;.exact⟨_,Cy,rfl⟩
 .exact⟨_,AD _,rfl⟩
def yX:Le b.a (b.Fa nm at_ sp).a:=by
 unfold BS.Fa BS.EU;split;.exact Le.trans Se Iu
 .exact .refl
def Zo(hs:BS.JC sp):(b.Fa nm at_ sp).a.has (b.a.len+1)/\((b.Fa nm at_ sp).a.nd (b.a.len+1)).kind=4:=by
 unfold BS.Fa BS.EU;rw[Ad hs];simp only
 rw[Ad hs];have hn:=PC (A:=b.a) (d:=b.IW (b.place 0).1) (sp:=sp) (nm:=BS.Kn sp nm) (l:=at_.map (CX sp));exact⟨Iu.has _ hn.1,by rw[Iu.kind _ hn.1];exact hn.2.1⟩
def GS:(b.Fa nm at_ sp).Bb=b.Bb:=by unfold BS.Fa BS.EU;split<;>rfl
def KH:BS.JC 1:=⟨Be,Be⟩
def yY(o:Eg b):b.a.len+1∉b.Bb.map Cp.node:=by
 intro h;obtain⟨j,hj,e⟩:=AR.1 h;rcases o.ac j hj with h1|h1
 .unfold Ar.len at e;omega
 .exact OG (e▸h1.1)
def nC(o:Eg b):Eg (b.Ko nm at_):=by
 have d:=QA (nm:=nm) (at_:=at_) (sp:=1) o;unfold BS.Ko;simp only
 obtain⟨l',h1,h2⟩:=TX (l:=(b.Fa nm at_ 1).Bb) (e:=⟨b.a.len+1,nm,at_⟩);rw[h2];have c:=d.dK h1;have:=c.pc (e:=⟨b.a.len+1,nm,at_⟩) (k:=l'.length) (.inr (Zo KH)) (.inr (by intro h;rw[GS] at h1;exact yY o ((h1.map Cp.node).subset h)))
 simpa using this
def Eg.of_eq{c:BS}(o:Eg b)(h1:c.a=b.a)(h2:c.CD=b.CD)(f:c.A3=b.A3)(d:c.Bb=b.Bb):Eg c:=
 ⟨h1▸o.ok,by rw[h1,h2];exact o.CD,by rw[h1,f];exact o.op,by rw[f];exact o.wF,by rw[h1,d];exact o.ac,by rw[d];exact o.oZ⟩
def dM{l:List Int}{bf t:Int}(h:JE l bf=some t):t∈l:=by
 unfold JE at h;split at h;.exact LU h
 .exact(um _).subset (LU h)
def nD{A:Ar}{s:Aq}{p bf:Int}(ok:C8 A 0)(hp:A.has p):C8 (BS.Kr A s p bf) 0/\Le A (BS.Kr A s p bf):=by
 have h0:(0:Int)≠A.len+1:=by unfold Ar.len;omega
 have ha:=NH (n:=A.len+1) (p:=p) (b:=bf) (Xr (s:=s) (kd:=5) ok h0 (ok.CD p hp) (.inl rfl));have hl:Le A ((A.add {kind:=5,CD:=(A.nd p).CD,data:=s}).E9 (A.len+1) p bf):=Le.trans dG Iu;unfold BS.Kr;split
 .split
  .rename_i t ht;split;.rename_i hk;exact⟨dH ok (ok.KU p hp _ (dM ht)).1 (.inl hk),dI⟩
   .exact⟨ha,hl⟩
  .exact⟨ha,hl⟩
 .exact⟨ok,.refl⟩
def yZ(o:Eg b){r:Int}:Eg (b.sJ r):=by have h:=nD (s:=JD r) (bf:=(b.place 0).2) o.ok (TW o (.inl rfl)).1;exact o.J0 h.1 h.2
def PD{A:Ar}{s:Aq}{p bf:Int}(ok:C8 A 0):C8 (BS.ES A s p bf) 0/\Le A (BS.ES A s p bf):=by
 unfold BS.ES;split
 .rename_i hk;have hp:A.has p:=by
   by_cases hp:A.has p;.exact hp
   .rw[Km hp] at hk;unfold Mz at hk;simp at hk
  have h0:(0:Int)≠A.len+1:=by unfold Ar.len;omega
  exact⟨NH (Xr (s:=s) (kd:=6) ok h0 (ok.CD p hp) (.inr rfl)),Le.trans dG Iu⟩
 .exact⟨ok,.refl⟩
def dN(o:Eg b){s:Aq}{p:Int}:Eg (b.Mh s p):=by
 unfold BS.Mh;split;.have h:=PD (s:=s) (p:=(b.place 0).1) (bf:=(b.place 0).2) o.ok;exact o.J0 h.1 h.2
 .have h:=PD (s:=s) (p:=p) (bf:=0) o.ok;exact o.J0 h.1 h.2
def dO(o:Eg b){st:Int}:Eg (b.Py nm at_ st):=(QA o).of_eq rfl rfl rfl rfl
def nE(o:Eg b):Eg b.Mi:=by
 unfold BS.Mi;split;.exact o.Xs (EG.trans EG)
 .exact o
def VY(o:Eg b):Eg (b.D1 nm):=by
 unfold BS.D1;split
 .split;.exact o.Xs (GR.trans EG)
  .exact o
 .exact o
def PE(o:Eg b):Eg b.Ks:=o.of_eq rfl rfl rfl rfl
def sS(o:Eg b){l:List AS}{h:Int}:Eg (b.JN l h):=by
 unfold BS.JN;split
 .rename_i hk;have d:b.a.has h:=by
   by_cases hp:b.a.has h;.exact hp
   .rw[Km hp] at hk;simp at hk
  refine o.J0 (Zm o.ok d hk ?_) Zn;intro a ha;rcases Al.1 ha with ha|ha
  .exact(o.ok.Qv h d).yO a ha
  .obtain⟨c,_,rfl⟩:=AR.1 ha;simp
 .exact o
def TY(o:Eg b):Eg b.En:=by
 unfold BS.En;split;.exact o
 .have a:=(o.Xs (EG (p:=DZ) (q:=BF [BC]) (l:=EP Du DZ b.A3) |>.trans EG)).dK (l:=HT b.Bb) (Es _ _);exact(PE (b:={b with A3:=EP DZ (BF [BC]) (EP Du DZ b.A3),Bb:=HT b.Bb,tm:=b.tm.dropLast}) (a.of_eq rfl rfl rfl rfl))
def sT(o:Eg b):Eg b.Xp:=by
 unfold BS.Xp;split;.exact o
 .exact o.Xs (Es _ _)
structure O_(b:BS)(l:List Cp)(r:List Cp×BS):Prop where
 ok:Eg r.2
 le:Le b.a r.2.a
 Bb:r.2.Bb=b.Bb
 len:r.1.length=l.length
 nodes:∀e∈r.1,r.2.a.has e.node/\(r.2.a.nd e.node).kind=4/\¬b.a.has e.node
 gq:(r.1.map Cp.node).Nodup
 P_:r.1.map Cp.name=l.map Cp.name
def iK:∀{l:List Cp} {b:BS},Eg b->O_ b l (BS.KJ l b)
 |[],b,o=>by
  refine⟨o,.refl,rfl,rfl,?_,?_,rfl⟩;.intro e he;cases he
  .exact GZ
 |e::l,b,o=>by
  have d:=QA (nm:=e.name) (at_:=e.AB) (sp:=1) o;have r:=iK (l:=l) d;have hl:Le b.a (b.Fa e.name e.AB 1).a:=yX;have hn:=Zo (b:=b) (nm:=e.name) (at_:=e.AB) KH;refine⟨r.ok,hl.trans r.le,r.Bb.trans GS,by simp[BS.KJ,r.len],?_,?_,by simp[BS.KJ,r.P_]⟩
  .intro c hc;rcases Az.1 hc with rfl|hc
   .exact⟨r.le.has _ hn.1,(r.le.kind _ hn.1).trans hn.2,OG⟩
   .have:=r.nodes c hc;exact⟨this.1,this.2.1,λh=>this.2.2 (hl.has _ h)⟩
  .simp only[BS.KJ,AZ,By];refine⟨λh=>?_,r.gq⟩;obtain⟨c,hc,e1⟩:=AR.1 h;exact(r.nodes c hc).2.2 (e1▸hn.1)
def dP(o:Eg b):Eg b.Ex:=by
 have r:=iK (l:=b.Bb.drop b.ME) o;unfold BS.Ex;simp only
 have hc:=iJ r.le o.ac;refine⟨r.ok.ok,r.ok.CD,r.ok.op,r.ok.wF,?_,?_⟩
 .intro e he;rcases Al.1 he with he|he
  .exact hc e (AN he)
  .exact .inr ⟨(r.nodes e he).1,(r.nodes e he).2.1⟩
 .show(((b.Bb.take b.ME++(BS.KJ (b.Bb.drop b.ME) b).1).map Cp.node).filter _).Nodup;rw[B3,D3,Bx];refine⟨o.oZ.sublist (((Es _ _).map _).filter _),r.gq.filter _,?_⟩;rintro a ha c Jr rfl;obtain⟨e1,h1,rfl⟩:=AR.1 (CH.1 ha).1;obtain⟨i,h2,g⟩:=AR.1 (CH.1 Jr).1;have d:=(r.nodes i h2);rw[g] at d;rcases o.ac e1 (AN h1) with f|f
  .have:=d.1.1;omega
  .exact d.2.2 f.1
def Zp(o:Eg b){blk anc:Int}{far i:Nat}{l:Int}{m:Nat}(hl:b.a.has l):Eg (BS.GQ blk anc far i b l m).1/\(BS.GQ blk anc far i b l m).1.a.has (BS.GQ blk anc far i b l m).2.1/\Le b.a (BS.GQ blk anc far i b l m).1.a:=by
 unfold BS.GQ;simp only
 split;.exact⟨o.Xs Cy,hl,.refl⟩
 .split;.exact⟨(o.dK Cy).Xs Cy,hl,.refl⟩
  .generalize OH:b.Bb.getD (FI (b.A3.getD i Item.zero).node b.Bb).toNat Cp.zero=c;obtain⟨d,f,DG⟩:=Rp (nm:=c.name) (at_:=c.AB) (p:=anc) o KH;have l2:Le (b.EU c.name c.AB 1 anc).a ((b.EU c.name c.AB 1 anc).a.Hs (b.Ie c.name c.AB 1).node l 0):=Pz;have NY:(b.EU c.name c.AB 1 anc).A3=b.A3:=by unfold BS.EU;rw[Ad KH]
   have dQ:(b.EU c.name c.AB 1 anc).Bb=b.Bb:=by unfold BS.EU;rw[Ad KH]
   have q:=d.J0 (Px (p:=(b.Ie c.name c.AB 1).node) (n:=l) (b:=0) d.ok) l2;have j:=q.sN (i:=b.Ie c.name c.AB 1) (k:=i) ⟨l2.has _ f.has,by rw[l2.kind _ f.has];exact f.kind,by rw[l2.AY _ f.has];exact f.AY,by rw[l2.name _ f.has];exact f.name⟩ (by simp only[NY];exact NI o f);have g:=j.sR (e:={c with node:=(b.Ie c.name c.AB 1).node}) (k:=(FI (b.A3.getD i Item.zero).node b.Bb).toNat) ⟨l2.has _ f.has,by rw[l2.kind _ f.has];exact f.kind⟩ (by simp only[dQ];exact Qz o f);exact⟨g,l2.has _ f.has,DG.trans l2⟩
def Xt{blk anc:Int}{far k:Nat}:∀{c:Nat} {s:BS×Int×Nat},Eg s.1->s.1.a.has s.2.1->Eg (BS.Nk blk anc far k c s).1/\(BS.Nk blk anc far k c s).1.a.has (BS.Nk blk anc far k c s).2.1/\Le s.1.a (BS.Nk blk anc far k c s).1.a
 |0,s,o,h=>⟨o,h,.refl⟩
 |c+1,s,o,h=>by obtain⟨f,h1,l1⟩:=Zp (blk:=blk) (anc:=anc) (far:=far) (i:=k+(c+1)) (m:=s.2.2) o h;obtain⟨d,h2,l2⟩:=Xt (blk:=blk) (anc:=anc) (far:=far) (k:=k) (c:=c) f h1;exact⟨d,h2,l1.trans l2⟩
def K0{n:Int}:∀{l:List Int} {A:Ar},C8 A 0->C8 (BS.CR A n l) 0/\Le A (BS.CR A n l)
 |[],A,ok=>⟨ok,.refl⟩
 |x::l,A,ok=>by have h:=K0 (n:=n) (l:=l) (Px (p:=n) (n:=x) (b:=0) ok);exact⟨h.1,Le.trans Pz h.2⟩
def nG{fe:Cp}{blk anc:Int}{s:BS×Int×Nat}(o:Eg s.1):Eg (BS.IX fe blk anc s)/\Le s.1.a (BS.IX fe blk anc s).a:=by
 unfold BS.IX;simp only
 generalize sU:s.1.place anc=c;have l1:Le s.1.a (s.1.a.E9 s.2.1 c.1 c.2):=Iu;have g:=o.J0 (NH (n:=s.2.1) (p:=c.1) (b:=c.2) o.ok) l1;generalize M4:({s.1 with a:=s.1.a.E9 s.2.1 c.1 c.2}:BS)=b2 at g;have KI:b2.a=s.1.a.E9 s.2.1 c.1 c.2:=by rw[<-M4]
 have gB:b2.A3=s.1.A3:=by rw[<-M4]
 have Jr:b2.Bb=s.1.Bb:=by rw[<-M4]
 obtain⟨j,f,l3⟩:=Rp (nm:=fe.name) (at_:=fe.AB) (p:=blk) g KH;have NY:(b2.EU fe.name fe.AB 1 blk).A3=b2.A3:=by unfold BS.EU;rw[Ad KH]
 have dQ:(b2.EU fe.name fe.AB 1 blk).Bb=b2.Bb:=by unfold BS.EU;rw[Ad KH]
 generalize mz:b2.EU fe.name fe.AB 1 blk=b3 at*;generalize hn:b2.Ie fe.name fe.AB 1=n at*;obtain⟨gr,l4⟩:=K0 (n:=n.node) (l:=(b3.a.nd blk).AP) j.ok;have Q_:=Px (p:=blk) (n:=n.node) (b:=0) gr;have d:Le b3.a ((BS.CR b3.a n.node (b3.a.nd blk).AP).Hs blk n.node 0):=l4.trans Pz;have q:=j.J0 Q_ d;have fr:((BS.CR b3.a n.node (b3.a.nd blk).AP).Hs blk n.node 0).has n.node/\(((BS.CR b3.a n.node (b3.a.nd blk).AP).Hs blk n.node 0).nd n.node).kind=4/\(((BS.CR b3.a n.node (b3.a.nd blk).AP).Hs blk n.node 0).nd n.node).AY=n.AY/\(((BS.CR b3.a n.node (b3.a.nd blk).AP).Hs blk n.node 0).nd n.node).name=n.name:=
  ⟨d.has _ f.has,by rw[d.kind _ f.has];exact f.kind,by rw[d.AY _ f.has];exact f.AY,by rw[d.name _ f.has];exact f.name⟩
 have m:=(q.dK (l:=Bf b3.Bb (FI fe.node b3.Bb).toNat) Cy).Xs (l:=DR fe.node b3.A3) KZ;have u:n.node∉(DR fe.node b3.A3).map Item.node:=λh=>NI g f ((KZ.map Item.node).subset (by rw[NY] at h;exact h));have r:n.node∉(Bf b3.Bb (FI fe.node b3.Bb).toNat).map Cp.node:=λh=>Qz g f ((Cy.map Cp.node).subset (by rw[dQ] at h;exact h));refine⟨(m.o_ (i:=n) fr u).pc (e:={fe with node:=n.node}) (.inr ⟨fr.1,fr.2.1⟩) (.inr r),?_⟩;rw[KI] at l3;exact l1.trans (l3.trans d)
def Zq(o:Eg b):Eg (b.round nm).2/\Le b.a (b.round nm).2.a:=by
 have d:Le b.a (b.D1 nm).a:=by
  unfold BS.D1;split;.split<;>exact .refl
  .exact .refl
 unfold BS.round;simp only
 split;.exact⟨VY o,d⟩
 .split;.exact⟨o.dK Cy,.refl⟩
  .split;.exact⟨o,.refl⟩
   .split;.exact⟨(o.Xs GR).dK Cy,.refl⟩
    .rename_i hf;have aG4:DQ (b.Bb.getD (Gm nm b.Bb).toNat Cp.zero).node b.A3<b.A3.length:=by
      rw[KX];split;.omega
      .unfold Fj;split;.rename_i k hk;have:=(I3.1 hk).1;rw[AW] at this;omega
       .omega
     have hb:b.a.has (b.A3.getD (DQ (b.Bb.getD (Gm nm b.Bb).toNat Cp.zero).node b.A3).toNat Item.zero).node:=by rw[AG,Ap Ab];exact(o.op _ (AX _)).1
     obtain⟨f,h1,l1⟩:=Xt (blk:=(b.A3.getD (DQ (b.Bb.getD (Gm nm b.Bb).toNat Cp.zero).node b.A3).toNat Item.zero).node) (anc:=(b.A3.getD ((AM (BJ (b.Bb.getD (Gm nm b.Bb).toNat Cp.zero).node) b.A3).toNat-1) Item.zero).node) (far:=(DQ (b.Bb.getD (Gm nm b.Bb).toNat Cp.zero).node b.A3).toNat) (k:=(AM (BJ (b.Bb.getD (Gm nm b.Bb).toNat Cp.zero).node) b.A3).toNat) (c:=(DQ (b.Bb.getD (Gm nm b.Bb).toNat Cp.zero).node b.A3).toNat-1 -(AM (BJ (b.Bb.getD (Gm nm b.Bb).toNat Cp.zero).node) b.A3).toNat) (s:=(b,(b.A3.getD (DQ (b.Bb.getD (Gm nm b.Bb).toNat Cp.zero).node b.A3).toNat Item.zero).node,(Gm nm b.Bb).toNat)) o hb;have r:=nG (fe:=b.Bb.getD (Gm nm b.Bb).toNat Cp.zero) (blk:=(b.A3.getD (DQ (b.Bb.getD (Gm nm b.Bb).toNat Cp.zero).node b.A3).toNat Item.zero).node) (anc:=(b.A3.getD ((AM (BJ (b.Bb.getD (Gm nm b.Bb).toNat Cp.zero).node) b.A3).toNat-1) Item.zero).node) f;exact⟨r.1,l1.trans r.2⟩
def VZ:∀{n:Nat} {b:BS},Eg b->Eg (BS.Gb n b nm)/\Le b.a (BS.Gb n b nm).a
 |0,b,o=>⟨o,.refl⟩
 |n+1,b,o=>by
  obtain⟨c,l1⟩:=Zq (nm:=nm) o;unfold BS.Gb;simp only
  split;.have r:=VZ (n:=n) c;exact⟨r.1,l1.trans r.2⟩
  .exact⟨c,l1⟩
def nH(o:Eg b):Eg (b.Kt nm):=by
 unfold BS.Kt;split;.exact sT o
 .exact(VZ o).1
end
structure J1(A:Ar):Prop where
 n:A.n.length<=1000000000
 at_:∀x,(A.nd x).AB.length<=1000000000
 data:∀x,(A.nd x).data.length<=1000000000
def E6(l:List AS):Prop:=l.length<=1000/\∀a∈l,a.name.length<=1000/\a.value.length<=1000
structure Ci(b:BS)(m:Nat):Prop where
 n:b.a.n.length+m<=900000000
 at_:∀x,(b.a.nd x).AB.length+m<=1000000000
 data:∀x,(b.a.nd x).data.length+m<=1000000000
 A3:b.A3.length+m<=900000000
 Bb:b.Bb.length+m<=900000000
 tm:b.tm.length+m<=900000000
 C3:∀e∈b.Bb,e.name.length<=1000/\E6 e.AB
 Zr:∀i∈b.A3,i.name.length<=1000
def Ci.TZ{b:BS}{m:Nat}(r:Ci b m):J1 b.a:=⟨by have:=r.n;omega,λx=>by have:=r.at_ x;omega,λx=>by have:=r.data x;omega⟩
def Ci.le{b:BS}{m m':Nat}(r:Ci b m)(hm:m'<=m):Ci b m':=⟨by have:=r.n;omega,λx=>by have:=r.at_ x;omega,λx=>by have:=r.data x;omega,by have:=r.A3;omega,by have:=r.Bb;omega,by have:=r.tm;omega,r.C3,r.Zr⟩
def nI{sp:Int}{y:AS}:(CX sp y).value=y.value:=by
 unfold CX;split;.split<;>rfl
 .rfl
structure Ml(A A':Ar):Prop where
 n:A'.n.length=A.n.length
 at_:∀x,(A'.nd x).AB=(A.nd x).AB
 data:∀x,(A'.nd x).data=(A.nd x).data
section
variable{A A' A'':Ar}{x p bf:Int}{b:BS}{m:Nat}
def Ml.refl:Ml A A:=⟨rfl,λ_=>rfl,λ_=>rfl⟩
def Ml.trans(h:Ml A A')(k:Ml A' A''):Ml A A'':=⟨k.n.trans h.n,λx=>(k.at_ x).trans (h.at_ x),λx=>(k.data x).trans (h.data x)⟩
def Zs{y:DB}(h1:y.AB=(A.nd x).AB)(h2:y.data=(A.nd x).data):Ml A (A.set x y):=by
 refine⟨HF,λk=>?_,λk=>?_⟩<;>rw[GP]<;>split;.rename_i e;rw[h1,e.1]
 .rfl
 .rename_i e;rw[h2,e.1]
 .rfl
def V0{l:List Int}:Ml A (A.set x {A.nd x with AP:=l}):=Zs rfl rfl
def V4:Ml A (A.set x {A.nd x with ER:=p}):=Zs rfl rfl
def J6:Ml A (A.Hs p x bf):=by
 unfold Ar.Hs;split
 .refine Ml.trans ?_ (Ml.trans V0 V4);unfold Ar.cut;simp only;split;.exact .refl
  .exact Ml.trans V0 V4
 .exact .refl
def J7:Ml A (A.E9 x p bf):=by unfold Ar.E9;split;exact .refl;exact J6
def N9{n:Int}:∀{l:List Int} {A:Ar},Ml A (BS.CR A n l)
 |[],A=> .refl
 |y::l,A=>Ml.trans J6 (N9 (l:=l))
def Ci.same{c:BS}(r:Ci b m)(h:Ml b.a c.a)(h1:c.A3.length<=b.A3.length)(h2:c.Bb.length<=b.Bb.length)(g:c.tm.length<=b.tm.length)(f:∀e∈c.Bb,e.name.length<=1000/\E6 e.AB)(d:∀i∈c.A3,i.name.length<=1000):Ci c m:=
 ⟨by rw[h.n];exact r.n,λx=>by rw[h.at_];exact r.at_ x,λx=>by rw[h.data];exact r.data x,by have:=r.A3;omega,by have:=r.Bb;omega,by have:=r.tm;omega,f,d⟩
def Ci.J0{A':Ar}(r:Ci b m)(h:Ml b.a A'):Ci {b with a:=A'} m:=r.same h (Af _) (Af _) (Af _) r.C3 r.Zr
def Ci.eq{c:BS}(r:Ci b m)(h1:c.a=b.a)(h2:c.A3=b.A3)(d:c.Bb=b.Bb)(e:c.tm=b.tm):Ci c m:=⟨by rw[h1];exact r.n,by rw[h1];exact r.at_,by rw[h1];exact r.data,by rw[h2];exact r.A3,by rw[d];exact r.Bb,by rw[e];exact r.tm,by rw[d];exact r.C3,by rw[h2];exact r.Zr⟩
structure QB(A A':Ar)(k:Nat):Prop where
 n:A'.n.length<=A.n.length+k
 at_:∀x,(A'.nd x).AB.length<=max (A.nd x).AB.length 1000
 data:∀x,(A'.nd x).data.length<=max (A.nd x).data.length 100000
def LO{y:DB}(h1:y.AB.length<=1000)(h2:y.data.length<=100000):QB A (A.add y) 1:=by refine⟨by simp[Ar.add],λx=>?_,λx=>?_⟩<;>rw[FV]<;>split<;>omega
def QB.trans{k k':Nat}(h:QB A A' k)(g:QB A' A'' k'):QB A A'' (k+k'):=
 ⟨by have:=h.n;have:=g.n;omega,λx=>by have:=h.at_ x;have:=g.at_ x;omega,λx=>by have:=h.data x;have:=g.data x;omega⟩
def QB.le{k k':Nat}(h:QB A A' k)(hk:k<=k'):QB A A' k':=⟨by have:=h.n;omega,h.at_,h.data⟩
def nJ(h:Ml A A'):QB A A' 0:=⟨by rw[h.n];exact Af _,λx=>by rw[h.at_];omega,λx=>by rw[h.data];omega⟩
def dR:QB A (A.DS x) 1:=by
 unfold Ar.DS;split;.exact(nJ .refl).le Ab
 .have:=LO (A:=A) (y:={kind:=1,CD:=A.len+1}) (A8 _) (A8 _);exact⟨this.n,this.at_,this.data⟩
def sV{y:DB}(h1:y.AB.length<=1000)(h2:y.data.length<=100000):QB A (A.set x y) 0:=by refine⟨by rw[HF];exact Af _,λx=>?_,λx=>?_⟩<;>rw[GP]<;>split<;>omega
def nK{d sp:Int}{nm:Aq}{l:List AS}(hl:l.length<=1000):QB A (A.elem d sp nm l) 3:=by
 have ho:=A5 (Pw (l:=l)) hl;have g1:=LO (A:=A) (y:={kind:=4,CD:=d,AY:=sp,name:=nm,AB:=CI l}) ho (A8 _);unfold Ar.elem;simp only
 split;.have g2:=dR (A:=A.add {kind:=4,CD:=d,AY:=sp,name:=nm,AB:=CI l}) (x:=d);have g3:=LO (A:=(A.add {kind:=4,CD:=d,AY:=sp,name:=nm,AB:=CI l}).DS d) (y:={kind:=2,D0:=A.len+1,CD:=(A.add {kind:=4,CD:=d,AY:=sp,name:=nm,AB:=CI l}).Gy d}) (A8 _) (A8 _);exact g1.trans (k':=2) (g2.trans (k':=1) (g3.trans (k':=0) (sV ho (A8 _))))
 .exact g1.le Ab
def Ci.FG{A':Ar}{k:Nat}(r:Ci b (m+k))(h:QB b.a A' k):Ci {b with a:=A'} m:=
 ⟨by have:=r.n;have:=h.n;simp only;omega,λx=>by have:=r.at_ x;have:=h.at_ x;have:=r.n;simp only;omega,λx=>by have:=r.data x;have:=h.data x;have:=r.n;simp only;omega,by have:=r.A3;simp only;omega,by have:=r.Bb;simp only;omega,by have:=r.tm;simp only;omega,r.C3,r.Zr⟩
def sW{sp:Int}{nm:Aq}:(BS.Kn sp nm).length=nm.length:=by
 unfold BS.Kn;split
 .rcases My nm LL with h|h
  .rw[h]
  .conv=>rhs;rw[<-h.2,Xl]
 .rfl
variable{nm:Aq}{l:List AS}{sp:Int}
def J2(r:Ci b (m+3))(hl:E6 l):Ci (b.EU nm l sp p) m:=by
 unfold BS.EU;split;.exact r.FG (nK (by rw[Aw];exact hl.1))
 .exact r.le Ab
def Nl(hn:nm.length<=1000):(b.Ie nm l sp).name.length<=1000:=by
 unfold BS.Ie;split;.show(BS.Kn sp nm).length<=1000;rw[sW];exact hn
 .exact A8 _
def Ci.gu{i:Item}{l':List Item}(r:Ci b (m+1))(h1:l'.length<=b.A3.length+1)(h2:∀j∈l',j∈b.A3\/j=i)(hi:i.name.length<=1000):Ci {b with A3:=l'} m:=
 ⟨by have:=r.n;simp only;omega,λx=>by have:=r.at_ x;simp only;omega,λx=>by have:=r.data x;simp only;omega,by have:=r.A3;simp only;omega,by have:=r.Bb;simp only;omega,by have:=r.tm;simp only;omega,r.C3,λj hj=>by
  rcases h2 j hj with h|rfl
  .exact r.Zr j h
  .exact hi⟩
def Ci.gw{e:Cp}{l':List Cp}(r:Ci b (m+1))(h1:l'.length<=b.Bb.length+1)(h2:∀j∈l',j∈b.Bb\/j=e)(hi:e.name.length<=1000/\E6 e.AB):Ci {b with Bb:=l'} m:=
 ⟨by have:=r.n;simp only;omega,λx=>by have:=r.at_ x;simp only;omega,λx=>by have:=r.data x;simp only;omega,by have:=r.A3;simp only;omega,by have:=r.Bb;simp only;omega,by have:=r.tm;simp only;omega,λj hj=>by
  rcases h2 j hj with h|rfl
  .exact r.C3 j h
  .exact hi,r.Zr⟩
def LP(r:Ci b (m+4))(hl:E6 l)(hn:nm.length<=1000):Ci (b.Fa nm l sp) m:=by
 unfold BS.Fa;split
 .rename_i hs;have c:=J2 (m:=m+1) (nm:=nm) (sp:=sp) (p:=(b.place 0).1) (r.le Ab) hl;have r2:=c.J0 (J7 (x:=b.a.len+1) (p:=(b.place 0).1) (bf:=(b.place 0).2));have ho:(b.EU nm l sp (b.place 0).1).A3=b.A3:=by unfold BS.EU;rw[Ad hs]
  refine r2.gu (i:=b.Ie nm l sp) (by simp only[Ao,BT];exact Af _) (λj hj=>?_) (Nl hn);rcases Al.1 hj with h|h
  .exact .inl h
  .exact .inr (by simpa using h)
 .exact r.le Ab
def Zt(r:Ci b (m+5))(hl:E6 l)(hn:nm.length<=1000):Ci (b.Ko nm l) m:=by
 have c:=LP (m:=m+1) (sp:=1) (nm:=nm) (r.le Ab) hl hn;unfold BS.Ko;simp only
 obtain⟨l',h1,h2⟩:=TX (l:=(b.Fa nm l 1).Bb) (e:=⟨b.a.len+1,nm,l⟩);rw[h2];refine c.gw (e:=⟨b.a.len+1,nm,l⟩) (by have:=h1.length_le;simp;omega) (λj hj=>?_) ⟨hn,hl⟩;rcases Al.1 hj with h|h
 .exact .inl (h1.subset h)
 .exact .inr (by simpa using h)
end
end Go.Am
end
