/- Lemmas -/
import Derived.Test.YtjjnhgoknielgaaGreatDoorW33
import Derived.Test.YtjjnhgoknielgaaGreatDoorW34
set_option linter.all false
set_option maxRecDepth 100000
section
namespace Go.Am
open Go
structure Xt(b:BS):Prop where
 o:Ep b
 A3:b.A3=[]
 tm:b.tm=[]
 md:b.mode=1\/b.mode=2\/b.mode=3\/b.mode=4\/b.mode=6\/b.mode=7
 Kj:b.Au.length<=2
section
variable{b c:BS}{t:Dr}{qk:Dr->Bool}{j k n:Nat}
def Qi:BS.LD 1:=Az
def Z0:(b.Cr t).A3=b.A3:=by unfold BS.Cr BS.Co;rw[Ae Qi];simp only[BS.Gf,Ae Qi]
def mI:(b.Cr t).tm=b.tm:=by unfold BS.Cr BS.Co;rw[Ae Qi];simp only[BS.Gf,Ae Qi]
def Z3:(b.Cr t).Au.length=b.Au.length+1:=by unfold BS.Cr BS.Co;rw[Ae Qi];simp only[BS.Gf,Ae Qi,An,AQ]
def rS(h:b.A3=[]):b.AM=b:=by unfold BS.AM;rw[h];simp only[aCv,BS.JJ,aCw,A8];rw[<-h]
set_option maxHeartbeats 1000000 in
def Ri(x:Xt b)(hk:t.k=5\/t.k=6):Xt (b.apply qk t).1:=by
 have EV:t.ok:=by unfold Dr.ok;omega
 have ns:∀ws,¬t.st ws:=λws h=>by have:=h.1;omega
 have ne:∀ws,¬t.en ws:=λws h=>by have:=h.1;omega
 have no:∀ws,¬t.bD ws:=λws h=>by have:=h.1;omega
 have a:¬t.k=1:=Ac;have d:¬t.k=4:=Ac;have p:¬t.k=2:=Ac;have m:¬t.k=3:=Ac;have nx:=ZQ (qk:=qk) (t:=t) x.o;have If:∀r:BS×Bool,b.apply qk t=r->r.1.A3=[]->r.1.tm=[]->(r.1.mode=1\/r.1.mode=2\/r.1.mode=3\/r.1.mode=4\/r.1.mode=6\/r.1.mode=7)->r.1.Au.length<=2->Xt (b.apply qk t).1:=by
  intro r e h1 h2 h3 l;rw[e] at nx⊢;refine⟨?_,h1,h2,h3,l⟩;rcases nx with h|h
  .exfalso;have:=of_decide_eq_false h;omega
  .exact h.1
 have sh:=x.o.sh (by have:=x.md;omega);rcases x.md with hm|hm|hm|hm|hm|hm
 .have e0:b.apply qk t=b.Gq qk t:=by unfold BS.apply;rw[Aa (by simpa using EV),Ae hm]
  by_cases w:t.E8;.exact If (b,false) (by rw[e0];unfold BS.Gq;rw[Aa (by simpa using EV),Ae w]) x.A3 x.tm x.md x.Kj
  .exact If (b.NP.again 2) (by rw[e0];unfold BS.Gq;rw[Aa (by simpa using EV),Aa w,Aa d,Ae a]) x.A3 x.tm (.inr (.inl rfl)) x.Kj
 .have e0:b.apply qk t=b.DY t:=by unfold BS.apply;rw[Aa (by simpa using EV),Aa Ac,Ae hm]
  by_cases w:t.E8;.exact If (b,false) (by rw[e0];unfold BS.DY;rw[Aa (by simpa using EV),Aa a,Ae w]) x.A3 x.tm x.md x.Kj
  .have hl:b.Au=[]:=by
    rcases sh with h|h|h|h|h|h
    .exact h.2.1
    all_goals (have:=h.1;omega)
   have i1:(b.Cr (Gj aXM)).A3=[]:=by rw[Z0];exact x.A3
   have f:(b.Cr (Gj aXM)).tm=[]:=by rw[mI];exact x.tm
   have i3:(b.Cr (Gj aXM)).Au.length<=2:=by rw[Z3,hl];decide
   exact If ((b.Cr (Gj aXM)).again 3) (by rw[e0];unfold BS.DY;rw[Aa (by simpa using EV),Aa a,Aa w,Aa (no _),Aa d,Aa (ns _)]) i1 f (.inr (.inr (.inl rfl))) i3
 .have e0:b.apply qk t=b.DZ t:=by unfold BS.apply;rw[Aa (by simpa using EV),Aa Ac,Aa Ac,Ae hm]
  by_cases w:t.E8;.exact If (b,false) (by rw[e0];unfold BS.DZ;rw[Aa (by simpa using EV),Aa a,Ae w]) x.A3 x.tm x.md x.Kj
  .have hl:b.Au.length=1:=by
    rcases sh with h|h|h|h|h|h
    .have:=h.1;omega
    .obtain⟨_,e,_⟩:=h.2.1;rw[e];rfl
    all_goals (have:=h.1;omega)
   have i1:(b.Cr (Gj aXR)).A3=[]:=by rw[Z0];exact x.A3
   have f:(b.Cr (Gj aXR)).tm=[]:=by rw[mI];exact x.tm
   have i3:(b.Cr (Gj aXR)).Au.length<=2:=by rw[Z3,hl];decide
   exact If (({b.Cr (Gj aXR) with head:=b.Li 1}:BS).again 4) (by rw[e0];unfold BS.DZ;rw[Aa (by simpa using EV),Aa a,Aa w,Aa (no _),Aa d,Aa (ns _),Aa (ns _)]) i1 f (.inr (.inr (.inr (.inl rfl)))) i3
 .have e0:b.apply qk t=b.C2 t:=by unfold BS.apply;rw[Aa (by simpa using EV),Aa Ac,Aa Ac,Aa Ac,Ae hm]
  by_cases w:t.E8;.exact If (b.Jk t.r,false) (by rw[e0];unfold BS.C2;rw[Aa (by simpa using EV),Aa a,Aa (ns _),Aa (no _),Ae w]) x.A3 x.tm x.md x.Kj
  .refine If (b.FB.again 6) (by rw[e0];unfold BS.C2;rw[Aa (by simpa using EV),Aa a,Aa (ns _),Aa (no _),Aa w,Aa d,Aa (ns _),Aa (ns _),Aa (ns _),Aa (ns _),Aa (ns _),Aa (ns _),Aa (ne _),Aa (ns _),Aa (ne _)]) ?_ ?_ (.inr (.inr (.inr (.inr (.inl rfl))))) ?_;.show b.FB.A3=[];unfold BS.FB;split<;>exact x.A3
   .show b.FB.tm=[];unfold BS.FB;split<;>exact x.tm
   .show b.FB.Au.length<=2;unfold BS.FB;split;.exact x.Kj
    .show(b.Au.take _).length<=2;rw[Ax];have:=x.Kj;omega
 .have e0:b.apply qk t=b.Ex t:=by unfold BS.apply;rw[Aa (by simpa using EV),Aa Ac,Aa Ac,Aa Ac,Aa Ac,Aa Ac,Ae hm]
  by_cases w:t.E8;.exact If (b.Jk t.r,false) (by rw[e0];unfold BS.Ex;rw[Aa (by simpa using EV),Aa a,Aa (ns _),Aa (no _),Ae w]) x.A3 x.tm x.md x.Kj
  .have hl:b.Au.length=1:=by
    rcases sh with h|h|h|h|h|h
    .have:=h.1;omega
    .have:=h.1;omega
    .have:=h.1;omega
    .have:=h.1;omega
    .obtain⟨_,e,_⟩:=h.2.1;rw[e];rfl
    .have:=h.1;omega
   have i1:(b.Cr (Gj aXS)).A3=[]:=by rw[Z0];exact x.A3
   have f:(b.Cr (Gj aXS)).tm=[]:=by rw[mI];exact x.tm
   have i3:(b.Cr (Gj aXS)).Au.length<=2:=by rw[Z3,hl];decide
   exact If ((b.Cr (Gj aXS)).again 7) (by rw[e0];unfold BS.Ex;rw[Aa (by simpa using EV),Aa a,Aa (ns _),Aa (no _),Aa w,Aa d,Aa (ns _),Aa (ns _),Aa (ns _),Aa (ns _),Aa (ne _)]) i1 f (.inr (.inr (.inr (.inr (.inr rfl))))) i3
 .have e0:b.apply qk t=b.H7 t:=by unfold BS.apply;rw[Aa (by simpa using EV),Aa Ac,Aa Ac,Aa Ac,Aa Ac,Aa Ac,Aa Ac,Ae hm]
  rcases hk with i|g
  .refine If (b.HL t,false) (by rw[e0];unfold BS.H7;rw[Aa (by simpa using EV),Ae i]) ?_ ?_ ?_ ?_;all_goals (show _;unfold BS.HL;rw[rS x.A3];split)
   .exact x.A3
   .simp only;split<;>exact x.A3
   .exact x.tm
   .simp only;split<;>exact x.tm
   .exact x.md
   .simp only;split<;>exact x.md
   .exact x.Kj
   .simp only;split<;>exact x.Kj
  .exact If ({b with stop:=true},false) (by rw[e0];unfold BS.H7;rw[Aa (by simpa using EV),Aa Ac,Aa d,Ae g,Aa (by rw[x.tm];simp)]) x.A3 x.tm x.md x.Kj
end
def Xj(t:Dr)(n k:Nat)(c:BS):Prop:=Xt c/\MF t c<=k/\CH c (n+2440+5*k)
section
variable{b c:BS}{t:Dr}{qk:Dr->Bool}{j k n:Nat}{l:List Dr}
def Xt.ours(x:Xt c):Gv c.mode=true:=by have:=x.md;exact Ak Ac
def Xj.gz(h:Xj t n k c):Gz c (n+8*(4*(2+0+8)+10)+8*0+2000) 2 0:=by obtain⟨x,_,r⟩:=h;exact⟨x.o.cm.ok,r.le Ac,x.Kj,by rw[x.A3];exact Ad _⟩
def Xj.init(x:Xt b)(r:CH b (n+3000)):Xj t n (9+b.tm.length) b:=by have:=x.tm;exact⟨x,aCf,r.le (by rw[this,AZ];omega)⟩
def Xj.step(h:Xj t n (k+1) c)(hk:t.k=5\/t.k=6)(e:(c.apply qk t).2=true):Xj t n k (c.apply qk t).1:=by
 obtain⟨x,h2,r⟩:=h;have d:=Ri (qk:=qk) x hk;rcases ZQ (qk:=qk) (t:=t) x.o with a|⟨a,g⟩
 .rw[d.ours] at a;cases a
 .obtain⟨i,f⟩:=g e;exact⟨d,Ac,f.r _ (r.le Ac)⟩
def Xj.If(h:Xj t n (k+1) c)(hk:t.k=5\/t.k=6)(ht:t.Sm):Xt (c.apply qk t).1/\CH (c.apply qk t).1 n:=
 ⟨Ri h.1 hk,(Gz.apply (n:=n) (o:=2) (a:=0) (qk:=qk) (t:=t) h.gz h.1.o.lT ht).rm⟩
def aH1(x:Xt b)(hk:t.k=5\/t.k=6)(ht:t.Sm)(r:CH b (n+3000)):Vp qk t b:=by refine⟨by rw[x.tm];exact Bn _,Xj t n,.init x r,λk c h ho=>?_⟩;exact⟨n,2,0,h.gz,h.1.o.lT,λd=>by have:=h.1.md;omega,λa=>h.step hk a⟩
def xW(hk:t.k=5\/t.k=6)(ht:t.Sm):∀{k:Nat} {c:BS},Xj t n k c->(L4 qk t k c).2=true/\Xt (L4 qk t k c).1/\CH (L4 qk t k c).1 n
 |0,c,h=>by have:=@Œ c t;have:=h.2.1;omega
 |k+1,c,h=>by
  rw[L4,h.1.ours,Aa AB];cases a:(c.apply qk t).2 with
  |false=>rw[Ae rfl];exact⟨rfl,h.If hk ht⟩
  |true=>rw[Aa AB];exact xW hk ht (h.step hk a)
def Xk(l:List Dr)(b:BS):Prop:=(∀t∈l,(t.k=5\/t.k=6)/\t.Sm)/\Xt b/\CH b (3000*l.length)
def Xk.step(h:Xk (t::l) b):Vp qk t b/\Xk l (L4 qk t (9+b.tm.length) b).1:=by obtain⟨hl,x,r⟩:=h;obtain⟨hk,ht⟩:=hl t AB;have a:CH b (3000*l.length+3000):=r.le (by rw[AJ];omega);exact⟨aH1 x hk ht a,λy hy=>hl y (by simp[hy]),(xW hk ht (.init x a)).2⟩
def xX:Xt (Ih false):=⟨nu,rfl,rfl,.inl rfl,Bn _⟩
def oj:∀{l:List Dr} {b:BS},Xk l b->(Ew qk l b).2=2/\Xt (Ew qk l b).1/\CH (Ew qk l b).1 0
 |[],b,h=>by rw[Ew];exact⟨rfl,h.2.1,h.2.2.le (Bn _)⟩
 |t::l,b,h=>by obtain⟨hl,x,r⟩:=h;obtain⟨hk,ht⟩:=hl t AB;have a:CH b (3000*l.length+3000):=r.le (by rw[AJ];omega);obtain⟨h1,h2,h3⟩:=xW (qk:=qk) hk ht (Xj.init (t:=t) x a);rw[Ew,h1,Aa AB,h2.ours,Aa AB];exact oj ⟨λy hy=>hl y (by simp[hy]),h2,h3⟩
end
section
variable{A:Ar}{b c:BS}{t:Dr}{qk:Dr->Bool}{s:Ah}{p x n e:Int}
def xY(fo:b.D4=false)(hn:b.Au≠[])(hc:(b.a.nd (DP b.Au).node).cont=0):b.place 0=((DP b.Au).node,0):=by
 unfold BS.place;simp only
 rw[Aa (λh=>hn h.2),Ae trivial,fo];simp only[B5,aD,DK];rw[Aa (by rw[hc];simp)]
def rT(hk:(A.nd p).kind=4)(Z4:(A.nd p).Bi=[x])(hx:(A.nd x).kind=5):BS.JT A s p 0=A.N6 x ((A.nd x).data++s):=by unfold BS.JT;rw[Ae (.inl hk),Z4];simp[QY,hx]
def mJ(hk:(A.nd p).kind=4)(Z4:(A.nd p).Bi=[]):BS.JT A s p 0=(A.add {kind:=5,BM:=(A.nd p).BM,data:=s}).Et (A.len+1) p 0:=by unfold BS.JT;rw[Ae (.inl hk),Z4];simp[QY]
def Z5(A:Ar)(p:Int)(s:Ah):Prop:=(s=[]/\(A.nd p).Bi=[])\/∃x,(A.nd p).Bi=[x]/\A.has x/\x≠p/\(A.nd x).kind=5/\(A.nd x).data=s/\s≠[]
def om(r:Int):Ga r≠[]:=by
 unfold Ga;repeat' split
 all_goals simp
def xZ{d:Ah}(hs:s≠[])(hk:(A.nd p).kind=4)(Z4:(A.nd p).Bi=[x])(hx:A.has x)(a:x≠p)(f:(A.nd x).kind=5)(hd:(A.nd x).data=d):Z5 (BS.JT A s p 0) p (d++s):=by
 rw[rT hk Z4 f,hd];unfold Ar.N6;refine .inr ⟨x,?_,JI.2 hx,a,?_,?_,λh=>hs (aIb.1 h).2⟩;.rw[IS,Aa (λh=>a h.1.symm)];exact Z4
 .rw[IS,Ae ⟨rfl,hx⟩];exact f
 .rw[IS,Ae ⟨rfl,hx⟩]
def rU(hs:s≠[])(ok:Eo A e)(hp:A.has p)(hk:(A.nd p).kind=4)(Z4:(A.nd p).Bi=[]):Z5 (BS.JT A s p 0) p s:=by
 rw[mJ hk Z4];have h:=aCm (x:={kind:=5,BM:=(A.nd p).BM,data:=s}) (bf:=0) ok rfl ⟨(Az:(5:Int)≠1),(Az:(5:Int)≠2)⟩ hp (by unfold MO;omega) (λh=>Ac) (λh=>absurd rfl h);have a:p≠A.len+1:=Oo hp;refine .inr ⟨A.len+1,?_,ŝ.2 (DO.2 (.inr rfl)),a.symm,?_,?_,hs⟩;.rw[h,Aa a,Ae rfl];show I1 (A.nd p).Bi 0 (A.len+1)=_;rw[Z4];rfl
 .rw[h,Ae rfl]
 .rw[h,Ae rfl]
def yA{d:Ah}(hs:s≠[])(ok:Eo A e)(hp:A.has p)(hk:(A.nd p).kind=4)(h:Z5 A p d):Z5 (BS.JT A s p 0) p (d++s):=by
 rcases h with⟨rfl,h⟩|⟨x,h1,h2,h3,f,a,_⟩
 .exact rU hs ok hp hk h
 .exact xZ hs hk h1 h2 h3 f a
structure Tb(b:BS)(d:Ah):Prop where
 x:Xt b
 m7:b.mode=7
 ex:∃h o,b.Au=[h,o]/\AH [Ii] o=true/\Z5 b.a o.node d
def chB(t:Dr):Ah:=if t.r=0 then[] else Ga t.r
def oq{d:Ah}(x:Tb b d)(hk:t.k=5):b.apply qk t=(b.HL t,false)/\Tb (b.HL t) (d++chB t):=by
 have EV:t.ok:=by unfold Dr.ok;omega
 have hm:=x.m7;have e0:b.apply qk t=(b.HL t,false):=by unfold BS.apply;rw[Aa (by simpa using EV),Aa Ac,Aa Ac,Aa Ac,Aa Ac,Aa Ac,Aa Ac,Ae hm];unfold BS.H7;rw[Aa (by simpa using EV),Ae hk]
 refine⟨e0,?_⟩;have i:=Ri (qk:=qk) x.x (.inl hk);rw[e0] at i;obtain⟨h,o,e,ho,hd⟩:=x.ex;have ok:=x.x.o.cm.ok;have f:=ok.op o (by rw[e];simp);have key:∀c:BS,c=b.HL t->c.mode=b.mode/\c.Au=b.Au/\Z5 c.a o.node (d++chB t):=by
  intro c hc;unfold BS.HL chB at*;by_cases h0:t.r=0;.rw[Ae h0] at hc⊢;rw[hc,A8];exact⟨rfl,rfl,hd⟩
  .rw[Aa h0,rS x.x.A3] at hc;rw[Aa h0];have m:DP b.Au=o:=by rw[e];rfl
   have g:(b.a.nd o.node).cont=0:=by refine RZ λh1=>?_;have h2:=(ok.ok.Tg o.node f.1).QW h1;have h3:=(B9.1 ho).2;simp at h3;have l:=h2.2.2;rw[f.2.2.2,h3] at l;revert l;decide
   have hp:=xY x.x.o.cm.fo (by rw[e];simp) (by rw[m];exact g);rw[m] at hp;have j:=yA (om t.r) ok.ok f.1 f.2.1 hd;have ea:(b.Jk t.r).a=BS.JT b.a (Ga t.r) o.node 0:=by unfold BS.Jk;rw[hp]
   simp only at hc;split at hc;.rw[hc];exact⟨rfl,rfl,by rw[ea];exact j⟩
   .rw[hc];exact⟨rfl,rfl,by show Z5 (b.Jk t.r).a _ _;rw[ea];exact j⟩
 obtain⟨v,u,q⟩:=key _ rfl;exact⟨i,v.trans hm,h,o,u.trans e,ho,q⟩
end
section
variable{A:Ar}{b c:BS}{t:Dr}{qk:Dr->Bool}{s d:Ah}{p x n e bf:Int}{k:Nat}{l:List Dr}
def wq(h0:(A.nd n).GO=0)(hn:(A.nd n).Bi=[]):((A.Et n p bf).nd n).Bi=[]:=by
 unfold Ar.Et;split;.exact hn
 .unfold Ar.F9;split
  .rename_i f;have a:A.cut n=A:=by unfold Ar.cut;simp only;rw[Ae h0]
   rw[a,SN f.hp f.hn (lY f),Ae rfl];exact hn
  .exact hn
def wv:((b.Cr t).a.nd (b.a.len+1)).Bi=[]:=by unfold BS.Cr BS.Co;rw[Ae Qi];simp only[BS.Gf,Ae Qi];have h:=OY (A:=b.a) (d:=b.Ko (b.place 0).1) (sp:=1) (nm:=BS.Mf 1 t.name) (l:=t.As.map (DR 1));exact wq h.2.2.2.2.2.1 h.2.2.2.2.1
def ũ:(b.Cr t).Au=b.Au++[b.HA t.name t.As 1]:=by unfold BS.Cr BS.Co;rw[Ae Qi];simp only[BS.Gf,Ae Qi]
def Re(c:BS):Prop:=Xt c/\(c.mode=7->Tb c [])
def aCr(h:Re c)(hk:t.k=5\/t.k=6)(hw:¬t.E8)(i:(c.apply qk t).2=true):Re (c.apply qk t).1:=by
 obtain⟨x,_⟩:=h;have j:=Ri (qk:=qk) x hk;refine⟨j,λm7=>?_⟩;have EV:t.ok:=by unfold Dr.ok;omega
 have ns:∀ws,¬t.st ws:=λws h=>by have:=h.1;omega
 have ne:∀ws,¬t.en ws:=λws h=>by have:=h.1;omega
 have no:∀ws,¬t.bD ws:=λws h=>by have:=h.1;omega
 have g:¬t.k=1:=Ac;have f:¬t.k=4:=Ac;rcases x.md with hm|hm|hm|hm|hm|hm
 .exfalso;have e0:c.apply qk t=c.NP.again 2:=by unfold BS.apply;rw[Aa (by simpa using EV),Ae hm];unfold BS.Gq;rw[Aa (by simpa using EV),Aa hw,Aa f,Ae g]
  rw[e0] at m7;exact absurd (show(2:Int)=7 from m7) Az
 .exfalso;have e0:c.apply qk t=(c.Cr (Gj aXM)).again 3:=by unfold BS.apply;rw[Aa (by simpa using EV),Aa Ac,Ae hm];unfold BS.DY;rw[Aa (by simpa using EV),Aa g,Aa hw,Aa (no _),Aa f,Aa (ns _)]
  rw[e0] at m7;exact absurd (show(3:Int)=7 from m7) Az
 .exfalso;have e0:c.apply qk t=({c.Cr (Gj aXR) with head:=c.Li 1}:BS).again 4:=by unfold BS.apply;rw[Aa (by simpa using EV),Aa Ac,Aa Ac,Ae hm];unfold BS.DZ;rw[Aa (by simpa using EV),Aa g,Aa hw,Aa (no _),Aa f,Aa (ns _),Aa (ns _)]
  rw[e0] at m7;exact absurd (show(4:Int)=7 from m7) Az
 .exfalso;have e0:c.apply qk t=c.FB.again 6:=by unfold BS.apply;rw[Aa (by simpa using EV),Aa Ac,Aa Ac,Aa Ac,Ae hm];unfold BS.C2;rw[Aa (by simpa using EV),Aa g,Aa (ns _),Aa (no _),Aa hw,Aa f,Aa (ns _),Aa (ns _),Aa (ns _),Aa (ns _),Aa (ns _),Aa (ns _),Aa (ne _),Aa (ns _),Aa (ne _)]
  rw[e0] at m7;exact absurd (show(6:Int)=7 from m7) Az
 .have e0:c.apply qk t=(c.Cr (Gj aXS)).again 7:=by unfold BS.apply;rw[Aa (by simpa using EV),Aa Ac,Aa Ac,Aa Ac,Aa Ac,Aa Ac,Ae hm];unfold BS.Ex;rw[Aa (by simpa using EV),Aa g,Aa (ns _),Aa (no _),Aa hw,Aa f,Aa (ns _),Aa (ns _),Aa (ns _),Aa (ns _),Aa (ne _)]
  rw[e0] at j⊢;have sh:=x.o.sh Ac;have hl:∃h,c.Au=[h]:=by
   rcases sh with h|h|h|h|h|h
   .have:=h.1;omega
   .have:=h.1;omega
   .have:=h.1;omega
   .have:=h.1;omega
   .obtain⟨_,e,_⟩:=h.2.1;exact⟨_,e⟩
   .have:=h.1;omega
  obtain⟨h,e⟩:=hl;refine⟨j,rfl,h,c.HA aXS [] 1,?_,?_,.inl ⟨rfl,?_⟩⟩;.show(c.Cr _).Au=_;rw[ũ,e];rfl
  .unfold BS.HA;rw[Ae Qi];rw[B9];exact⟨rfl,by simp[BS.Mf]⟩
  .show((c.Cr _).a.nd _).Bi=[];have:(c.HA aXS [] 1).node=c.a.len+1:=by unfold BS.HA;rw[Ae Qi]
   rw[this];exact wv
 .exfalso;rcases hk with q|m
  .have e0:c.apply qk t=(c.HL t,false):=by unfold BS.apply;rw[Aa (by simpa using EV),Aa Ac,Aa Ac,Aa Ac,Aa Ac,Aa Ac,Aa Ac,Ae hm];unfold BS.H7;rw[Aa (by simpa using EV),Ae q]
   rw[e0] at i;cases i
  .have e0:c.apply qk t=({c with stop:=true},false):=by unfold BS.apply;rw[Aa (by simpa using EV),Aa Ac,Aa Ac,Aa Ac,Aa Ac,Aa Ac,Aa Ac,Ae hm];unfold BS.H7;rw[Aa (by simpa using EV),Aa Ac,Aa f,Ae m,Aa (by rw[x.tm];simp)]
   rw[e0] at i;cases i
def Ū(x:Tb b d)(hk:t.k=6):b.apply qk t=({b with stop:=true},false)/\Tb {b with stop:=true} d:=by
 have EV:t.ok:=by unfold Dr.ok;omega
 have hm:=x.m7;have e0:b.apply qk t=({b with stop:=true},false):=by unfold BS.apply;rw[Aa (by simpa using EV),Aa Ac,Aa Ac,Aa Ac,Aa Ac,Aa Ac,Aa Ac,Ae hm];unfold BS.H7;rw[Aa (by simpa using EV),Aa Ac,Aa Ac,Ae hk,Aa (by rw[x.x.tm];simp)]
 have a:=Ri (qk:=qk) x.x (.inr hk);rw[e0] at a;obtain⟨h,o,e,ho,hd⟩:=x.ex;exact⟨e0,a,hm,h,o,e,ho,hd⟩
def aH2(h:Re c)(hk:t.k=5\/t.k=6)(hw:¬t.E8)(hF:(c.apply qk t).2=false):Tb c []:=by
 obtain⟨x,g⟩:=h;have EV:t.ok:=by unfold Dr.ok;omega
 have ns:∀ws,¬t.st ws:=λws h=>by have:=h.1;omega
 have ne:∀ws,¬t.en ws:=λws h=>by have:=h.1;omega
 have no:∀ws,¬t.bD ws:=λws h=>by have:=h.1;omega
 have f:¬t.k=1:=Ac;have a:¬t.k=4:=Ac;rcases x.md with hm|hm|hm|hm|hm|hm
 .exfalso;have e0:c.apply qk t=c.NP.again 2:=by unfold BS.apply;rw[Aa (by simpa using EV),Ae hm];unfold BS.Gq;rw[Aa (by simpa using EV),Aa hw,Aa a,Ae f]
  rw[e0] at hF;cases hF
 .exfalso;have e0:c.apply qk t=(c.Cr (Gj aXM)).again 3:=by unfold BS.apply;rw[Aa (by simpa using EV),Aa Ac,Ae hm];unfold BS.DY;rw[Aa (by simpa using EV),Aa f,Aa hw,Aa (no _),Aa a,Aa (ns _)]
  rw[e0] at hF;cases hF
 .exfalso;have e0:c.apply qk t=({c.Cr (Gj aXR) with head:=c.Li 1}:BS).again 4:=by unfold BS.apply;rw[Aa (by simpa using EV),Aa Ac,Aa Ac,Ae hm];unfold BS.DZ;rw[Aa (by simpa using EV),Aa f,Aa hw,Aa (no _),Aa a,Aa (ns _),Aa (ns _)]
  rw[e0] at hF;cases hF
 .exfalso;have e0:c.apply qk t=c.FB.again 6:=by unfold BS.apply;rw[Aa (by simpa using EV),Aa Ac,Aa Ac,Aa Ac,Ae hm];unfold BS.C2;rw[Aa (by simpa using EV),Aa f,Aa (ns _),Aa (no _),Aa hw,Aa a,Aa (ns _),Aa (ns _),Aa (ns _),Aa (ns _),Aa (ns _),Aa (ns _),Aa (ne _),Aa (ns _),Aa (ne _)]
  rw[e0] at hF;cases hF
 .exfalso;have e0:c.apply qk t=(c.Cr (Gj aXS)).again 7:=by unfold BS.apply;rw[Aa (by simpa using EV),Aa Ac,Aa Ac,Aa Ac,Aa Ac,Aa Ac,Ae hm];unfold BS.Ex;rw[Aa (by simpa using EV),Aa f,Aa (ns _),Aa (no _),Aa hw,Aa a,Aa (ns _),Aa (ns _),Aa (ns _),Aa (ns _),Aa (ne _)]
  rw[e0] at hF;cases hF
 .exact g hm
def aH3:Re (Ih false):=⟨xX,λh=>absurd (show(1:Int)=7 from h) Az⟩
def aH4(h:Re c)(hk:t.k=5\/t.k=6)(hw:¬t.E8)(h2:(L4 qk t k c).2=true)(h3:Gv (L4 qk t k c).1.mode=true):Tb (L4 qk t k c).1 (if t.k=5 then chB t else[]):=by
 refine Xz (R:=Re) (Q:=λc=>Tb c (if t.k=5 then chB t else[])) (λc r _ g _=>aCr r hk hw g) (λc r _ hF _=>?_) h h2 h3;have a:=aH2 r hk hw hF;rcases hk with f|i
 .obtain⟨e0,x⟩:=oq (qk:=qk) a f;rw[e0,Ae f];exact x
 .obtain⟨e0,x⟩:=Ū (qk:=qk) a i;rw[e0,Aa Ac];exact x
def aH5(x:Tb c d)(hk:t.k=5\/t.k=6):Tb (L4 qk t (9+c.tm.length) c).1 (d++if t.k=5 then chB t else[]):=by
 have e:9+c.tm.length=8+c.tm.length+1:=Ac;rw[e,L4,x.x.ours,Aa AB];rcases hk with a|f
 .obtain⟨e0,x⟩:=oq (qk:=qk) x a;rw[e0,Ae a];simp only[BN];exact x
 .obtain⟨e0,x⟩:=Ū (qk:=qk) x f;rw[e0,Aa (Ac:¬t.k=5),A8];simp only[BN];exact x
def wz(hw:t.E8)(hk:t.k=5):(L4 qk t (9+(Ih false).tm.length) (Ih false)).1=Ih false:=by
 have EV:t.ok:=by unfold Dr.ok;omega
 have e0:(Ih false).apply qk t=(Ih false,false):=by unfold BS.apply;rw[Aa (by simpa using EV),Ae (show(Ih false).mode=1 from rfl)];unfold BS.Gq;rw[Aa (by simpa using EV),Ae hw]
 have e:9+(Ih false).tm.length=8+(Ih false).tm.length+1:=Ac;rw[e,L4,xX.ours,Aa AB,e0];rfl
def mK(l:List Dr):Ah:=l.flatMap λt=>if t.k=5 then chB t else[]
def ot:∀{l:List Dr} {b:BS} {d:Ah},Tb b d->(∀t∈l,t.k=5\/t.k=6)->(Ew qk l b).2=2->Tb (Ew qk l b).1 (d++mK l)
 |[],b,d,x,_,_=>by rw[Ew];simpa[mK] using x
 |t::l,b,d,x,hl,h=>by obtain⟨h1,h2,h3⟩:=O9 h;rw[h3] at h⊢;have a:=aH5 (qk:=qk) (t:=t) x (hl t AB);have:=ot a (λy hy=>hl y (by simp[hy])) h;unfold mK at*;rw[IF,<-A7];exact this
def rV:∀{l:List Dr},(∀t∈l,t.k=5\/t.k=6)->(Ew qk l (Ih false)).2=2->(∃t∈l,¬t.E8)->Tb (Ew qk l (Ih false)).1 (mK (l.dropWhile λt=>decide t.E8))
 |[],_,_,h=>by obtain⟨t,h,_⟩:=h;cases h
 |t::l,hl,h,hx=>by
  obtain⟨h1,h2,h3⟩:=O9 h;rw[h3] at h⊢;by_cases w:t.E8
  .have e:=wz (qk:=qk) w w.1;rw[e] at h⊢;rw[FX (by simpa using w)];refine rV (λy hy=>hl y (by simp[hy])) h ?_;obtain⟨y,hy,hn⟩:=hx;rcases AF.1 hy with rfl|hy
   .exact absurd w hn
   .exact⟨y,hy,hn⟩
  .rw[EB (by simpa using w)];have a:=aH4 (qk:=qk) (t:=t) aH3 (hl t AB) w h1 h2;have:=ot a (λy hy=>hl y (by simp[hy])) h;unfold mK at*;rw[IF];exact this
end
section
variable{h:Ai}{a n:Nat}{m:Option Nat}{ps:List PN}{A:Ar}{x e:Int}
def mL(w:PA h a n m ps A){u:Ai}:PA (h++u) a n m ps A:=w.FV λi hi=>Al (w.lt i hi)
def rW(A:Ar)(k:Int):List Ab:=[.str (A.nd k).name]
def aL8(w:PA h a n m ps A)(g:NN A)(ok:Eo A e)(hx:A.has x):∃c v2 u,CD cx 8 [Pt a 0,I x] h (.tuple [c,v2]) (h++u)/\Bx 1 ((A.el x).map (rW A)) c/\Bx 1 ((A.el x).map Di) v2:=by
 have hlen:=g.Bi ok x;obtain⟨kv,o,hk⟩:=ki (x:=x) w g hlen;have lk:=Bx.GN hk;have Ŵ:AY=140737488355328:=rfl;have Z4:=ok.Ok x hx;have Ql:Ev cx 8 [Pt a 0,I x] h λr h'=>∃c v2 u,r= .tuple [c,v2]/\h'=h++u/\Bx 1 ((A.el x).map (rW A)) c/\Bx 1 ((A.el x).map Di) v2:=by
  unfold Ar.el;generalize(A.nd x).Bi=ks at*;unfold Ev;rw[aJ2,t8];simp only[abS,o.Af];refine Cv (λs:Ab×Ab×Nat=>[s.1,s.2.1,I (s.2.2:Int)]) (λs h1=>s.2.2<=ks.length/\∃u,h1=h++u/\Bx 1 (((ks.take s.2.2).filter λk=>decide ((A.nd k).kind=4)).map (rW A)) s.1/\Bx 1 (((ks.take s.2.2).filter λk=>decide ((A.nd k).kind=4)).map Di) s.2.1) (λs=>ks.length-s.2.2) (.slnil,.slnil,0) rfl ⟨Bn _,[],AB,.inr ⟨rfl,rfl⟩,.inr ⟨rfl,rfl⟩⟩ ?_;rintro⟨c,v2,k⟩ h1 ⟨sX,u,rfl,i1,f⟩;simp only at sX i1 f⊢;by_cases hlt:k<ks.length
  .have i:(k:Int)<(ks.length:Int):=by omega
   have l:=Bx.DN (k:= .i64) hk hlt;rw[Di] at l;have hy:=Z4 _ (AG hlt);obtain⟨r,t,r2,K,V,B,_⟩:=ę (x:=ks[k]) (mL w (u:=u)) g (g.Bi ok _);rw[B,Ae hy.1] at r2;have j:ks.take (k+1)=ks.take k++[ks[k]]:=Bb hlt;have Jz:((ks.take k).filter λk=>decide ((A.nd k).kind=4)).length<=1000000000:=by have:=Oe (λk=>decide ((A.nd k).kind=4)) (ks.take k);rw[Ax] at this;omega
   generalize ks[k]=y at*;have pi:=DB (Ac:k<9223372036854775807);by_cases d:(A.nd y).kind=4
   .have z:AE (.Cb 1) [.str (A.nd y).name]=some (.sl 1 ([y].map (rW A))):=rfl;have v:AE (.Cb 1) [I y]=some (.sl 1 ([y].map Di)):=rfl;obtain⟨q,a1,b1⟩:=Bx.Wy (l2:=[y]) (b:=16) i1 .mk (by simp only[AQ];omega);obtain⟨p,a2,b2⟩:=Bx.Wy (l2:=[y]) (b:=8) f .mk (by simp only[AQ];omega);simp only[abS,lk,i,l,r2.Af,d,z,a1,v,a2,pi,CP,CG,AN,AK,GV,AP,AO,EN];refine By.next (q,p,k+1) rfl ⟨hlt,u++t,by rw[A7],?_,?_⟩ FY;.simp only;rw[j,Be,CW (by simp[d])];exact b1
    .simp only;rw[j,Be,CW (by simp[d])];exact b2
   .simp only[abS,lk,i,l,r2.Af,d,pi,CP,CG,AN,AK,GV,AP,AO,EN];refine By.next (c,v2,k+1) rfl ⟨hlt,u++t,by rw[A7],?_,?_⟩ FY;.simp only;rw[j,Be,CX (by simp[d])];simpa using i1
    .simp only;rw[j,Be,CX (by simp[d])];simpa using f
  .have i:¬(k:Int)<(ks.length:Int):=by omega
   rw[Bf Ac] at i1 f;simp only[abS,lk,i];exact⟨_,rfl,c,v2,u,rfl,rfl,i1,f⟩
 obtain⟨r,h',hr,c,v2,u,rfl,rfl,b1,b2⟩:=Ql.ret;exact⟨c,v2,u,hr,b1,b2⟩
def NQ:Dr:=⟨6,[],false,[],false,[],false,false,[],false,[],0⟩
def w_:NQ.qQ saB=true:=Az
def aH6:aRp (NQ,.slnil):=⟨ZR,(Az:(-2147483648:Int)<=0/\(0:Int)<=2147483647),Bn _⟩
end
def S6(r:Int):Int:=if MY r then r else 65533
def Ka(l:List Int):List Int:=((l.dropWhile λr=>decide (Qr r)).map S6).filter λr=>decide (r≠0)
def XA{r:Int}:S6 r=0↔r=0:=by
 unfold S6;by_cases h:MY r;.rw[Ae h]
 .rw[Aa h];refine⟨λh=>Ac,λh2=>?_⟩;rw[h2] at h;exact absurd (.inl ⟨Lb _,Az⟩) h
def aH7(r:Int):chB (WL r)=if r=0 then[] else Ga r:=rfl
def mM:∀l:List Int,mK (l.map WL++[NQ])=Ms ((l.map S6).filter λr=>decide (r≠0))
 |[]=>by simp[mK,Ms,NQ]
 |r::l=>by
  have ih:=mM l;unfold mK Ms at*;rw[AV,BD,IF,ih,AV];show(if(WL r).k=5 then chB (WL r) else[])++_=_;rw[Ae (show(WL r).k=5 from rfl),aH7];by_cases h:r=0;.rw[Ae h,CX (by simp[XA.2 h])];rfl
  .rw[Aa h,CW (by simpa using λh2=>h (XA.1 h2)),IF];have:Ga (S6 r)=Ga r:=uj r;rw[this]
def rX{r:Int}:(WL r).E8↔Qr r:=⟨λh=>h.2,λh=>⟨rfl,h⟩⟩
def fL:∀l:List Int,mK ((l.map WL++[NQ]).dropWhile λt=>decide t.E8)=Ms (Ka l)
 |[]=>by
  have:(([].map WL++[NQ]).dropWhile λt=>decide t.E8)=[].map WL++[NQ]:=by rw[CM,Bq,EB (by simp[Dr.E8,NQ])]
  rw[this,mM];rfl
 |r::l=>by
  by_cases h:Qr r;.have:=fL l;rw[AV,BD,FX (by simpa using rX.2 h),this];unfold Ka;rw[FX (by simpa using h)]
  .rw[AV,BD,EB (by simpa using λh2=>h (rX.1 h2)),<-BD,<-AV,mM];unfold Ka;rw[EB (by simpa using h)]
def HH(l:List Int):Bool:=l.all λr=>decide (Qr r)
def xa(l:List Int)(r:Int):Ka (l++[r])=Ka l++(if HH (l++[r])=false/\r≠0 then[S6 r] else[]):=by
 have one:∀r,([r].map S6).filter (λr=>decide (r≠0))=if r≠0 then[S6 r] else[]:=λr=>by
  by_cases h:r=0;.rw[Aa (by simpa using h),AV,CM,CX (by simp[XA.2 h])];rfl
  .rw[Ae h,AV,CM,CW (by simpa using λh2=>h (XA.1 h2))];rfl
 unfold Ka;induction l with
 |nil=>
  by_cases h:Qr r;.rw[Bq,FX (by simpa using h),Aa (by simp[HH,h])];rfl
  .rw[Bq,EB (by simpa using h),one];by_cases h0:r=0;.rw[Aa (by simpa using h0),Aa (λh=>h.2 h0)];rfl
   .rw[Ae h0,Ae ⟨by simp[HH,h],h0⟩];rfl
 |cons x l ih=>
  by_cases h:Qr x
  .rw[BD,FX (by simpa using h),FX (by simpa using h),ih];have:HH (x::(l++[r]))=HH (l++[r]):=by simp[HH,h]
   rw[this]
  .rw[BD,EB (by simpa using h),EB (by simpa using h),<-BD,B3,Be,one];have ha:HH (x::l++[r])=false:=by simp[HH,h]
   rw[ha];by_cases h0:r=0;.rw[Aa (by simpa using h0),Aa (λh=>h.2 h0)]
   .rw[Ae h0,Ae ⟨rfl,h0⟩]
def yB(l:List Int)(r:Int):HH (l++[r])=(HH l&&decide (Qr r)):=by simp[HH]
def cv8{r:Int}(h1:0<=r)(h2:r<128):AE (.conv .u8) [.int .i32 r]=some (.int .u8 r):=by rw[Rz,IntKind.wrap_u8,Int.emod_eq_of_lt h1 Ac]
def fM{r:Int}(h:Qr r):0<=r/\r<128:=by unfold Qr at h;omega
def mN:∀l,WZ [.sl (.int .i32)] l->Ev cx 4 l [] λr _=>r= .bool true:=by
 rintro _ ⟨tv,_,rfl,hc,rfl⟩;obtain⟨text,ht,S⟩:=v_ hc;have lt:=Bx.GN ht;unfold Ev;rw[aJ1,t4];by_cases k3:(300:Int)<(text.length:Int);.simp only[abS,lt,k3,xP.Bz rfl rfl];exact⟨_,rfl,rfl⟩
 simp only[abS,lt,k3];refine Cv (λs:Ab×Ab×Nat=>[s.1,s.2.1,.bool (HH (text.take s.2.2)),I (s.2.2:Int)]) (λs h1=>s.2.2<=text.length/\h1=[]/\Bx 12 (((text.take s.2.2).map λr=>(WL r,Ab.slnil)).map λp=>CT p.1 p.2) s.1/\Bx 1 ((Ka (text.take s.2.2)).map λr=>[Ab.int .i32 r]) s.2.1) (λs=>text.length-s.2.2) (.slnil,.slnil,0) rfl ⟨Bn _,rfl,.inr ⟨rfl,rfl⟩,.inr ⟨rfl,rfl⟩⟩ ?_;rintro⟨v1,v2,k⟩ h1 ⟨hk,rfl,i1,N⟩;simp only at hk i1 N⊢;by_cases hlt:k<text.length
 .have j:(k:Int)<(text.length:Int):=by omega
  have ea:=Bx.DN (k:= .i64) ht hlt;have D:text.take (k+1)=text.take k++[text[k]]:=Bb hlt;have hr:=S _ (AG hlt);have U:=xa (text.take k) text[k];have O:=yB (text.take k) text[k];rw[<-D] at U O;have m:=D;clear D;generalize text[k]=d at*;have z:=aRq d [];have v:=aK0 d;obtain⟨q,a1,i3⟩:=Bx.Wy (l2:=[(WL d,Ab.slnil)]) (b:=136) i1 .mk (by have Ŵ:AY=140737488355328:=rfl;simp only[Aw,Ax,AQ];omega);have A:AE (.Cb 12) [.agg (CT (WL d) .slnil)]=some (.sl 12 ([(WL d,Ab.slnil)].map λp=>CT p.1 p.2)):=rfl;have pi:=DB (Ac:k<9223372036854775807);have B:Bx 12 (((text.take (k+1)).map λr=>(WL r,Ab.slnil)).map λp=>CT p.1 p.2) q:=by rw[m,B3];exact i3
  have hw:Ka (text.take k)=[]\/True:= .inr trivial;have X:(Ka (text.take k)).length<=1000:=by unfold Ka;have h1:=Oe (λr=>decide (r≠0)) (((text.take k).dropWhile λr=>decide (Qr r)).map S6);have h2:=(aIc (l:=text.take k) λr=>decide (Qr r)).length_le;rw[Aw] at h1;rw[Ax] at h2;omega
  have L1:∀x:Int,∃e,AE (.Cb 1) [.int .i32 x]=some (.sl 1 ([x].map λr=>[Ab.int .i32 r]))/\AE (.append 1 4) [v2,.sl 1 ([x].map λr=>[Ab.int .i32 r])]=some e/\Bx 1 ((Ka (text.take k)++[x]).map λr=>[Ab.int .i32 r]) e:=λx=>by have Ŵ:AY=140737488355328:=rfl;obtain⟨e,a2,i5⟩:=Bx.Wy (l2:=[x]) (b:=4) N .mk (by simp only[AQ];omega);exact⟨e,rfl,a2,i5⟩
  have add:∀x:Int,HH (text.take (k+1))=false->d≠0->x=S6 d->∃e,AE (.Cb 1) [.int .i32 x]=some (.sl 1 ([x].map λr=>[Ab.int .i32 r]))/\AE (.append 1 4) [v2,.sl 1 ([x].map λr=>[Ab.int .i32 r])]=some e/\Bx 1 ((Ka (text.take (k+1))).map λr=>[Ab.int .i32 r]) e:=λx f h0 ex=>by obtain⟨e,b1,b2,b3⟩:=L1 x;rw[f,Ae ⟨rfl,h0⟩,<-ex] at U;exact⟨e,b1,b2,by rw[U];exact b3⟩
  have E:(HH (text.take (k+1))=true\/d=0)->Bx 1 ((Ka (text.take (k+1))).map λr=>[Ab.int .i32 r]) v2:=λh=>by
   have hn:¬(HH (text.take (k+1))=false/\d≠0):=by
    rintro⟨h1,h2⟩;rcases h with h|h
    .rw[h] at h1;cases h1
    .exact h2 h
   rw[Aa hn,A8] at U;rw[U];exact N
  have f1:MY d->d=S6 d:=λh=>by unfold S6;rw[Ae h]
  have f2:¬MY d->65533=S6 d:=λh=>by unfold S6;rw[Aa h]
  have n0:¬MY d->d≠0:=λh h2=>h (by rw[h2];exact .inl ⟨Lb _,Az⟩);have z6:¬(65533:Int)=0:=Az;cases ha:HH (text.take k) with
  |false=>
   have f:HH (text.take (k+1))=false:=by rw[O,ha];rfl
   by_cases hs:MY d
   .by_cases h0:d=0;.simp only[abS,lt,j,ea,z.Af,A,a1];simp only[abS,v.Bz rfl rfl,hs,EY];simp only[abS,h0,pi,CP,CG,AN,AK,GV,AP,AO,EN];exact By.next (q,v2,k+1) (by simp only;rw[f]) ⟨hlt,rfl,B,E (.inr h0)⟩ FY
    .obtain⟨e,b1,b2,b3⟩:=add d f h0 (f1 hs);simp only[abS,lt,j,ea,z.Af,A,a1];simp only[abS,v.Bz rfl rfl,hs,EY];simp only[abS,h0,b1,b2,pi,CP,CG,AN,AK,GV,AP,AO,EN];exact By.next (q,e,k+1) (by simp only;rw[f]) ⟨hlt,rfl,B,b3⟩ FY
   .obtain⟨e,b1,b2,b3⟩:=add 65533 f (n0 hs) (f2 hs);simp only[abS,lt,j,ea,z.Af,A,a1];simp only[abS,v.Bz rfl rfl,hs,Fg];simp only[abS,z6,b1,b2,pi,CP,CG,AN,AK,GV,AP,AO,EN];exact By.next (q,e,k+1) (by simp only;rw[f]) ⟨hlt,rfl,B,b3⟩ FY
  |true=>
   by_cases C:0<=d
   .by_cases J:d<128
    .have r7:=aRr d;have cv:=cv8 C J;have hs:MY d:= .inl ⟨C,Ac⟩;by_cases W:Qr d
     .have f:HH (text.take (k+1))=true:=by rw[O,ha];simp[W]
      simp only[abS,lt,j,ea,z.Af,A,a1];simp only[abS,C,J,cv,r7.Bz rfl rfl,W,EY];simp only[abS,v.Bz rfl rfl,hs,EY];simp only[abS,pi];exact By.next (q,v2,k+1) (by simp only;rw[f]) ⟨hlt,rfl,B,E (.inl f)⟩ FY
     .have f:HH (text.take (k+1))=false:=by rw[O,ha];simp[W]
      by_cases h0:d=0;.simp only[abS,lt,j,ea,z.Af,A,a1];simp only[abS,C,J,cv,r7.Bz rfl rfl,W,Fg];simp only[abS,v.Bz rfl rfl,hs,EY];simp only[abS,h0,pi,CP,CG,AN,AK,GV,AP,AO,EN];exact By.next (q,v2,k+1) (by simp only;rw[f]) ⟨hlt,rfl,B,E (.inr h0)⟩ FY
      .obtain⟨e,b1,b2,b3⟩:=add d f h0 (f1 hs);simp only[abS,lt,j,ea,z.Af,A,a1];simp only[abS,C,J,cv,r7.Bz rfl rfl,W,Fg];simp only[abS,v.Bz rfl rfl,hs,EY];simp only[abS,h0,b1,b2,pi,CP,CG,AN,AK,GV,AP,AO,EN];exact By.next (q,e,k+1) (by simp only;rw[f]) ⟨hlt,rfl,B,b3⟩ FY
    .have f:HH (text.take (k+1))=false:=by rw[O,ha];simp[show¬Qr d from λh=>J (fM h).2]
     have h0:¬d=0:=Ac;by_cases hs:MY d;.obtain⟨e,b1,b2,b3⟩:=add d f h0 (f1 hs);simp only[abS,lt,j,ea,z.Af,A,a1];simp only[abS,C,J];simp only[abS,v.Bz rfl rfl,hs,EY];simp only[abS,h0,b1,b2,pi,CP,CG,AN,AK,GV,AP,AO,EN];exact By.next (q,e,k+1) (by simp only;rw[f]) ⟨hlt,rfl,B,b3⟩ FY
     .obtain⟨e,b1,b2,b3⟩:=add 65533 f (n0 hs) (f2 hs);simp only[abS,lt,j,ea,z.Af,A,a1];simp only[abS,C,J];simp only[abS,v.Bz rfl rfl,hs,Fg];simp only[abS,z6,b1,b2,pi,CP,CG,AN,AK,GV,AP,AO,EN];exact By.next (q,e,k+1) (by simp only;rw[f]) ⟨hlt,rfl,B,b3⟩ FY
   .have f:HH (text.take (k+1))=false:=by rw[O,ha];simp[show¬Qr d from λh=>C (fM h).1]
    have hs:¬MY d:=by unfold MY;omega
    obtain⟨e,b1,b2,b3⟩:=add 65533 f (n0 hs) (f2 hs);simp only[abS,lt,j,ea,z.Af,A,a1];simp only[abS,C];simp only[abS,v.Bz rfl rfl,hs,Fg];simp only[abS,z6,b1,b2,pi,CP,CG,AN,AK,GV,AP,AO,EN];exact By.next (q,e,k+1) (by simp only;rw[f]) ⟨hlt,rfl,B,b3⟩ FY
 .have j:¬(k:Int)<(text.length:Int):=by omega
  rw[Bf Ac] at i1 N;have Ŵ:AY=140737488355328:=rfl;have e1:AE (.Cb 12) [.agg (CT NQ .slnil)]=some (.sl 12 ([(NQ,Ab.slnil)].map λp=>CT p.1 p.2)):=rfl;obtain⟨e,a2,i3⟩:=Bx.Wy (l2:=[(NQ,Ab.slnil)]) (b:=136) i1 .mk (by simp only[Aw,AQ];omega);have em:((text.map λr=>(WL r,Ab.slnil))++[(NQ,Ab.slnil)]).map (·.1)=text.map WL++[NQ]:=AB;have ha:∀p∈(text.map λr=>(WL r,Ab.slnil))++[(NQ,Ab.slnil)],BF p.1.As p.2/\p.1.Sm/\(p.1.k=5\/p.1.k=6)/\p.1.Lg=[]:=λp g=>by
   rcases Ao.1 g with h|h
   .obtain⟨r,hr,rfl⟩:=A5.1 h;exact⟨ZR,aHW (S r hr),.inl rfl,rfl⟩
   .simp at h;subst h;exact⟨ZR,Ŝ w_ aH6.r,.inr rfl,rfl⟩
  have Z9:=e1;have L:=a2;simp only[CT,NQ] at Z9 L;have hlen:((text.map λr=>(WL r,Ab.slnil))++[(NQ,Ab.slnil)]).length=text.length+1:=AB;have hT:∀t∈text.map WL++[NQ],(t.k=5\/t.k=6)/\t.Sm:=λt ht=>by rw[<-em] at ht;obtain⟨p,g,rfl⟩:=A5.1 ht;exact⟨(ha p g).2.2.1,(ha p g).2.1⟩
  have hX:Xk (text.map WL++[NQ]) (Ih false):=⟨hT,xX,(kZ false).rm.le (by simp only[An,Aw,AQ];omega)⟩;obtain⟨h1,bi,F,r1,w,x⟩:=aRn (qk:=ZJ) (K:=Xk) i3 (λp g=>⟨(ha p g).1,(ha p g).2.1⟩) Ac (λp g _ h=>f75 p.1 (by rw[(ha p g).2.2.2];exact Bn _) h) (λt l c h=>h.step) (by rw[em];exact hX) [];rw[em] at r1 w;have xp:=oj (qk:=ZJ) hX;have h2:=xp.1;have tb:=rV (qk:=ZJ) (λt ht=>(hT t ht).1) h2 ⟨NQ,AB,by simp[Dr.E8,NQ]⟩;rw[fL] at tb;have se:=Ũ (l:=text.map WL) (t:=NQ) rfl h2 nu;rw[h2] at r1;have Ğ:CD cx 7 [e] [] (.tuple [Pt bi 0,tt]) h1:=r1;generalize(Ew ZJ (text.map WL++[NQ]) (Ih false)).1=b at*;obtain⟨hh,oo,D,eh,eo,ed,eL⟩:=se.ex;obtain⟨T,i,m,eo',hd⟩:=tb.ex;have eoo:i=oo/\T=hh:=by rw[m] at D;simp at D;exact⟨D.2,D.1⟩
  obtain⟨rfl,rfl⟩:=eoo;have M:=xp.2.2.WA;have Cj:=w.Cj;obtain⟨ar,_,_,_,G,wx,_,rfl⟩:=w;have l0:=wx.l0;have wl:=wx.lt;obtain⟨n',m',ps,wa⟩:=wx.w.pa;have ok:=tb.x.o.cm.ok;have oh:=ok.op T (by rw[m];simp);have ob:=ok.op i (by rw[m];simp);have Q:=(B9.1 eo).2;simp only[AF,Ej,Mv] at Q;obtain⟨v3,v4,u,q1,i5,i6⟩:=aL8 wa M ok.ok ok.BM.1;rw[ed] at i5 i6;have g1:=Bx.GN i6;have g2:=Bx.DN (k:= .i64) i6 (n:=0) AB;obtain⟨v5,v6,u4,q2,i7,i8⟩:=aL8 (mL wa (u:=u)) M ok.ok oh.1;rw[eL] at i7 i8;have g4:=Bx.GN i7;have g5:=Bx.DN (k:= .i64) i7 (n:=1) AB;have Z:=Bx.DN (k:= .i64) i8 (n:=1) AB;simp only[rW,Di,NF,JX,ob.2.2.2,Q,AJ,AZ] at g1 g2 g4 g5 Z;have lu:∀(k:Nat) (w:Ai),Bp (h1++w) none (Pt bi k)=Bp h1 none (Pt bi k):=λk w=>by simp only[Bp,Al wl]
  have R:∀(k:Nat) (w:Ai),Bp (h1++u++w) none (Pt bi k)=Bp h1 none (Pt bi k):=λk w=>by rw[A7,lu]
  have z0:((0:Nat):Int)=0:=rfl;have z1:((1:Nat):Int)=1:=rfl;have z2:((0+1:Nat):Int)=1:=rfl;have z3:((0+1+1:Nat):Int)=2:=rfl;rw[z0] at g2;rw[z1] at g5 Z;rw[z2] at g1;rw[z3] at g4;have P:=mL (mL wa (u:=u)) (u:=u4);obtain⟨v7,q3,i9⟩:=ki (x:=i.node) P M (M.Bi ok.ok _);have X:=Bx.GN N;have Y:=Bx.GN i9;have wl1:(Ka text).length<=1000:=by unfold Ka;have h1:=Oe (λr=>decide (r≠0)) ((text.dropWhile λr=>decide (Qr r)).map S6);have h2:=(aIc (l:=text) λr=>decide (Qr r)).length_le;rw[Aw] at h1;omega
  have zh:∀r∈Ka text,MY r:=λr hr=>by obtain⟨y,_,rfl⟩:=A5.1 (BE.1 hr).1;exact ī y
  cases ū:Ka text with
  |nil=>
   rw[ū] at hd X;have hk:(b.a.nd i.node).Bi=[]:=by
    rcases hd with h|⟨_,_,_,_,_,h,h3⟩
    .exact h.2
    .exact absurd rfl h3
   rw[hk] at Y;have H:AE (.len false) [v7]=some (I 0):=Y;have lw':AE (.len false) [v2]=some (I 0):=X;simp only[abS,Nat.reduceLeDiff,↓reduceIte,Cl,lt,j,Z9,L,Ğ.Af,l0,Cj,q1.Af,g1,g2,R,lu,q2.Af,g4,g5,Z,q3.Af,lw',H,xP.Bz rfl rfl,CP,CG,AN,AK,GV,AP,AO,EN];exact⟨_,rfl,rfl⟩
  |cons r0 l0'=>
   have hne:Ms (Ka text)≠[]:=by rw[ū];unfold Ms;rw[IF];exact λh=>om r0 (aIb.1 h).1
   obtain⟨y,hk,hy,_,h5,h6,_⟩:∃y,(b.a.nd i.node).Bi=[y]/\b.a.has y/\y≠i.node/\(b.a.nd y).kind=5/\(b.a.nd y).data=Ms (Ka text)/\Ms (Ka text)≠[]:=by
    rcases hd with h|h
    .exact absurd h.1 hne
    .exact h
   rw[hk] at Y i9;have g8:=Bx.DN (k:= .i64) i9 (n:=0) AB;simp only[AV,CM,NF,Di] at g8;rw[z0] at g8;obtain⟨rw_,t,q4,K,V,er,_⟩:=ę (x:=y) P M (M.Bi ok.ok _);rw[er,Ae hy,h5,h6] at q4;have q5:=aRs N zh wl1;have lwn:¬(((Ka text).length:Nat):Int)=0:=by rw[ū,AJ];omega
   have H:AE (.len false) [v7]=some (I 1):=Y;simp only[abS,Nat.reduceLeDiff,↓reduceIte,Cl,lt,j,Z9,L,Ğ.Af,l0,Cj,q1.Af,g1,g2,R,lu,q2.Af,g4,g5,Z,q3.Af,X,lwn,H,g8,q4.Af,(q5 _).Af,xP.Bz rfl rfl,CP,CG,AN,AK,GV,AP,AO,EN];exact⟨_,rfl,rfl⟩
end Go.Am
end
