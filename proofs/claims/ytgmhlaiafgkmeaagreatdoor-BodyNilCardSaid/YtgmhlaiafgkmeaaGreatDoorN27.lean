/- Lemmas -/
import Derived.Test.YtgmhlaiafgkmeaaGreatDoorN24
import Derived.Test.YtgmhlaiafgkmeaaGreatDoorN26
set_option linter.all false
section
namespace Go.Am
open Go
set_option maxRecDepth 100000
structure Jb where
 k:Int
 name:Ag
 hn:Bool
 cJ:Ag
 hp:Bool
 sys:Ag
 hs:Bool
 q:Bool
 CZ:List Ce
 sc:Bool
 data:Ag
 r:Int
namespace Jb
def ok(t:Jb):Prop:=1<=t.k/\t.k<=6
instance(t:Jb):Decidable t.ok:=by unfold ok;infer_instance
def st(t:Jb)(ws:List Ag):Prop:=t.k=2/\t.name∈ws
instance(t:Jb)(ws:List Ag):Decidable (t.st ws):=by unfold st;infer_instance
def en(t:Jb)(ws:List Ag):Prop:=t.k=3/\t.name∈ws
instance(t:Jb)(ws:List Ag):Decidable (t.en ws):=by unfold en;infer_instance
def yS(t:Jb)(ws:List Ag):Prop:=t.k=3/\t.name∉ws
instance(t:Jb)(ws:List Ag):Decidable (t.yS ws):=by unfold yS;infer_instance
end Jb
def aD(r:Int):Prop:=(9<=r/\r<=10)\/(12<=r/\r<=13)\/r=32
instance(r:Int):Decidable (aD r):=by unfold aD;infer_instance
namespace Jb
def aE(t:Jb):Prop:=t.k=5/\aD t.r
instance(t:Jb):Decidable t.aE:=by unfold aE;infer_instance
end Jb
namespace BS
def yT(b:BS):Prop:=0<=Eb (Iy [Km]) b.Ja
instance(b:BS):Decidable b.yT:=by unfold yT;infer_instance
end BS
end Go.Am
end
section
end
section
end
section
end
section
end
section
namespace Go.Am
open Go
set_option maxRecDepth 100000
abbrev Cy(t:Jb)(av:Aa):List Aa:=[.int .i64 t.k,.str t.name,.bool t.hn,.str t.cJ,.bool t.hp,.str t.sys,.bool t.hs,.bool t.q,av,.bool t.sc,.str t.data,.int .i32 t.r]
section
variable{h h':Ab}{bi:Nat}{b b':BS}{F:Nat->Prop}{n o a:Nat}{t:Jb}{av:Aa}
end
def GG(c:UInt8):Bool:=decide ((9<=c.toNat/\c.toNat<=13)\/c.toNat=32)
def wf:Ag->Ag->List Ag
 |cur,[]=>if cur=[] then[] else[cur]
 |cur,c::r=>if GG c then(if cur=[] then wf [] r else cur::wf [] r) else wf (cur++[c]) r
def N2:Bool->Ag->Nat
 |_,[]=>0
 |w,c::r=>(if w&& !GG c then 1 else 0)+N2 (GG c) r
def RL(b:Bool):Int:=if b then 1 else 0
def Kq:∀{s cur:Ag},(wf cur s).length=(if cur=[] then 0 else 1)+N2 (decide (cur=[])) s
 |[],cur=>by unfold wf N2;split<;>simp_all
 |c::r,cur=>by
  unfold wf N2;by_cases hc:GG c=true
  .by_cases h0:cur=[];.simp[hc,h0,Kq (s:=r) (cur:=[])]
   .simp[hc,h0,Kq (s:=r) (cur:=[])];omega
  .have fR:GG c=false:=by simpa using hc
   by_cases h0:cur=[];.simp[fR,h0,Kq (s:=r) (cur:=[c])]
   .simp[fR,h0,Kq (s:=r) (cur:=cur++[c])]
def RM:∀{s cur:Ag},(wf cur s).length<=s.length+1
 |[],cur=>by unfold wf;split<;>simp
 |c::r,cur=>by
  unfold wf;have h1:=RM (s:=r) (cur:=[]);have h2:=RM (s:=r) (cur:=cur++[c]);split;.split<;>simp only[AF]<;>omega
  .simp only[AF];omega
def RN{c:UInt8}(k:Option Nat)(hk:k=none){h:Ab}:∃v,AA (.Kt 256 1) [.A9 C5,.int .u8 (c.toNat:Int)]=some v/\Ck h k v=some (.int .u8 (RL (GG c))):=by
 subst hk;have key:∀n:Nat,n<256->C5[n]?=some (.int .u8 (RL (decide ((9<=n/\n<=13)\/n=32)))):=by
  intro n hn;have h1:∀n,n<256->Gz[n]?=some (RL (decide ((9<=n/\n<=13)\/n=32))):=by decide+kernel
  rw[C5,Cp,h1 n hn];rfl
 have hc:=c.toNat_lt;have hi:F0 (c.toNat:Int) 256=some c.toNat:=by unfold F0;rw[if_pos (by omega)];rfl
 refine⟨.A9 (C5.drop (c.toNat*1)),by simp[AA,hi,Li],?_⟩;rw[IZ,F9,Bg,D1,CE,key _ hc];rfl
def eX{s c:Nat}(hs:s<128)(hc:c<128):∃n:Nat,n<128/\AA (.int .or) [.int .u8 (s:Int),.int .u8 (c:Int)]=some (.int .u8 (n:Int)):=by
 have key:∀s:Nat,s<128->∀c:Nat,c<128->(match AA (.int .or) [.int .u8 (s:Int),.int .u8 (c:Int)] with|some (.int .u8 n)=>decide (0<=n/\n<128)|_=>false)=true:=by decide+kernel
 have h1:=key s hs c hc;split at h1;.rename_i n hv;have:=Pg h1;exact⟨n.toNat,by omega,by rw[hv,Hl this.1]⟩
 .cases h1
def eY(w i:Bool):∃v,AA (.un .xor) [.int .i64 (RL i)]=some v/\AA (.int .and) [.int .i64 (RL w),v]=some (.int .i64 (if w&& !i then 1 else 0)):=by cases w<;>cases i<;>exact⟨_,rfl,rfl⟩
def eZ(i:Bool):IntKind.i64.wrap (RL i)=RL i:=by cases i<;>rfl
def RO{U:Type}(l:List U)(x y:U)(r:List U){k:Nat}(hk:k=l.length):(l++y::r).take k++[x]++(l++y::r).drop (k+1)=l++x::r:=by subst hk;simp
def pM(s:Ag)(hs:s.length<=1000000)(ha:∀c∈s,c.toNat<128)(h:Ab):Fu cx 286 [.str s] h (.sl 1 ((wf [] s).map FJ)) (h++[.Ec]):=by
 have xJ:AO=140737488355328:=rfl;have hN:=RM (s:=s) (cur:=[]);obtain⟨N,hNe⟩:∃N,N=(wf [] s).length:=⟨_,rfl⟩;rw[BJ,RB,eP];refine Ha (i:=0) (λz:Nat×Bool×Nat×Nat=>[.int .i64 (z.1:Int),.int .i64 (RL z.2.1),.int .u8 (z.2.2.1:Int),.int .i64 (z.2.2.2:Int)]) (λz h1=>h1=h/\z.2.2.2<=s.length/\z.2.2.1<128/\z.1+N2 z.2.1 (s.drop z.2.2.2)=N2 true s) (λz=>s.length-z.2.2.2) (λz h1=>h1=h/\z.2.2.1<128/\z.1=N) (0,true,0,0) rfl ⟨rfl,D0 _,by decide,by simp⟩ ?_ ?_
 .rintro⟨n,w,bits,i⟩ h1 ⟨rfl,hi,hb,hn⟩;simp only at hi hb hn;rcases CD i s.length with hlt|Jk
  .obtain⟨bits',J3,e1⟩:=eX hb (ha _ (Gp hlt));obtain⟨v,e2,e3⟩:=RN (c:=s[i]) none rfl (h:=h1);obtain⟨v2,e4,e5⟩:=eY w (GG s[i]);have xE:N2 true s<=s.length+1:=by have:=Kq (s:=s) (cur:=[]);simp at this;omega
   rw[Bs hlt,N2] at hn;have e6:=Wi (a:=(n:Int)) (b:=if w&& !GG s[i] then 1 else 0) (by split<;>omega) (by split<;>omega);have e7:((n:Int)+if(w&& !GG s[i])=true then 1 else 0)=((n+if(w&& !GG s[i])=true then 1 else 0:Nat):Int):=by split<;>simp
   simp only[Er,Fj,show(i:Int)<(s.length:Int) by omega,DP hlt,e1,e2,e3,Wd,eZ,e4,e5,e6,e7,G8 (show i<9223372036854775807 by omega)];exact .next (_,GG s[i],bits',i+1) rfl ⟨rfl,hlt,J3,by simp only;omega⟩ (by simp only;omega)
  .simp only[Er,Fj,show¬(i:Int)<(s.length:Int) by omega];refine .Hh (n,w,bits,i) rfl ⟨rfl,hb,?_⟩;rw[Bv Jk,N2] at hn;have:=Kq (s:=s) (cur:=[]);simp at this;simp only;omega
 rintro⟨n,w,bits,i⟩ h1 ⟨rfl,hb,hn⟩;simp only at hb hn;subst hn;have e1:Lk h1 1 16 [S []] (.int .i64 (n:Int)) (.int .i64 (n:Int))=some (h1++[.cells (List.replicate n [S []]).flatten],.EG h1.length 0 n 1):=by simp only[Lk];rw[if_pos ⟨by omega,by omega,by simp;omega,rfl⟩];simp
 have e2:(List.replicate n [S []]).flatten=List.replicate n (S []):=by
  clear e1 hNe hN;induction n with
  |zero=>rfl
  |succ n ih=>rw[EV,BT,ih];rfl
 rw[e2] at e1;have e3:¬(128:Int)<=(bits:Int):=by omega
 simp only[Er,↓reduceIte,Fj,e3];refine Tp e1 ?_;refine Ha (i:=2) (λi:Nat=>[.int .i64 (i:Int)]) (λi h2=>h2=h1++[.cells (List.replicate n (S []))]/\i<=s.length/\wf [] s=wf [] (s.drop i)) (λi=>s.length-i) (λi h2=>h2=h1++[.cells (List.replicate n (S []))]/\i<=s.length/\wf [] s=wf [] (s.drop i)/\∀hi:i<s.length,GG s[i]=false) 0 rfl ⟨rfl,D0 _,rfl⟩ ?_ ?_
 .rintro i h2 ⟨rfl,hi,hw⟩;rcases CD i s.length with hlt|Jk
  .obtain⟨v,e4,e5⟩:=RN (c:=s[i]) none rfl (h:=h1++[.cells (List.replicate n (S []))]);cases hsp:GG s[i] with
   |true=>rw[hsp] at e5;simp only[Er,Fj,show(i:Int)<(s.length:Int) by omega,DP hlt,e4,e5,RL,↓reduceIte,show(1:Int)≠0 by decide,ne_eq,G8 (show i<9223372036854775807 by omega)];rw[Bs hlt,wf,hsp] at hw;exact .next (i+1) rfl ⟨rfl,hlt,by simpa using hw⟩ (by omega)
   |false=>rw[hsp] at e5;simp only[Er,Fj,show(i:Int)<(s.length:Int) by omega,DP hlt,e4,e5,RL,B5,↓reduceIte,ne_eq];exact .Hh i rfl ⟨rfl,hi,hw,λ_=>hsp⟩
  .simp only[Er,Fj,show¬(i:Int)<(s.length:Int) by omega];exact .Hh i rfl ⟨rfl,hi,hw,λh=>absurd h (by omega)⟩
 rintro i0 h2 ⟨rfl,fq,ft,S2⟩;simp only[Er,↓reduceIte];refine Ha (i:=4) (λz:List Ag×Nat×Nat=>[.int .i64 (z.1.length:Int),.int .i64 (z.2.1:Int),.int .i64 (z.2.2:Int)]) (λz h2=>h2=h1++[.cells (z.1.map Aa.str++List.replicate (n-z.1.length) (S []))]/\z.2.1<=z.2.2/\z.2.2<=s.length/\z.1++wf ((s.take z.2.2).drop z.2.1) (s.drop z.2.2)=wf [] s/\(z.2.1=z.2.2->∀hi:z.2.2<s.length,GG s[z.2.2]=false)) (λz=>s.length-z.2.2)
  (λz h2=>h2=h1++[.cells (z.1.map Aa.str++List.replicate (n-z.1.length) (S []))]/\z.2.1<=s.length/\z.1++wf (s.drop z.2.1) []=wf [] s) ([],i0,i0) rfl ⟨by simp,Ap _,fq,by simp[ft,rL],λ_=>S2⟩ ?_ ?_
 .rintro⟨dn,f,i⟩ h2 ⟨rfl,hf,hi,hw,hz⟩;simp only at hf hi hw hz;have T4:dn.length<=n:=by rw[hNe,<-hw,An];omega
  rcases CD i s.length with hlt|Jk
  .obtain⟨v,e4,e5⟩:=RN (c:=s[i]) none rfl (h:=h1++[.cells (dn.map Aa.str++List.replicate (n-dn.length) (S []))]);rw[Bs hlt] at hw;cases hsp:GG s[i] with
   |false=>
    rw[hsp] at e5;simp only[Er,Fj,show(i:Int)<(s.length:Int) by omega,DP hlt,e4,e5,RL,B5,↓reduceIte,G8 (show i<9223372036854775807 by omega)];rw[wf,hsp] at hw;refine .next (dn,f,i+1) rfl ⟨rfl,by simp only;omega,hlt,?_,λe=>by simp only at e;omega⟩ (by simp only;omega)
    simp only
    rw[UD hf hlt];simpa using hw
   |true=>
    rw[hsp] at e5;have fu:f<i:=by
     rcases CD f i with h|h
     .exact h
     .have:=hz (by omega) hlt;rw[hsp] at this;cases this
    have vH:(s.take i).drop f≠[]:=by intro e;have:=Bm List.length e;simp at this;omega
    rw[wf,hsp] at hw;simp only[Bc,vH,JN] at hw;have rB:dn.length<n:=by rw[hNe,<-hw];simp
    have e6:AA (.Hn 1) [.EG h1.length 0 n 1,.int .i64 (dn.length:Int)]=some (.ptr (some (h1.length,dn.length))):=by have:=Na (id:=h1.length) (z:=1) (n:=n) (k:= .i64) rB;rwa [D1] at this
    have hcl:(dn.map Aa.str++List.replicate (n-dn.length) (S [])).length=n:=by simp;omega
    have e7:Dy (h1++[.cells (dn.map Aa.str++List.replicate (n-dn.length) (S []))]) 1 (.ptr (some (h1.length,dn.length))) (.str ((s.take i).drop f))=some (h1++[.cells ((dn++[(s.take i).drop f]).map Aa.str++List.replicate (n-(dn++[(s.take i).drop f]).length) (S []))]):=by
     have h3:(h1++[Ig.cells (dn.map Aa.str++List.replicate (n-dn.length) (S []))])[h1.length]?=some (.cells (dn.map Aa.str++List.replicate (n-dn.length) (S []))):=by simp
     simp only[Dy,h3,GC,Gb];rw[if_pos ⟨trivial,by rw[hcl];omega⟩,K8 _ _ (Ap _),fF];have h4:n-dn.length=(n-(dn.length+1))+1:=by omega
     have h5:(dn.map Aa.str).length=dn.length:=Ds ..;simp only[List.set_cons_zero,KQ,Be,FN,An,Gb];rw[h4,EV,RO _ _ _ _ h5.symm];simp
    simp only[Er,Fj,show(i:Int)<(s.length:Int) by omega,DP hlt,e4,e5,RL,↓reduceIte,show¬(1:Int)=0 by decide,Qj (z:=0) (k:= .i64) (l:= .i64) (show f<=i by omega) hi,e6,e7,G8 (show dn.length<9223372036854775807 by omega),G8 (show i<9223372036854775807 by omega)];refine Ha (i:=6) (λj:Nat=>[.int .i64 (j:Int)]) (λj h2=>h2=h1++[.cells ((dn++[(s.take i).drop f]).map Aa.str++List.replicate (n-(dn++[(s.take i).drop f]).length) (S []))]/\i<j/\j<=s.length/\wf [] (s.drop (i+1))=wf [] (s.drop j)) (λj=>s.length-j) (λj h2=>h2=h1++[.cells ((dn++[(s.take i).drop f]).map Aa.str++List.replicate (n-(dn++[(s.take i).drop f]).length) (S []))]/\i<j/\j<=s.length/\wf [] (s.drop (i+1))=wf [] (s.drop j)/\∀hj:j<s.length,GG s[j]=false) (i+1) rfl ⟨rfl,by omega,hlt,rfl⟩ ?_ ?_
    .rintro j h2 ⟨rfl,vI,hj,Q6⟩;rcases CD j s.length with Pk|jx
     .obtain⟨v,e8,e9⟩:=RN (c:=s[j]) none rfl (h:=h1++[.cells ((dn++[(s.take i).drop f]).map Aa.str++List.replicate (n-(dn++[(s.take i).drop f]).length) (S []))]);cases rC:GG s[j] with
      |true=>rw[rC] at e9;simp only[Er,Fj,show(j:Int)<(s.length:Int) by omega,DP Pk,e8,e9,RL,↓reduceIte,show(1:Int)≠0 by decide,ne_eq,G8 (show j<9223372036854775807 by omega)];rw[Bs Pk,wf,rC] at Q6;exact .next (j+1) rfl ⟨rfl,by omega,Pk,by simpa using Q6⟩ (by omega)
      |false=>rw[rC] at e9;simp only[Er,Fj,show(j:Int)<(s.length:Int) by omega,DP Pk,e8,e9,RL,B5,↓reduceIte,ne_eq];exact .Hh j rfl ⟨rfl,vI,hj,Q6,λ_=>rC⟩
     .simp only[Er,Fj,show¬(j:Int)<(s.length:Int) by omega];exact .Hh j rfl ⟨rfl,vI,hj,Q6,λh=>absurd h (by omega)⟩
    .rintro j h2 ⟨rfl,vI,hj,Q6,fw⟩;simp only[Er,↓reduceIte];refine .next (dn++[(s.take i).drop f],j,j) (by simp) ⟨rfl,Ap _,hj,?_,λ_=>fw⟩ (by simp only;omega)
     simp only[rL];rw[<-Q6,Bz];exact hw
  .simp only[Er,Fj,show¬(i:Int)<(s.length:Int) by omega];have hie:i=s.length:=by omega
   refine .Hh (dn,f,i) rfl ⟨rfl,by simp only;omega,?_⟩;simp only
   rw[Bv Jk,hie,List.take_length] at hw;exact hw
 .rintro⟨dn,f,i⟩ h2 ⟨rfl,hf,hw⟩;simp only at hf hw;have fz:∀l:List Ag,l=wf [] s->IB (h1++[.cells (l.map Aa.str)]) (.EG h1.length 0 n 1)=some (h1++[.Ec],.sl 1 ((wf [] s).map FJ)):=by
   rintro l rfl;have hr:∀r∈(wf [] s).map FJ,r.length=1:=λr hr=>by obtain⟨w,_,rfl⟩:=Ay.1 hr;rfl
   have ef:((wf [] s).map FJ).flatten=(wf [] s).map Aa.str:=by
    generalize wf [] s=q;induction q with
    |nil=>rfl
    |cons x q ih=>simp[FJ,ih]
   have:=SG (h:=h1++[.cells ((wf [] s).map Aa.str)]) (id:=h1.length) hr (by rw[ef];simp);rw[Ds,<-hNe] at this;rw[this,K8 _ _ (Ap _),fF];rfl
  rcases CD f s.length with hlt|Jk
  .have hne:s.drop f≠[]:=by intro e;have:=Bm List.length e;simp at this;omega
   rw[wf,if_neg hne] at hw;have rB:n=dn.length+1:=by rw[hNe,<-hw];simp
   have e6:AA (.Hn 1) [.EG h1.length 0 n 1,.int .i64 (dn.length:Int)]=some (.ptr (some (h1.length,dn.length))):=by have:=Na (id:=h1.length) (z:=1) (n:=n) (k:= .i64) (show dn.length<n by omega);rwa [D1] at this
   have e7:Dy (h1++[.cells (dn.map Aa.str++List.replicate (n-dn.length) (S []))]) 1 (.ptr (some (h1.length,dn.length))) (.str (s.drop f))=some (h1++[.cells ((dn++[s.drop f]).map Aa.str)]):=by
    have h3:(h1++[Ig.cells (dn.map Aa.str++List.replicate (n-dn.length) (S []))])[h1.length]?=some (.cells (dn.map Aa.str++List.replicate (n-dn.length) (S []))):=by simp
    have h4:n-dn.length=1:=by omega
    have h5:(dn.map Aa.str).length=dn.length:=Ds ..;simp only[Dy,h3,GC,Gb];rw[if_pos ⟨trivial,by simp;omega⟩,K8 _ _ (Ap _),fF,h4,show List.replicate 1 (S [])=S []::[] from rfl,RO _ _ _ _ h5.symm];simp
   simp only[Er,↓reduceIte,Fj,show(f:Int)<(s.length:Int) by omega,SQ (z:=0) (k:= .i64) (show f<=s.length by omega),e6,e7,fz _ hw]
  .rw[Bv Jk,wf] at hw;simp only[Bc,BM] at hw;have rB:n-dn.length=0:=by rw[hNe,<-hw];omega
   have qR:=fz _ hw;rw[rB,List.replicate_zero,BM];simp only[Er,↓reduceIte,Fj,show¬(f:Int)<(s.length:Int) by omega,qR]
section
variable{h h':Ab}{bi:Nat}{b b':BS}{F:Nat->Prop}{n o a:Nat}{t:Jb}{av:Aa}
def pO(lo hi r:Int)(h:Ab):Fu cx 297 [.int .i32 r,.A9 [.int .i32 lo],.A9 [.int .i32 hi]] h (.bool (decide (lo<=r/\r<=hi))) h:=by rw[BJ,RE,eS];simp only[Er,Fj];refine⟨λh1=>by simp[h1],λh1=>by simp[h1]⟩
def Nd(p:Int×Int):List Aa:=[.func (.func 297) [] [.A9 [.int .i32 p.1],.A9 [.int .i32 p.2]]]
def vJ{L:List (Int×Int)}(hL:L.length<=1000)(r:Int)(h:Ab):Fu cx 296 [.int .i32 r,.A9 [.sl 1 (L.map Nd)]] h (.bool (L.any λp=>decide (p.1<=r/\r<=p.2))) h:=by
 have hv:CY 1 (L.map Nd) (.sl 1 (L.map Nd)):= .mk;have lm:=CY.Wh hv;rw[BJ,RD,eR];simp only[Er,Fj,lm];refine Ic (λn:Nat=>[ff,.int .i64 (n:Int)]) (λn h1=>n<=L.length/\h1=h/\L.any (λp=>decide (p.1<=r/\r<=p.2))=(L.drop n).any λp=>decide (p.1<=r/\r<=p.2)) (λn=>L.length-n) 0 rfl ⟨D0 _,rfl,rfl⟩ ?_;rintro n h1 ⟨hn,rfl,ha⟩;rcases CD n L.length with hlt|Jk
 .have e1:=CY.Qk (k:= .i64) hv hlt;have e2:∀x y:Int,E4 (.func (.func 297) [] [.A9 [.int .i32 x],.A9 [.int .i32 y]]) [.int .i32 r]=some (297,[.int .i32 r,.A9 [.int .i32 x],.A9 [.int .i32 y]]):=λ_ _=>rfl;have r1:=pO L[n].1 L[n].2 r h1;rw[Bs hlt,List.any_cons] at ha;rw[Nd] at e1;simp only[Er,Fj,show(n:Int)<(L.length:Int) by omega,e1,e2,r1.call,G8 (show n<9223372036854775807 by omega)];refine⟨λh2=>?_,λh2=>?_⟩;.rw[ha];simp[h2]
  .rw[D8 h2,I5] at ha;exact D5.next (n+1) rfl ⟨hlt,rfl,ha⟩ (by omega)
 .rw[Bv Jk] at ha;simp only[Er,Fj,show¬(n:Int)<(L.length:Int) by omega,ha,List.any_nil]
structure pP(l:Ag)(ws:List Ag):Prop where
 len:l.length<=1000000
 fx:∀c∈l,c.toNat<128
 wf:wf [] l=ws
def pP.fy{l:Ag}{ws:List Ag}(w:pP l ws):ws.length<=1000001:=by have:=RM (s:=l) (cur:=[]);have:=w.len;rw[<-w.wf];omega
def pQ{l:Ag}{ws:List Ag}(w:pP l ws)(h:Ab):Fu cx 227 [.str l] h (.sl 1 (ws.map FJ)) (h++[.Ec]):=by have r1:=pM l w.len w.fx h;rw[w.wf] at r1;rw[BJ,Ru,eI];simp only[Er,r1.call]
end
end Go.Am
end
section
end
section
end
section
end
section
end
section
end
section
end
section
end
section
end
section
end
section
end
section
end
section
end
section
end
section
end
section
end
section
namespace Go.Am
open Go
set_option maxRecDepth 100000
def vK{t:Jb}{av:Aa}(hv:Ea t.CZ av)(hl:t.CZ.length<=1000000):∃Qt,Ea t.CZ Qt/\∀h,Fu cx 58 [.agg (Cy t av)] h (.agg (Cy t Qt)) h:=by obtain⟨u,e,hu⟩:=CY.uD (l:=([]:List Ce)) (f:=Ce.row) (v:= .slnil) (b:=40) (.inr ⟨rfl,rfl⟩) hv (by simp;have:AO=140737488355328:=rfl;omega);refine⟨u,hu,λh=>?_⟩;have hc:u.cells=[u]:=CY.cells hu;rw[BJ,US,uU];simp only[Er,Nat.reduceLeDiff,↓reduceIte,Cy,e,hc,AF,A4,HK,ME]
section
variable{sa:List Ce->Bool}{t:Jb}{av:Aa}{h:Ab}
def Jb.O7(sa:List Ce->Bool)(t:Jb):Bool:=decide (t.name.length<=60)&&(decide (t.cJ.length<=100)&&(decide (t.sys.length<=100)&&(decide (t.data.length<=200)&&sa t.CZ)))
def pR(h9:∀{v:Aa} {l:List Ce} (h:Ab),Ea l v->Fu cx 37 [v] h (.bool (sa l)) h)(hv:Ea t.CZ av)(h:Ab):Fu cx 29 [.agg (Cy t av)] h (.bool (t.O7 sa)) h:=by
 rw[BJ,dB,xR];unfold Jb.O7;have c1:((t.name.length:Int)<=60)=(t.name.length<=60):=propext (by omega);have c2:((t.cJ.length:Int)<=100)=(t.cJ.length<=100):=propext (by omega);have c3:((t.sys.length:Int)<=100)=(t.sys.length<=100):=propext (by omega);have c4:((t.data.length:Int)<=200)=(t.data.length<=200):=propext (by omega);by_cases k1:t.name.length<=60;rotate_left;.simp only[Er,Nat.reduceLeDiff,↓reduceIte,Cy,c1,k1,Fj,jH]
 by_cases k2:t.cJ.length<=100;rotate_left;.simp only[Er,Nat.reduceLeDiff,↓reduceIte,Cy,c1,k1,c2,k2,Fj,jH]
 by_cases k3:t.sys.length<=100;rotate_left;.simp only[Er,Nat.reduceLeDiff,↓reduceIte,Cy,c1,k1,c2,k2,c3,k3,Fj,jH]
 by_cases k4:t.data.length<=200;rotate_left;.simp only[Er,Nat.reduceLeDiff,↓reduceIte,Cy,c1,k1,c2,k2,c3,k3,c4,k4,Fj,jH]
 .simp only[Er,Nat.reduceLeDiff,↓reduceIte,Cy,c1,k1,c2,k2,c3,k3,c4,k4,Fj,jH,(h9 h hv).call]
end
end Go.Am
end
section
end
section
end
section
end
section
end
section
end
section
end
section
end
section
end
section
namespace Go.Am
open Go
set_option maxRecDepth 100000
section
variable{h:Ab}{p:Aa}{t:Jb}{av:Aa}{id:Nat}
def Ve:Fu cx 70 [.ptr none,.agg (Cy t av)] h ff h:=by rw[BJ,Qo,t70];simp only[Er,Fj]
def SU(hl:Ck h none (.ptr (some (id,0)))=some (.ptr none)):Fu cx 70 [.ptr (some (id,0)),.agg (Cy t av)] h ff h:=by rw[BJ,Qo,t70];simp only[Er,Fj,hl]
def vL(q0:Fu cx 70 [p,.agg (Cy t av)] h ff h):Fu cx 59 [p,.agg (Cy t av)] h ff h:=by rw[BJ,UT,uV];simp only[Er,↓reduceIte,Fj,q0.call]
def vM(q0:Fu cx 70 [p,.agg (Cy t av)] h ff h):Fu cx 60 [p,.agg (Cy t av)] h ff h:=by rw[BJ,UU,uW];simp only[Er,↓reduceIte,Fj,q0.call]
def vN(q0:Fu cx 70 [p,.agg (Cy t av)] h ff h):Fu cx 61 [p,.agg (Cy t av)] h ff h:=by rw[BJ,UW,uX];simp only[Er,↓reduceIte,Fj,q0.call]
def vO(q0:Fu cx 70 [p,.agg (Cy t av)] h ff h):Fu cx 62 [p,.agg (Cy t av)] h ff h:=by rw[BJ,UX,uY];simp only[Er,↓reduceIte,Fj,q0.call]
def vP(q0:Fu cx 70 [p,.agg (Cy t av)] h ff h):Fu cx 63 [p,.agg (Cy t av)] h ff h:=by rw[BJ,UY,uZ];simp only[Er,↓reduceIte,Fj,q0.call]
def vQ(q0:Fu cx 70 [p,.agg (Cy t av)] h ff h):Fu cx 64 [p,.agg (Cy t av)] h ff h:=by rw[BJ,UZ,u0];simp only[Er,↓reduceIte,Fj,q0.call]
def vR(q0:Fu cx 70 [p,.agg (Cy t av)] h ff h):Fu cx 45 [p,.agg (Cy t av)] h ff h:=by rw[BJ,UR,uT];simp only[Er,↓reduceIte,Fj,q0.call]
def vS(q0:Fu cx 70 [p,.agg (Cy t av)] h ff h):Fu cx 65 [p,.agg (Cy t av)] h ff h:=by rw[BJ,U4,u5];simp only[Er,↓reduceIte,Fj,q0.call]
def vT(q0:Fu cx 70 [p,.agg (Cy t av)] h ff h):Fu cx 66 [p,.agg (Cy t av)] h ff h:=by rw[BJ,U5,u6];simp only[Er,↓reduceIte,Fj,q0.call]
def vU(q0:Fu cx 70 [p,.agg (Cy t av)] h ff h):Fu cx 33 [p,.agg (Cy t av)] h ff h:=by rw[BJ,UQ,uS];simp only[Er,↓reduceIte,Fj,q0.call]
def pS(hv:Ea t.CZ av)(hl:t.CZ.length<=1000000){m:Int}(hm:0<=m/\m<=9)(q0:∀Qt,Fu cx 70 [p,.agg (Cy t Qt)] h ff h):Fu cx 30 [p,.agg (.int .i64 m::Cy t av)] h ff h:=by
 obtain⟨Qt,Ih,ro⟩:=vK hv hl;have r0:=ro h;have pT:=vU (q0 Qt);have pU:=vL (q0 Qt);have pV:=vM (q0 Qt);have pW:=vN (q0 Qt);have pX:=vO (q0 Qt);have pY:=vP (q0 Qt);have pZ:=vQ (q0 Qt);have p8:=vR (q0 Qt);have p9:=vS (q0 Qt);have qA:=vT (q0 Qt);simp only[Cy] at r0 pT pU pV pW pX pY pZ p8 p9 qA;have hc:m=0\/m=1\/m=2\/m=3\/m=4\/m=5\/m=6\/m=7\/m=8\/m=9:=by omega
 rw[BJ,dC,xS];rcases hc with rfl|rfl|rfl|rfl|rfl|rfl|rfl|rfl|rfl|rfl<;>
 simp[Er,Nat.reduceLeDiff,↓reduceIte,Fj,Cy,r0.call,pT.call,pU.call,pV.call,pW.call,pX.call,pY.call,pZ.call,p8.call,p9.call,qA.call]
def qB{sa:List Ce->Bool}(h9:∀{v:Aa} {l:List Ce} (h:Ab),Ea l v->Fu cx 37 [v] h (.bool (sa l)) h)(ZX:Mc cx 15 [] tt)(hv:Ea t.CZ av)(hl:t.CZ.length<=1000000)(q:Int)(h:Ab):Ev cx 7 [.agg (Cy t av),.int .i64 q] h λr _=>r=tt:=by
 unfold Ev;rw[Z8,t7];by_cases k1:q<0;.simp only[Er,Nat.reduceLeDiff,↓reduceIte,Fj,Cy,k1,ZX.AW rfl rfl];exact⟨_,rfl,rfl⟩
 by_cases k2:9<q;.simp only[Er,Nat.reduceLeDiff,↓reduceIte,Fj,Cy,k1,k2,ZX.AW rfl rfl];exact⟨_,rfl,rfl⟩
 have r0:=pR h9 hv h;cases hs:t.O7 sa with
 |false=>rw[hs] at r0;simp only[Cy] at r0;simp only[Er,Nat.reduceLeDiff,↓reduceIte,Fj,Cy,k1,k2,r0.call,ZX.AW rfl rfl];exact⟨_,rfl,rfl⟩
 |true=>
  rw[hs] at r0;simp only[Cy] at r0;have hc:∃cs:List Aa,cs=[.ptr none,I 0,.slnil,.slnil,.int .i64 q,I 0,.slnil,I 0,I 0,ff,I 0,I 0,S [],ff,ff,ff,S [],ff,I 0,ff]:=⟨_,rfl⟩;obtain⟨cs,hcs⟩:=hc;have hb:(h++[Ig.cells cs])[h.length]?=some (.cells cs):=by simp
  have ld:Ck (h++[Ig.cells cs]) none (.ptr (some (h.length,0)))=some (.ptr none):=by rw[Mh hb,hcs];rfl
  have yU:Ck (h++[Ig.cells cs]) none (.ptr (some (h.length,4)))=some (.int .i64 q):=by rw[Mh hb,hcs];rfl
  have yV:Ck (h++[Ig.cells cs]) none (.ptr (some (h.length,19)))=some ff:=by rw[Mh hb,hcs];rfl
  have d1:=pS (p:= .ptr none) (h:=h++[Ig.cells cs]) hv hl (m:=q) (by omega) λ_=>Ve;have d2:=pS (p:= .ptr (some (h.length,0))) (h:=h++[Ig.cells cs]) hv hl (m:=q) (by omega) λ_=>SU ld;have sA:uE (h++[Ig.cells cs]) (.ptr (some (h.length,2))) []:= .inr ⟨_,_,_,rfl,⟨cs,hb,by rw[hcs];rfl⟩,.inr ⟨rfl,rfl⟩⟩;have ln:=vC sA;simp only[Cy,hcs] at d1 d2 ln yU yV;simp only[Er,Nat.reduceLeDiff,↓reduceIte,Fj,GN,Cy,k1,k2,r0.call,d1.call,d2.call,yU,yV,ln.call,ZX.AW rfl rfl,A4,show((0:Nat):Int)=0 from rfl,IA,I7,Ks,FT];exact⟨_,rfl,rfl⟩
end
def Is(r:Ep):FB:=λx vs h=>r=(x,vs,h)
def Is.ret{C:CB}{f:FuncId}{args:List Aa}{h h':Ab}{v:Aa}(hw:W C (AH C f args) (Is (.ret,[v],h')) h):Fu C f args h v h':=
 hw.mono λx vs h1 e=>by unfold Is at e;cases e;exact⟨rfl,rfl,rfl⟩
def Is.of{C:CB}{f:FuncId}{args:List Aa}{h h':Ab}{v:Aa}(hr:Fu C f args h v h'):W C (AH C f args) (Is (.ret,[v],h')) h:=
 W.mono hr λx vs h1 ⟨e1,e2,e3⟩=>by unfold Is;rw[e1,e2,e3]
section
variable{C:CB}{fn':FuncId->List Aa->IT}
def Vf{rec:IT->Ab->Option Ep}(K6:∀t h r,rec t h=some r->W C t (Is r) h)(RP:∀f args h r,rec (fn' f args) h=some r->W C (AH C f args) (Is r) h):
  ∀(t:IT) (h:Ab) (r:Ep),IT.step fn' rec t h=some r->W C t (Is r) h:=by
 intro t;induction t with
 |ret x vs=>intro h r hh;simp only[IT.step,AG] at hh;exact Zx hh.symm
 |fail=>intro h r hh;simp[IT.step] at hh
 |op o args k ih=>
  intro h r hh;simp only[IT.step] at hh;split at hh;.rename_i v e;exact gN e (ih _ _ _ hh)
  .cases hh
 |cells n v k ih=>
  intro h r hh;simp only[IT.step] at hh;split at hh;.rename_i hc;exact QM hc (ih _ _ _ hh)
  .cases hh
 |Ah c t e iht ihe=>
  intro h r hh;simp only[IT.step] at hh;split at hh;.exact QN (λ_=>iht _ _ hh) λh=>by cases h
  .exact QN (λh=>by cases h) λ_=>ihe _ _ hh
  .cases hh
 |load n p k ih=>
  intro h r hh;simp only[IT.step] at hh;split at hh;.rename_i v e;exact Tl e (ih _ _ _ hh)
  .cases hh
 |store n p v k ih=>
  intro h r hh;simp only[IT.step] at hh;split at hh;.rename_i v e;exact QP e (ih _ _ hh)
  .cases hh
 |alloc n v k ih=>
  intro h r hh;simp only[IT.step,Lj] at hh;by_cases hc:v.cells.length=n;.rw[if_pos hc] at hh;exact QQ hc (ih _ _ _ hh)
  .rw[if_neg hc] at hh;cases hh
 |call f args k ih=>
  intro h r hh;simp only[IT.step] at hh;split at hh;.rename_i v h1 e;exact(Is.ret (RP _ _ _ _ e)).call.2 (ih _ _ _ hh)
  .cases hh
 |B7 g args k ih=>
  intro h r hh;simp only[IT.step] at hh;split at hh
  .rename_i f a ht;split at hh;.rename_i v h1 e;exact F8.2 ⟨(f,a),ht,(Is.ret (RP _ _ _ _ e)).call.2 (ih _ _ _ hh)⟩
   .cases hh
  .cases hh
 |AW f args k ih=>
  intro h r hh;simp only[IT.step] at hh;split at hh
  .rename_i FX;split at hh
   .rename_i v h1 e;split at hh;.rename_i SZ;have hp:Mc C f args v:=(Is.ret (RP _ _ _ _ e)).ev rfl;exact(hp.AW FX SZ).2 (ih _ _ _ hh)
    .cases hh
   .cases hh
  .cases hh
 |loop key init body k ihb ihk=>
  intro h r hh;simp only[IT.step] at hh;split at hh;.rename_i vs h1 e;exact HU ((ihb _ _ _ e).mono λx Z0 h2 q=>by unfold Is at q;cases q;exact .inl ⟨rfl,K6 _ _ _ hh⟩)
  .rename_i x vs h1 hne e;exact HU ((ihb _ _ _ e).mono λx Z0 h2 q=>by unfold Is at q;cases q;exact .inr ⟨λhx=>hne hx,ihk _ _ _ _ hh⟩)
  .cases hh
 |CU key t k iht ihk=>
  intro h r hh;simp only[IT.step] at hh;split at hh;.rename_i x vs h1 e;exact Tr ((iht _ _ e).mono λx Z0 h2 q=>by unfold Is at q;cases q;exact ihk _ _ _ _ hh)
  .cases hh
 |same a b k ih=>
  intro h r hh;simp only[IT.step] at hh;split at hh;.rename_i hc;exact aL hc (ih _ _ hh)
  .cases hh
 |GO k ih=>intro h r hh;simp only[IT.step] at hh;exact Tm (ih _ _ _ hh)
 |Dt m key v k ih=>
  intro h r hh;simp only[IT.step] at hh;split at hh;.rename_i h1 e;exact Tn e (ih _ _ hh)
  .cases hh
 |Fy z ok m key k ih=>
  intro h r hh;simp only[IT.step] at hh;split at hh;.rename_i h1 e;exact To e (ih _ _ _ hh)
  .cases hh
 |make size bytes zero len cap k ih=>
  intro h r hh;simp only[IT.step] at hh;split at hh;.rename_i h1 v e;exact Tp e (ih _ _ _ hh)
  .cases hh
 |Eh size bytes s x k ih=>
  intro h r hh;simp only[IT.step] at hh;split at hh;.rename_i h1 v e;exact QR e (ih _ _ _ hh)
  .cases hh
 |B8 s k ih=>
  intro h r hh;simp only[IT.step] at hh;split at hh;.rename_i h1 v e;exact Lw e (ih _ _ _ hh)
  .cases hh
 |Mn v k ih=>
  intro h r hh;simp only[IT.step] at hh;split at hh;.rename_i h1 v e;exact Zy e (ih _ _ _ hh)
  .cases hh
 |DJ off p k ih=>
  intro h r hh;simp only[IT.step] at hh;split at hh;.rename_i h1 e;exact QS e (ih _ _ hh)
  .cases hh
 |Dm size bytes s x k ih=>
  intro h r hh;simp only[IT.step] at hh;split at hh;.rename_i h1 v e;exact Tq e (ih _ _ _ hh)
  .cases hh
 |CM size bytes s x k ih=>
  intro h r hh;simp only[IT.step] at hh;split at hh;.rename_i v e;exact MK e (ih _ _ _ hh)
  .cases hh
 |mem o args k ih=>
  intro h r hh;simp only[IT.step] at hh;split at hh;.rename_i h1 v e;exact Zz e (ih _ _ _ hh)
  .cases hh
 |QF f args k ih=>
  intro h r hh;simp only[IT.step] at hh;split at hh
  .rename_i v h1 e;split at hh;.rename_i SZ;obtain⟨n,x,vs,h2,e1,q1⟩:=RP _ _ _ _ e;unfold Is at q1;cases q1;obtain⟨m,x',DB,h',e2,q2⟩:=(ih _ _ _ hh).succ;refine Bf ⟨max n m,x',DB,h',?_,q2⟩;have a1:=IT.DA (Dq n m) e1;have a2:=IT.Ei (λt h r=>IT.DA (fn:=AH C) (C9 n m)) _ _ _ e2;simp only[IT.step];simp only[CB.run] at*;rw[a1];simp only[SZ,Bc];exact a2
   .cases hh
  .cases hh
def fA(C:CB)(fn':FuncId->List Aa->IT):Prop:=∀f args,fn' f args=AH C f args\/∀n h r,IT.run fn' n (fn' f args) h=some r->W C (AH C f args) (Is r) h
def N3(hs:fA C fn'):∀(n:Nat) (t:IT) (h:Ab) (r:Ep),IT.run fn' n t h=some r->W C t (Is r) h
 |0,t,h,r,hh=>by simp[IT.run] at hh
 |n+1,t,h,r,hh=>by
  refine Vf (rec:=IT.run fn' n) (N3 hs n) ?_ t h r hh;intro f args h r hh;rcases hs f args with e|e
  .rw[e] at hh;exact N3 hs n _ _ _ hh
  .exact e n h r hh
def SV(hs:fA cx fn'){f:FuncId}{args:List Aa}{h:Ab}(n:Nat)(hr:Mk (IT.run fn' n (AH cx f args) h)=true):Ev cx f args h λr _=>r= .bool true:=by obtain⟨h',e⟩:=MC hr;exact(Is.ret (N3 hs n _ _ _ e)).ev rfl
def RQ(v:Aa):IT:= .B8 (.str []) λu=> .Mn u λ_=> .ret .ret [v]
def Nf{n:Nat}{v:Aa}{h:Ab}{r:Ep}(e:IT.run fn' n (RQ v) h=some r):r=(.ret,[v],h++[.Ec]):=by
 cases n with
 |zero=>simp[IT.run] at e
 |succ n=>
  have e0:EN h (.str [])=some (h++[.cells []],.EG h.length 0 0 1):=rfl;have e1:IB (h++[.cells []]) (.EG h.length 0 0 1)=some (h++[.Ec],.sl 1 []):=by simp[IB,A8,List.set_append]
  simp only[IT.run,RQ,IT.step,e0,e1,AG] at e;exact e.symm
end
theorem qC{l:Ag}{ws:List Ag}(w:pP l ws)(s:Ag)(h:Ab):Fu cx 193 [.str s,.str l] h (.bool (decide (s∈ws))) (h++[.Ec]):=by have r1:=pQ w h;have r2:=vE (SM (ws:=ws)) (by have:=w.fy;omega) s (h++[Ig.Ec]);rw[BJ,Rt,eH];simp only[Er,r1.call,r2.call]
def fB:Ag->Ag->Bool
 |[],[]=>true
 |a::s,b::t=>Nat.beq a.toNat b.toNat&&fB s t
 |_,_=>false
theorem RR:∀{s t:Ag},fB s t=true↔s=t
 |[],[]=>by simp[fB]
 |[],b::t=>by simp[fB]
 |a::s,[]=>by simp[fB]
 |a::s,b::t=>by simp only[fB,Ao,RR (s:=s) (t:=t),Cs,Nat.beq_eq];exact⟨λ⟨h1,h2⟩=>⟨UInt8.toNat_inj.1 h1,h2⟩,λ⟨h1,h2⟩=>⟨by rw[h1],h2⟩⟩
def vV(n:Nat):Bool:=(Nat.ble 9 n&&Nat.ble n 13)||Nat.beq n 32
theorem fC(c:UInt8):vV c.toNat=GG c:=by unfold vV GG;rw[kh];simp only[Hb,Ao,Nat.ble_eq,Nat.beq_eq,CO]
def S5:Ag->Ag->List Ag
 |cur,[]=>match cur with
  |[]=>[]
  |_::_=>[cur.reverse]
 |cur,c::r=>match vV c.toNat with
  |true=>match cur with
   |[]=>S5 [] r
   |_::_=>cur.reverse::S5 [] r
  |false=>S5 (c::cur) r
theorem N4:∀(s cur:Ag),S5 cur s=wf cur.reverse s
 |[],[]=>by simp[S5,wf]
 |[],c::cur=>by simp[S5,wf]
 |c::r,cur=>by
  have h1:=fC c;cases hc:GG c with
  |true=>
   rw[hc] at h1;cases cur with
   |nil=>simp[S5,wf,h1,hc,N4 r []]
   |cons x cur=>simp[S5,wf,h1,hc,N4 r []]
  |false=>rw[hc] at h1;simp[S5,wf,h1,hc,N4 r (c::cur)]
def rD(l:Ag):Bool:=Nat.ble l.length 1000000&&l.all λc=>Nat.ble (c.toNat+1) 128
theorem RS{l:Ag}(h:rD l=true):pP l (S5 [] l):=by unfold rD at h;simp only[Ao,Nat.ble_eq,Cb] at h;exact⟨h.1,λc hc=>by have:=h.2 c hc;omega,by rw[N4];rfl⟩
def Qu(s:Ag)(l:List Ag):Bool:=l.any (fB s)
theorem SW(s:Ag)(l:List Ag):Qu s l=decide (s∈l):=by rw[kh];simp only[Qu,List.any_eq_true,RR,CO];exact⟨λ⟨x,h1,h2⟩=>h2▸h1,λh=>⟨s,h,rfl⟩⟩
theorem qD(r:Int)(h:Ab):Fu cx 183 [.int .i32 r] h (.bool (decide (aD r))) h:=by
 have c1:∀(lo hi:Int) (h:Ab),Fu cx 251 [.int .i32 lo,.int .i32 hi] h (.func (.func 297) [] [.A9 [.int .i32 lo],.A9 [.int .i32 hi]]) h:=λlo hi h=>by rw[BJ,Rz,eN];simp only[Er,Fj]
 have c2:∀(v:Aa) (h:Ab),v.cells=[v]->Fu cx 250 [v] h (.func (.func 296) [] [.A9 [v]]) h:=λv h hv=>by rw[BJ,Ry,eM];simp only[Er,Fj,hv]
 have r3:=vJ (L:=[(9,10),(12,13),(32,32)]) (by decide) r h;have e1:AA (.BD 1) [.func (.func 297) [] [.A9 [.int .i32 9],.A9 [.int .i32 10]],.func (.func 297) [] [.A9 [.int .i32 12],.A9 [.int .i32 13]],.func (.func 297) [] [.A9 [.int .i32 32],.A9 [.int .i32 32]]]=some (.sl 1 ([((9:Int),(10:Int)),(12,13),(32,32)].map Nd)):=rfl;have e2:∀v:Aa,E4 (.func (.func 296) [] [v]) [.int .i32 r]=some (296,[.int .i32 r,v]):=λ_=>rfl;have r2:=c2 (.sl 1 ([((9:Int),(10:Int)),(12,13),(32,32)].map Nd)) h rfl;have e0:decide (aD r)=([((9:Int),(10:Int)),(12,13),(32,32)].any λp=>decide (p.1<=r/\r<=p.2)):=by
  have e1:aD r↔((9<=r/\r<=10)\/(12<=r/\r<=13)\/(32<=r/\r<=32)):=by unfold aD;omega
  simp only[List.any_cons,List.any_nil,I6,<-Bool.decide_or,JR];exact e1
 rw[e0,BJ,Rs,eG];simp only[Er,Fj,(c1 9 10 h).call,(c1 12 13 h).call,(c1 32 32 h).call,e1,r2.call,e2,r3.call]
def Vg(d:IT):List Aa->IT
 |[.str s,.str l]=>match rD l with
  |true=>RQ (.bool (Qu s (S5 [] l)))
  |false=>d
 |_=>d
def Vh(d:IT):List Aa->IT
 |[.str l]=>match rD l with
  |true=>RQ (.sl 1 ((S5 [] l).map FJ))
  |false=>d
 |_=>d
def Vi(d:IT):List Aa->IT
 |[.int .i32 r]=> .ret .ret [.bool (decide (aD r))]
 |_=>d
noncomputable def qE(f:FuncId)(args:List Aa):IT:=
 match Nat.beq f 193 with
 |true=>Vg (gB f args) args
 |false=>match Nat.beq f 227 with
  |true=>Vh (gB f args) args
  |false=>match Nat.beq f 183 with
   |true=>Vi (gB f args) args
   |false=>gB f args
theorem Zm:fA cx qE:=by
 intro f args;unfold qE;split
 .rename_i hf;have hf:=Gc hf;subst hf;unfold Vg;split
  .rename_i s l;split;.rename_i ho;refine .inr λn h r e=>?_;rw[Nf e,SW];exact Is.of (qC (RS ho) s h)
   .exact .inl (by rw[Ko])
  .exact .inl (by rw[Ko])
 .split
  .rename_i hf;have hf:=Gc hf;subst hf;unfold Vh;split
   .rename_i l;split;.rename_i ho;refine .inr λn h r e=>?_;rw[Nf e];exact Is.of (pQ (RS ho) h)
    .exact .inl (by rw[Ko])
   .exact .inl (by rw[Ko])
  .split
   .rename_i hf;have hf:=Gc hf;subst hf;unfold Vi;split
    .rename_i r0;refine .inr λn h r e=>?_;cases n with
     |zero=>simp[IT.run] at e
     |succ n=>simp only[IT.run,IT.step,AG] at e;rw[<-e];exact Is.of (qD r0 h)
    .exact .inl (by rw[Ko])
   .exact .inl (by rw[Ko])
theorem Qv:Ev cx 15 [] [] λr _=>r= .bool true:=SV Zm 3000 (by kernel_rfl)
theorem N5:Mc cx 15 [] tt:=Qv
end Go.Am
end
