/- Lemmas -/
import Derived.Test.YtjbidlnjecppfaaGreatDoorS8
set_option linter.all false
set_option maxHeartbeats 0
set_option maxRecDepth 100000
open List renaming length→wn,filterMap→vo
open Nat renaming reduceLeDiff→zy
open Option renaming some→zx,none→zc
open Go.Am.Ad renaming slnil→zw,bool→zq,str→zk,tuple→ze,agg→zb,int→yw,func→xv
open Go.Am.DH renaming cells→zu,cells→z8
open Bool renaming false→zr,true→z9
open Go.Am.AM renaming next→zn
open Go.Am.Bb renaming row→zl,C5→vq,g2→ul
open Go.Am.Pw renaming len→wf
open Go.Am.CC renaming row→zg,C5→xx,g1→wx,g2→ww,g0→wk,Sw→vw,at0→vh,aDN→v1
open Or renaming inr→zf,inl→z2
open Go.IntKind renaming i64→ys
open Go.Am.AY renaming CQ→xs,BL→wu,KT→vu,Gf→vl,Ms→vk
open Go.Am.BS renaming I5→x0
open Go.Am.Ar renaming add→va
open Go.Am.DB renaming cells→wo
attribute[local simp]Go.Am.Ac Go.Am.By Go.Am.abS
section
namespace Go.Am
open Go
section
section
variable{h:Ak}{v:Ad}{l:List CC}{d o:Nat}
def f99(i:At h d o v)(e:DB l v)(hb:wn l<=1000000000):BF cx 192 [Pt d o] h (I (since l)) h:=by
 simp only[Ac,rH,By,i.load,BE,e.CQ];refine Bm (λn:Nat=>[I (n:Int)]) (λn j=>n<=wn l/\since l=since (l.take n)/\j=h) (λn=>n) (wn l) rfl ⟨Af _,by rw[Bx],rfl⟩ ?_;rintro n j ⟨f,a,rfl⟩;cases n with
 |zero=>simp only[By,(Ab:¬(0:Int)<((0:Nat):Int)),Ai,Ay,Au,a,à];rfl
 |succ n=>rw[dZ f] at a;simp only[By,(Ab:(0:Int)<((n+1:Nat):Int)),AD,Ay,Au,i.load,BE,IK (Ab:0<n+1) (Ab:n+1<9223372036854775807),EY,e.BL (f),vh];refine⟨λb=>zn n rfl ⟨Ab,by rw[a,Aa b],rfl⟩ Ab,λb=>?_⟩;rw[Ae (zv b)] at a;rw[a];rfl
def aFw(d:DB l v)(hb:wn l<=1000000000):BF cx 222 [v] h (I (since l)) h:=by
 rw[Ac,aEA];refine Bm (λn:Nat=>[I (since (l.take n)),I (n:Int)]) (λn f=>n<=wn l/\f=h) (λn=>wn l-n) 0 rfl ⟨AZ _,rfl⟩ ?_;rintro n f ⟨hn,rfl⟩;rcases hJ n (wn l) with⟨b,i1⟩|⟨i,i1⟩
 .have a:=dZ b;simp only[By,d.CQ,i1,AD,Ay,Au,d.BL b,vh,BB n];refine⟨λe=>?_,λe=>?_⟩;.rw[Ae e] at a;exact zn (n+1) (by rw[a];rfl) ⟨b,rfl⟩ Ab
  .rw[Aa e] at a;exact zn (n+1) (by rw[a]) ⟨b,rfl⟩ Ab
 .simp only[By,d.CQ,i1,Ai,Ay,Au,AL i]
def aN1(k:At h d o v)(i:DB l v)(hb:wn l<=1000000000)(a:Aj):BF cx 321 [Pt d o,zk a] h (I (PV a l)) h:=by
 simp only[Ac,sY,By,Jk,k.load,BE,i.CQ,Db ((wn l:Int)) 1];refine Bm (λn:Nat=>[I 0,I ((n:Int)-1)]) (λn b=>n<=wn l/\PV a l=PV a (l.take n)/\b=h) (λn=>n) (wn l) rfl ⟨Af _,by rw[Bx],rfl⟩ ?_;rintro n b ⟨j,c,rfl⟩;cases n with
 |zero=>have i1:¬(0:Int)<=((0:Nat):Int)-1:=Ab;simp[c,i1,Ai,Ay,Au,á]
 |succ n=>
  rw[UI j] at c;simp only[By,(Ab:((n+1:Nat):Int)-1=(n:Int)),Of,AD,Ay,Au,k.load,BE,i.BL (j),vh,CC.wg,Db ((n:Int)) 1];refine⟨λe=>⟨λb=>?_,λb=>?_⟩,λe=>?_⟩;.rw[c,Aa e,Ae b]
  .exact zn n rfl ⟨Ab,by rw[c,Aa e,Aa b],rfl⟩ Ab
  .rw[c,Ae (zv e)]
def aTH(i:DB l v)(p:wn l<=1000000000)(d:Aj):BF cx 344 [v,zk d] h (I (PV d l)) h:=by
 let⟨s,o,KP,c,g⟩:=Lf l;have f:=aFw (h:=h) i p;rw[o] at f;simp only[Ac,aE6,f];refine Bm (λn:Nat=>[I (PV d (l.take n)),I (n:Int)]) (λn m=>s<=n/\n<=wn l/\m=h) (λn=>wn l-n) s (by rw[zR o]) ⟨Af _,KP,rfl⟩ ?_;rintro n m ⟨b,hn,rfl⟩;rcases hJ n (wn l) with⟨e,i1⟩|⟨q,i1⟩
 .have a:=UI (name:=d) e;rw[Aa (c n e b)] at a;simp only[By,i.CQ,i1,AD,Ay,Au,i.BL e,CC.wg,BB n];refine⟨λk=>?_,λk=>?_⟩;.rw[Ae k] at a;exact zn (n+1) (by rw[a]) ⟨Ab,e,rfl⟩ Ab
  .rw[Aa k] at a;exact zn (n+1) (by rw[a]) ⟨Ab,e,rfl⟩ Ab
 .simp only[By,i.CQ,i1,Ai,Ay,Au,AL q]
def f41(k:At h d o v)(i:DB l v)(hb:wn l<=1000000000)(a:Int):BF cx 182 [Pt d o,I a] h (I (IM a l)) h:=by
 simp[qZ,Jk,k.load,BE,i.CQ,Db ((wn l:Int)) 1];refine⟨λf=>by rw[IM,Ae f],λf=>?_⟩;rw[IM,Aa f];refine Bm (λn:Nat=>[I 0,I ((n:Int)-1)]) (λn b=>n<=wn l/\A7 (UH a) l=A7 (UH a) (l.take n)/\b=h) (λn=>n) (wn l) rfl ⟨Af _,by rw[Bx],rfl⟩ ?_;rintro n b ⟨j,c,rfl⟩;cases n with
 |zero=>have i1:¬(0:Int)<=((0:Nat):Int)-1:=Ab;simp[c,i1,Ai,Ay,Au,LA]
 |succ n=>
  rw[Ih j] at c;simp[(Ab:((n+1:Nat):Int)-1=(n:Int)),Of,AD,Ay,Au,k.load,BE,i.BL (j),vh,Db ((n:Int)) 1];refine⟨λb=>?_,λb=>?_⟩;.rw[c,Ae (by simpa[UH] using b)]
  .exact zn n rfl ⟨Ab,by rw[c,Aa (by simpa[UH] using b)],rfl⟩ Ab
def aTI(j:DB l v)(hb:wn l<=1000000000)(b:Int):BF cx 216 [v,I b] h (I (IM b l)) h:=by
 rw[Ac,aEw];refine Bm (λn:Nat=>[I (IM b (l.take n)),I (n:Int)]) (λn f=>n<=wn l/\f=h) (λn=>wn l-n) 0 (by simp[IM,LA]) ⟨AZ _,rfl⟩ ?_;rintro n f ⟨hn,rfl⟩;rcases hJ n (wn l) with⟨d,i1⟩|⟨k,i1⟩
 .have a:IM b (l.take (n+1))=if b=0 then -1 else if l[n].c.node=b then(n:Int) else A7 (UH b) (l.take n):=by rw[IM];rw[Ih d];simp[UH]
  simp only[By,j.CQ,i1,AD,Ay,Au,j.BL d,vh,BB n];refine⟨λe=>⟨λf=>?_,λf=>?_⟩,λe=>?_⟩;.exact zn (n+1) (by rw[a,Aa e,Ae f]) ⟨d,rfl⟩ Ab
  .exact zn (n+1) (by rw[a,Aa e,Aa f,IM,Aa e]) ⟨d,rfl⟩ Ab
  .have e:=zv e
   exact zn (n+1) (by rw[a,Ae e,IM,Ae e]) ⟨d,rfl⟩ Ab
 .simp only[By,j.CQ,i1,Ai,Ay,Au,AL k]
end
section
variable{h:Ak}{v:Ad}{l:List Bb}
def aN3(c:AK l v)(hb:wn l<=1000000000)(x:Bb):BF cx 373 [v,zb x.row] h (zq (decide (x∈l))) h:=by
 simp only[Ac,aFf,By,vq,Bb.g0,Bb.g1,ul,Bb.Sw];refine Bm (λn:Nat=>[zq zr,I (n:Int)]) (λn f=>n<=wn l/\x∉l.take n/\f=h) (λn=>wn l-n) 0 rfl ⟨AZ _,AF,rfl⟩ ?_;rintro n f ⟨hn,d,rfl⟩;rcases hJ n (wn l) with⟨a,i1⟩|⟨j,i1⟩
 .simp only[By,c.CQ,i1,AD,Ay,Au,c.BL a,vq,Bb.Jh,Af,zO,aCJ,BB n];refine⟨λi=>?_,λi=>?_⟩;.grind
  .refine zn (n+1) rfl ⟨a,?_,rfl⟩ Ab;rw[AG a,AA,MO];exact⟨d,by simpa using λe=>i e.symm⟩
 .rw[AL j] at d;simp[c.CQ,i1,Ai,Ay,Au,Ag d]
def aTJ(e:AK l v)(hb:wn l<=1000000000)(x:Bb):BF cx 419 [v,zb x.row] h (I (Ck (λa=>decide (x=a)) 0 l)) h:=by
 simp only[Ac,uQ,By,e.CQ,vq,Bb.g0,Bb.g1,ul,Bb.Sw];refine Bm (λn:Nat=>[I 0,I (n:Int)]) (λn f=>n<=wn l/\Ck (λa=>decide (x=a)) 0 l=Ck (λa=>decide (x=a)) n (l.drop n)/\f=h) (λn=>wn l-n) 0 rfl ⟨AZ _,rfl,rfl⟩ ?_;rintro n f ⟨hn,c,rfl⟩;rcases hJ n (wn l) with⟨b,i1⟩|⟨j,i1⟩
 .rw[AI b,Ck] at c;simp only[By,i1,AD,Ay,Au,e.BL b,vq,Bb.Jh,Af,zO,aCJ,BB n];refine⟨λi=>?_,λi=>?_⟩;.grind
  .exact zn (n+1) rfl ⟨b,by rw[c,Aa (zv i)],rfl⟩ Ab
 .rw[AU j,Ck] at c;simp[i1,Ai,Ay,Au,c]
def aTK(e:AK l v)(f:wn l<=1000000000)(x:Bb):BF cx 391 [v,zb x.row] h (zq (decide (x∈l))) h:=by
 simp only[Ac,uI,By,vq,Bb.g0,Bb.g1,ul,Bb.Sw,aTJ e f x];rcases Ig with⟨d,c⟩|⟨n,a,d,c,b⟩
 .rw[d];grind
 .have hm:=C7 c;have he:x=a:=by grind
  simp_all
def bc(F:Ad)(h:Ak)(q:Bb->Bool):Prop:=∃f b,F= xv (.func f) [] b/\f<=99999/\∀a:Bb,BF cx f (zb a.row::b) h (zq (q a)) h
def aN4{F:Ad}{q:Bb->Bool}(e:AK l v)(hb:wn l<=1000000000)(m:bc F h q):BF cx 300 [v,F] h (I (Ck q 0 l)) h:=by
 obtain⟨f,caps,rfl,i,k⟩:=m;simp only[Ac,Wc,By,e.CQ];refine Bm (λn:Nat=>[I 0,I (n:Int)]) (λn j=>n<=wn l/\Ck q 0 l=Ck q n (l.drop n)/\j=h) (λn=>wn l-n) 0 rfl ⟨AZ _,rfl,rfl⟩ ?_;rintro n j ⟨jR,b,rfl⟩;rcases hJ n (wn l) with⟨a,i1⟩|⟨o,i1⟩
 .rw[AI a,Ck] at b;simp only[By,C6,i,i1,AD,Ay,Au,e.BL a,vq,Bb.Jh,Af,k l[n]];rw[CW];refine⟨λd=>?_,λd=>?_⟩;.rw[b,Ae d]
  .rw[Aa (by simp[d])] at b;simp[BB n];exact zn (n+1) rfl ⟨a,b,rfl⟩ Ab
 .rw[AU o,Ck] at b;simp[C6,i,i1,Ai,Ay,Au,b]
def aN5{F:Ad}{q:Bb->Bool}(e:AK l v)(f:wn l<=1000000000)(i:bc F h q):BF cx 185 [v,F] h (zq (l.any q)) h:=by
 simp[ZS,aN4 e f i];have:l.any q=(l.find? q).isSome:=by grind
 rw[this];rcases Ig with⟨c,d⟩|⟨n,a,c,d,b⟩
 .rw[c,d];simp
 .rw[c,b];simp
def aTL(a:AK l v)(b:wn l<=1000000000)(x:Bb):BF cx 390 [zb x.row,.CO [v]] h (zq (!decide (x∈l))) h:=by simp only[Ac,uH,By,vq,Bb.g0,Bb.g1,ul,Bb.Sw,aTK a b x]
def aN6{b:List Bb}{w:Ad}(d:AK l v)(f:wn l<=1000000000)(c:AK b w)(i:wn b<=1000000000):BF cx 389 [v,w] h (zq (decide (∀x∈l,x∈b))) h:=by
 have e:(!l.any λx=> !decide (x∈b))=decide (∀x∈l,x∈b):=by grind
 simp[uG,<-e,AY.cells c,aN5 d f (⟨390,_,rfl,AR,λa=>aTL c i a⟩)]
section
variable{a b:CC}(ha:iQ a)(hb:iQ b)
def aTM:BF cx 308 [zb a.row,zb b.row] h (zq (HV a.c b.c)) h:=by
 simp only[Ac,sL,By,zy,C6,Br,xx,wx,ww,v1,aN6 (h:=h) a.ok ha b.ok hb,aN6 (h:=h) b.ok hb a.ok ha];refine⟨λe=>⟨λk=>⟨λf=>?_,λf=>?_⟩,λk=>?_⟩,λe=>?_⟩
 .have d:wn a.c.Al=wn b.c.Al:=by omega
  simp[HV,e,d,OE];grind
 .simp[HV,f]
 .have d:¬wn a.c.Al=wn b.c.Al:=by omega
  simp[HV,d]
 .simp[HV,e]
def f241:BF cx 276 [zb a.row,zb b.row] h (zq (HV a.c b.c)) h:=by
 rw[iQ] at ha hb;simp only[Ac,aEJ,By,xx,wx,ww,CC.aDN];refine⟨λi=>?_,λi=>⟨λs=>?_,λs=>?_⟩⟩;.simp[HV,i]
 .have p:¬wn a.c.Al=wn b.c.Al:=by omega
  simp[HV,p]
 have i:=zv i
 refine Bm (λn:Nat=>[zq zr,I (n:Int)]) (λn i=>n<=wn a.c.Al/\(∀x∈a.c.Al.take n,x∈b.c.Al)/\(∀x∈b.c.Al.take n,x∈a.c.Al)/\i=h) (λn=>wn a.c.Al-n) 0 rfl ⟨AZ _,AF,AF,rfl⟩ ?_;rintro n i ⟨hn,l,m,rfl⟩;rcases hJ n (wn a.c.Al) with⟨e,i1⟩|⟨t,i1⟩
 .have j:n<wn b.c.Al:=Ab;simp only[By,v1,i1,AD,Ay,Au,a.ok.BL e,b.ok.BL j,vq,Bb.Jh,Af,aN3 b.ok hb _,aN3 a.ok ha _,BB n];rw[CW,CW];refine⟨λg=>?_,λg=>⟨λf=>?_,λf=>?_⟩⟩
  .have g:=zv g
   have:HV a.c b.c=zr:=by rw[HV,WS];exact λh=>g (h.2.2.1 _ (AV e))
   rw[this]
  .have f:=zv f
   have:HV a.c b.c=zr:=by rw[HV,WS];exact λh=>f (h.2.2.2 _ (AV j))
   rw[this]
  .have g:=zv g
   have f:=zv f
   refine zn (n+1) rfl ⟨e,?_,?_,rfl⟩ Ab
   .rw[AG e];intro x d;obtain d|d:=AA.1 d
    .exact l x d
    .rw[Ax.1 d];exact g
   .rw[AG j];intro x d;obtain d|d:=AA.1 d
    .exact m x d
    .rw[Ax.1 d];exact f
 .rw[AL t] at l;rw[AL Ab] at m;have:HV a.c b.c=z9:=by rw[HV,Cj];exact⟨by assumption,Ab,l,m⟩
  simp[this,v1,i1,Ai,Ay,Au]
end
end
end
section
def BK{Q:HN}{h:Ak}{a:Ad}{k:IT}:W cx (.same a a k) Q h↔W cx k Q h:=by refine⟨λd=>?_,ļ (Ad.VS a)⟩;let⟨m,c,f,e,b,q⟩:=d.succ;simp[IT.step,Ad.VS,BV] at b;exact Di ⟨m,c,f,e,b,q⟩
section
variable{h:Ak}{v:Ad}{l:List CC}{id o:Nat}
def f45{l:List Bb}(e:AK l v)(i:wn l<=1000000000):∃u,BF cx 139 [v] h u h/\AK l u:=by
 obtain rfl|⟨rfl,f⟩:=e
 .refine⟨.sl 3 (l.map zl),?_,.mk⟩;have b:AB (.GH zr .sl) [.sl 3 (l.map zl),zw]=zx (zq zr):=rfl;have c:TV h 3 40 (.sl 3 []) (.sl 3 (l.map zl))=zx (.sl 3 (l.map zl)):=by
   simp[TV,Hy,BV,CR];cases l with
   |nil=>rfl
   |cons a l=>have:(wn l+1)*40<=AN:=T9 (by simp at i;omega);simp[Ee,this]
  rw[Ac,ZL,aJU];simp_all
 .refine⟨zw,?_,?_⟩;.have b:AB (.GH zr .sl) [zw,zw]=zx (zq z9):=rfl;rw[Ac,ZL,aJU];simp_all
  .exact zf ⟨rfl,f⟩
def aAY{e:CC}(b:iQ e):∃e':CC,e'.c=e.c/\BF cx 310 [zb e.row] h (zb e'.row) h:=by let⟨u,r,a⟩:=f45 (h:=h) e.ok b;refine⟨⟨e.c,u,a⟩,rfl,?_⟩;simp only[Ac,sN,By,xx,wk,wx,ww,r,AY.cells a];rfl
def aTN{e:CC}(b:iQ e):∃e':CC,e'.c=e.c/\BF cx 221 [zb e.row] h (zb e'.row) h:=by let⟨u,r,a⟩:=vl e.ok (T9 (by rw[iQ] at b;omega));refine⟨⟨e.c,u,a⟩,rfl,?_⟩;simp only[Ac,aEz,By,xx,wk,wx,ww,r,AY.cells a];rfl
def aN7(d:DB l v){k:Nat}(hk:k<wn l)(hb:wn l<=1000000000):∃u,BF cx 309 [v,I (k:Int)] h u h/\DB (Bl l k) u:=by let⟨q,j,o⟩:=vk d (k:= ys) (Ab:k<=wn l);let⟨p,i,n⟩:=vl o (Sy (by rw[Az];omega));let⟨m,g,c⟩:=AY.VN d (k:= ys) (Ab:k+1<=wn l);let⟨a,f,b⟩:=AY.oW n c (Sy (by rw[Az,Bp];omega));refine⟨a,?_,b⟩;simp only[Ac,sM,By,j,i,BB k,g,f]
def aAZ(d:DB l v)(e:CC){k:Nat}(j:k<=wn l)(hb:wn l<=1000000000):∃u,BF cx 190 [v,zb e.row,I (k:Int)] h u h/\DB (l.take k++e::l.drop k) u:=by let⟨t,p,w⟩:=vk d (k:= ys) j;let⟨r,m,s⟩:=vl w (Sy (by rw[Az];omega));let⟨q,i,f⟩:=AY.VN d (k:= ys) j;let⟨c,g,b⟩:=AY.oW (l:=l.take k++[e]) .mk f (Sy (by rw[As,Az,Bp,A5];omega));refine⟨c,?_,by rwa[AO] at b⟩;simp only[Ac,rF,By,xx,CC.g0,wx,ww,vw,p,m,N1 xx,vu (a:=e) s (Sy (by rw[Az];omega)),i,g]
def aJ9(c:DB l v)(d:l≠[])(hb:wn l<=1000000000):BF cx 175 [v] h (.CK (wn h) 0 (wn l) 3) (h++[zu (l.map zg).flatten]):=by
 have b:AB (.GH zr .sl) [v,zw]=zx (zq zr):=by
  obtain rfl|⟨rfl,c⟩:=c
  .rfl
  .simp_all
 have a:=Nd (h:=h) (zf rfl) c (zv d) (by rw[Ao];exact Sy Ab);rw[Ac,V9];simp_all
section
variable(hs:Xy h id o l)(hb:l.length<=1000000000)
def f63:∃u,BF cx 72 [Pt id o] h (ze []) (put h id o u)/\DB (l++[o9]) u:=by let⟨v,c,b⟩:=(hs);let⟨u,d,a⟩:=aAZ (h:=h) b o9 (Af (wn l)) hb;rw[Bx,EG] at a;refine⟨u,?_,a⟩;simp[om,AP,U8,Kd,c.load,BE,xs b,aAh,d,c.store (wo a)]
end
def aTP(p:Xy h id o l)(s:wn l<=1000000000){e:CC}(r:iQ e)(i:Int):∃u f,f.c=e.c/\BF cx 326 [Pt id o,zb e.row,I i] h (ze []) (put h id o u)/\DB (l.take (CX i (wn l))++f::l.drop (CX i (wn l))) u:=by
 let⟨v,n,j⟩:=(p);let⟨f,t,a⟩:=aAY (h:=h) r;let⟨u,q,m⟩:=aAZ (h:=h) j f (k:=CX i (wn l)) (by rw[CX];omega) s;refine⟨u,f,t,?_,m⟩;have b:(if(wn l:Int)<(if i<0 then 0 else i) then(wn l:Int) else(if i<0 then 0 else i))=((CX i (wn l):Nat):Int):=by rw[CX];split<;>split<;>omega
 simp only[Ac,tF,By,xx,CC.g0,wx,ww,vw,U8,Kd,n.load,BE,oS,xs j,ſ,b,a,BK,q,n.store (wo m)]
def f65(n:Xy h id o l)(p:wn l<=1000000000):∃u,BF cx 75 [Pt id o] h (I ((wn l:Int)-((Ga l:Nat):Int))) (put h id o u)/\DB (l.take (Ga l)) u:=by
 let⟨v,c,e⟩:=(n);let⟨s,es,KP,_⟩:=Lf l;have i:Ga l<=wn l:=by rw[Ga];omega
 let⟨u,b,f⟩:=vk e (k:= ys) i;refine⟨u,?_,f⟩;have a:(if since l-1<0 then 0 else since l-1)=((Ga l:Nat):Int):=by rw[Ga];split<;>omega
 have m:(l.take (Ga l)).length=Ga l:=by grind
 simp[oq,Jk,c.load,BE,xs e,f99 c e p,BK,Db (since l) 1,oS,a,b,c.store (AY.cells f),c.put.load,xs f,m,Db ((wn l:Int)) (((Ga l:Nat):Int))]
end
end
section
section
variable{h:Ak}{v:Ad}{l:List CC}{id o:Nat}
def f30(P:Xy h id o l)(hb:l.length<=900000000)(hl:∀x∈l,iQ x){e:CC}(L:iQ e):∃u d,d.c=e.c/\BF cx 164 [Pt id o,.agg e.row] h (.tuple []) (put h id o u)/\DB (MH e.c l++[d]) u:=by
 obtain⟨v,q,D⟩:=(show Xy h id o l from P);have Jo:=P.lt;obtain⟨s,R,KP,j,_⟩:=Lf l;have Jy:Ev cx 164 [Pt id o,.agg e.row] h λr Q=>r= .tuple []/\∃(d:CC) (u:Ad),d.c=e.c/\Q=put h id o u/\DB (MH e.c l++[d]) u:=by
  unfold Ev;rw[qK];by_cases K:e.c.node=0;.obtain⟨d,F,a⟩:=aAY (h:=h) L;obtain⟨u,H,z⟩:=aAZ (h:=h) D d (Af l.length) Ab;rw[Bx,EG] at z;simp only[By,CC.C5,CC.g0,CC.g1,CC.g2,Jk,K,BR,AD,Au,Ay,Ai,q.load,BE,D.CQ];rw[<-K,vw];simp only[By,a,BK,q.load,BE,H,q.store (DB.cells z)];refine⟨_,rfl,rfl,d,u,F,rfl,?_⟩;rw[MH,Aa (λh=>h.1 K)];exact z
  .simp only[By,xx,CC.g0,wx,ww,vw,Jk,K,BR,AD,Au,Ay,Ai,q.load,BE,D.CQ,Db ((l.length:Int)) 1];refine Bm (λp:Int×Nat×Nat=>[I p.1,I (p.2.1:Int),I ((p.2.2:Int)-1)])
    (λp E=>s<=p.2.2/\p.2.2<=l.length/\p.2.1+p.2.2<=l.length/\VT e.c l=p.2.1+VT e.c (l.take p.2.2)/\(PX e.c l=if 0<=PX e.c (l.take p.2.2) then PX e.c (l.take p.2.2) else if p.2.1=0 then -1 else p.1)/\(p.2.1=0\/∃k:Nat,k<l.length/\p.1=(k:Int))/\E=h)
    (λp=>p.2.2) (0,0,l.length) rfl ⟨KP,Af _,AF,AF,by
     rw[Bx];have:∀l:List CC,-1<=ml e.c l:=by
      intro l;induction l with
      |nil=>exact Jm _
      |cons x t ih=>rw[ml];split<;>(try split)<;>(try split)<;>omega
     have:=this l.reverse;simp only[BV];unfold PX;split<;>omega,.inl rfl,rfl⟩ ?_
   rintro⟨A,b,n⟩ E ⟨a1,T,a3,a4,C,a6,rfl⟩;simp only at a1 T a3 a4 C a6;have i:=f99 q D Ab;rw[R] at i;rcases AQ s n with hlt|EC
   .obtain⟨n,rfl⟩:∃m,n=m+1:=⟨n-1,Ab⟩;have G:n<l.length:=T;have f:=j n G Ab;rw[Xz G,Aa f] at a4;rw[XA G,Aa f] at C;have a:=aTM (h:=E) (hl _ (AV G)) L;simp only[By,(Ab:((n+1:Nat):Int)-1=(n:Int)),i,(Ab:(s:Int)<=(n:Int)),AD,Au,Ay,q.load,BE,D.BL G,CC.C5,CC.Jh,Af,a,BB b,Db ((n:Int)) 1];rw[CW];refine⟨λM=>?_,λM=>?_⟩
    .rw[Ae M] at a4 C;refine zn ((n:Int),b+1,n) rfl ⟨DO,DO,DO,DO,?_,.inr ⟨n,G,rfl⟩,rfl⟩ DO;simp only
     rw[C];by_cases J:0<=PX e.c (l.take n);.simp[J]
     .simp[J,Of]
    .rw[Aa (by simp[M])] at a4;rw[Aa (show¬HV l[n].c e.c=z9 by simp[M])] at C;refine zn (A,b,n) rfl ⟨DO,DO,DO,DO,?_,a6,rfl⟩ DO;simp only
     rw[C];by_cases J:0<=PX e.c (l.take n);.simp[J]
     .simp[J]
   .obtain rfl:n=s:=by omega
    obtain⟨b1,b2⟩:=eC (e:=e.c) R;rw[b1,BE] at a4;rw[b2,Aa AR] at C;simp only[By,i,(Ab:¬(n:Int)<=(n:Int)-1),Au,Ay,Ai];by_cases B:3<=b
    .rcases a6 with a6|⟨k,hk,rfl⟩
     .omega
     rw[Aa Ab] at C;obtain⟨g,a,N⟩:=aN7 (h:=E) D hk Ab;have iO:(Bl l k).length<=l.length:=by unfold Bl;rw[As,Az,Bp];omega
     obtain⟨d,F,H⟩:=aAY (h:=put E id o g) L;obtain⟨w,y,O⟩:=aAZ (h:=put E id o g) N d (Af (Bl l k).length) Ab;rw[Bx,EG] at O;simp only[By,(Ab:(3:Int)<=(b:Int)),AD,Au,Ay,q.load,BE,a,q.store (DB.cells N),q.put.load,AY.CQ N,H,BK,y,q.put.store (DB.cells O),oX];refine⟨_,rfl,rfl,d,w,F,rfl,?_⟩;rw[MH,Ae ⟨K,Ab⟩,C,A6];exact O
    .obtain⟨d,F,a⟩:=aAY (h:=E) L;obtain⟨u,H,z⟩:=aAZ (h:=E) D d (Af l.length) Ab;rw[Bx,EG] at z;simp only[By,(Ab:¬(3:Int)<=(b:Int)),Au,Ay,Ai,q.load,BE,D.CQ,a,BK,H,q.store (DB.cells z)];refine⟨_,rfl,rfl,d,u,F,rfl,?_⟩;rw[MH,Aa Ab];exact z
 obtain⟨r,Q,V,rfl,d,u,F,rfl,z⟩:=Jy.ret;exact⟨u,d,F,V,z⟩
end
end
section
section
variable{h:Ak}{v:Ad}{l:List CC}{id o:Nat}
def aTR(C:Xy h id o l)(hb:wn l<=900000000)(d:Int){e:CC}(D:iQ e):∃u t n,n.c=e.c/\BF cx 398 [Pt id o,I d,zb e.row] h (zq (decide (0<=IM d l))) (put h id o u++t)/\DB (if IM d l<0 then l else l.set (IM d l).toNat n) u:=by
 let⟨v,j,x⟩:=(C);obtain y|⟨k,A,y⟩:=zS d l
 .refine⟨v,[],e,rfl,?_,y▸x⟩;have a:=j.yf (AY.RL x);simp only[Ac,aI,j.same,Br,By,xx,f41 j x Ab d,y,(AR:(-1:Int)<0),AD,Ay,Au,a];rfl
 .have z:l≠[]:=by intro e;subst e;simp at A
  have f:=(j.If (t:=[z8 (l.map zg).flatten])).store (u:= .CK (wn h) 0 (wn l) 3) rfl;rw[oY j] at f;let⟨n,E,g⟩:=aAY (h:=put h id o (.CK (wn h) 0 (wn l) 3)++[z8 (l.map zg).flatten]) D;obtain⟨p,r,m⟩:=j.next (w:= .CK (wn h) 0 (wn l) 3);have b:=YA (QL l) p (zv A) (q:=n.row) rfl;rw[m] at b;have a:=j.yg (zF (QL l) (i:=k) (q:=n.row) rfl);rw[Bw,Ao] at a;refine⟨.sl 3 ((l.map zg).set k n.row),[.CV],n,E,?_,?_⟩;.rw[Ac,aI];simp only[By,xx,CC.g0,wx,ww,vw,f41 j x Ab d,y,(Ab:¬(k:Int)<0),Ai,Ay,Au,j.load,BE,aJ9 (h:=h) x z Ab,f,r.load,g,BK,FN A,b,a,Of,D3]
  .rw[y,Aa Ab,A6,<-Fa];exact .mk
def aN8(f:DB l v)(hb:wn l<=900000000){k:Nat}(hk:k<wn l):∃u,BF cx 277 [v,I (k:Int)] h u h/\DB (Bl l k) u:=by
 have t:Ev cx 277 [v,I (k:Int)] h λr j=>j=h/\DB (Bl l k) r:=by
  rw[Ev];rw[aEK];refine Bm (λp:Nat×Ad=>[p.2,I (p.1:Int)]) (λp i=>p.1<=wn l/\DB (if p.1<=k then l.take p.1 else Bl (l.take p.1) k) p.2/\i=h) (λp=>wn l-p.1) (0,zw) rfl ⟨AZ _,Ae (AZ _)▸.nil,rfl⟩ ?_;rintro⟨n,u⟩ i ⟨q,d,rfl⟩;simp only at q d;rcases hJ n (wn l) with⟨b,i1⟩|⟨w,i1⟩
  .have hlen:(if n<=k then l.take n else Bl (l.take n) k).length<=wn l:=by
    split;.rw[Az];omega
    .unfold Bl;rw[As,Az,Bp,Az];omega
   simp only[By,f.CQ,i1,AD,Ay,Au,f.BL (k:= ys) b,xx,CC.Jh,Af,N1 xx,vu (a:=l[n]) d (Sy Ab),BB n];refine⟨λs=>?_,λs=>?_⟩
   .refine zn (n+1,_) rfl ⟨b,?_,rfl⟩ DO;have:(if n+1<=k then l.take (n+1) else Bl (l.take (n+1)) k)=(if n<=k then l.take n else Bl (l.take n) k)++[l[n]]:=by
     rw[AG b];by_cases c:n<k;.rw[Ae Ab,Ae Ab]
     .rw[Aa Ab,Aa Ab];unfold Bl;rw[Dh (by rw[Az];omega),Qm (by rw[Az];omega),AO]
    simp only
    exact this▸.mk
   .refine zn (n+1,u) rfl ⟨b,?_,rfl⟩ DO;obtain rfl:n=k:=Ab;have:(if n+1<=n then l.take (n+1) else Bl (l.take (n+1)) n)=l.take n:=by rw[Aa Ab];rw[Bl];rw[FL,CE Ab,AU (by rw[Az];omega),Br]
    simp only
    rw[this];rwa[Ae (Af _)] at d
  .rw[Aa Ab,AL w] at d;simp only[By,f.CQ,i1,Ai,Ay,Au];exact⟨_,rfl,d⟩
 obtain⟨r,j,o,rfl,d⟩:=t.ret;exact⟨r,o,d⟩
def f82(o:DB l v)(hb:wn l<=900000000){e:CC}(G:iQ e)(i:Int):∃u d,d.c=e.c/\BF cx 92 [v,zb e.row,I i] h u h/\DB (l.take (CX i (wn l))++d::l.drop (CX i (wn l))) u:=by
 let⟨d,H,y⟩:=aTN (h:=h) G;have D:∀k:Nat,k<=wn l->∃q r p m,AB (.LK 3 zr zr z9) [v,I (k:Int)]=zx q/\AB (.append 3 48) [zw,q]=zx r/\AB (.append 3 48) [r,.sl 3 [d.row]]=zx (.sl 3 ((l.take k++[d]).map zg))/\AB (.LK 3 zr z9 zr) [v,I (k:Int)]=zx p/\AB (.append 3 48) [.sl 3 ((l.take k++[d]).map zg),p]=zx m/\DB (l.take k++d::l.drop k) m:=λk E=>let⟨q,j,s⟩:=vk o (k:= .i64) E;let⟨r,x,B⟩:=vl s (b:=48) (Sy (by rw[Az];omega));have w:=vu (a:=d) B (b:=48) (Sy (by rw[Az];omega));let⟨p,g,A⟩:=AY.VN o (k:= .i64) E;let⟨m,t,z⟩:=AY.oW (f:=CC.row) (l:=l.take k++[d]) .mk A (b:=48) (Sy (by rw[As,Az,Bp,A5];omega));⟨q,r,p,m,j,x,w,g,t,by rw[AO] at z;exact z⟩
 let⟨q,r,p,m,j,x,w,g,t,F⟩:=D (CX i (wn l)) (by rw[CX];omega);refine⟨m,d,H,?_,F⟩;rw[Ac,aJR];by_cases s:i<0
 .have:CX i (wn l)=0:=by rw[CX];omega
  rw[this] at j g;have j:AB (.LK 3 zr zr z9) [v,I 0]=zx q:=j;have g:AB (.LK 3 zr z9 zr) [v,I 0]=zx p:=g;simp only[By,CC.C5,CC.g0,CC.g1,CC.g2,CC.Sw,s,AD,Ai,Ay,Au,o.CQ,(Ab:¬(l.length:Int)<0),j,x,y,N1 CC.C5,w,g,t]
 .by_cases B:(wn l:Int)<i
  .have:CX i (wn l)=wn l:=by rw[CX];omega
   rw[this] at j g;simp only[By,CC.C5,CC.g0,CC.g1,CC.g2,CC.Sw,s,B,AD,Ai,Ay,Au,o.CQ,j,x,y,N1 CC.C5,w,g,t]
  .have:((CX i (wn l):Nat):Int)=i:=by rw[CX];omega
   rw[this] at j g;simp only[By,CC.C5,CC.g0,CC.g1,CC.g2,CC.Sw,s,B,Ai,Ay,Au,o.CQ,j,x,y,N1 CC.C5,w,g,t]
def f84(d:DB l v)(hb:wn l<=900000000):∃u,BF cx 94 [v] h u h/\DB (l.take (Ga l)) u:=by
 let⟨s,es,KP,_⟩:=Lf l;have e:Ga l<=wn l:=by rw[Ga];omega
 obtain⟨u,a,i⟩:=vk d e;let⟨c,b,j⟩:=vl i (Sy (by rw[Az];omega));refine⟨c,?_,j⟩;rw[Ac,aJS];by_cases f:since l-1<0
 .have:Ga l=0:=by rw[Ga];omega
  rw[this] at a;have a:AB (.LK 3 zr zr z9) [v,I 0]=zx u:=a;simp[aFw d Ab,Db (since l) 1,f,AD,Ay,Au,a,b]
 .have:((Ga l:Nat):Int)=since l-1:=by rw[Ga];omega
  rw[this] at a;simp[aFw d Ab,Db (since l) 1,f,Ai,Ay,Au,a,b]
def aN9(A:DB l v)(G:wn l<=900000000)(P:∀x∈l,iQ x){e:CC}(E:iQ e):∃u j,j.c=e.c/\BF cx 129 [v,zb e.row] h u h/\DB (MH e.c l++[j]) u:=by
 let⟨s,J,KP,i,_⟩:=Lf l;have R:Ev cx 129 [v,zb e.row] h λr H=>H=h/\∃j:CC,j.c=e.c/\DB (MH e.c l++[j]) r:=by
  rw[Ev];rw[aD7];have q:=aFw (h:=h) A Ab;rw[J] at q;let⟨L,K⟩:=eC (e:=e.c) J;simp only[By,CC.C5,CC.g0,CC.g1,CC.g2,CC.Sw,q];refine Bm (λn:Nat=>[I (PX e.c (l.take n)),I (VT e.c (l.take n):Int),I (n:Int)])
   (λn B=>s<=n/\n<=wn l/\VT e.c (l.take n)<=n/\((VT e.c (l.take n)=0/\PX e.c (l.take n)= -1)\/∃k:Nat,k<n/\PX e.c (l.take n)=(k:Int))/\B=h) (λn=>wn l-n) s (by rw[L,K];rfl) ⟨Af _,KP,Ab,z2 ⟨L,K⟩,rfl⟩ ?_
  rintro n B ⟨Q,a2,a3,a4,rfl⟩;rcases hJ n (wn l) with⟨d,i1⟩|⟨T,i1⟩
  .have b:=Xz (e:=e.c) d;have a:=XA (e:=e.c) d;rw[Aa (i n d Q)] at b a;have g:=f241 (h:=B) (P _ (AV d)) E;simp only[By,A.CQ,i1,AD,Au,Ay,A.BL d,CC.C5,CC.Jh,Af,g,BB (VT e.c (l.take n)),BB n];rw[CW];refine⟨λy=>⟨λm=>?_,λm=>?_⟩,λy=>?_⟩;.rw[Ae y] at b a;rw[Aa Ab] at a;refine zn (n+1) (by rw[b,a]) ⟨Ab,d,Ab,zf ⟨n,Ab,a⟩,rfl⟩ Ab
   .rw[Ae y] at b a;rw[Ae Ab] at a;refine zn (n+1) (by rw[b,a]) ⟨Ab,d,Ab,zf ?_,rfl⟩ Ab;rw[a];rcases a4 with⟨_,a4⟩|⟨k,F,a4⟩
    .omega
    .exact⟨k,Ab,a4⟩
   .rw[Aa (by simp[y])] at b;rw[Aa (show¬HV l[n].c e.c=z9 by simp[y])] at a;have f:PX e.c (l.take (n+1))=PX e.c (l.take n):=by rw[a];rcases a4 with⟨_,a4⟩|⟨k,F,a4⟩<;>rw[a4]<;>simp
    refine zn (n+1) (by rw[b,f];rfl) ⟨Ab,d,Ab,?_,rfl⟩ Ab;rw[b,f];obtain a4|⟨k,F,a4⟩:=a4
    .exact .inl a4
    .exact .inr ⟨k,Ab,a4⟩
  .rw[AL T] at a3 a4⊢;simp only[By,A.CQ,i1,Au,Ay,Ai];refine⟨λy=>⟨λm=>?_,λm=>?_⟩,λy=>?_⟩
   .rcases a4 with⟨a4,_⟩|⟨k,F,a4⟩
    .omega
    let⟨t,g,M⟩:=aN8 (h:=B) A G (Ab:k<l.length);have hlen:(Bl l k).length<=l.length:=by unfold Bl;rw[As,Az,Bp];omega
    let⟨p,j,C,D,z⟩:=f82 (h:=B) M Ab E ((Bl l k).length:Int);have w:CX ((Bl l k).length:Int) (Bl l k).length=(Bl l k).length:=by rw[CX];omega
    rw[w,Bx,EG] at z;simp only[By,a4,g,AY.CQ M,D];refine⟨_,rfl,j,C,?_⟩;rw[MH,Ae ⟨y,Ab⟩,a4,A6];exact z
   .let⟨p,j,C,D,z⟩:=f82 (h:=B) A G E (wn l:Int);have w:CX (wn l:Int) (wn l)=wn l:=by rw[CX];omega
    rw[w,Bx,EG] at z;simp only[By,D];refine⟨_,rfl,j,C,?_⟩;rw[MH,Aa Ab];exact z
   .let⟨p,j,C,D,z⟩:=f82 (h:=B) A G E (wn l:Int);have w:CX (wn l:Int) (wn l)=wn l:=by rw[CX];omega
    rw[w,Bx,EG] at z;simp only[By,D];refine⟨_,rfl,j,C,?_⟩;rw[MH,Aa (λh=>y h.1)];exact z
 obtain⟨r,H,O,rfl,j,C,N⟩:=R.ret;exact⟨r,j,C,O,N⟩
end
end
def Zh:List Bb->Ad
 |[]=> zw
 |x::l=> .sl 3 ((x::l).map zl)
def aK{l:List Bb}:AK l (Zh l):=by cases l;exact zf ⟨rfl,rfl⟩;exact z2 rfl
def ð{l:List Bb}{x:Bb}:Zh (l++[x])= .sl 3 ((l++[x]).map zl):=by cases l<;>rfl
structure PN where
 x:FE
 kv:Ad
 av:Ad
 ok:av=Zh x.Al
def PN.row(p:PN):List Ad:=[I p.x.kind,I p.x.Ha,p.kv,I p.x.Cd,I p.x.Bk,zk p.x.name,p.av,zk p.x.data,zk p.x.Ho,zk p.x.sys,zq p.x.Cm,I p.x.cont,I p.x.E3]
def PN.C5{p:PN}:wn p.row=13:=rfl
def PN.zero:PN:=⟨{},zw,zw,rfl⟩
def pN(a:List PN)(x:Int):PN:=a.getD (x.toNat-1) PN.zero
def BM(n:Int):List Ad:=[I n]
def Em(l:List Int)(v:Ad):Prop:=AY 1 (l.map BM) v
def L1(h:Ak)(a:Ad)(l:List Int):Prop:=(a= zw/\l=[])\/∃b c,a= .CK b 0 (wn l) 1/\h[b]?=zx (zu (l.map (yw ys)++c))
def I8:Ad->Option Nat
 | .CK a _ _ _=>zx a
 |_=>zc
def yh(l:List (Int×Int)):Prop:=(l.map (·.1)).Nodup/\∀p∈l,Í p.1=z9/\Í p.2=z9
def fG(h:Ak)(m:Option Nat)(f:Int->Int):Prop:=(m=zc/\∀k,f k=0)\/∃(a:Nat) (l:List (Int×Int)),m=zx a/\h[a]?=zx (.map (l.map λx:Int×Int=>(I x.1,I x.2)))/\(∀k,(l.find? λx=>decide (k=x.1)).map (·.2)=if f k=0 then zc else zx (f k))/\yh l
def Hh(a n:Nat)(m:Option Nat)(b:List PN):List Nat:=a::n::(m.toList++b.filterMap λp=>I8 p.kv)
structure PA(h:Ak)(a n:Nat)(m:Option Nat)(ps:List PN)(A:Ar):Prop where
 e:A.n=ps.map PN.x
 il:wn A.i=wn A.n
 ha:h[a]?=zx (zu [.CK n 0 (wn ps) 13,.map m])
 hn:h[n]?=zx (zu (ps.map PN.row).flatten)
 ks:∀p∈ps,L1 h p.kv p.x.Bj
 nd:(Hh a n m ps).Nodup
 mp:fG h m A.inr
structure Dx(h:Ak)(F:Nat->Prop)(h':Ak)(F':Nat->Prop):Prop where
 len:wn h<=wn h'
 old:∀i,i<wn h->¬F i->h'[i]?=h[i]?
 BD:∀i,F' i->F i\/wn h<=i
section
variable{h c a t:Ak}{F d b:Nat->Prop}
def Dx.refl:Dx h F h F:=⟨Af _,λ_ _ _=>rfl,λ_ h=> z2 h⟩
def Dx.trans(x:Dx h F c d)(y:Dx c d a b):Dx h F a b:=
 ⟨BC x.len y.len,λi e f=>by
  exact y.old i (KK e x.len) (λh=>by obtain h|h:=x.BD i h;exact f h;omega)▸x.old i e f,λi e=>by
  obtain h|h:=y.BD i e
  .exact x.BD i h
  .exact zf (BC x.len h)⟩
def Dx.If:Dx h F (h++t) F:=⟨AF,λi a _=>An a,λ_ h=> z2 h⟩
end
def PW(h:Ak)(F:Nat->Prop)(a:Nat)(A:Ar):Prop:=∃n m b,PA h a n m b A/\∀i,F i↔i∈Hh a n m b
section
variable{h h':Ak}{a n:Nat}{m:Option Nat}{Y:List PN}{A:Ar}{x:Int}{F:Nat->Prop}
def L1.Dt{b:Ad}{l:List Int}(c:L1 h b l)(d:∀a,I8 b=zx a->h'[a]?=h[a]?):L1 h' b l:=by
 rcases c with⟨rfl,rfl⟩|⟨a,f,rfl,e⟩
 .exact z2 ⟨rfl,rfl⟩
 .exact zf ⟨a,f,rfl,d a rfl▸e⟩
def fG.Dt{f:Int->Int}(b:fG h m f)(c:∀a,m=zx a->h'[a]?=h[a]?):fG h' m f:=by
 obtain h1|⟨a,l,rfl,d,e⟩:=b
 .exact z2 h1
 .exact zf ⟨a,l,rfl,c a rfl▸d,e⟩
def Nh{p:PN}{b:Nat}(c:p∈Y)(d:I8 p.kv=zx b):b∈Hh a n m Y:=by simp only[Hh,A0,AA];exact zf (zf (zf (Cz.2 ⟨p,c,d⟩)))
def PA.Dt(w:PA h a n m Y A)(b:∀i∈Hh a n m Y,h'[i]?=h[i]?):PA h' a n m Y A:=
 ⟨w.e,w.il,b a (by simp[Hh])▸w.ha,b n (by simp[Hh])▸w.hn,λp d=>(w.ks p d).Dt λc j=>b c (Nh d j),w.nd,w.mp.Dt λc f=>b c (by simp[Hh,f])⟩
def PA.lt(w:PA h a n m Y A):∀i∈Hh a n m Y,i<wn h:=by
 intro i b;rw[Hh] at b;simp[A0,AA,Cz] at b;obtain rfl|rfl|b|⟨p,j,c⟩:=b
 .exact(Aq.1 w.ha).1
 .exact(Aq.1 w.hn).1
 .rcases w.mp with⟨rfl,_⟩|⟨f,l,rfl,d,_⟩
  .simp at b
  .simp at b;subst b;exact(Aq.1 d).1
 .rcases w.ks p j with⟨e,_⟩|⟨f,cs,e,d⟩
  .rw[e] at c;cases c
  .rw[e] at c;cases c;exact(Aq.1 d).1
def PW.Dt(w:PW h F a A)(c:∀i,F i->h'[i]?=h[i]?):PW h' F a A:=let⟨n,m,Y,w,e⟩:=w;⟨n,m,Y,w.Dt λi b=>c i ((e i).2 b),e⟩
def PW.lt(w:PW h F a A){i:Nat}(b:F i):i<wn h:=let⟨n,m,Y,w,e⟩:=w;w.lt i ((e i).1 b)
section
variable(w:PA h a n m Y A)
def PA.aA0:wn A.n=wn Y:=by rw[w.e,Ao]
def PA.at(a:A.has x):x.toNat-1<wn Y/\((x.toNat-1:Nat):Int)=x-1:=by have:=w.aA0;rw[Ar.has] at a;omega
def PA.pn(c:A.has x):Y[x.toNat-1]?=zx (pN Y x)/\(pN Y x).x=A.nd x/\pN Y x∈Y:=by
 have a:=(w.at c).1;have b:pN Y x=Y[x.toNat-1]:=by rw[pN];rw[A3,Ap a];rfl
 refine⟨b▸(Ap a),?_,b▸AV _⟩;rw[Ar.nd];rw[Ae c,w.e,b,A3,Cp,Ap a];rfl
end
def Ni{AH:List (List Ad)}{z i k:Nat}(b:∀r∈AH,wn r=z)(c:k<z){r:List Ad}(d:AH[i]?=zx r):AH.flatten[i*z+k]?=r[k]?:=by
 have f:(AH.flatten.drop (i*z))[k]?=r[k]?:=by rw[Km b];let⟨a,e⟩:=Aq.1 d;rw[AI a,e,Dk,An (b r (e▸AV a)▸c)]
 rwa [CF] at f
def bd(l:List PN):∀r∈l.map PN.row,wn r=13:=LU (λ_=>PN.C5) l
def nP(n:Nat)(x:Int):Nat:=(x.toNat-1)*13
section
variable(w:PA h a n m Y A)
def PA.RM(a:A.has x){k:Nat}(b:k<13):A8 h zc (Pt n (nP n x+k))=(pN Y x).row[k]?:=by rw[nP];simp[A8,w.hn,Fg];exact Ni (bd Y) b (by rw[Cp,(w.pn a).1];rfl)
def Zi:BF cx 148 [Pt a 0,I x] h (zq (decide (A.has x))) h:=by
 have d:A8 h zc (Pt a 0)=zx (.CK n 0 (wn Y) 13):=by rw[A8,w.ha];rfl
 have c:AB (wf zr) [.CK n 0 (wn Y) 13]=zx (I (wn Y:Int)):=rfl;simp only[Ac,qF,abS,d,c];have b:A.has x↔1<=x/\x<=(wn Y:Int):=by rw[Ar.has];rw[w.aA0]
 refine⟨λf=>?_,λf=>?_⟩;.congr 2;rw[DG,b];exact⟨λh=>⟨f,h⟩,λh=>h.2⟩
 .rw[Ag (λh=>f (b.1 h).1)]
def PA.nodes:A8 h zc (Pt a 0)=zx (.CK n 0 (wn Y) 13):=by rw[A8,w.ha];rfl
def PA.len:((wn Y:Nat):Int)=A.len:=by rw[Ar.len];rw[w.aA0]
end
def aHk(w:PA h a n m Y A){l:List Int}{v:Ad}(p:Em l v)(hb:wn l<=1000):BF cx 230 [Pt a 0,v] h (I (if∀x∈l,A.has x then 0 else 3)) h:=by
 simp only[Ac,rP,abS,p.CQ];refine Bm (λk:Nat=>[I 0,I (k:Int)]) (λk o=>k<=wn l/\(∀x∈l.take k,A.has x)/\o=h) (λk=>wn l-k) 0 rfl ⟨AZ _,AF,rfl⟩ ?_;rintro k o ⟨hk,j,rfl⟩;rcases hJ k (wn l) with⟨d,i1⟩|⟨q,i1⟩
 .have c:A8 o zc (.CO (BM l[k]))=zx (I l[k]):=rfl;simp only[By,T6,i1,p.BL d,c,Zi w,BB k];rw[CW];refine⟨λe=>?_,λe=>?_⟩
  .have e:=zv e
   rw[Aa (λb=>e (b _ (AV d)))]
  .have e:=zv e
   refine zn (k+1) rfl ⟨d,?_,rfl⟩ Ab;intro x f;rw[AG d,AA,Ax] at f;obtain f|rfl:=f
   .exact j x f
   .exact e
 .rw[AL q] at j;simp[i1,Ae j]
def UO(w:PA h a n m Y A):BF cx 230 [Pt a 0,.sl 1 [[I x]]] h (I (if A.has x then 0 else 3)) h:=have:=aHk w (l:=[x]) (v:= .sl 1 [[I x]]) .mk AF;zv this
def NA{y:Int}(w:PA h a n m Y A):BF cx 230 [Pt a 0,.sl 1 [[I x],[I y]]] h (I (if A.has x/\A.has y then 0 else 3)) h:=have:=aHk w (l:=[x,y]) (v:= .sl 1 [[I x],[I y]]) .mk AF;zv this
def H8{x:Int}:AB (.Df 1) [I x]=zx (.sl 1 [[I x]]):=rfl
def GU{x y:Int}:AB (.Df 1) [I x,I y]=zx (.sl 1 [[I x],[I y]]):=rfl
def OM.of(b:OM A)(a:A.has x):1<=x/\x<=1000000000:=by have:=b.n;rw[Ar.has] at a;omega
section
variable(w:PA h a n m Y A)
def J3(b:OM A)(d:A.has x):BF cx 152 [Pt a 0,I x] h (Pt n (nP n x)) h:=by
 have hr:=b.of d;have c:AB (.EM 13) [.CK n 0 (wn Y) 13,I (x-1)]=zx (Pt n (nP n x)):=((w.at d).2)▸FN (w.at d).1
 simp[ZN,w.nodes,Db x 1,c]
def PA.f0(a:A.has x):A8 h zc (Pt n (nP n x))=zx (I (A.nd x).kind):=by have:=w.RM a (k:=0) AR;rwa[<-(w.pn a).2.1]
def PA.f1(a:A.has x):A8 h zc (Pt n (nP n x+1))=zx (I (A.nd x).Ha):=by have:=w.RM a (k:=1) AR;rwa[<-(w.pn a).2.1]
def PA.f2(a:A.has x):A8 h zc (Pt n (nP n x+2))=zx (pN Y x).kv:=have:=w.RM a AR;this
def PA.f4(a:A.has x):A8 h zc (Pt n (nP n x+4))=zx (I (A.nd x).Bk):=by have:=w.RM a (k:=4) AR;rwa[<-(w.pn a).2.1]
def PA.f5(a:A.has x):A8 h zc (Pt n (nP n x+5))=zx (zk (A.nd x).name):=by have:=w.RM a (k:=5) AR;rwa[<-(w.pn a).2.1]
def PA.f6(a:A.has x):A8 h zc (Pt n (nP n x+6))=zx (pN Y x).av:=have:=w.RM a AR;this
def PA.OL(a:A.has x):L1 h (pN Y x).kv (A.nd x).Bj:=(w.pn a).2.1▸w.ks _ (w.pn a).2.2
def PA.ħ(a:A.has x):(pN Y x).av=Zh (A.nd x).Al:=(w.pn a).2.1▸(pN Y x).ok
def PA.row(b:A.has x):A8 h (zx 13) (Pt n (nP n x))=zx (zb (pN Y x).row):=by
 have d:((Y.map PN.row).flatten.drop (nP n x)).take 13=(pN Y x).row/\nP n x+13<=(Y.map PN.row).flatten.length:=by rw[nP];have a:=(w.at b).1;have c:=(w.pn b).1;rw[Km (bd Y),GX (bd Y),Ao];refine⟨?_,Ab⟩;rw[<-JA,AI a,Bn,Dk];rw[Ap a,BN] at c;exact c▸Jc PN.C5
 simp only[A8,w.hn,OY];rw[Ae d.2,d.1]
end
def Po:∀{l:List Int} {cs W0:List Ad},CP (W0++(l.map (yw ys)++cs)) 1 (wn W0) (wn l)=l.map BM
 |[],_,_=>rfl
 |x::l,cs,W0=>by have:=Po (l:=l) (cs:=cs) (W0:=W0++[I x]);rw[AO,As,A5] at this;rw[Bn,Bg,CP,CS];rw[KZ rfl];rw[CS,B4] at this;rw[this];rfl
section
variable{kv:Ad}{l:List Int}(hk:L1 h kv l)
def L1.AH:Hy h 1 kv=zx (l.map BM):=by
 rcases hk with⟨rfl,rfl⟩|⟨id,a,rfl,b⟩
 .rfl
 .have:=Po (l:=l) (cs:=a) (W0:=[]);rw[B4,BH] at this;simp only[Hy,BV,b,this];rw[Ae AF]
def L1.len:AB (wf zr) [kv]=zx (I (wn l:Int)):=by rcases hk with⟨rfl,rfl⟩|⟨id,cs,rfl,hc⟩<;>rfl
def aHl(hb:wn l<=1000000000):∃v,BF cx 378 [kv] h v h/\Em l v:=by
 have d:=hk.AH;rcases hk with⟨rfl,rfl⟩|⟨c,cs,rfl,hc⟩
 .exact⟨zw,by simp[aF,aJV,show AB (.GH zr .sl) [zw,zw]=zx (zq z9) from rfl],zf ⟨rfl,rfl⟩⟩
 .refine⟨.sl 1 (l.map BM),?_,.mk⟩;have b:TV h 1 8 (.sl 1 []) (.CK c 0 (wn l) 1)=zx (.sl 1 (l.map BM)):=by
   rw[TV];rw[d,CR];cases l with
   |nil=>rfl
   |cons x l=>
    have:(x::l).length*8<=AN:=by have:AN=140737488355328:=rfl;omega
    simp only[Bn,Ee,Bg,Ao,BH] at this⊢;rw[Ae ⟨trivial,zv this⟩];rfl
  simp[aF,aJV,show AB (.GH zr .sl) [.CK c 0 (wn l) 1,zw]=zx (zq zr) from rfl,show AB (.Df 1) []=zx (.sl 1 []) from rfl,b]
end
def Kw(h:Ak)(v:Ad)(l:List Bb):Prop:=(v= zw/\l=[])\/∃a,v= .CK a 0 (wn l) 3/\h[a]?=zx (zu (l.map zl).flatten)/\a<wn h
def Kw.If{v:Ad}{l:List Bb}{t:Ak}(b:Kw h v l):Kw (h++t) v l:=by
 obtain h1|⟨a,e,d,c⟩:=b
 .exact z2 h1
 .exact zf ⟨a,e,An c▸d,by rw[As];omega⟩
def Kw.cells{v:Ad}{l:List Bb}(a:Kw h v l):v.cells=[v]:=by rcases a with⟨rfl,_⟩|⟨id,rfl,_,_⟩<;>rfl
structure O6(h:Ak)(v:Ad)(l:List Bb):Prop where
 len:AB (wf zr) [v]=zx (I (wn l:Int))
 at_:∀k (hk:k<wn l),∃p,AB (.EM 3) [v,I (k:Int)]=zx p/\A8 h (zx 3) p=zx (zb l[k].row)
def fH{v:Ad}{l:List Bb}(a:AK l v):O6 h v l:=⟨xs a,λk b=>⟨_,wu a b,rfl⟩⟩
def aKa(l:List Bb):∀r∈l.map zl,wn r=3:=LU (f:=zl) (λ_=>rfl) l
def Kw.in_{v:Ad}{l:List Bb}(c:Kw h v l):O6 h v l:=by
 rcases c with⟨rfl,rfl⟩|⟨b,rfl,d,_⟩
 .exact⟨rfl,λk a=>by simp at a⟩
 .refine⟨rfl,λk a=>⟨Pt b (k*3),FN a,?_⟩⟩;simp only[A8,d,OY];rw[Ae (by rw[GX (aKa l),Ao];omega),Km (aKa l),<-JA,AI a,Bn,Dk];rfl
def Up(N:Nat)(v:Ad):Prop:=∀a k,v= .CK a 0 k 3->N<=a
def aA1{v:Ad}{l:List Bb}(c:v=Zh l)(hb:wn l<=1000000000):∃u t,BF cx 100139 [v] h u (h++t)/\Kw (h++t) u l/\Up (wn h) u:=by
 cases l with
 |nil=>refine⟨zw,[],?_,z2 ⟨rfl,rfl⟩,λ_ _ e=>nomatch e⟩;simp[Br,QU,c,Zh,show AB (.GH zr .sl) [zw,zw]=zx (zq z9) from rfl]
 |cons x l=>have e:=Nd (h:=h) (b:=40) (zf rfl) (AY.mk (z:=3) (AH:=(x::l).map zl)) AF (by rw[Ao];have:AN=140737488355328:=rfl;omega);rw[Ao] at e;refine⟨.CK (wn h) 0 (x::l).length 3,[zu ((x::l).map zl).flatten],?_,zf ⟨wn h,rfl,AF,AF⟩,λ_ _ e=>by injection e with e;omega⟩;simp only[Ac,QU,c,By,Zh,show AB (.GH zr .sl) [.sl 3 ((x::l).map zl),zw]=zx (zq zr) from rfl,show AB (.Df 3) []=zx (.sl 3 []) from rfl,e]
def Zj(h:Ak)(N:Nat)(x:FE)(r:List Ad):Prop:=∃K V,r=[I x.kind,I x.Ha,K,I x.Cd,I x.Bk,zk x.name,V,zk x.data,zk x.Ho,zk x.sys,zq x.Cm,I x.cont,I x.E3]/\Em x.Bj K/\Kw h V x.Al/\Up N V
def Zj.If{x:FE}{r:List Ad}{t:Ak}{N:Nat}(a:Zj h N x r):Zj (h++t) N x r:=let⟨K,V,e,d,c,b⟩:=a;⟨K,V,e,d,c.If,b⟩
section
variable(w:PA h a n m Y A)
def aHm(f:OM A)(a:A.has x)(b:(A.nd x).Bj.length<=1000000000):∃r t,BF cx 290 [Pt n (nP n x)] h (zb r) (h++t)/\Zj (h++t) (wn h) (A.nd x) r:=by let⟨K,e,d⟩:=aHl (w.OL a) b;let⟨V,t,j,c,g⟩:=aA1 (h:=h) (w.ħ a) (f.at_ x);refine⟨_,t,?_,K,V,rfl,d,c,g⟩;have i:=w.row a;rw[Ac,sF];rw[PN.row,(w.pn a).2.1] at i;simp[i,w.f2 a,w.f6 a,e,BK,j,AY.cells d,c.cells]
def aKb(c:OM A)(b:(A.nd x).Bj.length<=1000000000):∃r t,BF cx 157 [Pt a 0,I x] h (ze [zb r,I (if A.has x then 0 else 3)]) (h++t)/\Zj (h++t) (wn h) (A.nd x) r:=by
 by_cases f:A.has x;.let⟨r,t,d,i⟩:=aHm w c f b;have j:=i;obtain⟨K,V,rfl,_⟩:=i;refine⟨_,t,?_,j⟩;simp[ZO,AP,H8,UO w,Ae f,BR,CH,J3 w c f,d]
 .refine⟨_,[],?_,zw,zw,by rw[HO f],HO f▸zf ⟨rfl,rfl⟩,HO f▸z2 ⟨rfl,rfl⟩,λ_ _ e=>nomatch e⟩;simp only[Ac,ZO,Br,abS,AP,H8,UO w,Aa f,BR,Jq,D3]
def aHn(d:OM A)(b:(A.nd x).Bj.length<=1000000000):∃v,BF cx 297 [Pt a 0,I x] h v h/\Em (A.nd x).Bj v:=by
 by_cases f:A.has x;.let⟨K,c,e⟩:=aHl (w.OL f) b;refine⟨K,?_,e⟩;simp[aB,Zi w,Ah f,J3 w d f,w.f2 f,c]
 .refine⟨zw,?_,HO f▸zf ⟨rfl,rfl⟩⟩;simp[aB,Zi w,Ag f]
def aOb(b:OM A):BF cx 392 [Pt a 0,I x] h (I (A.nd x).Ha) h:=by
 by_cases c:A.has x;.rw[Ac,aG];simp[Zi w,Ah c,J3 w b c,w.f1 c]
 .rw[Ac,aG,HO c];simp[Zi w,Ag c]
def aTU:BF cx 140 [Pt a 0] h (I A.len) h:=by have b:AB (wf zr) [.CK n 0 (wn Y) 13]=zx (I (wn Y:Int)):=rfl;simp[aEc,w.nodes,b,w.len]
def be(b:OM A):BF cx 228 [Pt a 0,I x] h (I (if A.has x then(if(A.nd x).kind=1 then 0 else 9) else 3)) h:=by
 rw[Ac,rO];by_cases c:A.has x
 .simp only[abS,H8,UO w,Ae c,BR,CH,J3 w b c,w.f0 c];by_cases d:(A.nd x).kind=1;.simp only[d,abS,CH]
  .simp only[d,abS]
 .simp only[abS,H8,UO w,Aa c,BR,Jq]
end
def aA2{l:List PN}:(l.map PN.row).flatten.length=wn l*13:=by rw[GX (bd l),Ao]
def bg{p:PN}{b:Nat}(c:I8 p.kv=zc):Hh a b m (Y++[p])=a::b::(m.toList++Y.filterMap λp=>I8 p.kv):=by rw[Hh];rw[Fz];simp[c]
def aA3{x:FE}(a:wn A.i=wn A.n):(A.add x).inr=A.inr:=by funext k;exact ZF a
def aA4(w:PA h a n m Y A)(hb:wn Y+1<=1000000000)(p:PN)(B:p.kv= zw)(j:p.x.Bj=[]):
  ∃z,BF cx 151 [Pt a 0,zb p.row] h (I (A.len+1)) z/\PA z a (wn h) m (Y++[p]) (A.add p.x)/\(∀i,i<wn h->i≠a->i≠n->z[i]?=h[i]?)/\wn z=wn h+1:=by
 have H:a<h.length:=w.lt a (by simp[Hh]);have Rg:n<h.length:=w.lt n (by simp[Hh]);have k:a≠n:=by have:=w.nd;simp[Hh] at this;exact this.1.1
 have d:=JZ (h:=h) (id:=n) (AH:=Y.map PN.row) (r2:=[p.row]) (v:= .sl 13 [p.row]) (b:=168) (bd Y) AR w.hn .mk AF (by rw[Ao];have:AN=140737488355328:=rfl;simp;omega);rw[Ao] at d;simp only[A5] at d;have J:(h.set n .CV++[z8 (Y.map PN.row++[p.row]).flatten])[a]?=zx (zu [.CK n 0 (wn Y) 13,.map m]):=by rw[An (by simpa using H),Av (D8 k)];exact w.ha
 have C:Cv (h.set n .CV++[z8 (Y.map PN.row++[p.row]).flatten]) 1 (Pt a 0) (.CK (wn h) 0 (wn Y+1) 13)=zx ((h.set n .CV++[z8 (Y.map PN.row++[p.row]).flatten]).set a (zu [.CK (wn h) 0 (wn Y+1) 13,.map m])):=by simp only[Cv,J];rfl
 have o:A8 ((h.set n .CV++[z8 (Y.map PN.row++[p.row]).flatten]).set a (zu [.CK (wn h) 0 (wn Y+1) 13,.map m])) zc (Pt a 0)=zx (.CK (wn h) 0 (wn Y+1) 13):=by simp only[A8];rw[AT ES];rfl
 have r:AB (wf zr) [.CK (wn h) 0 (wn Y+1) 13]=zx (I ((wn Y+1:Nat):Int)):=rfl;have D:AB (.Df 13) [.agg p.row]=some (.sl 13 [p.row]):=Oh (a:= .agg p.row) rfl AR;refine⟨(h.set n .CV++[z8 (Y.map PN.row++[p.row]).flatten]).set a (zu [.CK (wn h) 0 (wn Y+1) 13,.map m]),?_,?_,?_,?_⟩;rotate_left
 .refine⟨by simp[va,w.e],by simp[va,w.il],?_,?_,?_,?_,?_⟩;.rw[AT ES];simp
  .rw[Av Ab,Bu AF];simp
  .intro q s;obtain s|s:=AA.1 s
   .refine(w.ks q s).Dt λl y=>?_;have t:l∈Hh a n m Y:=Nh s y;have u:=w.lt l t;have c:=w.nd;unfold Hh at c;simp only[CA,A0,MO] at c;rw[Av (λe=>c.1.2 (e▸(AA.2 (zf (Cz.2 ⟨q,s,y⟩)))):a≠l),An (zv u),Av (λe=>c.2.1 (e▸(AA.2 (zf (Cz.2 ⟨q,s,y⟩)))):n≠l)]
   .simp at s;subst s;exact z2 ⟨B,j⟩
  .rw[bg (by rw[B];rfl)];have c:=w.nd;unfold Hh at c;simp only[CA,A0,MO] at c⊢;refine⟨⟨Ab,c.1.2⟩,λE=>?_,c.2.2⟩;have:=w.lt (wn h) (by unfold Hh;simp only[A0];exact zf (zf E));omega
  .rw[aA3 w.il];refine w.mp.Dt λl y=>?_;have t:l∈m.toList++Y.filterMap λp=>I8 p.kv:=by simp[y]
   have u:=w.lt l (by unfold Hh;simp only[A0];exact zf (zf t));have c:=w.nd;unfold Hh at c;simp only[CA,A0,MO] at c;rw[Av (λe=>c.1.2 (e▸t):a≠l),An (zv u),Av (λe=>c.2.1 (e▸t):n≠l)]
 .intro i G t u;rw[Av (D8 t),An (zv G),Av (D8 u)]
 .simp
 .have F:A.len+1=((wn Y+1:Nat):Int):=by rw[<-w.len];rfl
  rw[PN.row] at D d C o;rw[Ac,ZM,F,PN.row];simp only[abS,Nat.reduceLeDiff,↓reduceIte,AP,w.nodes,D,d,C,o,r]
def P1{AH:List (List Ad)}{z i k:Nat}(a:∀r∈AH,wn r=z)(f:i<wn AH)(hk:k<z){v:Ad}:AH.flatten.take (i*z+k)++[v]++AH.flatten.drop (i*z+k+1)=(AH.set i (AH[i].set k v)).flatten:=by
 have hl:=a _ (AV f);rw[<-zE a f];have b:AH.flatten.drop (i*z)=AH[i]++AH.flatten.drop (i*z+z):=by
  have e:i*z+z=(i+1)*z:=by rw[Ch,GO]
  rw[e,Km a,Km a,AI f,Dk]
 have d:AH.flatten.take (i*z+k)=AH.flatten.take (i*z)++AH[i].take k:=by rw[aGB,b,Dh Ab]
 have c:AH.flatten.drop (i*z+k+1)=AH[i].drop (k+1)++AH.flatten.drop (i*z+z):=by rw[nB,<-FJ,b,Qm Ab]
 rw[d,c,B0,Ae Ab];simp
section
variable(w:PA h a n m Y A)(hx:A.has x)
def PA.sto{k:Nat}(l:k<13){v:Ad}(f:v.cells=[v]){p:PN}(i:p.row=(pN Y x).row.set k v){b:Ak}(j:b[n]?=h[n]?):
  Cv b 1 (Pt n (nP n x+k)) v=zx (b.set n (zu ((Y.set (x.toNat-1) p).map PN.row).flatten)):=by
 have a:=(w.at hx).1;have c:=(w.pn hx).1;rw[Ap a,BN] at c;have e:=P1 (v:=v) (bd Y) (zv a) l;rw[C4,c,<-i,<-Fa] at e;simp only[nP,Cv,j,w.hn,f,A5,OE];rw[Ae (by rw[GX (bd Y),Ao];omega),e]
def fI(p:PN):Y=Y.take (x.toNat-1)++pN Y x::Y.drop (x.toNat-1+1)/\Y.set (x.toNat-1) p=Y.take (x.toNat-1)++p::Y.drop (x.toNat-1+1):=by have a:=(w.at hx).1;have b:=(w.pn hx).1;rw[Ap a,BN] at b;refine⟨?_,by rw[B0,Ae a]⟩;conv=>lhs;rw[<-CU (x.toNat-1) Y,AI a,b]
end
def aA5{y:FE}:(A.set x y).inr=A.inr:=by funext k;exact VU
def PA.ğ(w:PA h a n m Y A)(F:A.has x){p:PN}{h1:Ak}(t:∀i∈Hh a n m Y,I8 (pN Y x).kv≠zx i->h1[i]?=h[i]?)(Q:L1 h1 p.kv p.x.Bj)
  (C:I8 p.kv=I8 (pN Y x).kv\/∀j,I8 p.kv=zx j->h.length<=j):PA (h1.set n (.cells ((Y.set (x.toNat-1) p).map PN.row).flatten)) a n m (Y.set (x.toNat-1) p) (A.set x p.x):=by
 have hlt:=(w.at F).1;obtain⟨z,B⟩:=fI w F p;have g:∀j,I8 (pN Y x).kv=zx j->j∈m.toList++Y.filterMap λp=>I8 p.kv:=λj f=>AA.2 (.inr (Cz.2 ⟨_,(w.pn F).2.2,f⟩));have l:=w.nd;unfold Hh at l;simp only[CA,A0,MO] at l;have Rg:n<h.length:=w.lt n (by simp[Hh]);have v:h1[n]?=h[n]?:=t n (by simp[Hh]) (λe=>l.2.1 (g n e));have y:n<h1.length:=by have:=w.hn;rw[<-v] at this;exact(Aq.1 this).1
 have N:∀j,I8 p.kv=zx j->j≠n/\j≠a:=by
  intro j f;rcases C with C|C
  .rw[C] at f;exact⟨λe=>(λe=>l.2.1 (g n e)) (e▸f),λe=>(λe=>l.1.2 (g a e)) (e▸f)⟩
  .have:=C j f;have:=w.lt a (by simp[Hh]);omega
 refine⟨?_,?_,?_,?_,?_,?_,?_⟩;.simp only[Ar.set,Ae F];rw[w.e,Fa]
 .rw[KU];exact w.il
 .rw[Av (D8 l.1.1),t a (by simp[Hh]) (λe=>l.1.2 (g a e)),Bw];exact w.ha
 .rw[AT y]
 .intro q L;by_cases c:q=p;.rw[c];exact Q.Dt λE H=>by rw[Av (D8 (N E H).1)]
  .rw[B] at L;have d:q∈Y.take (x.toNat-1)++Y.drop (x.toNat-1+1):=by
    rcases AA.1 L with b|b
    .exact AA.2 (.inl b)
    .exact AA.2 (.inr ((A0.1 b).resolve_left c))
   have J:q∈Y:=by
    rcases AA.1 d with b|b
    .exact BQ b
    .exact BU b
   refine(w.ks q J).Dt λj f=>?_;have o:j∈Hh a n m Y:=Nh J f;have u:j≠n:=λe=>l.2.1 (e▸AA.2 (.inr (Cz.2 ⟨q,J,f⟩)));have K:I8 (pN Y x).kv≠zx j:=by
    intro s;have r:=(C2.1 l.2.2).2.1;rw[z,Fz,JP,s] at r;simp only[C2,CA,A0,Cz] at r;rcases AA.1 d with b|b
    .exact r.2.2 j ⟨q,b,f⟩ j (.inl rfl) rfl
    .exact r.2.1.1 ⟨q,b,f⟩
   rw[Av (D8 u),t j o K]
 .have G:∀j,I8 p.kv=zx j->I8 (pN Y x).kv=zx j\/j∉Hh a n m Y:=by
   intro j f;rcases C with C|C
   .exact .inl (C▸f)
   .exact .inr λP=>by have:=C j f;have:=w.lt j P;omega
  have h1:=w.nd;unfold Hh at h1 G⊢;rw[z,Fz,JP] at h1;rw[z,Fz,JP] at G;rw[B,Fz,JP];generalize vo (λp=>I8 p.kv) (Y.take (x.toNat-1))=T at h1 G⊢;generalize vo (λp=>I8 p.kv) (Y.drop (x.toNat-1+1))=D at h1 G⊢;cases O:I8 p.kv with
  |none=>
   cases t:I8 (pN Y x).kv with
   |none=>rw[t] at h1;exact h1
   |some k=>rw[t] at h1;refine h1.sublist ?_;simp
  |some j=>
   have:=G j O;cases t:I8 (pN Y x).kv with
   |none=>rw[t] at h1 this;simp only[CA,C2,A0,AA] at h1 this⊢;grind
   |some k=>rw[t] at h1 this;simp only[CA,C2,A0,AA] at h1 this⊢;grind
 .rw[aA5];refine w.mp.Dt λE H=>?_;have o:E∈m.toList++Y.filterMap λp=>I8 p.kv:=by simp[H]
  have u:n≠E:=λe=>l.2.1 (e▸o);have K:I8 (pN Y x).kv≠zx E:=by intro M;exact(C2.1 l.2.2).2.2 E (by simp[H]) E (Cz.2 ⟨_,(w.pn F).2.2,M⟩) rfl
  rw[Av u,t E (by unfold Hh;simp only[A0];exact .inr (.inr o)) K]
def PA.pw(w:PA h a n m Y A):PW h (λi=>i∈Hh a n m Y) a A:=⟨n,m,Y,w,λ_=>Iff.rfl⟩
def OM.add{y:FE}(b:OM A)(d:A.len+1<=1000000000)(a:wn y.Al<=1000000000)(c:wn y.data<=1000000000):OM (A.add y):=by
 refine⟨?_,λx=>?_,λx=>?_⟩;.unfold Ar.len at d;simp[va];omega
 .rw[J1];split;.exact a
  .exact b.at_ x
 .rw[J1];split;.exact c
  .exact b.data x
def OM.set{y:FE}(b:OM A)(a:wn y.Al<=1000000000)(c:wn y.data<=1000000000):OM (A.set x y):=by
 refine⟨by rw[KU];exact b.n,λx=>?_,λx=>?_⟩<;>rw[Lg]<;>split;.exact a
 .exact b.at_ x
 .exact c
 .exact b.data x
def aFB{x y:FE}:(A.add x).set (A.len+1) y=A.add y:=by rw[Ar.set];rw[Ae (Eh.2 (zf rfl))];unfold va Ar.len;rw[(Ab:((wn A.n:Int)+1).toNat-1=wn A.n)];rw[BO _ _ (Af _),Dy];rfl
def yi{p:PN}(w:PA h a n m Y A)(d:A.has x)(e:I8 p.kv=I8 (pN Y x).kv):Hh a n m (Y.set (x.toNat-1) p)=Hh a n m Y:=by let⟨c,b⟩:=fI w d p;unfold Hh;rw[b,Fz,JP,e];conv=>rhs;rw[c,Fz,JP]
def PA.wr(w:PA h a n m Y A)(b:A.has x){k:Nat}(j:k<13){v:Ad}(e:v.cells=[v]){p:PN}(f:p.row=(pN Y x).row.set k v)(d:p.kv=(pN Y x).kv)(o:p.x.Bj=(A.nd x).Bj):
  ∃c,Cv h 1 (Pt n (nP n x+k)) v=zx c/\PA c a n m (Y.set (x.toNat-1) p) (A.set x p.x)/\Hh a n m (Y.set (x.toNat-1) p)=Hh a n m Y/\(∀i,i≠n->c[i]?=h[i]?)/\wn c=wn h:=by
 refine⟨_,w.sto b j e f rfl,w.ğ b (λi _ _=>rfl) (d▸o▸w.OL b) (z2 (by rw[d])),yi w b (by rw[d]),λi l=>Av (D8 l),Bw⟩
def PA.yj(w:PA h a n m Y A){b:Ak}{c:List PN}{A':Ar}(w':PA b a n m c A')(j:Hh a n m c=Hh a n m Y)(d:∀i,i≠n->b[i]?=h[i]?)(hl:wn b=wn h):Dx h (λi=>i∈Hh a n m Y) b (λi=>i∈Hh a n m c):=
 ⟨Ab,λi _ f=>d i (λe=>f (by rw[e];simp[Hh])),λi k=> z2 (by rwa [j] at k)⟩
def Mu(q:Bool)(d:Int):PN:=⟨{kind:=1,Cm:=q,Cd:=d},zw,zw,rfl⟩
def aTW(w:PA h a n m Y A)(l:OM A)(D:A.len+1<=1000000000)(q:Bool):
  ∃u,BF cx 50 [Pt a 0,zq q] h (I (A.len+1)) u/\PA u a (wn h) m (Y++[Mu q (A.len+1)]) (A.add {kind:=1,Cm:=q,Cd:=A.len+1})/\(∀i,i<wn h->i≠a->i≠n->u[i]?=h[i]?)/\wn u=wn h+1:=by
 have nM:=w.len;let⟨F,f,z,j,l1⟩:=aA4 w Ab (Mu q 0) rfl rfl;have d:(A.len+1).toNat-1=wn Y:=Ab;have B:pN (Y++[Mu q 0]) (A.len+1)=Mu q 0:=by rw[pN];rw[d];simp
 let⟨E,e,b,_,g,s⟩:=z.wr (Eh.2 (zf rfl)) (k:=3) AR (v:= I (A.len+1)) rfl (p:=Mu q (A.len+1)) (by rw[B];rfl) (by rw[B];rfl) (by rw[J1,Ae rfl];rfl);refine⟨E,?_,?_,λi C r o=>?_,Ab⟩;.rw[Ac,pG];have c:BF cx 151 [Pt a 0,zb [I 1,I 0,zw,I 0,I 0,zk [],zw,zk [],zk [],zk [],zq q,I 0,I 0]] h (I (A.len+1)) F:=f;simp[AP,c,J3 z (l.add (y:=(Mu q 0).x) D (by simp[Mu]) (by simp[Mu])) (Eh.2 (zf rfl)),e]
 .rw[aFB,d] at b;rwa[BO _ _ (Af _),Dy] at b
 .rw[g i Ab];exact j i C r o
def Om(k d:Int)(s:Aj):PN:=⟨{kind:=k,Cd:=d,data:=s},zw,zw,rfl⟩
def PA.TD(w:PA h a n m Y A){p:PN}{f:Ak}(l:I8 p.kv=zc)(b:∀i,i<wn h->i≠a->i≠n->f[i]?=h[i]?)(l1:wn f=wn h+1):Dx h (λi=>i∈Hh a n m Y) f (λi=>i∈Hh a (wn h) m (Y++[p])):=by
 refine⟨Ab,λi c j=>b i c (λe=>j (by simp[Hh,e])) (λe=>j (by simp[Hh,e])),λi c=>?_⟩;rw[bg l] at c;simp[A0] at c;obtain rfl|rfl|c:=c
 .exact z2 (by simp[Hh])
 .exact zf (Af _)
 .exact z2 (by rw[Hh];simp[A0];exact zf (zf c))
def aHq{k:Int}{s:Aj}(w:PA h a n m Y A)(d:OM A)(hb:A.len+1<=1000000000)(j:A.has x/\(A.nd x).kind=1):
  ∃e,BF cx 229 [Pt a 0,I x,zb (Om k 0 s).row] h (ze [I (A.len+1),I 0]) e/\PA e a (wn h) m (Y++[Om k x s]) (A.add (Om k x s).x)/\(∀i,i<wn h->i≠a->i≠n->e[i]?=h[i]?)/\wn e=wn h+1:=by
 have nM:=w.len;let⟨p,b,l,c,o⟩:=aA4 w Ab (Om k x s) rfl rfl;refine⟨p,?_,l,c,o⟩;rw[PN.row] at b;rw[Ac,ZW,PN.row];simp only[abS,be w d,Ae j.1,Ae j.2,BR,CH,Om] at b⊢;simp[b]
section
variable{s:Aj}(w:PA h a n m Y A)(e:OM A)(hb:A.len+1<=1000000000)(hd:A.has x/\(A.nd x).kind=1)
def aTX:
  ∃f,BF cx 170 [Pt a 0,I x,zk s] h (ze [I (A.len+1),I 0]) f/\PA f a (wn h) m (Y++[Om 5 x s]) (A.add (Om 5 x s).x)/\(∀i,i<wn h->i≠a->i≠n->f[i]?=h[i]?)/\wn f=wn h+1:=by
 let⟨l,c,o,d,p⟩:=aHq (k:=5) (s:=s) w e hb hd;refine⟨l,?_,o,d,p⟩;have b:BF cx 229 [Pt a 0,I x,zb [I 5,I 0,zw,I 0,I 0,zk [],zw,zk s,zk [],zk [],zq zr,I 0,I 0]] h (ze [I (A.len+1),I 0]) l:=c;simp[qP,AP,b]
def aOc:
  ∃f,BF cx 171 [Pt a 0,I x,zk s] h (ze [I (A.len+1),I 0]) f/\PA f a (wn h) m (Y++[Om 6 x s]) (A.add (Om 6 x s).x)/\(∀i,i<wn h->i≠a->i≠n->f[i]?=h[i]?)/\wn f=wn h+1:=by
 let⟨l,c,o,d,p⟩:=aHq (k:=6) (s:=s) w e hb hd;refine⟨l,?_,o,d,p⟩;have b:BF cx 229 [Pt a 0,I x,zb [I 6,I 0,zw,I 0,I 0,zk [],zw,zk s,zk [],zk [],zq zr,I 0,I 0]] h (ze [I (A.len+1),I 0]) l:=c;simp[qQ,AP,b]
end
def aTY{s:Aj}(w:PA h a n m Y A)(e:OM A)(j:A.has x)(r:(A.nd x).kind=5):
  ∃l q,BF cx 169 [Pt a 0,I x,zk s] h (I 0) l/\PA l a n m q (A.VY x s)/\Dx h (λi=>i∈Hh a n m Y) l (λi=>i∈Hh a n m q):=by
 have o:=(w.pn j).2.1;let⟨t,c,b,g,d,f⟩:=w.wr j (k:=7) AR (v:= zk s) rfl (p:=⟨{A.nd x with data:=s},(pN Y x).kv,(pN Y x).av,o▸(pN Y x).ok⟩) (by simp only[PN.row];rw[o];rfl) rfl rfl;refine⟨t,_,?_,b,w.yj b g d f⟩;simp[qO,H8,UO w,Ae j,BR,CH,J3 w e j,w.f0 j,r,c]
def aHr{y:Int}:BF cx 336 [.sl 1 [[I y]]] h (zq (decide (x0 y))) h:=by
 have f:AY 1 [[I y]] (.sl 1 [[I y]]):= .mk;have d:([[I y]]:List (List Ad))[0]=[I y]:=rfl;simp only[Ac,tP,By,f.len];refine Bm (λk:Nat=>[zq zr,I (k:Int)]) (λk i=>k<=1/\(k=1->x0 y)/\i=h) (λk=>1 -k) 0 rfl ⟨AZ _,λe=>Ab,rfl⟩ ?_;rintro k i ⟨hk,j,rfl⟩;obtain hlt|EC:=AQ k 1
 .obtain rfl:k=0:=by omega
  simp only[By,T6,(AR:((0:Nat):Int)<((1:Nat):Int)),f.EM (Cr),d,BB 0];refine⟨λl=>?_,λl=>⟨λc=>?_,λc=>?_⟩⟩;.rw[Ag (λb=>by rw[x0] at b;omega)]
  .rw[Ag (λb=>by rw[x0] at b;omega)]
  .exact zn 1 rfl ⟨Af _,λ_=>⟨Ab,Ab⟩,rfl⟩ Ab
 .obtain rfl:k=1:=by omega
  simp[(AR:¬((1:Nat):Int)<((1:Nat):Int)),Ah (j rfl)]
def fJ{l a:List Bb}{y:Bb}:HP a (l++[y])=if(HP a l).any (λz=>decide (D1 y=D1 z)) then HP a l else HP a l++[y]:=by
 induction l generalizing a with
 |nil=>simp only[B4,HP];split<;>simp_all
 |cons z l b=>
  rw[CS,HP,HP];split;.exact b
  .exact b
def aOd(y c:Bb)(h:Ak):BF cx 399 [zb c.row,.CO y.row] h (zq (decide (D1 y=D1 c))) h:=by
 simp only[Ac,uM,zl,zl,By];refine⟨λa=>?_,λa=>?_⟩;.congr 2;rw[DG];simp[D1,a]
 .rw[Ag (λe=>a (by simp[D1] at e;exact e.1))]
def aHs{F v:Ad}{l:List Bb}{q:Bb->Bool}(r:O6 h v l)(hb:wn l<=1000000000)(w:bc F h q):BF cx 185 [v,F] h (zq (l.any q)) h:=by
 obtain⟨f,j,rfl,u,t⟩:=w;have m:BF cx 300 [v,xv (.func f) [] j] h (I (Ck q 0 l)) h:=by
  simp only[Ac,Wc,By,r.len];refine Bm (λn:Nat=>[I 0,I (n:Int)]) (λn i=>n<=wn l/\Ck q 0 l=Ck q n (l.drop n)/\i=h) (λn=>wn l-n) 0 rfl ⟨AZ _,rfl,rfl⟩ ?_;rintro n i ⟨jR,e,rfl⟩;rcases hJ n (wn l) with⟨a,i1⟩|⟨x,i1⟩
  .let⟨p,d,c⟩:=r.at_ n a;rw[AI a,Ck] at e;simp only[By,C6,T6,u,i1,d,c,t l[n],BB n];rw[CW];refine⟨λo=>?_,λo=>?_⟩;.rw[e,Ae o]
   .rw[Aa (by simp[o])] at e;exact zn (n+1) rfl ⟨a,e,rfl⟩ Ab
  .rw[AU x,Ck] at e;simp[C6,i1,e]
 simp[ZS,m];congr 2
 rcases Ig with⟨i,s⟩|⟨n,y,i,s,b⟩
 .rw[i,İ];have:=S5.1 s;exact zv this
 .rw[i,İ,Ah Ab,Mn];exact⟨y,TT b,List.find?_some b⟩
def aHt{l:List Bb}{v:Ad}(q:O6 h v l)(hb:wn l<=1000000000)(t:∀y∈l,x0 y.Bk):BF cx 330 [v] h (ze [Zh (CL l),zq z9]) h:=by
 simp only[Ac,tJ,By,q.len];refine Bm (λk:Nat=>[zw,zq zr,Zh (CL (l.take k)),I (k:Int)]) (λk i=>k<=wn l/\i=h) (λk=>wn l-k) 0 rfl ⟨AZ _,rfl⟩ ?_;rintro k i ⟨hk,rfl⟩;rcases hJ k (wn l) with⟨f,i1⟩|⟨u,i1⟩
 .let⟨p,j,e⟩:=q.at_ k f;have s:(CL (l.take k)).length<=1000000000:=by have:=Tq (l:=l.take k);rw[Az] at this;omega
  have o:=aHs (fH aK) s (⟨_,_,rfl,AR,λc=>aOd l[k] c i⟩:bc (xv (.func 399) [] [.CO l[k].row]) i (λc=>decide (D1 l[k]=D1 c)));have g:CL (l.take (k+1))=if(CL (l.take k)).any (λz=>decide (D1 l[k]=D1 z)) then CL (l.take k) else CL (l.take k)++[l[k]]:=AG f▸fJ
  have d:=vu (a:=l[k]) (b:=40) (aK (l:=CL (l.take k))) (by have:=Tq (l:=l.take k);rw[Az] at this;have:AN=140737488355328:=rfl;omega);have r:AB (.Df 3) [zb l[k].row]=zx (.sl 3 [l[k].row]):=rfl;rw[<-ð] at d;rw[zl] at o r d e;simp only[abS,zy,i1,j,e,H8,aHr (h:=i) (y:=l[k].Bk),Ah (t _ (AV f)),o,r,d,BB k];rw[CW];refine⟨λn=>?_,λn=>?_⟩;.exact zn (k+1) (by rw[g,Aa (zv n)]) ⟨f,rfl⟩ Ab
  .exact zn (k+1) (by rw[g,Ae (zv n)]) ⟨f,rfl⟩ Ab
 .simp only[abS,↓reduceIte,i1,AL u]
def aOe{l:List Bb}{v:Ad}(w:PA h a n m Y A)(f:OM A)(d:A.has x)(t:(A.nd x).kind=4)(r:O6 h v l)(u:wn l<=1000000000)(s:∀y∈l,x0 y.Bk):
  ∃o q,BF cx 187 [Pt a 0,I x,v] h (I 0) o/\PA o a n m q (A.KV x l)/\Dx h (λi=>i∈Hh a n m Y) o (λi=>i∈Hh a n m q):=by
 let⟨z,c,b,j,e,g⟩:=w.wr d (k:=6) AR (v:=Zh (CL l)) (AY.cells aK) (p:=⟨{A.nd x with Al:=CL l},(pN Y x).kv,Zh (CL l),rfl⟩) (by simp only[PN.row];rw[(w.pn d).2.1];rfl) rfl rfl;refine⟨z,_,?_,b,w.yj b j e g⟩;simp[rC,H8,UO w,Ae d,BR,CH,J3 w f d,w.f0 d,t,aHt r u s,c]
def aOf(w:PA h a n m Y A)(b:A.has x):BF cx 337 [Pt n (nP n x)] h (zq (decide (iR (A.nd x)))) h:=by simp[tQ,w.f0 b,w.f4 b,w.f5 b,iR];refine⟨λd=>⟨λc=>?_,λc=>?_⟩,λd=>?_⟩<;>simp[*]
def TP(x:Int×Int):Ad×Ad:=(I x.1,I x.2)
def uZ{k:Int}:∀{l:List (Int×Int)} {i:Nat},(l.find? (λx=>decide (k=x.1))=zc->JQ k (l.map TP) i=zx zc)/\∀y,l.find? (λx=>decide (k=x.1))=zx y->∃j,JQ k (l.map TP) i=zx (zx (j,I y.2))
 |[],i=>⟨λ_=>rfl,λy h=>by cases h⟩
 |z::l,i=>by
  rw[Bn,TP,JQ,Ed];by_cases e:k=z.1;.simp only[e,D3,BV];exact⟨λh=>(by cases h),λy h=>⟨i,by cases h;rfl⟩⟩
  .simp only[e,Ec,DW];exact (uZ (k:=k) (l:=l) (i:=i+1))
def fG.get{f:Int->Int}(w:fG h m f)(k:Int):EH (.I_ (I 0) z9) h [.map m,I k]=zx (h,if f k=0 then ze [I 0,zq zr] else ze [I (f k),zq z9]):=by
 rcases w with⟨rfl,c⟩|⟨id,l,rfl,o,a,_⟩
 .rw[Ae (c k)];rfl
 .have a:=a k;have d:=uZ (k:=k) (l:=l) (i:=0);simp only[EH,xC,o];by_cases c:f k=0
  .rw[Ae c] at a⊢;have e:l.find? (λx=>decide (k=x.1))=zc:=by
    cases b:l.find? (λx=>decide (k=x.1)) with
    |none=>rfl
    |some y=>rw[b] at a;cases a
   have:=d.1 e;unfold TP at this;rw[this];rfl
  .rw[Aa c] at a⊢;cases b:l.find? (λx=>decide (k=x.1)) with
   |none=>rw[b] at a;cases a
   |some y=>rw[b] at a;rw[Cb,BN] at a;let⟨j,e⟩:=d.2 y b;unfold TP at e;rw[e,<-a];rfl
def yk{a:Nat}{l:List (Int×Int)}{k v:Int}(d:h[a]?=zx (.map (l.map TP)))(j:l.find? (λx=>decide (k=x.1))=zc):
  ∃f,EH (.Xc (I 0)) h [.map (zx a),I k]=zx (f,ze [I 0,I (wn l)])/\∃e,EH .Qo f [.map (zx a),I (wn l),I v]=zx (e,zq z9)/\e=h.set a (.map ((l++[(k,v)]).map TP)):=by
 refine⟨h.set a (.map (l.map TP++[(I k,I 0)])),?_,_,?_,rfl⟩;.simp only[EH,Zq,d,(uZ (i:=0)).1 j,Cb,Ao]
 .have b:(l.map TP++[(I k,I 0)])[wn l]?=zx (I k,I 0):=by rw[Bu AF];simp
  simp only[EH,Vl,AT ((Aq.1 d).1),A6,b];rw[Ae Ab,OI,BO _ _ AF];simp[TP]
def PA.aOg(w:PA h a n m Y A):∀i∈m.toList++Y.filterMap (λp=>I8 p.kv),i<wn h/\i≠a/\i≠n:=by
 intro i c;have d:i∈Hh a n m Y:=by simp only[Hh,A0];exact zf (zf c)
 have b:=w.nd;rw[Hh] at b;simp only[CA,A0,MO] at b;exact⟨w.lt i d,λe=>b.1.2 (e▸c),λe=>b.2.1 (e▸c)⟩
def PA.aOh(w:PA h a n m Y A){r:Ak}{m':Option Nat}{A':Ar}(g:A'.n=A.n)(f:wn A'.i=wn A'.n)(y:r[a]?=zx (zu [.CK n 0 (wn Y) 13,.map m']))(t:∀i,i<wn h->i≠a->m≠zx i->r[i]?=h[i]?)(d:m'=m\/∃j,m'=zx j/\wn h<=j)(b:fG r m' A'.inr):PA r a n m' Y A':=by
 have c:=w.nd;rw[Hh] at c;simp only[CA,A0,MO] at c;refine⟨g▸w.e,f,y,?_,?_,?_,b⟩;.rw[t n (w.lt n (by simp[Hh])) (D8 c.1.1) (λe=>c.2.1 (by simp[e]))];exact w.hn
 .intro p s;refine(w.ks p s).Dt λq v=>?_;have u:=w.aOg q (AA.2 (zf (Cz.2 ⟨p,s,v⟩)));exact t q u.1 u.2.1 λe=>(C2.1 c.2.2).2.2 q (by simp[e]) q (Cz.2 ⟨p,s,v⟩) rfl
 .rcases d with rfl|⟨j,rfl,hj⟩
  .exact w.nd
  .have l:=w.lt a (by simp[Hh]);have k:=w.lt n (by simp[Hh]);simp only[Hh,CA,A0,aWs,CS,B4,MO];exact⟨⟨c.1.1,Ab,λd=>c.1.2 (AA.2 (zf d))⟩,⟨Ab,λd=>c.2.1 (AA.2 (zf d))⟩,λd=>by have:=(λi x=>(w.aOg i (AA.2 (zf x))).1) j d;omega,(C2.1 c.2.2).2.1⟩
def fK{l:List (Int×Int)}{k v:Int}(c:yh l)(j:l.find? (λx=>decide (k=x.1))=zc)(o:Í k=z9)(n:Í v=z9):yh (l++[(k,v)]):=by
 refine⟨?_,λp i=>?_⟩;.rw[BJ,C2];refine⟨c.1,AF,λa m b d e=>?_⟩;obtain⟨x,f,rfl⟩:=Bv.1 m;rw[Bn,C1,Ax] at d;exact (S5.1 j x f) (by simpa using(e.trans d).symm)
 .rcases AA.1 i with h|h
  .exact c.2 p h
  .simp only[Ax] at h;subst h;exact⟨o,n⟩
def yl(b:A.len<=1000000000)(a:A.has x):Í x=z9:=by have:=a.1;have:=a.2;rw[Ar.len] at b;rw[Í];simp;omega
def aOi{i:Nat}(b:m=zx i):i∈Hh a n m Y:=by rw[Hh];simp[b]
def PA.aOj(w:PA h a n m Y A){l:List (Int×Int)}{F:Nat}(t:m=zx F)(V:h[F]?=zx (.map (l.map TP)))(T:∀k,(l.find? λx=>decide (k=x.1)).map (·.2)=if A.inr k=0 then zc else zx (A.inr k))(ok:yh l)(L:A.len<=1000000000){d i:Int}(U:A.has d)(J:A.has i)(c:d≠i)(Q:A.inr d=0)(f:A.inr i=0):
  ∃M P r,EH (.Xc (I 0)) h [.map m,I d]=zx (M,ze [I 0,I (wn l)])/\EH .Qo M [.map m,I (wn l),I i]=zx (P,zq z9)/\
   EH (.Xc (I 0)) P [.map m,I i]=zx (r,ze [I 0,I ((wn l+1:Nat):Int)])/\∃p,EH .Qo r [.map m,I ((wn l+1:Nat):Int),I i]=zx (p,zq z9)/\PA p a n m Y ((A.Ks d i).Ks i i)/\(∀j,j≠F->p[j]?=h[j]?)/\wn p=wn h:=by
 subst t;have X:=(Aq.1 V).1;have b:∀k,A.inr k=0->l.find? (λx=>decide (k=x.1))=zc:=by
  intro k v;have:=T k;rw[Ae v] at this;cases K:l.find? (λx=>decide (k=x.1)) with
  |none=>rfl
  |some y=>rw[K] at this;cases this
 obtain⟨M,G,P,E,rfl⟩:=yk V (b d Q);obtain⟨r,C,p,B,rfl⟩:=yk (AT X:(h.set F (.map ((l++[(d,i)]).map TP)))[F]?=zx (.map ((l++[(d,i)]).map TP))) (by rw[Uk,b i f];simp[D8 c]);rw[As,A5] at C B;refine⟨M,_,r,G,E,C,_,B,?_,?_,AF⟩
 .have o:F≠a:=λe=>by have:=w.nd;rw[Hh] at this;simp[e] at this
  refine w.aOh rfl ?_ ?_ ?_ (z2 rfl) ?_;.simp only[Ar.Ks];split<;>split<;>simp[w.il]
  .rw[Av o,Av o];exact w.ha
  .intro j O D u;have:F≠j:=λe=>u (by rw[e]);rw[Av this,Av this]
  .refine zf ⟨F,l++[(d,i)]++[(i,i)],rfl,?_,λk=>?_,fK (fK ok (b d Q) (yl L U) (yl L J)) (by rw[Uk,b i f];simp[D8 c]) (yl L J) (yl L J)⟩;.rw[AT (zv X)];rfl
   .have s:(A.Ks d i).i.length=(A.Ks d i).n.length:=by rw[Ar.Ks];split<;>simp[w.il]
    rw[SB s,SB w.il,Uk,Uk];have z:(A.Ks d i).has i:=J;have v:=T k;have R:i≠0:=by have:=J.1;omega
    cases K:l.find? (λx=>decide (k=x.1)) with
    |some y=>
     rw[K] at v;have N:A.inr k≠0:=by intro e;rw[Ae e] at v;cases v
     have q:k≠i:=λe=>N (e▸f);have g:k≠d:=λe=>N (e▸Q);simp only[q,g,iT,DW,Option.some_or];exact v
    |none=>
     rw[K] at v;have N:A.inr k=0:=by
      by_cases e:A.inr k=0;.exact e
      .rw[Aa e] at v;cases v
     by_cases g:k=d;.subst g;simp[c,U,R]
     .by_cases q:k=i;.subst q;simp[g,z,R]
      .simp[q,g,N]
 .intro j O;rw[Av (D8 O),Av (D8 O)]
def aOk(w:PA h a n m Y A)(G:OM A)(hb:A.len+1<=1000000000)(T:A.has x):
  ∃X Z m' JM,BF cx 338 [Pt a 0,I x] h (I (A.Gv x)) X/\PA X a Z m' JM (A.DC x)/\Dx h (λi=>i∈Hh a n m Y) X (λi=>i∈Hh a Z m' JM):=by
 have U:A8 h zc (Pt a 1)=zx (.map m):=by simp only[A8,w.ha];rfl
 have Q:=w.mp.get x;by_cases O:A.inr x=0
 .obtain⟨F,B,P,E,d⟩:=aTW w G hb zr;have j:=w.TD (p:=Mu false (A.len+1)) rfl E d;have t:A.Gv x=A.len+1:=by unfold Ar.Gv;rw[Aa (by simp[O])]
  have u:A.DC x=((A.add {kind:=1,Cd:=A.len+1}).Ks x (A.len+1)).Ks (A.len+1) (A.len+1):=by unfold Ar.DC;rw[Aa (by simp[O])]
  have g:A.inr (A.len+1)=0:=by unfold Ar.inr;rw[Aa SC]
  have C:A8 F zc (Pt a 1)=zx (.map m):=by simp only[A8,P.ha];rfl
  rw[Ae O] at Q;have W8:(A.add {kind:=1,Cm:=zr,Cd:=A.len+1}).len<=1000000000:=by rw[QM];exact hb
  rcases P.mp with⟨rfl,hz⟩|⟨id,l,rfl,hc,hl,ho⟩
  .have Zu:a<F.length:=P.lt a (by simp[Hh]);have Ry:(F++[DH.map []])[a]?=zx (.cells [.CK h.length 0 (Y++[Mu zr (A.len+1)]).length 13,.map zc]):=by rw[An Zu];exact P.ha
   have es:Cv (F++[DH.map []]) 1 (Pt a 1) (.map (zx F.length))=zx ((F++[DH.map []]).set a (.cells [.CK h.length 0 (Y++[Mu zr (A.len+1)]).length 13,.map (zx F.length)])):=by simp only[Cv,Ry];rfl
   have kg:((F++[DH.map []]).set a (.cells [.CK h.length 0 (Y++[Mu false (A.len+1)]).length 13,.map (some F.length)]))[a]?=some (.cells [.CK h.length 0 (Y++[Mu false (A.len+1)]).length 13,.map (some F.length)]):=AT ES;have M:A8 ((F++[DH.map []]).set a (.cells [.CK h.length 0 (Y++[Mu zr (A.len+1)]).length 13,.map (zx F.length)])) none (Pt a 1)=some (.map (some F.length)):=by simp only[A8,kg];rfl
   have f:((F++[DH.map []]).set a (.cells [.CK h.length 0 (Y++[Mu false (A.len+1)]).length 13,.map (some F.length)]))[F.length]?=some (.map (([]:List (Int×Int)).map TP)):=by rw[Av Ab,Bu (Af _),Dy];rfl
   have D:PA ((F++[DH.map []]).set a (.cells [.CK h.length 0 (Y++[Mu false (A.len+1)]).length 13,.map (some F.length)])) a h.length (some F.length) (Y++[Mu false (A.len+1)]) (A.add {kind:=1,Cm:=false,Cd:=A.len+1}):=by refine P.aOh rfl P.il kg (λi L c _=>by rw[Av (D8 c),An L]) (.inr ⟨_,rfl,Af _⟩) (.inr ⟨F.length,[],rfl,f,λk=>by rw[Ae (hz k)];rfl,S4,λp V=>nomatch V⟩)
   obtain⟨K,J,H,s,r,q,z,o,v,y,b⟩:=D.aOj rfl f (λk=>by rw[Ae (hz k)];rfl) ⟨S4,λp V=>nomatch V⟩ W8 (Eh.2 (.inl T)) (Eh.2 (.inr rfl)) (eI T) (((λk=>ZF w.il) x).trans O) (((λk=>ZF w.il) _).trans g);refine⟨z,_,_,_,?_,u▸v,⟨by rw[b];simp;omega,λi L R=>?_,λi L=>?_⟩⟩;.simp only[BH] at s r q o;rw[Ac,We,t];simp only[By,U,Q,B,C,show AB (.GH false .mp) [.map none,.map none]=some (.bool true) from rfl,es,M,s,r,q,o]
   .rw[y i Ab,Av (D8 (λe=>R (by simp[Hh,e]))),An Ab,j.old i L R]
   .unfold Hh at L;simp only[A0,aWs,CS,B4] at L;rcases L with rfl|rfl|rfl|L
    .exact .inl (by simp[Hh])
    .exact .inr (Af _)
    .exact .inr Ab
    .exact j.BD i (by unfold Hh;simp only[A0,Option.toList_none,B4];exact .inr (.inr L))
  .obtain⟨K,J,H,s,r,q,z,o,v,y,b⟩:=P.aOj rfl hc hl ho W8 (Eh.2 (.inl T)) (Eh.2 (.inr rfl)) (eI T) (((λk=>ZF w.il) x).trans O) (((λk=>ZF w.il) _).trans g);refine⟨z,_,_,_,?_,u▸v,⟨Ab,λi L R=>?_,j.BD⟩⟩;.rw[Ac,We,t];simp only[By,U,Q,B,C,show AB (.GH false .mp) [.map (some id),.map none]=some (.bool false) from rfl,s,r,q,o]
   .rw[y i (λe=>R (e▸aOi rfl))];exact j.old i L R
 .have t:A.Gv x=A.inr x:=by unfold Ar.Gv;rw[Ae O]
  have u:A.DC x=A:=by unfold Ar.DC;rw[Ae O]
  refine⟨h,n,m,Y,?_,by rw[u];exact w,.refl⟩;rw[Aa O] at Q;simp[We,t,U,Q]
def OM.fL(b:OM A)(a:A.len+1<=1000000000):OM (A.DC x):=by
 rw[Ar.DC];split;.exact b
 .have:=b.add (y:={kind:=1,Cd:=A.len+1}) a AF AF;exact⟨this.n,this.at_,this.data⟩
def ñ(a:A.has x){d:Int}:(A.DC d).nd x=A.nd x:=eF (z2 (eI a))
def aOl{l:List Bb}{v:Ad}{d sp:Int}{nm:Aj}(w:PA h a n m Y A)(D:OM A)(hb:A.len+3<=1000000000)(hd:A.has d/\(A.nd d).kind=1)(hsp:x0 sp)(hv:AK l v)(hl:wn l<=1000000000)(hs:∀y∈l,x0 y.Bk):
  ∃h' n' m' JM,BF cx 199 [Pt a 0,I d,I sp,zk nm,v] h (ze [I (A.len+1),I 0]) h'/\PA h' a n' m' JM (A.elem d sp nm l)/\Dx h (λi=>i∈Hh a n m Y) h' (λi=>i∈Hh a n' m' JM)/\OM (A.elem d sp nm l):=by
 have nM:=w.len;have B:=aHt (h:=h) (fH hv) hl hs;obtain⟨u,hu⟩:∃u,u=Zh (CL l):=⟨_,rfl⟩;rw[<-hu] at B;have wT:(CL l).length<=1000000000:=by have:=Tq (l:=l);omega
 have c:=aHr (h:=h) (y:=sp);rw[Ah hsp] at c;let⟨h1,P,w1,S,l1⟩:=aA4 w Ab ⟨{kind:=4,Cd:=d,Bk:=sp,name:=nm,Al:=CL l},zw,u,hu⟩ rfl rfl;have b:=D.add (y:={kind:=4,Cd:=d,Bk:=sp,name:=nm,Al:=CL l}) Ab wT AF;have Rz:(A.add {kind:=4,Cd:=d,Bk:=sp,name:=nm,Al:=CL l}).has (A.len+1):=Eh.2 (zf rfl);have OT:(A.add {kind:=4,Cd:=d,Bk:=sp,name:=nm,Al:=CL l}).nd (A.len+1)={kind:=4,Cd:=d,Bk:=sp,name:=nm,Al:=CL l}:=by rw[J1,Ae rfl]
 have H:=w.TD (p:=⟨{kind:=4,Cd:=d,Bk:=sp,name:=nm,Al:=CL l},.slnil,u,hu⟩) rfl S l1;have j:BF cx 151 [Pt a 0,.agg [I 4,I 0,.slnil,I d,I sp,.str nm,u,.str [],.str [],.str [],.bool false,I 0,I 0]] h (I (A.len+1)) h1:=P;have g:=aOf w1 Rz;rw[OT] at g;have hc:u.cells=[u]:=hu▸AY.cells aK
 rw[Ar.elem];simp only
 by_cases s:iR {kind:=4,Cd:=d,Bk:=sp,name:=nm,Al:=CL l}
 .rw[Ae s];rw[Ah s] at g;let⟨h2,W,X,pk,O,t,K⟩:=aOk w1 b (by rw[QM];omega) (Eh.2 (z2 hd.1));have Zb:((pk.length:Nat):Int)=((A.add {kind:=4,Cd:=d,Bk:=sp,name:=nm,Al:=CL l}).DC d).len:=t.len;have bh:((A.add {kind:=4,Cd:=d,Bk:=sp,name:=nm,Al:=CL l}).DC d).len<=A.len+2:=by rw[å,QM];split<;>omega
  let⟨V,N,f,R,l3⟩:=aA4 t Ab ⟨{kind:=2,E3:=A.len+1,Cd:=(A.add {kind:=4,Cd:=d,Bk:=sp,name:=nm,Al:=CL l}).Gv d},zw,zw,rfl⟩ rfl rfl;obtain⟨o,E⟩:∃o,o=pk++[⟨{kind:=2,E3:=A.len+1,Cd:=(A.add {kind:=4,Cd:=d,Bk:=sp,name:=nm,Al:=CL l}).Gv d},zw,zw,rfl⟩]:=⟨_,rfl⟩;have G:=t.TD (p:=⟨{kind:=2,E3:=A.len+1,Cd:=(A.add {kind:=4,Cd:=d,Bk:=sp,name:=nm,Al:=CL l}).Gv d},.slnil,.slnil,rfl⟩) rfl R l3;rw[<-E] at f G;have q:=(b.fL (x:=d) (by rw[QM];omega)).add (y:={kind:=2,E3:=A.len+1,Cd:=(A.add {kind:=4,Cd:=d,Bk:=sp,name:=nm,Al:=CL l}).Gv d}) Ab AF AF;have z:BF cx 151 [Pt a 0,.agg [I 2,I 0,.slnil,I ((A.add {kind:=4,Cd:=d,Bk:=sp,name:=nm,Al:=CL l}).Gv d),I 0,.str [],.slnil,.str [],.str [],.str [],.bool false,I 0,I (A.len+1)]] h2 _ V:=N;have oK:=PY (h:=d) Rz;have e:=Eh (x:={kind:=2,E3:=A.len+1,Cd:=(A.add {kind:=4,Cd:=d,Bk:=sp,name:=nm,Al:=CL l}).Gv d}).2 (z2 oK);have r:(((A.add {kind:=4,Cd:=d,Bk:=sp,name:=nm,Al:=CL l}).DC d).add {kind:=2,E3:=A.len+1,Cd:=(A.add {kind:=4,Cd:=d,Bk:=sp,name:=nm,Al:=CL l}).Gv d}).nd (A.len+1)={kind:=4,Cd:=d,Bk:=sp,name:=nm,Al:=CL l}:=by rw[Ol oK,ñ Rz,OT]
  have hp:=(f.pn e).2.1;rw[r] at hp;let⟨U,L,J,T,Q,l4⟩:=f.wr e (k:=11) AR (v:= I (((A.add {kind:=4,Cd:=d,Bk:=sp,name:=nm,Al:=CL l}).DC d).len+1)) rfl (p:=⟨{kind:=4,Cd:=d,Bk:=sp,name:=nm,Al:=CL l,cont:=((A.add {kind:=4,Cd:=d,Bk:=sp,name:=nm,Al:=CL l}).DC d).len+1},(pN o (A.len+1)).kv,(pN o (A.len+1)).av,by have:=(pN o (A.len+1)).ok;rw[hp] at this;exact this⟩) (by simp only[PN.row];rw[hp];rfl) rfl (by rw[r]);refine⟨U,_,_,_,?_,J,H.trans (K.trans (G.trans (f.yj J T Q l4))),q.set wT AF⟩;simp[ZT,AP,be (x:=d) w D,Ae hd.1,Ae hd.2,BR,CH,B,H8,c,hc,j,J3 w1 b Rz,g,O,z,J3 f q e,L]
 .rw[Aa s];rw[Ag s] at g;refine⟨h1,_,_,_,?_,w1,H,b⟩;simp[ZT,AP,be (x:=d) w D,Ae hd.1,Ae hd.2,BR,CH,B,H8,c,hc,j,J3 w1 b Rz,g]
end
end Go.Am
end
open List renaming range→v2
open Go.Am.Ad renaming int→z3,agg→vi
open Go.Am.IT renaming call→vg
open Go.Am.Item renaming zero→zs
open Go.Am.Pw renaming str→zj,int→z4
open UInt8 renaming ofNat→zh
open Go.Am.PN renaming row→yz
open BitVec renaming ofInt→yv
open Go.IntKind renaming wrap_u8→y7
open Go.Am renaming put→y5
open And renaming intro→y8
open Go.Am.BS renaming CZ→vt,K5→v7,EU→uu,Hv→us
open Go.Am.Ar renaming E8→v5,cut→θ
section
namespace Go.Am
open Go
section
variable{h h':Ak}{a n:Nat}{m:Option Nat}{ps:List PN}{A:Ar}{x:Int}{F:Nat->Prop}
def lX{U:Type}{p q:U->Bool}{y:U}:∀{l:List U},(∀x∈l,p x=z9->q x=z9)->y∈l->p y=zr->q y=z9->(l.filter p).length<(l.filter q).length
 |[],_,h,_,_=>by cases h
 |x::l,a,d,i,f=>by
  let k:∀{l:List U},(∀x∈l,p x=z9->q x=z9)->(l.filter p).length<=(l.filter q).length:=by
   intro l;induction l with
   |nil=>intro _;simp
   |cons z l b=>
    intro a;have:=b λx e=>a x (by simp[e]);rw[ID,ID];split;next c=>rw[Ae (a z AF c)];simp;exact this
    .split;.simp;omega
     .exact this
  let j:=λx (e:x∈l)=>a x (by simp[e]);rw[ID,ID];obtain rfl|d:=A0.1 d
  .rw[Aa (by simp[i]),Ae f];have:=k j;simp;omega
  .let b:=lX j d i f;split;.rename_i c;rw[Ae (a x AF c)];simp;exact b
   .split;.simp;omega
    .exact b
def pq{r:Int->Nat}{k y:Int}(d:∀h,A.has h->A.up h≠0->r (A.up h)<r h)(i:Reach A k y)(c:A.has y):r k<=r y:=by
 induction i with
 |refl=>exact Af _
 |@step z e j f=>
  by_cases a:A.has (A.up z);.have:=f a;have:=d z c e;omega
  .cases j with
   |refl=>have:=d z c e;omega
   |step b _=>cases b (eE a)
open Classical in
def pv{e:Int}(ok:Fj A e):∃r:Int->Nat,(∀h,A.has h->A.up h≠0->r (A.up h)<r h)/\∀h,r h<=wn A.n:=by
 let⟨r,hr⟩:=ok.pA;refine⟨λh=>((v2 (wn A.n)).filter λ(i:Nat)=>decide (Reach A (i+1) h/\i+1≠h)).length,λh c hu=>?_,λh=>?_⟩
 .let b:=mo ok c hu;let JK:=b;rw[Ar.has] at JK;let d:((A.up h).toNat-1:Nat)+1=A.up h:=Ab;refine lX (y:=(A.up h).toNat-1) (λi _ hi=>?_) (List.mem_range.2 Ab) ?_ ?_;.rw[Cj] at hi⊢;refine⟨.step hu hi.1,λe=>?_⟩;let h1:=pq hr hi.1 b;let h2:=hr h c hu;rw[e] at h1;omega
  .rw[d];simp
  .rw[d,Cj];exact⟨.step hu .refl,aHd ok c hu⟩
 .have:=Zp (λ(i:Nat)=>decide (Reach A (i+1) h/\i+1≠h)) (v2 (wn A.n));rwa [List.length_range] at this
def PA.cell(w:PA h a n m ps A)(c:A.has x){k:Nat}(d:k<13):(ps.map yz).flatten[0+(x.toNat-1)*13+k]?=(pN ps x).row[k]?:=by rw[B1];exact Ni (bd ps) d (by rw[Cp,(w.pn c).1];rfl)
open Classical in
def fM(w:PA h a n m ps A){up:Int}{r:Int->Nat}{e:Int}(ok:Fj A e)(hr:∀h,A.has h->A.up h≠0->r (A.up h)<r h)(c:up≠0):∀fuel x,(x=0\/(A.has x/\r x<fuel))->NF (ps.map yz).flatten 0 (wn ps) up fuel x=zx (decide (Reach A up x))
 |fuel,x,hx=>by
  by_cases h0:x=0
  .subst h0;let no:¬Reach A up 0:=by
    intro hR;cases hR with
    |refl=>exact c rfl
    |step h1 _=>exact h1 (eE (by rw[Ar.has];omega))
   rw[Ag no];cases fuel<;>rfl
  .let hx:=hx.resolve_left h0;cases fuel with
   |zero=>omega
   |succ fuel=>
    let g:NF (ps.map yz).flatten 0 (wn ps) up (fuel+1) x=if x=up then zx z9 else if 1<=x/\x<=wn ps then
      match Ie (ps.map yz).flatten 0 x 1,Ie (ps.map yz).flatten 0 x 12 with
      |zx p,zx q=>NF (ps.map yz).flatten 0 (wn ps) up fuel (if p=0 then q else p)
      |_,_=>zc
     else zc:=by
     rw[NF];.rfl
     .exact λh=>h0 h
    rw[g];by_cases b:x=up;.rw[Ae b,b,Ah .refl]
    .rw[Aa b,Ae (by have:=hx.1;have:=w.aA0;unfold Ar.has at*;omega)];let j:Ie (ps.map yz).flatten 0 x 1=zx (A.nd x).Ha:=by rw[Ie];rw[w.cell hx.1 AR,<-(w.pn hx.1).2.1];rfl
     let i:Ie (ps.map yz).flatten 0 x 12=zx (A.nd x).E3:=by rw[Ie];rw[w.cell hx.1 AR,<-(w.pn hx.1).2.1];rfl
     rw[j,i];simp only
     let f:(if(A.nd x).Ha=0 then(A.nd x).E3 else(A.nd x).Ha)=A.up x:=by rw[Ar.up];by_cases h:(A.nd x).Ha=0<;>simp[h]
     rw[f];have ih:=fM w ok hr c fuel (A.up x) (by
      by_cases hu:A.up x=0;.exact z2 hu
      .exact zf ⟨mo ok hx.1 hu,by have:=hr x hx.1 hu;omega⟩)
     rw[ih];congr 1
     rw[DG];constructor
     .intro h1;by_cases hu:A.up x=0
      .rw[hu] at h1;cases h1 with
       |refl=>cases c rfl
       |step d _=>cases d (eE (by rw[Ar.has];omega))
      .exact .step hu h1
     .intro h1;cases h1 with
      |refl=>cases b rfl
      |step _ h2=>exact h2
open Classical in
def aOm{up e:Int}(w:PA h a n m ps A)(ok:Fj A e)(hu:A.has up)(hx:A.has x):BF cx 231 [Pt a 0,I up,I x] h (zq (decide (Reach A up x))) h:=by
 let⟨r,hr,b⟩:=pv ok;let Rg:=w.aA0;let c:EH (.Ul PJ) h [Pt a 0,I up,I x]=zx (h,zq (decide (Reach A up x))):=by simp only[EH,PJ,w.ha,w.hn];rw[Ae (by rw[aA2];omega),Ae (by rw[Ar.has] at hu hx;omega),fM w ok hr (by have:=hu.1;omega) (wn ps+1) x (zf ⟨hx,by have:=b x;omega⟩)];rfl
 simp[show Cf cx 231 [Pt a 0,I up,I x]=PK [Pt a 0,I up,I x] from rfl,PK,c]
structure SL(h:Ak)(v:Ad)(l:List Int):Prop where
 len:AB (wf zr) [v]=zx (I (wn l))
 at_:∀k (hk:k<wn l),∃p,AB (.EM 1) [v,I k]=zx p/\A8 h zc p=zx (I l[k])
def L1.UP{c:Ad}{l:List Int}(d:L1 h c l):SL h c l:=by
 refine⟨d.len,λk a=>?_⟩;rcases d with⟨rfl,rfl⟩|⟨b,cs,rfl,e⟩
 .simp at a
 .exact⟨Pt b k,by have:=FN (id:=b) (z:=1) (k:= ys) a;rwa [GP] at this,by simp[A8,e,Fg];rw[An (zv a)];simp[a]⟩
def Em.UP{v:Ad}{l:List Int}(a:Em l v):SL h v l:=⟨xs a,λk b=>⟨_,wu a b,rfl⟩⟩
def aKc{v:Ad}{l:List Int}(i:SL h v l)(hb:wn l<=1000000000)x:BF cx 167 [v,I x] h (I (Ck (λy=>decide (x=y)) 0 l)) h:=by
 simp[qM,i.len];refine Bm (λk:Nat=>[I 0,I k]) (λk j=>k<=wn l/\Ck (λy=>decide (x=y)) 0 l=Ck (λy=>decide (x=y)) k (l.drop k)/\j=h) (λk=>wn l-k) 0 rfl ⟨AZ _,rfl,rfl⟩ ?_;rintro k j ⟨hk,d,rfl⟩;rcases hJ k (wn l) with⟨a,i1⟩|⟨m,i1⟩
 .let⟨p,c,b⟩:=i.at_ k a;rw[AI a,Ck] at d;simp[i1,c,b,BB k];refine⟨λf=>?_,λf=>?_⟩;.rw[d,Ae (zv f)]
  .rw[Aa (zv f)] at d;exact zn (k+1) rfl ⟨a,d,rfl⟩ Ab
 .rw[AU m,Ck] at d;simp[i1,d]
def u9{l:List Int}{x:Int}(n:x∈l):∃k,k<wn l/\Ck (λy=>decide (x=y)) 0 l=k/\l[k]?=zx x/\l.takeWhile (λy=>decide (y≠x))=l.take k/\l.dropWhile (λy=>decide (y≠x))=l.drop k:=by
 let a:∀(l:List Int) s,x∈l->∃k,k<wn l/\Ck (λy=>decide (x=y)) s l=(s+k:Nat)/\l[k]?=zx x/\l.takeWhile (λy=>decide (y≠x))=l.take k/\l.dropWhile (λy=>decide (y≠x))=l.drop k:=by
  intro l;induction l with
  |nil=>intro s h;cases h
  |cons z l m=>
   intro s h;by_cases e:x=z;.subst e;exact⟨0,AF,by rw[Ck,Ae AF];simp,rfl,AF,AF⟩
   .let⟨k,d,c,b,g,f⟩:=m (s+1) ((A0.1 h).resolve_left e);let j:z≠x:=λi=>e i.symm;refine⟨k+1,by simp;exact d,by rw[Ck,Aa (zv e),c];congr 1;omega,zv b,?_,?_⟩;.rw[List.takeWhile_cons,Ae (zv j),g];rfl
    .rw[List.dropWhile_cons,Ae (zv j),f];rfl
 let⟨k,d,c,b⟩:=a l 0 n;exact⟨k,d,zv c,b⟩
def Wk{l:List Int}{x:Int}{k:Nat}(d:l.Nodup)(h:l[k]?=zx x):l.take k++l.drop (k+1)=l.filter λy=>decide (y≠x):=by
 let⟨f,e⟩:=Aq.1 h;let c:l=l.take k++x::l.drop (k+1):=by conv=>lhs;rw[<-CU k l,AI f,e]
 rw[c,C2,CA] at d;conv=>rhs;rw[c,FY,ID,Aa AF]
 rw[j8.2 (λy a=>zv (λb:y=x=>d.2.2 y a x AF b)),j8.2 (λy a=>zv (λb:y=x=>d.2.1.1 (b▸a)))]
def aKd{id l k:Nat}(hl:0<l)(hk:k<=l):AB (.LK 1 zr zr z9) [.CK id 0 l 1,I k]=zx (.CK id 0 k 1):=by
 let b:Fv k l=zx k:=by rw[Fv];rw[Ae Ab];rfl
 simp[AB,Kg,En,b];omega
def aKe{id l k:Nat}(hk:k<=l):AB (.LK 1 zr z9 zr) [.CK id 0 l 1,I k]=zx (if k<l then .CK id k (l-k) 1 else .sl 1 []):=by
 let b:Fv k l=zx k:=by rw[Fv];rw[Ae Ab];rfl
 simp[AB,Kg,En,b];split<;>rfl
def aOn{m k:Nat}{l:List Int}{B:List Ad}(D:h[m]?=zx (zu (l.map (yw ys)++B)))(O:k<wn l)(hb:wn l<=1000000000):
  ∃Iz,BF cx 354 [.CK m 0 (wn l) 1,I k,I (k+1:Nat)] h (.CK m 0 (wn l-1) 1) (h.set m (zu ((l.take k++l.drop (k+1)).map (yw ys)++Iz))):=by
 let b:(l.take k++l.drop (k+1)).length=wn l-1:=by rw[As,Az,Bp];omega
 obtain⟨A,q,hcl⟩:∃A,Gq h 1 8 (.CK m 0 k 1) (if k+1<wn l then .CK m (k+1) (wn l-(k+1)) 1 else .sl 1 [])=zx (h.set m (zu ((l.take k++l.drop (k+1)).map (yw ys)++A)),.CK m 0 (wn l-1) 1)/\1<=wn A:=by
  let j:Hy h 1 (if k+1<wn l then .CK m (k+1) (wn l-(k+1)) 1 else .sl 1 [])=zx ((l.drop (k+1)).map BM):=by
   by_cases K:k+1<wn l;rotate_left;.rw[Aa K,AU Ab];rfl
   rw[Ae K];let d:=Po (l:=l.drop (k+1)) (cs:=B) (W0:=(l.take (k+1)).map (yw ys));rw[<-AO,<-BJ,CU] at d;rw[Ao,Az,Bp] at d;rw[CE Ab] at d;simp only[Hy,BV,D,d];rw[Ae ES]
  by_cases aA6:k+1=wn l
  .refine⟨I l[k]::B,?_,AF⟩;let o:l.drop (k+1)=[]:=AU Ab;rw[o] at j⊢;let g:l.map (yw ys)++B=(l.take k++[]).map (yw ys)++ I l[k]::B:=by
    have:l=l.take k++[l[k]]:=by conv=>lhs;rw[<-CU k l,AI O,o]
    conv=>lhs;rw[this,BJ,AO]
    rw[Br];rfl
   let p:h.set m (zu ((l.take k++[]).map (yw ys)++ I l[k]::B))=h:=by rw[<-g];let⟨Zb,v⟩:=Aq.1 D;rw[<-v,IW]
   simp only[Gq,j,C1,BV];rw[p,(Ab:wn l-1=k)]
  .obtain⟨y,c,G⟩:∃y c,l.drop (k+1)=y::c:=⟨_,_,AI (Ab:k+1<wn l)⟩;let P:(y::c).length=wn l-(k+1):=by rw[<-G,Bp]
   rw[G] at j;let H:∀C:List Int,(C.map BM).flatten=C.map (yw ys):=by
    intro C;induction C with
    |nil=>rfl
    |cons z C M=>simp[BM,M]
   refine⟨(l.map (yw ys)++B).drop (wn l-1),?_,ES⟩;simp only[Gq,j,Bn,D,BV];let u:(BM y::c.map BM).length=wn l-(k+1):=by rw[<-P];simp
   let t:(BM y::c.map BM).flatten=(y::c).map (yw ys):=have:=H (y::c);zv this
   rw[u,t,Ae ES];let s:(l.map (yw ys)++B).take (0+k*1)=(l.take k).map (yw ys):=by rw[B1,GP,Dh ES,E1]
   rw[s,G,(Ab:0+(k+(wn l-(k+1)))*1=wn l-1),(Ab:k+(wn l-(k+1))=wn l-1)];simp
 generalize e:h.set m (zu ((l.take k++l.drop (k+1)).map (yw ys)++A))=E at q;let L:E[m]?=zx (zu ((l.take k++l.drop (k+1)).map (yw ys)++A)):=e▸AT ((Aq.1 D).1)
 let o:EH (.H_ 1 z9 z9) E [.CK m 0 (wn l-1) 1,I (wn l-1:Nat),I (wn l)]=zx (E,.CK m (wn l-1) 1 1):=by
  simp only[EH,xB,L];let J:((l.take k++l.drop (k+1)).map (yw ys)++A).length=wn l-1+wn A:=by rw[As,Ao,b]
  let w:Fv (wn l) ((((l.take k++l.drop (k+1)).map (yw ys)++A).length-0)/1)=zx (wn l):=by rw[Fv];rw[Ae (by rw[J];omega)];rfl
  let d:Fv (wn l-1:Nat) (wn l)=zx (wn l-1):=by rw[Fv];rw[Ae Ab];rfl
  rw[Ae ⟨trivial,trivial,AZ _⟩];simp only[En,w,d,CR,Cb];rw[Ae (by rw[J];omega)];congr 3
  .omega
  .omega
 let r:EH (.clear 1 [I 0]) E [.CK m (wn l-1) 1 1]=zx (h.set m (zu ((l.take k++l.drop (k+1)).map (yw ys)++(I 0::A.drop 1))),zq z9):=by
  simp only[EH,aU,L];rw[Ae ⟨trivial,rfl,by rw[As,Ao,b];omega⟩];congr 2
  rw[<-e,OI];congr 2
  let g:(((l.take k++l.drop (k+1)).map (yw ys)++A).take (wn l-1))=(l.take k++l.drop (k+1)).map (yw ys):=Jc (by rw[Ao,b]);let p:(((l.take k++l.drop (k+1)).map (yw ys)++A).drop (wn l-1+1*1))=A.drop 1:=by rw[show wn l-1+1*1=((l.take k++l.drop (k+1)).map (yw ys)).length+1 by rw[Ao,b],WT];simp
  rw[g,p];simp
 refine⟨I 0::A.drop 1,?_⟩;let f:∀i n,AB (wf zr) [.CK i 0 n 1]=zx (I n):=λ_ _=>rfl;let g:EH (.h_ 1) h [.CK m 0 (wn l) 1,I k,I (k+1:Nat),I (wn l)]=zx (h,zq z9):=by simp only[EH,aV];simp;omega
 simp only[Ac,tR,abS,f,g,(Ab:¬(k:Int)=((k+1:Nat):Int)),aKd (id:=m) (Ab:0<l.length) (Ab:k<=l.length),aKe (id:=m) (Ab:k+1<=l.length),q,o,r]
def aA7:∀{n:Nat} {l:List Int},l.Nodup->(∀x∈l,1<=x/\x<=n)->wn l<=n
 |0,l,_,h=>by
  cases l with
  |nil=>simp
  |cons x l=>have:=h x AF;omega
 |n+1,l,j,h=>by
  let f:=aA7 (n:=n) (l:=l.filter λx=>decide (x≠(n:Int)+1)) (j.filter _) (λx i=>by
   let h2:=h x (GN.1 i).1;let c:=zv (GN.1 i).2
   omega)
  let a:∀{l:List Int},l.Nodup->wn l<=(l.filter λx=>decide (x≠(n:Int)+1)).length+1:=by
   intro l d;induction l with
   |nil=>simp
   |cons x l f=>
    rw[CA] at d;rw[ID];by_cases e:x=n+1;.rw[Aa (by simp[e]),j8.2 (λy k=>zv (λb:y=(n:Int)+1=>d.1 (e▸b▸k)))];simp
    .rw[Ae (zv e)];have:=f d.2;simp only[Bg];omega
  have:=a j;omega
def fN{e:Int}(ok:Fj A e)x:(A.nd x).Bj.length<=wn A.n:=by
 by_cases a:A.has x;.exact aA7 (ok.Vd x a).wj λk b=>(ok.OL x a k b).1
 .rw[HO a];exact AZ _
def OM.Bj{e:Int}(b:OM A)(ok:Fj A e)x:(A.nd x).Bj.length<=1000000000:=BC (fN ok x) b.n
def OM.aT4{l:List Int}(b:OM A):OM (A.set x {A.nd x with Bj:=l}):=b.set (b.at_ x) (b.data x)
def OM.aT5{p:Int}(b:OM A):OM (A.set x {A.nd x with Ha:=p}):=b.set (b.at_ x) (b.data x)
def OM.cut(b:OM A):OM (A.cut x):=by
 rw[θ];simp only;split;.exact b
 .exact OM.aT5 b.aT4
def aHw{e:Int}(w:PA h a n m ps A)(l:OM A)(ok:Fj A e)(F:A.has x):
  ∃h' JM,BF cx 232 [Pt a 0,I x] h (ze []) h'/\PA h' a n m JM (A.cut x)/\Dx h (λi=>i∈Hh a n m ps) h' (λi=>i∈Hh a n m JM):=by
 let Z:=l.Bj ok;by_cases N:(A.nd x).Ha=0
 .let u:A.cut x=A:=by rw[θ];simp only;rw[Ae N]
  exact⟨h,ps,by simp[ZX,J3 w l F,w.f1 F,N],by rwa[u],.refl⟩
 .let⟨s,hk⟩:=ok.Ha x F N;generalize d:(A.nd x).Ha=q at*;let Y:=d▸mq ok F (d▸N)
  let⟨k,r,K,D,_,_⟩:=u9 hk;let o:=aKc (w.OL s).UP (Z q) x;rw[K] at o;rcases ym:(w.OL s) with⟨_,e0⟩|⟨M,cs,b,hc⟩
  .rw[e0] at r;simp at r
  clear ym;rw[b] at o;let⟨Iz,R⟩:=aOn hc r (Z q);rw[Wk (ok.Vd q s).wj D] at R;let kP:(A.nd q).Bj.length-1=((A.nd q).Bj.filter λy=>decide (y≠x)).length:=by rw[<-Wk (ok.Vd q s).wj D,As,Az,Bp];omega
  rw[kP] at R;generalize c:h.set M (zu (((A.nd q).Bj.filter λy=>decide (y≠x)).map (yw ys)++Iz))=U at R;let aT6:M≠n:=by intro f;have:=w.nd;rw[Hh] at this;simp only[CA,A0,MO] at this;exact this.2.1 (f▸AA.2 (zf (Cz.2 ⟨_,(w.pn s).2.2,by rw[b];rfl⟩)))
  let aZT:M≠a:=by intro f;have:=w.nd;rw[Hh] at this;rw[CA,A0,MO] at this;exact this.1.2 (f▸AA.2 (zf (Cz.2 ⟨_,(w.pn s).2.2,by rw[b];rfl⟩)))
  obtain⟨g,V⟩:∃g:PN,g=⟨{A.nd q with Bj:=(A.nd q).Bj.filter λy=>decide (y≠x)},.CK M 0 ((A.nd q).Bj.filter λy=>decide (y≠x)).length 1,(pN ps q).av,w.ħ s⟩:=⟨_,rfl⟩;let aOq:g.row=(pN ps q).row.set 2 (.CK M 0 ((A.nd q).Bj.filter λy=>decide (y≠x)).length 1):=by simp only[V,yz];rw[(w.pn s).2.1];rfl
  let z:U[n]?=h[n]?:=by rw[<-c,Av aT6]
  have B:=w.sto s AR rfl aOq z;let P:I8 g.kv=I8 (pN ps q).kv:=by rw[V,b];rfl
  have O:=w.ğ s (h1:=U) (λi _ T=>by rw[<-c,Av];intro f;exact T (by rw[b,f];rfl)) (V▸zf ⟨M,Iz,rfl,c▸AT ((Aq.1 hc).1)⟩) (z2 P)
  have Q:=yi w s P;generalize j:U.set n (zu ((ps.set (q.toNat-1) g).map yz).flatten)=h2 at B O;generalize aZU:ps.set (q.toNat-1) g=Vf at O Q;let t:g.x={A.nd q with Bj:=(A.nd q).Bj.filter λy=>decide (y≠x)}:=by rw[V]
  rw[t] at O;let jW:=(O.pn (JE.2 F)).2.1;let X:(A.set q {A.nd q with Bj:=(A.nd q).Bj.filter λy=>decide (y≠x)}).nd x=A.nd x:=by rw[Lg,Aa (λh=>Y h.1.symm)]
  let⟨L,G,E,i3,H,l3⟩:=O.wr (JE.2 F) (k:=1) AR (v:= I 0) rfl (p:=⟨{A.nd x with Ha:=0},(pN Vf x).kv,(pN Vf x).av,by have:=(pN Vf x).ok;rwa[jW,X] at this⟩) (by simp only[yz];rw[jW,X];rfl) rfl (Cx FE.Bj X).symm;let u:A.cut x=(A.set q {A.nd q with Bj:=(A.nd q).Bj.filter λy=>decide (y≠x)}).set x {A.nd x with Ha:=0}:=by rw[θ];simp only;rw[d,Aa N,X]
  refine⟨L,_,?_,u▸E,?_⟩;.rw[Ac,ZX];simp only[abS,J3 w l F,J3 w l s,w.f1 F,d,N,w.f2 s,b,o,Xv (show k<9223372036854775807 by have:=Z q;omega),R,B,G]
  .let aZV:wn h2=wn h:=by rw[<-j,Bw,<-c,Bw]
   exact⟨Ab,λi T Y7=>by let C:i≠n:=λf=>Y7 (f▸by simp[Hh]);rw[H i C,<-j,Av (D8 C),<-c,Av (D8 (λf=>Y7 (f▸(Nh (w.pn s).2.2 (by rw[b];rfl))):i≠M))],λi T=> z2 (by rwa[i3,Q] at T)⟩
def bk{p:PN}(w:PA h a n m ps A)(l:A.has x){i:Nat}(f:i∈Hh a n m (ps.set (x.toNat-1) p)):i∈Hh a n m ps\/I8 p.kv=zx i:=by
 let⟨c,b⟩:=fI w l p;rw[Hh] at f⊢;rw[b,Fz] at f;simp only[A0,AA,Cz] at f⊢;obtain d|d|d|⟨q,d,j⟩|⟨q,d,j⟩:=f
 .exact z2 (z2 d)
 .exact z2 (zf (z2 d))
 .exact z2 (zf (zf (z2 d)))
 .exact z2 (zf (zf (zf ⟨q,BQ d,j⟩)))
 .rcases d with rfl|d
  .exact zf j
  .exact z2 (zf (zf (zf ⟨q,BU d,j⟩)))
def aA8{f:Ad}{l:List Int}{k:Nat}(p:L1 h f l)(m:k<=wn l)(hb:wn l<=1000000000)y:
  ∃b,EH .Ĳ h [f,I k,.sl 1 [[I y]]]=zx (b,.CK (wn h) 0 (wn l+1) 1)/\b[wn h]?=zx (zu ((l.take k++y::l.drop k).map (yw ys)))/\(∀i,i<wn h->I8 f≠zx i->b[i]?=h[i]?)/\wn b=wn h+1:=by
 rcases p with⟨rfl,rfl⟩|⟨n,r,rfl,q⟩
 .have:k=0:=zv m
  subst this;exact⟨h++[zu [I y]],rfl,AF,λi j _=>An j,AF⟩
 .refine⟨h.set n .CV++[zu ((l.take k++y::l.drop k).map (yw ys))],?_,by rw[Bu AF];simp,λi j o=>?_,AF⟩
  .simp only[EH,S8,q];rw[Ae (by have:AN=140737488355328:=rfl;simp;omega)];rw[A6];let c:(l.map (yw ys)++r).take k=(l.take k).map (yw ys):=by rw[Dh (zv m),E1]
   rw[c,Jc AF];simp
  .rw[An (zv j),Av];intro e;exact o (by rw[e];rfl)
def QX{p b:Int}(a:¬aAj A p x b):A.Gu p x b=A:=by rw[Ar.Gu];rw[Aa a]
def aA9{l:List Int}{b y:Int}{k:Nat}(d:b=0->k=wn l)(c:b≠0->l.takeWhile (λy=>decide (y≠b))=l.take k/\l.dropWhile (λy=>decide (y≠b))=l.drop k):KD l b y=l.take k++y::l.drop k:=by
 rw[KD];by_cases a:b=0;.rw[Ae a,d a];simp
 .rw[Aa a,(c a).1,(c a).2]
open Classical in
def aHy{e p b:Int}(w:PA h a n m ps A)(d:OM A)(ok:Fj A e):
  ∃er h' JM,BF cx 103 [Pt a 0,I p,I x,I b] h (I er) h'/\PA h' a n m JM (A.Gu p x b)/\Dx h (λi=>i∈Hh a n m ps) h' (λi=>i∈Hh a n m JM):=by
 by_cases jW:A.has p/\A.has x;rotate_left;.exact⟨3,h,ps,by rw[Ac,NS];simp only[abS,GU,NA (x:=p) (y:=x) w,Aa jW,BR,Jq],by rw[QX (λf=>jW ⟨f.hp,f.hn⟩)];exact w,.refl⟩
 let⟨hp,hx⟩:=jW;by_cases hb:b≠0/\¬A.has b;.exact⟨3,h,ps,by rw[Ac,NS];simp only[abS,GU,NA (x:=p) (y:=x) w,Ae (And.intro hp hx),BR,CH,hb.1,Zi (x:=b) w,Ag hb.2,A9],by rw[QX (λf=>hb.2 (f.hb hb.1).1)];exact w,.refl⟩
 let Td:b=0\/(b≠0/\A.has b):=by
  by_cases h0:b=0;.exact z2 h0
  .refine zf ⟨h0,?_⟩;by_cases h1:A.has b;.exact h1
   .cases hb ⟨h0,h1⟩
 by_cases kp:Mt (A.nd p).kind;rotate_left
 .refine⟨4,h,ps,?_,by rw[QX (λf=>kp f.kp)];exact w,.refl⟩;rw[Mt] at kp;let c:¬(A.nd p).kind=1:=λe=>kp (z2 e);let t:¬(A.nd p).kind=2:=λe=>kp (zf (z2 e));let H:¬(A.nd p).kind=4:=λe=>kp (zf (zf e));rw[Ac,NS];obtain h0|⟨h0,Rk⟩:=Td
  .simp only[abS,GU,NA w,Ae (y8 hp hx),BR,CH,J3 w d hp,J3 w d hx,w.f0 hp,w.f0 hx,c,A9,h0,t,H]
  .simp only[abS,GU,NA w,Ae (y8 hp hx),BR,CH,J3 w d hp,J3 w d hx,w.f0 hp,w.f0 hx,c,A9,h0,Zi w,Ah Rk,t,H]
 by_cases kn:(A.nd x).kind=1\/(A.nd x).kind=2
 .refine⟨4,h,ps,?_,by rw[QX (λf=>by have:=f.kn;omega)];exact w,.refl⟩;rw[Ac,NS];obtain c|c|c:=kp<;>obtain t|t:=kn<;>obtain h0|⟨h0,Rk⟩:=Td
  all_goals first|(simp only[abS,GU,NA (x:=p) (y:=x) w,Ae (And.intro hp hx),BR,CH,J3 w d hp,J3 w d hx,w.f0 hp,w.f0 hx,c,Jq,A9,h0,t];done)|simp only[abS,GU,NA (x:=p) (y:=x) w,Ae (And.intro hp hx),BR,CH,J3 w d hp,J3 w d hx,w.f0 hp,w.f0 hx,c,Jq,A9,h0,Zi (x:=b) w,Ah Rk,t]
 let l:¬(A.nd x).kind=1:=λe=>kn (z2 e);let g:¬(A.nd x).kind=2:=λe=>kn (zf e);let r:=aOm w ok hx hp;by_cases re:Reach A x p
 .refine⟨4,h,ps,?_,by rw[QX (λf=>f.re re)];exact w,.refl⟩;rw[Ah re] at r;rw[Ac,NS];obtain c|c|c:=kp<;>obtain h0|⟨h0,Rk⟩:=Td
  all_goals first|(simp only[abS,GU,NA (x:=p) (y:=x) w,Ae (And.intro hp hx),BR,CH,J3 w d hp,J3 w d hx,w.f0 hp,w.f0 hx,c,Jq,A9,h0,l,g,r];done)|simp only[abS,GU,NA (x:=p) (y:=x) w,Ae (And.intro hp hx),BR,CH,J3 w d hp,J3 w d hx,w.f0 hp,w.f0 hx,c,Jq,A9,h0,Zi (x:=b) w,Ah Rk,l,g,r]
 rw[Ag re] at r;by_cases q:b≠0/\(b=x\/(A.nd b).Ha≠p)
 .refine⟨5,h,ps,?_,by rw[QX (λf=>by have:=f.hb q.1;rcases q.2 with h|h;exact this.2.1 h;exact h this.2.2)];exact w,.refl⟩;let⟨h0,q⟩:=q;let Rk:=(Td.resolve_left h0).2;rw[Ac,NS];by_cases o:b=x;.obtain c|c|c:=kp<;>simp only[abS,GU,NA (x:=p) (y:=x) w,Ae (And.intro hp hx),BR,CH,J3 w d hp,J3 w d hx,w.f0 hp,w.f0 hx,c,Jq,A9,l,g,r,o,show¬x=0 from o▸h0,Ah hx,Zi (x:=x) w]
  .let q:=q.resolve_left o;obtain c|c|c:=kp<;>simp only[abS,GU,NA (x:=p) (y:=x) w,Ae (And.intro hp hx),BR,CH,J3 w d hp,J3 w d hx,w.f0 hp,w.f0 hx,c,Jq,A9,h0,Zi (x:=b) w,Ah Rk,l,g,r,o,J3 w d Rk,w.f1 Rk,q]
 let fits:aAj A p x b:=⟨hp,hx,λh0=>⟨(Td.resolve_left h0).2,λe=>q ⟨h0,z2 e⟩,by
  by_cases h1:(A.nd b).Ha=p;.exact h1
  .exact absurd ⟨h0,.inr h1⟩ q⟩,kp,⟨l,g⟩,re⟩
 let hA:A.Gu p x b=(A.cut x).Mf p x b:=by rw[Ar.Gu];rw[Ae fits]
 let⟨h1,Vf,R,w1,V⟩:=aHw w d ok hx;let TE:=XD ok hx g;let K:=d.cut (x:=x);let Ue:(A.cut x).has p:=MY.2 hp;let Rz:(A.cut x).has x:=MY.2 hx;let L:x≠p:=by rintro rfl;exact re .refl
 let D:=K.Bj TE p;obtain⟨k,Tb,C,aDd⟩:∃k,k<=((A.cut x).nd p).Bj.length/\(b=0->k=((A.cut x).nd p).Bj.length)/\(b≠0->Ck (λy=>decide (b=y)) 0 ((A.cut x).nd p).Bj=k/\((A.cut x).nd p).Bj.takeWhile (λy=>decide (y≠b))=((A.cut x).nd p).Bj.take k/\((A.cut x).nd p).Bj.dropWhile (λy=>decide (y≠b))=((A.cut x).nd p).Bj.drop k):=by
  by_cases h0:b=0;.exact⟨_,Af _,λ_=>rfl,λh=>absurd h0 h⟩
  .let u:=fits.hb h0;let aBa:((A.cut x).nd b).Ha=p:=by
    rw[UK ok hx,Aa u.2.1];split;.exact u.2.2
    .exact u.2.2
   let aFA:b∈((A.cut x).nd p).Bj:=by have:=(TE.Ha b (MY.2 u.1) (by rw[aBa];have:=hp.1;omega)).2;rwa [aBa] at this
   let⟨k,c,t,_,H,Y⟩:=u9 aFA;exact⟨k,Ab,λh=>absurd h h0,λ_=>⟨t,H,Y⟩⟩
 let Sj:=aA9 (y:=x) C λh=>(aDd h).2;let OL:=w1.OL Ue;let⟨h2,O,KB,i7,Zb⟩:=aA8 OL Tb D x;let M:=(w1.pn Ue).2.1;obtain⟨s,ò⟩:∃s:PN,s=⟨{(A.cut x).nd p with Bj:=KD ((A.cut x).nd p).Bj b x},.CK (wn h1) 0 (((A.cut x).nd p).Bj.length+1) 1,(pN Vf p).av,w1.ħ Ue⟩:=⟨_,rfl⟩;let B:s.x={(A.cut x).nd p with Bj:=KD ((A.cut x).nd p).Bj b x}:=by rw[ò]
 let hrow:s.row=(pN Vf p).row.set 2 (.CK (wn h1) 0 (((A.cut x).nd p).Bj.length+1) 1):=by rw[ò];simp only[PN.row];rw[M];rfl
 let aOt:n∈Hh a n m Vf:=by simp[Hh]
 let N:I8 (pN Vf p).kv≠zx n:=by intro G;have:=w1.nd;rw[Hh] at this;simp only[CA,A0,MO] at this;exact this.2.1 (AA.2 (zf (Cz.2 ⟨_,(w1.pn Ue).2.2,G⟩)))
 have J:=w1.sto Ue AR rfl hrow (i7 n (w1.lt n aOt) N);let hlen:(KD ((A.cut x).nd p).Bj b x).length=((A.cut x).nd p).Bj.length+1:=by rw[Sj,As,Bg,Az,Bp];omega
 have z:=w1.ğ Ue (p:=s) (λi hi hn=>i7 i (w1.lt i hi) hn) (by rw[ò];exact .inr ⟨h1.length,[],by simp only[hlen],by simp only[Sj,Br];exact KB⟩) (zf λj hj=>by rw[ò] at hj;cases hj;exact Af _)
 have Sc:∀i,i∈Hh a n m (Vf.set (p.toNat-1) s)->i∈Hh a n m Vf\/i=wn h1:=by
  intro i hi;obtain h|h:=bk w1 Ue hi
  .exact z2 h
  .rw[ò] at h;cases h;exact zf rfl
 generalize E:h2.set n (zu ((Vf.set (p.toNat-1) s).map yz).flatten)=h3 at J z;generalize aZZ:Vf.set (p.toNat-1) s=pk at z Sc;rw[B] at z;let oK:((A.cut x).set p {(A.cut x).nd p with Bj:=KD ((A.cut x).nd p).Bj b x}).has x:=JE.2 Rz;let Va:((A.cut x).set p {(A.cut x).nd p with Bj:=KD ((A.cut x).nd p).Bj b x}).nd x=(A.cut x).nd x:=by rw[Lg,Aa (λh=>L h.1)]
 let jW:=(z.pn oK).2.1;let⟨T,P,W,Z,X,l4⟩:=z.wr oK (k:=1) AR (v:= I p) rfl (p:=⟨{(A.cut x).nd x with Ha:=p},(pN pk x).kv,(pN pk x).av,by have:=(pN pk x).ok;rw[jW,Va] at this;exact this⟩) (by simp only[PN.row];rw[jW,Va];rfl) rfl (Cx FE.Bj Va).symm;let aOu:(A.cut x).Mf p x b=((A.cut x).set p {(A.cut x).nd p with Bj:=KD ((A.cut x).nd p).Bj b x}).set x {(A.cut x).nd x with Ha:=p}:=by rw[Ar.Mf];simp only;rw[Va]
 refine⟨0,T,_,?_,by rw[hA,aOu];exact W,?_⟩
 .rw[Ac,NS];let kl:=OL.len;by_cases h0:b=0;.rw[C h0] at O;obtain c|c|c:=kp<;>simp only[abS,GU,NA (x:=p) (y:=x) w,Ae (And.intro hp hx),BR,CH,J3 w d hp,J3 w d hx,w.f0 hp,w.f0 hx,c,Jq,A9,h0,l,g,r,R,w1.f2 Ue,kl,H8,O,J,P]
  .let u:=fits.hb h0;let Rk:=u.1;let Q:=aKc OL.UP D b;rw[(aDd h0).1] at Q;obtain c|c|c:=kp<;>simp only[abS,GU,NA (x:=p) (y:=x) w,Ae (And.intro hp hx),BR,CH,J3 w d hp,J3 w d hx,w.f0 hp,w.f0 hx,c,Jq,A9,h0,Zi (x:=b) w,Ah Rk,l,g,r,u.2.1,J3 w d Rk,w.f1 Rk,u.2.2,R,w1.f2 Ue,kl,Q,H8,O,J,P]
 .let wV:wn h3=wn h1+1:=by rw[<-E,Bw,Zb]
  let U:Dx h1 (λi=>i∈Hh a n m Vf) T (λi=>i∈Hh a n m (pk.set (x.toNat-1) ⟨{(A.cut x).nd x with Ha:=p},(pN pk x).kv,(pN pk x).av,by have:=(pN pk x).ok;rwa[jW,Va] at this⟩)):=by
   refine⟨Ab,λi hi Y7=>?_,λi hi=>?_⟩;.let S:i≠n:=λG=>Y7 (G▸aOt);rw[X i S,<-E,Av (D8 S)];exact i7 i hi λG=>Y7 (Nh (w1.pn Ue).2.2 G)
   .rw[Z] at hi;obtain h|h:=Sc i hi
    .exact .inl h
    .exact .inr Ab
  exact V.trans U
end
def J4(a:Nat)(b:BS)(o c t:Ad):List Ad:=[Pt a 0,I b.Cd,o,c,I b.mode,I b.Kt,t,I b.head,I b.Fx,zq b.NR,I b.ctx.node,I b.ctx.Bk,zk b.ctx.name,zq b.ctx.OZ,zq b.fs,zq b.FW,zk b.af,zq b.skip,I b.sw,zq b.stop]
def UQ(l:List Int)(v:Ad):Prop:=Em l v\/(v= .FT 1/\l=[])
def Wl(l:List Int)(v:Ad):Prop:=UQ l v/\v≠ .sl 1 []
section
variable{h:Ak}{l:List Int}{v:Ad}
def UQ.cells(t:UQ l v):v.cells=[v]:=by
 obtain t|⟨rfl,_⟩:=t
 .exact AY.cells t
 .rfl
def UQ.len(t:UQ l v):AB (wf zr) [v]=zx (I (wn l)):=by
 obtain t|⟨rfl,rfl⟩:=t
 .exact xs t
 .rfl
section
variable(t:UQ l v)
def UQ.ne(a:l≠[]):Em l v:=by
 obtain t|⟨_,e⟩:=t
 .exact t
 .cases a e
def UQ.UP:SL h v l:=⟨t.len,λk a=>(Em.UP (t.ne (λe=>by rw[e] at a;simp at a))).at_ k a⟩
end
def UQ.Gf(t:UQ l v)(a:wn l*8<=AN):∃u,AB (.append 1 8) [zw,v]=zx u/\Em l u:=by
 obtain t|⟨rfl,rfl⟩:=t
 .exact vl t a
 .exact⟨zw,rfl,zf ⟨rfl,rfl⟩⟩
def UQ.zD(t:UQ l v)m(a:(wn l+1)*8<=AN):AB (.append 1 8) [v,.sl 1 [BM m]]=zx (.sl 1 ((l++[m]).map BM)):=by
 obtain t|⟨rfl,rfl⟩:=t
 .exact vu t a
 .rfl
def Wl.yC{m:Int}:Wl (l++[m]) (.sl 1 ((l++[m]).map BM)):=⟨z2 .mk,λe=>by injection e with _ e;simp at e⟩
def Wl.nil:Wl [] zw:=⟨z2 (zf ⟨rfl,rfl⟩),nofun⟩
end
structure BX(h:Ak)(bi a:Nat)(o c t:Ad)(G:Nat->Prop)(b:BS):Prop where
 hb:h[bi]?=zx (zu (J4 a b o c t))
 o:B7 b.AJ o
 t:Wl b.tm t
 w:PW h G a b.a
 nb:¬G bi
section
variable{h:Ak}{bi a:Nat}{o c t:Ad}{G F:Nat->Prop}{b:BS}{x:Int}{m:Nat}
def BX.lt(w:BX h bi a o c t G b):bi<wn h:=(Aq.1 w.hb).1
def BX.Dt{h':Ak}(w:BX h bi a o c t G b)(e:∀i,i=bi\/G i->h'[i]?=h[i]?):BX h' bi a o c t G b:=
 ⟨e bi (z2 rfl)▸w.hb,w.o,w.t,w.w.Dt λi f=>e i (zf f),w.nb⟩
def BX.If(w:BX h bi a o c t G b){u:Ak}:BX (h++u) bi a o c t G b:=w.Dt λi d=>An (by obtain rfl|d:=d;exact w.lt;exact w.w.lt d)
section
variable(w:BX h bi a o c t G b)
def BX.ld k:A8 h zc (Pt bi k)=(J4 a b o c t)[k]?:=by simp[A8,w.hb,Fg]
def BX.l0:A8 h zc (Pt bi 0)=zx (Pt a 0):=w.ld 0
def BX.l1:A8 h zc (Pt bi 1)=zx (I b.Cd):=w.ld 1
def BX.l4:A8 h zc (Pt bi 4)=zx (I b.mode):=w.ld 4
def BX.l7:A8 h zc (Pt bi 7)=zx (I b.head):=w.ld 7
def BX.l9:A8 h zc (Pt bi 9)=zx (zq b.NR):=w.ld 9
def BX.l15:A8 h zc (Pt bi 15)=zx (zq b.FW):=w.ld 15
def BX.l3:A8 h zc (Pt bi 3)=zx c:=w.ld 3
def BX.l6:A8 h zc (Pt bi 6)=zx t:=w.ld 6
def BX.atO:At h bi 2 o:=⟨_,w.hb,rfl⟩
def BX.vA:At h bi 3 c:=⟨_,w.hb,rfl⟩
def BX.sO:NP h bi 2 b.AJ:=⟨o,w.atO,w.o⟩
def BX.sA:Ü h (Pt bi 2) b.AJ:=w.sO.at
def JN:BF cx 138 [Pt bi 0] h (zq z9) h:=by simp[qE,w.l0]
end
def PW.pa{A:Ar}(w:PW h G a A):∃n m b,PA h a n m b A:=let⟨n,m,b,w,_⟩:=w;⟨n,m,b,w⟩
section
variable(w:BX h bi a o c t G b)
def Zk(ok:BA b)(c:BW b m)x:∃K V u,BF cx 166 [Pt bi 0,I x] h (zb [I (b.a.nd x).kind,I (b.a.nd x).Ha,K,I (b.a.nd x).Cd,I (b.a.nd x).Bk,zk (b.a.nd x).name,V,zk (b.a.nd x).data,zk (b.a.nd x).Ho,zk (b.a.nd x).sys,zq (b.a.nd x).Cm,I (b.a.nd x).cont,I (b.a.nd x).E3]) (h++u)/\Em (b.a.nd x).Bj K/\Kw (h++u) V (b.a.nd x).Al/\Up (wn h) V:=by let⟨n,m',ps,d⟩:=w.w.pa;obtain⟨r,u,e,K,V,rfl,g,f⟩:=aKb d c.V6 (c.V6.Bj ok.ok x);exact⟨K,V,u,by simp[qL,w.l0,e],g,f⟩
def aKh(a:BW b m):BF cx 181 [Pt bi 0] h (zb (DZ b.AJ).row) h:=by have:=a.AJ;simp only[Ac,qY,abS,Fh,JN w,f39 w.sA Ab]
def aOv(ok:BA b)(k:BW b m):BF cx 311 [Pt bi 0] h (ze [I b.Mi.1,I b.Mi.2]) h:=by
 let hl:=k.AJ;let⟨n,m',ps,g⟩:=w.w.pa;have f:=aFs w.sA (Ab:wn b.AJ<=1000000000) Gw;have o:=aFs w.sA (Ab:wn b.AJ<=1000000000) AE;have r:=QP (q:=AS [Gw]) (l:=b.AJ);have p:=QP (q:=AS [AE]) (l:=b.AJ);rw[BS.Mi];simp only
 generalize A7 (AS [Gw]) b.AJ=d at f r⊢;generalize A7 (AS [AE]) b.AJ=i at o p⊢;simp only[Ac,sP,By,f,o];refine⟨λa=>?_,λa=>⟨λj=>?_,λj=>?_⟩⟩;.rw[Ae a];simp only[By,Fh,Zg w.sA i]
 .rw[Aa a,Ae j];simp only[By,Fh,Zg w.sA 0]
 .rw[Aa a,Aa j];simp only[abS,Fh,Zg w.sA d,w.l0,aOb g k.V6];refine⟨λe=>?_,λe=>?_⟩;.rw[Ae e]
  .rw[Aa e];simp only[By,Fh,Db d 1,oS,(Ab:(if d-1<0 then 0 else d-1)=max (d-1) 0),Zg w.sA (max (d-1) 0)]
end
def lY:AB (.Df 1) [S Gw,S XE,S XF,S XG,S wTr]=zx (.sl 1 (Jz.map BY)):=DK rfl AR
def py{v:Ad}{ws:List Aj}(c:HU ws v)(d:wn ws<=1000000000)(a:Item)(h:Ak):BF cx 156 [zb a.row,v] h (zq (AS ws a)) h:=by simp only[Ac,qI,By,Fh,aFr c d _ h,AS];refine⟨λb=>by simp[b],λb=>by simp[b]⟩
def aBb{A:Ar}{x:Int}(c:(A.nd x).kind=4)(a:List Aj):AS a ⟨0,(A.nd x).Bk,(A.nd x).name,zr⟩=decide (W9 a A x):=by
 by_cases h:W9 a A x;.rw[Ah h];rw[AS];rw[Ah];exact⟨h.2.1,h.2.2⟩
 .rw[Ag h];rw[AS];rw[Ag];exact λb=>h ⟨c,b.1,b.2⟩
def aFE(w:BX h bi a o c t G b)(ok:BA b)(rm:BW b m)x:∃u,BF cx 165 [Pt bi 0,I x] h (ze [I (b.place x).1,I (b.place x).2]) (h++u):=by
 by_cases C:x=0/\b.AJ=[]
 .refine⟨[],?_⟩;let D:b.place x=(b.Cd,0):=by rw[BS.place];rw[Ae C]
  rw[D,Br,Ac,ZQ];simp only[abS,JN w,C.1,C.2,CH,XP w.sA,Int.natCast_zero,w.l1]
 .obtain⟨l,ht⟩:∃l,l=if x=0 then(DZ b.AJ).node else x:=⟨_,rfl⟩
  let⟨Z,X,r,U,_,_⟩:=Zk w ok rm l;let w1:=w.If (u:=r);let D:b.place x=if(b.a.nd (if b.FW=z9/\W9 Jz b.a l then b.Mi else(l,0)).1).cont≠0 then((b.a.nd (if b.FW=z9/\W9 Jz b.a l then b.Mi else(l,0)).1).cont,0) else if b.FW=z9/\W9 Jz b.a l then b.Mi else(l,0):=by rw[BS.place];rw[Aa C,<-ht]
  obtain⟨pb,eR⟩:∃pb,pb=if b.FW=z9/\W9 Jz b.a l then b.Mi else(l,0):=⟨_,rfl⟩
  rw[<-eR] at D;let⟨Y,V,P,r2,_,_⟩:=Zk w1 ok rm pb.1;let A:=py (ws:=Jz) Cc AR ⟨0,(b.a.nd l).Bk,(b.a.nd l).name,zr⟩ (h++r);let em:∀s n,AB (.Fc [I 0,I 0,S [],ff] [(1,1),(2,1)]) [I s,zk n]=zx (zb (Item.row ⟨0,s,n,zr⟩)):=λ_ _=>rfl;refine⟨r++P,?_⟩;rw[<-AO];have F:∀(y:Int×Int),y=pb->W cx (vg 166 [Pt bi 0,I y.1] λp=> .cells 13 p λd=> .op (.int .neq) [g d 11,I 0] λk=> .Hs k (.ret .ret [ze [g d 11,I 0]]) (.ret .ret [ze [I y.1,I y.2]])) (λj vs h1=>j=Dz.ret/\vs=[ze [I (b.place x).1,I (b.place x).2]]/\h1=h++r++P) (h++r):=by
   rintro _ rfl;simp only[D,By,r2];refine⟨λh1=>?_,λh1=>?_⟩;.rw[Ae h1]
   .rw[Aa h1]
  rw[Ac,ZQ];let T:=w1.l15;let v:W cx (vg 166 [Pt bi 0,I l] λO=> .cells 13 O λq=> .Qp 200009 (.op .K8 [Pt bi 0] λN=> .op (.Mo 15) [N] λv16=> .load zc v16 λM=> .Hs M (.op (.int .eql) [g q 0,I 4] λL=> .Hs L (.op (.Fc [I 0,I 0,S [],ff] [(1,1),(2,1)]) [g q 4,g q 5] λK=> .op (.Df 1) [S a2K,S a3T,S a3R,S a3U,S [116,114]] λv20=> vg 156 [K,v20] λJ=> .ret .normal [J]) (.ret .normal [ff])) (.ret .normal [ff])) (λx R=>match x with
    | .normal=> .Qp 100046 (.Hs (g R 0) (vg 311 [Pt bi 0] λz=> .op (.ext 0) [z] λH=> .op (.ext 1) [z] λE=> .ret .normal [H,E]) (.ret .normal [I l,I 0])) (λx f=>match x with
     | .normal=> .call 166 [Pt bi 0,g f 0] λp=> .cells 13 p λd=> .op (.int .neq) [g d 11,I 0] λk=> .Hs k (.ret .ret [.tuple [g d 11,I 0]]) (.ret .ret [.tuple [g f 0,g f 1]])
     | .exit i=> .fail
     | .ret=> .ret .ret [.tuple [g f 0,g f 1]])
    | .exit i=> .fail
    | .ret=> .ret .ret [.tuple [I l,I 0]])) (λj vs h1=>j=Dz.ret/\vs=[.tuple [I (b.place x).1,I (b.place x).2]]/\h1=h++r++P) h:=by
   rw[U];by_cases hf:b.FW=z9
   .rw[hf] at T;by_cases B:(b.a.nd l).kind=4
    .rw[aBb B] at A;by_cases hw:W9 Jz b.a l;.rw[Ah hw] at A;rw[Ae ⟨hf,hw⟩] at eR;have:=F b.Mi eR.symm;simp only[abS,T,B,em,lY,A,aOv w1 ok rm];simpa only[By,T6,Bg,BH] using this
     .rw[Ag hw] at A;rw[Aa (λh=>hw h.2)] at eR;have:=F (l,0) eR.symm;simp only[abS,T,B,em,lY,A];simpa only[By,T6,Bg,BH] using this
    .rw[Aa (λh=>B h.2.1)] at eR;have:=F (l,0) eR.symm;simp only[abS,T,B];simpa only[By,T6,Bg,BH] using this
   .rw[Aa (λh=>hf h.1)] at eR;have:=F (l,0) eR.symm;rw[show b.FW=zr by simpa using hf] at T;simp only[By,T];simpa only[By,T6,Bg,BH] using this
  by_cases h0:x=0
  .let Q:¬((b.AJ.length:Nat):Int)=0:=by have:=Du.2 (λe=>C ⟨h0,e⟩);omega
   rw[Ae h0] at ht;rw[ht] at v;simp only[abS,JN w];rw[h0] at v⊢;simp only[abS,Fh,XP w.sA,Q,aKh w rm] at v⊢;exact v
  .rw[Aa h0] at ht;rw[ht] at v;simp[JN w,h0,Ec] at v⊢;exact v
end
section
def ó{Q:HN}{h:Ak}{k:Ad->IT}:W cx (.RQ k) Q h↔W cx (k (.map (zx (wn h)))) Q (h++[.map (ft 0)]):=UC
section
variable{v:Ad}{l:List Bb}{h:Ak}
def f150(A:AK l v)(hb:wn l<=1000)sp:∃u,BF cx 197 [I sp,v] h u (h++[.map (ft 11)])/\AK (l.map (Dd sp)) u:=by
 let k:=A;let D:Ev cx 197 [I sp,v] h λr z=>z=h++[.map (ft 11)]/\AK (l.map (Dd sp)) r:=by
  rw[Ev];rw[rM,aNz];rw[ó];simp only[By,Nat.reduceLeDiff,↓reduceIte,AP,Cr,mh,aNi,aNj,aNk,aNl,aNm,aNn,aNo,aNp,aNq,aNr,aJo,k.CQ];refine Bm (λp:Nat×Ad=>[p.2,I p.1]) (λp y=>p.1<=wn l/\AK ((l.take p.1).map (Dd sp)) p.2/\y=h++[.map (ft 11)]) (λp=>wn l-p.1) (0,zw) rfl ⟨AZ _,.nil,rfl⟩ ?_;rintro⟨n,u⟩ y ⟨C,m,rfl⟩;simp only at C m;rcases hJ n (wn l) with⟨a,i1⟩|⟨E,i1⟩
  .let s:∀{q:List Ad},q=(Dd sp l[n]).row->∃w,AB (.append 3 40) [u,.sl 3 [q]]=zx w/\AK ((l.take (n+1)).map (Dd sp)) w:=by
    rintro _ rfl;refine⟨_,vu m ?_,?_⟩;.simp[AN];omega
    .rw[AG a,BJ];exact .mk
   let f:=BB n;by_cases e:sp=2
   .subst e;cases c:EK (CD l[n].name Jr)
    .let⟨w,d,i⟩:=s (q:=[I 0,.str (CD l[n].name Jr),.str l[n].value]) (by simp[Dd,LV,true_or,BV,c,Bb.row]);simp only[By,Nat.reduceLeDiff,↓reduceIte,AP,i1,k.BL a,Cr,Bb.row,(aNN _).BG rfl rfl,AD,Ay,Au,Ok,c,EV,d,f];exact zn (n+1,w) rfl ⟨a,i,rfl⟩ DO
    next x=>let⟨w,d,i⟩:=s (q:=[I x.1,.str x.2,.str l[n].value]) (by simp[Dd,LV,true_or,BV,c,Bb.row]);simp only[By,Nat.reduceLeDiff,↓reduceIte,AP,i1,k.BL a,Cr,Bb.row,(aNN _).BG rfl rfl,AD,Ay,Au,Ok,c,EV,d,f];exact zn (n+1,w) rfl ⟨a,i,rfl⟩ DO
   by_cases g:sp=3
   .subst g;by_cases o:l[n].name=aJp
    .let c:EK Zd=zc:=by decide
     let⟨w,d,i⟩:=s (q:=[I 0,.str Zd,.str l[n].value]) (by simp[Dd,LV,o,or_true,BV,DW,c,zl,iK,e]);simp only[By,Nat.reduceLeDiff,↓reduceIte,AP,i1,k.BL a,Cr,Bb.row,o,Jq,AD,Ai,Ay,Au,Ok,c,EV,d,f];exact zn (n+1,w) rfl ⟨a,i,rfl⟩ DO
    .cases c:EK l[n].name
     .let⟨w,d,i⟩:=s (q:=[I 0,.str l[n].name,.str l[n].value]) (by simp[Dd,LV,o,or_true,BV,DW,c,Bb.row,aId,e]);simp only[By,Nat.reduceLeDiff,↓reduceIte,AP,i1,k.BL a,Cr,Bb.row,o,Jq,AD,Ai,Ay,Au,Ok,c,EV,d,f];exact zn (n+1,w) rfl ⟨a,i,rfl⟩ DO
     next x=>let⟨w,d,i⟩:=s (q:=[I x.1,.str x.2,.str l[n].value]) (by simp[Dd,LV,o,or_true,BV,DW,c,Bb.row,aId,e]);simp only[By,Nat.reduceLeDiff,↓reduceIte,AP,i1,k.BL a,Cr,Bb.row,o,Jq,AD,Ai,Ay,Au,Ok,c,EV,d,f];exact zn (n+1,w) rfl ⟨a,i,rfl⟩ DO
   .let⟨w,d,i⟩:=s (q:=[I 0,.str l[n].name,.str l[n].value]) (by simp[Dd,e,g,aLz,DW,zl]);cases c:EK l[n].name
    .simp only[By,zy,↓reduceIte,AP,i1,k.BL a,Cr,zl,e,g,AD,Ai,Ay,Au,Ok,c,EV,d,f];exact zn (n+1,w) rfl ⟨a,i,rfl⟩ DO
    next x=>simp only[By,Nat.reduceLeDiff,↓reduceIte,AP,i1,k.BL a,Cr,Bb.row,e,g,AD,Ai,Ay,Au,Ok,c,EV,d,f];exact zn (n+1,w) rfl ⟨a,i,rfl⟩ DO
  .rw[AL E] at m;simp only[By,Nat.reduceLeDiff,↓reduceIte,AP,i1,Ai,Ay,Au];exact⟨_,rfl,m⟩
 obtain⟨r,z,B,rfl,m⟩:=D.ret;exact⟨r,B,m⟩
def Zl{Q:HN}{s:Aj}{k:Ad->IT}:W cx (.BG 350 [zk a2t,zk s] k) Q h↔W cx (k (zk (CD s Jr))) Q h:=by let e:=(aNL To s Bi).BG (Q:=Q) (h:=h) (k:=k) rfl rfl;rwa[dO] at e
def XQ{Q:HN}{s:Aj}{k:Ad->IT}(a:wn s<9223372036854775807):W cx (.BG 131 [zk a2H,zk s] k) Q h↔W cx (k (zq (decide (s∈NQ)))) Q h:=by rw[Gx AR a,aDM]
def aUc(N:AK l v)(O:∀a∈l,wn a.name<=1000)(hb:wn l<=1000)(sp:Int):∃u,BF cx 224 [I sp,v] h u h/\AK (l.map (Dd sp)) u:=by
 let B:AY 3 (l.map Bb.row) v:=N;let R:Ev cx 224 [I sp,v] h λr M=>M=h/\AK (l.map (Dd sp)) r:=by
  unfold Ev;rw[aEC];refine Bm (λp:Nat×Ad=>[p.2,I (p.1:Int)]) (λp L=>p.1<=wn l/\AK ((l.take p.1).map (Dd sp)) p.2/\L=h) (λp=>wn l-p.1) (0,zw) rfl ⟨AZ _,.nil,rfl⟩ ?_;rintro⟨n,u⟩ L ⟨Q,H,rfl⟩;simp only at Q H;rcases hJ n (wn l) with⟨y,i1⟩|⟨T,i1⟩
  .let E:∀{q:List Ad},q=(Dd sp l[n]).row->∃w,AB (.append 3 40) [u,.sl 3 [q]]=zx w/\AK ((l.take (n+1)).map (Dd sp)) w:=by
    rintro _ rfl;refine⟨_,vu (f:=Bb.row) (a:=Dd sp l[n]) (b:=40) H ?_,?_⟩;.simp[AN];omega
    .rw[AG y,BJ];exact .mk
   let A:=BB n;have Rg:=O _ (AV y);let G:∀nm,(sp=2\/sp=3)->LV sp l[n].name=nm->Dd sp l[n]=match EK nm with
     |zx (s,m)=>⟨s,m,l[n].value⟩
     |zc=>⟨0,nm,l[n].value⟩:=by
    rintro _ K rfl;rw[Dd,Ae K];rfl
   by_cases x:sp=2
   .subst x;have z:=G (CD l[n].name Jr) (z2 rfl) rfl;have D:(CD l[n].name Jr).length<9223372036854775807:=by rw[VR];omega
    generalize J:CD l[n].name Jr=nm at z D;rcases Ua nm with⟨e,i,d⟩|⟨e,⟨g,i,d⟩|⟨g,⟨j,i,d⟩|⟨j,⟨k,d⟩|⟨k,⟨o,d⟩|⟨o,d⟩⟩⟩⟩⟩
    .let⟨w,c,C⟩:=E (q:=[I 4,.str (nm.drop 6),.str l[n].value]) (by rw[z];simp only[d,Bb.row]);simp only[By,Nat.reduceLeDiff,↓reduceIte,AP,B.CQ,i1,B.BL y,Cr,Bb.row,J,Zl,Jq,AD,Ai,Ay,Au,XQ D,e,sl6 i,EV,c,A];exact zn (n+1,w) rfl ⟨y,C,rfl⟩ DO
    .let⟨w,c,C⟩:=E (q:=[I 5,.str (nm.drop 4),.str l[n].value]) (by rw[z];simp only[d,Bb.row]);simp only[By,Nat.reduceLeDiff,↓reduceIte,AP,B.CQ,i1,B.BL y,Cr,Bb.row,J,Zl,Jq,AD,Ai,Ay,Au,XQ D,e,Aw g,sl4 i,EV,c,A];exact zn (n+1,w) rfl ⟨y,C,rfl⟩ DO
    .let⟨w,c,C⟩:=E (q:=[I 5,.str (nm.drop 4),.str l[n].value]) (by rw[z];simp only[d,Bb.row]);simp only[By,Nat.reduceLeDiff,↓reduceIte,AP,B.CQ,i1,B.BL y,Cr,Bb.row,J,Zl,Jq,AD,Ai,Ay,Au,XQ D,e,g,Aw j,sl4 i,EV,c,A];exact zn (n+1,w) rfl ⟨y,C,rfl⟩ DO
    .let⟨w,c,C⟩:=E (q:=[I 6,.str nm,.str l[n].value]) (by rw[z];simp only[d,Bb.row]);simp only[By,Nat.reduceLeDiff,↓reduceIte,AP,B.CQ,i1,B.BL y,Cr,Bb.row,J,Zl,Jq,AD,Ai,Ay,Au,XQ D,e,g,j,Aw k,EV,c,A];exact zn (n+1,w) rfl ⟨y,C,rfl⟩ DO
    .let⟨w,c,C⟩:=E (q:=[I 6,.str mi,.str l[n].value]) (by rw[z];simp only[d,Bb.row]);simp only[By,Nat.reduceLeDiff,↓reduceIte,AP,B.CQ,i1,B.BL y,Cr,Bb.row,J,Zl,Jq,AD,Ai,Ay,Au,XQ D,e,g,j,k,Aw o,EV,c,A];exact zn (n+1,w) rfl ⟨y,C,rfl⟩ DO
    .let⟨w,c,C⟩:=E (q:=[I 0,.str nm,.str l[n].value]) (by rw[z];simp only[d,Bb.row]);simp only[By,Nat.reduceLeDiff,↓reduceIte,AP,B.CQ,i1,B.BL y,Cr,Bb.row,J,Zl,Jq,AD,Ai,Ay,Au,XQ D,e,g,j,k,o,EV,c,A];exact zn (n+1,w) rfl ⟨y,C,rfl⟩ DO
   by_cases t:sp=3
   .subst t;by_cases F:l[n].name=aJp;.have z:=G Zd (zf rfl) (by rw[LV,Aa AR,Ae ⟨rfl,F⟩]);rw[(AR:EK Zd=zc)] at z;let⟨w,c,C⟩:=E (q:=[I 0,.str Zd,.str l[n].value]) (by rw[z];rfl);have D:Zd.length<9223372036854775807:=AR;simp only[By,Nat.reduceLeDiff,↓reduceIte,AP,B.CQ,i1,B.BL y,Cr,Bb.row,F,Jq,AD,Ai,Ay,Au,XQ D,(AR:Zd∉NQ),(AR:¬Zd=zP),(AR:¬Zd=dX),(AR:¬Zd=zQ),(AR:¬Zd=dY),EV,c,A];exact zn (n+1,w) rfl ⟨y,C,rfl⟩ DO
    have z:=G l[n].name (zf rfl) (by rw[LV,Aa AR,Aa (λh=>F h.2)]);let D:l[n].name.length<9223372036854775807:=Ab;rcases Ua l[n].name with⟨e,i,d⟩|⟨e,⟨g,i,d⟩|⟨g,⟨j,i,d⟩|⟨j,⟨k,d⟩|⟨k,⟨o,d⟩|⟨o,d⟩⟩⟩⟩⟩
    .let⟨w,c,C⟩:=E (q:=[I 4,.str (l[n].name.drop 6),.str l[n].value]) (by rw[z];simp only[d,Bb.row]);simp only[By,Nat.reduceLeDiff,↓reduceIte,AP,B.CQ,i1,B.BL y,Cr,Bb.row,F,Zl,Jq,AD,Ai,Ay,Au,XQ D,e,sl6 i,EV,c,A];exact zn (n+1,w) rfl ⟨y,C,rfl⟩ DO
    .let⟨w,c,C⟩:=E (q:=[I 5,.str (l[n].name.drop 4),.str l[n].value]) (by rw[z];simp only[d,Bb.row]);simp only[By,Nat.reduceLeDiff,↓reduceIte,AP,B.CQ,i1,B.BL y,Cr,Bb.row,F,Zl,Jq,AD,Ai,Ay,Au,XQ D,e,Aw g,sl4 i,EV,c,A];exact zn (n+1,w) rfl ⟨y,C,rfl⟩ DO
    .let⟨w,c,C⟩:=E (q:=[I 5,.str (l[n].name.drop 4),.str l[n].value]) (by rw[z];simp only[d,Bb.row]);simp only[By,Nat.reduceLeDiff,↓reduceIte,AP,B.CQ,i1,B.BL y,Cr,Bb.row,F,Zl,Jq,AD,Ai,Ay,Au,XQ D,e,g,Aw j,sl4 i,EV,c,A];exact zn (n+1,w) rfl ⟨y,C,rfl⟩ DO
    .let⟨w,c,C⟩:=E (q:=[I 6,.str l[n].name,.str l[n].value]) (by rw[z];simp only[d,Bb.row]);simp only[By,Nat.reduceLeDiff,↓reduceIte,AP,B.CQ,i1,B.BL y,Cr,Bb.row,F,Zl,Jq,AD,Ai,Ay,Au,XQ D,e,g,j,Aw k,EV,c,A];exact zn (n+1,w) rfl ⟨y,C,rfl⟩ DO
    .let⟨w,c,C⟩:=E (q:=[I 6,.str mi,.str l[n].value]) (by rw[z];simp only[d,Bb.row]);simp only[By,Nat.reduceLeDiff,↓reduceIte,AP,B.CQ,i1,B.BL y,Cr,Bb.row,F,Zl,Jq,AD,Ai,Ay,Au,XQ D,e,g,j,k,Aw o,EV,c,A];exact zn (n+1,w) rfl ⟨y,C,rfl⟩ DO
    .let⟨w,c,C⟩:=E (q:=[I 0,.str l[n].name,.str l[n].value]) (by rw[z];simp only[d,Bb.row]);simp only[By,Nat.reduceLeDiff,↓reduceIte,AP,B.CQ,i1,B.BL y,Cr,Bb.row,F,Zl,Jq,AD,Ai,Ay,Au,XQ D,e,g,j,k,o,EV,c,A];exact zn (n+1,w) rfl ⟨y,C,rfl⟩ DO
   .let⟨w,c,C⟩:=E (q:=[I 0,.str l[n].name,.str l[n].value]) (by simp only[Dd,x,t,aLz,DW,Bb.row]);simp only[By,Nat.reduceLeDiff,↓reduceIte,AP,B.CQ,i1,B.BL y,Cr,Bb.row,x,t,AD,Ai,Ay,Au,EV,c,A];exact zn (n+1,w) rfl ⟨y,C,rfl⟩ DO
  .rw[AL T] at H;simp only[By,Nat.reduceLeDiff,↓reduceIte,AP,B.CQ,i1,Ai,Ay,Au];exact⟨_,rfl,H⟩
 obtain⟨r,M,P,rfl,H⟩:=R.ret;exact⟨r,P,H⟩
end
end
def BD(a:Nat)(G:Nat->Prop):Nat->Prop:=λi=>i=a\/G i
section
variable{h h':Ak}{bi a:Nat}{o c t:Ad}{G G' F:Nat->Prop}{b:BS}{x:Int}{m:Nat}
def Dx.aHB(x:Dx h G h' G'):Dx h (Am.BD bi G) h' (Am.BD bi G'):=⟨x.len,λi a c=>x.old i a λd=>c (zf d),λi a=>by
 obtain rfl|a:=a
 .exact z2 (z2 rfl)
 .rcases x.BD i a with h|h
  .exact z2 (zf h)
  .exact zf h⟩
def BX.yn{A':Ar}(w:BX h bi a o c t G b)(f:PW h' G' a A')(x:Dx h G h' G'):BX h' bi a o c t G' {b with a:=A'}/\Dx h (BD bi G) h' (BD bi G'):=
 ⟨⟨x.old bi w.lt w.nb▸w.hb,w.o,w.t,f,λi=>by obtain h|h:=x.BD bi i;exact w.nb h;have:=w.lt;omega⟩,x.aHB⟩
def BX.step{A':Ar}{R:Ak->Prop}(w:BX h bi a o c t G b)(d:∀n m l,PA h a n m l b.a->∃k p q u,R k/\PA k a p q u A'/\Dx h (λi=>i∈Hh a n m l) k (λi=>i∈Hh a p q u)):
  ∃k v,R k/\BX k bi a o c t v {b with a:=A'}/\Dx h (BD bi G) k (BD bi v):=by
 let⟨n,m,l,g,e⟩:=w.w;let⟨k,p,q,u,r,y,x⟩:=d n m l g;let⟨j,f⟩:=w.yn y.pw ((funext λi=>propext (e i))▸x);exact⟨k,_,r,j,f⟩
def BX.De(w:BX h bi a o c t G b){u:Ak}:Dx h (BD bi G) (h++u) (BD bi G):= .If
def aOy{v:Ad}{l:List Int}{f:FuncId}{caps:List Ad}{q:Int->Bool}(j:Em l v)(hb:wn l<=1000000000)(t:f<=99999)(s:∀k∈l,∀u,∃d,BF cx f (I k::caps) (h++u) (zq (q k)) (h++u++d)):
  ∃u,BF cx 386 [v,xv (.func f) [] caps] h (I (Ck q 0 l)) (h++u):=by
 let w:Ev cx 386 [v,xv (.func f) [] caps] h λr n=>r= I (Ck q 0 l)/\∃u,n=h++u:=by
  simp only[Ev,uE,By,j.CQ];refine Bm (λk:Nat=>[I 0,I k]) (λk m=>k<=wn l/\Ck q 0 l=Ck q k (l.drop k)/\∃u,m=h++u) (λk=>wn l-k) 0 rfl ⟨AZ _,rfl,[],AF⟩ ?_;rintro k m ⟨hk,b,u,rfl⟩;rcases hJ k (wn l) with⟨a,i1⟩|⟨x,i1⟩
  .let g:A8 (h++u) zc (.CO (BM l[k]))=zx (I l[k]):=rfl;let⟨d,e⟩:=s _ (AV a) u;rw[AI a,Ck] at b;simp only[abS,C6,i1,j.BL a,g,t,e,BB k];rw[CW];refine⟨λi=>?_,λi=>?_⟩;.exact⟨_,rfl,by rw[b,Ae i],u++d,AF⟩
   .rw[Aa (by simp[i])] at b;exact zn (k+1) rfl ⟨a,b,u++d,AF⟩ Ab
  .rw[AU x,Ck] at b;simp only[abS,C6,i1];exact⟨_,rfl,by rw[b],u,rfl⟩
 obtain⟨r,n,p,rfl,u,rfl⟩:=w.ret;exact⟨u,p⟩
def aFF{l:List Int}{q:Int->Bool}:decide (0<=Ck q 0 l)=l.any q:=by
 rcases Ig with⟨a,b⟩|⟨n,y,a,b,d⟩
 .rw[a,İ];have:=S5.1 b;exact zv this
 .rw[a,İ];rw[Ah Ab,Mn];exact⟨y,TT d,List.find?_some d⟩
def BX.self(w:BX h bi a o c t G b){A':Ar}(e:A'=b.a):BX h bi a o c t G {b with a:=A'}:=by subst e;exact w
open Classical in
def bl{p bf:Int}(w:BX h bi a o c t G b)(ok:BA b)(rm:BW b m):∃h' G',BF cx 153 [Pt bi 0,I x,I p,I bf] h (ze []) h'/\BX h' bi a o c t G' {b with a:=b.a.E8 x p bf}/\Dx h (BD bi G) h' (BD bi G'):=by
 let⟨K1,V1,d,J,_,_⟩:=Zk w ok rm p;let w1:=w.If (u:=d);let HT:∀h2,(∃u,h2=h++u)->∃h' G',(∃s,BF cx 103 [Pt a 0,I p,I x,I bf] h2 (I s) h')/\BX h' bi a o c t G' {b with a:=b.a.Gu p x bf}/\Dx h (BD bi G) h' (BD bi G'):=by
  rintro _ ⟨u,rfl⟩;let g:=w.If (u:=u);let⟨h',G',r,w',x'⟩:=g.step (R:=λh'=>∃s,BF cx 103 [Pt a 0,I p,I x,I bf] (h++u) (I s) h') (λn m ps Q=>let⟨s,h',JM,r,wp,P⟩:=aHy Q rm.V6 ok.ok;⟨h',n,m,JM,⟨s,r⟩,wp,P⟩)
  exact⟨h',G',r,w',w.De.trans x'⟩
 by_cases A:(b.a.nd p).kind=1
 .let⟨K2,Z,j,r2,_,_⟩:=Zk w1 ok rm x;let g:=w1.If (u:=j);by_cases D:(b.a.nd x).kind=4
  .let⟨V,W,pk,M⟩:=g.w.pa;let⟨K,O,U⟩:=aHn M rm.V6 (rm.V6.Bj ok.ok p);let⟨H,T⟩:=aOy (h:=h++d++j) (f:=298) (caps:=[.CO [Pt bi 0]]) (q:=λk=>decide ((b.a.nd k).kind=4)) U (rm.V6.Bj ok.ok p) AR (λk _ u=>by let E:=g.If (u:=u);let⟨K3,Y,S,y,_,_⟩:=Zk E ok rm k;exact⟨S,by simp only[Ac,sH,By,y]⟩)
   let i:BF cx 296 [K,xv (.func 298) [] [.CO [Pt bi 0]]] (h++d++j) (zq ((b.a.nd p).Bj.any λk=>decide ((b.a.nd k).kind=4))) (h++d++j++H):=by rw[Ac,sG,<-aFF];simp only[By,T]
   let E:=g.If (u:=H);by_cases L:∃k∈(b.a.nd p).Bj,(b.a.nd k).kind=4
   .let N:((b.a.nd p).Bj.any λk=>decide ((b.a.nd k).kind=4))=z9:=zv L
    rw[N] at i;let z:b.a.E8 x p bf=b.a:=by rw[v5];rw[Ae ⟨A,D,L⟩]
    exact⟨_,G,by simp only[Ac,Tw,abS,J,A,r2,D,g.l0,O,i],E.self z,(w.De.trans w1.De).trans g.De⟩
   .let N:((b.a.nd p).Bj.any λk=>decide ((b.a.nd k).kind=4))=zr:=by rw[aXY];intro k hk;exact zv (λe=>L ⟨k,hk,e⟩)
    rw[N] at i;let z:b.a.E8 x p bf=b.a.Gu p x bf:=by rw[v5];rw[Aa (λh=>L h.2.2)]
    let⟨h',G',⟨s,y⟩,C,B⟩:=HT (h++d++j++H) ⟨d++j++H,AF⟩;exact⟨h',G',by simp only[Ac,Tw,abS,J,A,r2,D,g.l0,O,i,E.l0,y],z▸C,B⟩
  .let z:b.a.E8 x p bf=b.a.Gu p x bf:=by rw[v5];rw[Aa (λh=>D h.2.1)]
   let⟨h',G',⟨s,y⟩,C,B⟩:=HT (h++d++j) ⟨d++j,AF⟩;exact⟨h',G',by simp only[Ac,Tw,abS,J,A,r2,D,g.l0,y],z▸C,B⟩
 .let z:b.a.E8 x p bf=b.a.Gu p x bf:=by rw[v5];rw[Aa (λh=>A h.1)]
  let⟨h',G',⟨s,y⟩,C,B⟩:=HT (h++d) ⟨d,rfl⟩;exact⟨h',G',by simp[Tw,J,A,w1.l0,y],z▸C,B⟩
def aOz(w:BX h bi a o c t G b)(ok:BA b)(s:BW b m)p:∃u,BF cx 200 [Pt bi 0,I p] h (I (b.J2 p)) (h++u):=by
 let⟨n,j,d,f,_,_⟩:=Zk w ok s p;let r:=w.If (u:=d);rw[BS.J2];by_cases q:(b.a.nd p).cont=0
 .refine⟨d,?_⟩;rw[Aa (by simp[q]),Ac,ZU];simp only[abS,f,q,BR,CH,r.l1];refine⟨λl=>?_,λl=>?_⟩;.rw[Ae l]
  .rw[Aa l]
 .let⟨k,i,e,v,_,_⟩:=Zk r ok s (b.a.nd p).cont;refine⟨d++e,?_⟩;rw[Ae q,<-AO,Ac,ZU];simp only[abS,f,v,q,BR,(r.If).l1];refine⟨λl=>?_,λl=>?_⟩;.rw[Ae l]
  .rw[Aa l]
def P2(nm:Aj)(a:Ad)(r:List Ad):Prop:=∃n k j i g f e d b c,r=[n,zk nm,k,j,i,g,f,e,a,d,b,c]
def Pp:vi zs.row= zb [I 0,I 0,S [],ff]:=rfl
variable{nm:Aj}{av:Ad}{l:List Bb}{r:List Ad}{sp p:Int}
def BW.len{k:Nat}(c:BW b k)(hk:3<=k):b.a.len+3<=1000000000:=by have:=c.n;rw[Ar.len];omega
def aBc(w:BX h bi a o c t G b)(ok:BA b)(Z:BW b (m+3))(hr:P2 nm av r)(hv:AK l av)(T:Eg l)(hn:wn nm<=1000)(p sp):
  ∃x Y,BF cx 77 [Pt bi 0,zb r,I sp,I p] h (zb (b.Hv nm l sp).row) x/\BX x bi a o c t Y (b.EL nm l sp p)/\Dx h (BD bi G) x (BD bi Y):=by
 obtain⟨O,N,M,L,K,J,H,E,Uz,Tj,rfl⟩:=hr;by_cases F:x0 sp
 .let⟨D,s,hu⟩:=f150 (h:=h) hv T.1 sp;let Q:=w.If (u:=[.map (ft 11)]);let⟨j,r2⟩:=aOz Q ok Z p;let g:=Q.If (u:=j);let i:∀y∈l.map (Dd sp),x0 y.Bk:=by intro y hy;obtain⟨z,_,rfl⟩:=Bv.1 hy;exact pE
  let⟨x,Y,⟨f,_⟩,C,A⟩:=g.step (R:=λx=>BF cx 199 [Pt a 0,I (b.J2 p),I sp,zk (BS.JL sp nm),D] (h++[.map (ft 11)]++j) (ze [I (b.a.len+1),I 0]) x/\True) (λn m ps B=>let⟨x,n',m',JM,r,wp,v,_⟩:=aOl B Z.V6 (Z.len Ab) (Tt ok) F hu (by rw[Ao];have:=T.1;omega) i;⟨x,n',m',JM,⟨r,trivial⟩,wp,v⟩)
  let d:=f96 hu (λy hy=>by obtain⟨z,hz,rfl⟩:=Bv.1 hy;rw[lW];have:=(T.2 z hz).2;have:AN=140737488355328:=rfl;omega) (by rw[Ao];have:=T.1;omega) sp (BS.JL sp nm);let V:AB (.Fc [I 0,I 0,S [],ff] [(0,1),(1,1),(2,1),(3,1)]) [I (b.a.len+1),I sp,zk (BS.JL sp nm),zq (FO sp (BS.JL sp nm) (l.map (Dd sp)))]=zx (zb (b.Hv nm l sp).row):=by rw[lM];rw[us];rw[Ae F]
  refine⟨x,Y,?_,by rw[BS.EL];rwa[Ae F],(w.De.trans Q.De).trans A⟩;let q:¬sp<0:=by have:=F.1;omega
  let k:¬7<sp:=by have:=F.2;omega
  let P:=λ(y:Item)=>@Item.C5 y;rw[Ac,pM];by_cases U:sp=2
  .let e:BS.JL sp nm=CD nm Ko:=by rw[BS.JL];rw[Ae U]
   rw[e] at f d V;subst U;simp only[abS,AP,Fh,JN w,q,k,Ec,s,D3,CH,(aTl nm).BG rfl rfl,Q.l0,r2,g.l0,BK,f,BR,d,V,P]
  .let e:BS.JL sp nm=nm:=by rw[BS.JL];rw[Aa U]
   rw[e] at f d V;simp only[abS,AP,Fh,JN w,q,k,Ec,s,U,Q.l0,r2,g.l0,BK,f,BR,CH,d,V,P]
 .refine⟨h,G,?_,by rw[BS.EL];rwa[Aa F],.refl⟩;let e:b.Hv nm l sp=zs:=by rw[us];rw[Aa F]
  rw[e,Pp,Ac,pM];rw[x0] at F;by_cases h1:sp<0;.simp only[abS,↓reduceIte,AP,JN w,h1,D3]
  .simp only[abS,↓reduceIte,AP,JN w,h1,Ec,(Ab:7<sp),D3]
def Be{k:Nat}{v:Ad}:Dx h (BD bi G) (put h bi k v) (BD bi G):=⟨Kr▸Af _,λi _ b=>Cq λe=>b (z2 e),λ_ h=> z2 h⟩
def BX.put{k:Nat}{v f j d:Ad}{b':BS}(w:BX h bi a o c t G b)(e:(J4 a b o c t).set k v=J4 a b' f j d)(q:b'.a=b.a)(n:B7 b'.AJ f)(m:Wl b'.tm d):BX (y5 h bi k v) bi a f j d G b':=
 ⟨IL w.hb▸e▸AT w.lt,n,m,q▸w.w.Dt λi p=>Cq λe=>w.nb (e▸p),w.nb⟩
def BX.IB{u:Ad}{l:List Item}(w:BX h bi a o c t G b)(e:B7 l u):BX (y5 h bi 2 u) bi a u c t G {b with AJ:=l}:=w.put rfl rfl e w.t
def BX.KJ{u:Ad}{l:List B9}(w:BX h bi a o c t G b):BX (y5 h bi 3 u) bi a o u t G {b with AX:=l}:=w.put rfl rfl w.o w.t
def BX.st{k:Nat}{v v0:Ad}(w:BX h bi a o c t G b)(f:(J4 a b o c t)[k]?=zx v0)(e:v.cells=[v]):Cv h 1 (Pt bi k) v=zx (y5 h bi k v):=At.store ⟨_,w.hb,f⟩ e
variable{nm:Aj}{av:Ad}{l:List Bb}{r:List Ad}{sp p:Int}
section
variable(w:BX h bi a o c t G b)(ok:BA b)
def aUe(N:BW b (m+4))(R:P2 nm av r)(Y:AK l av)(T:Eg l)(Z:wn nm<=1000)sp:
  ∃P X V,BF cx 163 [Pt bi 0,xv (.func 77) [Pt bi 0] [],zb r,I sp] h (I (b.Lh sp)) P/\BX P bi a X c t V (b.D5 nm l sp)/\Dx h (BD bi G) P (BD bi V):=by
 let⟨v,q⟩:=aFE w ok N 0;let⟨h2,B,O,n,j⟩:=aBc (m:=m+1) (w.If (u:=v)) ok (N.le Ab) R Y T Z (b.place 0).1 sp;obtain⟨M,L,K,J,H,E,D,C,Uz,Tj,rfl⟩:=R;let ho:=N.AJ;by_cases f:x0 sp
 .let U:(b.Hv nm l sp).node=b.a.len+1:=by rw[us];rw[Ae f]
  let Zx:¬(b.a.len+1=0):=by rw[Ar.len];omega
  let Qn:(b.EL nm l sp (b.place 0).1).AJ=b.AJ:=by rw[BS.EL];rw[Ae f]
  let⟨z,A,y,k,s⟩:=bl (x:=b.a.len+1) (p:=(b.place 0).1) (bf:=(b.place 0).2) n (nc (nm:=nm) (at_:=l) (p:=(b.place 0).1) ok f) (Kv (m:=m+1) (nm:=nm) (sp:=sp) (p:=(b.place 0).1) (N.le Ab) T);let⟨Q,d,g⟩:=f95 k.sO (by rw[Qn];omega) (b.Hv nm l sp);refine⟨y5 z bi 2 Q,Q,A,?_,?_,((w.De.trans j).trans s).trans Be⟩
  .let i:b.Lh sp=b.a.len+1:=by rw[BS.Lh];rw[Ae f]
   simp only[Ac,ZP,i,abS,C6,Fh,q,(AR:77<=99999),O,U,Zx,BR,y];let e:=@Item.Sw (b.Hv nm l sp);rw[U] at e;rw[<-e] at d;rw[e] at d⊢;simp[d]
  .have:=k.IB g;rw[BS.D5];rwa[Ae f]
 .refine⟨h2,o,B,?_,?_,w.De.trans j⟩
  .let e:b.Hv nm l sp=zs:=by rw[us];rw[Aa f]
   let i:b.Lh sp=0:=by rw[BS.Lh];rw[Aa f]
   rw[e,Pp] at O;simp[ZP,i,C6,Fh,q,(AR:77<=99999),O,BR,CH]
  .have:b.D5 nm l sp=b.EL nm l sp (b.place 0).1:=by unfold BS.D5 BS.EL;rw[Aa f,Aa f]
   rwa[this]
def aKj(A:BW b (m+4))(x:P2 nm av r)(B:AK l av)(D:Eg l)(C:wn nm<=1000)sp:
  ∃p v u,BF cx 59 [Pt bi 0,zb r,I sp] h (I (b.Lh sp)) p/\BX p bi a v c t u (b.D5 nm l sp)/\Dx h (BD bi G) p (BD bi u):=by
 let⟨p,v,u,d,z,y⟩:=aUe w ok A x B D C sp;exact⟨p,v,u,by obtain⟨q,n,k,j,i,g,f,e,Uz,Tj,rfl⟩:=x;simp[n_,t59,JN w,d],z,y⟩
def ô(B:BW b (m+4))(y:P2 nm av r)(C:AK l av)(E:Eg l)(D:wn nm<=1000):
  ∃p x v,BF cx 57 [Pt bi 0,zb r] h (I (b.a.len+1)) p/\BX p bi a x c t v (b.D5 nm l 1)/\Dx h (BD bi G) p (BD bi v):=by
 let⟨p,x,v,d,A,z⟩:=aKj w ok B y C E D 1;refine⟨p,x,v,?_,A,z⟩;let e:b.Lh 1=b.a.len+1:=by rw[BS.Lh];rw[Ae KP]
 rw[e] at d;obtain⟨s,q,n,k,j,i,g,f,Uz,Tj,rfl⟩:=y;simp[nz,d]
end
end
def Ca(l:List B9)(v:Ad):Prop:=∃a:List CC,a.map (·.c)=l/\DB a v
def YH{U Z:Type}{f:U->Z}{q:Z->Bool}{l:List U}:A7 q (l.map f)=A7 (λx=>q (f x)) l:=by rw[A7];rw[<-WY,List.findIdx?_map,Ao];rfl
def pz{U Z:Type}{f:U->Z}{l:List U}{k:Nat}:(Bl l k).map f=Bl (l.map f) k:=by unfold Bl;simp
def aFG{a:List CC}:since a=mv (a.map (·.c)):=by unfold since mv;rw[YH];rfl
def Wm{n:Int}{a:List CC}:IM n a=Eo n (a.map (·.c)):=by unfold IM Eo;rw[YH];rfl
def vB{nm:Aj}{a:List CC}:PV nm a=D2 nm (a.map (·.c)):=by
 unfold PV D2;rw[<-WY];generalize a.reverse=r;induction r with
 |nil=>rfl
 |cons x r b=>rw[Bn,wh,SE,b,Ao]
def aOA{e:B9}{a:List CC}:VT e a=w_ e (a.map (·.c)).reverse:=by
 rw[VT];rw[<-WY];generalize a.reverse=r;induction r with
 |nil=>rfl
 |cons x r b=>rw[Bn,aDO,w_,b]
def aOB{e:B9}{a:List CC}:PX e a=aa e (a.map (·.c)).reverse:=by
 rw[PX];rw[<-WY];generalize a.reverse=r;induction r with
 |nil=>rfl
 |cons x r b=>rw[Bn,ml,aa,b,Ao]
def bn{e:B9}{b:CC}{a:List CC}(d:b.c=e):(MH e a++[b]).map (·.c)=ae e (a.map (·.c)):=by
 unfold MH ae;rw[aOA,aOB,BJ,aWt,d];split;.rw[pz]
 .rfl
def TF{a:List CC}:(a.take (Ga a)).map (·.c)=Et (a.map (·.c)):=by unfold Et Ga;rw[E1,aFG]
def vC{l:List B9}{a:List CC}(e:a.map (·.c)=l)(h:∀x∈l,wn x.Al<=1000):∀x∈a,iQ x:=by intro x b;have:=h x.c (e▸Bv.2 ⟨x,b,rfl⟩);rw[iQ];omega
section
variable{h E:Ak}{C a:Nat}{o c t:Ad}{G H F:Nat->Prop}{b:BS}{x:Int}{m:Nat}
variable{nm:Aj}{D:Ad}{l:List Bb}{r:List Ad}{sp p:Int}
def aOC(w:BX h C a o c t G b)(V:Ca b.AX c)(ok:E4 b)(p:BW b (m+5))(K:P2 nm D r)(F:AK l D)(L:Eg l)(T:wn nm<=1000):
  ∃E P N H,BF cx 60 [Pt C 0,zb r] h (I (b.a.len+1)) E/\BX E C a P N t H (b.HH nm l)/\Ca (b.HH nm l).AX N/\Dx h (BD C G) E (BD C H):=by
 let⟨M,j,k,i,J,g⟩:=ô (m:=m+1) w ok (p.le Ab) K F L T;let⟨X,d,U⟩:=V;let ha:=p.AX;let Iq:wn X=wn b.AX:=by rw[<-d,Ao]
 let⟨u,e',Z,O,R⟩:=f30 ⟨c,J.vA,U⟩ Ab (vC d λx Q=>((p.DU x Q).2).1) (e:=⟨⟨b.a.len+1,nm,l⟩,D,F⟩) (by rw[iQ];have:=L.1;simp only;omega);refine⟨_,j,u,k,?_,J.KJ,?_,g.trans Be⟩
 .obtain⟨B,A,z,y,v,s,q,n,Uz,Tj,rfl⟩:=K;let Y:¬(b.a.len+1=0):=by rw[Ar.len];omega
  let f:BF cx 164 [Pt C 3,zb [I (b.a.len+1),zk nm,D]] M (ze []) (put M C 3 u):=O;simp[oa,AP,i,Y,BR,AY.cells F,f]
 .exact⟨_,by rw[bn Z,d];rw[BS.HH];simp only;rw[D9],R⟩
end
def aOD:∀x:Fin 64,(yv 8 192|||yv 8 x.val).toNat=192+x.val:=AR
def aOE:∀x:Fin 32,(yv 8 224|||yv 8 x.val).toNat=224+x.val:=AR
def aOF:∀x:Fin 16,(yv 8 240|||yv 8 x.val).toNat=240+x.val:=AR
def aOG:∀x:Fin 64,(yv 8 128|||yv 8 x.val).toNat=128+x.val:=AR
def aOH:∀x:Fin 256,(yv 8 x.val&&& yv 8 63).toNat=x.val%64:=AR
def yo{a b:Int}:AB (z4 .or) [z3 .u8 a,z3 .u8 b]=zx (z3 .u8 (IntKind.u8.wrap (yv 8 a|||yv 8 b).toNat)):=rfl
def aKl{a b:Int}:AB (z4 .and) [z3 .u8 a,z3 .u8 b]=zx (z3 .u8 (IntKind.u8.wrap (yv 8 a&&& yv 8 b).toNat)):=rfl
section
variable{x:Nat}
def aBe(h:x<64):AB (z4 .or) [z3 .u8 192,z3 .u8 x]=zx (z3 .u8 (192+x:Nat)):=by rw[yo,aOD ⟨x,h⟩,y7];congr 2;simp only;omega
def bo(h:x<32):AB (z4 .or) [z3 .u8 224,z3 .u8 x]=zx (z3 .u8 (224+x:Nat)):=by rw[yo,aOE ⟨x,h⟩,y7];congr 2;simp only;omega
def aBf(h:x<16):AB (z4 .or) [z3 .u8 240,z3 .u8 x]=zx (z3 .u8 (240+x:Nat)):=by rw[yo,aOF ⟨x,h⟩,y7];congr 2;simp only;omega
def Nj(h:x<64):AB (z4 .or) [z3 .u8 128,z3 .u8 x]=zx (z3 .u8 (128+x:Nat)):=by rw[yo,aOG ⟨x,h⟩,y7];congr 2;simp only;omega
def Nk(h:x<256):AB (z4 .and) [z3 .u8 x,z3 .u8 63]=zx (z3 .u8 (x%64:Nat)):=by rw[aKl,aOH ⟨x,h⟩,y7];congr 2;simp only;omega
end
def aL{n:Nat}:AB (z4 .shr) [z3 .i32 n,z3 .u64 6]=zx (z3 .i32 (n/64:Nat)):=by rw[show AB (z4 .shr) [z3 .i32 n,z3 .u64 6]=zx (z3 .i32 ((n:Int).fdiv 64)) from rfl,S6 _ Ab];rfl
def fP{n:Nat}:AB (z4 .shr) [z3 .i32 n,z3 .u64 12]=zx (z3 .i32 (n/4096:Nat)):=by rw[show AB (z4 .shr) [z3 .i32 n,z3 .u64 12]=zx (z3 .i32 ((n:Int).fdiv 4096)) from rfl,S6 _ Ab];rfl
def aBg{n:Nat}:AB (z4 .shr) [z3 .i32 n,z3 .u64 18]=zx (z3 .i32 (n/262144:Nat)):=by rw[show AB (z4 .shr) [z3 .i32 n,z3 .u64 18]=zx (z3 .i32 ((n:Int).fdiv 262144)) from rfl,S6 _ Ab];rfl
def XR{k:IntKind}{n:Nat}:AB (.conv .u8) [z3 k n]=zx (z3 .u8 (n%256:Nat)):=by rw[Tk,y7];congr 2
def vD{n:Int}:AB (.conv .u32) [z3 .i32 n]=zx (z3 .u32 (n%4294967296)):=by rw[Tk,IntKind.wrap_u32]
def lZ{n:Nat}(h:n<256):((zh n).toNat)=(n:Int):=by rw[UInt8.toNat_ofNat'];congr 1;omega
def byV(b:UInt8):Ad:= z3 .u8 b.toNat
def MJ{h:Ak}{bs:Aj}(i:bs≠[])(hl:wn bs<=8):Gq h 1 1 zw (.sl 1 (Cs bs))=zx (h++[zu (bs.map byV)],.CK (wn h) 0 (wn bs) 1):=by
 let j:∀bs:Aj,(Cs bs).flatten=bs.map byV:=by
  intro bs;induction bs with
  |nil=>rfl
  |cons c bs f=>show[byV c]++(Cs bs).flatten=_;rw[f];rfl
 cases bs
 .cases i rfl
 next c bs=>
  let hm:=hK;let b:(Cs (c::bs)).length=(c::bs).length:=by simp[Cs]
  let e:Cs (c::bs)=[z3 .u8 c.toNat]::Cs bs:=rfl;let a:Hy h 1 (.sl 1 (Cs (c::bs)))=zx (Cs (c::bs)):=by simp[Hy]
  rw[Gq];rw[a,e];simp only
  rw[<-e,Ae (by rw[b];omega),j,b]
def aUf{h:Ak}r(hr: -2147483648<=r/\r<=2147483647):BF cx 168 [zw,z3 .i32 r] h (.CK (wn h) 0 (I6 r).length 1) (h++[zu ((I6 r).map byV)]):=by
 let A:∀{a:Nat} (s:a<256),AB (.Df 1) [z3 .u8 a]=zx (.sl 1 (Cs [zh a])):=by intro a s;simp only[Cs,Bn,C1,lZ s];rfl
 let KO:∀{a b:Nat} (s:a<256) (t:b<256),AB (.Df 1) [z3 .u8 a,z3 .u8 b]=zx (.sl 1 (Cs [zh a,zh b])):=by intro a b s t;simp only[Cs,Bn,C1,lZ s,lZ t];rfl
 let G:∀{a b c:Nat} (s:a<256) (t:b<256) (d:c<256),AB (.Df 1) [z3 .u8 a,z3 .u8 b,z3 .u8 c]=zx (.sl 1 (Cs [zh a,zh b,zh c])):=by intro a b c s t d;simp only[Cs,Bn,C1,lZ s,lZ t,lZ d];rfl
 let y:∀{a b c f:Nat} (s:a<256) (t:b<256) (d:c<256) (i:f<256),AB (.Df 1) [z3 .u8 a,z3 .u8 b,z3 .u8 c,z3 .u8 f]=zx (.sl 1 (Cs [zh a,zh b,zh c,zh f])):=by intro a b c f s t d i;simp only[Cs,Bn,C1,lZ s,lZ t,lZ d,lZ i];rfl
 let u:AB (.Df 1) [z3 .u8 239,z3 .u8 191,z3 .u8 189]=zx (.sl 1 (Cs [239,191,189])):=rfl;rw[Ac,qN];simp only[By,vD];by_cases E:0<=r
 .obtain⟨n,rfl⟩:=Ke E;let C:(n:Int)%4294967296=(n:Int):=Ab;rw[C];by_cases q:n<128
  .let e:I6 n=[zh n]:=by unfold I6;rw[Ae Ab];rfl
   let j:n%256=n:=Ab;rw[e];simp only[By,T6,(Ab:(n:Int)<=127),XR,j,A (Ab:n<256),MJ (bs:=[UInt8.ofNat n]) AF AF]
  .let v:BF cx 312 [zw,z3 .i32 n] h (.CK (wn h) 0 (I6 n).length 1) (h++[zu ((I6 n).map byV)]):=by
    rw[Ac,aC];simp only[By,vD,C];by_cases p:n<2048
    .let e:I6 n=[zh (192+n/64),zh (128+n%64)]:=by unfold I6;rw[Aa Ab,Ae Ab];rfl
     rw[e];let x:n/64%256=n/64:=Ab;let w:n%256%64=n%64:=Ab;simp only[By,T6,(Ab:(n:Int)<=2047),aL,XR,x,aBe (Ab:n/64<64),Nk (Ab:n%256<256),w,Nj (Ab:n%64<64),KO (Ab:192+n/64<256) (Ab:128+n%64<256),MJ (bs:=[UInt8.ofNat (192+n/64),UInt8.ofNat (128+n%64)]) AF AF]
    .by_cases o:n<65536/\¬(55296<=n/\n<57344)
     .let e:I6 n=[zh (224+n/4096),zh (128+n/64%64),zh (128+n%64)]:=by unfold I6;rw[Aa Ab,Aa Ab,Ae Ab];rfl
      rw[e];let x:n/4096%256=n/4096:=Ab;let w:n/64%256%64=n/64%64:=Ab;let a3:n%256%64=n%64:=Ab;let g:=MJ (h:=h) (bs:=[UInt8.ofNat (224+n/4096),UInt8.ofNat (128+n/64%64),UInt8.ofNat (128+n%64)]) AF AF;let B:=G (Ab:224+n/4096<256) (Ab:128+n/64%64<256) (Ab:128+n%64<256);by_cases m:n<55296;.simp only[abS,(Ab:¬(n:Int)<=2047),(Ab:(n:Int)<55296),aL,fP,XR,x,bo (Ab:n/4096<32),Nk (Ab:n/64%256<256),w,Nj (Ab:n/64%64<64),Nk (Ab:n%256<256),a3,Nj (Ab:n%64<64),B,g]
      .simp only[abS,(Ab:¬(n:Int)<=2047),(Ab:¬(n:Int)<55296),(Ab:(57343:Int)<n),(Ab:(n:Int)<=65535),aL,fP,XR,x,bo (Ab:n/4096<32),Nk (Ab:n/64%256<256),w,Nj (Ab:n/64%64<64),Nk (Ab:n%256<256),a3,Nj (Ab:n%64<64),B,g]
     .by_cases l:65536<=n/\n<=1114111
      .let e:I6 (n:Int)=[zh (240+n/262144),zh (128+n/4096%64),zh (128+n/64%64),zh (128+n%64)]:=by unfold I6;rw[Aa Ab,Aa Ab,Aa Ab,Ae Ab];rfl
       rw[e];let F:n/262144%256=n/262144:=Ab;let x:n/4096%256%64=n/4096%64:=Ab;let w:n/64%256%64=n/64%64:=Ab;let a3:n%256%64=n%64:=Ab;let g:=MJ (h:=h) (bs:=[UInt8.ofNat (240+n/262144),UInt8.ofNat (128+n/4096%64),UInt8.ofNat (128+n/64%64),UInt8.ofNat (128+n%64)]) AF AF;let D:=y (Ab:240+n/262144<256) (Ab:128+n/4096%64<256) (Ab:128+n/64%64<256) (Ab:128+n%64<256);simp only[abS,(Ab:¬(n:Int)<=2047),(Ab:¬(n:Int)<55296),(Ab:(57343:Int)<n),(Ab:¬(n:Int)<=65535),(Ab:(65535:Int)<n),(Ab:(n:Int)<=1114111),aL,fP,aBg,XR,F,aBf (Ab:n/262144<16),Nk (Ab:n/4096%256<256),x,Nj (Ab:n/4096%64<64),Nk (Ab:n/64%256<256),w,Nj (Ab:n/64%64<64),Nk (Ab:n%256<256),a3,Nj (Ab:n%64<64),D,g]
      .let e:I6 (n:Int)=[239,191,189]:=by unfold I6;rw[Aa Ab,Aa Ab,Aa Ab,Aa Ab]
       rw[e];let g:=MJ (h:=h) (bs:=[239,191,189]) AF AF;by_cases k:n<65536;.simp only[abS,(Ab:¬(n:Int)<=2047),(Ab:¬(n:Int)<55296),(Ab:¬(57343:Int)<n),(Ab:¬(65535:Int)<n),u,g]
       .simp only[abS,(Ab:¬(n:Int)<=2047),(Ab:¬(n:Int)<55296),(Ab:(57343:Int)<n),(Ab:¬(n:Int)<=65535),(Ab:(65535:Int)<n),(Ab:¬(n:Int)<=1114111),u,g]
   simp only[abS,(Ab:¬(n:Int)<=127),v]
 .let e:I6 r=[239,191,189]:=by unfold I6;rw[Aa Ab,Aa Ab,Aa Ab,Aa Ab]
  let g:=MJ (h:=h) (bs:=[239,191,189]) AF AF;let v:BF cx 312 [zw,z3 .i32 r] h (.CK (wn h) 0 (I6 r).length 1) (h++[zu ((I6 r).map byV)]):=by rw[e,Ac,aC];simp only[abS,vD,(Ab:¬(r%4294967296)<=2047),(Ab:¬(r%4294967296)<55296),(Ab:(57343:Int)<r%4294967296),(Ab:¬(r%4294967296)<=65535),(Ab:(65535:Int)<r%4294967296),(Ab:¬(r%4294967296)<=1114111),u,g]
  simp only[abS,(Ab:¬(r%4294967296)<=127),v]
def Wn r:(I6 r).length<=4:=by rw[I6];split<;>(try split)<;>(try split)<;>(try split)<;>simp
def bq{l:List Int}{bf:Int}(c:bf≠0->bf∈l):∃i,i<=wn l/\(bf=0->i=wn l)/\(bf≠0->Ck (λy=>decide (bf=y)) 0 l=i)/\XH l bf=if i=0 then zc else l[i-1]?:=by
 by_cases a:bf=0
 .refine⟨wn l,Af _,λ_=>rfl,λh=>absurd a h,?_⟩;rw[XH];rw[Ae a,Mx];split;.rename_i h;rw[Lp Ab]
  .rfl
 .let⟨k,j,e,g,d,f⟩:=u9 (c a);refine⟨k,Ab,λh=>absurd h a,λ_=>e,?_⟩;rw[XH];rw[Aa a,d,Mx,Az,CE Ab];split;.rename_i h;subst h;simp
  .rw[Cw];rw[Ae Ab]
def vE{s u:Aj}(h:wn s+wn u<=2000000000):AB (zj .add) [zk s,zk u]=zx (zk (s++u)):=by have:wn s+wn u<=9223372036854775807:=Ab;simp[AB,wZ,this]
def mA:∀s:Aj,(Cs s).flatten=s.map byV
 |[]=>rfl
 |c::s=>by show[byV c]++(Cs s).flatten=_;rw[mA s];rfl
section
variable{h h':Ak}{bi a:Nat}{o c t:Ad}{G G' F:Nat->Prop}{b:BS}{x:Int}{m:Nat}
variable{nm:Aj}{av:Ad}{l:List Bb}{r:List Ad}{sp p:Int}
def vF{k d:Int}{s:Aj}(ok:E4 b)(f:BW b (m+1))(i:k=5\/k=6)(j:b.a.has d/\(b.a.nd d).kind=1)(h:wn s<=100000):E4 {b with a:=b.a.add {kind:=k,Cd:=d,data:=s}}/\BW {b with a:=b.a.add {kind:=k,Cd:=d,data:=s}} m:=
 ⟨ok.IN (pD ok.ok (by rw[Ar.len];omega) j i) XI,f.Kh (LW (AZ _) h)⟩
def aOI(w:BX h bi a o c t G b)(ok:E4 b)(rm:BW b (m+5))r(hr: -2147483648<=r/\r<=2147483647):
  ∃h' G',BF cx 61 [Pt bi 0,z3 .i32 r] h (ze []) h'/\BX h' bi a o c t G' (b.Nf r)/\Dx h (BD bi G) h' (BD bi G'):=by
 let⟨f,D⟩:=aFE w ok rm 0;have hbf:=aq (b:=b) (t:=0);let w1:=w.If (u:=f);rw[BS.Nf];generalize(b.place 0).1=p at*;generalize(b.place 0).2=bf at*;let⟨K,V,d,r2,X,_⟩:=Zk w1 ok rm p;let Z:=w1.If (u:=d);let x2:Dx h (BD bi G) (h++f++d) (BD bi G):=w.De.trans w1.De;rw[BS.KH];by_cases F:(b.a.nd p).kind=4\/(b.a.nd p).kind=2;rotate_left
 .refine⟨_,G,?_,?_,x2⟩;.let k4:¬(b.a.nd p).kind=4:=λe=>F (z2 e);let k2:¬(b.a.nd p).kind=2:=λe=>F (zf e);simp[XN,JN w,D,r2,BR,k4,k2]
  .rw[Aa F];exact Z
 let hp:b.a.has p:=by apply Mw;intro h;rw[HO h] at F;simp at F
 rw[Ae F];let⟨i,hi,pj,Za,hpv⟩:=bq (l:=(b.a.nd p).Bj) (bf:=bf) (λh=>by have:=hbf h;let h2:=(ok.ok.Ha bf this.1 (by rw[this.2];have:=hp.1;omega)).2;rwa [this.2] at h2);rw[hpv];let Tb:=rm.V6.Bj ok.ok p;let H:=aKc (h:=h++f++d) (x:=bf) X.UP Tb;have g:=aUf (h:=h++f++d) r hr;have wT:=Wn r;generalize hs:I6 r=s at*;let f3:LH (h++f++d++[zu (s.map byV)]) (.CK (h++f++d).length 0 (wn s) 1)=zx (h++f++d++[.CV],.sl 1 (Cs s)):=by let Iq:=mA s;have:=Kn (h:=h++f++d++[.cells (s.map byV)]) (id:=(h++f++d).length) (z:=1) (AH:=Cs s) (by intro q hq;obtain⟨y,_,rfl⟩:=Bv.1 hq;rfl) (by rw[Iq];simp);rw[show(Cs s).length=wn s by simp[Cs]] at this;rw[this];congr 2;rw[BO _ _ (Af _),Dy];rfl
 let b3:AB .aQ [.sl 1 (Cs s)]=zx (zk s):=by simp[AB,aS,UE]
 let A:=Z.If (u:=[.CV]);let x3:Dx h (BD bi G) (h++f++d++[.CV]) (BD bi G):=x2.trans Z.De;let vG:=ok.ok.Cd p hp;let new:∀h3,(∃u,h3=h++f++d++[.CV]++u)->∃h' J G',BF cx 170 [Pt a 0,I (b.a.nd p).Cd,zk s] h3 (ze [I (b.a.len+1),I 0]) J/\BF cx 153 [Pt bi 0,I (b.a.len+1),I p,I bf] J (ze []) h'/\BX h' bi a o c t G' {b with a:=(b.a.add {kind:=5,Cd:=(b.a.nd p).Cd,data:=s}).E8 (b.a.len+1) p bf}/\Dx h (BD bi G) h' (BD bi G'):=by
  rintro _ ⟨u,rfl⟩;let w4:=A.If (u:=u);let⟨J,G4,⟨C,_⟩,w5,x5⟩:=w4.step (A':=b.a.add (Om 5 (b.a.nd p).Cd s).x) (R:=λh'=>BF cx 170 [Pt a 0,I (b.a.nd p).Cd,.str s] (h++f++d++[.CV]++u) (.tuple [I (b.a.len+1),I 0]) h'/\True) (λn m ps S=>let⟨h',r,wp,o1,l1⟩:=aTX (s:=s) S rm.V6 (by have:=rm.n;rw[Ar.len];omega) vG;⟨h',_,_,_,⟨r,trivial⟩,wp,S.TD rfl o1 l1⟩)
  let⟨ok5,rm5⟩:=vF (m:=m) (k:=5) (s:=s) ok (rm.le Ab) (z2 rfl) vG Ab;let⟨h',G',B,N,L⟩:=bl (x:=b.a.len+1) (p:=p) (bf:=bf) w5 ok5.ba rm5;exact⟨h',J,G',C,B,N,(x3.trans A.De).trans (x5.trans L)⟩
 let kl:=(X.UP (h:=h++f++d)).len;by_cases hz:i=0
 .subst hz;let⟨h',J,G',C,B,N,L⟩:=new (h++f++d++[.CV]) ⟨[],AF⟩;simp only[reduceIte];refine⟨h',G',?_,N,L⟩;rw[Ac,XN];obtain F|F:=F<;>by_cases h0:bf=0
  all_goals first|(rw[<-pj h0] at kl;simp only[abS,JN w,D,r2,F,BR,CH,Jq,kl,Aw h0,g,f3,b3,(AR:¬(0:Int)<((0:Nat):Int)),A.l0,C,CH,B];done)|(rw[Za h0] at H;simp only[abS,JN w,D,r2,F,BR,CH,Jq,kl,h0,g,f3,b3,(AR:¬(0:Int)<((0:Nat):Int)),A.l0,C,CH,B,H])
 .obtain⟨j,rfl⟩:∃j,i=j+1:=⟨i-1,Ab⟩;let hj:j<(b.a.nd p).Bj.length:=Ab;rw[Aa hz,EY,Ap hj];simp only
  have ht:=ok.ok.OL p hp _ (AV hj);let⟨q,Q,Y⟩:=(X.UP (h:=h++f++d++[.CV])).at_ j hj;let⟨K7,V7,T,W,_,_⟩:=Zk A ok rm (b.a.nd p).Bj[j];let M:=A.If (u:=T);let⟨q',P,O⟩:=(X.UP (h:=h++f++d++[.CV]++T)).at_ j hj;rw[Q,BN] at P;subst P;let U:AB (.int .sub) [I (j+1:Nat),I 1]=zx (I j):=have:=IK (n:=j+1) Ab Ab;zv this
  generalize hte:(b.a.nd p).Bj[j]=v at*;by_cases E:(b.a.nd v).kind=5
  .rw[Ae E];let gq:=rm.data v;let⟨h8,G8,⟨r8,_⟩,w8,x8⟩:=M.step (A':=b.a.VY v ((b.a.nd v).data++s)) (R:=λh'=>BF cx 169 [Pt a 0,I v,.str ((b.a.nd v).data++s)] (h++f++d++[.CV]++T) (I 0) h'/\True) (λn m ps S=>let⟨h',JM,r,wp,xp⟩:=aTY (s:=(b.a.nd v).data++s) S rm.V6 ht.1 E;⟨h',n,m,JM,⟨r,trivial⟩,wp,xp⟩)
   refine⟨h8,G8,?_,w8,(x3.trans A.De).trans x8⟩;rw[Ac,XN];obtain F|F:=F<;>by_cases h0:bf=0
   all_goals first|(rw[<-pj h0] at kl;simp only[abS,JN w,D,r2,F,BR,CH,Jq,kl,Aw h0,g,f3,b3,(Ab:(0:Int)<((j+1:Nat):Int)),U,Q,Y,W,E,M.l0,O,vE (Ab:(b.a.nd v).data.length+s.length<=2000000000),CH,r8];done)|(rw[Za h0] at H;simp only[abS,JN w,D,r2,F,BR,CH,Jq,kl,h0,g,f3,b3,(Ab:(0:Int)<((j+1:Nat):Int)),U,Q,Y,W,E,M.l0,O,vE (Ab:(b.a.nd v).data.length+s.length<=2000000000),CH,r8,H])
  .rw[Aa E];let⟨h',J,G',C,B,N,L⟩:=new _ ⟨T,rfl⟩;refine⟨h',G',?_,N,L⟩;rw[Ac,XN];obtain F|F:=F<;>by_cases h0:bf=0
   all_goals first|(rw[<-pj h0] at kl;simp only[abS,JN w,D,r2,F,BR,CH,Jq,kl,Aw h0,g,f3,b3,(Ab:(0:Int)<((j+1:Nat):Int)),U,Q,Y,W,E,M.l0,C,CH,B];done)|(rw[Za h0] at H;simp only[abS,JN w,D,r2,F,BR,CH,Jq,kl,h0,g,f3,b3,(Ab:(0:Int)<((j+1:Nat):Int)),U,Q,Y,W,E,M.l0,C,CH,B,H])
def On{s:Aj}{p bf x:Int}{Q T:Ak}(l:(¬x=0/\p=x/\bf=0/\T=Q)\/(x=0/\BF cx 165 [Pt bi 0,I 0] Q (ze [I p,I bf]) T))
  (U:BX Q bi a o c t G b) (i:Dx Q (BD bi G) T (BD bi G)) (w:BX T bi a o c t G b) (ok:E4 b) (X:BW b (m+1)) (hs:wn s<=100000):
  ∃F O,BF cx 62 [Pt bi 0,zk s,I x] Q (ze []) F/\BX F bi a o c t O {b with a:=uu b.a s p bf}/\Dx Q (BD bi G) F (BD bi O):=by
 let⟨K,V,q,Y,L,_⟩:=Zk w ok X p;let d:=w.If (u:=q);rw[uu];by_cases h:Mt (b.a.nd p).kind
 .rw[Ae h];let Z:b.a.has p:=by
   by_cases Z:b.a.has p;.exact Z
   .rw[HO Z] at h;rw[Mt] at h;simp at h
  let vG:=ok.ok.Cd p Z;let⟨M,N,⟨y,_⟩,H,D⟩:=d.step (R:=λF=>BF cx 171 [Pt a 0,I (b.a.nd p).Cd,zk s] (T++q) (ze [I (b.a.len+1),I 0]) F/\True) (λn m ps j=>let⟨F,r,wp,J,l1⟩:=aOc j X.V6 (by have:=X.n;rw[Ar.len];omega) vG;⟨F,_,_,_,⟨r,trivial⟩,wp,j.TD rfl J l1⟩)
  let⟨g,e⟩:=vF ok X (zf rfl) vG hs;let⟨F,O,v,E,C⟩:=bl (x:=b.a.len+1) (p:=p) (bf:=bf) H g.ba e;refine⟨F,O,?_,E,(i.trans w.De).trans (D.trans C)⟩;rw[Ac,pI];rcases l with⟨P,rfl,rfl,rfl⟩|⟨P,f⟩
  .rcases h with h|h|h<;>simp[JN U,Y,h,BR,CH,Jq,d.l0,y,v,P]
  .rcases h with h|h|h<;>simp[JN U,Y,h,BR,CH,Jq,d.l0,y,v,Aw P,f]
 .rw[Aa h];refine⟨_,G,?_,d,i.trans w.De⟩;rw[Mt] at h;let B:¬(b.a.nd p).kind=1:=Ab;let A:¬(b.a.nd p).kind=2:=Ab;let z:¬(b.a.nd p).kind=4:=Ab;rw[Ac,pI];rcases l with⟨P,rfl,rfl,rfl⟩|⟨P,f⟩
  .simp only[abS,JN U,Y,BR,B,A,z,P]
  .simp only[abS,JN U,Y,BR,B,A,z,Aw P,f]
section
variable(w:BX h bi a o c t G b)
def aOK(ok:E4 b)(i:BW b (m+1))(s:Aj)(l:wn s<=100000)x:
  ∃j n,BF cx 62 [Pt bi 0,zk s,I x] h (ze []) j/\BX j bi a o c t n (b.DL s x)/\Dx h (BD bi G) j (BD bi n):=by
 rw[BS.DL];by_cases f:x=0;.rw[Ae f];let⟨d,e⟩:=aFE w ok i 0;exact On (zf ⟨f,e⟩) w w.De (w.If) ok i l
 .rw[Aa f];exact On (z2 ⟨f,rfl,rfl,rfl⟩) w .refl w ok i l
def aKn(ok:BA b)(F:BW b (m+4))(s:P2 nm av r)(K:AK l av)(M:Eg l)(L:wn nm<=1000)st:
  ∃q J x,BF cx 63 [Pt bi 0,zb r,I st] h (ze []) q/\BX q bi a J c t x (b.DM nm l st)/\Dx h (BD bi G) q (BD bi x):=by
 let⟨p,d,e,u,n,i⟩:=ô w ok F s K M L;let g:BX (put p bi 18 (I st)) bi a d c t e {b.D5 nm l 1 with sw:=st}:=n.put rfl rfl n.o n.t;let f:BX (put (put p bi 18 (I st)) bi 5 (I (b.D5 nm l 1).mode)) bi a d c t e {b.D5 nm l 1 with sw:=st,Kt:=(b.D5 nm l 1).mode}:=g.put rfl rfl n.o n.t;exact⟨_,d,e,by obtain⟨H,E,D,C,B,A,z,y,Uz,Tj,rfl⟩:=s;simp[ob,JN w,u,n.l4,n.st (k:=18) (v:= I st) rfl rfl,g.st (k:=5) (v:= I (b.D5 nm l 1).mode) rfl rfl,f.st (k:=4) (v:=I 8) rfl rfl],(f.put rfl rfl n.o n.t:BX (put (put (put p bi 18 (I st)) bi 5 (I (b.D5 nm l 1).mode)) bi 4 (I 8)) bi a d c t e (b.DM nm l st)),((i.trans Be).trans Be).trans Be⟩
def aOL(r:BW b m):
  ∃j u,BF cx 64 [Pt bi 0] h (ze []) j/\BX j bi a u c t G b.BT/\Dx h (BD bi G) j (BD bi G):=by
 let ho:=r.AJ;let d:=aNR w.sA (Ab:wn b.AJ<=1000000000) 3 (ws:=[wP]) Cc AR;let n:AB (.Df 1) [S [112]]=zx (.sl 1 ([wP].map BY)):=DK rfl AR;rw[BS.BT];by_cases i:HG (AS [wP]) (GZ 3) b.AJ.reverse=z9;.rw[Ae i];rw[i] at d;let⟨g,s,p⟩:=aJ7 w.sO Ab wP;let E7:=Tp (b:=CN wP) (a:=Cl) (l:=b.AJ);let⟨e,f,v⟩:=f66 (w.IB p).sO DO (ws:=[wP]) Cc AR;exact⟨_,e,by simp only[Ac,pJ,By,JN w,n,d,s,f],(w.IB p).IB v,Be.trans Be⟩
 .rw[Aa i];rw[show HG (AS [wP]) (GZ 3) b.AJ.reverse=zr by simpa using i] at d;exact⟨h,o,by simp only[Ac,pJ,By,JN w,n,d],w,.refl⟩
end
end
section
variable{h X:Ak}{V a:Nat}{o c t:Ad}{G G' F:Nat->Prop}{b:BS}{x:Int}{m:Nat}
variable{nm:Aj}{av:Ad}{l:List Bb}{r:List Ad}{sp p:Int}
def Oo{U:Type}{l:List U}{n:Nat}(a:n<wn l):(l.take (n+1)).reverse=l[n]::(l.take n).reverse:=by rw[AG a,MQ];rfl
def aKo(w:BX h V a o c t G b)(E:BW b m)(nm:Aj):
  ∃X v,BF cx 66 [Pt V 0,zk nm] h (ze []) X/\BX X V a v c t G (b.CZ nm)/\Dx h (BD V G) X (BD V G):=by
 let ho:=E.AJ;let H:Ev cx 66 [Pt V 0,zk nm] h λr X=>r= ze []/\∃v,BX X V a v c t G (b.CZ nm)/\Dx h (BD V G) X (BD V G):=by
  simp only[Ev,og,abS,JN w,XP w.sA,Db (wn b.AJ) 1];refine Bm (λn:Nat=>[I (n-1)]) (λn x=>n<=wn b.AJ/\(b.AJ.reverse.find? λi=>AS [nm] i||Dc i)=((b.AJ.take n).reverse.find? λi=>AS [nm] i||Dc i)/\x=h) (λn=>n) (wn b.AJ) rfl ⟨Af _,by rw[Bx],rfl⟩ ?_;rintro n x ⟨hn,p,rfl⟩;cases n
  .let e:b.CZ nm=b:=by rw[vt];rw[p];rfl
   simp only[abS,(Ab:¬0<=((0:Nat):Int)-1)];exact⟨_,rfl,rfl,o,by rwa[e],.refl⟩
  next n=>
   let j:=Zg w.sA n;rw[Gg Ab] at j;let z:=py (ws:=[nm]) Cc AF b.AJ[n] x;rw[Oo Ab,Ed] at p;generalize hi:b.AJ[n]=i at*;rw[Item.row] at z;simp only[abS,Fh,(Ab:(n+1:Nat)-1=(n:Int)),Of,j,(DK rfl AF:AB (.Df 1) [zk nm]=zx (.sl 1 ([nm].map BY)))];let f:BF cx 156 [zb i.row,.sl 1 ([nm].map BY)] x (zq (AS [nm] i)) x:=z;rw[f,PS,CW];refine⟨λy=>?_,λy=>?_⟩
   .let⟨u,s,A⟩:=aJ7 w.sO Ab nm;let E7:=Tp (b:=CN nm) (a:=Cl) (l:=b.AJ);let⟨k,q,J⟩:=aNY (w.IB A).sO DO i.node;simp only[By,s,q];refine⟨_,rfl,rfl,k,?_,Be.trans Be⟩;let e:b.CZ nm={b with AJ:=Ii i.node (Dg (CN nm) Cl b.AJ)}:=by rw[vt];simp[p,y,KL,BV]
    exact e▸(w.IB A).IB J
   .simp only[y,E0] at p;rw[(aFq i.Bk i.name).BG rfl rfl];rw[PS,CW];refine⟨λg=>?_,λg=>?_⟩
    .let d:Dc i=z9:=g;rw[d] at p;let e:b.CZ nm=b:=by simp[vt,p,y,Cy,DW]
     simp only[By];exact⟨_,rfl,rfl,o,by rwa[e],.refl⟩
    .let d:Dc i=zr:=g;rw[d] at p;simp[Db (n) 1];exact zn n rfl ⟨Ab,p,rfl⟩ Ab
 obtain⟨r,X,F,rfl,v,D,B⟩:=H.ret;exact⟨X,v,F,D,B⟩
def aOM(w:BX h V a o c t G b)(r:BW b m){k:Nat}(hk:k<=wn b.AJ):BF cx 329 [Pt V 0,I k] h (I (v7 (b.AJ.take k))) h:=by
 let ho:=r.AJ;simp only[Ac,tI,By,Db (k) 1];refine Bm (λn:Nat=>[I 0,I (n-1)]) (λn l=>n<=k/\((b.AJ.take k).reverse.find? λi=>AS [AE] i||AS [Gw] i)=((b.AJ.take n).reverse.find? λi=>AS [AE] i||AS [Gw] i)/\l=h) (λn=>n) k rfl ⟨Af _,rfl,rfl⟩ ?_;rintro n l ⟨hn,e,rfl⟩;cases n
 .simp[(Ab:¬0<=((0:Nat):Int)-1)];rw[v7];rw[e];rfl
 next n=>
  let f:=Zg w.sA n;rw[Gg Ab] at f;rw[Oo Ab,Ed] at e;simp only[abS,(Ab:(n+1:Nat)-1=(n:Int)),Of,f,(DK rfl AR:AB (.Df 1) [S AE]=zx (.sl 1 ([AE].map BY))),py (ws:=[AE]) Cc AR b.AJ[n] l,(DK rfl AR:AB (.Df 1) [S Gw]=zx (.sl 1 ([Gw].map BY))),py (ws:=[Gw]) Cc AR b.AJ[n] l,Db (n) 1];rw[CW];refine⟨λj=>?_,λj=>?_⟩;.simp only[j,KL] at e;simp[v7,e,j,BV]
  .simp only[j,E0] at e;rw[CW];refine⟨λd=>?_,λd=>?_⟩;.rw[d] at e;simp[v7,e,j,Cy,DW]
   .rw[d] at e;exact zn n rfl ⟨Ab,e,rfl⟩ Ab
def qa(r:Aj×Int):List Ad:=[zk r.1,I r.2]
def vH{z:Nat}{AH:List (List Ad)}{b:List Ad}(e:b=AH.map vi)(h:∀r∈AH,wn r=z)(i:wn AH*z<=16777216):AB (.Df z) b=zx (.sl z AH):=by
 subst e;let f:(AH.map vi).all (λa=>wn a.cells==z)=z9:=by simp[Ad.cells];exact h
 let d:(AH.map vi).map (·.cells)=AH:=by rw[List.map_map];exact List.map_id _
 rw[vz,f,d];simp[i]
def aBh{a:List Ad}(e:a=(KW.map qa).map vi):AB (.Df 2) a=zx (.sl 2 (KW.map qa)):=vH e (λr b=>by obtain⟨x,_,rfl⟩:=Bv.1 b;rfl) AR
def aON:BF cx 328 [] h (.sl 2 (KW.map qa)) h:=by simp only[Ac,tH,abS,zy,AP];exact(Cx (λz=>lE z λv=>[v]=[Ad.sl 2 (KW.map qa)]) (aBh rfl)).mpr (by rw[PR])
def TG{s:Aj}{i:Item}:AS [s] i=decide (i.Bk=1/\i.name=s):=by rw[AS];simp
def õ{i:Item}{k:Nat}:b.Iv i k=match KW.find? λr=>AS [r.1] i with
  |zx r=>zx r.2
  |zc=>if AS [MZ] i then zx (v7 (b.AJ.take k)) else if AS [wTd,wTh] i&&decide (0<k) then zx 15 else if AS [AE] i then zx (b.tm.getLast?.getD 7) else if AS [Ub] i&&decide (0<k) then zx 4 else if AS [D6] i then zx (if b.head=0 then 3 else 6) else if k=0 then zx 7 else zc:=by
 rw[BS.Iv];by_cases a:i.Bk=1
 .rw[Ae a];let e:(λr:Aj×Int=>AS [r.1] i)=λr=>decide (r.1=i.name):=by funext r;rw[TG,DG];exact⟨λh=>h.2.symm,λh=>⟨a,h.symm⟩⟩
  rw[e];cases hf:KW.find? λr=>decide (r.1=i.name)
  .simp[AS,a,OE,A0,DF,K0,Bs,Cj]
  next r=>rfl
 .rw[Aa a];let e:(λr:Aj×Int=>AS [r.1] i)=λ_=>zr:=by funext r;rw[TG,Ag (λh=>a h.1)]
  rw[e];simp[(AR:KW.find? (λ_=>zr)=zc),AS,a,iT,Ec,Cy,DW,iL]
def aOO(w:BX h V a o c t G b)(rm:BW b m)(i:Item){k:Nat}(hk:k<=wn b.AJ):BF cx 184 [Pt V 0,zb i.row,I k] h (ze [I ((b.Iv i k).getD 7),zq (b.Iv i k).isSome]) h:=by
 have R:=rm.tm;let u_:AY 2 (KW.map qa) (.sl 2 (KW.map qa)):= .mk;let C:=λF hw=>py (ws:=F) Cc hw i h;rw[õ,Ac,rA];let hlen:wn KW=9:=rfl;let Q:=u_.CQ;rw[hlen] at Q;simp only[By,↓reduceIte,Fh,aON,Q];refine Bm (λn:Nat=>[I 0,ff,I n]) (λn h1=>n<=9/\(KW.find? λr=>AS [r.1] i)=((KW.drop n).find? λr=>AS [r.1] i)/\h1=h) (λn=>9 -n) 0 rfl ⟨AZ _,rfl,rfl⟩ ?_;rintro n h1 ⟨hn,U,rfl⟩;obtain Y|EC:=AQ n 9
 .let em:AB (.Df 1) [.str KW[n].1]=some (.sl 1 ([KW[n].1].map BY)):=DK rfl AF;rw[AI Y,Ed] at U;simp only[By,Nat.reduceLeDiff,↓reduceIte,T6,(Ab:(n:Int)<((9:Nat):Int)),u_.BL Y,qa,em,C [KW[n].1] AF,BB n];rw[CW];refine⟨λh2=>?_,λh2=>?_⟩;.rw[h2] at U;rw[U];simp
  .rw[h2] at U;exact zn (n+1) rfl ⟨Y,U,rfl⟩ Ab
 .have T:n=9:=by omega
  subst T;let U:(KW.find? λr=>AS [r.1] i)=none:=U;rw[U];let q:AB (.Df 1) [S a25]=some (.sl 1 ([MZ].map BY)):=DK rfl AR;let s:AB (.Df 1) [S [116,100],S [116,104]]=some (.sl 1 ([wTd,wTh].map BY)):=DK rfl AR;let u:AB (.Df 1) [S a2z]=some (.sl 1 ([AE].map BY)):=DK rfl AR;let J:AB (.Df 1) [S a2I]=some (.sl 1 ([Ub].map BY)):=DK rfl AR;let L:AB (.Df 1) [S a2y]=some (.sl 1 ([D6].map BY)):=DK rfl AR;let f:=C [MZ] AR;let d:=C [wTd,wTh] AR;let g:=C [AE] AR;let y:=C [Ub] AR;let B:=C [D6] AR;let rs:=aOM w rm hk;let Z:=(w.t.1.UP (h:=h1));let j:¬((9:Nat):Int)<((9:Nat):Int):=AR;let l6:=w.l6;let H:b.tm≠[]->∃p,AB (.int .sub) [I b.tm.length,I 1]=zx (I (b.tm.length-1:Nat))/\AB (.EM 1) [t,I (b.tm.length-1:Nat)]=zx p/\A8 h1 zc p=zx (I (b.tm.getLast?.getD 7)):=by intro hne;let hpos:=Du.2 hne;let⟨p,E,D⟩:=Z.at_ (wn b.tm-1) Ab;exact⟨p,IK hpos Ab,E,by rw[D,Mx,Ap Ab];rfl⟩
  by_cases l:AS [MZ] i=z9;.rw[l] at f;simp only[abS,↓reduceIte,j,q,f,rs,l,EF,wR]
  .let l:AS [MZ] i=zr:=zv l
   rw[l] at f;by_cases A:0<k
   .let N:¬k=0:=by omega
    let z:¬(k:Int)=0:=Ab;let v:(0:Int)<(k:Int):=Ab;cases g2:AS [wTd,wTh] i<;>rw[g2] at d;rotate_left;.simp only[By,↓reduceIte,j,q,f,s,d,A,v,l,Kf]
    cases x:AS [AE] i<;>rw[x] at g;rotate_left
    .by_cases X:b.tm=[];.simp only[By,↓reduceIte,j,q,f,s,d,u,g,A,v,l,Kf,l6,Z.len,X,Int.natCast_zero,aGF,fy]
     .let⟨p,E,D,M⟩:=H X;let GF:¬wn b.tm=0:=λe=>X (NJ.1 e);simp only[By,↓reduceIte,j,q,f,s,d,u,g,A,v,l,Kf,l6,Z.len,(Ab:(0:Int)<(b.tm.length:Int)),E,D,M]
    cases P:AS [Ub] i<;>rw[P] at y;rotate_left;.simp only[By,↓reduceIte,j,q,f,s,d,u,g,J,y,A,v,l,Kf]
    all_goals cases O:AS [D6] i<;>rw[O] at B
    all_goals first
     |simp only[By,↓reduceIte,j,q,f,s,d,u,g,J,y,L,B,A,N,z,v,l,Kf];done
     |by_cases K:b.head=0
      .simp only[By,↓reduceIte,j,q,f,s,d,u,g,J,y,L,B,A,z,v,l,Kf,w.l7,K]
      .simp only[By,↓reduceIte,j,q,f,s,d,u,g,J,y,L,B,A,z,v,l,Kf,w.l7,K]
   .have N:k=0:=by omega
    subst N;let z:((0:Nat):Int)=0:=rfl;by_cases x:AS [AE] i=z9
    .rw[x] at g;cases g2:AS [wTd,wTh] i<;>rw[g2] at d<;>by_cases X:b.tm=[];all_goals first
      |simp only[By,↓reduceIte,j,q,f,s,d,u,g,z,l,x,Kf,l6,Z.len,X,aGF,fy,DT];done
      |let⟨p,E,D,M⟩:=H X
       have GF:¬b.tm.length=0:=λe=>X (NJ.1 e);simp only[By,↓reduceIte,j,q,f,s,d,u,g,z,l,x,Kf,l6,Z.len,(Ab:(0:Int)<(b.tm.length:Int)),E,D,M,DT]
    .let x:AS [AE] i=zr:=zv x
     rw[x] at g;cases g2:AS [wTd,wTh] i<;>rw[g2] at d<;>cases P:AS [Ub] i<;>rw[P] at y<;>cases O:AS [D6] i<;>rw[O] at B<;>by_cases K:b.head=0;all_goals simp only[By,↓reduceIte,j,q,f,s,d,u,g,J,y,L,B,z,l,x,Kf,w.l7,K,DT]
end
end Go.Am
end
open Nat renaming succ_le_succ→wb
open Go.Am.DH renaming CV→vv
open Go.Am.Item renaming node→wy
open Go.Am.At renaming load→y4
open Go.Am.BS renaming C0→xi,plain→wz,Mj→wl,HW→vx,A4→η,ER→v6,Cu→uw,Gk→ut
open Go.Am.Dz renaming exit→vm
section
namespace Go.Am
open Go
section
variable{h h':Ak}{bi a:Nat}{o c t:Ad}{G G' F:Nat->Prop}{b:BS}{x:Int}{m:Nat}
variable{nm:Aj}{av:Ad}{l:List Bb}{r:List Ad}{sp p:Int}
def BX.aFH(w:BX h bi a o c t G b):A8 h (zx 4) (Pt bi 10)=zx (zb b.ctx.row):=by rw[A8,w.hb];rfl
def BX.br(w:BX h bi a o c t G b)v:BX (y5 h bi 4 (I v)) bi a o c t G {b with mode:=v}:=w.put rfl rfl w.o w.t
def BW.mode{v:Int}(a:BW b m):BW {b with mode:=v} m:=⟨a.n,a.at_,a.data,a.AJ,a.AX,a.tm,a.DU,a.YD⟩
def aBj(w:BX h bi a o c t G b)(F:BW b m):
  ∃y,BF cx 68 [Pt bi 0] h (ze []) y/\BX y bi a o c t G b.HQ/\Dx h (BD bi G) y (BD bi G):=by
 let ho:=F.AJ;let O:Ev cx 68 [Pt bi 0] h λr y=>r= ze []/\BX y bi a o c t G b.HQ/\Dx h (BD bi G) y (BD bi G):=by
  rw[Ev];let q:=w.br 7;simp only[oh,abS,JN w,w.st (k:=4) (v:=I 7) rfl rfl,XP q.sA,Db (b.AJ.length) 1];refine Bm (λn:Nat=>[I (n-1)]) (λn J=>n<=wn b.AJ/\b.Nx (wn b.AJ)=b.Nx n/\J=y5 h bi 4 (I 7)) (λn=>n) (wn b.AJ) rfl ⟨Af _,rfl,rfl⟩ ?_;rintro n J ⟨hn,x,rfl⟩;cases n
  .let e:b.HQ={b with mode:=7}:=by rw[BS.HQ];rw[x];rfl
   simp only[abS,(Ab:¬0<=((0:Nat):Int)-1)];exact⟨_,rfl,rfl,e▸q,Be⟩
  next n=>
   let s:n<wn b.AJ:=Ab;let i1:(n+1:Nat)-1=(n:Int):=Ab;let g:=Zg q.sA n;rw[show Dl ({b with mode:=7}:BS).AJ n=b.AJ[n] from Gg s] at g;let M:∀i:Item,BF cx 184 [Pt bi 0,zb i.row,I n] (y5 h bi 4 (I 7)) (ze [I ((b.Iv i n).getD 7),zq (b.Iv i n).isSome]) (y5 h bi 4 (I 7)):=λi=>aOO q F.mode i DO;let d:=M (b.Fo n);let B:∀v,Cv (y5 h bi 4 (I 7)) 1 (Pt bi 4) (I v)=zx (y5 (y5 h bi 4 (I 7)) bi 4 (I v)):=λv=>q.st rfl rfl;let e:b.Nx (n+1)=match b.Iv (b.Fo n) n with|zx m=>m|zc=>b.Nx n:=rfl
   rw[e] at x;let z:=q.l9;let E:=Db (n) 1;cases H:b.Iv (b.Fo n) n
   .rw[H] at d x;by_cases D:n=0
    .let A:((n:Int)=0)=True:=Aw Ab;cases u:b.NR
     .let f:b.Fo n=b.AJ[n]:=by unfold BS.Fo;rw[Aa (by simp[u]),A3,Ap s];rfl
      rw[f] at d;rw[show({b with mode:=7}:BS).NR=zr from u] at z;simp only[By,Fh,i1,g,z,q.aFH,d,B,Kf,Of,A,E];exact zn n rfl ⟨Ab,x,rfl⟩ Ab
     .let f:b.Fo n=b.ctx:=by unfold BS.Fo;rw[Ae ⟨D,u⟩]
      rw[f] at d;rw[show({b with mode:=7}:BS).NR=z9 from u] at z;simp only[By,Fh,i1,g,z,q.aFH,d,B,Kf,Of,A,E];exact zn n rfl ⟨Ab,x,rfl⟩ Ab
    .let f:b.Fo n=b.AJ[n]:=by rw[BS.Fo];rw[Aa (by simp[D]),A3,Ap s];rfl
     rw[f] at d;let A:¬(n:Int)=0:=Ab;simp only[By,Fh,i1,g,d,B,Kf,Of,A,E];exact zn n rfl ⟨Ab,x,rfl⟩ Ab
   next v=>
    rw[H] at d x;let e:b.HQ={b with mode:=v}:=by rw[BS.HQ];rw[x]
    let j:BX (y5 (y5 h bi 4 (I 7)) bi 4 (I v)) bi a o c t G b.HQ:=e▸q.br v
    by_cases D:n=0
    .let A:((n:Int)=0)=True:=Aw Ab;cases u:b.NR
     .let f:b.Fo n=b.AJ[n]:=by unfold BS.Fo;rw[Aa (by simp[u]),A3,Ap s];rfl
      rw[f] at d;rw[show({b with mode:=7}:BS).NR=zr from u] at z;simp only[By,Fh,i1,g,z,q.aFH,d,B,Kf,Of,A];exact⟨_,rfl,rfl,j,Be.trans Be⟩
     .let f:b.Fo n=b.ctx:=by unfold BS.Fo;rw[Ae ⟨D,u⟩]
      rw[f] at d;rw[show({b with mode:=7}:BS).NR=z9 from u] at z;simp only[By,Fh,i1,g,z,q.aFH,d,B,Kf,Of,A];exact⟨_,rfl,rfl,j,Be.trans Be⟩
    .let f:b.Fo n=b.AJ[n]:=by rw[BS.Fo];rw[Aa (by simp[D]),A3,Ap s];rfl
     rw[f] at d;simp only[By,Fh,i1,g,d,B,Kf,Of,(Ab:¬(n:Int)=0)];exact⟨_,rfl,rfl,j,Be.trans Be⟩
 obtain⟨r,y,N,rfl,L,K⟩:=O.ret;exact⟨y,N,L,K⟩
def ö{a u:Ak}{V:Ad}{L:List Bb}{N:Nat}(j:N=wn a)(g:Kw (a++u) V L)(i:Up N V)(hb:wn L<=1000000000)(y:Bb):
  ∃f d,Gq (a++u) 3 40 V (.sl 3 [y.row])=zx (a++f,d)/\Kw (a++f) d (L++[y])/\Up N d:=by
 subst j;let cR:=hK;rcases g with⟨rfl,rfl⟩|⟨c,rfl,n,hl⟩
 .refine⟨u++[zu (([y]:List Bb).map zl).flatten],.CK (a++u).length 0 1 3,by rw[<-AO];rfl,zf ⟨(a++u).length,rfl,AF,AF⟩,λc k e=>by injection e with e;rw[<-e,As];omega⟩
 .let h:=JZ (b:=40) (v:= .sl 3 [y.row]) (aKa L) AR n .mk AF (by rw[Ao];simp;omega);rw[Ao] at h;let e:(a++u).set c .CV++[zu (L.map zl++[y.row]).flatten]=a++(u.set (c-wn a) .CV++[zu ((L++[y]).map zl).flatten]):=by rw[BO _ _ (i c _ rfl),AO,BJ];rfl
  rw[e] at h;let m:(a++(u.set (c-wn a) vv++[zu ((L++[y]).map zl).flatten]))=(a++u.set (c-wn a) vv)++[zu ((L++[y]).map zl).flatten]:=by rw[AO]
  refine⟨_,_,h,zf ⟨(a++u).length,AF,?_,?_⟩,λc k e=>by injection e with e;rw[<-e,As];omega⟩;.rw[m,<-(AF:(a++u.set (c-wn a) vv).length=(a++u).length),Bu (Af _),Dy];rfl
  .rw[m];simp only[As,Bw,Bg,BH];omega
def aOP(y c:Bb)(h:Ak):BF cx 186 [zb c.row,.CO y.row] h (zq (decide (D1 ⟨0,y.name,y.value⟩=D1 c))) h:=by
 simp only[Ac,rB,zl,zl,By];refine⟨λa=>?_,λa=>?_⟩;.congr 2;rw[DG];simp[D1,a];exact İ
 .rw[Ag (λe=>a (by simp[D1] at e;exact e.1.symm))]
def Bb.mB{y:Bb}:(⟨0,y.name,y.value⟩:Bb).row=[I 0,zk y.name,zk y.value]:=rfl
def XS(k:Int×Aj):∀{l a:List Bb},(HP a l).any (λz=>decide (k=D1 z))=(a++l).any λz=>decide (k=D1 z)
 |[],a=>by simp[HP]
 |y::l,a=>by
  rw[HP];split
  .rename_i h;rw[XS k,YW,YW,Iy];by_cases b:k=D1 y;.subst b;rw[h];rfl
   .simp[b]
  .rw[XS k,AO];rfl
def aBk(k:Int×Aj)(l:List Bb):(CL l).any (λz=>decide (k=D1 z))=l.any λz=>decide (k=D1 z):=XS k
def TH{l:List Bb}{y:Bb}:CL (l++[y])=if(CL l).any (λz=>decide (D1 y=D1 z)) then CL l else CL l++[y]:=fJ
def aOQ(w:BX h bi a o c t G b)(ok:E4 b)(rm:BW b (m+1000))(hr:P2 nm av r)(hv:AK l av)(hl:Eg l)x:
  ∃p G',BF cx 69 [Pt bi 0,zb r,I x] h (ze []) p/\BX p bi a o c t G' (b.ER l x)/\Dx h (BD bi G) p (BD bi G'):=by
 let⟨K1,V1,d,B,_,_⟩:=Zk w ok rm x;let w1:=w.If (u:=d);obtain⟨Y,X,W,U,T,S,Q,P,Uz,Tj,rfl⟩:=hr;by_cases R:(b.a.nd x).kind=4;rotate_left;.exact⟨h++d,G,by simp[pL,JN w,B,BR,R],by rw[v6];rwa[Aa R],w.De⟩
 let⟨K2,Z,A,r2,_,f,g⟩:=Zk w1 ok rm x;let hx:b.a.has x:=by
  by_cases hp:b.a.has x;.exact hp
  .rw[HO hp] at R;simp at R
 let Zu:=rm.at_ x;let jb:=hl.1;let Jy:Ev cx 69 [Pt bi 0,zb [Y,zk nm,X,W,U,T,S,Q,av,P,Uz,Tj],I x] h λr p=>r= ze []/\∃G',BX p bi a o c t G' (b.ER l x)/\Dx h (BD bi G) p (BD bi G'):=by
  simp only[Ev,pL,abS,JN w,B,r2,BR,R,xs hv];refine Bm (λs:Ad×Nat=>[s.1,I s.2]) (λs h1=>∃u L,h1=h++d++u/\s.2<=wn l/\Kw h1 s.1 L/\Up (h++d).length s.1/\CL L=CL ((b.a.nd x).Al++wz (l.take s.2))/\(∀y∈L,x0 y.Bk)/\wn L<=(b.a.nd x).Al.length+s.2) (λs=>wn l-s.2) (Z,0) rfl ⟨A,(b.a.nd x).Al,rfl,AZ _,f,g,?_,?_,AF⟩ ?_;.simp[wz]
  .exact λy v=>(ok.ok.Vd x hx).asp y v
  rintro⟨V,n⟩ h1 ⟨u,L,rfl,hn,f,g,j,hs,E7⟩;simp only at hn f g j E7;obtain q|EC:=AQ n (wn l)
  .let E:=wu (k:= ys) hv q;rw[zl] at E;let i:=aHs f.in_ Ab (F:= xv (.func 186) [] [.CO l[n].row]) ⟨_,_,rfl,AR,λc=>aOP l[n] c _⟩;rw[zl] at i;let⟨O,V',g1,g2,g3⟩:=ö rfl f g Ab ⟨0,l[n].name,l[n].value⟩;rw[Bb.mB] at g1;let em:AB (.Df 3) [zb [I 0,zk l[n].name,zk l[n].value]]=zx (.sl 3 [[I 0,zk l[n].name,zk l[n].value]]):=rfl;let H:CL ((b.a.nd x).Al++wz (l.take (n+1)))=CL (L++[⟨0,l[n].name,l[n].value⟩]):=by rw[AG q,wz,BJ,<-AO,aWt,TH,TH,j];rfl
   let D:CL (L++[⟨0,l[n].name,l[n].value⟩])=if L.any (λz=>decide (D1 ⟨0,l[n].name,l[n].value⟩=D1 z)) then CL L else CL L++[⟨0,l[n].name,l[n].value⟩]:=by rw[TH,aBk]
   simp only[abS,zy,AP,(Ab:n<(l.length:Int)),E,i,em,g1,BB n];rw[CW];refine⟨λh2=>?_,λh2=>?_⟩
   .refine zn (V',n+1) rfl ⟨O,_,rfl,q,g2,g3,H.symm,?_,ES⟩ DO;intro y v;obtain v|v:=AA.1 v
    .exact hs y v
    .simp at v;subst v;exact⟨DO,DO⟩
   .let h2:(L.any λz=>decide (D1 ⟨0,l[n].name,l[n].value⟩=D1 z))=z9:=zv h2
    rw[Ae h2] at D;exact zn (V,n+1) rfl ⟨u,L,rfl,q,f,g,by rw[H,D],hs,DO⟩ DO
  .have Rg:n=wn l:=by omega
   subst Rg;rw[Bx] at j;simp only[abS,(Ab:¬wn l<(l.length:Int)),(w1.If).l0];let⟨C,G3,i,M,J⟩:=(w1.If).step λn m ps K=>let⟨p,JM,f1,f2,f3⟩:=aOe K rm.V6 hx R f.in_ Ab hs;⟨p,n,m,JM,f1,f2,f3⟩
   let e:b.ER l x={b with a:=b.a.KV x L}:=by rw[v6];rw[Ae R];unfold Ar.KV;rw[j]
   simp only[By,i];refine⟨_,rfl,rfl,G3,?_,?_⟩;.rw[e];exact M
   .exact(w.De.trans w1.De).trans J
 obtain⟨r,p,hr,rfl,G',w',x'⟩:=Jy.ret;exact⟨p,G',hr,w',x'⟩
end
section
variable{h U:Ak}{T a:Nat}{o c t:Ad}{G G' F:Nat->Prop}{b b':BS}{x:Int}{m:Nat}
variable{nm:Aj}{av:Ad}{l:List Bb}{r:List Ad}{sp p:Int}
def BW.sub(c:BW b m)(d:b'.a=b.a)(f:b'.AJ.Sublist b.AJ)(h:b'.AX.Sublist b.AX)(ht:wn b'.tm<=wn b.tm):BW b' m:=
 ⟨d▸c.n,d▸c.at_,d▸c.data,by have:=c.AJ;have:=f.length_le;omega,by have:=c.AX;have:=h.length_le;omega,by have:=c.tm;omega,λe k=>c.DU e (h.subset k),λi j=>c.YD i (f.subset j)⟩
def aBl{v:Ad}{l:List Int}(b:UQ l v)(hb:wn l<=1000000000)(h:Ak):∃u,BF cx 110 [v] h u h/\Wl l u:=by
 let hm:=hK;let c:AB (.FT 1) []=zx (.FT 1):=rfl;obtain b|⟨rfl,rfl⟩:=b
 .obtain rfl|⟨rfl,j⟩:=b
  .cases l
   .exact⟨.FT 1,by simp[Tv,C1,show AB (.GH zr .sl) [.sl 1 [],zw]=zx (zq zr) from rfl,c,show AB (.append 1 8) [.FT 1,.sl 1 []]=zx (.FT 1) from rfl],zf ⟨rfl,rfl⟩,nofun⟩
   next x l=>
    let f:((x::l).map BM).length*8<=AN:=by rw[Ao];omega
    let d:AB (.append 1 8) [.FT 1,.sl 1 ((x::l).map BM)]=zx (.sl 1 ((x::l).map BM)):=by rw[Bn] at f⊢;simp only[AB,Jd,BV,Ee];rw[Ae ⟨trivial,f⟩]
    exact⟨_,by simp only[Ac,Tv,By,show AB (.GH zr .sl) [.sl 1 ((x::l).map BM),zw]=zx (zq zr) from rfl,c,d],z2 .mk,λe=>by injection e with _ e;simp at e⟩
  .exact⟨zw,by simp[Tv,show AB (.GH zr .sl) [zw,zw]=zx (zq z9) from rfl],z2 (zf ⟨rfl,j⟩),nofun⟩
 .exact⟨.FT 1,by simp[Tv,show AB (.GH zr .sl) [.FT 1,zw]=zx (zq zr) from rfl,c,show AB (.append 1 8) [.FT 1,.FT 1]=zx (.FT 1) from rfl],zf ⟨rfl,rfl⟩,nofun⟩
def BX.fQ{u:Ad}{l:List Int}(w:BX h T a o c t G b)(d:Wl l u):BX (y5 h T 6 u) T a o c u G {b with tm:=l}:=w.put rfl rfl w.o d
def mC:AB (.Df 1) [S a2z]=zx (.sl 1 ([AE].map BY)):=DK rfl AR
section
variable(w:BX h T a o c t G b)
def aOR(hc:Ca b.AX c)(x:BW b m):
  ∃U o' c' t',BF cx 70 [Pt T 0] h (ze []) U/\BX U T a o' c' t' G b.Cu/\Ca b.Cu.AX c'/\Dx h (BD T G) U (BD T G):=by
 let ho:=x.AJ;let Rn:=x.AX;let N:=x.tm;let y:=aFs w.sA Ab AE;by_cases r:A7 (AS [AE]) b.AJ<0;.exact⟨h,o,c,t,by simp[eW,JN w,y,r],by rw[uw];rwa[Ae r],by rw[uw];rwa[Ae r],.refl⟩
 let⟨s,r2,Rx⟩:=aTB w.sO Ab;let l1:(Dg CY Cl b.AJ).length<=wn b.AJ:=Tp;let⟨f,E,JK⟩:=f66 (w.IB Rx).sO DO (Cc (ws:=[AE])) AR;let C:=(w.IB Rx).IB JK;let⟨fs,Gj,X⟩:=hc;let Iq:wn fs=wn b.AX:=by rw[<-Gj,Ao]
 let⟨d,D,A⟩:=f65 (show Xy _ T 3 fs from⟨c,C.vA,X⟩) Ab;let g:=C.KJ (u:=d) (l:=Et b.AX);let Pu:Ca (Et b.AX) d:=⟨_,by rw[TF,Gj],A⟩;let e:b.Cu=BS.HQ {b with AJ:=Dg Cl (AS [AE]) (Dg CY Cl b.AJ),AX:=Et b.AX,tm:=b.tm.dropLast}:=by rw[uw];rw[Aa r]
 let sO:=(Co (p:=Cl) (q:=AS [AE]) (l:=Dg CY Cl b.AJ)).trans Co;by_cases F:b.tm=[]
 .let j:BX (put (put (put h T 2 s) T 2 f) T 3 d) T a f d t G {b with AJ:=Dg Cl (AS [AE]) (Dg CY Cl b.AJ),AX:=Et b.AX,tm:=b.tm.dropLast}:=by
   have:b.tm.dropLast=b.tm:=by rw[F];rfl
   rwa[this]
  let⟨P,v,i,J⟩:=aBj j (x.sub rfl sO (B8 _ _) AF);refine⟨P,f,d,t,?_,e▸i,e▸Pu,((Be.trans Be).trans Be).trans J⟩;let z:AB (wf zr) [t]=zx (I 0):=by rw[w.t.1.len,F];rfl
  simp only[Ac,eW,abS,JN w,y,r,r2,mC,E,D,g.l6,z,v,Kf]
 .let B:=Du.2 F;let⟨R,Q,Z⟩:=vk (w.t.1.ne F) (k:= ys) (n:=wn b.tm-1) Ab;rw[<-Lr] at Z;let⟨L,v,Y⟩:=aBl (z2 Z) ES (put (put (put h T 2 s) T 2 f) T 3 d);let⟨O,M,K,H⟩:=aBj (g.fQ Y) (x.sub rfl sO (B8 _ _) AF);exact⟨O,f,d,L,by simp only[Ac,eW,abS,JN w,y,r,r2,mC,E,D,g.l6,w.t.1.len,(Ab:0<(wn b.tm:Int)),IK B (Ab:wn b.tm<9223372036854775807),Q,v,g.st (k:=6) rfl Y.1.cells,M,Kf],e▸K,e▸Pu,(((Be.trans Be).trans Be).trans Be).trans H⟩
def aOS:∃U,BF cx 71 [Pt T 0] h (ze []) U/\BX U T a o c t G {b with stop:=z9}/\Dx h (BD T G) U (BD T G):=⟨_,by simp[oj,JN w,w.st (k:=19) (v:=tt) rfl rfl],w.put (k:=19) rfl rfl w.o w.t,Be⟩
def aFK(j:BW b m):∃U l,BF cx 74 [Pt T 2] h (zb b.pC.row) U/\BX U T a l c t G b.Gk/\Dx h (BD T G) U (BD T G):=by
 let ho:=j.AJ;let p:A8 h zc (Pt T 2)=zx o:=w.ld 2;unfold ut BS.pC;by_cases f:wn b.AJ<2;.exact⟨h,o,by simp[Ae f,eX,AP,XP w.sA,(Ab:(wn b.AJ:Int)<2)];rfl,Ae f▸w,.refl⟩
 .let⟨u,e,i⟩:=vk w.o (k:= ys) (n:=wn b.AJ-1) Ab;refine⟨_,u,?_,by rw[Aa f];exact w.IB i,Be⟩;simp only[Aa f,Ac,eX,abS,AP,Fh,XP w.sA,(Ab:¬(wn b.AJ:Int)<2),f39 w.sA Ab,p,xs w.o,IK (Ab:0<wn b.AJ) (Ab:wn b.AJ<9223372036854775807),e,w.st (k:=2) rfl (AY.cells i)]
end
end
def Wo{U:Type}(b:U->List Ad)(f:U->Ak->Prop)(Z:U->Nat)(i:Nat)(e:U->Ak->Prop)(s:U):HN:=
 λx c d=>(x= .normal/\∃a,c=b a/\f a d/\Z a<Z s)\/(x= vm i/\∃a,c=b a/\e a d)
section
variable{U:Type}{a:U->List Ad}{j HT:U->Ak->Prop}{Z:U->Nat}{i:Nat}{s:U}{f:List Ad}{h:Ak}(d:U)(e:f=a d)
def Wo.next(c:j d h)(b:Z d<Z s):Wo a j Z i HT s .normal f h:= z2 ⟨rfl,d,e,c,b⟩
end
def Wo.HT{U:Type}{a:U->List Ad}{j d:U->Ak->Prop}{Z:U->Nat}{i:Nat}{s:U}{c:List Ad}{h:Ak}(b:U)(e:c=a b)(f:d b h):Wo a j Z i d s (vm i) c h:= zf ⟨rfl,b,e,f⟩
def DD{C:Hw}{Q:HN}{h:Ak}{U:Type}{f i:Nat}{b:List Ad}{c:List Ad->IT}{k:Dz->List Ad->IT}(a:U->List Ad)(d:U->Ak->Prop)(Z:U->Nat)(j:U->Ak->Prop)(e:U)(r:b=a e)(o:d e h)
  (round:∀s h,d s h->W C (c (a s)) (Wo a d Z i j s) h) (n:∀s h,j s h->W C (k (vm i) (a s)) Q h):W C (.loop f b c k) Q h:=by
 refine Bm a d Z e r o λs h m=>W.mono (round s h m) ?_;rintro x vs q (hn|⟨rfl,l,rfl,p⟩);.exact z2 hn
 .exact zf ⟨AF,n l q p⟩
def mD{h:Ak}{d z:Nat}{AH:List (List Ad)}(a:∀r∈AH,wn r=z)(f:h[d]?=zx (zu AH.flatten)){i:Nat}(c:i<wn AH):A8 h (zx z) (Pt d (i*z))=zx (zb AH[i]):=by
 let e:i*z+z<=wn AH.flatten:=by rw[GX a];have:=Er z (Ab:i+1<=wn AH);rwa [Ch,GO] at this
 simp only[A8,f,OY];rw[Ae e,Km a,AI c,Dk,Dh (a _ (AV c)▸Af _),AL (a _ (AV c)▸Af _)]
section
variable{h Q:Ak}{P a:Nat}{o c t:Ad}{G R F:Nat->Prop}{b b':BS}{x:Int}{m:Nat}
variable{nm:Aj}{av:Ad}{l:List Bb}{r:List Ad}{sp p:Int}
def aBm(e:CC)(h:Ak):∃r,BF cx 176 [zb e.row] h (zb r) h/\P2 e.c.name e.v r:=⟨_,by simp[qU,zg,AP,AY.cells e.ok],I 2,ff,S [],ff,S [],ff,ff,ff,S [],z3 .i32 0,rfl⟩
def mE:∀{l:List B9} {b:BS} {m:Nat},BW b (m+4*wn l)->(∀e∈l,wn e.name<=1000/\Eg e.Al)->BW (BS.IZ l b).2 m
 |[],b,m,r,_=>by simpa[BS.IZ] using r
 |e::l,b,m,r,a=>by rw[BS.IZ];exact mE (Ji (r.le ES) (a e AF).2 (a e AF).1) λx d=>a x (by simp[d])
def Wp:b.Ng<=wn b.AX:=by rw[BS.Ng];rcases DJ (q:=b.settled) (l:=b.AX) with⟨h,_⟩|⟨n,h1,h2,_⟩<;>omega
structure vI(h:Ak)(P a)(t:Ad)(G0:Nat->Prop)(b:BS)(fs:List CC)(id m k)(h1:Ak):Prop where
 le:k<=wn fs
 low:b.Ng<=k
 ex:∃(o:Ad) (G:Nat->Prop) (b1:BS) (Jj:List CC),BX h1 P a o (.CK id 0 (wn fs) 3) t G b1/\E4 b1/\BW b1 (m+4*(wn fs-k))/\h1[id]?=zx (zu (Jj.map zg).flatten)/\wn Jj=wn fs/\Jj.drop k=fs.drop k/\
  η b={(BS.IZ (b.AX.drop k) b1).2 with AX:=(Jj.take k).map (·.c)++(BS.IZ (b.AX.drop k) b1).1}/\¬BD P G id/\Dx h (BD P G0) h1 (BD P G)
def BX.vJ(w:BX h P a o c t G {b with AX:=b.AX}):BX h P a o c t G b:=w
def SM{c:Ak}{a:Nat}{v d:Ad}(j:At h a 3 v)(i:LH h v=zx (c,d))(b:c[a]?=h[a]?):Mz h 3 (Pt a 0)=zx (y5 c a 3 d):=by let⟨cs,f,e⟩:=j;rw[f] at b;rw[Mz];simp[f,B1,e,i,CR,b];rw[IL b]
def yp{v:Ad}{l:List CC}(a:DB l v):LH h v=zx (h,v):=by obtain rfl|⟨rfl,_⟩:=a<;>rfl
def aOT{v:Ad}(a:DB [] v)(h:Ak):∃u,BF cx 175 [v] h u h/\DB [] u:=by
 let d:=Sq (h:=h) (b:=48) (zf rfl) a;obtain rfl|⟨rfl,h0⟩:=a
 .exact⟨.sl 3 [],by rw[Ac,V9];rw[C1] at d;simp[C1,show AB (.GH zr .sl) [.sl 3 [],zw]=zx (zq zr) from rfl,show AB (.Df 3) []=zx (.sl 3 []) from rfl,d],.mk⟩
 .exact⟨zw,by simp[V9,show AB (.GH zr .sl) [zw,zw]=zx (zq z9) from rfl],zf ⟨rfl,rfl⟩⟩
def vI.init(w:BX h P a o c t G b)(ok:E4 b)(j:BW b (m+4*wn b.AX)){d:List CC}(i:d.map (·.c)=b.AX):
  vI h P a t G b d (wn h) m b.Ng (y5 (h++[zu (d.map zg).flatten]) P 3 (.CK (wn h) 0 (wn d) 3)):=by
 let Iq:wn b.AX=wn d:=by rw[<-i,Ao]
 let hk:=Wp (b:=b);let f:=Nat.ne_of_gt w.lt;refine⟨Ab,Af _,o,G,b,d,((w.If).KJ).vJ,ok,j.le Ab,?_,rfl,rfl,?_,?_,w.De.trans Be⟩;.rw[Cq f];simp
 .unfold η;simp only;rw[E1,i]
 .rintro(rfl|k);.exact f rfl
  .cases (DT _) (w.w.lt k)
def vI.step{o:List CC}{p k:Nat}{E:Ak}(Gj:o.map (·.c)=b.AX)(J:∀e∈b.AX,wn e.name<=1000/\Eg e.Al)(hi:wn h<=p)(L:k<wn o)(i:vI h P a t G b o p m k E):
  ∃(r:List Ad) (B:Ak) (n:Int),A8 E zc (Pt P 3)=zx (.CK p 0 (wn o) 3)/\A8 E (zx 3) (Pt p (k*3))=zx (zb o[k].row)/\BF cx 176 [zb o[k].row] E (zb r) E/\BF cx 57 [Pt P 0,zb r] E (I n) B/\A8 B zc (Pt P 3)=zx (.CK p 0 (wn o) 3)/\
   Cv B 1 (Pt p (k*3)) (I n)=zx (y5 B p (k*3) (I n))/\vI h P a t G b o p m (k+1) (y5 B p (k*3) (I n)):=by
 let⟨C,D,M,x,T,Y,U,R,ZE,V,qd,Z,g⟩:=i.ex;let H:k<wn x:=Ab;let Iq:wn b.AX=wn o:=by rw[<-Gj,Ao]
 let q:x[k]=o[k]:=by have:=Cx (λl=>l[0]?) V;simp[CF,BE] at this;rw[Ap H,Ap L] at this;exact EZ this
 let w:b.AX[k]=o[k].c:=by simp[<-Gj,C4]
 let f:=mD (QL x) R (zv H);rw[C4,q] at f;let J:=J o[k].c (w▸AV Ab);let⟨r,z,hr⟩:=aBm o[k] E;let⟨B,A,y,r2,u,d⟩:=ô (m:=m+4*(wn o-(k+1))) T Y.ba (U.le Ab) hr o[k].ok J.2 J.1;let Â:=(Aq.1 R).1;let KB:=d.old p Â Z▸R
 let X:¬BD P y p:=λN=>by
  obtain N|N:=d.BD p N
  .exact Z N
  .omega
 let s:At B p (k*3) (I o[k].c.node):=⟨_,KB,by have:=Ni (k:=0) (QL x) AR (by rw[Cp,Ap H,q];rfl);rw[BE] at this;rw[this];rfl⟩
 let Q:CC:=⟨{o[k].c with node:=M.a.len+1},o[k].v,o[k].ok⟩
 let K:(x.map zg).flatten.set (k*3) (I (M.a.len+1))=((x.set k Q).map zg).flatten:=by have:=P1 (k:=0) (v:= I (M.a.len+1)) (QL x) (zv H) AR;rw[BE] at this;rw[Fa,B0,Ae (by rw[GX (QL x),Ao];omega)];rw[AO] at this;rwa[show Q.row=((x.map zg)[k]'(zv H)).set 0 (I (M.a.len+1)) by rw[C4,q];rfl]
 refine⟨r,B,M.a.len+1,T.l3,f,z,r2,u.l3,s.store rfl,L,by have:=i.low;omega,A,y,_,x.set k Q,u.Dt λj O=>Cq λe=>X (e▸O),SH Y,Ji (U.le Ab) J.2 J.1,?_,by rwa[Bw],?_,?_,X,by rw[Kr];exact(g.trans d).len,λj O hn=>(Cq Ab).trans ((g.trans d).old j O hn),(g.trans d).BD⟩;.rw[IL KB,AT (by have:=d.len;omega),K]
 .rw[j2 (Ps k)];have:=Cx (λl=>l.drop 1) V;simpa[FJ] using this
 .rw[qd,AI Ab,w,BS.IZ];simp only
  congr 1
  rw[AG (by rwa[Bw]),aMi,BJ,Rr (Af k),AO];rfl
def aOV(w:BX h P a o c t G b)(hc:Ca b.AX c)(ok:E4 b)(rm:BW b (m+4*wn b.AX)):
  ∃Q V U R,BF cx 65 [Pt P 0] h (ze []) Q/\BX Q P a V U t R b.A4/\Ca b.A4.AX U/\Dx h (BD P G) Q (BD P R):=by
 let ho:=rm.AJ;let⟨x,Z,F⟩:=hc;let Iq:wn b.AX=wn x:=by rw[<-Z,Ao]
 let Jy:Ev cx 65 [Pt P 0] h λr Q=>r= ze []/\∃V U R,BX Q P a V U t R b.A4/\Ca b.A4.AX U/\Dx h (BD P G) Q (BD P R):=by
  simp only[Ev,oe,abS,JN w,w.l3,xs F];refine DD (i:=0) (λn:Nat=>[I n]) (λn p=>n<=wn x/\A7 b.settled b.AX=A7 b.settled (b.AX.take n)/\p=h) (λn=>n) (λn p=>n=b.Ng/\p=h) (wn x) rfl ⟨Af _,by rw[<-Iq,Bx],rfl⟩ ?_ ?_
  .rintro n p ⟨hn,z,rfl⟩;cases n
   .simp[(AR:¬0<(0:Nat))];exact .HT 0 rfl ⟨by unfold BS.Ng;rw[z];rfl,rfl⟩
   next n=>
    let D:n<b.AX.length:=Ab;let Wi:n<x.length:=Ab;rw[Ih D] at z;let i1:=IK (n:=n+1) (Ab:0<n+1) (Ab:n+1<9223372036854775807);rw[EY] at i1;let d:=wu (k:= .i64) F Wi;let en:x[n].c.node=b.AX[n].node:=by simp[<-Z,C4]
    let f:=jT w.sA Ab b.AX[n].node;let g:b.settled b.AX[n]=z9->n+1=b.Ng:=by intro hs;rw[Ae hs] at z;unfold BS.Ng;rw[z];omega
    rw[zg,en] at d;simp only[abS,(Ab:(0:Int)<((n+1:Nat):Int)),w.l3,i1,d,f,BR];refine⟨λp=>⟨λh2=>?_,λh2=>?_⟩,λp=>?_⟩
    .let hs:b.settled b.AX[n]=zr:=by unfold BS.settled;rw[Ag];omega
     rw[Aa (by rw[hs];decide)] at z;exact .next n rfl ⟨Ab,z,rfl⟩ Ab
    .exact .HT (n+1) rfl ⟨g (by unfold BS.settled;rw[Ah];omega),rfl⟩
    .exact .HT (n+1) rfl ⟨g (by unfold BS.settled;rw[Ah];omega),rfl⟩
  .rintro n p ⟨rfl,O⟩;rw[O];by_cases X:x=[]
   .subst X;let z:b.AX=[]:=Z.symm;let g:b.Ng=0:=by have:=Wp (b:=b);rw[z] at this;exact Nat.le_zero.1 this
    let Y:b.A4=b:=by rw[BS.A4];simp[z,aGD,BS.IZ,aGE,B4];rw[<-z]
    let⟨u,f,hu⟩:=aOT F h;let T:=(w.KJ (u:=u) (l:=b.AX)).vJ;let d:=SM T.vA (yp hu) rfl;let B:=xs hu;rw[BH] at B;let hz:b.Ng=0:=g
    simp[w.l3,f,w.st (k:=3) rfl (AY.cells hu)];refine DD (i:=2) (λn:Nat=>[I n]) (λn p=>n=0/\p=y5 h P 3 u) (λn=>n) (λn p=>n=0/\p=y5 h P 3 u) 0 (by rw[hz]) ⟨rfl,rfl⟩ ?_ ?_;.rintro n p ⟨rfl,rfl⟩;simp[T.l3,B,(AR:¬0<0)];exact .HT 0 rfl ⟨rfl,rfl⟩
    .rintro n p ⟨rfl,rfl⟩;simp only[By,d];exact⟨_,rfl,rfl,o,u,G,by rw[Y];exact(T.KJ (l:=b.AX)).vJ,⟨[],by rw[Y,z];rfl,hu⟩,Be.trans Be⟩
   .simp only[abS,w.l3,aJ9 F X Ab,(w.If).st (k:=3) (v:= .CK h.length 0 x.length 3) rfl rfl];refine DD (i:=2) (λn:Nat=>[I n]) (λk p=>vI h P a t G b x (wn h) m k p) (λk=>wn x-k) (λk p=>k=wn x/\vI h P a t G b x (wn h) m k p) b.Ng rfl (vI.init w ok rm Z) ?_ ?_
    .intro k p i;let E7:=i.le;let C:AB (wf zr) [.CK (wn h) 0 (wn x) 3]=zx (I (wn x)):=rfl;obtain D|EC:=AQ k (wn x)
     .let⟨r,h2,n,N,M,L,K,J,H,E⟩:=vI.step Z rm.DU (Af _) D i;let d:AB (.EM 3) [.CK (wn h) 0 (wn x) 3,I k]=zx (Pt (wn h) (k*3)):=FN D;simp[N,C,(Ab:k<wn x),d,M,L,BK,K,J,H,BB k];exact .next (k+1) rfl E Ab
     .let⟨s,A,b1,Jj,T,_⟩:=i.ex;simp[T.l3,C,(Ab:¬k<wn x)];exact .HT k rfl ⟨Ab,i⟩
    .rintro k p ⟨rfl,i⟩;let⟨s,A,b1,Jj,T,TE,qb,Vb,ZE,pB,qd,OT,q⟩:=i.ex;let hf:=Kn (QL Jj) Vb;rw[Ao,ZE] at hf;let d:=SM T.vA hf (Av (λe=>OT (z2 e)));simp only[By,d];let Y:b.A4={b1 with AX:=Jj.map (·.c)}:=by rw[qd,AU Ab,AL Ab];simp[BS.IZ,Br]
     exact⟨_,rfl,rfl,s,_,A,by rw[Y];exact (T.Dt λj hj=>Av λe=>OT (by rw[e];exact hj)).KJ,⟨Jj,by rw[Y],.mk⟩,by exact Dx.trans ⟨by rw[Bw];exact q.len,λj hj hn=>by rw[Av Ab];exact q.old j hj hn,q.BD⟩ Be⟩
 obtain⟨r,Q,hr,rfl,V,U,R,w',JU,x'⟩:=Jy.ret;exact⟨Q,V,U,R,hr,w',JU,x'⟩
end
def aFL{id l k:Nat}(hl:0<l)(hk:k<=l):AB (.LK 3 zr zr z9) [.CK id 0 l 3,I k]=zx (.CK id 0 k 3):=by
 let d:Fv k l=zx k:=by rw[Fv];rw[Ae Ab];rfl
 simp[AB,Kg,En,d];omega
def aFM{id l k:Nat}(hk:k<=l):AB (.LK 3 zr z9 zr) [.CK id 0 l 3,I k]=zx (if k<l then .CK id (k*3) (l-k) 3 else .sl 3 []):=by
 let d:Fv k l=zx k:=by rw[Fv];rw[Ae Ab];rfl
 simp[AB,Kg,En,d];split<;>rfl
def Iw{U:Type}{l:List U}{k:Nat}(hk:k<wn l):(Bl l k).length=wn l-1:=by rw[Bl];rw[As,Az,Bp];omega
def aOW{h:Ak}{b k:Nat}{AH:List (List Ad)}(c:∀r∈AH,wn r=3)(m:h[b]?=zx (zu AH.flatten))(H:k<wn AH)(hb:wn AH<=1000000000):
  ∃Iz,BF cx 395 [.CK b 0 (wn AH) 3,I k,I (k+1:Nat)] h (.CK b 0 (wn AH-1) 3) (h.set b (zu ((Bl AH k).flatten++Iz))):=by
 let v:∀r∈Bl AH k,wn r=3:=λr f=>c r (by
  rw[Bl] at f;obtain f|f:=AA.1 f
  .exact BQ f
  .exact BU f)
 let t:=GX v;rw[Iw H] at t;obtain⟨e,A,x⟩:∃e,Gq h 3 48 (.CK b 0 k 3) (if k+1<wn AH then .CK b ((k+1)*3) (wn AH-(k+1)) 3 else .sl 3 [])=zx (h.set b (zu ((Bl AH k).flatten++e)),.CK b 0 (wn AH-1) 3)/\wn e=3:=by
  let j:Hy h 3 (if k+1<wn AH then .CK b ((k+1)*3) (wn AH-(k+1)) 3 else .sl 3 [])=zx (AH.drop (k+1)):=by
   by_cases F:k+1<wn AH;.rw[Ae F];let s:=lL c (n:=wn AH-(k+1)) (off:=k+1) Ab;rw[AL (Bp▸Af _)] at s;simp only[Hy,BV,m,s];rw[Ae (by rw[GX c];omega)]
   .rw[Aa F,AU Ab];rfl
  by_cases aA6:k+1=wn AH
  .refine⟨AH.flatten.drop (k*3),?_,by rw[Bp,GX c];omega⟩;let q:AH.drop (k+1)=[]:=AU Ab;rw[q] at j;let z:(Bl AH k).flatten++AH.flatten.drop (k*3)=AH.flatten:=by rw[Bl];rw[q,Br,(lK c).symm,CU]
   let D:h.set b (zu ((Bl AH k).flatten++AH.flatten.drop (k*3)))=h:=by rw[z];let⟨Zb,C⟩:=Aq.1 m;rw[<-C,IW]
   simp only[Gq,j,BV];rw[D,(Ab:wn AH-1=k)]
  .obtain⟨y,u,w⟩:∃y u,AH.drop (k+1)=y::u:=⟨_,_,AI (Ab:k+1<wn AH)⟩;let J:(y::u).length=wn AH-(k+1):=by rw[<-w,Bp]
   exact⟨AH.flatten.drop ((wn AH-1)*3),by rw[w] at j;simp only[Gq,j,m,BV];rw[J,Ae (by rw[GX c];omega)];rw[<-w,(Km c).symm,B1,B1,(Ab:k+(wn AH-(k+1))=wn AH-1)];rw[Bl];rw[Rs,(lK c).symm,(Km c).symm],by rw[Bp,GX c];omega⟩
 generalize d:h.set b (zu ((Bl AH k).flatten++e))=o at A;let G:o[b]?=zx (zu ((Bl AH k).flatten++e)):=d▸AT ((Aq.1 m).1)
 let l:((Bl AH k).flatten++e).length=wn AH*3:=by rw[As,t,x];omega
 let q:EH (.H_ 3 z9 z9) o [.CK b 0 (wn AH-1) 3,I (wn AH-1:Nat),I (wn AH)]=zx (o,.CK b ((wn AH-1)*3) 1 3):=by
  simp only[EH,xB,G];let E:Fv (wn AH) ((((Bl AH k).flatten++e).length-0)/3)=zx (wn AH):=by rw[Fv];rw[Ae (by rw[l];omega)];rfl
  let s:Fv (wn AH-1:Nat) (wn AH)=zx (wn AH-1):=by rw[Fv];rw[Ae Ab];rfl
  rw[Ae ⟨trivial,trivial,AZ _⟩];simp only[En,E,s,CR,Cb];rw[Ae (by rw[l];omega)];congr 3
  .omega
  .omega
 let B:EH (.clear 3 [I 0,S [],zw]) o [.CK b ((wn AH-1)*3) 1 3]=zx (h.set b (zu ((Bl AH k).flatten++[I 0,S [],zw])),zq z9):=by
  simp only[EH,aU,G];rw[Ae ⟨trivial,rfl,by rw[l];omega⟩];congr 2
  rw[<-d,OI];congr 2
  rw[Jc t,AU (by rw[l];omega)];simp
 refine⟨[I 0,S [],zw],?_⟩;let g:∀i n,AB (wf zr) [.CK i 0 n 3]=zx (I n):=λ_ _=>rfl;let z:EH (.h_ 3) h [.CK b 0 (wn AH) 3,I k,I (k+1:Nat),I (wn AH)]=zx (h,zq z9):=by rw[EH,aV];simp;omega
 simp only[Ac,uK,abS,g,z,(Ab:¬k=((k+1:Nat):Int)),aFL (id:=b) (Ab:0<AH.length) (Ab:k<=AH.length),aFM (id:=b) (Ab:k+1<=AH.length),A,q,B]
def Wq{z:Nat}:∀{AH:List (List Ad)} {cs W0:List Ad},(∀r∈AH,wn r=z)->CP (W0++(AH.flatten++cs)) z (wn W0) (wn AH)=AH
 |[],_,_,_=>rfl
 |x::AH,cs,W0,h=>by have:=Wq (AH:=AH) (cs:=cs) (W0:=W0++x) (λr b=>h r (by simp[b]));rw[AO,As,h x AF] at this;rw[Dk,Bg,CP,AO];rw[KZ rfl,Jc (h x AF),this]
def qe{h:Ak}{a z:Nat}{AH:List (List Ad)}{b:List Ad}(c:∀r∈AH,wn r=z)(e:h[a]?=zx (zu (AH.flatten++b))):LH h (.CK a 0 (wn AH) z)=zx (h.set a .CV,.sl z AH):=by simp only[LH,e,B1];have:=Wq (cs:=b) (W0:=[]) c;rw[B4,BH] at this;rw[Ae (by rw[As,GX c];omega),this]
def GV(e:CC)(f h:Int)(b a:Item)(d:Int):List Ad:=
 [I e.c.node,zk e.c.name,e.v,I f,I h,I b.node,I b.Bk,zk b.name,zq b.OZ,I a.node,I a.Bk,zk a.name,zq a.OZ,I d]
def ON(ai a:Nat)(G:Nat->Prop):Nat->Prop:=λi=>i=ai\/BD a G i
section
variable{h h':Ak}{bi a ai:Nat}{o c t:Ad}{G G' F:Nat->Prop}{b b':BS}{x:Int}{m:Nat}
variable{nm:Aj}{av:Ad}{l:List Bb}{r:List Ad}{sp p:Int}{e:CC}{at_ mk last:Int}{anc far:Item}
def FF(x:Dx h (BD bi G) h' (BD bi G'))ai:Dx h (ON ai bi G) h' (ON ai bi G'):=
 ⟨x.len,λi a d=>x.old i a λe=>d (zf e),λi a=>by
  obtain a|a:=a
  .exact z2 (z2 a)
  .rcases x.BD i a with h|h
   .exact z2 (zf h)
   .exact zf h⟩
def SN{k:Nat}{v:Ad}:Dx h (Am.ON ai bi G) (put h ai k v) (Am.ON ai bi G):=⟨Kr▸Af _,λi _ b=>Cq λe=>b (z2 e),λ_ h=> z2 h⟩
def IP{a k:Nat}{v:Ad}{c:List Ad}(b:h[a]?=zx (zu c)):(put h a k v)[a]?=zx (zu (c.set k v)):=by rw[IL b,AT (Aq.1 b).1]
def down(k:Nat)(x:Int):Int:=if k<x then x-1 else x
set_option maxHeartbeats 1000000 in
def yq(w:BX h bi a o c t G b)(hc:Ca b.AX c)(rm:BW b m)(ha:h[ai]?=some (.cells (GV e at_ mk anc far last)))(hn:¬BD bi G ai){k:Nat}(hk:k<b.AX.length)(h1:0<=at_/\at_<=1000000000)(h2:0<=mk/\mk<=1000000000):
  ∃h' c',BF cx 322 [Pt ai 0,Pt bi 0,I (k:Int)] h (.tuple []) h'/\BX h' bi a o c' t G {b with AX:=Bl b.AX k}/\Ca (Bl b.AX k) c'/\h'[ai]?=some (.cells (GV e (down k at_) (down k mk) anc far last))/\Dx h (ON ai bi G) h' (ON ai bi G):=by
 obtain⟨fs,Gj,hcs⟩:=hc;have Rn:=rm.AX;have Iq:b.AX.length=fs.length:=by rw[<-Gj,Ao]
 have hne:fs≠[]:=by intro e;rw[Iq,e] at hk;exact absurd hk (ě _)
 have iP:ai≠bi:=λe=>hn (.inl e);have z:ai<h.length:=(Aq.1 ha).1;have C:=aJ9 (h:=h) hcs hne Ab;have hX:(h++[DH.cells (fs.map CC.row).flatten])[h.length]?=some (.cells (fs.map CC.row).flatten):=AF;obtain⟨Iz,r2⟩:=aOW (QL fs) hX (k:=k) ES ES;rw[Ao] at r2;have e2:(h++[DH.cells (fs.map CC.row).flatten]).set h.length (.cells ((Bl (fs.map CC.row) k).flatten++Iz))=h++[.cells ((Bl (fs.map CC.row) k).flatten++Iz)]:=by rw[BO _ _ (Af _),Dy];rfl
 rw[e2] at r2;generalize A:h++[DH.cells ((Bl (fs.map CC.row) k).flatten++Iz)]=H at r2;have w1:BX H bi a o c t G b:=by rw[<-A];exact w.If
 have jF:H[ai]?=some (.cells (GV e at_ mk anc far last)):=by rw[<-A,An z];exact ha
 have Q:H[h.length]?=some (.cells ((Bl (fs.map CC.row) k).flatten++Iz)):=by rw[<-A];simp
 have hL:H.length=h.length+1:=by rw[<-A];simp
 have Z:Dx h (ON ai bi G) H (ON ai bi G):=by rw[<-A];exact FF w.De ai
 have s:bi≠h.length:=RI w.lt;have Zu:ai≠h.length:=RI z;have B:=w1.st (k:=3) (v:= .CK h.length 0 (fs.length-1) 3) (v0:=c) rfl rfl;have w2:=w1.KJ (u:= .CK h.length 0 (fs.length-1) 3) (l:=b.AX);have Ry:(put H bi 3 (.CK h.length 0 (fs.length-1) 3))[ai]?=some (.cells (GV e at_ mk anc far last)):=by rw[Cq iP];exact jF
 have P:(put H bi 3 (.CK h.length 0 (fs.length-1) 3))[h.length]?=some (.cells ((Bl (fs.map CC.row) k).flatten++Iz)):=by rw[Cq (D8 s)];exact Q
 have Y:Dx h (ON ai bi G) (put H bi 3 (.CK h.length 0 (fs.length-1) 3)) (ON ai bi G):=Z.trans (FF Be ai);generalize R:put H bi 3 (.CK h.length 0 (fs.length-1) 3)=f at*;have hL2:f.length=h.length+1:=by rw[<-R,Kr,hL]
 have t3:At f ai 3 (I at_):=⟨_,Ry,rfl⟩;have kg:=IP (k:=3) (v:= I (down k at_)) Ry;have E:put f ai 3 (I (down k at_))=if(k:Int)<at_ then put f ai 3 (I (at_-1)) else f:=by
  unfold down;split;.rfl
  .exact t3.same
 have w3:BX (put f ai 3 (I (down k at_))) bi a o _ t G _:=w2.Dt λj hj=>Cq λe=>hn (e▸hj);have O:(put f ai 3 (I (down k at_)))[h.length]?=_:=(Cq (D8 Zu)).trans P;have X:=Y.trans (SN (k:=3) (v:= I (down k at_)));generalize hH3:put f ai 3 (I (down k at_))=d at*;have t4:At d ai 4 (I mk):=⟨_,kg,rfl⟩;have M:=IP (k:=4) (v:= I (down k mk)) kg;have q:put d ai 4 (I (down k mk))=if(k:Int)<mk then put d ai 4 (I (mk-1)) else d:=by
  unfold down;split;.rfl
  .exact t4.same
 have T:BX (put d ai 4 (I (down k mk))) bi a o _ t G _:=w3.Dt λj hj=>Cq λe=>hn (e▸hj);have N:(put d ai 4 (I (down k mk)))[h.length]?=_:=(Cq (D8 Zu)).trans O;have J:=X.trans (SN (k:=4) (v:= I (down k mk)));generalize hH4:put d ai 4 (I (down k mk))=S at*;have L:∀r∈Bl (fs.map CC.row) k,r.length=3:=λr hm=>QL fs r (by
  unfold Bl at hm;rcases AA.1 hm with hm|hm
  .exact BQ hm
  .exact BU hm)
 have f4:=qe L N;rw[Iw ES,Ao] at f4;have D:=SM T.vA f4 (by rw[Av (D8 s)]);have w5:BX (S.set h.length .CV) bi a o _ t G {b with AX:=b.AX}:=T.Dt λj hj=>Av λe=>by
  subst e;rcases hj with hj|hj
  .exact s hj.symm
  .exact absurd (w.w.lt hj) (DT _)
 have ed:Bl (fs.map CC.row) k=(Bl fs k).map CC.row:=by unfold Bl;rw[BJ,E1,JA]
 have ec:(Bl fs k).map (·.c)=Bl b.AX k:=by unfold Bl;rw[BJ,E1,JA,Gj]
 refine⟨_,.sl 3 (Bl (fs.map CC.row) k),?_,w5.KJ (l:=Bl b.AX k),⟨Bl fs k,ec,by rw[ed];exact .mk⟩,?_,?_⟩
 .have i:A8 f none (Pt ai 3)=some (I at_):=t3.load;have g:A8 d none (Pt ai 4)=some (I mk):=t4.load;have inc:=BB k;have W:=Db at_ 1;have V:=Db mk 1;rw[Ac,sZ];by_cases y:(k:Int)<at_
  .rw[Ae y] at E;have U:Cv f 1 (Pt ai 3) (I (at_-1))=some d:=by rw[E];exact t3.store rfl
   by_cases n:(k:Int)<mk
   .rw[Ae n] at q;have K:Cv d 1 (Pt ai 4) (I (mk-1))=some S:=by rw[q];exact t4.store rfl
    simp only[abS,w.l3,C,inc,r2,B,i,y,W,U,g,n,V,K,D]
   .rw[Aa n] at q;subst q;simp only[abS,w.l3,C,inc,r2,B,i,y,W,U,g,n,D]
  .rw[Aa y] at E;subst E;by_cases n:(k:Int)<mk
   .rw[Ae n] at q;have K:Cv d 1 (Pt ai 4) (I (mk-1))=some S:=by rw[q];exact t4.store rfl
    simp only[abS,w.l3,C,inc,r2,B,i,y,g,n,V,K,D]
   .rw[Aa n] at q;subst q;simp only[abS,w.l3,C,inc,r2,B,i,y,g,n,D]
 .rw[Cq iP,Av (D8 Zu),M];rfl
 .refine Dx.trans ⟨by rw[Bw];exact J.len,λj hj hn=>?_,J.BD⟩ (FF Be ai);rw[Av Ab];exact J.old j hj hn
end
section
variable{U:Type}{q:U->Bool}{l:List U}
def Li{p:Nat}(b:p<wn l)(a:q l[p]=z9)(i:∀j (hj:j<wn l),p<j->q l[j]=zr):A7 q l=p:=by
 rcases DJ (q:=q) with⟨e,h⟩|⟨n,c,e,d,f⟩
 .rw[h _ (AV b)] at a;cases AR a
 .rcases Nat.lt_trichotomy n p with h|h|h
  .have:=f p b h;rw[this] at a;cases AR a
  .rw[e,h]
  .have:=i n c h;rw[this] at d;cases AR d
def J5{p:Nat}(e:A7 q l=p):∃hp:p<wn l,q l[p]=z9/\∀j (a:j<wn l),p<j->q l[j]=zr:=by
 rcases DJ (q:=q) (l:=l) with⟨g,h⟩|⟨n,b,g,f,d⟩
 .omega
 .have:n=p:=by omega
  subst this;exact⟨b,f,λj a h=>d j a h⟩
def bt{k j:Nat}(hk:k<wn l):(Bl l k)[j]?=if j<k then l[j]? else l[j+1]?:=by
 rw[Bl];by_cases h:j<k;.rw[Ae h,An (by rw[Az];omega),Cw,Ae h]
 .rw[Aa h,Bu (by rw[Az];omega),CF];congr 1
  rw[Az];omega
def QY{k j:Nat}(a:k<wn l)(b:j<(Bl l k).length):(Bl l k)[j]=if h:j<k then l[j]'(by omega) else l[j+1]'(by rw[Iw a] at b;omega):=by
 let hl:=Iw a;have:=bt (j:=j) a;rw[Ap b] at this;by_cases h:j<k;.rw[dif_pos h];rw[Ae h,Ap Ab] at this;exact EZ this
 .rw[dif_neg h];rw[Aa h,Ap Ab] at this;exact EZ this
def vK{p k:Nat}(e:A7 q l=p)(b:k<wn l)(hne:k≠p):A7 q (Bl l k)=down k p:=by
 let⟨hp,f,c⟩:=J5 e;let hl:=Iw b;rw[down];by_cases d:k<p
 .rw[Ae Ab,(Ab:p-1=((p-1:Nat):Int))];refine Li Ab ?_ ?_;.rw[QY b,dif_neg Ab];have:p-1+1=p:=Ab;simp[this,f]
  .intro j i h;rw[QY b,dif_neg Ab];exact c _ _ Ab
 .rw[Aa Ab];refine Li Ab ?_ ?_;.rw[QY b,dif_pos Ab];exact f
  .intro j i h;rw[QY b];split;.exact c _ _ h
   .exact c _ _ Ab
def bu{p k:Nat}{x:U}(e:A7 q l=p)(a:k≠p)(c:q x=zr):A7 q (l.set k x)=p:=by
 let⟨hp,f,d⟩:=J5 e;refine Li (by rwa[Bw]) ?_ ?_;.rw[List.getElem_set_ne a];exact f
 .intro j b h;rw[List.getElem_set];split;.exact c
  .rw[Bw] at b;exact d j b h
end
def SO{l:List Item}{i:Nat}(a:i<wn l)(h0:1<=i):l[i]∈l.tail:=by
 cases l
 .simp at a
 next y l=>obtain⟨i,rfl⟩:∃k,i=k+1:=⟨i-1,Ab⟩;simp
def vL{l:List Item}(f:(l.tail.map wy).Nodup){i:Nat}(a:i<wn l)(h0:1<=i):A7 (Bz l[i].node) l=i:=by
 refine Li a (by simp[Bz]) λj b h=>?_;by_cases d:l[i].node=l[j].node
 .cases l
  .simp at a
  next y l=>
   obtain⟨i,rfl⟩:∃k,i=k+1:=⟨i-1,Ab⟩;obtain⟨j,rfl⟩:∃k,j=k+1:=⟨j-1,Ab⟩;rw[Bg,Nat.add_lt_add_iff_right] at a b;let m:(l.map wy)[i]'(zv a)=(l.map wy)[j]'(zv b):=zv d
   cases (List.pairwise_iff_getElem.1 f i j (zv a) (zv b) Ab) m
 .unfold Bz;simpa using λe=>d e.symm
section
variable{n:Int}{l:List B9}
def HJ(h:0<=Eo n l):∃p:Nat,∃a:p<wn l,Eo n l=p/\n≠0/\l[p].node=n/\A7 (eH n) l=p:=by
 rw[Eo] at h⊢;split at h;.omega
 next b=>rw[Aa b];obtain⟨p,a⟩:∃p:Nat,A7 (eH n) l=p:=⟨_,(Ft h).symm⟩;let⟨d,c,_⟩:=J5 a;exact⟨p,d,a,b,by simpa[eH] using c,a⟩
def mF{k:Nat}(h:0<=Eo n l)(b:k<wn l)(a:l[k].node≠n):Eo n (Bl l k)=down k (Eo n l):=by let⟨p,hp,e,f,d,c⟩:=HJ h;rw[e,<-vK c b (by rintro rfl;exact a d)];rw[Eo];rw[Aa f]
def bw{k:Nat}{x:B9}(h:0<=Eo n l)(hk:k<wn l)(a:l[k].node≠n)(b:x.node≠n):Eo n (l.set k x)=Eo n l:=by let⟨p,hp,e,f,d,c⟩:=HJ h;rw[e,<-bu (k:=k) c (by rintro rfl;exact a d) (by simp[eH];exact b)];rw[Eo];rw[Aa f]
def ù(c:((l.map B9.node).filter λn=>decide (n≠0)).Nodup)(h:0<=Eo n l):Eo n (Bl l (Eo n l).toNat)<0:=by
 let⟨p,m,e,k,b,h2⟩:=HJ h;rw[e,A6];refine Int.not_le.1 λi=>?_;let⟨g,f,j,_,d,_⟩:=HJ i;have:l=l.take p++l[p]::l.drop (p+1):=by rw[<-AI m,CU]
 rw[this,BJ,Bn,FY,ID,Ae (by simpa[b] using k),C2,CA] at c;have a:=AV f;generalize(Bl l p)[g]=y at a d;rw[Bl] at a;obtain a|a:=AA.1 a
 .exact c.2.2 y.node (GN.2 ⟨Rv a,by simpa[d] using k⟩) l[p].node AF (by rw[d,b])
 .exact c.2.1.1 (GN.2 ⟨b▸d▸Rv a,by simpa[b] using k⟩)
end
section
variable{h h':Ak}{bi a ai:Nat}{o c t:Ad}{G G' F:Nat->Prop}{b b':BS}{x:Int}{m:Nat}
variable{nm:Aj}{av:Ad}{l:List Bb}{r:List Ad}{sp p:Int}{e:CC}{at_ mk last:Int}{anc far:Item}
def QZ{blk anc:Int}{far i:Nat}{l:Int}{mk m:Nat}(r:BW b (m+4)):BW (BS.Gl blk anc far i b l mk).1 m:=by
 rw[BS.Gl];simp only
 split;.exact(r.le Ab).sub rfl Ds (AW _) (Af _)
 .split;.exact(r.le Ab).sub rfl Ds Ds (Af _)
  .rename_i c _;let⟨p,j,f,_,_,_⟩:=HJ (KN.1 c);rw[f,A6,A3,Ap j,EF];let h:=r.DU _ (AV j);let a:=((Kv (m:=m+1) (nm:=b.AX[p].name) (sp:=1) (p:=anc) (r.le Ab) h.2).le (m':=m) Ab).IN (Ku (p:=(b.Hv b.AX[p].name b.AX[p].Al 1).node) (x:=l) (bf:=0));refine⟨a.n,a.at_,a.data,by rw[Bw];exact a.AJ,by rw[Bw];exact a.AX,a.tm,λe c=>?_,λi d=>?_⟩
   .rcases DY c with c|rfl
    .exact a.DU e c
    .exact h
   .rcases DY d with d|rfl
    .exact a.YD i d
    .exact P0 h.1
end
def XT{A:Ar}{x p a:Int}(h:(A.nd p).kind=4):A.E8 x p a=A.Gu p x a:=by rw[v5];rw[Aa (by rw[h];intro h;cases AR h.1)]
section
variable{h h':Ak}{bi a ai:Nat}{o c t:Ad}{G G' F:Nat->Prop}{b b':BS}{x:Int}{m:Nat}
variable{nm:Aj}{av:Ad}{l:List Bb}{r:List Ad}{sp p:Int}{e:CC}{at_ mk last:Int}{anc far:Item}
def Ca.at(i:Ca b.AX c)(w:BX h bi a o c t G b)(e:BW b m)n:BF cx 182 [Pt bi 3,I n] h (I (Eo n b.AX)) h:=by let⟨fs,d,f⟩:=i;let j:=e.AX;have:=f41 w.vA f (by rw[<-d,Ao] at j;omega) n;rwa [Wm,d] at this
structure bz(h:Ak)(bi a ai:Nat)(t:Ad)(G0:Nat->Prop)(fe:CC)(anc far:Item)(k N m)(s0:BS×Int×Nat)(n:Nat)(h1:Ak)(o c:Ad)(G:Nat->Prop)(s:BS×Int×Nat):Prop where
 le:n<=N
 w:BX h1 bi a o c t G s.1
 hc:Ca s.1.AX c
 ok:E4 s.1
 rm:BW s.1 (m+4*n)
 last:s.1.a.has s.2.1
 st:h1[ai]?=zx (zu (GV fe (Eo fe.c.node s.1.AX) s.2.2 anc far s.2.1))
 hn:¬BD bi G ai
 x:Dx h (ON ai bi G0) h1 (ON ai bi G)
 ZA:0<=Eo fe.c.node s.1.AX
 mkb:s.2.2<=1000000000
 AJ:s.1.AJ.take (k+n+1)=s0.1.AJ.take (k+n+1)
 len:k+n+1<=s.1.AJ.length
 eq:wl far.node anc.node (k+1+N) k N s0=wl far.node anc.node (k+1+N) k n s
 fe:s.1.a.has fe.c.node
def mG{blk anc:Int}{far i:Nat}{l:Int}{mk:Nat}(c:i<wn b.AJ):(BS.Gl blk anc far i b l mk).1.AJ.take i=b.AJ.take i/\i<=(BS.Gl blk anc far i b l mk).1.AJ.length:=by
 let a:(Bl b.AJ i).take i=b.AJ.take i/\i<=(Bl b.AJ i).length:=⟨by rw[Bl];rw[Dh (by rw[Az];omega),FL,Nat.min_self],by rw[Iw c];omega⟩
 rw[BS.Gl];simp only
 split;.exact a
 .split;.exact a
  .let d:∀nm l p,(b.EL nm l 1 p).AJ=b.AJ:=λnm l p=>by rw[BS.EL];rw[Ae KP]
   rw[d];exact⟨Rr (Af i),by rw[Bw];omega⟩
def bz.step{O K:Ak}{C D A z:Ad}{B u:Nat->Prop}{F:CC}{k N n:Nat}{M s E:BS×Int×Nat}(i:bz h bi a ai t G F anc far k N m M (n+1) O C D B s)(e:E=BS.Gl far.node anc.node (k+1+N) (k+(n+1)) s.1 s.2.1 s.2.2)
  (w:BX K bi a A z t u E.1) (Q:Ca E.1.AX z) (st:K[ai]?=zx (zu (GV F (Eo F.c.node E.1.AX) E.2.2 anc far E.2.1))) (P:¬BD bi u ai) (x:Dx O (ON ai bi B) K (ON ai bi u)) (R:0<=Eo F.c.node E.1.AX) (L:E.2.2<=1000000000):
  bz h bi a ai t G F anc far k N m M n K A z u E:=by
 let⟨g,r,j⟩:=eQ (blk:=far.node) (anc:=anc.node) (far:=k+1+N) (i:=k+(n+1)) (m:=s.2.2) i.ok i.last;let hl:=i.len;let⟨f,v⟩:=mG (blk:=far.node) (anc:=anc.node) (far:=k+1+N) (i:=k+(n+1)) (l:=s.2.1) (mk:=s.2.2) (b:=s.1) Ab;let d:=QZ (blk:=far.node) (anc:=anc.node) (far:=k+1+N) (i:=k+(n+1)) (l:=s.2.1) (mk:=s.2.2) (m:=m+4*n) (i.rm.le Ab);let y:wl far.node anc.node (k+1+N) k (n+1) s=wl far.node anc.node (k+1+N) k n (BS.Gl far.node anc.node (k+1+N) (k+(n+1)) s.1 s.2.1 s.2.2):=rfl;let q:=i.eq.trans y;rw[<-e] at g r j f v d q;exact⟨by have:=i.le;omega,w,Q,g,d,r,st,P,i.x.trans x,R,L,by have:=Cx (λl=>l.take (k+(n+1))) i.AJ;simp only[FL] at this;rw[(Ab:k+n+1=k+(n+1)),f];rwa [CE Ab] at this,Ab,q,j.has _ i.fe⟩
def aO1{fe:CC}{k N:Nat}{s0:BS×Int×Nat}(i0:bz h bi a ai t G fe anc far k N m s0 N h o c G s0)(iV:1<=k)(Tb:A7 (Bz fe.c.node) s0.1.AJ=k)(hN:k+1+N<s0.1.AJ.length):
  ∃h' o' c' G' s',BF cx 325 [Pt bi 0,Pt ai 0,I k,I (k+1+N:Nat)] h (ze []) h'/\s'=wl far.node anc.node (k+1+N) k N s0/\bz h bi a ai t G fe anc far k N m s0 0 h' o' c' G' s':=by
 let ho:=i0.rm.AJ;let Jy:Ev cx 325 [Pt bi 0,Pt ai 0,I k,I (k+1+N:Nat)] h λr h'=>r= ze []/\∃o' c' G' s',s'=wl far.node anc.node (k+1+N) k N s0/\bz h bi a ai t G fe anc far k N m s0 0 h' o' c' G' s':=by
  rw[Ev];rw[tE];let i1:=VO (a:=((k+1+N:Nat):Int)) (b:=1) Ab Ab;rw[(Ab:(k+1+N:Nat)-1=((k+N:Nat):Int))] at i1;simp only[By,i1];refine Bm (λn:Nat=>[I (N-n:Nat),I (k+n:Nat)]) (λn h1=>∃o c G1 s,bz h bi a ai t G fe anc far k N m s0 n h1 o c G1 s) (λn=>n) N (by rw[Dy];rfl) ⟨o,c,_,s0,i0⟩ ?_;rintro n h1 ⟨o1,c1,G1,s,i⟩;cases n
  .simp only[abS,↓reduceIte,(Ab:¬(k:Int)<(k:Int))];exact⟨_,rfl,rfl,o1,c1,G1,s,i.eq.symm,i⟩
  next n=>
   have hnN:=i.le;have hlen:=i.len;let mH:k+(n+1)<s.1.AJ.length:=Ab;have hwo:=i.rm.AJ;have hwa:=i.rm.AX;let iP:ai≠bi:=λe=>i.hn (.inl e);let hai:ai<h1.length:=(Aq.1 i.st).1;let K:=Zg i.w.sA ((k+(n+1):Nat):Int);rw[Gg mH] at K;have U:=vL i.ok.opN mH Ab;have hxf:s.1.AJ[k+(n+1)].node≠fe.c.node:=by have h2:=Cx (λl=>l[k+(n+1)]?) i.AJ;simp only[Cw] at h2;rw[Ae Ab,Ae Ab,Ap mH,Ap Ab] at h2;obtain⟨_,_,L⟩:=J5 Tb;have g:=L (k+(n+1)) Ab Ab;rw[EZ h2];intro h5;unfold Bz at g;rw[h5] at g;simp at g
   have aM:s.1.AJ.getD (k+(n+1)) Item.zero=s.1.AJ[k+(n+1)]:=by rw[A3,Ap mH];rfl
   generalize s.1.AJ[k+(n+1)]=x at*;let r2:=i.hc.at i.w i.rm x.node;obtain⟨q,hq,ò,hq0,hq2,hq3⟩:=HJ i.ZA;let inc:AB (.int .add) [I ((N-(n+1):Nat):Int),I 1]=some (I ((N-n:Nat):Int)):=by have:=Xv (n:=N-(n+1)) Ab;rwa [(Ab:N-(n+1)+1=N-n)] at this
   let dec:AB (.int .sub) [I ((k+(n+1):Nat):Int),I 1]=some (I ((k+n:Nat):Int)):=by have:=IK (n:=k+(n+1)) Ab Ab;rwa [(Ab:k+(n+1)-1=k+n)] at this
   let ĩ:(k:Int)<((k+(n+1):Nat):Int):=Ab;let V:∀l:List Item,l=s.1.AJ->Cn x.node l=Bl l (k+(n+1)):=by intro l e;subst e;unfold Cn;rw[U,Aa Ab,A6]
   by_cases he:Eo x.node s.1.AX<0
   .obtain⟨u,B,hu⟩:=aAX i.w.sO Ab x.node;rw[V _ rfl] at hu;let y:=i.w.IB hu;let es:({s.1 with AJ:=Bl s.1.AJ (k+(n+1))},s.2.1,s.2.2)=BS.Gl far.node anc.node (k+1+N) (k+(n+1)) s.1 s.2.1 s.2.2:=by unfold BS.Gl;simp only[aM];rw[Ae he]
    let D:=i.step es y i.hc ((Cq iP).trans i.st) i.hn (FF Be ai) i.ZA i.mkb;by_cases Pu:(3:Int)<((N-n:Nat):Int);.simp only[abS,↓reduceIte,Fh,ĩ,K,inc,r2,Pu,he,(Ab:¬(0:Int)<=Eo x.node s.1.AX),B,dec];exact AM.next n rfl ⟨_,_,_,_,D⟩ Ab
    .simp only[abS,↓reduceIte,Fh,ĩ,K,inc,r2,Pu,he,B,dec];exact AM.next n rfl ⟨_,_,_,_,D⟩ Ab
   .obtain⟨p,hp,ep,PQ,jW,hp3⟩:=HJ (KN.1 he);let EC:(0:Int)<=(p:Int):=Ab;rw[ep] at r2;let W:s.1.AX[p].node≠fe.c.node:=by rw[jW];exact hxf
    let E:(Eo x.node s.1.AX).toNat=p:=by rw[ep,A6]
    by_cases Pu:(3:Int)<((N-n:Nat):Int)
    .obtain⟨h2,c2,B,y,KB,C,H⟩:=yq i.w i.hc i.rm i.st i.hn hp ⟨i.ZA,Ab⟩ ⟨Ab,by have:=i.mkb;omega⟩;let YG:BW {s.1 with AX:=Bl s.1.AX p} (m+4*(n+1)):=i.rm.sub rfl (AW _) Ds (Af _);let r4:=Ca.at (b:={s.1 with AX:=Bl s.1.AX p}) KB y YG x.node;let vf:Eo x.node (Bl s.1.AX p)<0:=by have:=ù (n:=x.node) i.ok.mz (KN.1 he);rwa [E] at this
     obtain⟨u,r5,hu⟩:=aAX y.sO DO x.node;rw[V _ rfl] at hu;let M:=y.IB hu;let aBp:(((if p<s.2.2 then s.2.2 -1 else s.2.2:Nat)):Int)=down p (s.2.2:Int):=by unfold down;split<;>split<;>omega
     let es:({s.1 with AX:=Bl s.1.AX p,AJ:=Bl s.1.AJ (k+(n+1))},s.2.1,if p<s.2.2 then s.2.2 -1 else s.2.2)=BS.Gl far.node anc.node (k+1+N) (k+(n+1)) s.1 s.2.1 s.2.2:=by unfold BS.Gl;simp only[aM];rw[Aa he,Ae (Ab:k+(n+1)+3<k+1+N),E]
     let aO2:=mF i.ZA hp W;let hd0:0<=down p (Eo fe.c.node s.1.AX):=by unfold down;split<;>omega
     let D:=i.step es M KB (by rw[Cq iP,C];simp only;rw[aO2,aBp]) i.hn (H.trans (FF Be ai)) (by simp only;rw[aO2];exact hd0) (by have:=i.mkb;simp only;split<;>omega);simp only[abS,↓reduceIte,Fh,ĩ,K,inc,r2,Pu,EC,B,r4,vf,r5,dec];exact AM.next n rfl ⟨_,_,_,_,D⟩ Ab
    .obtain⟨F,Gj,hv⟩:=i.hc;let Iq:s.1.AX.length=F.length:=by rw[<-Gj,Ao]
     let aKs:p<F.length:=Ab;let Z:F[p].c=s.1.AX[p]:=by simp only[<-Gj,C4]
     let l3:=i.w.l3;let e1:=AY.BL (k:= .i64) hv aKs;have l5:A8 h1 none (Pt ai 5)=some (I anc.node):=At.load ⟨_,i.st,rfl⟩;obtain⟨r,B,hr⟩:=aBm F[p] h1;let Mk:=i.rm.DU _ (AV hp);rw[<-Z] at Mk;obtain⟨h2,G2,r4,y,H⟩:=aBc (m:=m+4*n) i.w i.ok.ba (i.rm.le Ab) hr F[p].ok Mk.2 Mk.1 anc.node 1;obtain⟨ok2,f,le2⟩:=SG (nm:=F[p].c.name) (at_:=F[p].c.Al) (p:=anc.node) i.ok KP;have YG:=Kv (m:=m+4*n+1) (nm:=F[p].c.name) (l:=F[p].c.Al) (sp:=1) (p:=anc.node) (i.rm.le Ab) Mk.2;have Qn:(s.1.EL F[p].c.name F[p].c.Al 1 anc.node).AJ=s.1.AJ:=by unfold BS.EL;rw[Ae KP]
     have Rn:(s.1.EL F[p].c.name F[p].c.Al 1 anc.node).AX=s.1.AX:=by unfold BS.EL;rw[Ae KP]
     have Y:BS.Gl far.node anc.node (k+1+N) (k+(n+1)) s.1 s.2.1 s.2.2=({s.1.EL F[p].c.name F[p].c.Al 1 anc.node with a:=(s.1.EL F[p].c.name F[p].c.Al 1 anc.node).a.Gu (s.1.Hv F[p].c.name F[p].c.Al 1).node s.2.1 0,AJ:=(s.1.EL F[p].c.name F[p].c.Al 1 anc.node).AJ.set (k+(n+1)) (s.1.Hv F[p].c.name F[p].c.Al 1),AX:=(s.1.EL F[p].c.name F[p].c.Al 1 anc.node).AX.set p {F[p].c with node:=(s.1.Hv F[p].c.name F[p].c.Al 1).node}},(s.1.Hv F[p].c.name F[p].c.Al 1).node,if s.2.1=far.node then p+1 else s.2.2):=by unfold BS.Gl;simp only[aM];rw[Aa he,Aa Ab,E,A3,Ap hp,EF,<-Z]
     let ux:=PZ i.ok f;let hna:=Tu i.ok f;have hnf:(s.1.Hv F[p].c.name F[p].c.Al 1).node≠fe.c.node:=λe2=>f.new (by rw[e2];exact i.fe);have aUr:=le2.has _ i.last;have aKt:(s.1.Hv F[p].c.name F[p].c.Al 1).name.length<=1000:=P0 Mk.1;generalize s.1.Hv F[p].c.name F[p].c.Al 1=d at*;generalize s.1.EL F[p].c.name F[p].c.Al 1 anc.node=b2 at*;let Va:¬BD bi G2 ai:=λhg=>by
      rcases H.BD ai hg with hg|hg
      .exact i.hn hg
      .omega
     let C:h2[ai]?=_:=(H.old ai hai i.hn).trans i.st;obtain⟨J,O,r5,Rx⟩:=aTF y.sO (by have:=YG.AJ;omega) x.node d;let aFN:Sx x.node d b2.AJ=b2.AJ.set (k+(n+1)) d:=by unfold Sx;rw[Qn,U,Aa Ab,A6]
     rw[aFN] at Rx;have M:=(y.IB Rx).If (u:=O);have x3:Dx h1 (ON ai bi G1) (put h2 bi 2 J++O) (ON ai bi G2):=(FF H ai).trans (FF (Be.trans (y.IB Rx).De) ai);let ai2:ai<h2.length:=by have:=H.len;omega
     have st3:(put h2 bi 2 J++O)[ai]?=_:=(An (by rw[Kr];exact ai2)).trans ((Cq iP).trans C);have ai3:ai<(put h2 bi 2 J++O).length:=by rw[As,Kr];omega
     generalize put h2 bi 2 J++O=L at*;have aUs:=(Mk.2).1;obtain⟨A,t2,e2,he2,r6,JK⟩:=aTR (h:=L) (id:=bi) (o:=3) (l:=F) ⟨c1,M.vA,hv⟩ Ab x.node (e:=⟨{F[p].c with node:=d.node},F[p].v,F[p].ok⟩) (by unfold iQ;simp only;omega);have hei:IM x.node F=(p:Int):=by rw[Wm,Gj,ep]
     rw[hei,Aa Ab,A6] at JK;have w4:=(M.KJ (u:=A) (l:=b2.AX.set p {F[p].c with node:=d.node})).If (u:=t2);have x4:=x3.trans (FF ((Be (k:=3) (v:=A)).trans (BX.De (u:=t2) (M.KJ (u:=A) (l:=b2.AX.set p {F[p].c with node:=d.node})))) ai);have z:(put L bi 3 A++t2)[ai]?=_:=(An (by rw[Kr];exact ai3)).trans ((Cq iP).trans st3);generalize put L bi 3 A++t2=g at*;have Ħ:=(ok2.nh (i:=d) (k:=k+(n+1)) ⟨f.has,f.kind⟩ (by rw[Qn];exact ux)).ni (e:={F[p].c with node:=d.node}) (k:=p) ⟨f.has,f.kind⟩ (by simp only[Rn];exact hna);have rm4:BW {b2 with AJ:=b2.AJ.set (k+(n+1)) d,AX:=b2.AX.set p {F[p].c with node:=d.node}} (m+4*n+1):=by
      refine⟨YG.n,YG.at_,YG.data,by simp only[Bw];exact YG.AJ,by simp only[Bw];exact YG.AX,YG.tm,λe he=>?_,λi hi=>?_⟩
      .rcases DY he with he|rfl
       .exact YG.DU e he
       .exact Mk
      .rcases DY hi with hi|rfl
       .exact YG.YD i hi
       .exact aKt
     have S:A8 g none (Pt ai 13)=some (I s.2.1):=At.load ⟨_,z,rfl⟩;have l9:A8 g none (Pt ai 9)=some (I far.node):=At.load ⟨_,z,rfl⟩;have t4:At g ai 4 (I (s.2.2:Int)):=⟨_,z,rfl⟩;obtain⟨XU,Zm⟩:∃XU:Nat,XU=if s.2.1=far.node then p+1 else s.2.2:=⟨_,rfl⟩
     have e5:put g ai 4 (I (XU:Int))=if s.2.1=far.node then put g ai 4 (I ((p+1:Nat):Int)) else g:=by
      rw[Zm];split;.rfl
      .exact t4.same
     have Q:=IP (k:=4) (v:= I (XU:Int)) z;have w5:BX (put g ai 4 (I (XU:Int))) bi a J A t G2 {b2 with AJ:=b2.AJ.set (k+(n+1)) d,AX:=b2.AX.set p {F[p].c with node:=d.node}}:=w4.Dt λj hj=>Cq λe=>Va (e▸hj);have x5:=x4.trans (SN (k:=4) (v:= I (XU:Int)));have ai5:ai<(put g ai 4 (I (XU:Int))).length:=by have:=x5.len;omega
     have t5:A8 (put g ai 4 (I (XU:Int))) none (Pt ai 13)=some (I s.2.1):=At.load ⟨_,Q,rfl⟩;generalize hh5:put g ai 4 (I (XU:Int))=h5 at*;obtain⟨h6,G6,r7,w6,x6⟩:=bl (x:=s.2.1) (p:=d.node) (bf:=0) w5 Ħ.ba rm4;rw[XT (by exact f.kind)] at w6;have X:¬BD bi G6 ai:=λhg=>by
      rcases x6.BD ai hg with hg|hg
      .exact Va hg
      .omega
     have P:h6[ai]?=_:=(x6.old ai ai5 Va).trans Q;have t6:At h6 ai 13 (I s.2.1):=⟨_,P,rfl⟩;have st7:=IP (k:=13) (v:= I d.node) P;have w7:BX (put h6 ai 13 (I d.node)) bi a J A t G6 _:=w6.Dt λj hj=>Cq λe=>X (e▸hj);have fR:Eo fe.c.node (b2.AX.set p {F[p].c with node:=d.node})=Eo fe.c.node s.1.AX:=by rw[Rn];exact bw i.ZA hp W hnf
     rw[<-Zm] at Y;have D:=i.step Y.symm w7 (⟨_,by rw[Fa,Gj,he2,Rn],JK⟩) (by simp only;rw[st7,fR];rfl) X ((x5.trans (FF x6 ai)).trans (SN (k:=13) (v:= I d.node))) (by simp only;rw[fR];exact i.ZA) (by simp only;rw[Zm];have:=i.mkb;split<;>omega);have T:=BB p;have R:BF cx 398 [Pt bi 3,I x.node,.agg [I d.node,.str F[p].c.name,F[p].v]] L (.bool (decide (0<=IM x.node F))) g:=r6;rw[CC.row] at e1 B;by_cases Vg:s.2.1=far.node
     .rw[Ae Vg] at e5;have s5:Cv g 1 (Pt ai 4) (I ((p+1:Nat):Int))=some h5:=by rw[e5];exact t4.store rfl
      simp only[abS,Nat.reduceLeDiff,↓reduceIte,AP,Fh,ĩ,K,inc,r2,Pu,EC,(Ab:¬(p:Int)<0),l3,e1,l5,B,BK,r4,r5,AY.cells F[p].ok,R,S,l9,Aw Vg,T,s5,t5,r7,t6.store (u:= I d.node) rfl,dec];exact AM.next n rfl ⟨_,_,_,_,D⟩ Ab
     .rw[Aa Vg] at e5;subst e5;simp only[abS,Nat.reduceLeDiff,↓reduceIte,AP,Fh,ĩ,K,inc,r2,Pu,EC,(Ab:¬(p:Int)<0),l3,e1,l5,B,BK,r4,r5,AY.cells F[p].ok,R,S,l9,Vg,r7,t6.store (u:= I d.node) rfl,dec];exact AM.next n rfl ⟨_,_,_,_,D⟩ Ab
 obtain⟨r,h',hr,rfl,o',c',G',s',e',i'⟩:=Jy.ret;exact⟨h',o',c',G',s',hr,e',i'⟩
end
section
variable{h h':Ak}{bi a ai:Nat}{o c t:Ad}{G G' F:Nat->Prop}{b b':BS}{x:Int}{m:Nat}
variable{nm:Aj}{av:Ad}{l:List Bb}{r:List Ad}{sp p:Int}{e:CC}{at_ mk last:Int}{anc far:Item}
def Ca.find(i:Ca b.AX c)(w:BX h bi a o c t G b)(e:BW b m)(nm:Aj):BF cx 321 [Pt bi 3,zk nm] h (I (D2 nm b.AX)) h:=by let⟨fs,d,f⟩:=i;let j:=e.AX;have:=aN1 w.vA f (by rw[<-d,Ao] at j;omega) nm;rwa [vB,d] at this
def fS(d:wn h<=ai)(x:Dx h (ON ai bi G) h' (ON ai bi G')):Dx h (BD bi G) h' (BD bi G'):=
 ⟨x.len,λi a e=>x.old i a λb=>by
  obtain rfl|b:=b
  .omega
  .exact e b,λi a=>by
  rcases x.BD i (zf a) with(rfl|h)|h
  .exact zf d
  .exact z2 h
  .exact zf h⟩
def P3{nm:Aj}{l:List B9}(h:0<=D2 nm l):∃p:Nat,∃hp:p<wn l,D2 nm l=p:=by
 let a:∀r:List B9,SE nm r<wn r:=by
  intro r;induction r with
  |nil=>show(-1)<0;decide
  |cons x r ih=>rw[SE,Bg];split<;>(try split)<;>omega
 have:=a l.reverse;rw[JO] at this;exact⟨(D2 nm l).toNat,by rw[D2] at h⊢;omega,Ab⟩
def yr{l:List B9}{f:Nat}(c:((l.map B9.node).filter λn=>decide (n≠0)).Nodup)(e:f<wn l)(b:l[f].node≠0):Eo l[f].node l=f:=by
 rw[Eo];rw[Aa b];refine Li e (by simp[eH]) λj d h=>?_;by_cases a:l[j].node=l[f].node
 .exfalso;have:l=l.take j++l[j]::l.drop (j+1):=by rw[<-AI d,CU]
  rw[this,BJ,Bn,FY,ID,Ae (by simpa[a] using b),C2] at c;exact c.2.2 l[f].node (GN.2 ⟨Rv (List.mem_take_iff_getElem.2 ⟨f,Ab,rfl⟩),zv b⟩) l[j].node AF a.symm
 .simp[eH,a]
def b_{v:DH}:Dx h (Am.ON ai bi G) (h.set ai v) (Am.ON ai bi G):=⟨Bw▸Af _,λi _ b=>Av λe=>b (z2 e.symm),λ_ h=> z2 h⟩
section
variable(a:h[ai]?=some (.cells (GV e at_ mk anc far last)))
def aKv(i:Item):Cv h 4 (Pt ai 5) (zb i.row)=zx (h.set ai (zu (GV e at_ mk i far last))):=by rw[Cv,a];rfl
def aKw(i:Item):Cv h 4 (Pt ai 9) (zb i.row)=zx (h.set ai (zu (GV e at_ mk anc i last))):=by rw[Cv,a];rfl
def aKx:A8 h (zx 3) (Pt ai 0)=zx (zb e.row):=by rw[A8,a];rfl
end
def Uf{A:Ar}{n x:Int}{l:List Int}:xi A n (l++[x])=(xi A n l).Gu n x 0:=by rw[xi];rw[List.foldl_append];rfl
def aUu(w:BX h bi a o c t G b)(hc:Ca b.AX c)(ok:E4 b)(rm:BW b (m+4*b.AJ.length+10))(nm:Aj):
  ∃h' o' c' G',BF cx 183 [Pt bi 0,.str nm] h (.bool (b.round nm).1) h'/\BX h' bi a o' c' t G' (b.round nm).2/\Ca (b.round nm).2.AX c'/\Dx h (BD bi G) h' (BD bi G'):=by
 have ho:=rm.AJ;have Rn:=rm.AX;let Z:=hc.find w rm nm;by_cases hf:D2 nm b.AX<0
 .obtain⟨h2,o2,r2,P,x2⟩:=aKo w rm nm;let e:b.round nm=(zr,b.CZ nm):=by unfold BS.round;simp only;rw[Ae hf]
  let ea:(b.CZ nm).AX=b.AX:=by
   unfold BS.CZ;split;.split<;>rfl
   .rfl
  rw[e];exact⟨h2,o2,c,G,by rw[Ac,O3,pc];simp only[abS,Nat.reduceLeDiff,↓reduceIte,AP,Z,hf,r2],P,by rw[ea];exact hc,x2⟩
 obtain⟨f,Iq,ef⟩:=P3 (KN.1 hf);let gm:¬(f:Int)<0:=Ab;rw[ef] at Z;let JU:=hc;obtain⟨fs,Gj,hv⟩:=JU;let aUv:b.AX.length=fs.length:=by rw[<-Gj,Ao]
 have K:fs[f].c=b.AX[f]:=by simp only[<-Gj,C4]
 let l3:=w.l3;have e1:=wu (k:= .i64) hv (Ab:f<fs.length);generalize hfe:fs[f]=fe at*;let aM:b.AX.getD f B9.zero=fe.c:=by rw[A3,Ap Iq];exact K.symm
 let w1:=w.If (u:=[.cells (GV fe (f:Int) (f:Int) Item.zero Item.zero 0)]);let z:(h++[DH.cells (GV fe (f:Int) (f:Int) Item.zero Item.zero 0)])[h.length]?=some (.cells (GV fe (f:Int) (f:Int) Item.zero Item.zero 0)):=AF;let x1:Dx h (BD bi G) (h++[DH.cells (GV fe (f:Int) (f:Int) Item.zero Item.zero 0)]) (BD bi G):=w.De;let OT:¬BD bi G h.length:=by
  rintro(e|hg);.exact absurd w.lt Ab
  .exact absurd (w.w.lt hg) (DT _)
 obtain⟨D,y⟩:∃D,D=h++[z8 (GV fe f f zs zs 0)]:=⟨_,rfl⟩;rw[<-y] at w1 z x1;let l0:A8 D none (Pt h.length 0)=some (I fe.c.node):=y4 ⟨_,z,rfl⟩;let r2:=jT w1.sA Ab fe.c.node;let Zu:GV fe f f zs zs 0=[I fe.c.node,.str fe.c.name,fe.v,I f,I f,I 0,I 0,S [],ff,I 0,I 0,S [],ff,I 0]:=rfl;rw[Zu] at y;rw[zg] at e1;by_cases hk:A7 (Bz fe.c.node) b.AJ<0
 .obtain⟨h2,c2,X,P,KB,_,x2⟩:=yq w1 hc rm z OT Iq ⟨Ab,Ab⟩ ⟨Ab,Ab⟩;let e:b.round nm=(zr,{b with AX:=Bl b.AX f}):=by unfold BS.round;simp only;rw[Aa hf,ef,A6,aM,Ae hk]
  rw[e];exact⟨h2,o,c2,G,by rw[Ac,O3,pc];simp only[abS,Nat.reduceLeDiff,↓reduceIte,AP,Z,gm,l3,e1,<-y,l0,r2,hk,X],P,KB,fS (Af _) ((FF x1 h.length).trans x2)⟩
 obtain⟨k,ek⟩:∃k:Nat,A7 (Bz fe.c.node) b.AJ=k:=⟨_,(Ft (KN.1 hk)).symm⟩;obtain⟨Tb,hkq,_⟩:=J5 ek;let bb:¬(k:Int)<0:=Ab;rw[ek] at r2;by_cases hkz:k=0
 .let e:b.round nm=(zr,b):=by unfold BS.round;simp only;rw[Aa hf,ef,A6,aM,Aa hk,Ae (.inl (by rw[ek,hkz];rfl))]
  rw[e];exact⟨D,o,c,G,by rw[Ac,O3,pc];simp only[abS,Nat.reduceLeDiff,↓reduceIte,AP,Z,gm,l3,e1,<-y,l0,r2,bb,Aw (Ab:(k:Int)=0)],w1,hc,x1⟩
 let cj:¬(k:Int)=0:=Ab;let X:=aNS w1.sA Ab 1 fe.c.node;by_cases TW:HG (Bz fe.c.node) (GZ 1) b.AJ.reverse=zr
 .let e:b.round nm=(zr,b):=by unfold BS.round;simp only;rw[Aa hf,ef,A6,aM,Aa hk,Ae (.inr TW)]
  rw[e];exact⟨D,o,c,G,by rw[TW] at X;rw[Ac,O3,pc];simp only[abS,Nat.reduceLeDiff,↓reduceIte,AP,Z,gm,l3,e1,<-y,l0,r2,bb,cj,X],w1,hc,x1⟩
 let aKy:HG (Bz fe.c.node) (GZ 1) b.AJ.reverse=z9:=by simpa using TW
 rw[aKy] at X;let r4:=aTy w1.sA Ab fe.c.node;let hor:¬(A7 (Bz fe.c.node) b.AJ=0\/HG (Bz fe.c.node) (GZ 1) b.AJ.reverse=zr):=by rw[ek];rintro(h|h);exact cj h;exact TW h
 by_cases hfa:Ef fe.c.node b.AJ<0
 .let e:b.round nm=(zr,{b with AJ:=Ii fe.c.node b.AJ,AX:=Bl b.AX f}):=by unfold BS.round;simp only;rw[Aa hf,ef,A6,aM,Aa hk,Aa hor,Ae hfa]
  obtain⟨u,r5,hu⟩:=aNY w1.sO Ab fe.c.node;let P:=w1.IB hu;let H:(put D bi 2 u)[h.length]?=_:=(Cq (λe=>OT (.inl e))).trans z;obtain⟨h3,c3,r6,w3,Pu,_,x3⟩:=yq P hc ((rm.le (m':=0) Ab).sub rfl I1 (AW _) (Af _)) H OT Iq ⟨Ab,Ab⟩ ⟨Ab,Ab⟩;rw[e];exact⟨h3,u,c3,G,by rw[Ac,O3,pc];simp only[abS,Nat.reduceLeDiff,↓reduceIte,AP,Z,gm,l3,e1,<-y,l0,r2,bb,cj,X,r4,hfa,r5,r6],w3,Pu,fS (Af _) ((FF (x1.trans Be) h.length).trans x3)⟩
 obtain⟨N,hN,eN⟩:∃N:Nat,k+1+N<b.AJ.length/\Ef fe.c.node b.AJ=(k+1+N:Nat):=by
  let qi:=hfa;rw[J0,Aa hk,ek,A6] at qi⊢;unfold FQ at qi⊢;split at qi;.rename_i j hj;have:=(Fu.1 hj).1;rw[Bp] at this;exact⟨j,Ab,Ab⟩
  .omega
 obtain⟨d,ï⟩:∃d,d=b.AJ[k+1+N]:=⟨_,rfl⟩;obtain⟨an,han⟩:∃an,an=b.AJ[k-1]'(by omega):=⟨_,rfl⟩;let ů:b.AJ.getD (k+1+N) zs=d:=by rw[A3,Ap hN,ï];rfl
 let hga:b.AJ.getD (k-1) zs=an:=by rw[A3,Ap Ab,han];rfl
 let e:b.round nm=(z9,vx fe.c d.node an.node (wl d.node an.node (k+1+N) k N (b,d.node,f))):=by
  unfold BS.round;simp only
  rw[Aa hf,ef,A6,aM,Aa hk,Aa hor,Aa hfa,ek,eN,A6,A6,ů,hga,(Ab:k+1+N-1 -k=N)]
 let ú:=ok.op d (by rw[ï];exact SO _ Ab);let aKz:b.AJ[k].node=fe.c.node:=by simpa[Bz] using hkq
 let aFO:b.a.has fe.c.node:=by rw[<-aKz];exact(ok.op _ (SO _ Ab)).1
 let aFP:b.AX[f].node≠0:=by rw[<-K];have:=aFO.1;omega
 let fR:=yr ok.mz Iq aFP;rw[<-K] at fR;let Mk:=rm.DU _ (AV Iq);rw[<-K] at Mk;let Za:=IK (n:=k) Ab Ab;let r5:=Zg w1.sA (k-1:Nat);rw[Gg Ab,<-han] at r5;let r6:=Zg w1.sA (k+1+N:Nat);rw[Gg hN,<-ï] at r6;have s5:=aKv z an;let ZE:h.length<D.length:=(Aq.1 z).1;let hbn:h.length≠bi:=λe=>OT (.inl e);have H:(D.set h.length (.cells (GV fe f f an Item.zero 0)))[h.length]?=_:=AT ZE;have P:BX (D.set h.length (.cells (GV fe f f an Item.zero 0))) bi a o c t G b:=w1.Dt λj hj=>Av λe=>OT (by rw[e];exact hj);have x2:=(FF x1 h.length).trans (b_ (v:= .cells (GV fe f f an Item.zero 0)));generalize D.set h.length (.cells (GV fe f f an zs 0))=H2 at*;have s6:=aKw H d;let Zb:h.length<H2.length:=(Aq.1 H).1;have V:(H2.set h.length (.cells (GV fe f f an d 0)))[h.length]?=_:=AT Zb;have w3:BX (H2.set h.length (.cells (GV fe f f an d 0))) bi a o c t G b:=P.Dt λj hj=>Av λe=>OT (by rw[e];exact hj);have x3:=x2.trans (b_ (v:= .cells (GV fe f f an d 0)));generalize H2.set h.length (.cells (GV fe f f an d 0))=H3 at*;let l9:A8 H3 none (Pt h.length 9)=some (I d.node):=y4 ⟨_,V,rfl⟩;let t13:At H3 h.length 13 (I 0):=⟨_,V,rfl⟩;have s7:=t13.store (u:= I d.node) rfl;have st4:=IP (k:=13) (v:= I d.node) V;have w4:BX (put H3 h.length 13 (I d.node)) bi a o c t G b:=w3.Dt λj hj=>Cq λe=>OT (by rw[<-e];exact hj);have x4:=x3.trans (SN (k:=13) (v:= I d.node));generalize put H3 h.length 13 (I d.node)=H4 at*;let i0:bz H4 bi a h.length t G fe an d k N (m+10) (b,d.node,f) N H4 o c G (b,d.node,f):=
  ⟨Af _,w4,hc,ok,rm.le Ab,ú.1,by rw[fR];exact st4,OT,.refl,by rw[fR];omega,by show f<=1000000000;omega,rfl,DO,rfl,aFO⟩
 let le0:=(ZH (blk:=d.node) (anc:=an.node) (far:=k+1+N) (k:=k) (c:=N) (s:=(b,d.node,f)) ok ú.1).2.2;obtain⟨h5,o5,c5,G5,s',r7,es,i⟩:=aO1 i0 Ab ek hN;rw[<-es] at le0 e;obtain⟨q,hq,ò,hq0,hq2,hq3⟩:=HJ i.ZA;let J:=i.st;rw[ò] at J;have hmk:=i.mkb;let iP:h.length≠bi:=hbn;let l5:A8 h5 none (Pt h.length 5)=some (I an.node):=y4 ⟨_,J,rfl⟩;obtain⟨u6,r8⟩:=aFE i.w i.ok.ba i.rm an.node;let w6:=i.w.If (u:=u6);let w6':=i.w.De (u:=u6);let hl5:h.length<h5.length:=(Aq.1 J).1;let st6:(h5++u6)[h.length]?=_:=(An hl5).trans J;let l13:A8 (h5++u6) none (Pt h.length 13)=some (I s'.2.1):=y4 ⟨_,st6,rfl⟩;let hl6:h.length<(h5++u6).length:=by rw[As];omega
 obtain⟨h7,G7,r9,w7,x7⟩:=bl (x:=s'.2.1) (p:=(s'.1.place an.node).1) (bf:=(s'.1.place an.node).2) w6 i.ok.ba i.rm;let hn7:¬BD bi G7 h.length:=λhg=>by
  rcases x7.BD h.length hg with hg|hg
  .exact i.hn hg
  .omega
 let E:h7[h.length]?=_:=(x7.old h.length hl6 i.hn).trans st6;let l3b:A8 h7 (some 3) (Pt h.length 0)=some (.agg fe.row):=aKx E;let l9b:A8 h7 none (Pt h.length 9)=some (I d.node):=y4 ⟨_,E,rfl⟩;obtain⟨r,cm,hr⟩:=aBm fe h7;let le7:Le s'.1.a (s'.1.a.E8 s'.2.1 (s'.1.place an.node).1 (s'.1.place an.node).2):=JF;let ok7:=i.ok.IN (O1 (n:=s'.2.1) (p:=(s'.1.place an.node).1) (b:=(s'.1.place an.node).2) i.ok.ok) le7;let W:=i.rm.IN (LB (x:=s'.2.1) (p:=(s'.1.place an.node).1) (bf:=(s'.1.place an.node).2));obtain⟨b2,Rk⟩:∃b2,b2={s'.1 with a:=s'.1.a.E8 s'.2.1 (s'.1.place an.node).1 (s'.1.place an.node).2}:=⟨_,rfl⟩;let i7:b2.AJ=s'.1.AJ:=by rw[Rk]
 let KB:b2.AX=s'.1.AX:=by rw[Rk]
 let le2:Le s'.1.a b2.a:=by rw[Rk];exact le7
 rw[<-Rk] at w7 ok7 W;obtain⟨O,G8,r11,w8,x8⟩:=aBc (m:=m+7) w7 ok7.ba (W.le Ab) hr fe.ok Mk.2 Mk.1 d.node 1;obtain⟨A,fr,le8⟩:=SG (nm:=fe.c.name) (at_:=fe.c.Al) (p:=d.node) ok7 KP;let B:=Kv (m:=m+7) (nm:=fe.c.name) (l:=fe.c.Al) (sp:=1) (p:=d.node) (W.le Ab) Mk.2;obtain⟨g,hnw⟩:∃g,g=b2.Hv fe.c.name fe.c.Al 1:=⟨_,rfl⟩;obtain⟨F,ĥ⟩:∃F,F=b2.EL fe.c.name fe.c.Al 1 d.node:=⟨_,rfl⟩;let ho3:F.AJ=s'.1.AJ:=by rw[ĥ,<-i7];unfold BS.EL;rw[Ae KP]
 let Pu:F.AX=s'.1.AX:=by rw[ĥ,<-KB];unfold BS.EL;rw[Ae KP]
 rw[<-hnw] at r11 fr;rw[<-ĥ] at w8 A fr le8 B;let hl7:h.length<h7.length:=(Aq.1 E).1;let hn8:¬BD bi G8 h.length:=λhg=>by
  rcases x8.BD h.length hg with hg|hg
  .exact hn7 hg
  .omega
 let U:O[h.length]?=_:=(x8.old h.length hl7 hn7).trans E;let l9c:A8 O none (Pt h.length 9)=some (I d.node):=y4 ⟨_,U,rfl⟩;obtain⟨kv,r12,ym⟩:∃v,BF cx 297 [Pt a 0,I d.node] O v O/\Em (F.a.nd d.node).Bj v:=let⟨n',m',ps,wa⟩:=w8.w.pa;aHn wa B.V6 (B.V6.Bj A.ok d.node)
 have aO8:(F.a.nd d.node).Bj.length<=1000000000:=B.V6.Bj A.ok d.node;have Zv:g.row=[I g.node,I g.Bk,.str g.name,.bool g.OZ]:=rfl;rw[zg] at cm l3b;let Jy:Ev cx 183 [Pt bi 0,.str nm] h λr h'=>r= .bool z9/\∃o' c' G',BX h' bi a o' c' t G' (vx fe.c d.node an.node s')/\Ca (vx fe.c d.node an.node s').AX c'/\Dx h (BD bi G) h' (BD bi G'):=by
  unfold Ev;rw[O3,pc];simp only[abS,Nat.reduceLeDiff,↓reduceIte,AP,Z,gm,l3,e1,<-y,l0,r2,bb,cj,X,r4,eN,(Ab:¬((k+1+N:Nat):Int)<0),Za,r5,r6,s5,s6,l9,s7];simp only[abS,r7,l5,r8];simp only[abS,l13,r9];simp only[By,l3b,l9b];simp only[abS,↓reduceIte,Fh,cm,BK,r11,l9b];simp only[By,w8.l0,l9c,r12,AY.CQ ym];let x8':Dx h (ON h.length bi G) O (ON h.length bi G8):=(((x4.trans i.x).trans (FF w6' h.length)).trans (FF x7 h.length)).trans (FF x8 h.length);refine DD (i:=0) (λj:Nat=>[I j]) (λj C=>j<=(F.a.nd d.node).Bj.length/\∃L,BX C bi a o5 c5 t L {F with a:=xi F.a g.node ((F.a.nd d.node).Bj.take j)}/\E4 {F with a:=xi F.a g.node ((F.a.nd d.node).Bj.take j)}/\BW {F with a:=xi F.a g.node ((F.a.nd d.node).Bj.take j)} (m+7)/\Dx O (BD bi G8) C (BD bi L)) (λj=>(F.a.nd d.node).Bj.length-j)
   (λj C=>j=(F.a.nd d.node).Bj.length/\∃L,BX C bi a o5 c5 t L {F with a:=xi F.a g.node ((F.a.nd d.node).Bj.take j)}/\E4 {F with a:=xi F.a g.node ((F.a.nd d.node).Bj.take j)}/\BW {F with a:=xi F.a g.node ((F.a.nd d.node).Bj.take j)} (m+7)/\Dx O (BD bi G8) C (BD bi L)) 0 rfl ⟨AZ _,G8,w8,A,B,.refl⟩ ?_ ?_
  .rintro j C ⟨hj,L,w9,qj,yt,x9⟩;rcases AQ j (F.a.nd d.node).Bj.length with hlt|EC
   .let e9:=wu (k:= .i64) ym hlt;obtain⟨Wj,M,Y,XV,ql⟩:=bl (x:=(F.a.nd d.node).Bj[j]) (p:=g.node) (bf:=0) w9 qj.ba yt;let lej:=(O2 (n:=g.node) (l:=(F.a.nd d.node).Bj.take j) A.ok).2;rw[XT (by show((xi F.a g.node ((F.a.nd d.node).Bj.take j)).nd g.node).kind=4;rw[lej.kind _ fr.has];exact fr.kind)] at XV;let hs:xi F.a g.node ((F.a.nd d.node).Bj.take (j+1))=(xi F.a g.node ((F.a.nd d.node).Bj.take j)).Gu g.node (F.a.nd d.node).Bj[j] 0:=by rw[AG hlt,Uf]
    rw[BM] at e9;simp[(Ab:(j:Int)<((F.a.nd d.node).Bj.length:Int)),e9,Y,BB j];refine .next (j+1) rfl ⟨hlt,M,by rw[hs];exact XV,?_,?_,x9.trans ql⟩ Ab
    .have:=qj.IN (QN (p:=g.node) (n:=(F.a.nd d.node).Bj[j]) (b:=0) qj.ok) O0;rw[hs];exact this
    .have:=yt.IN (Ku (p:=g.node) (x:=(F.a.nd d.node).Bj[j]) (bf:=0));rw[hs];exact this
   .simp only[abS,(Ab:¬j<((F.a.nd d.node).Bj.length:Int))];exact .HT j rfl ⟨Ab,L,w9,qj,yt,x9⟩
  .rintro j C ⟨rfl,L,w9,qj,yt,x9⟩;rw[Bx] at w9 qj yt;let hl8:h.length<O.length:=(Aq.1 U).1;let hn9:¬BD bi L h.length:=λhg=>by
    rcases x9.BD h.length hg with hg|hg
    .exact hn8 hg
    .omega
   let T:C[h.length]?=_:=(x9.old h.length hl8 hn8).trans U;let l9d:A8 C none (Pt h.length 9)=some (I d.node):=y4 ⟨_,T,rfl⟩;let le9:=(O2 (n:=g.node) (l:=(F.a.nd d.node).Bj) A.ok).2;let lef:Le b.a (BS.C0 F.a g.node (F.a.nd d.node).Bj):=((le0.trans le2).trans le8).trans le9;obtain⟨Wj,M,Y,XV,ql⟩:=bl (x:=g.node) (p:=d.node) (bf:=0) w9 qj.ba yt;rw[XT (by show((xi F.a g.node (F.a.nd d.node).Bj).nd d.node).kind=4;rw[lef.kind _ ú.1];exact ú.2)] at XV;let wW:h.length<C.length:=(Aq.1 T).1;let aUA:¬BD bi M h.length:=λhg=>by
    rcases ql.BD h.length hg with hg|hg
    .exact hn9 hg
    .omega
   let aO9:Wj[h.length]?=_:=(ql.old h.length wW hn9).trans T;let l3c:A8 Wj none (Pt h.length 3)=some (I (q:Int)):=y4 ⟨_,aO9,rfl⟩;let aUB:=yt.IN (Ku (p:=d.node) (x:=g.node) (bf:=0));let aFR:Ca ({F with a:=(xi F.a g.node (F.a.nd d.node).Bj).Gu d.node g.node 0}:BS).AX c5:=by simp only;rw[Pu];exact i.hc
   have hqa:=i.rm.AX;obtain⟨cQ,Tj,r14,R,û,aFU,x11⟩:=yq XV aFR aUB aO9 aUA (k:=q) (by simp only;rw[Pu];exact hq) ⟨Ab,Ab⟩ ⟨Ab,Ab⟩;simp only at R û;let l1:A8 cQ none (Pt h.length 1)=some (.str fe.c.name):=y4 ⟨_,aFU,rfl⟩;let l2:A8 cQ none (Pt h.length 2)=some fe.v:=y4 ⟨_,aFU,rfl⟩;let l4:A8 cQ none (Pt h.length 4)=some (I (down q (s'.2.2:Int))):=y4 ⟨_,aFU,rfl⟩;obtain⟨fs2,aKD,Rw⟩:=û;let a0o:F.AX.length=s'.1.AX.length:=by rw[Pu]
   have a0p:fs2.length<=900000000:=by have h1:=Cx List.length aKD;rw[Ao,Iw (by rw[Pu];exact hq)] at h1;omega
   have aUs:=Mk.2.1;obtain⟨u1,e2,he2,r15,Rx⟩:=aTP (h:=cQ) (id:=bi) (o:=3) (l:=fs2) ⟨Tj,R.vA,Rw⟩ Ab (e:=⟨{fe.c with node:=g.node},fe.v,fe.ok⟩) (by unfold iQ;simp only;omega) (down q (s'.2.2:Int));let aUC:BF cx 326 [Pt bi 3,.agg [I g.node,.str fe.c.name,fe.v],I (down q (s'.2.2:Int))] cQ (.tuple []) (put cQ bi 3 u1):=r15;obtain⟨XU,Zm⟩:∃XU:Nat,XU=if q<s'.2.2 then s'.2.2 -1 else s'.2.2:=⟨_,rfl⟩
   let aBp:down q (s'.2.2:Int)=(XU:Int):=by rw[Zm];unfold down;split<;>split<;>omega
   let w12:=R.KJ (u:=u1) (l:=(Bl F.AX q).take (CX XU (Bl F.AX q).length)++{fe.c with node:=g.node}::(Bl F.AX q).drop (CX XU (Bl F.AX q).length));let aFV:Ca ((Bl F.AX q).take (CX XU (Bl F.AX q).length)++{fe.c with node:=g.node}::(Bl F.AX q).drop (CX XU (Bl F.AX q).length)) u1:=by exact⟨_,by rw[aBp,BJ,Bn,E1,JA,aKD,he2,<-aKD,Ao],Rx⟩
   have hob:=i.rm.AJ;obtain⟨u2,r16,JK⟩:=aAX w12.sO (by simp only;rw[ho3];omega) fe.c.node;let Q:=w12.IB JK;have gd:(Cn fe.c.node F.AJ).length<=s'.1.AJ.length:=by rw[<-ho3];exact Hp.length_le
   let aUD:(put (put cQ bi 3 u1) bi 2 u2)[h.length]?=_:=(Cq iP).trans ((Cq iP).trans aFU);let l9e:A8 (put (put cQ bi 3 u1) bi 2 u2) none (Pt h.length 9)=some (I d.node):=y4 ⟨_,aUD,rfl⟩;let r17:=jT Q.sA DO d.node;let hli: -1<=A7 (Bz d.node) (Cn fe.c.node F.AJ)/\A7 (Bz d.node) (Cn fe.c.node F.AJ)<=(Cn fe.c.node F.AJ).length:=by rcases DJ (q:=Bz d.node) (l:=Cn fe.c.node F.AJ) with⟨h,_⟩|⟨n,h1,h2,_⟩<;>omega
   let add:=QK (a:=A7 (Bz d.node) (Cn fe.c.node F.AJ)) (b:=1) Ab Ab;obtain⟨u3,r18,hu3⟩:=aTD Q.sO DO g (A7 (Bz d.node) (Cn fe.c.node F.AJ)+1);let w14:=Q.IB hu3;simp only[abS,Nat.reduceLeDiff,↓reduceIte,AP,Fh,l9d,Y,l3c,r14,l1,l2,AY.cells fe.ok,l4,aUC,r16,l9e,r17,add,r18];let hE:vx fe.c d.node an.node s'={F with a:=(xi F.a g.node (F.a.nd d.node).Bj).Gu d.node g.node 0,AX:=(Bl F.AX q).take (CX XU (Bl F.AX q).length)++{fe.c with node:=g.node}::(Bl F.AX q).drop (CX XU (Bl F.AX q).length),AJ:=(Cn fe.c.node F.AJ).take (ET (A7 (Bz d.node) (Cn fe.c.node F.AJ)+1) (Cn fe.c.node F.AJ).length)++g::(Cn fe.c.node F.AJ).drop (ET (A7 (Bz d.node) (Cn fe.c.node F.AJ)+1) (Cn fe.c.node F.AJ).length)}:=by
    let Ŵ:Eo fe.c.node F.AX=(q:Int):=by rw[Pu];exact ò
    unfold BS.HW;simp only
    rw[<-Rk,<-ĥ,<-hnw,Ŵ,A6,<-Zm]
   rw[hE];refine⟨_,rfl,rfl,u3,u1,M,w14,aFV,fS (Af _) ?_⟩;exact((((x8'.trans (FF (x9.trans ql) h.length)).trans x11).trans (FF Be h.length)).trans (FF Be h.length)).trans (FF Be h.length)
 obtain⟨r,h',hr,rfl,o',c',G',w',JU,x'⟩:=Jy.ret;rw[e];exact⟨h',o',c',G',hr,w',JU,x'⟩
end
section
variable{h R:Ak}{P a ai:Nat}{o c t:Ad}{G O F:Nat->Prop}{b b':BS}{x:Int}{m:Nat}
variable{nm:Aj}{av:Ad}{l:List Bb}{r:List Ad}{sp p:Int}{e:CC}{at_ T last:Int}{anc far:Item}
def ü{c d:Int}{a i:Nat}{l:Int}{T:Nat}:(BS.Gl c d a i b l T).1.AJ.length<=wn b.AJ:=by
 rw[BS.Gl];simp only
 split;.exact Ds.length_le
 .split;.exact Ds.length_le
  .let e:∀nm l p,(b.EL nm l 1 p).AJ=b.AJ:=λnm l p=>by rw[BS.EL];rw[Ae KP]
   rw[e,Bw];exact Af _
def mI{blk anc:Int}{far k m:Nat}:∀{c:Nat} {s:BS×Int×Nat},BW s.1 (m+4*c)->BW (wl blk anc far k c s).1 m/\(wl blk anc far k c s).1.AJ.length<=s.1.AJ.length
 |0,s,r=>⟨r.le Ab,Af _⟩
 |c+1,s,r=>have d:=QZ (r.le Ab);⟨(mI d).1,BC (mI d).2 ü⟩
def cq{fe:B9}{blk anc:Int}{s:BS×Int×Nat}(r:BW s.1 (m+4))(t:wn fe.name<=1000/\Eg fe.Al):BW (vx fe blk anc s) m/\(vx fe blk anc s).AJ.length<=s.1.AJ.length+1:=by
 rw[vx];simp only
 generalize eR:s.1.place anc=pb;have j:=r.IN (LB (x:=s.2.1) (p:=pb.1) (bf:=pb.2));generalize C:({s.1 with a:=s.1.a.E8 s.2.1 pb.1 pb.2}:BS)=b2 at j;let A:b2.AJ=s.1.AJ:=by rw[<-C]
 have d:=Kv (m:=m+1) (nm:=fe.name) (sp:=1) (p:=blk) (j.le Ab) t.2;have D:(b2.EL fe.name fe.Al 1 blk).AJ=b2.AJ:=by rw[BS.EL];rw[Ae KP]
 have g:(b2.Hv fe.name fe.Al 1).name.length<=1000:=P0 t.1;generalize b2.EL fe.name fe.Al 1 blk=b3 at*;generalize b2.Hv fe.name fe.Al 1=n at*;let c:∀{U:Type} (l:List U) k (y:U),(l.take k++y::l.drop k).length=wn l+1/\∀z∈l.take k++y::l.drop k,z∈l\/z=y:=λl k y=>⟨by rw[As,Bg,Az,Bp];omega,λz b=>by
  obtain b|b:=AA.1 b
  .exact z2 (BQ b)
  .rcases A0.1 b with rfl|b
   .exact zf rfl
   .exact z2 (BU b)⟩
 let h:=Hp (n:=fe.node) (l:=b3.AJ);let v:=Ds (l:=b3.AX) (k:=(Eo fe.node b3.AX).toNat);let f:=(d.IN ((Uc (n:=n.node) (l:=(b3.a.nd blk).Bj)).trans (Ku (p:=blk) (x:=n.node) (bf:=0)))).le (m':=m) Ab;refine⟨⟨f.n,f.at_,f.data,?_,?_,f.tm,λe q=>?_,λi o=>?_⟩,?_⟩;.simp only[(c _ _ _).1];have:=h.length_le;have:=d.AJ;omega
 .simp only[(c _ _ _).1];have:=v.length_le;have:=d.AX;omega
 .rcases(c _ _ _).2 e q with q|rfl
  .exact d.DU e (v.subset q)
  .exact t
 .rcases(c _ _ _).2 i o with o|rfl
  .exact d.YD i (h.subset o)
  .exact g
 .simp only[(c _ _ _).1];let h1:=h.length_le;let h2:=Cx List.length (D.trans A);omega
def Q0(r:BW b (m+4*wn b.AJ+10))(nm:Aj):BW (b.round nm).2 m/\(b.round nm).2.AJ.length<=wn b.AJ+1:=by
 let d:BW b m:=r.le Ab;rw[BS.round];simp only
 split
 .let e:(b.CZ nm).a=b.a/\List.Sublist (b.CZ nm).AJ b.AJ/\(b.CZ nm).AX=b.AX/\(b.CZ nm).tm=b.tm:=by
   rw[vt];split
   .split;.exact⟨rfl,I1.trans Co,rfl,rfl⟩
    .exact⟨rfl,AW _,rfl,rfl⟩
   .exact⟨rfl,AW _,rfl,rfl⟩
  exact⟨d.sub e.1 e.2.1 (e.2.2.1▸AW _) (e.2.2.2▸Af _),BC e.2.1.length_le (Gd _)⟩
 .rename_i q;let⟨f,o,g⟩:=P3 (KN.1 q);let t:b.AX.getD (D2 nm b.AX).toNat B9.zero=b.AX[f]:=by rw[g,A6,A3,Ap o];rfl
  rw[t];split;.exact⟨d.sub rfl (AW _) Ds (Af _),Gd _⟩
  .split;.exact⟨d,Gd _⟩
   .split;.exact⟨d.sub rfl I1 Ds (Af _),BC I1.length_le (Gd _)⟩
    .rename_i hk _ hfa;let hlt:(Ef b.AX[f].node b.AJ).toNat-1 -(A7 (Bz b.AX[f].node) b.AJ).toNat<=wn b.AJ:=by
      rw[J0];split;.omega
      .unfold FQ;split;.rename_i j p;have:=(Fu.1 p).1;rw[Bp] at this;omega
       .omega
     let n:=mI (blk:=(b.AJ.getD (Ef b.AX[f].node b.AJ).toNat zs).node) (anc:=(b.AJ.getD ((A7 (Bz b.AX[f].node) b.AJ).toNat-1) zs).node) (far:=(Ef b.AX[f].node b.AJ).toNat) (k:=(A7 (Bz b.AX[f].node) b.AJ).toNat) (m:=m+4) (c:=(Ef b.AX[f].node b.AJ).toNat-1 -(A7 (Bz b.AX[f].node) b.AJ).toNat) (s:=(b,(b.AJ.getD (Ef b.AX[f].node b.AJ).toNat zs).node,(D2 nm b.AX).toNat)) (r.le Ab);let l:=cq (blk:=(b.AJ.getD (Ef b.AX[f].node b.AJ).toNat zs).node) (anc:=(b.AJ.getD ((A7 (Bz b.AX[f].node) b.AJ).toNat-1) zs).node) n.1 (r.DU _ (AV o));exact⟨l.1,BC l.2 (wb n.2)⟩
def O7:∀{n:Nat} {b:BS} {k:Nat},wn b.AJ<=k->BW b (m+n*(4*(k+n)+10))->BW (BS.EB n b nm) m/\(BS.EB n b nm).AJ.length<=k+n
 |0,b,k,a,r=>⟨r.le Ab,a⟩
 |n+1,b,k,a,r=>by
  let e:(n+1)*(4*(k+(n+1))+10)=n*(4*(k+1+n)+10)+(4*(k+(n+1))+10):=by rw[Ch,GO,(Ab:k+(n+1)=k+1+n)]
  rw[e] at r;let c:=Q0 (m:=m+n*(4*(k+1+n)+10)) (r.le Ab) nm;unfold BS.EB;simp only
  split;.let d:=O7 Ab c.1;exact⟨d.1,Ab⟩
  .exact⟨c.1.le Ab,Ab⟩
def aPc(w:BX h P a o c t G b)(hc:Ca b.AX c)(ok:E4 b)(V:BW b (m+8*(4*(wn b.AJ+8)+10)))(nm:Aj):
  ∃R F l O,BF cx 67 [Pt P 0,zk nm] h (ze []) R/\BX R P a F l t O (b.CJ nm)/\Ca (b.CJ nm).AX l/\Dx h (BD P G) R (BD P O):=by
 let C:=aKh w V;let em:AB (.Df 1) [zk nm]=zx (.sl 1 ([nm].map BY)):=DK rfl AF;let U:BF cx 156 [zb (DZ b.AJ).row,.sl 1 ([nm].map BY)] h (zq (AS [nm] (DZ b.AJ))) h:=py Cc AF _ h;let J:=hc.at w V (DZ b.AJ).node;let H:b.Gk.AX=b.AX:=by rw[BS.Gk];split<;>rfl
 by_cases p:AS [nm] (DZ b.AJ)=z9/\Eo (DZ b.AJ).node b.AX<0
 .let⟨T,u,M,q,j⟩:=aFK w V;let e:b.CJ nm=b.Gk:=by rw[BS.CJ];rw[Ae p]
  rw[e];exact⟨T,u,c,G,by rw[p.1] at U;rw[Ac,pK];simp only[abS,Fh,JN w,C,em,U,J,p.2,M],q,by rw[H];exact hc,j⟩
 let e:b.CJ nm=BS.EB 8 b nm:=by rw[BS.CJ];rw[Aa p]
 rw[e];let Jy:Ev cx 67 [Pt P 0,zk nm] h λr R=>r= ze []/\∃F l O,BX R P a F l t O (BS.EB 8 b nm)/\Ca (BS.EB 8 b nm).AX l/\Dx h (BD P G) R (BD P O):=by
  rw[Ev];rw[pK];let HT:∀(Q:HN) (k:Dz->List Ad->IT),(∀x vs p,(x= vm 0\/x= .ret)->(∃F l O,BX p P a F l t O (BS.EB 8 b nm)/\Ca (BS.EB 8 b nm).AX l/\Dx h (BD P G) p (BD P O))->W cx (k x vs) Q p)->
    W cx (.loop 5 [I 0] (λd=> .op (z4 .lss) [g d 0,I 8] λv14=> .Hs v14 (vg 183 [Pt P 0,zk nm] λB=> .op (.un .not) [B] λv16=> .Hs v16 (.ret .ret [g d 0]) (.op (.int .add) [g d 0,I 1] λA=> .ret .normal [A])) (.ret (vm 0) [g d 0])) k) Q h:=by
   intro Q k hk;refine Bm (λn:Nat=>[I (8 -n:Nat)]) (λn p=>n<=8/\∃E v y D,BX p P a E v t y D/\Ca D.AX v/\E4 D/\BW D (m+n*(4*(wn b.AJ+8)+10))/\wn D.AJ<=wn b.AJ+(8 -n)/\BS.EB 8 b nm=BS.EB n D nm/\Dx h (BD P G) p (BD P y)) (λn=>n) 8 rfl ⟨Af _,o,c,G,b,w,hc,ok,V,Ab,rfl,.refl⟩ ?_;rintro n p ⟨hn,E,v,y,D,w1,Vb,TE,qb,ZE,i,z⟩;cases n
   .simp[(AR:¬(8 -0:Nat)<8)];exact hk _ _ _ (.inl rfl) ⟨E,v,y,by rw[i];exact w1,by rw[i];exact Vb,z⟩
   next n=>
    let hsp:(n+1)*(4*(b.AJ.length+8)+10)=n*(4*(b.AJ.length+8)+10)+(4*(b.AJ.length+8)+10):=by rw[Ch,GO]
    rw[hsp] at qb;let ý:BW D (m+n*(4*(b.AJ.length+8)+10)+4*D.AJ.length+10):=qb.le Ab;obtain⟨T,u,K,L,s,q,KB,j⟩:=aUu w1 Vb TE ý nm;obtain⟨YG,Zb⟩:=Q0 ý nm;let X:((8 -(n+1):Nat):Int)<8:=Ab;let inc:AB (.int .add) [I (8 -(n+1):Nat),I 1]=zx (I (8 -n:Nat)):=by have:=Xv (n:=8 -(n+1)) Ab;rwa [(Ab:8 -(n+1)+1=8 -n)] at this
    let f:BS.EB (n+1) D nm=if(D.round nm).1 then BS.EB n (D.round nm).2 nm else(D.round nm).2:=rfl
    cases hr:(D.round nm).1<;>rw[hr] at s f
    .simp only[abS,X,s];exact hk _ _ _ (.inr rfl) ⟨u,K,L,by rw[i,f];exact q,by rw[i,f];exact KB,z.trans j⟩
    .simp only[abS,X,s,inc];exact AM.next n rfl ⟨Ab,u,K,L,_,q,KB,(eS (nm:=nm) TE).1,YG,Ab,i.trans f,z.trans j⟩ Ab
  by_cases T:AS [nm] (DZ b.AJ)=z9
  .let N:¬Eo (DZ b.AJ).node b.AX<0:=λh=>p ⟨T,h⟩;rw[T] at U;simp only[abS,Fh,JN w,C,em,U,J,N];refine HT _ _ ?_;rintro x vs p (rfl|rfl) ⟨F,l,O,Z,Y,a3⟩;.simp only[By];exact⟨_,rfl,rfl,F,l,O,Z,Y,a3⟩
   .simp only[By];exact⟨_,rfl,rfl,F,l,O,Z,Y,a3⟩
  .let T:AS [nm] (DZ b.AJ)=zr:=zv T
   rw[T] at U;simp only[abS,Fh,JN w,C,em,U];refine HT _ _ ?_;rintro x vs p (rfl|rfl) ⟨F,l,O,Z,Y,a3⟩;.simp only[By];exact⟨_,rfl,rfl,F,l,O,Z,Y,a3⟩
   .simp only[By];exact⟨_,rfl,rfl,F,l,O,Z,Y,a3⟩
 obtain⟨r,R,hr,rfl,F,l,O,w',JU,x'⟩:=Jy.ret;exact⟨R,F,l,O,hr,w',JU,x'⟩
end
structure cr where
 k:Int
 name:Aj
 Al:List Bb
 Bk:Int
 a:Int
 b:Bool
 s:Aj
 r:Int
 n:Int
def P4(h:Int):Item:=⟨h,0,[],zr⟩
noncomputable def fU(b:BS)(q:cr):BS×Item:=
 if q.k=1 then(b.D5 q.name q.Al 1,P4 (b.a.len+1))
 else if q.k=2 then(b.D5 q.name q.Al q.Bk,P4 (b.Lh q.Bk))
 else if q.k=3 then(b.HH q.name q.Al,P4 (b.a.len+1))
 else if q.k=4 then(b.Nf q.r,zs)
 else if q.k=5 then(b.DL q.s q.a,zs)
 else if q.k=6 then(b.DM q.name q.Al q.n,zs)
 else if q.k=7 then(b.BT,zs)
 else if q.k=8 then(b.A4,zs)
 else if q.k=9 then(b.CZ q.name,zs)
 else if q.k=10 then(b.CJ q.name,zs)
 else if q.k=11 then(b.HQ,zs)
 else if q.k=12 then(b.ER q.Al q.a,zs)
 else if q.k=13 then(b.Cu,zs)
 else if q.k=14 then({b with stop:=z9},zs)
 else if q.k=15 then({b with FW:=q.b},zs)
 else if q.k=16 then({b with tm:=b.tm++[q.n]},zs)
 else if q.k=17 then({b with AX:=b.AX++[B9.zero]},zs)
 else if q.k=18 then(b.Gk,b.pC)
 else if q.k=19 then({b with head:=q.a},zs)
 else if q.k=20 then({b with mode:=q.n},zs)
 else if q.k=21 then({b with AX:=Et b.AX},zs)
 else if q.k=22 then({b with AJ:=Dg Cl (AS [q.name]) b.AJ},zs)
 else if q.k=23 then({b with Fx:=q.a},zs)
 else if q.k=24 then(b.EL q.name q.Al q.Bk q.a,b.Hv q.name q.Al q.Bk)
 else(b,zs)
structure Ī(q:cr):Prop where
 name:wn q.name<=1000
 Al:Eg q.Al
 s:wn q.s<=1000
 r: -2147483648<=q.r/\q.r<=2147483647
section
variable{b:BS}{q:cr}{m j:Nat}
def aKE(o:E4 b){nm:Aj}{l:List Bb}{sp p:Int}:E4 (b.EL nm l sp p):=by
 by_cases a:x0 sp;.exact(SG o a).1
 .unfold BS.EL;rwa[Aa a]
def vM(o:E4 b):E4 {b with AX:=b.AX++[B9.zero]}:=by have:=o.aJv (e:=B9.zero) (k:=wn b.AX) (z2 rfl) (z2 rfl);rwa[Bx,EG] at this
def Fp{U:Type}{P:U->Prop}{c:Prop}[Decidable c]{x y:U}(b:P x)(a:P y):P (if c then x else y):=by split;exact b;exact a
def fV{P:BS×Item->Prop}(C:P (b.D5 q.name q.Al 1,P4 (b.a.len+1)))(m:P (b.D5 q.name q.Al q.Bk,P4 (b.Lh q.Bk)))(B:P (b.HH q.name q.Al,P4 (b.a.len+1)))(A:P (b.Nf q.r,zs))(z:P (b.DL q.s q.a,zs))(y:P (b.DM q.name q.Al q.n,zs))(x:P (b.BT,zs))(w:P (b.A4,zs))(v:P (b.CZ q.name,zs))(F:P (b.CJ q.name,zs))(E:P (b.HQ,zs))(u:P (b.ER q.Al q.a,zs))(t:P (b.Cu,zs))(p:P ({b with stop:=z9},zs))(o:P ({b with FW:=q.b},zs))(l:P ({b with tm:=b.tm++[q.n]},zs))(k:P ({b with AX:=b.AX++[B9.zero]},zs))(i:P (b.Gk,b.pC))(h:P ({b with head:=q.a},zs))(g:P ({b with mode:=q.n},zs))(f:P ({b with AX:=Et b.AX},zs))(e:P ({b with AJ:=Dg Cl (AS [q.name]) b.AJ},zs))(d:P ({b with Fx:=q.a},zs))(c:P (b.EL q.name q.Al q.Bk q.a,b.Hv q.name q.Al q.Bk))(D:P (b,zs)):P (fU b q):=by rw[fU];exact Fp C (Fp m (Fp B (Fp A (Fp z (Fp y (Fp x (Fp w (Fp v (Fp F (Fp E (Fp u (Fp t (Fp p (Fp o (Fp l (Fp k (Fp i (Fp h (Fp g (Fp f (Fp e (Fp d (Fp c (D))))))))))))))))))))))))
def aKG(o:E4 b):E4 (fU b q).1:=fV (P:=λr=>E4 r.1) (SH (sp:=1) o) (SH o) (lS o) (xf o) (eM o) (nl o) (è o) (eP o) (lT o) (lV o) (V5 o) (au o) (eO o) (o.of_eq rfl rfl rfl rfl) (o.of_eq rfl rfl rfl rfl) (o.of_eq rfl rfl rfl rfl) (vM o) (aAv o) (o.of_eq rfl rfl rfl rfl) (o.of_eq rfl rfl rfl rfl) (o.ao (B8 _ _)) (o.I0 Co) (o.of_eq rfl rfl rfl rfl) (aKE o) o
def BW.yu{k m:Nat}{h:Int}{x:FE}(r:BW b (m+k))(h1:wn x.Al<=(b.a.nd h).Al.length+k\/wn x.Al<=1000)(h2:wn x.data<=(b.a.nd h).data.length+k\/wn x.data<=100000):BW {b with a:=b.a.set h x} m:=by
 let e:(b.a.set h x).n.length=wn b.a.n:=by have:=aDP (A:=b.a) (h:=h) (x:=x);unfold Ar.len at this;omega
 let c:=r.le (m':=m) Ab;let rn:=r.n;refine⟨by simp only;exact e▸c.n,λy=>?_,λy=>?_,c.AJ,c.AX,c.tm,c.DU,c.YD⟩
 .simp only;rw[Lg];split;.rename_i d;have:=r.at_ h;omega
  .exact c.at_ y
 .simp only;rw[Lg];split;.have:=r.data h;omega
  .exact c.data y
section
variable{m:Nat}{s:Aj}{p e:Int}(r:BW b (m+5))
def YI(hs:wn s<=4):BW {b with a:=BS.KH b.a s p e} m:=by
 let c:∀d,BW {b with a:=(b.a.add {kind:=5,Cd:=d,data:=s}).E8 (b.a.len+1) p e} m:=λd=>((r.le Ab).Kh (LW (AZ _) DO)).IN LB
 rw[BS.KH];split
 .split
  .split;.exact BW.yu r (z2 DO) (z2 (by rw[As];omega))
   .exact c _
  .exact c _
 .exact (r.le Ab)
def L2(c:wn s<=100000):BW {b with a:=uu b.a s p e} m:=by
 rw[uu];split;.exact((r.le Ab).Kh (LW (AZ _) c)).IN LB
 .exact r.le Ab
end
end
end Go.Am
end
open List renaming replicate→y1
noncomputable section
set_option maxRecDepth 100000
section
namespace Go.Am
open Go
section
variable{b:BS}{q:cr}{m j:Nat}{nm:Aj}
def fW{l:List Bb}{x:Int}(r:BW b (m+1000))(hl:wn l<=1000):BW (b.ER l x) m:=by
 rw[v6];split;.refine BW.yu r (z2 ?_) (z2 DO);have:=Tq (l:=(b.a.nd x).Al++wz l);rw[As,wz,Ao] at this;rw[wz];simp only;omega
 .exact r.le Ab
def mJ:∀{l:List B9} {b:BS},(BS.IZ l b).2.AJ.length<=wn b.AJ+wn l/\(BS.IZ l b).2.AX=b.AX/\(BS.IZ l b).1.length=wn l/\∀e∈(BS.IZ l b).1,∃j∈l,e.name=j.name/\e.Al=j.Al
 |[],b=>⟨by simp[BS.IZ],rfl,rfl,λe i=>by simp[BS.IZ] at i⟩
 |e::l,b=>by
  let⟨h1,k,f,d⟩:=mJ (l:=l) (b:=b.D5 e.name e.Al 1);let h:(b.D5 e.name e.Al 1).AJ.length<=wn b.AJ+1:=by
   rw[BS.D5];rw[Ae KP];simp only
   have:(b.EL e.name e.Al 1 (b.place 0).1).AJ=b.AJ:=by rw[BS.EL];rw[Ae KP]
   rw[As,A5];first|(exact this▸Af _)|exact Af _
  rw[BS.IZ];refine⟨by simp[Bg];omega,by simp only;rw[k,D9],by simp[Bg,f],λg i=>?_⟩;obtain rfl|i:=A0.1 i
  .exact⟨e,AF,rfl,rfl⟩
  .let⟨j,c,a⟩:=d g i;exact⟨j,by simp[c],a⟩
def Ws(r:BW b (m+4*wn b.AX)):BW b.A4 m/\wn b.A4.AJ<=wn b.AJ+wn b.AX/\wn b.A4.AX=wn b.AX:=by
 let a:=mE (l:=b.AX.drop b.Ng) (m:=m) (r.le (by rw[Bp];omega)) λe i=>r.DU e (BU i);let⟨k,h2,c,h⟩:=mJ (l:=b.AX.drop b.Ng) (b:=b);rw[Bp] at k c;let j:wn b.A4.AX=wn b.AX:=by rw[η];rw[As,Az,c];omega
 refine⟨⟨a.n,a.at_,a.data,a.AJ,?_,a.tm,λe i=>?_,a.YD⟩,by rw[η];simp only;omega,j⟩;.rw[j];have:=r.AX;omega
 .unfold η at i;simp only at i;obtain i|i:=AA.1 i
  .exact r.DU e (BQ i)
  .let⟨o,g,f,d⟩:=h e i;rw[f,d];exact r.DU o (BU g)
def cu{b d:Int}{a k:Nat}:∀{c:Nat} {s:BS×Int×Nat},(wl b d a k c s).1.AX.length<=s.1.AX.length
 |0,s=>Af _
 |c+1,s=>by
  refine BC (cu (c:=c)) ?_;rw[BS.Gl];simp only
  split;.exact Af _
  .split;.exact Ds.length_le
   .have:∀nm l p,(s.1.EL nm l 1 p).AX=s.1.AX:=λnm l p=>by rw[BS.EL];rw[Ae KP]
    rw[this,Bw];exact Af _
def þ:(b.round nm).2.AX.length<=wn b.AX+1:=by
 rw[BS.round];simp only
 split
 .have:(b.CZ nm).AX=b.AX:=by
   rw[vt];split;.split<;>rfl
   .rfl
  rw[this];omega
 .split;.exact BC Ds.length_le (Gd _)
  .split;.exact Gd _
   .split;.exact BC Ds.length_le (Gd _)
    .unfold vx;simp only
     generalize c:wl _ _ _ _ _ _=s;let e:s.1.AX.length<=wn b.AX:=c▸cu
     have:∀(a:BS) nm l p,(a.EL nm l 1 p).AX=a.AX:=λa nm l p=>by rw[BS.EL];rw[Ae KP]
     simp only[this,As,Bg,Az,Bp];let d:∀k,(Bl s.1.AX k).length<=s.1.AX.length:=λk=>Ds.length_le;refine BC (m:=(Bl s.1.AX (Eo (b.AX.getD (D2 nm b.AX).toNat B9.zero).node s.1.AX).toNat).length+1) ?_ (wb (BC (d _) e));omega
def US:∀{n:Nat} {b:BS},(BS.EB n b nm).AX.length<=wn b.AX+n
 |0,b=>Af _
 |n+1,b=>by
  let h:=þ (b:=b) (nm:=nm);unfold BS.EB;simp only
  split;.have:=US (n:=n) (b:=(b.round nm).2);omega
  .omega
structure Sz(b:BS)j:Prop where
 rm:BW b (5000000*j)
 AJ:wn b.AJ+1200*j<=125000
 AX:wn b.AX+10*j<=1100
def Sz.of{a:BS}(h:Sz b (j+1))(r:BW a (5000000*j))(h1:wn a.AJ<=wn b.AJ+1200)(h2:wn a.AX<=wn b.AX+10):Sz a j:=⟨r,by have:=h.AJ;omega,by have:=h.AX;omega⟩
def Sz.XW{k:Nat}(h:Sz b (j+1))(hk:k<=5000000:=by omega):BW b (5000000*j+k):=h.rm.le Ab
def Sz.RC{c:BS}(h:Sz b (j+1))(i:c.a=b.a)(d:c.AJ.Sublist b.AJ)(e:c.AX.Sublist b.AX)(f:wn c.tm<=wn b.tm):Sz c j:=
 h.of ((h.rm.le Ab).sub i d e f) (by have:=d.length_le;omega) (by have:=e.length_le;omega)
def Sz.Gk(h:Sz b (j+1)):Sz b.Gk j:=by
 rw[ut];split;.exact h.RC rfl (AW _) (AW _) (Af _)
 .exact h.RC rfl (B8 _ _) (AW _) (Af _)
def Wt{l:List Bb}{sp:Int}:(b.D5 nm l sp).AJ.length<=wn b.AJ+1200:=by
 rw[BS.D5];split
 .rename_i a;have:(b.EL nm l sp (b.place 0).1).AJ=b.AJ:=by rw[BS.EL];rw[Ae a]
  have:=Cx List.length this;rw[As,A5];omega
 .omega
def qm{l:List Bb}:(b.HH nm l).AX.length<=wn b.AX+10:=by
 rw[BS.HH];simp only
 let⟨l',d,c⟩:=V0 (l:=(b.D5 nm l 1).AX) (e:=⟨b.a.len+1,nm,l⟩);rw[c,As,A5];have:=d.length_le;rw[D9] at this;omega
def aKH(h:Sz b (j+1))(d:Ī q):Sz (fU b q).1 j:=fV (P:=λr=>Sz r.1 j)
 (h.of (Ji (sp:=1) h.XW d.Al d.name) Wt (by rw[D9];omega))
 (h.of (Ji h.XW d.Al d.name) Wt (by rw[D9];omega))
 (h.of (YE h.XW d.Al d.name) Wt qm)
 (h.of (YI h.XW (Wn _)) (Hm _ _) (Hm _ _))
 (by
  dsimp only;rw[BS.DL];split;.exact h.of (L2 h.XW (by have:=d.s;omega)) (Hm _ _) (Hm _ _)
  .exact h.of (L2 h.XW (by have:=d.s;omega)) (Hm _ _) (Hm _ _))
 (h.of ((Ji h.XW d.Al d.name).eq rfl rfl rfl rfl) Wt (by show(b.D5 q.name q.Al 1).AX.length<=_;rw[D9];omega))
 (by
  dsimp only;rw[BS.BT];split;.exact h.RC rfl (Co.trans Co) (AW _) (Af _)
  .exact h.RC rfl (AW _) (AW _) (Af _))
 (by dsimp only;let f:=Ws (m:=5000000*j) (h.rm.le (by have:=h.AX;omega));exact h.of f.1 (by have:=h.AX;have:=f.2.1;omega) (by rw[f.2.2];omega))
 (by
  dsimp only;rw[vt];split
  .split;.exact h.RC rfl (I1.trans Co) (AW _) (Af _)
   .exact h.RC rfl (AW _) (AW _) (Af _)
  .exact h.RC rfl (AW _) (AW _) (Af _))
 (by
  dsimp only;rw[BS.CJ];split;.exact h.Gk
  .let f:=O7 (n:=8) (nm:=q.name) (m:=5000000*j) (Af _) (h.rm.le (by have:=h.AJ;omega));exact h.of f.1 (by have:=f.2;omega) (by have:=US (n:=8) (b:=b) (nm:=q.name);omega))
 (h.RC rfl (AW _) (AW _) (Af _))
 (by
  dsimp only;let e:(b.ER q.Al q.a).AJ=b.AJ/\(b.ER q.Al q.a).AX=b.AX:=by rw[v6];split<;>exact⟨rfl,rfl⟩
  exact h.of (fW (h.rm.le Ab) d.Al.1) (by rw[e.1];omega) (by rw[e.2];omega))
 (by
  dsimp only;rw[uw];split;.exact h.RC rfl (AW _) (AW _) (Af _)
  .exact h.RC rfl (show(Dg Cl (AS [AE]) (Dg CY Cl b.AJ)).Sublist b.AJ from Co.trans Co) (B8 _ _) (AF:wn b.tm.dropLast<=wn b.tm))
 (h.RC rfl (AW _) (AW _) (Af _))
 (h.RC rfl (AW _) (AW _) (Af _))
 (by dsimp only;let r:=h.rm.le (m':=5000000*j+1) Ab;let c:=r.le (m':=5000000*j) Ab;exact h.of ⟨c.n,c.at_,c.data,c.AJ,c.AX,by have:=r.tm;rw[As,A5];omega,c.DU,c.YD⟩ (Hm _ _) (Hm _ _))
 (by
  dsimp only;refine h.of ((h.rm.le Ab).aw (e:=B9.zero) AF (λe i=>?_) ⟨AR,AR,λa l=>by cases l⟩) (Hm _ _) AF;obtain i|i:=AA.1 i
  .exact z2 i
  .exact zf (zv i))
 (h.Gk)
 (h.RC rfl (AW _) (AW _) (Af _))
 (h.RC rfl (AW _) (AW _) (Af _))
 (h.RC rfl (AW _) (B8 _ _) (Af _))
 (h.RC rfl Co (AW _) (Af _))
 (h.RC rfl (AW _) (AW _) (Af _))
 (by
  dsimp only;let e:(b.EL q.name q.Al q.Bk q.a).AJ=b.AJ/\(b.EL q.name q.Al q.Bk q.a).AX=b.AX:=by rw[BS.EL];split<;>exact⟨rfl,rfl⟩
  exact h.of (Kv (h.rm.le Ab) d.Al) (by rw[e.1];omega) (by rw[e.2];omega))
 (h.RC rfl (AW _) (AW _) (Af _))
end
def NB(q:cr)(c:Ad):List Ad:=[I q.k,zk q.name,c,I q.Bk,I q.a,zq q.b,zk q.s,z3 .i32 q.r,I q.n]
section
variable{h N:Ak}{P a:Nat}{o c t:Ad}{G O F:Nat->Prop}{b:BS}{x:Int}{m j:Nat}{q:cr}
variable{nm:Aj}{Q:Ad}{l:List Bb}{r:List Ad}{sp p:Int}
def Zn(d:AK q.Al Q)(hl:wn q.Al<=1000)(h:Ak):∃r c,BF cx 58 [zb (NB q Q)] h (zb r) h/\P2 q.name c r/\AK q.Al c:=by let cR:=hK;let⟨u,e,a⟩:=vl (b:=40) d Ab;let f:=AY.cells a;exact⟨_,u,by simp[aJI,NB,AP,e,f],⟨I 2,ff,S [],ff,S [],ff,ff,ff,S [],z3 .i32 0,rfl⟩,a⟩
def aPd(i:Item)(h:Ak):BF cx 73 [zb i.row] h (zb i.row) h:=by simp[aJJ,Item.row,AP]
set_option maxHeartbeats 4000000 in
def aUG(w:BX h P a o c t G b)(hc:Ca b.AX c)(ok:E4 b)(sz:Sz b (j+1))(hq:Ī q)(hv:AK q.Al Q):
  ∃N o' c' t' O,BF cx 20 [Pt P 0,.agg (NB q Q)] h (.agg (fU b q).2.row) N/\BX N P a o' c' t' O (fU b q).1/\Ca (fU b q).1.AX c'/\Dx h (BD P G) N (BD P O):=by
 unfold fU NB;by_cases d:q.k=1;.rw[Ae d];dsimp only;obtain⟨r,Xa,D,hr,DP⟩:=Zn (q:=q) hv hq.Al.1 h;rw[NB] at D;obtain⟨N,o',O,r2,w',x'⟩:=ô (m:=5000000*j) w ok sz.XW hr DP hq.Al hq.name;refine⟨N,o',c,t,O,?_,w',by rw[D9];exact hc,x'⟩;rw[Ac,GR];simp only[abS,Nat.reduceLeDiff,↓reduceIte,AP,Aw d,D,r2];try rfl
 rw[Aa d];by_cases f:q.k=2;.rw[Ae f];dsimp only;obtain⟨r,Xa,D,hr,DP⟩:=Zn (q:=q) hv hq.Al.1 h;rw[NB] at D;obtain⟨N,o',O,r2,w',x'⟩:=aKj (m:=5000000*j) w ok sz.XW hr DP hq.Al hq.name q.Bk;refine⟨N,o',c,t,O,?_,w',by rw[D9];exact hc,x'⟩;rw[Ac,GR];simp only[abS,Nat.reduceLeDiff,↓reduceIte,AP,d,Aw f,D,r2];try rfl
 rw[Aa f];by_cases g:q.k=3;.rw[Ae g];dsimp only;obtain⟨r,Xa,D,hr,DP⟩:=Zn (q:=q) hv hq.Al.1 h;rw[NB] at D;obtain⟨N,o',c',O,r2,w',JU,x'⟩:=aOC (m:=5000000*j) w hc ok sz.XW hr DP hq.Al hq.name;refine⟨N,o',c',t,O,?_,w',JU,x'⟩;rw[Ac,GR];simp only[abS,Nat.reduceLeDiff,↓reduceIte,AP,d,f,Aw g,D,r2];try rfl
 rw[Aa g];by_cases i:q.k=4;.rw[Ae i];dsimp only;obtain⟨N,O,r2,w',x'⟩:=aOI (m:=5000000*j) w ok sz.XW q.r hq.r;refine⟨N,o,c,t,O,?_,w',hc,x'⟩;rw[Ac,GR];simp only[abS,↓reduceIte,AP,d,f,g,Aw i,r2];try rfl
 rw[Aa i];by_cases y:q.k=5;.rw[Ae y];dsimp only;obtain⟨N,O,r2,w',x'⟩:=aOK (m:=5000000*j) w ok sz.XW q.s (by have:=hq.s;omega) q.a;refine⟨N,o,c,t,O,?_,w',hc,x'⟩;rw[Ac,GR];simp only[abS,↓reduceIte,AP,d,f,g,i,Aw y,r2];try rfl
 rw[Aa y];by_cases z:q.k=6;.rw[Ae z];dsimp only;obtain⟨r,Xa,D,hr,DP⟩:=Zn (q:=q) hv hq.Al.1 h;rw[NB] at D;obtain⟨N,o',O,r2,w',x'⟩:=aKn (m:=5000000*j) w ok sz.XW hr DP hq.Al hq.name q.n;refine⟨N,o',c,t,O,?_,w',by show Ca (b.D5 q.name q.Al 1).AX c;rw[D9];exact hc,x'⟩;rw[Ac,GR];simp only[abS,↓reduceIte,AP,d,f,g,i,y,Aw z,D,r2];try rfl
 rw[Aa z];by_cases A:q.k=7;.rw[Ae A];dsimp only;obtain⟨N,o',r2,w',x'⟩:=aOL w sz.rm;refine⟨N,o',c,t,G,?_,w',by have e:b.BT.AX=b.AX:=(by unfold BS.BT;split<;>rfl);rw[e];exact hc,x'⟩;rw[Ac,GR];simp only[abS,↓reduceIte,AP,d,f,g,i,y,z,Aw A,r2];try rfl
 rw[Aa A];by_cases B:q.k=8;.rw[Ae B];dsimp only;obtain⟨N,o',c',O,r2,w',JU,x'⟩:=aOV (m:=5000000*j) w hc ok (sz.rm.le (by have:=sz.AX;omega));refine⟨N,o',c',t,O,?_,w',JU,x'⟩;rw[Ac,GR];simp only[abS,↓reduceIte,AP,d,f,g,i,y,z,A,Aw B,r2];try rfl
 rw[Aa B];by_cases C:q.k=9;.rw[Ae C];dsimp only;obtain⟨N,o',r2,w',x'⟩:=aKo w sz.rm q.name;refine⟨N,o',c,t,G,?_,w',by have e:(b.CZ q.name).AX=b.AX:=(by unfold BS.CZ;split;split<;>rfl;rfl);rw[e];exact hc,x'⟩;rw[Ac,GR];simp only[abS,↓reduceIte,AP,d,f,g,i,y,z,A,B,Aw C,r2];try rfl
 rw[Aa C];by_cases Ik:q.k=10;.rw[Ae Ik];dsimp only;obtain⟨N,o',c',O,r2,w',JU,x'⟩:=aPc (m:=5000000*j) w hc ok (sz.rm.le (by have:=sz.AJ;omega)) q.name;refine⟨N,o',c',t,O,?_,w',JU,x'⟩;rw[Ac,GR];simp only[abS,↓reduceIte,AP,d,f,g,i,y,z,A,B,C,Aw Ik,r2];try rfl
 rw[Aa Ik];by_cases LC:q.k=11;.rw[Ae LC];dsimp only;obtain⟨N,r2,w',x'⟩:=aBj w sz.rm;refine⟨N,o,c,t,G,?_,w',hc,x'⟩;rw[Ac,GR];simp only[abS,↓reduceIte,AP,d,f,g,i,y,z,A,B,C,Ik,Aw LC,r2];try rfl
 rw[Aa LC];by_cases Md:q.k=12;.rw[Ae Md];dsimp only;obtain⟨r,Xa,D,hr,DP⟩:=Zn (q:=q) hv hq.Al.1 h;rw[NB] at D;obtain⟨N,O,r2,w',x'⟩:=aOQ (m:=5000000*j) w ok sz.XW hr DP hq.Al q.a;refine⟨N,o,c,t,O,?_,w',by have e:(b.ER q.Al q.a).AX=b.AX:=(by unfold BS.ER;split<;>rfl);rw[e];exact hc,x'⟩;rw[Ac,GR];simp only[abS,↓reduceIte,AP,d,f,g,i,y,z,A,B,C,Ik,LC,Aw Md,D,r2];try rfl
 rw[Aa Md];by_cases Ml:q.k=13;.rw[Ae Ml];dsimp only;obtain⟨N,o',c',t',r2,w',JU,x'⟩:=aOR w hc sz.rm;refine⟨N,o',c',t',G,?_,w',JU,x'⟩;rw[Ac,GR];simp only[abS,↓reduceIte,AP,d,f,g,i,y,z,A,B,C,Ik,LC,Md,Aw Ml,r2];try rfl
 rw[Aa Ml];by_cases Oq:q.k=14;.rw[Ae Oq];dsimp only;obtain⟨N,r2,w',x'⟩:=aOS w;refine⟨N,o,c,t,G,?_,w',hc,x'⟩;rw[Ac,GR];simp only[abS,↓reduceIte,AP,d,f,g,i,y,z,A,B,C,Ik,LC,Md,Ml,Aw Oq,r2];try rfl
 rw[Aa Oq];by_cases P5:q.k=15;.rw[Ae P5];dsimp only;have w':BX (put h P 15 (.bool q.b)) P a o c t G {b with FW:=q.b}:=w.put rfl rfl w.o w.t;refine⟨put h P 15 (.bool q.b),o,c,t,G,?_,w',hc,Be⟩;rw[Ac,GR];simp only[abS,↓reduceIte,AP,d,f,g,i,y,z,A,B,C,Ik,LC,Md,Ml,Oq,Aw P5,w.st (k:=15) (v:= .bool q.b) rfl rfl];try rfl
 rw[Aa P5];by_cases Ro:q.k=16;.rw[Ae Ro];dsimp only;have K:=sz.rm.tm;have cR:=hK;obtain⟨u,M,hu⟩:=w.t.1.Gf Ab;have L:=AY.KT (b:=8) (a:=q.n) hu Ab;have em:AB (.Df 1) [I q.n]=some (.sl 1 [BM q.n]):=rfl;have JK:Em (b.tm++[q.n]) (.sl 1 ((b.tm++[q.n]).map BM)):= .mk;have w':=w.fQ (Wl.yC (l:=b.tm) (m:=q.n));refine⟨put h P 6 (.sl 1 ((b.tm++[q.n]).map BM)),o,c,_,G,?_,w',hc,Be⟩;rw[Ac,GR];simp only[abS,↓reduceIte,AP,d,f,g,i,y,z,A,B,C,Ik,LC,Md,Ml,Oq,P5,Aw Ro,w.l6,M,em,L,w.st (k:=6) (v0:=t) rfl (AY.cells JK)];try rfl
 rw[Aa Ro];by_cases SP:q.k=17;.rw[Ae SP];dsimp only;have Rn:=sz.rm.AX;obtain⟨fs,Gj,Rw⟩:=hc;obtain⟨u,r2,hu⟩:=f63 (h:=h) (id:=P) (o:=3) (l:=fs) ⟨c,w.vA,Rw⟩ (by rw[<-Gj,Ao] at Rn;omega);have w':=w.KJ (u:=u) (l:=b.AX++[B9.zero]);have JU:Ca (b.AX++[B9.zero]) u:=⟨_,by rw[BJ,Gj];rfl,hu⟩;refine⟨put h P 3 u,o,u,t,G,?_,w',JU,Be⟩;rw[Ac,GR];simp only[abS,↓reduceIte,AP,d,f,g,i,y,z,A,B,C,Ik,LC,Md,Ml,Oq,P5,Ro,Aw SP,r2];try rfl
 rw[Aa SP];by_cases RD:q.k=18;.rw[Ae RD];dsimp only;obtain⟨N,o',r2,w',x'⟩:=aFK w sz.rm;have J:=aPd b.pC N;refine⟨N,o',c,t,G,?_,w',by have e:b.Gk.AX=b.AX:=(by unfold BS.Gk;split<;>rfl);rw[e];exact hc,x'⟩;rw[Ac,GR];simp only[abS,↓reduceIte,AP,Fh,d,f,g,i,y,z,A,B,C,Ik,LC,Md,Ml,Oq,P5,Ro,SP,Aw RD,r2,J];try rfl
 rw[Aa RD];by_cases Wu:q.k=19;.rw[Ae Wu];dsimp only;have w':BX (put h P 7 (I q.a)) P a o c t G {b with head:=q.a}:=w.put rfl rfl w.o w.t;refine⟨put h P 7 (I q.a),o,c,t,G,?_,w',hc,Be⟩;rw[Ac,GR];simp only[abS,↓reduceIte,AP,d,f,g,i,y,z,A,B,C,Ik,LC,Md,Ml,Oq,P5,Ro,SP,RD,Aw Wu,w.st (k:=7) (v:= I q.a) rfl rfl];try rfl
 rw[Aa Wu];by_cases YJ:q.k=20;.rw[Ae YJ];dsimp only;have w':=w.br q.n;refine⟨put h P 4 (I q.n),o,c,t,G,?_,w',hc,Be⟩;rw[Ac,GR];simp only[abS,↓reduceIte,AP,d,f,g,i,y,z,A,B,C,Ik,LC,Md,Ml,Oq,P5,Ro,SP,RD,Wu,Aw YJ,w.st (k:=4) (v:= I q.n) rfl rfl];try rfl
 rw[Aa YJ];by_cases vN:q.k=21;.rw[Ae vN];dsimp only;have Rn:=sz.rm.AX;obtain⟨fs,Gj,Rw⟩:=hc;obtain⟨u,r2,hu⟩:=f65 (h:=h) (id:=P) (o:=3) (l:=fs) ⟨c,w.vA,Rw⟩ (by rw[<-Gj,Ao] at Rn;omega);have w':=w.KJ (u:=u) (l:=Et b.AX);have JU:Ca (Et b.AX) u:=⟨_,by rw[TF,Gj],hu⟩;refine⟨put h P 3 u,o,u,t,G,?_,w',JU,Be⟩;rw[Ac,GR];simp only[abS,↓reduceIte,AP,d,f,g,i,y,z,A,B,C,Ik,LC,Md,Ml,Oq,P5,Ro,SP,RD,Wu,YJ,Aw vN,r2];try rfl
 rw[Aa vN];by_cases ÿ:q.k=22;.rw[Ae ÿ];dsimp only;have ho:=sz.rm.AJ;have em:AB (.Df 1) [.str q.name]=some (.sl 1 ([q.name].map BY)):=DK (ws:=[q.name]) rfl AF;obtain⟨u,r2,hu⟩:=f66 w.sO Ab (Cc (ws:=[q.name])) AF;have w':=w.IB hu;refine⟨put h P 2 u,u,c,t,G,?_,w',hc,Be⟩;rw[Ac,GR];simp only[abS,↓reduceIte,AP,d,f,g,i,y,z,A,B,C,Ik,LC,Md,Ml,Oq,P5,Ro,SP,RD,Wu,YJ,vN,Aw ÿ,em,r2];try rfl
 rw[Aa ÿ];by_cases E:q.k=23;.rw[Ae E];dsimp only;have w':BX (put h P 8 (I q.a)) P a o c t G {b with Fx:=q.a}:=w.put rfl rfl w.o w.t;refine⟨put h P 8 (I q.a),o,c,t,G,?_,w',hc,Be⟩;rw[Ac,GR];simp only[abS,↓reduceIte,AP,d,f,g,i,y,z,A,B,C,Ik,LC,Md,Ml,Oq,P5,Ro,SP,RD,Wu,YJ,vN,ÿ,Aw E,w.st (k:=8) (v:= I q.a) rfl rfl];try rfl
 rw[Aa E];by_cases H:q.k=24;.rw[Ae H];dsimp only;obtain⟨r,Xa,D,hr,DP⟩:=Zn (q:=q) hv hq.Al.1 h;rw[NB] at D;obtain⟨N,O,r2,w',x'⟩:=aBc (m:=5000000*j) w ok sz.XW hr DP hq.Al hq.name q.a q.Bk;have J:=aPd (b.Hv q.name q.Al q.Bk) N;refine⟨N,o,c,t,O,?_,w',by have e:(b.EL q.name q.Al q.Bk q.a).AX=b.AX:=(by unfold BS.EL;split<;>rfl);rw[e];exact hc,x'⟩;rw[Ac,GR];simp only[abS,↓reduceIte,AP,Fh,d,f,g,i,y,z,A,B,C,Ik,LC,Md,Ml,Oq,P5,Ro,SP,RD,Wu,YJ,vN,ÿ,E,Aw H,D,r2,J];try rfl
 rw[Aa H];refine⟨h,o,c,t,G,?_,w,hc,.refl⟩;rw[Ac,GR];simp only[abS,↓reduceIte,AP,d,f,g,i,y,z,A,B,C,Ik,LC,Md,Ml,Oq,P5,Ro,SP,RD,Wu,YJ,vN,ÿ,E,H];try rfl
end
def P6:∀l:List Int,(l.map BM).flatten=l.map (yw ys)
 |[]=>rfl
 |x::l=>by simp[BM,P6 l]
def ī(q:Bool):Ar:={n:=[{kind:=1,Cd:=1,Cm:=q}],i:=[0]}
def DX(q:Bool):BS:={a:=ī q,Cd:=1,AJ:=[],AX:=[],mode:=1,Kt:=0,tm:=[],head:=0,Fx:=0,NR:=zr,ctx:=zs,fs:=z9,FW:=zr,af:=[],skip:=zr,sw:=0,stop:=zr}
section
variable(sp:Int)(nm:Aj)(l:List Bb)
def KE(q:Bool):BS:=
 {(DX q).EL D6 [] 1 1 with a:=((DX q).EL D6 [] 1 1).a.E8 ((DX q).Hv D6 [] 1).node 1 0,AJ:=((DX q).EL D6 [] 1 1).AJ++[(DX q).Hv D6 [] 1],NR:=z9,ctx:=⟨0,sp,nm,FO sp nm l⟩}
def NI(q:Bool):BS:=if AS [AE] (KE sp nm l q).ctx then{KE sp nm l q with tm:=[18]} else KE sp nm l q
def XX(q f:Bool):BS:=if f then{(NI sp nm l q).HQ with Fx:= -1} else(NI sp nm l q).HQ
end
structure FX where
 NR:Bool
 Bk:Int
 name:Aj
 Al:List Bb
 Cm:Bool
 Fx:Bool
def FX.b(s:FX):BS:=if s.NR then XX s.Bk s.name s.Al s.Cm s.Fx else DX s.Cm
def P7(s:FX)(a:Ad):List Ad:=[zq s.NR,I s.Bk,zk s.name,a,zq s.Cm,zq s.Fx]
def aKI(q:Bool):Fj (ī q) 0:=by
 let e:Fj (⟨[],[]⟩:Ar) 0:=by
  let a:∀h,¬(⟨[],[]⟩:Ar).has h:=λh d=>by let h1:=d.1;let c:=d.2;simp at c;omega
  exact⟨rfl,λh d=>absurd d (a h),λh d=>absurd d (a h),λh d=>absurd d (a h),λh d=>absurd d (a h),λh d=>absurd d (a h),λh d=>absurd d (a h),λh d=>absurd d (a h),λh d=>absurd d (a h),λh d=>absurd d (a h),λ_=>0,λh d=>absurd d (a h)⟩
 let b:mn {kind:=1,Cd:=1,Cm:=q}:=by constructor<;>simp[CL,HP]
 exact SD e b (z2 ⟨rfl,rfl⟩) rfl rfl rfl rfl (λh=>absurd h.1 (AR:¬(1:Int)=4))
def Q1(q:Bool):E4 (DX q):=by refine⟨aKI q,⟨⟨Jm 1,Jm 1⟩,rfl⟩,λi a=>(nomatch a),S4,λe b=>(nomatch b),S4⟩
def Q2{q:Bool}x:(DX q).a.nd x=if x=1 then{kind:=1,Cd:=1,Cm:=q} else{}:=by
 rw[Ar.nd];by_cases h:x=1;.subst h;rfl
 .rw[Aa h,Aa];intro d;let h1:=d.1;let b:=d.2;simp[DX,ī] at b;omega
def Q3(q:Bool):Sz (DX q) 101:=by
 refine⟨⟨by simp[DX,ī],λx=>?_,λx=>?_,by simp[DX],by simp[DX],by simp[DX],λe b=>(nomatch b),λi a=>(nomatch a)⟩,by simp[DX],by simp[DX]⟩;.rw[Q2];split<;>simp
 .rw[Q2];split<;>simp
section
variable{h h':Ak}{bi a:Nat}{o c t:Ad}{G G' F:Nat->Prop}{b:BS}{x:Int}{m j:Nat}{q:cr}
variable{nm:Aj}{av:Ad}{l:List Bb}{r:List Ad}{sp p:Int}
def aUH(h:Ak)(q:Bool):∃b c,BF cx 49 [] h (Pt (wn h) 0) b/\BF cx 50 [Pt (wn h) 0,zq q] b (I 1) c/\PA c (wn h) (wn h+1) zc [⟨{kind:=1,Cd:=1,Cm:=q},zw,zw,rfl⟩] (ī q)/\c=h++[zu [.CK (wn h+1) 0 1 13,.map zc],zu [I 1,I 0,zw,I 1,I 0,S [],zw,S [],S [],S [],zq q,I 0,I 0]]:=by
 let F:∀u:Ak,Gq u 13 168 zw (.sl 13 [[I 1,I 0,zw,I 0,I 0,S [],zw,S [],S [],S [],zq q,I 0,I 0]])=zx (u++[zu [I 1,I 0,zw,I 0,I 0,S [],zw,S [],S [],S [],zq q,I 0,I 0]],.CK (wn u) 0 1 13):=λu=>rfl;obtain⟨d,e⟩:∃d,d=h++[z8 [zw,.map zc]]:=⟨_,rfl⟩;let A:d[wn h]?=zx (zu [zw,.map zc]):=by rw[e];simp
 let j:wn d=wn h+1:=by rw[e];simp
 let o:=F d;rw[j] at o;let B:At d (wn h) 0 zw:=⟨_,A,rfl⟩;have w:(d++[z8 [I 1,I 0,.slnil,I 0,I 0,S [],.slnil,S [],S [],S [],.bool q,I 0,I 0]])[wn h]?=zx (.cells [.slnil,.map zc]):=(An Ab).trans A;have J:(d++[z8 [I 1,I 0,zw,I 0,I 0,S [],zw,S [],S [],S [],zq q,I 0,I 0]])[wn h+1]?=zx (zu [I 1,I 0,zw,I 0,I 0,S [],zw,S [],S [],S [],zq q,I 0,I 0]):=by rw[<-j];simp
 have Zb:(d++[z8 [I 1,I 0,.slnil,I 0,I 0,S [],.slnil,S [],S [],S [],.bool q,I 0,I 0]]).length=wn h+2:=by rw[As,j];rfl
 have s:d++[z8 [I 1,I 0,zw,I 0,I 0,S [],zw,S [],S [],S [],zq q,I 0,I 0]]=h++[zu [zw,.map zc],zu [I 1,I 0,zw,I 0,I 0,S [],zw,S [],S [],S [],zq q,I 0,I 0]]:=by rw[e,AO];rfl
 generalize d++[z8 [I 1,I 0,zw,I 0,I 0,S [],zw,S [],S [],S [],zq q,I 0,I 0]]=g at*;let t:At g (wn h) 0 zw:=⟨_,w,rfl⟩;have D:=t.store (u:= .CK (wn h+1) 0 1 13) rfl;have z:=IP (k:=0) (v:= .CK (wn h+1) 0 1 13) w;have n:(put g (wn h) 0 (.CK (wn h+1) 0 1 13))[wn h+1]?=_:=(Cq Ab).trans J;have M:put g (wn h) 0 (.CK (wn h+1) 0 1 13)=h++[.cells [.CK (wn h+1) 0 1 13,.map zc],.cells [I 1,I 0,.slnil,I 0,I 0,S [],.slnil,S [],S [],S [],.bool q,I 0,I 0]]:=by rw[IL w,s,BO _ _ (Af _),Dy];rfl
 generalize put g (wn h) 0 (.CK (wn h+1) 0 1 13)=f at*;let l:A8 f zc (Pt (wn h) 0)=zx (.CK (wn h+1) 0 1 13):=y4 ⟨_,z,rfl⟩;let L:AB (.EM 13) [.CK (wn h+1) 0 1 13,I 0]=zx (.ptr (zx (wn h+1,0))):=FN AR;let r:At f (wn h+1) 3 (I 0):=⟨_,n,rfl⟩;let K:put f (wn h+1) 3 (I 1)=h++[.cells [.CK (wn h+1) 0 1 13,.map zc],.cells [I 1,I 0,.slnil,I 1,I 0,S [],.slnil,S [],S [],S [],.bool q,I 0,I 0]]:=by rw[IL n,M,BO _ _ Ab,WX];rfl
 refine⟨d,put f (wn h+1) 3 (I 1),?_,?_,⟨rfl,rfl,(Cq Ab).trans z,IP n,?_,?_,.inl ⟨rfl,λk=>?_⟩⟩,K⟩;.rw[Ac,nv];simp[AP,e]
 .let E:BF cx 151 [Pt (wn h) 0,.agg [I 1,I 0,.slnil,I 0,I 0,S [],.slnil,S [],S [],S [],.bool q,I 0,I 0]] d (I 1) f:=by simp[ZM,AP,T6,B.load,show AB (.Df 13) [.agg [I 1,I 0,.slnil,I 0,I 0,S [],.slnil,S [],S [],S [],.bool q,I 0,I 0]]=zx (.sl 13 [[I 1,I 0,.slnil,I 0,I 0,S [],.slnil,S [],S [],S [],.bool q,I 0,I 0]]) from rfl,o,D,l,show AB (.len zr) [.CK (wn h+1) 0 1 13]=zx (I 1) from rfl]
  let x:BF cx 152 [Pt (wn h) 0,I 1] f (.ptr (zx (wn h+1,0))) f:=by simp[ZN,T6,l,show AB (.int .sub) [I 1,I 1]=zx (I 0) from rfl,L]
  simp[pG,AP,E,x,r.store (u:=I 1) rfl]
 .intro p m;rw[Ax] at m;subst m;exact .inl ⟨rfl,rfl⟩
 .simp[Hh,I8]
 .unfold Ar.inr;split;.rename_i y;let b:=y.1;let C:=y.2;simp[ī] at C;have:k=1:=Ab;subst this;rfl
  .rfl
def aPe(h:Ak)(q:Bool):∃l c o p G,BF cx 49 [] h (Pt (wn h) 0) l/\BF cx 50 [Pt (wn h) 0,zq q] l (I 1) c/\BF cx 52 [Pt (wn h) 0,I 1] c (Pt p 0) o/\BX o p (wn h) zw zw zw G (DX q)/\Dx h (λ_=>False) o (BD p G):=by
 let⟨l,c,k,u,d,g⟩:=aUH h q;obtain⟨r,t,f,K,V,rfl,s,n,_⟩:=aKb d ((Q3 q).rm.V6) ((Q3 q).rm.V6.Bj (Q1 q).ok 1);let v:(ī q).has 1:=⟨Jm 1,Jm 1⟩;let e:(ī q).nd 1={kind:=1,Cd:=1,Cm:=q}:=(Q2 1).trans (Ae rfl);rw[Ae v,e] at f;let m:PA (c++t) _ _ _ _ _:=d.Dt λi a=>An (d.lt i a);refine⟨l,c,c++t++[zu (J4 (wn h) (DX q) zw zw zw)],(c++t).length,λi=>i∈Hh (wn h) (wn h+1) zc [⟨{kind:=1,Cd:=1,Cm:=q},zw,zw,rfl⟩],k,u,?_,⟨AF,zf ⟨rfl,rfl⟩,Wl.nil,?_,?_⟩,?_⟩;.rw[Ac,ny];simp only[abS,zy,AP,f,aaS];exact⟨λh=>absurd rfl h,λ_=>⟨λh=>absurd rfl h,λ_=>rfl⟩⟩
 .exact⟨_,_,_,m.Dt λi a=>An (m.lt i a),λi=>Iff.rfl⟩
 .intro w;cases (DT _) (m.lt _ w)
 .let E7:wn h<=wn c:=by rw[g];simp
  refine⟨ES,λi a _=>?_,λi a=> zf ?_⟩;.rw[AO,An Ab,g,An a]
  .rcases a with rfl|a
   .simp;omega
   .simp[Hh,I8] at a;omega
section
variable(sp:Int)(nm:Aj)(l:List Bb)
def aBs(q:Bool):E4 (KE sp nm l q)/\Sz (KE sp nm l q) 100:=by
 refine⟨?_,?_⟩
 .let⟨h,f,w⟩:=SG (nm:=D6) (at_:=[]) (p:=1) (Q1 q) KP;let s:=h.IN (O1 (n:=((DX q).Hv D6 [] 1).node) (p:=1) (b:=0) h.ok) JF;let u:Le ((DX q).EL D6 [] 1 1).a (((DX q).EL D6 [] 1 1).a.E8 ((DX q).Hv D6 [] 1).node 1 0):=JF;let c:((DX q).EL D6 [] 1 1).AJ=[]:=by rw[BS.EL];rw[Ae KP];rfl
  let g:=s.aDZ (k:=0) ⟨u.has _ f.has,by rw[u.kind _ f.has];exact f.kind⟩ (by rw[c];simp) (zf c);exact g.of_eq rfl rfl (by rw[KE,c];rfl) rfl
 .let i:=Q3 q;let e:((DX q).EL D6 [] 1 1).AJ=[]/\((DX q).EL D6 [] 1 1).AX=[]:=by rw[BS.EL];exact Ae KP▸⟨rfl,rfl⟩
  let v:=Kv (m:=5000000*100+1) (nm:=D6) (l:=[]) (sp:=1) (p:=1) (i.rm.le Ab) ⟨AR,λa t=>(nomatch t)⟩;let o:=v.IN (LB (x:=((DX q).Hv D6 [] 1).node) (p:=1) (bf:=0));let d:=o.aAx (l':=((DX q).EL D6 [] 1 1).AJ++[(DX q).Hv D6 [] 1]) AF (λj r=>zv r) (P0 AR);exact⟨⟨d.n,d.at_,d.data,d.AJ,d.AX,d.tm,d.DU,d.YD⟩,by rw[KE,e.1];show 1+1200*100<=125000;decide,by rw[KE,e.2];decide⟩
def fX(q:Bool):E4 (NI sp nm l q)/\Sz (NI sp nm l q) 100:=by
 let⟨e,d⟩:=aBs sp nm l q;rw[NI];split;.let r:=d.rm;exact⟨e.of_eq rfl rfl rfl rfl,⟨r.n,r.at_,r.data,r.AJ,r.AX,AF,r.DU,r.YD⟩,d.AJ,d.AX⟩
 .exact⟨e,d⟩
def aFY(q f:Bool):E4 (XX sp nm l q f)/\Sz (XX sp nm l q f) 100:=by
 let⟨a,d⟩:=fX sp nm l q;let e:BW (NI sp nm l q).HQ (5000000*100):=d.rm.mode;rw[XX];split;.exact⟨(V5 a).of_eq rfl rfl rfl rfl,⟨e.n,e.at_,e.data,e.AJ,e.AX,e.tm,e.DU,e.YD⟩,d.AJ,d.AX⟩
 .exact⟨V5 a,e,d.AJ,d.AX⟩
end
def BX.aBt(w:BX h bi a o c t G b)(i:Item):∃f,Cv h 4 (Pt bi 10) (zb i.row)=zx f/\BX f bi a o c t G {b with ctx:=i}/\Dx h (BD bi G) f (BD bi G):=⟨h.set bi (zu (J4 a {b with ctx:=i} o c t)),by rw[Cv,w.hb];rfl,⟨AT w.lt,w.o,w.t,w.w.Dt λj hj=>Av λe=>w.nb (by rwa[e]),w.nb⟩,Bw▸Af _,λj _ m=>Av λe=>m (z2 e.symm),λ_ h=> z2 h⟩
def aUJ(h:Ak)sp(nm:Aj)(hv:AK l av)(hl:Eg l)(q f q':Bool):∃r j h' b o t G,BF cx 49 [] h (Pt (wn h) 0) r/\BF cx 50 [Pt (wn h) 0,zq q] r (I 1) j/\BF cx 51 [Pt (wn h) 0,I 1,zb [I sp,zk nm,av,zq q',zq f]] j (Pt b 0) h'/\BX h' b (wn h) o zw t G (XX sp nm l q f)/\Dx h (λ_=>False) h' (BD b G):=by
 let⟨r,j,h3,b,G,M,r2,L,w,x⟩:=aPe h q;let hr:P2 D6 zw [I 2,zk D6,ff,S [],ff,S [],ff,ff,zw,ff,S [],z3 .i32 0]:=⟨I 2,ff,S [],ff,S [],ff,ff,ff,S [],z3 .i32 0,rfl⟩;let⟨h4,G4,K,w4,X⟩:=aBc (m:=1000) w (Q1 q).ba ((Q3 q).rm.le Ab) hr (l:=[]) (zf ⟨rfl,rfl⟩) ⟨AR,λa ha=>(nomatch ha)⟩ AR 1 1;let⟨Ħ,f4,le4⟩:=SG (nm:=D6) (at_:=[]) (p:=1) (Q1 q) KP;let Q:=Kv (m:=1000) (nm:=D6) (l:=[]) (sp:=1) (p:=1) ((Q3 q).rm.le Ab) ⟨AR,λa ha=>(nomatch ha)⟩;let⟨A,g,J,T,W⟩:=bl (x:=((DX q).Hv D6 [] 1).node) (p:=1) (bf:=0) w4 Ħ.ba Q;let ho:((DX q).EL D6 [] 1 1).AJ=[]:=by rw[BS.EL];rw[Ae KP];rfl
 let⟨d,H,Ĭ⟩:=f95 T.sO (by rw[ho];decide) ((DX q).Hv D6 [] 1);let O:=T.IB Ĭ;let Z:BX (put (put A b 2 d) b 9 tt) b (wn h) d zw zw g _:=O.put (k:=9) (v:=tt) (b':={{{(DX q).EL D6 [] 1 1 with a:=((DX q).EL D6 [] 1 1).a.E8 ((DX q).Hv D6 [] 1).node 1 0} with AJ:=((DX q).EL D6 [] 1 1).AJ++[(DX q).Hv D6 [] 1]} with NR:=true}) rfl rfl Ĭ O.t;let D:Cv (put A b 2 d) 1 (Pt b 9) tt=zx (put (put A b 2 d) b 9 tt):=O.st (k:=9) (v:=tt) (v0:= .bool ((DX q).EL D6 [] 1 1).NR) rfl rfl;let E:BF cx 155 [I sp,zk nm,av] (put (put A b 2 d) b 9 tt) (zq (FO sp nm l)) (put (put A b 2 d) b 9 tt):=f96 hv (λa ha=>by have:=(hl.2 a ha).2;have:AN=140737488355328:=rfl;omega) (by have:=hl.1;omega) sp nm _;let⟨y,s8,R,V⟩:=Z.aBt ⟨0,sp,nm,FO sp nm l⟩;have i:BX y b (wn h) d zw zw g (KE sp nm l q):=R;let N:Dx h (λ_=>False) y (BD b g):=((((x.trans X).trans W).trans Be).trans Be).trans V;clear R;let s:=i.aFH;let⟨aUK,P⟩:=fX sp nm l q;let z:=py (ws:=[AE]) Cc AR (KE sp nm l q).ctx y;let key:∃B F,BX B b (wn h) d zw F g (NI sp nm l q)/\Dx y (BD b g) B (BD b g)/\(AS [AE] (KE sp nm l q).ctx=z9->Cv y 1 (Pt b 6) (.sl 1 [[I 18]])=zx B)/\(AS [AE] (KE sp nm l q).ctx=zr->B=y):=by
  by_cases u:AS [AE] (KE sp nm l q).ctx=z9;.let hu:Em [18] (.sl 1 [[I 18]]):= .mk;exact⟨put y b 6 (.sl 1 [[I 18]]),.sl 1 [[I 18]],by rw[NI];exact Ae u▸i.fQ ⟨z2 hu,λe=>by injection e with _ e;simp at e⟩,Be,λ_=>i.st (k:=6) (v0:= .slnil) rfl rfl,λh=>absurd u (by rw[h];decide)⟩
  .exact⟨y,zw,by rw[NI];rwa[Aa u],.refl,λh=>absurd h u,λ_=>rfl⟩
 let⟨B,F,Y,U,k1,k2⟩:=key;let⟨Wj,cm,c,ql⟩:=aBj Y P.rm;let em:AB (.Df 1) [I 18]=zx (.sl 1 [[I 18]]):=rfl;let C:Dx h (λ_=>False) Wj (BD b g):=(N.trans U).trans ql;generalize(DX q).Hv D6 [] 1=it at*;let n:Cv (put (put A b 2 d) b 9 tt) 4 (Pt b 10) (zb [I 0,I sp,zk nm,zq (FO sp nm l)])=zx y:=s8;cases u:AS [AE] (KE sp nm l q).ctx
 .rw[u] at z;have ĭ:=k2 u;subst ĭ;cases f
  .exact⟨r,j,Wj,b,d,F,g,M,r2,by simp only[Ac,pH,abS,Nat.reduceLeDiff,↓reduceIte,AP,Fh,L,K,J,H,D,E,n,s,mC,z,em,cm],c,C⟩
  .refine⟨r,j,put Wj b 8 (I (-1)),b,d,F,g,M,r2,?_,?_,C.trans Be⟩;.rw[Ac,pH];simp only[abS,Nat.reduceLeDiff,AP,Fh,L,K,J,H,D,E,n,s,mC,z,em,cm,c.st (k:=8) (v:=I (-1)) rfl rfl]
   .unfold XX;exact Ae rfl▸c.put rfl rfl c.o c.t
 .rw[u] at z;cases f
  .exact⟨r,j,Wj,b,d,F,g,M,r2,by simp only[Ac,pH,abS,Nat.reduceLeDiff,↓reduceIte,AP,Fh,L,K,J,H,D,E,n,s,mC,z,em,k1 u,cm],c,C⟩
  .refine⟨r,j,put Wj b 8 (I (-1)),b,d,F,g,M,r2,?_,?_,C.trans Be⟩;.rw[Ac,pH];simp only[abS,Nat.reduceLeDiff,AP,Fh,L,K,J,H,D,E,n,s,mC,z,em,k1 u,cm,c.st (k:=8) (v:=I (-1)) rfl rfl]
   .unfold XX;exact Ae rfl▸c.put rfl rfl c.o c.t
def aUL(h:Ak)(s:FX)(p:AK s.Al av)(q:Eg s.Al):∃i j a o c t G,BF cx 18 [zb (P7 s av)] h (Pt j 0) i/\BX i j a o c t G s.b/\Ca s.b.AX c/\Dx h (λ_=>False) i (BD j G):=by
 let n:(KE s.Bk s.name s.Al s.Cm).AX=[]:=by rw[KE];simp only;rw[BS.EL];rw[Ae KP];rfl
 cases k:s.NR
 .let⟨u,r,i,j,G,f,l,d,w,x⟩:=aPe h s.Cm;let e:s.b=DX s.Cm:=by rw[FX.b];rw[Aa (by rw[k];decide)]
  exact⟨i,j,wn h,zw,zw,zw,G,by simp[aAD,P7,k,f,l,d],e▸w,e▸⟨[],rfl,zf ⟨rfl,rfl⟩⟩,x⟩
 .let⟨u,r,i,j,o,t,G,f,l,d,w,x⟩:=aUJ h s.Bk s.name p q s.Cm s.Fx s.Cm;refine⟨i,j,wn h,o,zw,t,G,?_,by rw[FX.b];rwa[Ae k],?_,x⟩;.rw[Ac,aAD,P7,k];simp[f,l,d]
  .let e:s.b.AX=[]:=by unfold FX.b XX NI;rw[Ae k];split<;>split<;>exact n
   exact e▸⟨[],rfl,zf ⟨rfl,rfl⟩⟩
def FX.ok(s:FX):E4 s.b/\Sz s.b 100:=by
 rw[FX.b];split;.exact aFY _ _ _ _ _
 .let h:=Q3 s.Cm;exact⟨Q1 _,h.rm.le Ab,by have:=h.AJ;omega,by have:=h.AX;omega⟩
end
def O8(h:Ak)(lo:Nat)(v:Ad)(l:List Int):Prop:=(v= zw/\l=[])\/∃a,lo<=a/\v= .CK a 0 (wn l) 1/\h[a]?=zx (zu (l.map (yw ys)))
def Ot(h:Ak)(lo:Nat)(v:Ad)(l:List B9):Prop:=(v= zw/\l=[])\/∃a,∃b:List CC,lo<=a/\v= .CK a 0 (wn b) 3/\h[a]?=zx (zu (b.map zg).flatten)/\b.map (·.c)=l
section
variable{h h':Ak}{lo a:Nat}{v:Ad}
def O8.cells{l:List Int}(a:O8 h lo v l):v.cells=[v]:=by rcases a with⟨rfl,_⟩|⟨id,_,rfl,_⟩<;>rfl
def Ot.cells{l:List B9}(a:Ot h lo v l):v.cells=[v]:=by rcases a with⟨rfl,_⟩|⟨id,fs,_,rfl,_⟩<;>rfl
def O8.Dt{l:List Int}(a:O8 h lo v l)(e:∀i,lo<=i->i<wn h->h'[i]?=h[i]?):O8 h' lo v l:=by
 obtain a|⟨b,c,f,d⟩:=a
 .exact z2 a
 .exact zf ⟨b,c,f,e b c (Aq.1 d).1▸d⟩
section
variable{l:List B9}(k:Ot h lo v l)
def Ot.Dt(c:∀i,lo<=i->i<wn h->h'[i]?=h[i]?):Ot h' lo v l:=by
 obtain k|⟨a,j,b,f,d,e⟩:=k
 .exact z2 k
 .exact zf ⟨a,j,b,f,c a b (Aq.1 d).1▸d,e⟩
def Ot.low(hl:a<=lo):Ot h a v l:=by
 obtain k|⟨b,d,h1,c⟩:=k
 .exact z2 k
 .exact zf ⟨b,d,Ab,c⟩
end
def O8.UP{l:List Int}(c:O8 h lo v l):SL h v l:=by
 rcases c with⟨rfl,rfl⟩|⟨b,_,rfl,e⟩
 .exact⟨rfl,λk d=>by simp at d⟩
 .exact⟨rfl,λk a=>⟨Pt b k,by have:=FN (id:=b) (z:=1) (k:= ys) a;rwa [GP] at this,by simp only[A8,e,Fg];simp[a]⟩⟩
def aHI{h u:Ak}{V:Ad}{L:List Int}(i:O8 (h++u) (wn h) V L)(hb:wn L<=1000000000)x:∃d g,Gq (h++u) 1 8 V (.sl 1 [[I x]])=zx (h++d,g)/\O8 (h++d) (wn h) g (L++[x]):=by
 let cR:=hK;rcases i with⟨rfl,rfl⟩|⟨c,p,rfl,hc⟩
 .exact⟨u++[zu [I x]],.CK (h++u).length 0 1 1,by rw[<-AO];rfl,zf ⟨(h++u).length,AF,rfl,AF⟩⟩
 .let n:=LU (f:=BM) (λ_=>rfl) L;let q:(h++u)[c]?=zx (zu (L.map BM).flatten):=by rwa[P6]
  let j:=JZ (b:=8) (v:= .sl 1 [[I x]]) n AR q .mk AF (by rw[Ao];simp;omega);rw[Ao] at j;let e:(h++u).set c .CV++[z8 (L.map BM++[[I x]]).flatten]=h++(u.set (c-wn h) .CV++[zu ((L++[x]).map (yw ys))]):=by rw[BO _ _ p,AO,Rs,P6,BJ];rfl
  rw[e] at j;let o:(h++(u.set (c-wn h) vv++[zu ((L++[x]).map (yw ys))]))=(h++u.set (c-wn h) vv)++[zu ((L++[x]).map (yw ys))]:=by rw[AO]
  let m:(h++u.set (c-wn h) vv).length=(h++u).length:=AF;exact⟨_,_,j,zf ⟨(h++u).length,AF,AF,by rw[o,<-m,Bu (Af _),Dy];rfl⟩⟩
def aPf{h u:Ak}{V:Ad}{L:List B9}(g:Ot (h++u) (wn h) V L)(o:wn L<=1000000000)(x:CC):∃d f,Gq (h++u) 3 48 V (.sl 3 [x.row])=zx (h++d,f)/\Ot (h++d) (wn h) f (L++[x.c]):=by
 let cR:=hK;rcases g with⟨rfl,rfl⟩|⟨j,i,q,rfl,n,rfl⟩
 .exact⟨u++[zu (([x]:List CC).map zg).flatten],.CK (h++u).length 0 1 3,by rw[<-AO];rfl,zf ⟨(h++u).length,[x],AF,rfl,AF,rfl⟩⟩
 .rw[Ao] at o;let k:=JZ (b:=48) (v:= .sl 3 [x.row]) (QL i) AR n .mk AF (by rw[Ao];simp;omega);rw[Ao] at k;let e:(h++u).set j .CV++[zu (i.map zg++[x.row]).flatten]=h++(u.set (j-wn h) .CV++[zu ((i++[x]).map zg).flatten]):=by rw[BO _ _ q,AO,BJ];rfl
  rw[e] at k;let p:(h++(u.set (j-wn h) vv++[zu ((i++[x]).map zg).flatten]))=(h++u.set (j-wn h) vv)++[zu ((i++[x]).map zg).flatten]:=by rw[AO]
  let m:(h++u.set (j-wn h) vv).length=(h++u).length:=AF;exact⟨_,_,k,zf ⟨(h++u).length,i++[x],AF,AF,by rw[p,<-m,Bu (Af _),Dy];rfl,AF⟩⟩
end
structure SS where
 mode:Int
 Kt:Int
 tm:List Int
 AJ:List Int
 AX:List B9
 head:Int
 Fx:Int
 fs:Bool
 FW:Bool
 af:Aj
 skip:Bool
 sw:Int
 stop:Bool
def BS.aW(b:BS):SS:=⟨b.mode,b.Kt,b.tm,b.AJ.map wy,b.AX,b.head,b.Fx,b.fs,b.FW,b.af,b.skip,b.sw,b.stop⟩
def YK(s:SS)(t o c:Ad):List Ad:=[I s.mode,I s.Kt,t,o,c,I s.head,I s.Fx,zq s.fs,zq s.FW,zk s.af,zq s.skip,I s.sw,zq s.stop]
structure Wv(h:Ak)lo(s:SS)(t o c:Ad):Prop where
 t:UQ s.tm t
 o:O8 h lo o s.AJ
 c:Ot h lo c s.AX
section
variable{h h':Ak}{X a lo:Nat}{o c t:Ad}{G G' F:Nat->Prop}{b:BS}{x:Int}{m:Nat}
def Wv.Dt{s:SS}(w:Wv h lo s t o c)(a:∀i,lo<=i->i<wn h->h'[i]?=h[i]?):Wv h' lo s t o c:=⟨w.t,w.o.Dt a,w.c.Dt a⟩
def qn{h:Ak}{n:Nat}(hn:n<=1000000000):Vk h 3 48 [I 0,S [],zw] (I n) (I n)=zx (h++[zu (y1 n [I 0,S [],zw]).flatten],.CK (wn h) 0 n 3):=by
 let hm:=hK;unfold Vk;simp only
 rw[Ae ⟨Ab,Ab,Ab,rfl⟩];rfl
def aUM(w:BX h X a o c t G b)(hc:Ca b.AX c)(P:BW b m):∃F T Y u,BF cx 44 [Pt X 0] h (zb (YK b.aW F T Y)) (h++u)/\Wv (h++u) (wn h) b.aW F T Y:=by
 have ho:=P.AJ;have Rn:=P.AX;have M:=P.tm;let⟨F,e0,GF⟩:=aBl w.t.1 Ab h;let⟨x,Gj,hv⟩:=hc;let Iq:wn b.AX=wn x:=by rw[<-Gj,Ao]
 let Jy:Ev cx 44 [Pt X 0] h λr h'=>∃F T Y u,r= zb (YK b.aW F T Y)/\h'=h++u/\Wv (h++u) (wn h) b.aW F T Y:=by
  rw[Ev];rw[aJC,t44];simp only[abS,Nat.reduceLeDiff,↓reduceIte,AP,JN w,w.ld,J4,e0,BK,GF.1.cells,xs w.o];refine DD (i:=0) (λz:Ad×Nat=>[zb [I b.mode,I b.Kt,F,z.1,zw,I b.head,I b.Fx,zq b.fs,zq b.FW,zk b.af,zq b.skip,I b.sw,zq b.stop],I z.2]) (λz B=>z.2<=wn b.AJ/\∃u,B=h++u/\O8 (h++u) (wn h) z.1 ((b.AJ.take z.2).map wy)) (λz=>wn b.AJ-z.2) (λz B=>∃u,B=h++u/\O8 (h++u) (wn h) z.1 (b.AJ.map wy)) (zw,0) rfl ⟨AZ _,[],AF,z2 ⟨rfl,AF⟩⟩ ?_ ?_
  .rintro⟨V,n⟩ B ⟨hn,u,rfl,l⟩;simp only at hn l;obtain A|EC:=AQ n b.AJ.length
   .let q:=wu (k:= .i64) w.o A;rw[Item.row] at q;let⟨E,U,g1,j⟩:=aHI l (by rw[Ao,Az];omega) b.AJ[n].node;let em:AB (.Df 1) [I b.AJ[n].node]=zx (.sl 1 [[I b.AJ[n].node]]):=rfl;simp only[abS,Nat.reduceLeDiff,↓reduceIte,(Ab:(n:Int)<(b.AJ.length:Int)),q,em,g1,j.cells,BB n];exact .next (U,n+1) rfl ⟨A,E,rfl,by rw[AG A,BJ];exact j⟩ DO
   .rw[AL EC] at l;simp only[abS,↓reduceIte,(Ab:¬(n:Int)<(b.AJ.length:Int))];exact .HT (V,n) rfl ⟨u,rfl,l⟩
  .rintro⟨O,W⟩ B ⟨u,rfl,p⟩;simp only at p;let w1:=w.If (u:=u);simp only[abS,↓reduceIte,w1.l3,xs hv];refine ij (qn Ab) ?_;obtain⟨d,f⟩:∃d,d=h++u:=⟨_,rfl⟩;rw[<-f] at p⊢;let y:A8 (d++[z8 (y1 (wn x) [I 0,S [],zw]).flatten]) zc (Pt X 3)=zx c:=by rw[f];exact(w1.If).l3
   let N:(y1 (wn x) [I 0,S [],Ad.slnil]).flatten.length=wn x*3:=by rw[GX (z:=3) (by intro r hr;rw[(List.mem_replicate.1 hr).2];rfl),Hc]
   let R:EH (.copy 3) (d++[z8 (y1 (wn x) [I 0,S [],zw]).flatten]) [.CK (wn d) 0 (wn x) 3,c]=zx (d++[z8 (x.map zg).flatten],I x.length):=by
    let Q:Hy (d++[z8 (y1 (wn x) [I 0,S [],zw]).flatten]) 3 c=zx (x.map zg):=by
     obtain rfl|⟨rfl,h0⟩:=hv
     .simp[Hy]
     .rw[h0];rfl
    simp only[EH,ud,Q,(AF:(d++[DH.cells (List.replicate x.length [I 0,S [],.slnil]).flatten])[d.length]?=some (.cells (List.replicate x.length [I 0,S [],.slnil]).flatten))];rw[Ae ⟨trivial,AF,by rw[N];omega⟩];let B:(List.replicate x.length [I 0,S [],Ad.slnil]).flatten.drop (0+(x.map CC.row).length*3)=[]:=AU (by rw[N,Ao];omega);rw[B,GD,B4,Br,Ao,BO _ _ (Af _),Dy];rfl
   let K:AB (wf zr) [.CK (wn d) 0 (wn x) 3]=zx (I x.length):=rfl;simp only[abS,↓reduceIte,y,R,K];refine DD (i:=2) (λn:Nat=>[I n]) (λn B=>n<=wn x/\∃e:List CC,B=d++[zu (e.map zg).flatten]/\wn e=wn x/\e.map (·.c)=b.AX) (λn=>wn x-n) (λn B=>∃e:List CC,B=d++[zu (e.map zg).flatten]/\wn e=wn x/\e.map (·.c)=b.AX) 0 rfl ⟨AZ _,x,rfl,rfl,Gj⟩ ?_ ?_
   .rintro n B ⟨hn,e,rfl,ZE,Z⟩;obtain A|EC:=AQ n x.length
    .let UR:n<wn e:=by omega
     let C:e[n].c=b.AX[n]'(by omega):=by simp only[<-Z,C4]
     have Zu:=(P.DU e[n].c (by rw[C];exact AV _)).2.1;let D:(d++[DH.cells (e.map CC.row).flatten])[d.length]?=some (.cells (e.map CC.row).flatten):=AF;let hg:(e.map zg)[n]?=zx e[n].row:=by rw[Cp,Ap UR];rfl
     let L:A8 (d++[z8 (e.map zg).flatten]) zc (Pt (wn d) (n*3+2))=zx e[n].v:=by simp only[A8,D,Fg];exact Ni (QL e) AR hg
     let⟨av,J,bM⟩:=f45 (h:=d++[DH.cells (e.map CC.row).flatten]) e[n].ok Ab;let H:Cv (d++[z8 (e.map zg).flatten]) 1 (Pt (wn d) (n*3+2)) av=zx (d++[zu ((e.set n ⟨e[n].c,av,bM⟩).map zg).flatten]):=by simp only[Cv,D,AY.cells bM,A5,OE];rw[Ae (by rw[GX (QL e),Ao];omega),P1 (AH:=e.map CC.row) (i:=n) (k:=2) (v:=av) (QL e) (zv UR) AR,BO _ _ (Af _),Dy,Fa,C4];rfl
     simp only[abS,(Ab:(n:Int)<(x.length:Int)),FN A,L,J,H,BB n];refine .next (n+1) rfl ⟨A,_,rfl,by rw[Bw];exact ZE,?_⟩ Ab
     rw[Fa,Z];show b.AX.set n e[n].c=b.AX;rw[C,IW]
    .simp only[abS,(Ab:¬n<(x.length:Int))];exact .HT n rfl ⟨e,rfl,ZE,Z⟩
   .rintro n B ⟨e,rfl,ZE,Z⟩;simp only[By,↓reduceIte];refine⟨_,rfl,F,O,.CK (wn d) 0 (wn x) 3,u++[zu (e.map zg).flatten],rfl,by rw[f,AO],GF.1,?_,?_⟩;.rw[<-AO,<-f];exact p.Dt λi _ hi=>An hi
    .rw[<-AO,<-f];exact zf ⟨wn d,e,by rw[f];simp,by rw[ZE],AF,Z⟩
 obtain⟨r,h',hr,F,T,Y,u,rfl,rfl,hs⟩:=Jy.ret;exact⟨F,T,Y,u,hr,hs⟩
end
structure qo(h:Ak)(v:Ad)(fs:List CC):Prop where
 len:AB (wf zr) [v]=zx (I (wn fs))
 at_:∀k (hk:k<wn fs),∃id o,AB (.EM 3) [v,I k]=zx (Pt id o)/\A8 h zc (Pt id o)=zx (I fs[k].c.node)/\A8 h zc (Pt id (o+1))=zx (zk fs[k].c.name)/\A8 h zc (Pt id (o+2))=zx fs[k].v
def NRd(h:Ak)(x:FE)(r:List Ad):Prop:=∃K V,r=[I x.kind,I x.Ha,K,I x.Cd,I x.Bk,zk x.name,V,zk x.data,zk x.Ho,zk x.sys,zq x.Cm,I x.cont,I x.E3]/\SL h K x.Bj/\O6 h V x.Al/\K.cells=[K]/\V.cells=[V]
def fY(h:Ak)(v:Ad)(l:List FE):Prop:=∃AH:List (List Ad),AY 13 AH v/\wn AH=wn l/\∀k (h1:k<wn AH) (h2:k<wn l),NRd h l[k] AH[k]
def fZ(h:Ak)(lo:Nat)(v:Ad)(l:List FE):Prop:=∃AH:List (List Ad),AY 13 AH v/\wn AH=wn l/\∀k (h1:k<wn AH) (h2:k<wn l),Zj h lo l[k] AH[k]
section
variable{h h':Ak}{lo z:Nat}{v m:Ad}
def Ot.at_{l:List B9}(m:Ot h lo v l):∃a:List CC,a.map (·.c)=l/\qo h v a:=by
 rcases m with⟨rfl,rfl⟩|⟨i,a,_,rfl,p,e⟩
 .exact⟨[],rfl,rfl,λk b=>by simp at b⟩
 .refine⟨a,e,rfl,λk b=>⟨i,k*3,FN b,?_⟩⟩;let o:(a.map zg)[k]?=zx a[k].row:=by rw[Cp,Ap b];rfl
  let d:∀j,j<3->A8 h zc (Pt i (k*3+j))=a[k].row[j]?:=λj n=>by simp[A8,p,Fg];exact Ni (QL a) n o
  let f:=d 0 AR;rw[BE] at f;exact⟨f,d 1 AR,d 2 AR⟩
def Up.le{N b:Nat}(c:Up N v)(d:b<=N):Up b v:=λa k e=>BC d (c a k e)
section
variable{x:FE}{r:List Ad}(f:Zj h lo x r)
def Zj.rd:NRd h x r:=let⟨K,V,e,b,a,_⟩:=f;⟨K,V,e,b.UP,a.in_,AY.cells b,a.cells⟩
def Zj.low(a:z<=lo):Zj h z x r:=let⟨K,V,e,d,c,b⟩:=f;⟨K,V,e,d,c,b.le a⟩
end
def fZ.rd{l:List FE}(d:fZ h lo v l):fY h v l:=let⟨AH,f,e,c⟩:=d;⟨AH,f,e,λk a b=>(c k a b).rd⟩
def f18{l:List Int}(c:SL h v l)(e:SL h m l)(hb:wn l<=1000000000):BF cx 136 [v,m] h tt h:=by
 simp only[Ac,aEa,abS,c.len,e.len,BR,CH];refine Bm (λn:Nat=>[ff,I n]) (λn d=>n<=wn l/\d=h) (λn=>wn l-n) 0 rfl ⟨AZ _,rfl⟩ ?_;rintro n d ⟨hn,rfl⟩;obtain a|EC:=AQ n (wn l)
 .let⟨p,k,j⟩:=c.at_ n a;let⟨p',i,f⟩:=e.at_ n a;simp[c.len,(Ab:n<wn l),k,j,i,f,BR,CH,BB n];exact zn (n+1) rfl ⟨a,rfl⟩ Ab
 .simp only[abS,c.len,(Ab:¬n<(wn l:Int))]
def aPg(y:Bb):AB (.geq z9 [.i,.s,.s]) [zb y.row,zb y.row]=zx (zq zr):=by rw[UD];simp[zl,EI,Ns]
def aPh{l:List Bb}(c:O6 h v l)(e:O6 h m l)(hb:wn l<=1000000000):BF cx 410 [v,m] h tt h:=by
 simp only[Ac,aFo,abS,c.len,e.len,BR,CH];refine Bm (λn:Nat=>[ff,I n]) (λn d=>n<=wn l/\d=h) (λn=>wn l-n) 0 rfl ⟨AZ _,rfl⟩ ?_;rintro n d ⟨hn,rfl⟩;obtain a|EC:=AQ n (wn l)
 .let⟨p,k,j⟩:=c.at_ n a;let⟨p',i,f⟩:=e.at_ n a;simp only[abS,c.len,(Ab:n<(wn l:Int)),k,j,i,f,aPg,BB n];exact zn (n+1) rfl ⟨a,rfl⟩ Ab
 .simp only[abS,c.len,(Ab:¬n<(wn l:Int))]
def f87{a b:List CC}(D:qo h v a)(N:qo h m b)(E:a.map (·.c)=b.map (·.c))(hb:wn a<=1000000000)(P:∀e∈a,wn e.c.Al<=1000000000):BF cx 137 [v,m] h tt h:=by
 let O:wn b=wn a:=have:=Cx List.length E;zv this.symm
 let z:=D.len;let p:=N.len;rw[O] at p;simp only[Ac,aEb,abS,z,p,BR,CH];refine Bm (λn:Nat=>[ff,I n]) (λn B=>n<=wn a/\B=h) (λn=>wn a-n) 0 rfl ⟨AZ _,rfl⟩ ?_;rintro n B ⟨hn,rfl⟩;obtain x|EC:=AQ n (wn a)
 .let M:n<wn b:=by omega
  let q:b[n].c=a[n].c:=by have:=Cx (λl=>l[n]?) E;simp[Cp,Ap x,Ap M,Cb,BN] at this;exact this.symm
  let⟨id,o,C,Q,a3,a4⟩:=D.at_ n x;let⟨Hd,o',L,K,J,H⟩:=N.at_ n M;rw[q] at K J;have G:=a[n].ok;have y:=q▸b[n].ok
  have iP:=P _ (AV x);let f:=xs G;let r:=xs y;generalize a[n].v=av at*;generalize b[n].v=Xa at*;generalize a[n].c.Al=d at*;simp only[abS,z,(Ab:n<(wn a:Int)),C,Q,a3,a4,L,K,J,H,BR,CH,f,r];refine Bm (λj:Nat=>[ff,I j]) (λj F=>j<=wn d/\F=B) (λj=>wn d-j) 0 rfl ⟨AZ _,rfl⟩ ?_;rintro j F ⟨hj,rfl⟩;obtain A|s:=AQ j (wn d)
  .let u:=wu (k:= ys) G A;let t:=wu (k:= ys) y A;let i:(zl d[j]).length=3:=rfl;let g:(zl d[j]).take 3=zl d[j]:=rfl;simp only[abS,C,a4,L,H,f,(Ab:j<(wn d:Int)),u,t,i,g,Af,aPg,BB j];exact zn (j+1) rfl ⟨A,rfl⟩ Ab
  .simp only[abS,C,a4,f,(Ab:¬j<(wn d:Int)),BB n];exact zn (n+1) rfl ⟨x,rfl⟩ Ab
 .simp only[abS,z,(Ab:¬n<(wn a:Int))]
def f22{s:SS}{t o c p q u:Ad}(w:Wv h lo s t o c)(i:Wv h z s p q u)(b1:wn s.tm<=1000000000)(F:wn s.AJ<=1000000000)(E:wn s.AX<=1000000000)(D:∀e∈s.AX,wn e.Al<=1000000000):BF cx 43 [zb (YK s t o c),zb (YK s p q u)] h tt h:=by
 let⟨fs,d,C⟩:=w.c.at_;let⟨l,b,G⟩:=i.c.at_;let g:=f18 w.o.UP i.o.UP F;let A:=f87 C G (d.trans b.symm) (by rwa[<-d,Ao] at E) (λe B=>D e.c (d▸Rv B));let m:=w.t.len;let j:=i.t.len;simp only[Ac,aJB,YK,YK,abS,m,j,BR,CH,g,A];refine Bm (λn:Nat=>[ff,I n]) (λn r=>n<=wn s.tm/\r=h) (λn=>wn s.tm-n) 0 rfl ⟨AZ _,rfl⟩ ?_;rintro n r ⟨hn,rfl⟩;obtain a|EC:=AQ n (wn s.tm)
 .let x:=wu (k:= ys) (w.t.ne λe=>by rw[e] at a;simp at a) a;let v:=wu (k:= ys) (i.t.ne λe=>by rw[e] at a;simp at a) a;rw[BM] at x v;simp[m,(Ab:n<wn s.tm),x,v,BR,CH,BB n];exact zn (n+1) rfl ⟨a,rfl⟩ Ab
 .simp only[abS,m,(Ab:¬n<(wn s.tm:Int)),CH,D3]
section
variable{x:FE}{r k:List Ad}(n:NRd h x r)(o:NRd h x k)(p:x.Al.length<=1000000000)
def aUP:BF cx 377 [zb r,zb k] h tt h:=by obtain⟨K,V,rfl,g,d,f,e⟩:=n;obtain⟨j,i,rfl,cy,a,c,jX⟩:=o;let b:=aPh d a p;simp[aFi,CH,b,D3]
def aUQ(l:wn x.Bj<=1000000000):BF cx 289 [zb r,zb k] h tt h:=by let b:=aUP n o p;obtain⟨K,V,rfl,d,g,f,e⟩:=n;obtain⟨j,i,rfl,m,ĭ,c,jX⟩:=o;let a:=f18 d m l;simp[aEV,CH,b,a,D3]
end
def f90{l:List FE}(E:fY h v l)(G:fY h m l)(hb:wn l<=1000000000)(F:∀x∈l,wn x.Al<=1000000000/\wn x.Bj<=1000000000):BF cx 142 [v,m] h tt h:=by
 let⟨AH,i,s,q⟩:=E;let⟨b,c,g,e⟩:=G;let y:=i.len;let p:=c.len;rw[s] at y;rw[g] at p;simp only[Ac,aEe,abS,y,p,BR,CH];refine Bm (λn:Nat=>[ff,I n]) (λn A=>n<=wn l/\A=h) (λn=>wn l-n) 0 rfl ⟨AZ _,rfl⟩ ?_;rintro n A ⟨hn,rfl⟩;obtain w|EC:=AQ n (wn l)
 .let C:=i.EM (k:= ys) (Ab:n<wn AH);let B:=c.EM (k:= ys) (Ab:n<wn b);let o:=q n Ab w;let j:=e n Ab w;let z:=F _ (AV w);let d:=aUQ o j z.1 z.2;let⟨K,V,r,_⟩:=o;let⟨u,t,f,_⟩:=j;rw[r] at C d;rw[f] at B d;simp[y,(Ab:n<wn l),C,B,d,BB n];exact zn (n+1) rfl ⟨w,rfl⟩ Ab
 .simp only[abS,↓reduceIte,y,(Ab:¬n<(wn l:Int))]
end
def qp{A:Ar}{k:Nat}(b:k<wn A.n):A.has (k+1)/\A.nd (k+1)=A.n[k]:=by
 let a:A.has (k+1):=by rw[Ar.has];omega
 exact⟨a,by rw[Ar.nd];rw[Ae a,A3,(Ab:((k:Int)+1).toNat-1=k),Ap b];rfl⟩
section
variable{h B:Ak}{a n:Nat}{m:Option Nat}{y:List PN}{A:Ar}{x:Int}
def aUR(w:PA h a n m y A)(p:OM A)(M:∀x,(A.nd x).Bj.length<=1000000000)(hb:wn A.n<=900000000):∃v u,BF cx 143 [Pt a 0] h v (h++u)/\fZ (h++u) (wn h) v A.n:=by
 let cR:=hK;let nM:wn A.n=wn y:=by rw[w.e,Ao]
 let U:Ev cx 143 [Pt a 0] h λr B=>∃u,B=h++u/\fZ (h++u) (wn h) r A.n:=by
  simp only[Ev,aEf,By,T6,w.nodes,show AB (wf zr) [.CK n 0 (wn y) 13]=zx (I (wn y)) from rfl];refine Bm (λz:Ad×Nat=>[z.1,I z.2]) (λz D=>z.2<=wn y/\∃u,D=h++u/\fZ (h++u) (wn h) z.1 (A.n.take z.2)) (λz=>wn y-z.2) (zw,0) rfl ⟨AZ _,[],AF,[],.nil,AF,λk D O=>by simp at D⟩ ?_;rintro⟨V,k⟩ D ⟨J,u,rfl,c⟩;simp only at J c;let G:PA (h++u) a n m y A:=w.Dt λi N=>An (w.lt i N);obtain E|EC:=AQ k (wn y)
  .let⟨L,P⟩:=qp (A:=A) (k:=k) Ab;let⟨r,t,l,F⟩:=aHm G p L (M _);let R:AB (.EM 13) [.CK n 0 (wn y) 13,I k]=zx (.ptr (zx (n,nP n (k+1)))):=by have:=FN (k:= ys) (id:=n) (z:=13) E;rw[this];rw[nP];congr 4
   let⟨AH,g,d,o⟩:=c;rw[Az,CE Ab] at d;let⟨K,W,f,T⟩:=F;let Q:AB (.Df 13) [zb r]=zx (.sl 13 [r]):=Oh (by rw[f];rfl) AR;let s:=AY.zD (b:=168) (row:=r) g Ab;simp only[abS,(Ab:k<(y.length:Int)),G.nodes,R,l,Q,s,BB k];refine zn (_,k+1) rfl ⟨E,u++t,by rw[AO],AH++[r],.mk,by rw[As,Az,d];simp;omega,λj D O=>?_⟩ DO;rw[<-AO];rw[aX0];by_cases H:j<wn AH;.rw[JB H];have:=o j H (by rw[Az];omega);rw[aX0] at this;exact this.If
   .have q:j=k:=by simp at D;omega
    subst q;rw[aCV Ab];simp only[d,Dy,aLA];exact P▸Zj.low ⟨K,W,f,T⟩ AF
  .rw[AL Ab] at c;simp only[abS,(Ab:¬k<(y.length:Int))];exact⟨_,rfl,u,rfl,c⟩
 obtain⟨r,B,F,u,rfl,c⟩:=U.ret;exact⟨r,u,F,c⟩
end
def PB(h:Ak)(d:Nat)(b:BS)(F:Nat->Prop):Prop:=∃a o c t G,BX h d a o c t G b/\Ca b.AX c/\F=BD d G
structure Fin(b:BS)j:Prop where
 ok:E4 b
 sz:Sz b j
section
variable{h h':Ak}{d wi:Nat}{b:BS}{F F2:Nat->Prop}{q:cr}{e:Ad}{j:Nat}
def PB.lt(w:PB h d b F){i:Nat}(e:F i):i<wn h:=by
 obtain⟨a,o,c,t,G,w,_,rfl⟩:=w;obtain rfl|e:=e
 .exact w.lt
 .exact w.w.lt e
def PB.Dt(w:PB h d b F)(e:∀i,F i->h'[i]?=h[i]?):PB h' d b F:=by obtain⟨a,o,c,t,G,w,f,rfl⟩:=w;exact⟨a,o,c,t,G,w.Dt e,f,rfl⟩
def PB.If(w:PB h d b F){u:Ak}:PB (h++u) d b F:=w.Dt λi a=>An (w.lt a)
def aUS(w:PB h d b F)(f:Fin b (j+1))(s:Ī q)(p:AK q.Al e):∃i k,BF cx 20 [Pt d 0,zb (NB q e)] h (zb (fU b q).2.row) i/\PB i d (fU b q).1 k/\Dx h F i k:=by obtain⟨a,o,c,t,G,w,u,rfl⟩:=w;let⟨i,n,v,m,z,r,l,y,x⟩:=aUG w u f.ok f.sz s p;exact⟨i,_,r,⟨a,n,v,m,z,l,y,rfl⟩,x⟩
def aUT(s:FX)(i:AK s.Al e)(j:Eg s.Al)(h:Ak):∃f d F,BF cx 18 [zb (P7 s e)] h (Pt d 0) f/\PB f d s.b F/\Dx h (λ_=>False) f F:=let⟨f,d,a,o,c,t,G,r,w,k,x⟩:=aUL h s i j;⟨f,d,_,r,⟨a,o,c,t,G,w,k,rfl⟩,x⟩
end
structure QO where
 q:cr
 v:Ad
 ok:AK q.Al v
def QO.row(x:QO):List Ad:=NB x.q x.v
def QO.C5{x:QO}:wn x.row=9:=rfl
def QO.Jh{x:QO}:x.row.take 9=x.row:=rfl
def cz(l:List QO)(v:Ad):Prop:=AY 9 (l.map QO.row) v
def P8:BS->List QO->BS
 |b,[]=>b
 |b,x::l=>P8 (fU b x.q).1 l
def gA:∀{l:List QO} {b:BS} {x:QO},P8 b (l++[x])=(fU (P8 b l) x.q).1
 |[],_,_=>rfl
 |y::l,b,x=>by rw[CS,P8,gA,P8]
end Go.Am
end
section
end
