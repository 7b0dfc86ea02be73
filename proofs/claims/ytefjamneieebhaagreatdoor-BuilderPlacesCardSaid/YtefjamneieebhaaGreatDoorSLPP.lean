/- Lemmas -/
import Derived.Test.YtefjamneieebhaaGreatDoorS32
set_option linter.unusedVariables false
set_option linter.unusedSimpArgs false
namespace Go.Am
open Go
set_option maxRecDepth 100000
theorem tW(s:Ek){av:Aa}(hv:Bw s.Ax av){l:List QO}{v:Aa}(ho:X2 l v)(hr:∀x∈l,-2147483648<=x.q.r/\x.q.r<=2147483647)(x:Int):Ev cx 6 [.agg (Lj s av),v,I x] [] λr _=>r= .bool true:=by
 have r4:BI cx 10 [v,I 60] [] (.bool (decide (Lp l 60))) []:=f4 ho (m:=60) (by decide) [];have r5:=f5 s hv [];have Xd:av.cells=[av]:=AM.cells hv;unfold Ev;rw[aED,t6,Lj];by_cases c1:Lp l 60
 .rw[Az c1] at r4;by_cases c2:Tf s;·rw[Az c2] at r5;obtain⟨h1,bi,wi,F,F2,r7,w⟩:=f7w s hv c2.2.qE (by have:=c2.1;omega) ho c1.1 (λx hx=>(c1.2 x hx).ok (hr x hx)) [];have L3:Lo (Lm s.b l) 40:=ME (j:=40) (s.L3.le (by have:=c1.1;omega)) λx hx=>(c1.2 x hx).ok (hr x hx);generalize Lm s.b l=b at*;obtain⟨a,o,c,t,G,wp,hc,e1⟩:=w.p;obtain⟨u1,r9⟩:=bq wp L3.ok L3.sz.rm x;have w1:=w.HA (u:=u1);obtain⟨a,o,c,t,G,wp1,O9,e2⟩:=w1.p;obtain⟨a',o',c',t',G',wr1,zt,e3⟩:=w1.r;have ZO:=dW wr1 L3.ok L3.sz.rm L3.nm x;have wm:=qk wp1 L3.sz.rm;have r12:=rp (D7 b.AO) (h1++u1);have cq:=dV wr1 L3.sz.rm;have qz:=aIm wp1 L3.sz.rm;have r15:=rp b.adj (h1++u1);have wv:=aIn wr1 L3.sz.rm;have q1:=bZ (a:=D7 b.AO) (b:=D7 b.AO) (neg:=false);have q2:=bZ (a:=b.adj) (b:=b.adj) (neg:=false);rw[Az rfl] at q1 q2;obtain⟨u,r8⟩:=f8w w1 L3;rw[Lj] at r7;rw[Item.row] at wm r12 cq qz r15 wv q1 q2;simp only[AB,Bi,r4.call,r5.call,r7.call,r9.call,ZO.call,Cn,wm.call,r12.call,cq.call,qz.call,r15.call,wv.call,q1,q2,r8.call,Hh];exact⟨_,rfl,rfl⟩
  .rw[AA c2] at r5;simp only[AB,Bi,r4.call,r5.call,Hh];exact⟨_,rfl,rfl⟩
 .rw[AA c1] at r4;simp only[AB,Bi,r4.call,Hh];exact⟨_,rfl,rfl⟩
theorem kM:∀l,ON [L4,.sl uS,.int .i64] l->Ev cx 6 l [] λr _=>r= .bool true:=by
 rintro _ ⟨a,_,rfl,ha,b,_,rfl,hb,c,_,rfl,hc,rfl⟩;obtain⟨s,av,rfl,hv⟩:=Ql ha;obtain⟨l,ho,hr⟩:=Wf hb;obtain⟨n,e,_⟩:=LM (r:=[c]) hc;obtain rfl:c= I n:=by simpa using e
 exact tW s hv ho hr n
end Go.Am
