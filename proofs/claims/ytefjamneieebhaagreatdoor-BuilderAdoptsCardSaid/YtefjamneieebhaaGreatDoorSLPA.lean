/- Lemmas -/
import Derived.Test.YtefjamneieebhaaGreatDoorS32
set_option linter.unusedVariables false
set_option linter.unusedSimpArgs false
namespace Go.Am
open Go
set_option maxRecDepth 100000
theorem tV(s:Ek){av:Aa}(hv:Bw s.Ax av){l:List QO}{v:Aa}(ho:X2 l v)(hr:∀x∈l,-2147483648<=x.q.r/\x.q.r<=2147483647)(nm:Ap):Ev cx 5 [.agg (Lj s av),v,.str nm] [] λr _=>r= .bool true:=by
 have r4:BI cx 10 [v,I 60] [] (.bool (decide (Lp l 60))) []:=f4 ho (m:=60) (by decide) [];have r5:=f5 s hv [];have Xd:av.cells=[av]:=AM.cells hv;unfold Ev;rw[aEC,t5,Lj];by_cases c1:Lp l 60
 .rw[Az c1] at r4;by_cases c2:Tf s
  .rw[Az c2] at r5;by_cases c3:(60:Int)<(nm.length:Int);·simp only[AB,Bi,r4.call,r5.call,c3,Hh];exact⟨_,rfl,rfl⟩
   .obtain⟨h1,bi,wi,F,F2,r7,w⟩:=f7w s hv c2.2.qE (by have:=c2.1;omega) ho c1.1 (λx hx=>(c1.2 x hx).ok (hr x hx)) [];have L3:Lo (Lm s.b l) (39+1):=ME (j:=40) (s.L3.le (by have:=c1.1;omega)) λx hx=>(c1.2 x hx).ok (hr x hx);obtain⟨h2,h3,F3,F4,r9,ZO,w3,f3⟩:=eD w L3 (nm:=nm) (by omega);obtain⟨u,r8⟩:=f8w w3 f3;rw[Lj] at r7;simp only[AB,Bi,r4.call,r5.call,c3,r7.call,r9.call,ZO.call,r8.call,Hh];exact⟨_,rfl,rfl⟩
  .rw[AA c2] at r5;simp only[AB,Bi,r4.call,r5.call,Hh];exact⟨_,rfl,rfl⟩
 .rw[AA c1] at r4;simp only[AB,Bi,r4.call,Hh];exact⟨_,rfl,rfl⟩
theorem kL:∀l,ON [L4,.sl uS,.str] l->Ev cx 5 l [] λr _=>r= .bool true:=by
 rintro _ ⟨a,_,rfl,ha,b,_,rfl,hb,c,_,rfl,hc,rfl⟩;obtain⟨s,av,rfl,hv⟩:=Ql ha;obtain⟨l,ho,hr⟩:=Wf hb;obtain⟨nm,e⟩:=O4 (r:=[c]) hc;obtain rfl:c= .str nm:=by simpa using e
 exact tV s hv ho hr nm
end Go.Am
