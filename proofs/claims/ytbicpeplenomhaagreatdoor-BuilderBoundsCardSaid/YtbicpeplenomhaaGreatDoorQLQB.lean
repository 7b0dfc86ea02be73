/- Parts of the proof. No law is claimed here. -/
import Derived.Test.YtbicpeplenomhaaGreatDoorQ26
import Derived.Test.YtbicpeplenomhaaGreatDoorQLW2
set_option linter.unusedVariables false
set_option linter.unusedSimpArgs false
namespace Go.Am
open Go
set_option maxRecDepth 100000
theorem ev_bounds (s:BStart) {av:AVal} (hv:IsAttrs s.attrs av) {l:List QO} {v:AVal} (ho:IsOps l v) (hr:∀x∈l,-2147483648≤x.q.r∧x.q.r≤2147483647) (nm:Bytes):Ev cx 5 [.agg (srow s av),v,.str nm] [] λr _=>r= .bool true:=by
 have r4:Ret cx 19 [v,I 60] [] (.bool (decide (opsOk l 60))) []:=f4 ho (m:=60) (by decide) [];have r5:=f5 s hv [];have hav:av.cells=[av]:=IsSl.cells hv;unfold Ev;rw[t5_eq,t5,srow];by_cases c1:opsOk l 60
 ·rw[decide_eq_true c1] at r4;by_cases c2:ctxOk s
  ·rw[decide_eq_true c2] at r5;by_cases c3:(60:Int)<(nm.length:Int)
   ·simp only[amS,bxS,r4.call,r5.call,c3,known_iff];exact⟨_,rfl,rfl⟩
   ·obtain⟨h1,bi,F,r6,w1⟩:=f401 s hv c2.2.small ho c1.1 (λx hx=>(c1.2 x hx).ok (hr x hx)) [];have fin:Fin (playB s.b l) (39+1):=play_fin (j:=40) (s.fin.le (by have:=c1.1;omega)) λx hx=>(c1.2 x hx).ok (hr x hx);generalize playB s.b l=b at*;rw[srow] at r6;obtain⟨a,o,c,t,G,wp,hc,e1⟩:=w1;obtain⟨t1,o1,c1',u1,r8,s1⟩:=f16b wp hc fin.sz.rm;have wp1:=wp.app (u:=u1);have ho1:=fin.sz.rm.opn;have hac:=fin.sz.rm.act;have l0:=wp1.l0;have tc1:t1.cells=[t1]:=IsSl.cells s1.t;have oc1:=s1.o.cells;have cc1:=s1.c.cells;have hol:(b.opn.map Item.node).length=b.opn.length:=List.length_map ..;have lo1:peval (.len false) [o1]=some (.int .i64 (b.opn.length:Int)):=by have:=s1.o.len;rwa [show b.snap.opn.length=b.opn.length from hol] at this
    have lc1:peval (.len false) [c1']=some (.int .i64 (b.act.length:Int)):=s1.c.len;obtain⟨n0,m0,ps0,wa⟩:=wp1.w.pa;have rl:=f88w wa;obtain⟨h2,o2,c2',G2,r10,w2,hc2,x2⟩:=f15b (m:=0) wp1 hc fin.ok (fin.sz.rm.le (by have:=fin.sz.opn;omega)) nm;have l2:=w2.l0;obtain⟨n2,m2,ps2,wa2⟩:=w2.w.pa;have rl2:=f88w wa2;have fin2:=fin.agency (nm:=nm) (by omega);have r11:=f104 w2.sO.at
    have hn1:=fin.sz.rm.n;have hn2:=fin2.sz.rm.n;obtain⟨fs,hfs,he⟩:=s1.c.at_;have hfl:fs.length=b.act.length:=by rw[show b.act=fs.map (·.c) from hfs.symm,List.length_map]
    rw[srowV] at r8;simp only[amS,bxS,r4.call,r5.call,c3,r6.call,r8.call,tc1,oc1,cc1];refine W_loop_st (λn:Nat=>[ff,.int .i64 (n:Int)]) (λn h3=>n≤fs.length∧h3=h1++u1∧∀e∈b.act.take n,e.name≠wTemplate) (λn=>fs.length-n) 0 rfl ⟨Nat.zero_le _,rfl,by simp⟩ ?_;rintro n h3 ⟨hn,rfl,hT⟩;rcases Nat.lt_or_ge n fs.length with hlt|hge
    ·obtain⟨id,p,a1,a2,a3,a4⟩:=he.at_ n hlt;have ec:fs[n].c=b.act[n]'(by omega):=by simp only[show b.act=fs.map (·.c) from hfs.symm,List.getElem_map]
     by_cases hw:fs[n].c.name=wTemplate
     ·simp only[amS,bxS,lc1,show(n:Int)<(b.act.length:Int) by omega,a1,a3,hw,known_iff,eq_self]
      try exact⟨_,rfl,rfl⟩
     ·have hw':¬fs[n].c.name=[116,101,109,112,108,97,116,101]:=hw;simp only[amS,bxS,lc1,show(n:Int)<(b.act.length:Int) by omega,a1,a3,hw',pe_inc (show n<9223372036854775807 by omega)];refine LoopPost.next (n+1) rfl ⟨hlt,rfl,λe h=>?_⟩ (by omega);rw[List.take_succ_eq_append_getElem (by omega),List.mem_append,List.mem_singleton] at h;rcases h with h|rfl
      ·exact hT e h
      ·rw[←ec];exact hw
    ·rw[List.take_of_length_le (by omega)] at hT;have few:=agency_few (nm:=nm) (show NoT b from hT);have f1:=few.lo;have f2:=few.hi;have f3:=few.o;have sb:=pe_subI (a:=(b.agency nm).a.len) (b:=b.a.len) (by unfold Ar.len at*;omega) (by unfold Ar.len at*;omega);have ad:=pe_addI (a:=(b.opn.length:Int)) (b:=(b.agency nm).a.len-b.a.len) (by unfold Ar.len at*;omega) (by unfold Ar.len at*;omega);simp only[amS,bxS,lc1,show¬(n:Int)<(b.act.length:Int) by omega,l0,rl.call,r10.call,l2,rl2.call,sb,show(0:Int)≤(b.agency nm).a.len-b.a.len by omega,show(b.agency nm).a.len-b.a.len≤(32:Int) by omega,lo1,ad,r11.call,f3,known_iff];exact⟨_,rfl,rfl⟩
  ·rw[decide_eq_false c2] at r5;simp only[amS,bxS,r4.call,r5.call,known_iff];exact⟨_,rfl,rfl⟩
 ·rw[decide_eq_false c1] at r4;simp only[amS,bxS,r4.call,known_iff];exact⟨_,rfl,rfl⟩
theorem all_bounds:∀l,HasArgs [tStart,.sl tOp,.str] l→Ev cx 5 l [] λr _=>r= .bool true:=by rintro _ ⟨a,_,rfl,ha,b,_,rfl,hb,c,_,rfl,hc,rfl⟩;obtain⟨s,av,rfl,hv⟩:=hasV_start ha;obtain⟨l,ho,hr⟩:=hasV_ops hb;obtain⟨nm,rfl⟩:=hasV_str hc;exact ev_bounds s hv ho hr nm
end Go.Am
