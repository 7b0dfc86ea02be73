/- Parts of the proof. No law is claimed here. -/
import Derived.Test.YtbicpeplenomhaaGreatDoorQ26
import Derived.Test.YtbicpeplenomhaaGreatDoorQ27
set_option linter.unusedVariables false
set_option linter.unusedSimpArgs false
namespace Go.Am
open Go
set_option maxRecDepth 100000
theorem ev_templates (s:BStart) {av:AVal} (hv:IsAttrs s.attrs av) {l:List QO} {v:AVal} (ho:IsOps l v) (hr:∀x∈l,-2147483648≤x.q.r∧x.q.r≤2147483647):Ev cx 4 [.agg (srow s av),v] [] λr _=>r= .bool true:=by
 have r4:Ret cx 19 [v,I 60] [] (.bool (decide (opsOk l 60))) []:=f4 ho (m:=60) (by decide) [];have r5:=f5 s hv [];have hav:av.cells=[av]:=IsSl.cells hv;unfold Ev;rw[t4_eq,t4,srow];by_cases c1:opsOk l 60
 ·rw[decide_eq_true c1] at r4;by_cases c2:ctxOk s
  ·rw[decide_eq_true c2] at r5;obtain⟨h1,bi,F,r6,w1⟩:=f401 s hv c2.2.small ho c1.1 (λx hx=>(c1.2 x hx).ok (hr x hx)) [];have fin:Fin (playB s.b l) (39+1):=play_fin (j:=40) (s.fin.le (by have:=c1.1;omega)) λx hx=>(c1.2 x hx).ok (hr x hx);generalize playB s.b l=b at*;rw[srow] at r6;obtain⟨a,o,c,t,G,wp,hc,e1⟩:=w1;obtain⟨t1,o1,c1',u1,r8,s1⟩:=f16b wp hc fin.sz.rm;have own1:∀i,own bi G i→i<h1.length:=λi hi=>wp.own_lt hi;have wp1:=wp.app (u:=u1);have ho1:=fin.sz.rm.opn;have r9:=f144 wp1.sO.at (by omega) wTemplate;obtain⟨h2,o2,c2',t2,r10,w2,hc2,x2⟩:=f61b wp1 hc fin.sz.rm;have fin2:=fin.endT;obtain⟨t3,o3,c3',u3,r11,s3⟩:=f16b w2 hc2 fin2.sz.rm;have s2:=(s1.stay x2 own1).frame (h':=h2++u3) λi _ hi=>List.getElem?_append_left hi;have tc1:t1.cells=[t1]:=IsSl.cells s1.t;have tc3:t3.cells=[t3]:=IsSl.cells s3.t;have oc1:=s1.o.cells;have oc3:=s3.o.cells;have cc1:=s1.c.cells;have cc3:=s3.c.cells;by_cases hat:lastIdx (isOne [wTemplate]) b.opn<0
   ·rw[endT_none hat] at s3 r11;have r12:=snap_same fin s2 s3;rw[srowV,srowV] at r12;rw[srowV] at r8 r11;simp only[amS,bxS,r4.call,r5.call,r6.call,r8.call,r9.call,r10.call,r11.call,r12.call,hat,known_iff,tc1,tc3,oc1,oc3,cc1,cc3];exact⟨_,rfl,rfl⟩
   ·obtain⟨e2,e3,e4⟩:=endT_some (b:=b) (by omega);have hlt:=(lastIdx_lt (q:=isOne [wTemplate]) (l:=b.opn)).1;obtain⟨n,hn⟩:∃n:Nat,lastIdx (isOne [wTemplate]) b.opn=(n:Int):=⟨(lastIdx (isOne [wTemplate]) b.opn).toNat,by omega⟩;rw[hn] at r9 hlt hat e2;have hol:(b.opn.map Item.node).length=b.opn.length:=List.length_map ..;obtain⟨sl,e5,i5⟩:=s2.o.hi (k:=max 1 n) (show max 1 n≤(b.opn.map Item.node).length by rw[hol];omega) (by omega);have i3:=s3.o.ints;have e6:b.endTemplate.snap.opn=(b.snap.opn).take (max 1 n):=by show b.endTemplate.opn.map Item.node=(b.opn.map Item.node).take (max 1 n);rw[e2,←List.map_take];rfl
    rw[e6] at i3;have r13:=f18 i3 i5 (by rw[List.length_take];show min _ (b.opn.map Item.node).length≤_;rw[hol];omega);have lo1:peval (.len false) [o1]=some (.int .i64 (b.opn.length:Int)):=by have:=s1.o.len;rwa [show b.snap.opn.length=b.opn.length from hol] at this
    have lt1:peval (.len false) [t1]=some (.int .i64 (b.tm.length:Int)):=s1.t.len;have lt3:peval (.len false) [t3]=some (.int .i64 ((b.tm.length-1:Nat):Int)):=by have:=s3.t.len;rwa [show b.endTemplate.snap.tm.length=b.tm.length-1 by show b.endTemplate.tm.length=_;rw[e3,List.length_dropLast]] at this
    have lc1:peval (.len false) [c1']=some (.int .i64 (b.act.length:Int)):=s1.c.len;have lc3:peval (.len false) [c3']=some (.int .i64 (b.endTemplate.act.length:Int)):=s3.c.len;have hcl:(b.endTemplate.act.length:Int)≤(b.act.length:Int):=by rw[e4];have:=(List.take_sublist (sinceC b.act-1).toNat b.act).length_le;unfold clearC;omega
    have htm:=fin.sz.rm.tm;rw[srowV] at r8 r11;have h2:¬(n:Int)<0:=by omega
    by_cases hz:(n:Int)<1
    ·have n0:n=0:=by omega
     subst n0;have e5':peval (.slc 1 false false true) [o1,I 1]=some sl:=e5;by_cases hm:(0:Int)<(b.tm.length:Int)
     ·have sb:=pe_subI (a:=(b.tm.length:Int)) (b:=1) (by omega) (by omega);have hne:(((b.tm.length-1:Nat):Int)=(b.tm.length:Int)-1):=by omega
      simp only[amS,bxS,r4.call,r5.call,r6.call,r8.call,r9.call,r10.call,r11.call,h2,hz,known_iff,tc1,tc3,oc1,oc3,cc1,cc3,lo1,lt1,lt3,lc1,lc3,hm,sb,hne,e5',r13.call,hcl,show(1:Int)≤(b.opn.length:Int) by omega,eq_self];exact⟨_,rfl,rfl⟩
     ·have hne:(((b.tm.length-1:Nat):Int)=(b.tm.length:Int)):=by omega
      simp only[amS,bxS,r4.call,r5.call,r6.call,r8.call,r9.call,r10.call,r11.call,h2,hz,known_iff,tc1,tc3,oc1,oc3,cc1,cc3,lo1,lt1,lt3,lc1,lc3,hm,hne,e5',r13.call,hcl,show(1:Int)≤(b.opn.length:Int) by omega,eq_self];exact⟨_,rfl,rfl⟩
    ·have n1:max 1 n=n:=by omega
     rw[n1] at e5;by_cases hm:(0:Int)<(b.tm.length:Int)
     ·have sb:=pe_subI (a:=(b.tm.length:Int)) (b:=1) (by omega) (by omega);have hne:(((b.tm.length-1:Nat):Int)=(b.tm.length:Int)-1):=by omega
      simp only[amS,bxS,r4.call,r5.call,r6.call,r8.call,r9.call,r10.call,r11.call,h2,hz,known_iff,tc1,tc3,oc1,oc3,cc1,cc3,lo1,lt1,lt3,lc1,lc3,hm,sb,hne,e5,r13.call,hcl,show(n:Int)≤(b.opn.length:Int) by omega,eq_self];exact⟨_,rfl,rfl⟩
     ·have hne:(((b.tm.length-1:Nat):Int)=(b.tm.length:Int)):=by omega
      simp only[amS,bxS,r4.call,r5.call,r6.call,r8.call,r9.call,r10.call,r11.call,h2,hz,known_iff,tc1,tc3,oc1,oc3,cc1,cc3,lo1,lt1,lt3,lc1,lc3,hm,hne,e5,r13.call,hcl,show(n:Int)≤(b.opn.length:Int) by omega,eq_self];exact⟨_,rfl,rfl⟩
  ·rw[decide_eq_false c2] at r5;simp only[amS,bxS,r4.call,r5.call,known_iff];exact⟨_,rfl,rfl⟩
 ·rw[decide_eq_false c1] at r4;simp only[amS,bxS,r4.call,known_iff];exact⟨_,rfl,rfl⟩
theorem all_templates:∀l,HasArgs [tStart,.sl tOp] l→Ev cx 4 l [] λr _=>r= .bool true:=by rintro _ ⟨a,_,rfl,ha,b,_,rfl,hb,rfl⟩;obtain⟨s,av,rfl,hv⟩:=hasV_start ha;obtain⟨l,ho,hr⟩:=hasV_ops hb;exact ev_templates s hv ho hr
end Go.Am
