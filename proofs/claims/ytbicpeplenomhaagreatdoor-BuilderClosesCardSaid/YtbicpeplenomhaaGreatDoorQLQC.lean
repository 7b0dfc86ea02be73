/- Parts of the proof. No law is claimed here. -/
import Derived.Test.YtbicpeplenomhaaGreatDoorQ26
import Derived.Test.YtbicpeplenomhaaGreatDoorQ27
set_option linter.unusedVariables false
set_option linter.unusedSimpArgs false
namespace Go.Am
open Go
set_option maxRecDepth 100000
theorem ev_closes (s:BStart) {av:AVal} (hv:IsAttrs s.attrs av) {l:List QO} {v:AVal} (ho:IsOps l v) (hr:∀x∈l,-2147483648≤x.q.r∧x.q.r≤2147483647) (nm:Bytes):Ev cx 6 [.agg (srow s av),v,.str nm] [] λr _=>r= .bool true:=by
 have r4:Ret cx 19 [v,I 60] [] (.bool (decide (opsOk l 60))) []:=f4 ho (m:=60) (by decide) [];have r5:=f5 s hv [];have hav:av.cells=[av]:=IsSl.cells hv;unfold Ev;rw[t6_eq,t6,srow];by_cases c1:opsOk l 60
 ·rw[decide_eq_true c1] at r4;by_cases c2:ctxOk s
  ·rw[decide_eq_true c2] at r5;by_cases c3:(60:Int)<(nm.length:Int)
   ·simp only[amS,bxS,r4.call,r5.call,c3,known_iff];exact⟨_,rfl,rfl⟩
   ·obtain⟨h1,bi,F,r6,w1⟩:=f401 s hv c2.2.small ho c1.1 (λx hx=>(c1.2 x hx).ok (hr x hx)) [];have fin:Fin (playB s.b l) (39+1):=play_fin (j:=40) (s.fin.le (by have:=c1.1;omega)) λx hx=>(c1.2 x hx).ok (hr x hx);generalize playB s.b l=b at*;rw[srow] at r6;obtain⟨a,o,c,t,G,wp,hc,e1⟩:=w1;obtain⟨t1,o1,c1',u1,r8,s1⟩:=f16b wp hc fin.sz.rm;have own1:∀i,own bi G i→i<h1.length:=λi hi=>wp.own_lt hi;have wp1:=wp.app (u:=u1);obtain⟨v1,u2,rn1,n1⟩:=nodesB wp1 fin;have wp2:=wp1.app (u:=u2);have ho1:=fin.sz.rm.opn;have l0:=wp1.l0;have r9:=f144 wp2.sO.at (by omega) nm;obtain⟨h2,o2,r10,w2,x2⟩:=f58b wp2 fin.sz.rm nm;have fin2:=fin.anyEnd (nm:=nm) (by omega);have ha2:(b.anyEnd nm).a=b.a:=by rcases anyEnd_law fin.ok nm with e|⟨_,e⟩<;>rw[e]
    have hc2:IsEnts (b.anyEnd nm).act c:=by rcases anyEnd_law fin.ok nm with e|⟨_,e⟩<;>rw[e]<;>exact hc
    obtain⟨t3,o3,c3',u3,r11,s3⟩:=f16b w2 hc2 fin2.sz.rm;have w3:=w2.app (u:=u3);have l3:=w3.l0;obtain⟨v2,u4,rn2,n2⟩:=nodesB w3 fin2;rw[ha2] at n2;have s2:=((s1.frame (h':=h1++u1++u2) λi _ hi=>List.getElem?_append_left hi).stay x2 own1).frame (h':=h2++u3++u4) λi _ hi=>by rw[List.append_assoc];exact List.getElem?_append_left hi
    have s4:=s3.frame (h':=h2++u3++u4) λi _ hi=>List.getElem?_append_left hi;have n3:=(n1.stay x2 λi hi=>by have:=own1 i hi;simp;omega).frame (h':=h2++u3++u4) (λi _ hi=>by rw[List.append_assoc];exact List.getElem?_append_left hi) (by simp);have rs:=nodes_same fin n3.rd n2.rd;have tc1:t1.cells=[t1]:=IsSl.cells s1.t;have tc3:t3.cells=[t3]:=IsSl.cells s3.t;have oc1:=s1.o.cells;have oc3:=s3.o.cells;have cc1:=s1.c.cells;have cc3:=s3.c.cells;have hol:(b.opn.map Item.node).length=b.opn.length:=List.length_map ..;have lo1:peval (.len false) [o1]=some (.int .i64 (b.opn.length:Int)):=by have:=s1.o.len;rwa [show b.snap.opn.length=b.opn.length from hol] at this
    have lo3:peval (.len false) [o3]=some (.int .i64 ((b.anyEnd nm).opn.length:Int)):=by have:=s3.o.len;rwa [show(b.anyEnd nm).snap.opn.length=(b.anyEnd nm).opn.length from List.length_map ..] at this
    by_cases hsm:b.anyEnd nm=b
    ·rw[hsm] at s4 lo3 r11;have r12:=snap_same fin s2 s4;rw[srowV,srowV] at r12;rw[srowV] at r8 r11;simp only[amS,bxS,r4.call,r5.call,c3,r6.call,r8.call,l0,rn1.call,r9.call,r10.call,r11.call,l3,rn2.call,rs.call,r12.call,known_iff,tc1,tc3,oc1,oc3,cc1,cc3,lo1,lo3,Int.lt_irrefl,eq_self];exact⟨_,rfl,rfl⟩
    ·obtain⟨h0,eb⟩:=(anyEnd_law fin.ok nm).resolve_left hsm;have hlt:=(lastIdx_lt (q:=isOne [nm]) (l:=b.opn)).1;obtain⟨n,hn⟩:∃n:Nat,lastIdx (isOne [nm]) b.opn=(n:Int):=⟨(lastIdx (isOne [nm]) b.opn).toNat,by omega⟩;rw[hn] at r9 hlt h0 eb;have hlen:(b.anyEnd nm).opn.length=max 1 n:=by rw[eb];have:=cut_len hlt h0;simpa using this
     have hnl:max 1 n<b.opn.length:=by
      rcases Nat.lt_or_ge (max 1 n) b.opn.length with h|h
      ·exact h
      ·exfalso;apply hsm;have e9:cutL b.opn (n:Int)=b.opn:=List.take_of_length_le (by simpa using h);rw[eb,e9]
     rw[hlen] at lo3;obtain⟨sl,e5,i5⟩:=s2.o.hi (k:=max 1 n) (show max 1 n≤(b.opn.map Item.node).length by rw[hol];omega) (by omega);have i3:=s4.o.ints;have e6:(b.anyEnd nm).snap.opn=(b.snap.opn).take (max 1 n):=by show(b.anyEnd nm).opn.map Item.node=(b.opn.map Item.node).take (max 1 n);rw[eb,←List.map_take];rfl
     rw[e6] at i3;have r13:=f18 i3 i5 (by rw[List.length_take];show min _ (b.opn.map Item.node).length≤_;rw[hol];omega);rw[srowV] at r8 r11;by_cases hz:(n:Int)<1
     ·have n0:n=0:=by omega
      subst n0;have e5':peval (.slc 1 false false true) [o1,I 1]=some sl:=e5;have m1:max 1 0=1:=rfl;rw[m1] at lo3;simp only[amS,bxS,r4.call,r5.call,c3,r6.call,r8.call,l0,rn1.call,r9.call,r10.call,r11.call,l3,rn2.call,rs.call,known_iff,tc1,tc3,oc1,oc3,cc1,cc3,lo1,lo3,hz,h0,e5',r13.call,Int.natCast_one,show¬(b.opn.length:Int)<1 by omega,show¬(1:Int)=(b.opn.length:Int) by omega,show(1:Int)≤(b.opn.length:Int) by omega,eq_self];exact⟨_,rfl,rfl⟩
     ·have n1:max 1 n=n:=by omega
      rw[n1] at e5 lo3;simp only[amS,bxS,r4.call,r5.call,c3,r6.call,r8.call,l0,rn1.call,r9.call,r10.call,r11.call,l3,rn2.call,rs.call,known_iff,tc1,tc3,oc1,oc3,cc1,cc3,lo1,lo3,hz,h0,e5,r13.call,show¬(b.opn.length:Int)<(n:Int) by omega,show¬(n:Int)=(b.opn.length:Int) by omega,show(n:Int)≤(b.opn.length:Int) by omega,eq_self];exact⟨_,rfl,rfl⟩
  ·rw[decide_eq_false c2] at r5;simp only[amS,bxS,r4.call,r5.call,known_iff];exact⟨_,rfl,rfl⟩
 ·rw[decide_eq_false c1] at r4;simp only[amS,bxS,r4.call,known_iff];exact⟨_,rfl,rfl⟩
theorem all_closes:∀l,HasArgs [tStart,.sl tOp,.str] l→Ev cx 6 l [] λr _=>r= .bool true:=by rintro _ ⟨a,_,rfl,ha,b,_,rfl,hb,c,_,rfl,hc,rfl⟩;obtain⟨s,av,rfl,hv⟩:=hasV_start ha;obtain⟨l,ho,hr⟩:=hasV_ops hb;obtain⟨nm,rfl⟩:=hasV_str hc;exact ev_closes s hv ho hr nm
end Go.Am
