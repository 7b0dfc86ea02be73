/- Parts of the proof. No law is claimed here. -/
import Derived.Test.YtbicpeplenomhaaGreatDoorQ26
import Derived.Test.YtbicpeplenomhaaGreatDoorQ27
set_option linter.unusedVariables false
set_option linter.unusedSimpArgs false
namespace Go.Am
open Go
set_option maxRecDepth 100000
theorem ev_rebuilds (s:BStart) {av:AVal} (hv:IsAttrs s.attrs av) {l:List QO} {v:AVal} (ho:IsOps l v) (hr:∀x∈l,-2147483648≤x.q.r∧x.q.r≤2147483647):Ev cx 8 [.agg (srow s av),v] [] λr _=>r= .bool true:=by
 have r4:Ret cx 19 [v,I 60] [] (.bool (decide (opsOk l 60))) []:=f4 ho (m:=60) (by decide) [];have r5:=f5 s hv [];have hav:av.cells=[av]:=IsSl.cells hv;unfold Ev;rw[t8_eq,t8,srow];by_cases c1:opsOk l 60
 ·rw[decide_eq_true c1] at r4;by_cases c2:ctxOk s
  ·rw[decide_eq_true c2] at r5;obtain⟨h1,bi,F,r6,w1⟩:=f401 s hv c2.2.small ho c1.1 (λx hx=>(c1.2 x hx).ok (hr x hx)) [];have fin:Fin (playB s.b l) (39+1):=play_fin (j:=40) (s.fin.le (by have:=c1.1;omega)) λx hx=>(c1.2 x hx).ok (hr x hx);generalize playB s.b l=b at*;rw[srow] at r6;obtain⟨a,o,c,t,G,wp,hc,e1⟩:=w1;obtain⟨t1,o1,c1',u1,r8,s1⟩:=f16b wp hc fin.sz.rm;have own1:∀i,own bi G i→i<h1.length:=λi hi=>wp.own_lt hi;have wp1:=wp.app (u:=u1);have l0:=wp1.l0;obtain⟨n0,m0,ps0,wa⟩:=wp1.w.pa;have rl:=f88w wa;obtain⟨h2,o2,c2',G2,r10,w2,hc2,x2⟩:=f57b (m:=0) wp1 hc fin.ok (fin.sz.rm.le (by have:=fin.sz.act;omega));have fin2:Fin b.rebuild (38+1):=fin.rebuild;have own2:∀i,own bi G2 i→i<h2.length:=λi hi=>w2.own_lt hi;have L:=rebuild_law fin.ok;obtain⟨t3,o3,c3',u3,r11,s3⟩:=f16b w2 hc2 fin2.sz.rm;have s2:=(s1.stay x2 own1).frame (h':=h2++u3) λi _ hi=>List.getElem?_append_left hi;have w3:=w2.app (u:=u3);have l3:=w3.l0;obtain⟨n3,m3,ps3,wa3⟩:=w3.w.pa;have rl3:=f88w wa3;obtain⟨v1,u4,rn1,n1⟩:=nodesB w3 fin2;have w4:=w3.app (u:=u4);obtain⟨h5,o5,c5',G5,r12,w5,hc5,x5⟩:=f57b (m:=0) w4 hc2 fin2.ok (fin2.sz.rm.le (by have:=fin2.sz.act;omega));rw[rebuild_rest L.rest] at w5 hc5;obtain⟨t6,o6,c6',u6,r13,s6⟩:=f16b w5 hc5 fin2.sz.rm;have w6:=w5.app (u:=u6);have l6:=w6.l0;obtain⟨v2,u7,rn2,n2⟩:=nodesB w6 fin2;have s4:=((s3.frame (h':=h2++u3++u4) λi _ hi=>List.getElem?_append_left hi).stay x5 own2).frame (h':=h5++u6) λi _ hi=>List.getElem?_append_left hi;have r14:=snap_same fin2 s4 s6;have n3':=(n1.stay x5 λi hi=>by have:=own2 i hi;simp;omega).frame (h':=h5++u6++u7) (λi _ hi=>by rw[List.append_assoc];exact List.getElem?_append_left hi) (by simp);have r15:=nodes_same fin2 n3'.rd n2.rd;have tc1:t1.cells=[t1]:=IsSl.cells s1.t;have tc3:t3.cells=[t3]:=IsSl.cells s3.t;have oc1:=s1.o.cells;have oc3:=s3.o.cells;have cc1:=s1.c.cells;have cc3:=s3.c.cells;have lo1:peval (.len false) [o1]=some (.int .i64 (b.opn.length:Int)):=by have:=s1.o.len;rwa [show b.snap.opn.length=b.opn.length from List.length_map ..] at this
   have lo3:peval (.len false) [o3]=some (.int .i64 (b.rebuild.opn.length:Int)):=by have:=s3.o.len;rwa [show b.rebuild.snap.opn.length=b.rebuild.opn.length from List.length_map ..] at this
   have lc1:peval (.len false) [c1']=some (.int .i64 (b.act.length:Int)):=s1.c.len;have lc3:peval (.len false) [c3']=some (.int .i64 (b.act.length:Int)):=by have:=s3.c.len;rwa [show b.rebuild.snap.act.length=b.act.length from L.len] at this
   obtain⟨fs,hfs,he⟩:=s2.c.at_;obtain⟨gs,hgs,hg⟩:=s3.c.at_;have hfl:fs.length=b.act.length:=by rw[show b.act=fs.map (·.c) from hfs.symm,List.length_map]
   have hgl:gs.length=b.act.length:=by rw[←L.len,show b.rebuild.act=gs.map (·.c) from hgs.symm,List.length_map]
   have hac:=fin.sz.rm.act;have hop:=fin.sz.rm.opn;have hop2:=fin2.sz.rm.opn;obtain⟨cn,q1,q2,q3⟩:=L.opn;have oi:=s3.o.ints;rw[srowV] at r8 r11 r14;simp only[amS,bxS,r4.call,r5.call,r6.call,r8.call,tc1,oc1,cc1,l0,rl.call,r10.call,r11.call,tc3,oc3,cc3,lc1,lc3,lo1,lo3,ne_eq,eq_self,show¬(b.rebuild.opn.length:Int)<(b.opn.length:Int) by omega];refine W_loop_fin (i:=0) (λz:Int×Nat=>[ff,.int .i64 z.1,.int .i64 (z.2:Int)]) (λz h3=>z.2≤gs.length∧h3=h2++u3∧z.1=lastIdx mrkC (b.rebuild.act.take z.2)+1) (λz=>gs.length-z.2) (λz h3=>h3=h2++u3∧z.1=lastIdx mrkC b.rebuild.act+1) (0,0) rfl ⟨Nat.zero_le _,rfl,rfl⟩ ?_ ?_
   ·rintro⟨k,n⟩ h3 ⟨hn,rfl,hk⟩;simp only at hn hk;rcases Nat.lt_or_ge n gs.length with hlt|hge
    ·obtain⟨id,p,a1,a2,a3,a4⟩:=he.at_ n (by omega);obtain⟨id',p',b1,b2,b3,b4⟩:=hg.at_ n hlt;have hr2:n<b.rebuild.act.length:=by rw[L.len];omega
     have ef:fs[n].c=b.act[n]'(by omega):=by simp only[show b.act=fs.map (·.c) from hfs.symm,List.getElem_map]
     have eg:gs[n].c=b.rebuild.act[n]:=by simp only[show b.rebuild.act=gs.map (·.c) from hgs.symm,List.getElem_map]
     have en:gs[n].c.name=fs[n].c.name:=by rw[ef,eg];have:=congrArg (λl=>l[n]?) L.names;simpa[List.getElem?_eq_getElem hr2,List.getElem?_eq_getElem (show n<b.act.length by omega)] using this
     rw[en] at b3;have ht:=lastIdx_take (q:=mrkC) hr2;have inc:=pe_inc (show n<9223372036854775807 by omega);by_cases hz:gs[n].c.node=0
     ·rw[if_pos (by unfold mrkC;rw[←eg];exact decide_eq_true hz)] at ht;simp only[amS,bxS,lc3,show(n:Int)<(b.act.length:Int) by omega,a1,a3,b1,b2,b3,hz,eq_self,inc,ne_eq];exact .next ((n:Int)+1,n+1) rfl ⟨hlt,rfl,by simp only;rw[ht]⟩ (by simp only;omega)
     ·rw[if_neg (by unfold mrkC;rw[←eg];simpa using hz)] at ht;simp only[amS,bxS,lc3,show(n:Int)<(b.act.length:Int) by omega,a1,a3,b1,b2,b3,hz,eq_self,inc,ne_eq];exact .next (k,n+1) rfl ⟨hlt,rfl,by simp only;rw[ht,hk]⟩ (by simp only;omega)
    ·rw[List.take_of_length_le (by rw[L.len];omega)] at hk;simp only[amS,bxS,lc3,show¬(n:Int)<(b.act.length:Int) by omega];exact .fin (k,n) rfl ⟨rfl,hk⟩
   ·rintro⟨k,n⟩ h3 ⟨rfl,hk⟩;simp only at hk;have hm:=lastIdx_lt (q:=mrkC) (l:=b.rebuild.act);rw[L.len] at hm;obtain⟨z,hz⟩:∃z:Nat,k=(z:Int):=⟨k.toNat,by omega⟩;subst hz;simp only[amS,↓reduceIte];refine W_loop_fin (i:=2) (λn:Nat=>[ff,.int .i64 (n:Int)]) (λn h3=>z≤n∧n≤b.act.length∧h3=h2++u3) (λn=>b.act.length-n) (λn h3=>h3=h2++u3) z rfl ⟨Nat.le_refl _,by omega,rfl⟩ ?_ ?_
    ·rintro n h3 ⟨hn0,hn,rfl⟩;rcases Nat.lt_or_ge n b.act.length with hlt|hge
     ·obtain⟨id',p',b1,b2,b3,b4⟩:=hg.at_ n (by omega);have sb:=pe_subI (a:=(b.act.length:Int)) (b:=1) (by omega) (by omega);have inc:=pe_inc (show n<9223372036854775807 by omega);by_cases hlast:(n:Int)=(b.act.length:Int)-1
      ·have hr2:n<b.rebuild.act.length:=by rw[L.len];omega
       have eg:gs[n].c=b.rebuild.act[n]:=by simp only[show b.rebuild.act=gs.map (·.c) from hgs.symm,List.getElem_map]
       have hmem:=L.rest b.rebuild.act[n] (by rw[List.getLast?_eq_getElem?,List.getElem?_eq_getElem (by omega),Option.some.injEq];congr 1;rw[L.len];omega);have hno:¬b.rebuild.act[n].node=0:=by intro h0;have:=lastIdx_ge (q:=mrkC) hr2 (by unfold mrkC;exact decide_eq_true h0);omega
       obtain⟨i,_,hi,_⟩:=idx_mem (hmem.resolve_left hno);have ra:=f161a oi (by show(b.rebuild.opn.map Item.node).length≤_;rw[List.length_map];omega) gs[n].c.node;rw[eg,show b.rebuild.snap.opn=b.rebuild.opn.map Item.node from rfl,hi] at ra;rw[eg] at b2;simp only[amS,bxS,lc3,show(n:Int)<(b.act.length:Int) by omega,sb,eq_true hlast,b1,b2,ra.call,show¬(i:Int)<0 by omega,inc];exact .next (n+1) rfl ⟨by omega,hlt,rfl⟩ (by omega)
      ·simp only[amS,bxS,lc3,show(n:Int)<(b.act.length:Int) by omega,sb,hlast,inc];exact .next (n+1) rfl ⟨by omega,hlt,rfl⟩ (by omega)
     ·simp only[amS,bxS,lc3,show¬(n:Int)<(b.act.length:Int) by omega];exact .fin n rfl rfl
    ·rintro n h3 rfl;have sb1:=pe_subI (a:=(b.rebuild.opn.length:Int)) (b:=(b.opn.length:Int)) (by omega) (by omega);have sb2:=pe_subI (a:=(b.act.length:Int)) (b:=(z:Int)) (by omega) (by omega);have hle:¬(b.act.length:Int)-(z:Int)<(b.rebuild.opn.length:Int)-(b.opn.length:Int):=by omega
     by_cases hsame:(b.rebuild.opn.length:Int)=(b.opn.length:Int)
     ·have ea:=q3 (by omega);rw[ea] at rl3;rw[hsame] at lo3 sb1 hle;simp only[amS,↓reduceIte,bxS,lo1,lo3,lc3,sb1,sb2,hle,eq_self,l3,rl3.call,ne_eq,rn1.call,r12.call,r13.call,r14.call,l6,rn2.call,r15.call,known_iff];exact⟨_,rfl,rfl⟩
     ·simp only[amS,↓reduceIte,bxS,lo1,lo3,lc3,sb1,sb2,hle,hsame,l3,rn1.call,r12.call,r13.call,r14.call,l6,rn2.call,r15.call,known_iff];exact⟨_,rfl,rfl⟩
  ·rw[decide_eq_false c2] at r5;simp only[amS,bxS,r4.call,r5.call,known_iff];exact⟨_,rfl,rfl⟩
 ·rw[decide_eq_false c1] at r4;simp only[amS,bxS,r4.call,known_iff];exact⟨_,rfl,rfl⟩
theorem all_rebuilds:∀l,HasArgs [tStart,.sl tOp] l→Ev cx 8 l [] λr _=>r= .bool true:=by rintro _ ⟨a,_,rfl,ha,b,_,rfl,hb,rfl⟩;obtain⟨s,av,rfl,hv⟩:=hasV_start ha;obtain⟨l,ho,hr⟩:=hasV_ops hb;exact ev_rebuilds s hv ho hr
end Go.Am
