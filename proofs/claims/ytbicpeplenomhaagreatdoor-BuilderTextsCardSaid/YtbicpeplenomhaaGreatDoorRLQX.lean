/- Parts of the proof. No law is claimed here. -/
import Derived.Test.YtbicpeplenomhaaGreatDoorR26
import Derived.Test.YtbicpeplenomhaaGreatDoorR28
set_option linter.unusedVariables false
set_option linter.unusedSimpArgs false
namespace Go.Am
open Go
set_option maxRecDepth 100000
def runeRow (r:Int):List AVal:=[.int .i32 r]
def IsRunes (l:List Int) (v:AVal):Prop:=IsSl 1 (l.map runeRow) v
theorem pe_i2s {k:IntKind} {n:Int}:peval .i2s [.int k n]=some (.str (utf8 n)):=by
 simp only[peval]
 congr 2
 unfold Utf8.encode utf8 Utf8.valid;simp only
 by_cases h1:0≤n∧n<128
 ·rw[if_pos h1];have hv:((decide (0≤n)&&decide (n<0xD800))||(decide (0xE000≤n)&&decide (n≤0x10FFFF)))=true:=by simp;omega
  rw[if_pos hv,if_pos (by omega)]
 ·rw[if_neg h1];by_cases h2:128≤n∧n<2048
  ·rw[if_pos h2];have hv:((decide (0≤n)&&decide (n<0xD800))||(decide (0xE000≤n)&&decide (n≤0x10FFFF)))=true:=by simp;omega
   rw[if_pos hv,if_neg (by omega),if_pos (by omega)]
  ·rw[if_neg h2];by_cases h3:2048≤n∧n<65536∧¬(55296≤n∧n<57344)
   ·rw[if_pos h3];have hv:((decide (0≤n)&&decide (n<0xD800))||(decide (0xE000≤n)&&decide (n≤0x10FFFF)))=true:=by simp;omega
    rw[if_pos hv,if_neg (by omega),if_neg (by omega),if_pos (by omega)]
   ·rw[if_neg h3];by_cases h4:65536≤n∧n≤1114111
    ·rw[if_pos h4];have hv:((decide (0≤n)&&decide (n<0xD800))||(decide (0xE000≤n)&&decide (n≤0x10FFFF)))=true:=by simp;omega
     rw[if_pos hv,if_neg (by omega),if_neg (by omega),if_neg (by omega)]
    ·rw[if_neg h4];have hv:¬((decide (0≤n)&&decide (n<0xD800))||(decide (0xE000≤n)&&decide (n≤0x10FFFF)))=true:=by simp;omega
     rw[if_neg hv];rfl
noncomputable def chars (b:BS) (l:List Int):BS:=l.foldl BS.char b
theorem chars_snoc {b:BS} {l:List Int} {r:Int}:chars b (l++[r])=(chars b l).char r:=by unfold chars;rw[List.foldl_append];rfl
def want (l:List Int):Bytes:=(l.map utf8).flatten
theorem want_snoc {l:List Int} {r:Int}:want (l++[r])=want l++utf8 r:=by unfold want;simp
theorem want_len:∀l:List Int,(want l).length≤4*l.length
 |[]=>Nat.le_refl _
 |r::l=>by have:=want_len l;have h:=utf8_len r;unfold want at this⊢;rw[List.map_cons,List.flatten_cons,List.length_append,List.length_cons];omega
structure ChOk (b c:BS) (w:Bytes) (n:Nat):Prop where
 ok:BOk c
 keep:Keep b.a c.a
 place:c.place 0=b.place 0
 t:n≠0→Txt c.a (b.place 0).1 (b.place 0).2 w∧c.a.len≤b.a.len+1
theorem chars_ok {b:BS} (o:BOk b) (hk:(b.a.nd (b.place 0).1).kind=4∨(b.a.nd (b.place 0).1).kind=2) {l:List Int}:∀{n:Nat},n≤l.length→ChOk b (chars b (l.take n)) (want (l.take n)) n∧(n=0→chars b (l.take n)=b∧want (l.take n)=[])
 |0,_=>⟨⟨o,.refl,rfl,λh=>absurd rfl h⟩,λ_=>⟨rfl,rfl⟩⟩
 |n+1,hn=>by
  obtain⟨c,c0⟩:=chars_ok (b:=b) o hk (l:=l) (n:=n) (by omega);rw[List.take_succ_eq_append_getElem (by omega),chars_snoc,want_snoc];refine⟨?_,λh=>by omega⟩;generalize chars b (l.take n)=d at*;generalize want (l.take n)=w at*;generalize l[n]=r at*;have po:=place_ok o (t:=0) (.inl rfl);obtain⟨k1,k2,_,_,_,_⟩:=c.keep _ po.1;have e:d.char r={d with a:=BS.charAt d.a (utf8 r) (b.place 0).1 (b.place 0).2}:=by unfold BS.char;rw[c.place]
  obtain⟨q1,q2,q3,q4,q5⟩:=char_first c.ok.ok k1 (by rw[k2];exact hk) (bf:=(b.place 0).2) (λh=>by obtain⟨a1,a2⟩:=po.2 h;obtain⟨b1,_,_,_,b2,_⟩:=c.keep _ a1;exact⟨b1,b2.trans a2⟩) (utf8 r)
  refine⟨char_ok c.ok,by rw[e];exact c.keep.trans q2,by rw[e,place_of c.ok q2,c.place],λ_=>?_⟩;rw[e];show Txt (BS.charAt d.a (utf8 r) (b.place 0).1 (b.place 0).2) _ _ _∧(BS.charAt d.a (utf8 r) (b.place 0).1 (b.place 0).2).len≤_;by_cases h0:n=0
  ·obtain⟨hd,hw⟩:=c0 h0;rw[hw,List.nil_append];exact⟨q1,by rw[hd] at q4⊢;exact q4⟩
  ·obtain⟨t1,t2⟩:=c.t h0;have t0:Txt d.a (b.place 0).1 (b.place 0).2 []:=let⟨t,x,y1,y2,y3,y4⟩:=t1;⟨t,x++w,y1,y2,y3,by rw[y4,List.append_nil]⟩
   obtain⟨z1,z2⟩:=q5 t0;exact⟨z2 w t1,by rw[z1];exact t2⟩
theorem chars_no {b:BS} (hk:¬((b.a.nd (b.place 0).1).kind=4∨(b.a.nd (b.place 0).1).kind=2)):∀l:List Int,chars b l=b
 |[]=>rfl
 |r::l=>by
  have e:b.char r=b:=by unfold BS.char BS.charAt;rw[if_neg hk]
  show chars (b.char r) l=b;rw[e];exact chars_no hk l
set_option maxHeartbeats 4000000 in
theorem ev_texts (s:BStart) {av:AVal} (hv:IsAttrs s.attrs av) {l:List QO} {v:AVal} (ho:IsOps l v) (hr:∀x∈l,-2147483648≤x.q.r∧x.q.r≤2147483647) {rs:List Int} {rv:AVal} (hrv:IsRunes rs rv) (hrs:∀r∈rs,-2147483648≤r∧r≤2147483647):Ev cx 9 [.agg (srow s av),v,rv] [] λr _=>r= .bool true:=by
 have r4:Ret cx 19 [v,I 60] [] (.bool (decide (opsOk l 60))) []:=f4 ho (m:=60) (by decide) [];have r5:=f5 s hv [];have hav:av.cells=[av]:=IsSl.cells hv;have lrv:=IsSl.lenM hrv;unfold Ev;rw[t9_eq,t9,srow];by_cases c1:opsOk l 60
 ·rw[decide_eq_true c1] at r4;by_cases c2:ctxOk s
  ·rw[decide_eq_true c2] at r5;by_cases c3:(30:Int)<(rs.length:Int)
   ·simp only[amS,bxS,r4.call,r5.call,lrv,c3,known_iff];exact⟨_,rfl,rfl⟩
   ·by_cases c4:(rs.length:Int)=0
    ·have c3':¬(30:Int)<0:=by decide
     rw[c4] at lrv;simp only[amS,bxS,r4.call,r5.call,lrv,c3',known_iff,eq_self,decide_true];exact⟨_,rfl,rfl⟩
    ·obtain⟨h1,bi,F,r6,w1⟩:=f401 s hv c2.2.small ho c1.1 (λx hx=>(c1.2 x hx).ok (hr x hx)) [];have fin:Fin (playB s.b l) 40:=play_fin (j:=40) (s.fin.le (by have:=c1.1;omega)) λx hx=>(c1.2 x hx).ok (hr x hx);generalize playB s.b l=b at*;rw[srow] at r6;obtain⟨a,o,c,t,G,wp,hc,e1⟩:=w1;have l0:=wp.l0;obtain⟨n0,m0,p0,wa⟩:=wp.w.pa;have r7:=f88w wa;obtain⟨v1,u1,rn1,n1⟩:=nodesB wp fin;have wp1:=wp.app (u:=u1);have own1:∀i,own bi G i→i<h1.length:=λi hi=>wp.own_lt hi;obtain⟨u2,r8⟩:=f32b wp1 fin.ok fin.sz.rm 0;have wp2:=wp1.app (u:=u2);have n1':=n1.frame (h':=h1++u1++u2) (λi _ hi=>List.getElem?_append_left hi) (by simp);have po:=place_ok fin.ok (t:=0) (.inl rfl);simp only[amS,bxS,r4.call,r5.call,lrv,c3,c4,r6.call,l0,r7.call,rn1.call,r8.call];generalize hH:h1++u1++u2=H at*;refine W_loop_fin (i:=0) (λn:Nat=>[.str (want (rs.take n)),.int .i64 (n:Int)]) (λn h3=>n≤rs.length∧∃G3,BX h3 bi a o c t G3 (chars b (rs.take n))∧Fin (chars b (rs.take n)) (10+(30 -n))∧Ext H (own bi G) h3 (own bi G3)) (λn=>rs.length-n) (λn h3=>n=rs.length∧∃G3,BX h3 bi a o c t G3 (chars b rs)∧Fin (chars b rs) 10∧Ext H (own bi G) h3 (own bi G3)) 0 rfl ⟨Nat.zero_le _,G,wp2,fin,.refl⟩ ?_ ?_
     ·rintro n h3 ⟨hn,G3,w3,f3,x3⟩;rcases Nat.lt_or_ge n rs.length with hlt|hge
      ·have ea:=IsSl.eaddrM (k:= .i64) hrv hlt;rw[runeRow] at ea;have hb:=hrs _ (List.getElem_mem hlt);have f4:Fin (chars b (rs.take n)) ((10+(30 -(n+1)))+1):=f3.le (by omega);obtain⟨h4,G4,r9,w4,x4⟩:=f13b (m:=0) w3 f4.ok (f4.sz.rm.le (by omega)) rs[n] hb;have wl:=want_len (rs.take n);have ul:=utf8_len rs[n];rw[List.length_take] at wl;have sa:=pe_sadd (s:=want (rs.take n)) (u:=utf8 rs[n]) (by omega);simp only[amS,bxS,lrv,show(n:Int)<(rs.length:Int) by omega,ea,r9.call,pe_i2s,sa,pe_inc (show n<9223372036854775807 by omega)];refine .next (n+1) (by rw[List.take_succ_eq_append_getElem hlt,want_snoc]) ⟨hlt,G4,?_,?_,x3.trans x4⟩ (by omega)
       ·rw[List.take_succ_eq_append_getElem hlt,chars_snoc];exact w4
       ·rw[List.take_succ_eq_append_getElem hlt,chars_snoc];exact f4.char hb
      ·rw[List.take_of_length_le hge] at w3 f3;simp only[amS,bxS,lrv,show¬(n:Int)<(rs.length:Int) by omega];exact .fin n rfl ⟨by omega,G3,w3,f3.le (by omega),x3⟩
     ·rintro n h3 ⟨rfl,G3,w3,f3,x3⟩;rw[List.take_length];have l3:=w3.l0;obtain⟨n3,m3,p3,wa3⟩:=w3.w.pa;have lm3:=f3.sz.rm.lim;have kb3:=λx=>lm3.kids f3.ok.ok x;obtain⟨q1,t1,r10,hq1⟩:=f97w (x:=(b.place 0).1) wa3 lm3 (kb3 _);have ok:=chars_ok fin.ok (l:=rs) (n:=rs.length);rw[List.take_length] at ok;by_cases hk:(b.a.nd (b.place 0).1).kind=4∨(b.a.nd (b.place 0).1).kind=2
      ·obtain⟨ok,_⟩:=ok hk (Nat.le_refl _);obtain⟨tx,hlen⟩:=ok.t (by omega);obtain⟨a1,a2,_,_,_,_⟩:=ok.keep _ po.1;rw[if_pos a1] at r10;obtain⟨K1,V1,rfl,hK1,hV1,_⟩:=hq1;rw[a2] at r10;have K1c:K1.cells=[K1]:=IsSl.cells hK1;have V1c:=hV1.cells;have lk:=IsSl.lenM hK1;have w4:=w3.app (u:=t1);have l4:=w4.l0;obtain⟨n4,m4,p4,wa4⟩:=w4.w.pa;have r12:=f88w wa4;obtain⟨y,d,hy,hh,h5,hd⟩:=tx;obtain⟨q2,t2,r13,hq2⟩:=f97w (x:=y) wa4 lm3 (kb3 _);rw[if_pos hh] at r13;obtain⟨K2,V2,rfl,hK2,hV2,_⟩:=hq2;rw[h5,hd] at r13;have K2c:K2.cells=[K2]:=IsSl.cells hK2;have V2c:=hV2.cells;have hdl:=lm3.data y;rw[hd] at hdl;have nb:=fin.sz.rm.n;have kb:=kb3 (b.place 0).1;have ad:=pe_addI (a:=b.a.len) (b:=1) (by unfold Ar.len;omega) (by unfold Ar.len;omega);have hg:¬b.a.len+1<(chars b rs).a.len:=by omega
       have wl:=want_len rs;have sd:=pe_subI (a:=((d++want rs).length:Int)) (b:=((want rs).length:Int)) (by omega) (by omega);have ed:((d++want rs).length:Int)-((want rs).length:Int)=(d.length:Int):=by rw[List.length_append];omega
       rw[ed] at sd;have sl:=pe_slc_lo (k:= .i64) (z:=0) (s:=d++want rs) (a:=d.length) (by simp);rw[List.drop_left] at sl;have hge:((want rs).length:Int)≤((d++want rs).length:Int):=by rw[List.length_append];omega
       have hk4:(b.a.nd (b.place 0).1).kind=4∨(¬(b.a.nd (b.place 0).1).kind=4∧(b.a.nd (b.place 0).1).kind=2):=by omega
       by_cases hb:(b.place 0).2=0
       ·obtain⟨k1,ky⟩:=prevK (k:=((chars b rs).a.nd (b.place 0).1).kids.length) (λ_=>rfl) (λh=>absurd hb h) (Nat.le_refl _) hy;generalize((chars b rs).a.nd (b.place 0).1).kids=kl at*;have sb:=pe_subI (a:=(kl.length:Int)) (b:=1) (by omega) (by omega);have ek:(kl.length:Int)-1=((kl.length-1:Nat):Int):=by omega
        rw[ek] at sb;have hk2:kl.length-1<kl.length:=by omega
        have ea:=IsSl.eaddrM (k:= .i64) hK1 hk2;rw[List.getElem?_eq_getElem hk2,Option.some.injEq] at ky;rw[ky,intRow] at ea;have hn0:¬((kl.length-1:Nat):Int)<0:=by omega
        have hn1:¬(kl.length:Int)≤((kl.length-1:Nat):Int):=by omega
        rcases hk4 with hk4|⟨hk4,hk5⟩
        ·simp only[amS,↓reduceIte,bxS,l3,r10.call,K1c,V1c,ne_eq,eq_self,hk4,lk,sb,hb,hn0,hn1,l4,r12.call,ad,hg,ea,r13.call,K2c,V2c,hge,sd,sl,known_iff,decide_true];exact⟨_,rfl,rfl⟩
        ·simp only[amS,↓reduceIte,bxS,l3,r10.call,K1c,V1c,ne_eq,eq_self,hk5,show¬(2:Int)=4 by decide,lk,sb,hb,hn0,hn1,l4,r12.call,ad,hg,ea,r13.call,K2c,V2c,hge,sd,sl,known_iff,decide_true];exact⟨_,rfl,rfl⟩
       ·obtain⟨b1,b2⟩:=po.2 hb;obtain⟨b3,_,_,_,b4,_⟩:=ok.keep _ b1;rw[b2] at b4;have p0:(b.place 0).1≠0:=by have:=po.1.1;omega
        have r14:=f411 wa4 lm3 f3.ok.ok b3 (by rw[b4];exact p0);rw[b4] at r14;have hmem:=(f3.ok.ok.par _ b3 (by rw[b4];exact p0)).2;rw[b4] at hmem;obtain⟨k,hkl,hki,_,htw,_⟩:=idx_mem hmem;rw[hki] at r14;obtain⟨k1,ky⟩:=prevK (k:=k) (λh=>absurd h hb) (λ_=>htw) (Nat.le_of_lt hkl) hy;generalize((chars b rs).a.nd (b.place 0).1).kids=kl at*;have sb0:=pe_subI (a:=(kl.length:Int)) (b:=1) (by omega) (by omega);have sb:=pe_subI (a:=(k:Int)) (b:=1) (by omega) (by omega);have ek:(k:Int)-1=((k-1:Nat):Int):=by omega
        rw[ek] at sb;have hk2:k-1<kl.length:=by omega
        have ea:=IsSl.eaddrM (k:= .i64) hK1 hk2;rw[List.getElem?_eq_getElem hk2,Option.some.injEq] at ky;rw[ky,intRow] at ea;have hn0:¬((k-1:Nat):Int)<0:=by omega
        have hn1:¬(kl.length:Int)≤((k-1:Nat):Int):=by omega
        rcases hk4 with hk4|⟨hk4,hk5⟩
        ·simp only[amS,↓reduceIte,bxS,l3,r10.call,K1c,V1c,ne_eq,eq_self,hk4,lk,sb0,hb,l4,r14.call,sb,hn0,hn1,r12.call,ad,hg,ea,r13.call,K2c,V2c,hge,sd,sl,known_iff,decide_true];exact⟨_,rfl,rfl⟩
        ·simp only[amS,↓reduceIte,bxS,l3,r10.call,K1c,V1c,ne_eq,eq_self,hk5,show¬(2:Int)=4 by decide,lk,sb0,hb,l4,r14.call,sb,hn0,hn1,r12.call,ad,hg,ea,r13.call,K2c,V2c,hge,sd,sl,known_iff,decide_true];exact⟨_,rfl,rfl⟩
      ·have e0:=chars_no hk rs;rw[e0] at w3 f3 wa3 r10 hq1;obtain⟨K1,V1,rfl,hK1,hV1,_⟩:=hq1;rw[if_pos po.1] at r10;have K1c:K1.cells=[K1]:=IsSl.cells hK1;have V1c:=hV1.cells;have w4:=w3.app (u:=t1);have l4:=w4.l0;obtain⟨v2,u5,rn2,n2⟩:=nodesB w4 f3;have n3:=(n1'.stay x3 own1).frame (h':=h3++t1++u5) (λi _ hi=>by rw[List.append_assoc];exact List.getElem?_append_left hi) (by simp);have rs:=nodes_same f3 n3.rd n2.rd;have hk4:¬(b.a.nd (b.place 0).1).kind=4:=λh=>hk (.inl h);have hk2:¬(b.a.nd (b.place 0).1).kind=2:=λh=>hk (.inr h);simp only[amS,↓reduceIte,bxS,l3,r10.call,K1c,V1c,ne_eq,eq_self,hk4,hk2,l4,rn2.call,rs.call,known_iff,decide_true];exact⟨_,rfl,rfl⟩
  ·rw[decide_eq_false c2] at r5;simp only[amS,bxS,r4.call,r5.call,known_iff];exact⟨_,rfl,rfl⟩
 ·rw[decide_eq_false c1] at r4;simp only[amS,bxS,r4.call,known_iff];exact⟨_,rfl,rfl⟩
theorem has_rune (r:List AVal) (h:Has (.int .i32) r):∃n:Int,r=runeRow n∧(-2147483648≤n∧n≤2147483647):=by obtain⟨n,rfl,w⟩:=has_int h;have m1:IntKind.i32.min= -2147483648:=rfl;have m2:IntKind.i32.max=2147483647:=rfl;simp[Lit.wf,m1,m2] at w;exact⟨n,rfl,w⟩
theorem all_texts:∀l,HasArgs [tStart,.sl tOp,.sl (.int .i32)] l→Ev cx 9 l [] λr _=>r= .bool true:=by rintro _ ⟨a,_,rfl,ha,b,_,rfl,hb,c,_,rfl,hc,rfl⟩;obtain⟨s,av,rfl,hv⟩:=hasV_start ha;obtain⟨l,ho,hr⟩:=hasV_ops hb;have hc:Has (.sl (.int .i32)) [c]:=hc;obtain⟨rs,h1,_,h2⟩:=has_sl has_rune hc;exact ev_texts s hv ho hr h1 h2
end Go.Am
