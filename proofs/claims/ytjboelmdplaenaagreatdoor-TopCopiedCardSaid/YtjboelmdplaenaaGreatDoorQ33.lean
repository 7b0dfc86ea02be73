/- Lemmas -/
import Derived.Test.YtjboelmdplaenaaGreatDoorQ29
import Derived.Test.YtjboelmdplaenaaGreatDoorQ31
set_option linter.unusedVariables false
set_option linter.unusedSimpArgs false
section
namespace Go.Am
open Go
set_option maxRecDepth 100000
section
variable {h:AHeap} {a b n n':Nat} {m m':Option Nat} {ps ps':List PN} {A B:Ar} {x y sf sg:Int} {P:Int→Prop} {v v':AVal}
theorem geqA (y:Attr):peval (.geq true [.i,.s,.s]) [.agg y.row,.agg y.row]=some (.bool false):=by rw[pe_geq_agg];simp[Attr.row,flatEqs,flatEq]
theorem s554 {l:List Attr} (hv:AttrsIn h v l) (hv':AttrsIn h v' l) (hb:l.length≤1000000000):Ret cx 75 [v,v'] h tt h:=by
 rw[ret_iff,t75_eq,t75];simp only[amS,bxS,hv.len,hv'.len,ne_eq,eq_self];refine W_loop_st (λn:Nat=>[ff,.int .i64 (n:Int)]) (λn h1=>n≤l.length∧h1=h) (λn=>l.length-n) 0 rfl ⟨Nat.zero_le _,rfl⟩ ?_;rintro n h1 ⟨hn,rfl⟩;rcases Nat.lt_or_ge n l.length with hlt|hge
 ·obtain⟨p,a1,a2⟩:=hv.at_ n hlt;obtain⟨p',b1,b2⟩:=hv'.at_ n hlt;simp only[amS,bxS,hv.len,show(n:Int)<(l.length:Int) by omega,a1,a2,b1,b2,geqA,pe_incN n];exact LoopPost.next (n+1) rfl ⟨hlt,rfl⟩ (by omega)
 ·simp only[amS,bxS,hv.len,show¬(n:Int)<(l.length:Int) by omega]
theorem PA.f7 (w:PA sf h a n m ps A) (hx:A.has x):hload h none (.ptr (some (n,nP n x+7)))=some (.str (A.nd x).data):=by have:=w.fld hx (k:=7) (by decide);rw[←(w.pn hx).2.1];exact this
theorem PA.f8 (w:PA sf h a n m ps A) (hx:A.has x):hload h none (.ptr (some (n,nP n x+8)))=some (.str (A.nd x).pub):=by have:=w.fld hx (k:=8) (by decide);rw[←(w.pn hx).2.1];exact this
theorem PA.f9 (w:PA sf h a n m ps A) (hx:A.has x):hload h none (.ptr (some (n,nP n x+9)))=some (.str (A.nd x).sys):=by have:=w.fld hx (k:=9) (by decide);rw[←(w.pn hx).2.1];exact this
theorem PA.f10 (w:PA sf h a n m ps A) (hx:A.has x):hload h none (.ptr (some (n,nP n x+10)))=some (.bool (A.nd x).quirks):=by have:=w.fld hx (k:=10) (by decide);rw[←(w.pn hx).2.1];exact this
theorem PA.f11 (w:PA sf h a n m ps A) (hx:A.has x):hload h none (.ptr (some (n,nP n x+11)))=some (.int .i64 (A.nd x).cont):=by have:=w.fld hx (k:=11) (by decide);rw[←(w.pn hx).2.1];exact this
theorem s552 (w:PA sf h a n m ps A) (w':PA sg h b n' m' ps' B) (hx:A.has x) (hy:B.has y) (co:(A.nd x).core=(B.nd y).core) (hb:(A.nd x).attrs.length≤1000000000):Ret cx 33 [.ptr (some (n,nP n x)),.ptr (some (n',nP n' y))] h tt h:=by
 have e1:(A.nd x).kind=(B.nd y).kind:=by have:=congrArg ANode.kind co;exact this
 have e2:(A.nd x).space=(B.nd y).space:=by have:=congrArg ANode.space co;exact this
 have e3:(A.nd x).name=(B.nd y).name:=by have:=congrArg ANode.name co;exact this
 have e4:(A.nd x).attrs=(B.nd y).attrs:=by have:=congrArg ANode.attrs co;exact this
 have e5:(A.nd x).data=(B.nd y).data:=by have:=congrArg ANode.data co;exact this
 have e6:(A.nd x).pub=(B.nd y).pub:=by have:=congrArg ANode.pub co;exact this
 have e7:(A.nd x).sys=(B.nd y).sys:=by have:=congrArg ANode.sys co;exact this
 have e8:(A.nd x).quirks=(B.nd y).quirks:=by have:=congrArg ANode.quirks co;exact this
 have r1:Ret cx 75 [(pN ps x).av,(pN ps' y).av] h tt h:=by rw[w.att hx,w'.att hy,←e4];exact s554 (attrs_in avOf_is) (attrs_in avOf_is) hb
 rw[ret_iff,t33_eq,t33];simp only[amS,Nat.reduceLeDiff,↓reduceIte,bxS,w.f0 hx,w'.f0 hy,e1,w.f4 hx,w'.f4 hy,e2,w.f5 hx,w'.f5 hy,e3,w.f6 hx,w'.f6 hy,r1,w.f7 hx,w'.f7 hy,e5,w.f8 hx,w'.f8 hy,e6,w.f9 hx,w'.f9 hy,e7,w.f10 hx,w'.f10 hy,e8,eq_self,beq_self_eq_true]
theorem gd (l:List Int) {k:Nat} (hk:k<l.length):l.getD k 0=l[k]:=by simp[List.getD_eq_getElem?_getD,hk]
theorem s620 (w:PA sf h a n m ps A) (w':PA sg h b n' m' ps' B) (lm:Lim A) (lm':Lim B) (hkb:∀y,(B.nd y).kids.length≤1000000000) (s:Smt A B P x y):Ret cx 13 [.ptr (some (a,0)),.int .i64 x,.ptr (some (b,0)),.int .i64 y] h tt h:=by
 induction s with
 |@mk x y p hx hy co hl hc sc sk i1 i2=>
 have r1:=f46w (x:=x) w;have r2:=f46w (x:=y) w';rw[decide_eq_true hx] at r1;rw[decide_eq_true hy] at r2;have r3:=f94w w lm hx;have r4:=f94w w' lm' hy;have r5:=s552 w w' hx hy co (lm.at_ x);have hky:=hkb y;have l1:=(w.kid hx).len;have l2:=(w'.kid hy).len;rw[hl] at l1;rw[ret_iff,t13_eq,t13];by_cases hct:(A.nd x).cont=0
 ·have hct':=hc.1 hct;simp only[amS,Nat.reduceLeDiff,↓reduceIte,bxS,r1,r2,r3,r4,r5,w.f2 hx,w'.f2 hy,l1,l2,ne_eq,eq_self,w.f11 hx,w'.f11 hy,hct,hct',beq_self_eq_true];refine W_loop_st (λk:Nat=>[ff,.int .i64 (k:Int)]) (λk h1=>k≤(B.nd y).kids.length∧h1=h) (λk=>(B.nd y).kids.length-k) 0 rfl ⟨Nat.zero_le _,rfl⟩ ?_;rintro k h1 ⟨hk,rfl⟩;rcases Nat.lt_or_ge k (B.nd y).kids.length with hlt|hge
  ·obtain⟨p1,a1,a2⟩:=(w.kid hx).ints.at_ k (by omega);obtain⟨p2,b1,b2⟩:=(w'.kid hy).ints.at_ k hlt;have r6:=i2 k (by omega);rw[gd (A.nd x).kids (by omega),gd (B.nd y).kids hlt] at r6;simp only[amS,Nat.reduceLeDiff,↓reduceIte,bxS,show(k:Int)<((B.nd y).kids.length:Int) by omega,w.f2 hx,w'.f2 hy,a1,a2,b1,b2,r6,pe_incN k];exact LoopPost.next (k+1) rfl ⟨hlt,rfl⟩ (by omega)
  ·simp only[amS,Nat.reduceLeDiff,↓reduceIte,bxS,show¬(k:Int)<((B.nd y).kids.length:Int) by omega]
 ·have hct':¬(B.nd y).cont=0:=λe=>hct (hc.2 e);have r6:=i1 hct;simp only[amS,Nat.reduceLeDiff,↓reduceIte,bxS,r1,r2,r3,r4,r5,w.f2 hx,w'.f2 hy,l1,l2,ne_eq,eq_self,w.f11 hx,w'.f11 hy,hct,hct',beq_self_eq_true,r6];refine W_loop_st (λk:Nat=>[ff,.int .i64 (k:Int)]) (λk h1=>k≤(B.nd y).kids.length∧h1=h) (λk=>(B.nd y).kids.length-k) 0 rfl ⟨Nat.zero_le _,rfl⟩ ?_;rintro k h1 ⟨hk,rfl⟩;rcases Nat.lt_or_ge k (B.nd y).kids.length with hlt|hge
  ·obtain⟨p1,a1,a2⟩:=(w.kid hx).ints.at_ k (by omega);obtain⟨p2,b1,b2⟩:=(w'.kid hy).ints.at_ k hlt;have r6:=i2 k (by omega);rw[gd (A.nd x).kids (by omega),gd (B.nd y).kids hlt] at r6;simp only[amS,Nat.reduceLeDiff,↓reduceIte,bxS,show(k:Int)<((B.nd y).kids.length:Int) by omega,w.f2 hx,w'.f2 hy,a1,a2,b1,b2,r6,pe_incN k];exact LoopPost.next (k+1) rfl ⟨hlt,rfl⟩ (by omega)
  ·simp only[amS,Nat.reduceLeDiff,↓reduceIte,bxS,show¬(k:Int)<((B.nd y).kids.length:Int) by omega]
end
end Go.Am
end
section
namespace Go.Am
open Go
set_option maxRecDepth 100000
section
variable {h h1:AHeap} {a n:Nat} {m:Option Nat} {ps:List PN} {A:Ar} {x sf:Int} {q:PN} {f:Int→Int}
theorem f45v (l:List Attr) (hb:l.length≤1000000000) (h:AHeap):Ret cx 68 [avOf l] h (avOf l) h:=by
 cases l with
 |nil=>rw[ret_iff,t68_eq,t68];simp only[amS,avOf,show peval (.nileq false .sl) [.slnil,.slnil]=some (.bool true) from rfl]
 |cons y l=>
  have e3:happM h 3 40 (.sl 3 []) (.sl 3 ((y::l).map Attr.row))=some (.sl 3 ((y::l).map Attr.row)):=by
   have:(l.length+1)*40≤maxBytes:=by have:maxBytes=140737488355328:=rfl;simp at hb;omega
   simp only[happM,rowsAt,if_true,Option.bind_some];simp[appendTo,this]
  rw[ret_iff,t68_eq,t68];simp only[amS,avOf,show peval (.nileq false .sl) [.sl 3 ((y::l).map Attr.row),.slnil]=some (.bool false) from rfl,show peval (.mksl 3) []=some (.sl 3 []) from rfl,e3]
def SoftK (q:PN):Prop:=q.kv= .sl 1 (q.x.kids.map intRow)∨(q.kv= .slnil∧q.x.kids=[])
theorem SoftK.kid (s:SoftK q):kid? q.kv=none:=by rcases s with e|⟨e,_⟩<;>rw[e]<;>rfl
theorem SoftK.at_ (s:SoftK q):KidsAt h q.kv q.x.kids:=by
 rcases s with e|⟨e,e2⟩
 ·exact .inr (.inr e)
 ·exact .inl ⟨e,e2⟩
theorem f100184w (w:PA sf h a n m ps A) (lm:Lim A) (hx:A.has x) (hkb:(A.nd x).kids.length≤1000000000):∃q:PN,Ret cx 100025 [.ptr (some (n,nP n x))] h (.agg q.row) h∧q.x=A.nd x∧SoftK q:=by
 obtain⟨K,r1,hK⟩:=f196w (w.kid hx) hkb;have ha:=w.att hx;have r2:=f45v (A.nd x).attrs (lm.at_ x) h;rw[←ha] at r2;refine⟨⟨A.nd x,K,(pN ps x).av,ha⟩,?_,rfl,by rcases hK with e|⟨e,e2⟩;exact .inl e;exact .inr ⟨e,by simpa using e2⟩⟩;have hc:K.cells=[K]:=IsSl.cells hK;have hv:(pN ps x).av.cells=[(pN ps x).av]:=by rw[ha];exact IsSl.cells (avOf_is (l:=(A.nd x).attrs))
 have e0:=w.row hx;have e1:(pN ps x).row=_:=rfl;have ex:=(w.pn hx).2.1;rw[ret_iff,t100025_eq,t100025];rw[PN.row,ex] at e0;simp only[amS,bxS,e0,w.f2 hx,w.f6 hx,r1,W_same_self,r2,hc,hv,PN.row]
theorem f628w (w:MapAt h m f):∃m' t,Ret cx 30 [.map m] h (.map m') (h++t)∧t.length≤1∧MapAt (h++t) m' f∧∀i,m'=some i→i=h.length∧t.length=1:=by
 rcases w with⟨rfl,h0⟩|⟨id,l,rfl,hc,q1,q2⟩
 ·refine⟨none,[],?_,Nat.zero_le _,.inl ⟨rfl,h0⟩,nofun⟩;rw[List.append_nil,ret_iff];show W cx (pMapClone [.map none]) _ h;unfold pMapClone;simp only[amS,meval,gMapClone]
 ·refine⟨some h.length,[.map (l.map λx:Int×Int=>(AVal.int .i64 x.1,AVal.int .i64 x.2))],?_,Nat.le_refl _,.inr ⟨h.length,l,rfl,by simp,q1,q2⟩,λi hi=>⟨by cases hi;rfl,rfl⟩⟩;rw[ret_iff];show W cx (pMapClone [.map (some id)]) _ h;unfold pMapClone;simp only[amS,meval,gMapClone,hc]
structure CI (hA:AHeap) (x:Nat) (m':Option Nat) (A:Ar) (k:Nat) (h1:AHeap):Prop where
 len:x+1≤h1.length
 old:∀i,i<x→h1[i]?=hA[i]?
 at_:∃(qs:List PN) (nv:AVal),qs.map PN.x=A.n.take k∧(∀q∈qs,SoftK q)∧h1[x]?=some (.cells [nv,.map m'])∧((k=0∧nv= .slnil)∨∃n',nv= .msl n' 0 k 13∧x<n'∧h1[n']?=some (.cells (qs.map PN.row).flatten))
theorem nd_getN {A:Ar} {k:Nat} (hk:k<A.n.length):A.has ((k:Int)+1)∧A.nd ((k:Int)+1)=A.n[k]:=by
 have h1:A.has ((k:Int)+1):=by unfold Ar.has;omega
 refine⟨h1,?_⟩;unfold Ar.nd;rw[if_pos h1,List.getD_eq_getElem?_getD,show((k:Int)+1).toNat-1=k by omega,List.getElem?_eq_getElem hk];rfl
theorem f618 (w:PA sf h a n m ps A) (lm:Lim A) (hk:∀y,(A.nd y).kids.length≤1000000000) (hne:0<A.n.length) (hb:A.n.length≤900000000):∃x h' F',Ret cx 11 [.ptr (some (a,0))] h (.ptr (some (x,0))) h'∧PW A.len h' F' x A∧Ext h (λ_=>False) h' F':=by
 have hmx:maxBytes=140737488355328:=rfl;have hpl:A.n.length=ps.length:=w.nlen;have hal:a<h.length:=w.lt a (by simp[ids]);obtain⟨m',t,r1,ht,hm,hm'⟩:=f628w w.mp;have w1:=w.app (t:=t);have e1:hload h none (.ptr (some (a,1)))=some (.map m):=by simp only[hload,w.ha];rfl
 obtain⟨hA,ehA⟩:∃hA,h++t=hA:=⟨_,rfl⟩;have hAl:h.length≤hA.length:=by rw[←ehA];simp
 have hAo:∀i,i<h.length→hA[i]?=h[i]?:=λi hi=>by rw[←ehA,List.getElem?_append_left hi]
 have hmL:∀i,m'=some i→h.length≤i∧i<hA.length:=λi hi=>by obtain⟨q1,q2⟩:=hm' i hi;rw[←ehA,List.length_append];omega
 rw[ehA] at r1 w1 hm;have hev:Ev cx 11 [.ptr (some (a,0))] h λr h'=>r= .ptr (some (hA.length,0))∧CI hA hA.length m' A ps.length h':=by
  unfold Ev;rw[t11_eq,t11];have wN:PA sf (hA++[.cells [.slnil,.map m']]) a n m ps A:=w1.app;have c0:CI hA hA.length m' A 0 (hA++[.cells [.slnil,.map m']]):=⟨by simp,λi hi=>List.getElem?_append_left hi,[],.slnil,by simp,by simp,by simp,.inl ⟨rfl,rfl⟩⟩;simp only[e1,r1,W_same_self,show(AVal.map m').cells=[AVal.map m'] from rfl,List.length_cons,List.length_nil,Nat.zero_add,eq_self,if_true,List.append_nil,List.cons_append,List.nil_append,Option.map_some,show(AVal.agg [.slnil,.map m']).cells=[.slnil,.map m'] from rfl,amS,Nat.reduceLeDiff,↓reduceIte,fillAt,bxS,wN.nodes,show peval (.len false) [.msl n 0 ps.length 13]=some (.int .i64 (ps.length:Int)) from rfl];refine W_loop_st (λk:Nat=>[.int .i64 (k:Int)]) (λk h1=>k≤ps.length∧CI hA hA.length m' A k h1) (λk=>ps.length-k) 0 rfl ⟨Nat.zero_le _,c0⟩ ?_;rintro k h1 ⟨hk1,hl1,ho1,qs,nv,eq,hq,hx1,hn1⟩;have w2:PA sf h1 a n m ps A:=w1.frame λi hi=>ho1 i (w1.lt i hi);rcases Nat.lt_or_ge k ps.length with hlt|hge
  ·obtain⟨hx,ex⟩:=nd_getN (A:=A) (k:=k) (by omega);obtain⟨q,r2,eqx,hqs⟩:=f100184w w2 lm hx (hk _);have ea:peval (.eaddr 13) [.msl n 0 ps.length 13,.int .i64 (k:Int)]=some (.ptr (some (n,nP n ((k:Int)+1)))):=by have:=eaddr_msl (k:= .i64) (id:=n) (z:=13) hlt;rw[this];unfold nP;congr 4
   have eqk:qs.length=k:=by have:=congrArg List.length eq;rw[List.length_map,List.length_take,Nat.min_eq_left (by omega)] at this;exact this
   have lx:hload h1 none (.ptr (some (hA.length,0)))=some nv:=by simp only[hload,hx1];rfl
   have em:peval (.mksl 13) [.agg q.row]=some (.sl 13 [q.row]):=pe_mksl1 (a:= .agg q.row) rfl (by decide);have eg:peval (.mkagg [I 0,I 0,.slnil,I 0,I 0,S [],.slnil,S [],S [],S [],ff,I 0,I 0] [(0,13)]) [.agg q.row]=some (.agg q.row):=rfl;obtain⟨H2,n',g1,hH,hHx,hHn,hn',hHl⟩:∃H2 n',hgrow h1 13 168 nv (.sl 13 [q.row])=some (H2,.msl n' 0 (k+1) 13)∧(∀i,i<hA.length→H2[i]?=h1[i]?)∧H2[hA.length]?=some (.cells [nv,.map m'])∧H2[n']?=some (.cells ((qs++[q]).map PN.row).flatten)∧hA.length<n'∧hA.length+1≤H2.length:=by
    rcases hn1 with⟨rfl,rfl⟩|⟨n0,rfl,hn0,hc0⟩
    ·obtain rfl:qs=[]:=List.eq_nil_of_length_eq_zero eqk;refine⟨h1++[.cells q.row],h1.length,rfl,λi hi=>List.getElem?_append_left (by omega),(List.getElem?_append_left (by omega)).trans hx1,by simp,by omega,by simp;omega⟩
    ·have g:=hgrow_some (h:=h1) (id:=n0) (rows:=qs.map PN.row) (r2:=[q.row]) (v:= .sl 13 [q.row]) (b:=168) (rowP qs) (by decide) hc0 .mk (by simp) (by rw[List.length_map,eqk];simp;omega);rw[List.length_map,eqk] at g;simp only[List.length_singleton] at g;refine⟨_,_,g,λi hi=>?_,?_,?_,by omega,by simp;omega⟩
     ·rw[List.getElem?_append_left (by simp;omega),List.getElem?_set_ne (by omega)]
     ·rw[List.getElem?_append_left (by simp;omega),List.getElem?_set_ne (by omega)];exact hx1
     ·rw[List.getElem?_append_right (by simp)];simp
   have st:hstore H2 1 (.ptr (some (hA.length,0))) (.msl n' 0 (k+1) 13)=some (H2.set hA.length (.cells [.msl n' 0 (k+1) 13,.map m'])):=by simp only[hstore,hHx];rfl
   simp only[amS,Nat.reduceLeDiff,↓reduceIte,bxS,show(k:Int)<(ps.length:Int) by omega,lx,w2.nodes,ea,r2,W_same_self,eg,em,g1,st,pe_incN k];refine LoopPost.next (k+1) rfl ⟨hlt,by simp;omega,λi hi=>?_,qs++[q],.msl n' 0 (k+1) 13,?_,?_,?_,.inr ⟨n',rfl,hn',?_⟩⟩ (by omega)
   ·rw[List.getElem?_set_ne (by omega),hH i hi,ho1 i hi]
   ·rw[List.map_append,eq,List.take_succ_eq_append_getElem (by omega),List.map_singleton,eqx,ex]
   ·intro p hp;rcases List.mem_append.1 hp with hp|hp
    ·exact hq p hp
    ·rw[List.mem_singleton.1 hp];exact hqs
   ·rw[List.getElem?_set_self (by omega)]
   ·rw[List.getElem?_set_ne (by omega)];exact hHn
  ·obtain rfl:k=ps.length:=by omega
   simp only[amS,Nat.reduceLeDiff,↓reduceIte,bxS,show¬(ps.length:Int)<(ps.length:Int) by omega];exact⟨_,rfl,rfl,hl1,ho1,qs,nv,eq,hq,hx1,hn1⟩
 obtain⟨_,h',r2,rfl,hl1,ho1,qs,nv,eq,hq,hx1,hn1⟩:=hev.ret;rw[List.take_of_length_le (by omega)] at eq;have eql:qs.length=ps.length:=by have:=congrArg List.length eq;rw[List.length_map] at this;omega
 rcases hn1 with⟨h0,_⟩|⟨n',rfl,hn',hc'⟩
 ·omega
 have hfm:qs.filterMap (λp=>kid? p.kv)=[]:=List.filterMap_eq_nil_iff.2 λq hm=>(hq q hm).kid;have hids:ids hA.length n' m' qs=hA.length::n'::m'.toList:=by unfold ids;rw[hfm,List.append_nil]
 have wx:PA A.len h' hA.length n' m' qs A:=by
  refine⟨eq.symm,w.il,by rw[eql];exact hx1,hc',λq hm=>(hq q hm).at_,?_,hm.frame λi hi=>ho1 i (hmL i hi).2,λy h1 h2=>?_⟩
  ·rw[hids]
   cases hmm:m' with
   |none=>simp;omega
   |some i=>have:=hmL i hmm;simp;omega
  ·unfold pN;rw[List.getD_eq_getElem?_getD,List.getElem?_eq_none (by unfold Ar.len at h1;omega)];exact .inl rfl
 refine⟨hA.length,h',_,r2,wx.pw_,by omega,λi hi _=>?_,λi hi=> .inr ?_⟩
 ·rw[ho1 i (by omega),hAo i hi]
 ·rw[hids] at hi;simp at hi;rcases hi with rfl|rfl|hi
  ·exact hAl
  ·omega
  ·exact(hmL i hi).1
end
end Go.Am
end
section
namespace Go.Am
open Go
set_option maxRecDepth 100000
def NodesV (h:AHeap) (lo:Nat) (v:AVal) (l:List ANode):Prop:=∃rows:List (List AVal),IsSl 13 rows v∧rows.length=l.length∧∀k (h1:k<rows.length) (h2:k<l.length),NRow h lo l[k] rows[k]
section
variable {h h':AHeap} {a n lo lo':Nat} {m:Option Nat} {ps:List PN} {A:Ar} {x sf:Int} {v v':AVal}
theorem Up.le {N N':Nat} (hu:Up N v) (hl:N'≤N):Up N' v:=λid k e=>Nat.le_trans hl (hu id k e)
theorem NRow.low {x:ANode} {r:List AVal} (hr:NRow h lo x r) (hl:lo'≤lo):NRow h lo' x r:=let⟨K,V,e,h1,h2,h3⟩:=hr;⟨K,V,e,h1,h2,h3.le hl⟩
theorem f91w (w:PA sf h a n m ps A) (lm:Lim A) (hk:∀x,(A.nd x).kids.length≤1000000000) (hb:A.n.length≤900000000):∃v u,Ret cx 16 [.ptr (some (a,0))] h v (h++u)∧NodesV (h++u) h.length v A.n:=by
 have hmx:maxBytes=140737488355328:=rfl;have hpl:A.n.length=ps.length:=by rw[w.e,List.length_map]
 have hev:Ev cx 16 [.ptr (some (a,0))] h λr h'=>∃u,h'=h++u∧NodesV (h++u) h.length r A.n:=by
  unfold Ev;rw[t16_eq,t16];simp only[amS,bxS,w.nodes,show peval (.len false) [.msl n 0 ps.length 13]=some (.int .i64 (ps.length:Int)) from rfl];refine W_loop_st (λz:AVal×Nat=>[z.1,.int .i64 (z.2:Int)]) (λz h1=>z.2≤ps.length∧∃u,h1=h++u∧NodesV (h++u) h.length z.1 (A.n.take z.2)) (λz=>ps.length-z.2) (.slnil,0) rfl ⟨Nat.zero_le _,[],by simp,[],.nil,by simp,λk h1 h2=>by simp at h1⟩ ?_;rintro⟨V,k⟩ h1 ⟨hk1,u,rfl,hV⟩;simp only at hk1 hV;have w1:PA sf (h++u) a n m ps A:=w.frame λi hi=>List.getElem?_append_left (w.lt i hi);rcases Nat.lt_or_ge k ps.length with hlt|hge
  ·obtain⟨hx,ex⟩:=nd_getN (A:=A) (k:=k) (by omega);obtain⟨r,t,r1,hr⟩:=f184w w1 lm hx (hk _);have ea:peval (.eaddr 13) [.msl n 0 ps.length 13,.int .i64 (k:Int)]=some (.ptr (some (n,nP n ((k:Int)+1)))):=by have:=eaddr_msl (k:= .i64) (id:=n) (z:=13) hlt;rw[this];unfold nP;congr 4
   obtain⟨rows,s1,e1,n1⟩:=hV;rw[List.length_take,Nat.min_eq_left (by omega)] at e1;obtain⟨K,W,er,hr2⟩:=hr;have em:peval (.mksl 13) [.agg r]=some (.sl 13 [r]):=pe_mksl1 (a:= .agg r) (by rw[er];rfl) (by decide);have ap:=IsSl.app1 (b:=168) (row:=r) s1 (by omega);simp only[amS,bxS,show(k:Int)<(ps.length:Int) by omega,w1.nodes,ea,r1,em,ap,pe_incN k];refine LoopPost.next (_,k+1) rfl ⟨hlt,u++t,by rw[List.append_assoc],rows++[r],.mk,by rw[List.length_append,List.length_take,e1];simp;omega,λj h1 h2=>?_⟩ (by simp only;omega);rw[←List.append_assoc];rw[List.getElem_take];by_cases hj:j<rows.length
   ·rw[List.getElem_append_left hj];have:=n1 j hj (by rw[List.length_take];omega);rw[List.getElem_take] at this;exact this.app
   ·have ej:j=k:=by simp at h1;omega
    subst ej;rw[List.getElem_append_right (by omega)];simp only[e1,Nat.sub_self,List.getElem_cons_zero];rw[←ex];exact NRow.low (lo:=(h++u).length) ⟨K,W,er,hr2⟩ (by simp)
  ·rw[List.take_of_length_le (by omega)] at hV;simp only[amS,bxS,show¬(k:Int)<(ps.length:Int) by omega];exact⟨_,rfl,u,rfl,hV⟩
 obtain⟨r,h',hr,u,rfl,hV⟩:=hev.ret;exact⟨r,u,hr,hV⟩
end
end Go.Am
end
section
namespace Go.Am
open Go
set_option maxRecDepth 100000
def esc (b:UInt8):Bytes:=if b=34 then[92,34] else if b=92 then[92,92] else if b=10 then[92,110] else[b]
def quo (s:Bytes):Bytes:=[34]++s.flatMap esc++[34]
def dig (k:Int):Bytes:=[UInt8.ofNat (48+k.toNat)]
def atL (y:Attr):Bytes:=[32]++dig y.space++[58]++quo y.name++[61]++quo y.value
def atsL (s:Bytes):List Attr→Bytes
 |[]=>s
 |y::l=>atsL (s++atL y) l
def lineOf (x:ANode):Bytes:=
 if x.kind=1 then(if x.quirks then[100,111,99,117,109,101,110,116,32,113,117,105,114,107,115] else[100,111,99,117,109,101,110,116])
 else if x.kind=2 then(if x.host≠0 then[99,111,110,116,101,110,116,115] else[102,114,97,103,109,101,110,116])
 else if x.kind=3 then[100,111,99,116,121,112,101,32]++quo x.name++[32]++quo x.pub++[32]++quo x.sys
 else if x.kind=5 then[116,101,120,116,32]++quo x.data
 else if x.kind=6 then[99,111,109,109,101,110,116,32]++quo x.data
 else atsL ([101,108,101,109,101,110,116,32]++dig x.space++[32]++quo x.name) x.attrs
def dmp (A:Ar):Nat→Int→Nat→Bytes
 |0,_,_=>[]
 |f+1,x,d=>List.replicate (2*d) 32++lineOf (A.nd x)++[10]++(if(A.nd x).cont=0 then[] else dmp A f (A.nd x).cont (d+1))++(A.nd x).kids.flatMap λy=>dmp A f y (d+1)
section
variable {A B:Ar} {x y:Int} {P:Int→Prop} {f d k:Nat} {e:Int}
theorem line_core {x y:ANode} (co:x.core=y.core) (hh:x.kind=2→(x.host=0↔y.host=0)):lineOf x=lineOf y:=by
 have e1:x.kind=y.kind:=by have:=congrArg ANode.kind co;exact this
 have e2:x.space=y.space:=by have:=congrArg ANode.space co;exact this
 have e3:x.name=y.name:=by have:=congrArg ANode.name co;exact this
 have e4:x.attrs=y.attrs:=by have:=congrArg ANode.attrs co;exact this
 have e5:x.data=y.data:=by have:=congrArg ANode.data co;exact this
 have e6:x.pub=y.pub:=by have:=congrArg ANode.pub co;exact this
 have e7:x.sys=y.sys:=by have:=congrArg ANode.sys co;exact this
 have e8:x.quirks=y.quirks:=by have:=congrArg ANode.quirks co;exact this
 unfold lineOf;rw[e2,e3,e4,e5,e6,e7,e8,←e1];by_cases h2:x.kind=2
 ·have:=hh h2;by_cases h0:x.host=0
  ·simp[h2,h0,this.1 h0]
  ·have h1:¬y.host=0:=λe=>h0 (this.2 e);simp[h2,h0,h1]
 ·simp[h2]
theorem dmp_sim (okA:ArOk A 0) (okB:ArOk B 0) (s:Smt A B P x y):∀f d,((A.nd x).kind=2→((A.nd x).host=0↔(B.nd y).host=0))→dmp A f x d=dmp B f y d:=by
 induction s with
 |@mk x y p hx hy co hl hc sc sk i1 i2=>
  intro f d hh
  cases f with
  |zero=>rfl
  |succ f=>
   have e1:=line_core co hh;have ek:(A.nd x).kids.flatMap (λz=>dmp A f z (d+1))=(B.nd y).kids.flatMap λz=>dmp B f z (d+1):=by
    have em:(A.nd x).kids.map (λz=>dmp A f z (d+1))=(B.nd y).kids.map λz=>dmp B f z (d+1):=by
     apply List.ext_getElem
     ·simp[hl]
     ·intro i h1 h2;have hi:i<(A.nd x).kids.length:=by simpa using h1
      have hj:i<(B.nd y).kids.length:=by simpa using h2
      have g1:(A.nd x).kids.getD i 0=(A.nd x).kids[i]:=by simp[List.getD_eq_getElem?_getD,hi]
      have g2:(B.nd y).kids.getD i 0=(B.nd y).kids[i]:=by simp[List.getD_eq_getElem?_getD,hj]
      have:=i2 i hi f (d+1) λhk=>by rw[g1] at hk;obtain⟨k1,k2⟩:=okA.kid x hx _ (List.getElem_mem hi);exact absurd hk ((okA.nok _ k1).root (by rw[k2];have:=hx.1;omega)).2
      rw[g1,g2] at this;simp only[List.getElem_map];exact this
    rw[List.flatMap_def,List.flatMap_def,em]
   have ec:(if(A.nd x).cont=0 then[] else dmp A f (A.nd x).cont (d+1))=if(B.nd y).cont=0 then[] else dmp B f (B.nd y).cont (d+1):=by
    by_cases h0:(A.nd x).cont=0
    ·rw[if_pos h0,if_pos (hc.1 h0)]
    ·have h1:¬(B.nd y).cont=0:=λe=>h0 (hc.2 e);rw[if_neg h0,if_neg h1];refine i1 h0 f (d+1) λ_=>?_;have a1:=(okA.cont x hx h0).2.2;have b1:=(okB.cont y hy h1).2.2;have:=hx.1;have:=hy.1;rw[a1,b1];constructor<;>intro h2<;>omega
   simp only[dmp];rw[e1,ec,ek]
theorem esc_len (b:UInt8):(esc b).length≤2∧1≤(esc b).length:=by
 unfold esc;split
 ·decide
 split
 ·decide
 split
 ·decide
 ·simp
theorem flat_le (s:Bytes):(s.flatMap esc).length≤2*s.length:=by
 induction s with
 |nil=>simp
 |cons b s ih=>have:=(esc_len b).1;simp only[List.flatMap_cons,List.length_append,List.length_cons];omega
theorem quo_le (s:Bytes):(quo s).length≤2*s.length+2:=by have:=flat_le s;simp only[quo,List.length_append,List.length_cons,List.length_nil];omega
theorem atL_le {y:Attr} (h1:y.name.length≤400) (h2:y.value.length≤400):(atL y).length≤2000:=by have:=quo_le y.name;have:=quo_le y.value;simp only[atL,dig,List.length_append,List.length_cons,List.length_nil];omega
theorem atsL_le:∀{l:List Attr} {s:Bytes},(∀y∈l,y.name.length≤400∧y.value.length≤400)→(atsL s l).length≤s.length+2000*l.length
 |[],s,_=>by simp[atsL]
 |y::l,s,h=>by have h1:=h y (by simp);have h2:=atL_le h1.1 h1.2;have h3:=atsL_le (l:=l) (s:=s++atL y) λz hz=>h z (List.mem_cons_of_mem _ hz);simp only[atsL,List.length_append,List.length_cons] at h3⊢;omega
theorem line_le {x:ANode} (o:okN k x):(lineOf x).length≤2*x.data.length+2000*k+3000:=by
 obtain⟨o1,o2,o3,o4,o5⟩:=o;have q1:=quo_le x.name;have q2:=quo_le x.pub;have q3:=quo_le x.sys;have q4:=quo_le x.data;have q5:=atsL_le (s:=[101,108,101,109,101,110,116,32]++dig x.space++[32]++quo x.name) o2;have q6:2000*x.attrs.length≤2000*k:=Nat.mul_le_mul_left _ o1;unfold lineOf;split
 ·split<;>simp
 split
 ·split<;>simp
 split
 ·simp only[List.length_append,List.length_cons,List.length_nil];omega
 split
 ·simp only[List.length_append,List.length_cons,List.length_nil];omega
 split
 ·simp only[List.length_append,List.length_cons,List.length_nil];omega
 ·simp only[dig,List.length_append,List.length_cons,List.length_nil] at q5⊢;omega
def gL (A:Ar) (x:Int):Nat:=(lineOf (A.nd x)).length+1
def one' (_:Int):Nat:=1
theorem flatMap_len {α:Type} (l:List α) (g:α→Bytes):(l.flatMap g).length=(l.map λa=>(g a).length).sum:=by
 induction l with
 |nil=>rfl
 |cons a l ih=>simp[List.flatMap_cons,ih]
theorem sum_two (l:List Int) (f u v:Int→Nat) (c:Nat) (h:∀a∈l,f a≤u a+c*v a+v a*v a):(l.map f).sum≤(l.map u).sum+c*(l.map v).sum+(l.map v).sum*(l.map v).sum:=by
 induction l with
 |nil=>simp
 |cons a l ih=>
  have h1:=h a (by simp);have h2:=ih λb hb=>h b (List.mem_cons_of_mem _ hb);simp only[List.map_cons,List.sum_cons];have e1:c*(v a+(l.map v).sum)=c*v a+c*(l.map v).sum:=Nat.mul_add _ _ _;have e2:(v a+(l.map v).sum)*(v a+(l.map v).sum)=v a*v a+v a*(l.map v).sum+((l.map v).sum*v a+(l.map v).sum*(l.map v).sum):=by rw[Nat.add_mul,Nat.mul_add,Nat.mul_add]
  omega
theorem dmp_le (ok:ArOk A e):∀(f:Nat) (x:Int) (d:Nat),A.has x→(dmp A f x d).length≤Below' A (gL A) x+2*d*Below' A one' x+Below' A one' x*Below' A one' x
 |0,x,d,hx=>by simp[dmp]
 |f+1,x,d,hx=>by
  have ih:∀y,A.has y→(dmp A f y (d+1)).length≤Below' A (gL A) y+2*(d+1)*Below' A one' y+Below' A one' y*Below' A one' y:=λy hy=>dmp_le ok f y (d+1) hy;obtain⟨ks,hK,ek⟩:∃ks:List Int,Kin A x ks∧((if(A.nd x).cont=0 then([]:Bytes) else dmp A f (A.nd x).cont (d+1))++(A.nd x).kids.flatMap λy=>dmp A f y (d+1))=ks.flatMap λy=>dmp A f y (d+1):=by
   by_cases h0:(A.nd x).cont=0
   ·exact⟨_,kin_kids ok hx,by rw[if_pos h0];rfl⟩
   ·exact⟨_,kin_all ok hx h0,by rw[if_neg h0,List.flatMap_cons]⟩
  have b1:=below_sum ok (gL A) hx hK;have b2:=below_sum ok one' hx hK;have s1:=sum_two ks (λy=>(dmp A f y (d+1)).length) (Below' A (gL A)) (Below' A one') (2*(d+1)) λy hy=>ih y (hK.2 y hy).1;simp only[dmp];rw[List.append_assoc,ek];simp only[List.length_append,List.length_replicate,List.length_cons,List.length_nil,flatMap_len];generalize(ks.map λy=>(dmp A f y (d+1)).length).sum=S at*;generalize(ks.map (Below' A (gL A))).sum=G at*;generalize(ks.map (Below' A one')).sum=V at*;generalize hb:Below' A one' x=N at*;have hg:gL A x=(lineOf (A.nd x)).length+1:=rfl;have ho:one' x=1:=rfl;have n1:2*(d+1)*V+2*d≤2*d*N+2*V:=by
   have:2*d*(V+1)≤2*d*N:=Nat.mul_le_mul_left _ (by omega);have e1:2*(d+1)*V=2*d*V+2*V:=by rw[Nat.mul_add,Nat.add_mul]
   have e2:2*d*(V+1)=2*d*V+2*d:=by rw[Nat.mul_add,Nat.mul_one]
   omega
  have n2:2*V+V*V+1≤N*N:=by
   have:(V+1)*(V+1)≤N*N:=Nat.mul_le_mul (by omega) (by omega);have e3:(V+1)*(V+1)=V*V+V+(V+1):=by rw[Nat.add_mul,Nat.mul_add];omega
   omega
  omega
theorem sum_gL (n:Nat) (k:Nat) (hb:Bnd A k):((List.range n).map λi:Nat=>gL A ((i:Int)+1)).sum≤2*((List.range n).map λi:Nat=>(A.nd ((i:Int)+1)).data.length).sum+(2000*k+3001)*n:=by
 have:∀L:List Nat,(L.map λi:Nat=>gL A ((i:Int)+1)).sum≤2*(L.map λi:Nat=>(A.nd ((i:Int)+1)).data.length).sum+(2000*k+3001)*L.length:=λL=>by
  induction L with
  |nil=>simp
  |cons a L ih=>have h1:=line_le (hb ((a:Int)+1));simp only[List.map_cons,List.sum_cons,List.length_cons];have e1:(2000*k+3001)*(L.length+1)=(2000*k+3001)*L.length+(2000*k+3001):=Nat.mul_succ _ _;unfold gL at ih⊢;omega
 have h2:=this (List.range n)
 rwa [List.length_range] at h2
theorem below_gL (hb:Bnd A k):Below' A (gL A) x≤2*Wt A gS+(2000*k+3001)*A.n.length:=by
 refine Nat.le_trans below_all (Nat.le_trans (sum_gL A.n.length k hb) ?_);have:((List.range A.n.length).map λi:Nat=>(A.nd ((i:Int)+1)).data.length)=A.n.map gS:=by
  apply List.ext_getElem
  ·simp
  ·intro i h1 h2;have hl:i<A.n.length:=by simpa using h1
   have hh:A.has ((i:Int)+1):=by unfold Ar.has;omega
   have e:=(nd_get hh).2 (by have:=(nd_get hh).1;exact this);simp only[List.getElem_map,List.getElem_range,e,gS]
   congr 2
 rw[this];exact Nat.le_refl _
theorem dmp_fits (ok:ArOk A 0) (hx:A.has x) (hn:A.n.length≤8650751) (hS:Wt A gS≤12000000000000) (hb:Bnd A 100) (f:Nat):(dmp A f x 0).length≤140737488355328:=by have h1:=dmp_le ok f x 0 hx;have h2:=below_gL (x:=x) hb;have h3:Below' A one' x≤A.n.length:=below_one;have h4:Below' A one' x*Below' A one' x≤8650751*8650751:=Nat.mul_le_mul (by omega) (by omega);have h5:(2000*100+3001)*A.n.length≤(2000*100+3001)*8650751:=Nat.mul_le_mul_left _ hn;omega
end
end Go.Am
end
section
namespace Go.Am
open Go
set_option maxRecDepth 100000
theorem Ret_of_tab {f:FuncId} {args:List AVal} {h h':AHeap} {r:AVal} (n:Nat) (e:IT.run tab n (tab f args) h=some (.ret,[r],h')):Ret cx f args h r h':=by rw[tab_eq] at e;exact ret_iff.2 ⟨n,_,_,_,e,rfl,rfl,rfl⟩
def repV (b:Nat):AVal:=if b=34 then .sl 1 [[.int .u8 92],[.int .u8 34]] else if b=92 then .sl 1 [[.int .u8 92],[.int .u8 92]] else if b=10 then .sl 1 [[.int .u8 92],[.int .u8 110]] else .slnil
def olds:AVal:= .sl 1 [[S [34]],[S [92,34]],[S [92]],[S [92,92]],[S [10]],[S [92,110]]]
def HQ0:AHeap:=[.cells [.int .u32 0,.int .i32 0,.int .u32 0,.nilIface,olds]]
def HQ1:AHeap:=[.cells [.int .u32 0,.int .i32 1,.int .u32 0,.nilIface,olds]]
def repT:List AVal:=(List.range 256).map repV++[.msl 1 0 3 1]
def HQ2:AHeap:=[.cells [.int .u32 0,.int .i32 1,.int .u32 0,.iface 222 (.ptr (some (2,0))),.slnil],.cells [S [10],S [92],S [34]],.cells repT]
def HQ3:AHeap:=[.cells [.int .u32 1,.int .i32 0,.int .u32 0,.iface 222 (.ptr (some (2,0))),.slnil],.cells [S [10],S [92],S [34]],.cells repT]
theorem rq1:Ret cx 145 [olds] [] (.ptr (some (0,0))) HQ0:=Ret_of_tab 60 (by kernel_rfl)
theorem rq2:Ret cx 160 [.ptr (some (0,0))] HQ1 (.tuple []) HQ2:=Ret_of_tab 200 (by kernel_rfl)
structure QH (H:AHeap):Prop where
 c1:H[1]?=some (.cells [S [10],S [92],S [34]])
 c2:H[2]?=some (.cells repT)
theorem qh3:QH HQ3:=⟨rfl,rfl⟩
theorem QH.app {H t:AHeap} (q:QH H):QH (H++t):=⟨(List.getElem?_append_left (List.getElem?_eq_some_iff.1 q.c1).1).trans q.c1,(List.getElem?_append_left (List.getElem?_eq_some_iff.1 q.c2).1).trans q.c2⟩
section
variable {H h:AHeap} {s:Bytes} {b k:Nat}
theorem QH.ld (q:QH H) (hb:b<256):hload H none (.ptr (some (2,b)))=some (repV b):=by simp only[hload,q.c2,partOf_none,repT];rw[List.getElem?_append_left (by simpa using hb),List.getElem?_map,List.getElem?_range hb];rfl
theorem QH.ln (q:QH H):hload H none (.ptr (some (2,256)))=some (.msl 1 0 3 1):=by simp only[hload,q.c2,partOf_none,repT];rw[List.getElem?_append_right (by simp)];simp
theorem aaB (c:UInt8):peval (.aaddr 256 1) [.ptr (some (2,0)),.int .u8 (c.toNat:Int)]=some (.ptr (some (2,c.toNat))):=by have h1:c.toNat<256:=c.toNat_lt;show((idxOf (c.toNat:Int) 256).bind λi=>offOf (.ptr (some (2,0))) (i*1))=_;unfold idxOf;rw[if_pos ⟨by omega,by omega⟩];simp[offOf]
def isE (b:UInt8):Bool:=b==34||b==92||b==10
theorem rep_isE (c:UInt8):if isE c then repV c.toNat= .sl 1 ((esc c).map λx=>[.int .u8 (x.toNat:Int)])∧(esc c).length=2 else repV c.toNat= .slnil∧esc c=[c]:=by
 have key:∀n:Fin 256,(if isE (UInt8.ofNat n.val) then(n.val=34∨n.val=92∨n.val=10) else¬(n.val=34∨n.val=92∨n.val=10)):=by decide+kernel
 have h1:c.toNat<256:=c.toNat_lt;have k:=key ⟨c.toNat,h1⟩;simp only[UInt8.ofNat_toNat] at k;have of:∀m:Nat,m<256→c.toNat=m→c=UInt8.ofNat m:=λm hm e=>by rw[←e,UInt8.ofNat_toNat]
 by_cases hc:isE c
 ·rw[if_pos hc] at k;rw[if_pos hc];rcases k with k|k|k
  ·rw[of 34 (by decide) k];exact⟨rfl,rfl⟩
  ·rw[of 92 (by decide) k];exact⟨rfl,rfl⟩
  ·rw[of 10 (by decide) k];exact⟨rfl,rfl⟩
 ·rw[if_neg hc] at k;rw[if_neg hc];have n1:c≠34:=λe=>k (.inl (by rw[e];rfl));have n2:c≠92:=λe=>k (.inr (.inl (by rw[e];rfl)));have n3:c≠10:=λe=>k (.inr (.inr (by rw[e];rfl)));unfold repV esc;rw[if_neg (λe=>k (.inl e)),if_neg (λe=>k (.inr (.inl e))),if_neg (λe=>k (.inr (.inr e))),if_neg n1,if_neg n2,if_neg n3];exact⟨rfl,rfl⟩
def ce (s:Bytes):Nat:=s.countP isE
theorem ce_counts (s:Bytes):s.count 10+s.count 92+s.count 34=ce s:=by
 unfold ce
 induction s with
 |nil=>rfl
 |cons c s ih=>
  rw[List.count_cons,List.count_cons,List.count_cons,List.countP_cons];by_cases h1:c=34
  ·subst h1;simp[isE];omega
  by_cases h2:c=92
  ·subst h2;simp[isE];omega
  by_cases h3:c=10
  ·subst h3;simp[isE];omega
  ·simp[isE,h1,h2,h3];omega
theorem len_esc (s:Bytes):(s.flatMap esc).length=s.length+ce s:=by
 unfold ce
 induction s with
 |nil=>rfl
 |cons c s ih=>
  have hr:=rep_isE c;rw[List.flatMap_cons,List.length_append,ih,List.countP_cons,List.length_cons];by_cases hc:isE c
  ·rw[if_pos hc] at hr;rw[if_pos hc,hr.2];omega
  ·rw[if_neg hc] at hr;rw[if_neg hc,hr.2];simp;omega
theorem esc_none (s:Bytes) (h:ce s=0):s.flatMap esc=s:=by
 unfold ce at h
 induction s with
 |nil=>rfl
 |cons c s ih=>
  have hr:=rep_isE c;rw[List.countP_cons] at h;by_cases hc:isE c
  ·rw[if_pos hc] at h;omega
  ·rw[if_neg hc] at h hr;rw[List.flatMap_cons,hr.2,ih (by omega)];rfl
theorem ce_take {i:Nat} (hi:i<s.length):ce (s.take (i+1))=ce (s.take i)+if isE s[i] then 1 else 0:=by unfold ce;rw[List.take_succ_eq_append_getElem hi,List.countP_append];simp[List.countP_cons]
theorem esc_take {i:Nat} (hi:i<s.length):(s.take (i+1)).flatMap esc=(s.take i).flatMap esc++esc s[i]:=by rw[List.take_succ_eq_append_getElem hi,List.flatMap_append];simp
theorem f376 (s:Bytes) (c:UInt8):PRet cx 240 [.str s,.str [c]] (.int .i64 (s.count c)):=by show W cx (pCount [.str s,.str [c]]) _ _;unfold pCount;simp only[amS];exact⟨_,rfl,rfl⟩
theorem pe_mul1 (n:Nat) (hn:n<9223372036854775808):peval (.int .mul) [.int .i64 (n:Int),I 1]=some (.int .i64 (n:Int)):=by show some (AVal.int .i64 (IntKind.i64.wrap ((n:Int)*1)))=_;rw[Int.mul_one,wrap_i64 (by omega) (by omega)]
theorem pe_addN (n m:Nat) (hn:n+m<9223372036854775808):peval (.int .add) [.int .i64 (n:Int),.int .i64 (m:Int)]=some (.int .i64 ((n+m:Nat):Int)):=by rw[pe_add,show(n:Int)+(m:Int)=((n+m:Nat):Int) by omega,wrap_i64 (by omega) (by omega)]
def cs3 (s:Bytes):Nat→Nat
 |0=>0
 |1=>s.count 10
 |2=>s.count 10+s.count 92
 |_=>s.count 10+s.count 92+s.count 34
abbrev u8s (s:Bytes):List AVal:=s.map λx=>AVal.int .u8 (x.toNat:Int)
def tl374 (p q n:AVal):IT:=
 .make 1 1 [(.int .u8 0)] n n λv31=>
 .loop 24 [(I 0),(I 0)] (λc32=>
 .op (.len true) [q] λv33=>
 .op (.int .lss) [(g c32 1),v33] λv34=>
 .cnd v34 (
 .op .sidx [q,(g c32 1)] λv35=>
 .fa p 0 λv36 v37=>
 .op (.aaddr 256 1) [v37,v35] λv38=>
 .load none v38 λv39=>
 .op (.nileq true .sl) [v39,.slnil] λv40=>
 .cnd v40 (
 .op (.slc 1 false true false) [v31,(g c32 0)] λv41=>
 .fa p 0 λv42 v43=>
 .op (.aaddr 256 1) [v43,v35] λv44=>
 .load none v44 λv45=>
 .mem (.copy 1) [v41,v45] λv46=>
 .op (.int .add) [(g c32 0),v46] λv47=>
 .op (.int .add) [(g c32 1),(I 1)] λv48=>
 .ret .normal [v47,v48]) (
 .op (.eaddr 1) [v31,(g c32 0)] λv49=>
 .store 1 v49 v35 (
 .op (.int .add) [(g c32 0),(I 1)] λv50=>
 .op (.int .add) [(g c32 1),(I 1)] λv51=>
 .ret .normal [v50,v51]))) (
 .ret (.exit 4) [(g c32 0),(g c32 1)])) (
 lx 4 (λc52=>
 .frz v31 λv53=>
 .op .b2s [v53] λv54=>
 .ret .ret [v54]) λc52=>
 .ret .ret [(S [])])
theorem u8s_app (a b:Bytes):u8s (a++b)=u8s a++u8s b:=List.map_append
theorem rowsOf_flat:∀s:Bytes,(rowsOf s).flatten=u8s s
 |[]=>rfl
 |c::s=>by have:=rowsOf_flat s;simp only[rowsOf,List.map_cons,List.flatten_cons] at this⊢;rw[this];rfl
theorem u8s_len (s:Bytes):(u8s s).length=s.length:=List.length_map ..
theorem tl_w (q:QH H) (hs:s.length≤50000000000000) {N:Nat} (hN:N=(s.flatMap esc).length) {Q:Post} (hQ:Q .ret [.str (s.flatMap esc)] (H++[.dead])):W cx (tl374 (.ptr (some (2,0))) (.str s) (.int .i64 (N:Int))) Q H:=by
 have hmx:maxBytes=140737488355328:=rfl;have hN2:N≤2*s.length:=by rw[hN];exact flat_le s
 have hm:hmake H 1 1 [.int .u8 0] (.int .i64 (N:Int)) (.int .i64 (N:Int))=some (H++[.cells (List.replicate N (.int .u8 0))],.msl H.length 0 N 1):=by
  have e1:(List.replicate N [AVal.int .u8 0]).flatten=List.replicate N (.int .u8 0):=by
   clear hN hN2
   induction N with
   |zero=>rfl
   |succ n ih=>simp[List.replicate_succ,ih]
  simp only[hmake];rw[if_pos ⟨by omega,by omega,by simp;omega,rfl⟩];simp only[Int.toNat_natCast,e1]
 unfold tl374;refine W_make hm ?_;refine W_loop_st (λi:Nat=>[.int .i64 (((s.take i).flatMap esc).length:Int),.int .i64 (i:Int)]) (λi h1=>i≤s.length∧h1=H++[.cells (u8s ((s.take i).flatMap esc)++List.replicate (N-((s.take i).flatMap esc).length) (.int .u8 0))]) (λi=>s.length-i) 0 rfl ⟨Nat.zero_le _,by simp⟩ ?_;rintro i h1 ⟨hi,rfl⟩;have qa:QH (H++[.cells (u8s ((s.take i).flatMap esc)++List.replicate (N-((s.take i).flatMap esc).length) (.int .u8 0))]):=q.app;rcases Nat.lt_or_ge i s.length with hlt|hge
 ·have c1:=s[i].toNat_lt;have hr:=rep_isE s[i];have ld:=qa.ld c1;have et:=esc_take hlt;have hfit:((s.take (i+1)).flatMap esc).length≤N:=by rw[hN,len_esc,len_esc,List.length_take];have:ce (s.take (i+1))≤ce s:=(List.take_sublist (i+1) s).countP_le;omega
  have hadd:((s.take (i+1)).flatMap esc).length=((s.take i).flatMap esc).length+(esc s[i]).length:=by rw[et,List.length_append]
  obtain⟨P,eP⟩:∃P,(s.take i).flatMap esc=P:=⟨_,rfl⟩;rw[eP] at hadd et ld qa⊢;have eH:∀o:AObj,(H++[o])[H.length]?=some o:=λo=>by simp
  have es:peval .sidx [.str s,.int .i64 (i:Int)]=some (.int .u8 (s[i].toNat:Int)):=by rw[pe_sidx,if_pos (by omega)];simp[hlt]
  by_cases hE:isE s[i]
  ·rw[if_pos hE] at hr;obtain⟨hr1,hr2⟩:=hr;rw[hr1] at ld;have hj:P.length+2≤N:=by omega
   have e1:peval (.slc 1 false true false) [.msl H.length 0 N 1,.int .i64 (P.length:Int)]=some (.msl H.length P.length (N-P.length) 1):=by rw[msl_lo (by omega),if_pos (by omega)]
   have e2:meval (.copy 1) (H++[.cells (u8s P++List.replicate (N-P.length) (.int .u8 0))]) [.msl H.length P.length (N-P.length) 1,.sl 1 ((esc s[i]).map λx=>[.int .u8 (x.toNat:Int)])]=some (H++[.cells (u8s (P++esc s[i])++List.replicate (N-(P++esc s[i]).length) (.int .u8 0))],I 2):=by
    have ef:((esc s[i]).map λx=>[AVal.int .u8 (x.toNat:Int)]).flatten=u8s (esc s[i]):=by
     generalize esc s[i]=l
     induction l with
     |nil=>rfl
     |cons a l ih=>simp[u8s] at ih⊢;exact ih
    simp only[meval,hcopy,rowsAt,if_true,eH,List.length_map,hr2];rw[if_pos ⟨trivial,by omega,by simp[u8s_len]<;>omega⟩,ef]
    congr 2
    rw[List.set_append_right _ _ (Nat.le_refl _),Nat.sub_self];simp only[List.set_cons_zero]
    congr 2
    rw[List.take_left' (u8s_len P),List.drop_append,u8s_len,List.drop_eq_nil_of_le (by rw[u8s_len];omega),List.nil_append,List.drop_replicate,u8s_app,List.length_append,hr2];rw[show N-P.length-(P.length+2*1 -P.length)=N-(P.length+2) by omega]
   simp only[amS,Nat.reduceLeDiff,↓reduceIte,bxS,show(i:Int)<(s.length:Int) by omega,es,aaB,ld,show∀rows,peval (.nileq true .sl) [.sl 1 rows,.slnil]=some (.bool true) from λ_=>rfl,e1,e2,show peval (.int .add) [.int .i64 (P.length:Int),I 2]=some (.int .i64 ((P.length+2:Nat):Int)) from pe_addN P.length 2 (by omega),pe_incN i];exact LoopPost.next (i+1) (by rw[et,List.length_append,hr2]) ⟨hlt,by rw[et]⟩ (by omega)
  ·rw[if_neg hE] at hr;obtain⟨hr1,hr2⟩:=hr;rw[hr1] at ld;rw[hr2] at et hadd;simp only[List.length_cons,List.length_nil] at hadd;have e1:peval (.eaddr 1) [.msl H.length 0 N 1,.int .i64 (P.length:Int)]=some (.ptr (some (H.length,P.length))):=by
    have:=eaddr_msl (id:=H.length) (z:=1) (n:=N) (k:= .i64) (i:=P.length) (by omega)
    rwa [Nat.mul_one] at this
   have e2:hstore (H++[.cells (u8s P++List.replicate (N-P.length) (.int .u8 0))]) 1 (.ptr (some (H.length,P.length))) (.int .u8 (s[i].toNat:Int))=some (H++[.cells (u8s (P++[s[i]])++List.replicate (N-(P++[s[i]]).length) (.int .u8 0))]):=by
    simp only[hstore,eH];rw[if_pos ⟨rfl,by simp[u8s_len]<;>omega⟩]
    congr 1
    rw[List.set_append_right _ _ (Nat.le_refl _),Nat.sub_self];simp only[List.set_cons_zero]
    congr 2
    rw[List.take_left' (u8s_len P),List.drop_append,u8s_len,List.drop_eq_nil_of_le (by rw[u8s_len];omega),List.nil_append,List.drop_replicate,u8s_app,List.length_append];simp only[AVal.cells,List.map_cons,List.map_nil,List.length_cons,List.length_nil];rw[show N-P.length-(P.length+1 -P.length)=N-(P.length+(0+1)) by omega]
   simp only[amS,Nat.reduceLeDiff,↓reduceIte,bxS,show(i:Int)<(s.length:Int) by omega,es,aaB,ld,show peval (.nileq true .sl) [.slnil,.slnil]=some (.bool false) from rfl,e1,e2,pe_incN P.length,pe_incN i];exact LoopPost.next (i+1) (by rw[et,List.length_append];rfl) ⟨hlt,by rw[et]⟩ (by omega)
 ·rw[List.take_of_length_le hge];have f1:=hfrz_rows (h:=H++[.cells (u8s (s.flatMap esc))]) (id:=H.length) (z:=1) (rows:=rowsOf (s.flatMap esc)) (by intro q hq;obtain⟨y,_,rfl⟩:=List.mem_map.1 hq;rfl) (by rw[rowsOf_flat];simp);have hrl:(rowsOf (s.flatMap esc)).length=N:=by rw[rowsOf,List.length_map,hN]
  rw[hrl] at f1;have e0:N-(s.flatMap esc).length=0:=by omega
  rw[e0,List.replicate_zero,List.append_nil];have eS:(H++[AObj.cells (u8s (s.flatMap esc))]).set H.length .dead=H++[.dead]:=by rw[List.set_append_right _ _ (Nat.le_refl _),Nat.sub_self];rfl
  rw[eS] at f1;have eb:peval .b2s [.sl 1 (rowsOf (s.flatMap esc))]=some (.str (s.flatMap esc)):=IsSl.b2s .mk;simp only[amS,Nat.reduceLeDiff,↓reduceIte,bxS,show¬(i:Int)<(s.length:Int) by omega,f1,eb];exact hQ
theorem f374 (q:QH H) (hs:s.length≤50000000000000):∃t,Ret cx 238 [.ptr (some (2,0)),.str s] H (.str (s.flatMap esc)) (H++t):=by
 have hev:Ev cx 238 [.ptr (some (2,0)),.str s] H λr h'=>r= .str (s.flatMap esc)∧∃t,h'=H++t:=by
  have cl:ce s≤s.length:=List.countP_le_length;have hce:=ce_counts s;have hN:=len_esc s;have lnT:peval (.len false) [.msl 1 0 3 1]=some (I 3):=rfl;have tail:∀{Q:Post},¬ce s=0→Q .ret [.str (s.flatMap esc)] (H++[.dead])→W cx (tl374 (.ptr (some (2,0))) (.str s) (.int .i64 ((s.length+ce s:Nat):Int))) Q H:=λh0 hQ=>tl_w q hs hN.symm hQ;unfold Ev;rw[t238_eq,t238];have m8:peval (.int .mul) [I 3,I 8]=some (I 24):=rfl;by_cases h24:(24:Int)≤(s.length:Int)
  ·simp only[amS,Nat.reduceLeDiff,↓reduceIte,bxS,q.ln,lnT,m8,h24];refine W_loop_st (λj:Nat=>[.int .i64 ((s.length+cs3 s j:Nat):Int),.bool (decide (cs3 s j≠0)),.int .i64 (j:Int)]) (λj h1=>j≤3∧h1=H) (λj=>3 -j) 0 (by simp[cs3]) ⟨Nat.zero_le _,rfl⟩ ?_;rintro j h1 ⟨hj,rfl⟩;rcases Nat.lt_or_ge j 3 with hlt|hge
   ·obtain⟨c,e1,e2,e3⟩:∃c:UInt8,hload h1 none (.ptr (some (1,j)))=some (S [c])∧cs3 s (j+1)=cs3 s j+s.count c∧isE c=true:=by
     have ld:∀k,k<3→hload h1 none (.ptr (some (1,k)))=[S [10],S [92],S [(34:UInt8)]][k]?:=λk hk=>by simp only[hload,q.c1,partOf_none]
     have:j=0∨j=1∨j=2:=by omega
     rcases this with rfl|rfl|rfl
     ·exact⟨10,ld 0 (by decide),by simp[cs3],rfl⟩
     ·exact⟨92,ld 1 (by decide),rfl,rfl⟩
     ·exact⟨34,ld 2 (by decide),rfl,rfl⟩
    have ea:peval (.eaddr 1) [.msl 1 0 3 1,.int .i64 (j:Int)]=some (.ptr (some (1,j))):=by
     have:=eaddr_msl (id:=1) (z:=1) (n:=3) (k:= .i64) (i:=j) hlt
     rwa [Nat.mul_one] at this
    have hr:=rep_isE c;rw[if_pos e3] at hr;have ld:=q.ld c.toNat_lt;rw[hr.1] at ld;have hcl:cs3 s (j+1)≤ce s:=by
     have:j=0∨j=1∨j=2:=by omega
     rcases this with rfl|rfl|rfl<;>simp only[cs3]<;>omega
    have es:peval .sidx [.str [c],I 0]=some (.int .u8 (c.toNat:Int)):=rfl;have el:peval (.len false) [.sl 1 ((esc c).map λx=>[AVal.int .u8 (x.toNat:Int)])]=some (I 2):=by show some (AVal.int .i64 _)=_;rw[List.length_map,hr.2];rfl
    have e21:peval (.int .sub) [I 2,I 1]=some (I 1):=rfl;by_cases h0:s.count c=0
    ·have h0':((s.count c:Nat):Int)=0:=by omega
     simp only[amS,Nat.reduceLeDiff,↓reduceIte,bxS,show(j:Int)<3 by omega,ea,e1,(f376 s c).pcall rfl rfl,h0',ne_eq,eq_self,pe_incN j];exact LoopPost.next (j+1) (by rw[e2,h0];rfl) ⟨hlt,rfl⟩ (by omega)
    ·have h0':¬((s.count c:Nat):Int)=0:=by omega
     simp only[amS,Nat.reduceLeDiff,↓reduceIte,bxS,show(j:Int)<3 by omega,ea,e1,(f376 s c).pcall rfl rfl,h0',ne_eq,es,aaB,ld,el,e21,pe_mul1 (s.count c) (by omega),pe_addN (s.length+cs3 s j) (s.count c) (by omega),pe_incN j];exact LoopPost.next (j+1) (by rw[e2,decide_eq_true (show cs3 s j+s.count c≠0 by omega)];simp[Nat.add_assoc]) ⟨hlt,rfl⟩ (by omega)
   ·obtain rfl:j=3:=by omega
    have h3:cs3 s 3=ce s:=hce;rw[h3];by_cases h0:ce s=0
    ·simp only[amS,Nat.reduceLeDiff,↓reduceIte,bxS,h0,ne_eq,not_true_eq_false,decide_false,show¬((3:Nat):Int)<3 by omega];exact⟨_,rfl,by rw[esc_none s h0],[],by simp⟩
    ·simp only[amS,Nat.reduceLeDiff,↓reduceIte,bxS,h0,ne_eq,not_false_eq_true,decide_true,show¬((3:Nat):Int)<3 by omega];exact tail h0 ⟨rfl,_,rfl,rfl,[.dead],rfl⟩
  ·simp only[amS,Nat.reduceLeDiff,↓reduceIte,bxS,q.ln,lnT,m8,h24];refine W_loop_st (λi:Nat=>[.int .i64 ((s.length+ce (s.take i):Nat):Int),.bool (decide (ce (s.take i)≠0)),.int .i64 (i:Int)]) (λi h1=>i≤s.length∧h1=H) (λi=>s.length-i) 0 (by simp[ce]) ⟨Nat.zero_le _,rfl⟩ ?_;rintro i h1 ⟨hi,rfl⟩;rcases Nat.lt_or_ge i s.length with hlt|hge
   ·have hr:=rep_isE s[i];have ld:=q.ld s[i].toNat_lt;have ct:=ce_take hlt;have hcl:ce (s.take (i+1))≤ce s:=(List.take_sublist (i+1) s).countP_le;have es:peval .sidx [.str s,.int .i64 (i:Int)]=some (.int .u8 (s[i].toNat:Int)):=by rw[pe_sidx,if_pos (by omega)];simp[hlt]
    have e21:peval (.int .sub) [I 2,I 1]=some (I 1):=rfl;by_cases hE:isE s[i]
    ·rw[if_pos hE] at hr ct;rw[hr.1] at ld;have el:peval (.len false) [.sl 1 ((esc s[i]).map λx=>[AVal.int .u8 (x.toNat:Int)])]=some (I 2):=by show some (AVal.int .i64 _)=_;rw[List.length_map,hr.2];rfl
     simp only[amS,Nat.reduceLeDiff,↓reduceIte,bxS,show(i:Int)<(s.length:Int) by omega,es,aaB,ld,show∀rows,peval (.nileq true .sl) [.sl 1 rows,.slnil]=some (.bool true) from λ_=>rfl,el,e21,pe_incN (s.length+ce (s.take i)),pe_incN i];exact LoopPost.next (i+1) (by rw[ct,decide_eq_true (show ce (s.take i)+1≠0 by omega)];rfl) ⟨hlt,rfl⟩ (by omega)
    ·rw[if_neg hE] at hr ct;rw[hr.1] at ld;simp only[amS,Nat.reduceLeDiff,↓reduceIte,bxS,show(i:Int)<(s.length:Int) by omega,es,aaB,ld,show peval (.nileq true .sl) [.slnil,.slnil]=some (.bool false) from rfl,pe_incN i];exact LoopPost.next (i+1) (by rw[ct];rfl) ⟨hlt,rfl⟩ (by omega)
   ·rw[List.take_of_length_le hge];by_cases h0:ce s=0
    ·simp only[amS,Nat.reduceLeDiff,↓reduceIte,bxS,h0,ne_eq,not_true_eq_false,decide_false,show¬(i:Int)<(s.length:Int) by omega];exact⟨_,rfl,by rw[esc_none s h0],[],by simp⟩
    ·simp only[amS,Nat.reduceLeDiff,↓reduceIte,bxS,h0,ne_eq,not_false_eq_true,decide_true,show¬(i:Int)<(s.length:Int) by omega];exact tail h0 ⟨rfl,_,rfl,rfl,[.dead],rfl⟩
 obtain⟨_,_,r1,rfl,t,rfl⟩:=hev.ret;exact⟨t,r1⟩
theorem f215 (hs:s.length≤50000000000000):PRet cx 119 [.str s] (.str (quo s)):=by
 obtain⟨t,r3⟩:=f374 qh3 hs;have hq:=flat_le s;have r2:Ret cx 146 [.ptr (some (0,0)),.str s] HQ0 (.str (s.flatMap esc)) (HQ3++t):=by rw[ret_iff];show W cx (pReplace 160 238 222 [.ptr (some (0,0)),.str s]) _ _;unfold pReplace;have l0:hload HQ0 (some 3) (.ptr (some (0,0)))=some (.agg [.int .u32 0,.int .i32 0,.int .u32 0]):=rfl;have s0:hstore HQ0 1 (.ptr (some (0,1))) (.int .i32 1)=some HQ1:=rfl;have l1:hload HQ2 (some 3) (.ptr (some (0,0)))=some (.agg [.int .u32 0,.int .i32 1,.int .u32 0]):=rfl;have s1:(hstore HQ2 1 (.ptr (some (0,0))) (.int .u32 1)).bind (λh=>hstore h 1 (.ptr (some (0,1))) (.int .i32 0))=some HQ3:=rfl;obtain⟨HQ,s2,s3⟩:=Option.bind_eq_some_iff.1 s1;have l3:hload HQ3 none (.ptr (some (0,3)))=some (.iface 222 (.ptr (some (2,0)))):=rfl;have gi:gIface 222 HQ3 [.iface 222 (.ptr (some (2,0)))]=some (HQ3,.ptr (some (2,0))):=rfl;simp only[amS,meval,l0,W_same_self,s0,rq2,l1,s2,s3,l3,gi,r3]
 have em:peval (.mksl 1) [S [34],S [92,34],S [92],S [92,92],S [10],S [92,110]]=some olds:=rfl;rw[wout,t119_eq,t119];simp only[amS,Nat.reduceLeDiff,↓reduceIte,bxS,em,rq1,r2];obtain⟨u,eu⟩:∃u,s.flatMap esc=u:=⟨_,rfl⟩;have eq:quo s=34::u++[34]:=by rw[quo,eu];rfl
 rw[eu] at hq⊢;rw[show peval (.str .add) [S [34],.str u]=some (.str (34::u)) from if_pos (by show 1+u.length≤_;omega)];simp only[amS];rw[show peval (.str .add) [.str (34::u),S [34]]=some (.str (34::u++[34])) from if_pos (by show u.length+1+1≤_;omega)];simp only[amS,eq]
end
end Go.Am
end
section
namespace Go.Am
open Go
set_option maxRecDepth 100000
theorem W_qcall {C:Ctx} {Q:Post} {h:AHeap} {f:FuncId} {args:List AVal} {k:AVal→IT} (hc:Ev C f args [] λr _=>r.flat=true∧W C (k r) Q h):W C (.qcall f args k) Q h:=by obtain⟨n,x,vs,h1,hr,hx,r,hv,hfl,m,x',vs',h',hr',q⟩:=hc;subst hx;subst hv;refine W_succ ⟨max n m,x',vs',h',?_,q⟩;have h1':=IT.run_le (Nat.le_max_left n m) hr;have h2:=IT.run_le (Nat.le_trans (Nat.le_max_right n m) (Nat.le_succ _)) hr';simp only[IT.step];simp only[Ctx.run] at*;rw[h1'];simp only[hfl,if_true];exact h2
section
variable {h h':AHeap} {a n:Nat} {m:Option Nat} {ps:List PN} {A:Ar} {x:Int} {f d k:Nat} {e:Int} {acc:Bytes}
theorem pe_sadd {s t:Bytes} (h:s.length+t.length≤9223372036854775807):peval (.str .add) [.str s,.str t]=some (.str (s++t)):=by show(if s.length+t.length≤9223372036854775807 then _ else _)=_;rw[if_pos h]
theorem f216 {i:Int} (hi:0≤i∧i≤7):PRet cx 120 [.int .i64 i] (.str (dig i)):=by
 have:i=0∨i=1∨i=2∨i=3∨i=4∨i=5∨i=6∨i=7:=by omega
 rcases this with rfl|rfl|rfl|rfl|rfl|rfl|rfl|rfl<;>exact(Ret_of_tab (h':=[]) 60 (by kernel_rfl)).ev rfl
theorem ats_take (s:Bytes) (l:List Attr) {j:Nat} (hj:j<l.length):atsL s (l.take (j+1))=atsL s (l.take j)++atL l[j]:=by
 induction l generalizing s j with
 |nil=>simp at hj
 |cons y l ih=>
  cases j with
  |zero=>rfl
  |succ j=>simp only[List.take_succ_cons,atsL,List.getElem_cons_succ];exact ih _ (by simpa using hj)
theorem dig_len (i:Int):(dig i).length=1:=rfl
theorem f128 {y:ANode} (no:NOk y) (o:okN 1000 y) (hd:y.data.length≤20000000000000) (p doc c:Int) (K:AVal):Ret cx 78 [.rptr [.int .i64 y.kind,.int .i64 p,K,.int .i64 doc,.int .i64 y.space,.str y.name,avOf y.attrs,.str y.data,.str y.pub,.str y.sys,.bool y.quirks,.int .i64 c,.int .i64 y.host]] [] (.str (lineOf y)) []:=by
 obtain⟨o1,o2,o3,o4,o5⟩:=o;have k1:=quo_le y.name;have k2:=quo_le y.pub;have k3:=quo_le y.sys;have k4:=quo_le y.data;have q1:=f215 (s:=y.name) (by omega);have q2:=f215 (s:=y.pub) (by omega);have q3:=f215 (s:=y.sys) (by omega);have q4:=f215 (s:=y.data) (by omega);have hk:=no.k;rw[ret_iff,t78_eq,t78];unfold lineOf;by_cases c1:y.kind=1
 ·cases hq:y.quirks<;>simp only[amS,Nat.reduceLeDiff,↓reduceIte,bxS,c1,hq,eq_self,if_true,if_false,Bool.false_eq_true]
 by_cases c2:y.kind=2
 ·by_cases h0:y.host=0<;>simp only[amS,Nat.reduceLeDiff,↓reduceIte,bxS,c1,c2,h0,ne_eq,eq_self,Int.reduceEq,if_true,if_false,not_true_eq_false,not_false_eq_true]
 by_cases c3:y.kind=3
 ·simp only[amS,Nat.reduceLeDiff,↓reduceIte,bxS,c1,c2,c3,Int.reduceEq,eq_self,q1.pcall rfl rfl,q2.pcall rfl rfl,q3.pcall rfl rfl];rw[pe_sadd (by simp;omega)];simp only[amS];rw[pe_sadd (by simp;omega)];simp only[amS];rw[pe_sadd (by simp;omega)];simp only[amS];rw[pe_sadd (by simp;omega)];simp only[amS];rw[pe_sadd (by simp;omega)];simp only[amS]
 by_cases c5:y.kind=5
 ·simp only[amS,Nat.reduceLeDiff,↓reduceIte,bxS,c1,c2,c3,c5,Int.reduceEq,eq_self,q4.pcall rfl rfl,pe_sadd (show[116,101,120,116,(32:UInt8)].length+(quo y.data).length≤9223372036854775807 by simp;omega)]
 by_cases c6:y.kind=6
 ·simp only[amS,Nat.reduceLeDiff,↓reduceIte,bxS,c1,c2,c3,c5,c6,Int.reduceEq,eq_self,q4.pcall rfl rfl,pe_sadd (show[99,111,109,109,101,110,116,(32:UInt8)].length+(quo y.data).length≤9223372036854775807 by simp;omega)]
 obtain⟨s0,es⟩:∃s0,[101,108,101,109,101,110,116,32]++dig y.space++[32]++quo y.name=s0:=⟨_,rfl⟩;have s0l:s0.length≤1000:=by rw[←es];simp[dig_len];omega
 have r1:=f216 no.sp;simp only[amS,Nat.reduceLeDiff,↓reduceIte,bxS,c1,c2,c3,c5,c6,q1.pcall rfl rfl,r1.pcall rfl rfl];rw[pe_sadd (by simp[dig_len])];simp only[amS];rw[pe_sadd (by simp[dig_len])];simp only[amS];rw[pe_sadd (by simp[dig_len];omega)];rw[show(101::108::101::109::101::110::116::32::(dig y.space++[32])++quo y.name:Bytes)=s0 from es,show(101::108::101::109::101::110::116::32::(dig y.space++[32]++quo y.name):Bytes)=s0 from es];have hv:=attrs_in (h:=[]) (avOf_is (l:=y.attrs));simp only[amS,bxS,hv.len];refine W_loop_st (λj:Nat=>[.str (atsL s0 (y.attrs.take j)),.int .i64 (j:Int)]) (λj h1=>j≤y.attrs.length∧h1=[]) (λj=>y.attrs.length-j) 0 rfl ⟨Nat.zero_le _,rfl⟩ ?_;rintro j h1 ⟨hj,rfl⟩;rcases Nat.lt_or_ge j y.attrs.length with hlt|hge
 ·obtain⟨q,a1,a2⟩:=hv.at_ j hlt;have hm:=o2 _ (List.getElem_mem hlt);have m1:=f215 (s:=y.attrs[j].name) (by omega);have m2:=f215 (s:=y.attrs[j].value) (by omega);have m3:=f216 (no.asp _ (List.getElem_mem hlt));have l1:=quo_le y.attrs[j].name;have l2:=quo_le y.attrs[j].value;have l3:=atL_le hm.1 hm.2;have l4:=atsL_le (l:=y.attrs.take j) (s:=s0) λz hz=>o2 z (List.mem_of_mem_take hz);have l5:(y.attrs.take j).length≤1000:=by rw[List.length_take];omega
  rw[Attr.row] at a2;simp only[amS,Nat.reduceLeDiff,↓reduceIte,bxS,show(j:Int)<(y.attrs.length:Int) by omega,a1,a2,m1.pcall rfl rfl,m2.pcall rfl rfl,m3.pcall rfl rfl];rw[pe_sadd (by simp[dig_len])];simp only[amS];rw[pe_sadd (by simp[dig_len])];simp only[amS];rw[pe_sadd (by simp[dig_len];omega)];simp only[amS];rw[pe_sadd (by simp[dig_len];omega)];simp only[amS];rw[pe_sadd (by simp[dig_len];omega)];simp only[amS];rw[show(32::(dig y.attrs[j].space++[58]++quo y.attrs[j].name++[61]++quo y.attrs[j].value):Bytes)=atL y.attrs[j] from rfl,pe_sadd (by omega)];simp only[amS,pe_incN j];exact LoopPost.next (j+1) (by rw[ats_take s0 y.attrs hlt]) ⟨hlt,rfl⟩ (by omega)
 ·rw[List.take_of_length_le hge];simp only[amS,Nat.reduceLeDiff,↓reduceIte,bxS,show¬(j:Int)<(y.attrs.length:Int) by omega]
theorem gRow_w (w:PA 0 h a n m ps A) (hx:A.has x):∃K,gRow h [.ptr (some (a,0)),.int .i64 x]=some (h,.tuple [.rptr [.int .i64 (A.nd x).kind,.int .i64 (A.nd x).par,K,.int .i64 (A.nd x).doc,.int .i64 (A.nd x).space,.str (A.nd x).name,avOf (A.nd x).attrs,.str (A.nd x).data,.str (A.nd x).pub,.str (A.nd x).sys,.bool (A.nd x).quirks,.int .i64 (A.nd x).cont,.int .i64 (A.nd x).host],.int .i64 (A.nd x).cont,.sl 1 ((A.nd x).kids.map intRow)]):=by
 have hlt:=(w.at hx).1;have hpl:=w.nlen;have hr:((ps.map PN.row).flatten.drop (0+(x.toNat-1)*13)).take 13=(pN ps x).row:=by have hg:=(w.pn hx).1;rw[Nat.zero_add,flat_drop (rowP ps),←List.map_drop,List.drop_eq_getElem_cons hlt,List.map_cons,List.flatten_cons];rw[List.getElem?_eq_getElem hlt,Option.some.injEq] at hg;rw[hg];exact List.take_left' PN.len_row
 have hh:1≤x∧x≤(ps.length:Int)∧0+ps.length*13≤(ps.map PN.row).flatten.length:=by have h1:=hx.1;have h2:=hx.2;rw[hpl] at h2;exact⟨h1,h2,by rw[len_rows];omega⟩
 have hst:AVal.still (avOf (A.nd x).attrs)=true:=by
  cases(A.nd x).attrs with
  |nil=>rfl
  |cons y l=>
   show stillLL ((y::l).map Attr.row)=true;have:∀l:List Attr,stillLL (l.map Attr.row)=true:=λl=>by
    induction l with
    |nil=>rfl
    |cons y l ih=>simp only[List.map_cons,stillLL,ih,Bool.and_true];rfl
   exact this _
 have hint:∀l:List Int,stillLL (l.map intRow)=true:=λl=>by
  induction l with
  |nil=>rfl
  |cons y l ih=>simp only[List.map_cons,stillLL,ih,Bool.and_true];rfl
 have ex:=(w.pn hx).2.1;have ea:=w.att hx;have hs:=w.hs x (by have:=hx.1;omega) hx.1;have hk:=w.kid hx;unfold gRow;simp only[w.ha,w.hn];rw[if_pos hh,hr,PN.row,ex,ea];simp only[stillL,hst,AVal.still,Bool.and_self,Bool.true_and,if_true];rcases hk with⟨e1,e2⟩|⟨id,cs,e1,hc⟩|e1
 ·rw[e1,e2];exact⟨_,rfl⟩
 ·have hrf:=rowsFrom_ints (l:=(A.nd x).kids) (cs:=cs) (pre:=[]);simp only[List.nil_append,List.length_nil] at hrf;rw[e1];simp only[hc,hrf,hint,and_true];rw[if_pos (by simp)];exact⟨_,rfl⟩
 ·rcases hs with e2|⟨id,k,e2⟩
  ·rw[e1] at e2;cases e2
  ·rw[e1] at e2;cases e2
theorem dump_w (w:PA 0 h a n m ps A) (ok:ArOk A 0) (hb:Bnd A 1000) (hd:∀y,(A.nd y).data.length≤20000000000000) (Q:Post):∀(f:Nat) (x:Int) (d:Nat) (acc:Bytes) (k:Bytes→IT),A.has x→Below' A one' x≤f→acc.length+(dmp A f x d).length≤maxBytes→W cx (k (acc++dmp A f x d)) Q h→W cx (dumpTree 78 (.ptr (some (a,0))) f x d acc k) Q h
 |0,x,d,acc,k,hx,hf,_,_=>by have:=below_sum ok one' hx (ks:=[]) ⟨List.nodup_nil,λ_ h=>by cases h⟩;have e1:one' x=1:=rfl;omega
 |f+1,x,d,acc,k,hx,hf,hl,hw=>by
  have no:=ok.nok x hx;have kidsW:∀(ks:List Int) (acc:Bytes),(∀y∈ks,A.has y∧Below' A one' y≤f)→acc.length+(ks.flatMap λy=>dmp A f y (d+1)).length≤maxBytes→W cx (k (acc++ks.flatMap λy=>dmp A f y (d+1))) Q h→
    W cx (((ks.map intRow).foldr (λkid K acc=>match kid with
     |[.int .i64 y]=>dumpTree 78 (.ptr (some (a,0))) f y (d+1) acc K
     |_=> .fail) k) acc) Q h:=λks=>by
   induction ks with
   |nil=>intro acc _ _ hw;simpa using hw
   |cons y ks ih=>intro acc hk hl hw;obtain⟨hy,hyf⟩:=hk y (by simp);simp only[List.flatMap_cons,List.length_append] at hl hw;simp only[List.map_cons,List.foldr_cons,intRow];refine dump_w w ok hb hd Q f y (d+1) acc _ hy hyf (by omega) ?_;exact ih _ (λz hz=>hk z (List.mem_cons_of_mem _ hz)) (by rw[List.length_append];omega) (by rw[List.append_assoc];exact hw)
  obtain⟨K,hg⟩:=gRow_w w hx;have r1:=f128 no (hb x) (hd x) (A.nd x).par (A.nd x).doc (A.nd x).cont K;have b1:=λks=>below_sum ok one' (ks:=ks) hx;have e1:one' x=1:=rfl;have kf:∀ks,Kin A x ks→∀y∈ks,A.has y∧Below' A one' y≤f:=λks hK y hy=>by
   refine⟨(hK.2 y hy).1,?_⟩;have:=b1 ks hK;have:Below' A one' y≤(ks.map (Below' A one')).sum:=by
    clear this
    induction ks with
    |nil=>cases hy
    |cons z ks ih=>
     simp only[List.map_cons,List.sum_cons];rcases List.mem_cons.1 hy with rfl|hy
     ·omega
     ·have:=ih ⟨(List.nodup_cons.1 hK.1).2,λq hq=>hK.2 q (List.mem_cons_of_mem _ hq)⟩ hy;omega
   omega
  simp only[dmp] at hl hw;simp only[List.length_append] at hl;unfold dumpTree;simp only[amS,meval,hg];refine W_qcall (r1.ev ⟨rfl,?_⟩);have h1:(acc++List.replicate (2*d) 32++lineOf (A.nd x)++[10]).length≤maxBytes:=by simp only[List.length_append];omega
  dsimp only;rw[if_pos h1];by_cases h0:(A.nd x).cont=0
  ·rw[if_pos h0];rw[if_pos h0] at hl hw;refine kidsW _ _ (kf _ (kin_kids ok hx)) (by simp only[List.length_append] at hl⊢;simp at hl⊢;omega) ?_;simpa[List.append_assoc] using hw
  ·rw[if_neg h0];rw[if_neg h0] at hl hw;have hK:=kf _ (kin_all ok hx h0);obtain⟨hc1,hc2⟩:=hK (A.nd x).cont (by simp);refine dump_w w ok hb hd Q f (A.nd x).cont (d+1) _ _ hc1 hc2 (by simp only[List.length_append] at hl⊢;omega) ?_;refine kidsW _ _ (λy hy=>hK y (List.mem_cons_of_mem _ hy)) (by simp only[List.length_append] at hl⊢;omega) ?_;simpa[List.append_assoc] using hw
termination_by f=>f
theorem f17 (w:PA 0 h a n m ps A) (ok:ArOk A 0) (hb:Bnd A 1000) (hd:∀y,(A.nd y).data.length≤20000000000000) (hx:A.has x) (hn:A.n.length≤1000000000) (hl:(dmp A 1000000000 x 0).length≤maxBytes):Ret cx 14 [.ptr (some (a,0)),.int .i64 x] h (.str (dmp A 1000000000 x 0)) h:=by rw[ret_iff];show W cx (pDump 78 [.ptr (some (a,0)),.int .i64 x]) _ h;unfold pDump;refine dump_w w ok hb hd _ 1000000000 x 0 [] _ hx (Nat.le_trans below_one hn) (by simpa using hl) ?_;rw[List.nil_append];simp only[amS]
end
end Go.Am
end
section
namespace Go.Am
open Go
set_option maxRecDepth 100000
theorem once_snoc {l:List Attr} {y:Attr}:once (l++[y])=if(once l).any (λz=>decide (keyOf y=keyOf z)) then once l else once l++[y]:=onceF_snoc
structure SN where
 x:ANode
 kv:AVal
 av:AVal
def SN.row (p:SN):List AVal:=[.int .i64 p.x.kind,.int .i64 p.x.par,p.kv,.int .i64 p.x.doc,.int .i64 p.x.space,.str p.x.name,p.av,.str p.x.data,.str p.x.pub,.str p.x.sys,.bool p.x.quirks,.int .i64 p.x.cont,.int .i64 p.x.host]
def SN.z:SN:=⟨{},.slnil,.slnil⟩
theorem rowSN (l:List SN):∀r∈l.map SN.row,r.length=13:=map_rows (f:=SN.row) (λ_=>rfl) l
structure SA (h:AHeap) (a n:Nat) (ss:List SN) (A:Ar):Prop where
 e:A.n=ss.map SN.x
 ha:h[a]?=some (.cells [.msl n 0 (ss.length+1) 13,.slnil])
 hn:h[n]?=some (.cells ((SN.z::ss).map SN.row).flatten)
 kd:∀s∈ss,IsInts s.x.kids s.kv
 at_:∀s∈ss,AttrsAt h s.av s.x.attrs
def nS (x:Int):Nat:=x.toNat*13
def pS (ss:List SN) (x:Int):SN:=(SN.z::ss).getD x.toNat SN.z
section
variable {h h':AHeap} {a n:Nat} {ss:List SN} {A:Ar} {x:Int}
theorem SA.len (w:SA h a n ss A):A.n.length=ss.length:=by rw[w.e,List.length_map]
theorem SA.nodes (w:SA h a n ss A):hload h none (.ptr (some (a,0)))=some (.msl n 0 (ss.length+1) 13):=by simp only[hload,w.ha];rfl
theorem SA.at (w:SA h a n ss A) (hx:A.has x):x.toNat<ss.length+1∧(x.toNat:Int)=x:=by have h1:=hx.1;have h2:=hx.2;rw[w.len] at h2;omega
theorem SA.pn (w:SA h a n ss A) (hx:A.has x):(SN.z::ss)[x.toNat]?=some (pS ss x)∧(pS ss x).x=A.nd x∧pS ss x∈ss:=by
 have h1:=(w.at hx).1;have h2:=hx.1;have hl:x.toNat<(SN.z::ss).length:=by simpa using h1
 refine⟨by unfold pS;rw[List.getD_eq_getElem?_getD,List.getElem?_eq_getElem hl];rfl,?_⟩;obtain⟨k,hk⟩:∃k,x.toNat=k+1:=⟨x.toNat-1,by omega⟩;have hk1:k<ss.length:=by omega
 have ep:pS ss x=ss[k]:=by unfold pS;rw[hk,List.getD_cons_succ,List.getD_eq_getElem?_getD,List.getElem?_eq_getElem hk1];rfl
 refine⟨?_,by rw[ep];exact List.getElem_mem _⟩;rw[ep];unfold Ar.nd;rw[if_pos hx,w.e,hk,Nat.add_sub_cancel,List.getD_eq_getElem?_getD,List.getElem?_map,List.getElem?_eq_getElem hk1];rfl
theorem SA.fld (w:SA h a n ss A) (hx:A.has x) {k:Nat} (hk:k<13):hload h none (.ptr (some (n,nS x+k)))=(pS ss x).row[k]?:=by unfold nS;simp only[hload,w.hn,partOf_none];exact flat_get (rowSN _) hk (by rw[List.getElem?_map,(w.pn hx).1];rfl)
theorem SA.addr (w:SA h a n ss A) (hx:A.has x):peval (.eaddr 13) [.msl n 0 (ss.length+1) 13,.int .i64 x]=some (.ptr (some (n,nS x))):=by
 obtain⟨h1,h2⟩:=w.at hx;have:=eaddr_msl (k:= .i64) (id:=n) (z:=13) h1
 rwa [h2] at this
theorem SA.f0 (w:SA h a n ss A) (hx:A.has x):hload h none (.ptr (some (n,nS x)))=some (.int .i64 (A.nd x).kind):=by have:=w.fld hx (k:=0) (by decide);rw[Nat.add_zero] at this;rw[this,←(w.pn hx).2.1];rfl
theorem SA.f1 (w:SA h a n ss A) (hx:A.has x):hload h none (.ptr (some (n,nS x+1)))=some (.int .i64 (A.nd x).par):=by rw[w.fld hx (by decide),←(w.pn hx).2.1];rfl
theorem SA.f2 (w:SA h a n ss A) (hx:A.has x):hload h none (.ptr (some (n,nS x+2)))=some (pS ss x).kv:=by rw[w.fld hx (by decide)];rfl
theorem SA.f11 (w:SA h a n ss A) (hx:A.has x):hload h none (.ptr (some (n,nS x+11)))=some (.int .i64 (A.nd x).cont):=by rw[w.fld hx (by decide),←(w.pn hx).2.1];rfl
theorem SA.f12 (w:SA h a n ss A) (hx:A.has x):hload h none (.ptr (some (n,nS x+12)))=some (.int .i64 (A.nd x).host):=by rw[w.fld hx (by decide),←(w.pn hx).2.1];rfl
theorem SA.kid (w:SA h a n ss A) (hx:A.has x):IsInts (A.nd x).kids (pS ss x).kv:=by rw[←(w.pn hx).2.1];exact w.kd _ (w.pn hx).2.2
theorem SA.att (w:SA h a n ss A) (hx:A.has x):AttrsAt h (pS ss x).av (A.nd x).attrs:=by rw[←(w.pn hx).2.1];exact w.at_ _ (w.pn hx).2.2
def ndrow (x:ANode) (K V:AVal):List AVal:=[.int .i64 x.kind,.int .i64 x.par,K,.int .i64 x.doc,.int .i64 x.space,.str x.name,V,.str x.data,.str x.pub,.str x.sys,.bool x.quirks,.int .i64 x.cont,.int .i64 x.host]
theorem SA.ld (w:SA h a n ss A) (hx:A.has x):hload h (some 13) (.ptr (some (n,nS x)))=some (.agg (ndrow (A.nd x) (pS ss x).kv (pS ss x).av)):=by
 obtain⟨h1,h2⟩:=w.at hx;have hlt:x.toNat<(SN.z::ss).length:=by simpa using h1
 have:=hload_row (rowSN _) w.hn (i:=x.toNat) (by simpa using h1);rw[List.getElem_map] at this;have e:=(w.pn hx).1;rw[List.getElem?_eq_getElem hlt,Option.some.injEq] at e;rw[e] at this;rw[←(w.pn hx).2.1];exact this
theorem f224s (w:SA h a n ss A):Ret cx 81 [.ptr (some (a,0)),.int .i64 x] h (.bool (decide (A.has x))) h:=by
 have hl:=w.len;rw[ret_iff,t81_eq,t81];by_cases h0:0<x
 ·have e:decide (A.has x)=decide (x<((ss.length+1:Nat):Int)):=by rw[decide_eq_decide];unfold Ar.has;omega
  rw[e];simp only[amS,bxS,h0,w.nodes,show peval (.len false) [.msl n 0 (ss.length+1) 13]=some (.int .i64 ((ss.length+1:Nat):Int)) from rfl]
 ·have e:decide (A.has x)=false:=by rw[decide_eq_false];unfold Ar.has;omega
  rw[e];simp only[amS,bxS,h0]
theorem f309s (w:SA h a n ss A) (hx:A.has x):Ret cx 83 [.ptr (some (a,0)),.int .i64 x] h (.int .i64 (A.up x)) h:=by
 rw[ret_iff,t83_eq,t83];by_cases hp:(A.nd x).par=0
 ·have e:A.up x=(A.nd x).host:=by unfold Ar.up;rw[if_neg (by simpa using hp)]
  simp only[amS,bxS,w.nodes,w.addr hx,w.f1 hx,hp,w.f12 hx,e,ne_eq,eq_self]
 ·have e:A.up x=(A.nd x).par:=by unfold Ar.up;rw[if_pos (by simpa using hp)]
  simp only[amS,bxS,w.nodes,w.addr hx,w.f1 hx,hp,e,ne_eq]
theorem f219s (y:ANode) (K V:AVal) (h:AHeap):Ret cx 80 [.agg (ndrow y K V)] h (.bool (decide (isT y))) h:=by rw[ret_iff,t80_eq,t80,ndrow];simp only[amS,isT];refine⟨λh1=>⟨λh2=>?_,λh2=>?_⟩,λh1=>?_⟩<;>simp[*]
structure AttrsF (h:AHeap) (v:AVal) (l:List Attr):Prop where
 len:peval (.len false) [v]=some (.int .i64 (l.length:Int))
 at_:∀k (hk:k<l.length),∃id o,peval (.eaddr 3) [v,.int .i64 (k:Int)]=some (.ptr (some (id,o)))∧hload h none (.ptr (some (id,o)))=some (.int .i64 l[k].space)∧hload h none (.ptr (some (id,o+1)))=some (.str l[k].name)∧hload h (some 3) (.ptr (some (id,o)))=some (.agg [.int .i64 l[k].space,.str l[k].name,.str l[k].value])
theorem AttrsAt.fl {v:AVal} {l:List Attr} (hv:AttrsAt h v l):AttrsF h v l:=by
 rcases hv with⟨rfl,rfl⟩|⟨id,rfl,hc,_⟩
 ·exact⟨rfl,λk hk=>by simp at hk⟩
 ·refine⟨rfl,λk hk=>⟨id,k*3,eaddr_msl hk,?_⟩⟩;have hg:(l.map Attr.row)[k]?=some l[k].row:=by rw[List.getElem?_map,List.getElem?_eq_getElem hk];rfl
  have ld:∀j,j<3→hload h none (.ptr (some (id,k*3+j)))=l[k].row[j]?:=λj hj=>by simp only[hload,hc,partOf_none];exact flat_get (rowA l) hj hg
  have l0:=ld 0 (by decide);rw[Nat.add_zero] at l0;have lr:=hload_row (rowA l) hc (i:=k) (by simpa using hk);rw[List.getElem_map] at lr;exact⟨l0,ld 1 (by decide),lr⟩
theorem f154s (s:Int):PRet cx 37 [.int .i64 s] (.bool (decide (BS.okSp s))):=by rw[wout,t37_eq,t37];unfold BS.okSp;by_cases h1:0≤s<;>by_cases h2:s≤7<;>simp[h1,h2]
theorem f217s {v:AVal} {l:List Attr} (hv:AttrsF h v l) (hb:l.length≤1000000000) (hs:∀y∈l,BS.okSp y.space):Ret cx 38 [v] h tt h:=by
 rw[ret_iff,t38_eq,t38];refine W_loop_st (λk:Nat=>[ff,.int .i64 (k:Int)]) (λk h1=>k≤l.length∧h1=h) (λk=>l.length-k) 0 rfl ⟨Nat.zero_le _,rfl⟩ ?_;rintro k h1 ⟨hk,rfl⟩;have hvl:=hv.len;rcases Nat.lt_or_ge k l.length with hlt|hge
 ·obtain⟨id,o,e1,e2,_⟩:=hv.at_ k hlt;have r1:∀{Q:Post} {h:AHeap} {kk:AVal→IT},W cx (.pcall 37 [.int .i64 l[k].space] kk) Q h↔W cx (kk (.bool (decide (BS.okSp l[k].space)))) Q h:=(f154s _).pcall rfl rfl;simp only[amS,bxS,hvl,show(k:Int)<(l.length:Int) by omega,e1,e2,r1,decide_eq_true (hs _ (List.getElem_mem hlt)),pe_inc (show k<9223372036854775807 by omega)];exact LoopPost.next (k+1) rfl ⟨hlt,rfl⟩ (by omega)
 ·simp only[amS,bxS,hvl,show¬(k:Int)<(l.length:Int) by omega]
theorem f218s {v:AVal} {l:List Attr} (hv:AttrsF h v l) (hb:l.length≤1000000000):∃u,Ret cx 39 [v] h u h∧IsAttrs (once l) u:=by
 have hm:maxBytes=140737488355328:=rfl;have hvl:=hv.len;have hev:Ev cx 39 [v] h λr h'=>IsAttrs (once l) r∧h'=h:=by
  unfold Ev;rw[t39_eq,t39];refine W_loop_st (λs:AVal×Nat=>[s.1,.int .i64 (s.2:Int)]) (λs h1=>s.2≤l.length∧IsAttrs (once (l.take s.2)) s.1∧h1=h) (λs=>l.length-s.2) (.slnil,0) rfl ⟨Nat.zero_le _,.inr ⟨rfl,rfl⟩,rfl⟩ ?_;rintro⟨u,k⟩ h1 ⟨hk,hu,rfl⟩;simp only at hk hu;rcases Nat.lt_or_ge k l.length with hlt|hge
  ·have hul:=IsSl.lenM hu;have hol:=once_le (l:=l.take k);rw[List.length_take] at hol;obtain⟨id,o,e1,es1,en1,er1⟩:=hv.at_ k hlt;simp only[amS,↓reduceIte,bxS,hvl,show(k:Int)<(l.length:Int) by omega];refine W_loop_fin (i:=2) (λj:Nat=>[.bool (((once (l.take k)).take j).any λz=>decide (keyOf l[k]=keyOf z)),.int .i64 (j:Int)]) (λj h2=>j≤(once (l.take k)).length∧h2=h1) (λj=>(once (l.take k)).length-j) (λj h2=>j=(once (l.take k)).length∧h2=h1) 0 rfl ⟨Nat.zero_le _,rfl⟩ ?_ ?_
   ·rintro j h2 ⟨hj,rfl⟩;rcases Nat.lt_or_ge j (once (l.take k)).length with hlj|hgj
    ·have e2:=IsSl.eaddrM (k:= .i64) hu hlj;rw[Attr.row] at e2;have es:((once (l.take k)).take (j+1)).any (λz=>decide (keyOf l[k]=keyOf z))=(((once (l.take k)).take j).any (λz=>decide (keyOf l[k]=keyOf z))||decide (keyOf l[k]=keyOf (once (l.take k))[j])):=by rw[List.take_succ_eq_append_getElem hlj,List.any_append];simp
     by_cases c1:(once (l.take k))[j].space=l[k].space
     ·by_cases c2:(once (l.take k))[j].name=l[k].name
      ·have hky:decide (keyOf l[k]=keyOf (once (l.take k))[j])=true:=by simp[keyOf,c1,c2]
       simp only[amS,bxS,hul,show(j:Int)<((once (l.take k)).length:Int) by omega,e1,es1,en1,e2,eq_true c1,decide_eq_true c2,pe_inc (show j<9223372036854775807 by omega)];exact .next (j+1) (by rw[es,hky,Bool.or_true]) ⟨hlj,rfl⟩ (by omega)
      ·have hky:decide (keyOf l[k]=keyOf (once (l.take k))[j])=false:=by simp[keyOf];exact λ_ h=>c2 h.symm
       simp only[amS,bxS,hul,show(j:Int)<((once (l.take k)).length:Int) by omega,e1,es1,en1,e2,eq_true c1,decide_eq_false c2,pe_inc (show j<9223372036854775807 by omega)];exact .next (j+1) (by rw[es,hky,Bool.or_false]) ⟨hlj,rfl⟩ (by omega)
     ·have hky:decide (keyOf l[k]=keyOf (once (l.take k))[j])=false:=by simp[keyOf];exact λh=>absurd h.symm c1
      simp only[amS,bxS,hul,show(j:Int)<((once (l.take k)).length:Int) by omega,e1,es1,e2,c1,pe_inc (show j<9223372036854775807 by omega)];exact .next (j+1) (by rw[es,hky,Bool.or_false]) ⟨hlj,rfl⟩ (by omega)
    ·simp only[amS,bxS,hul,show¬(j:Int)<((once (l.take k)).length:Int) by omega];exact .fin j rfl ⟨by omega,rfl⟩
   ·rintro j h2 ⟨rfl,rfl⟩;have e3:once (l.take (k+1))=if(once (l.take k)).any (λz=>decide (keyOf l[k]=keyOf z)) then once (l.take k) else once (l.take k)++[l[k]]:=by rw[List.take_succ_eq_append_getElem hlt];exact once_snoc
    have em:peval (.mksl 3) [.agg [.int .i64 l[k].space,.str l[k].name,.str l[k].value]]=some (.sl 3 [[.int .i64 l[k].space,.str l[k].name,.str l[k].value]]):=rfl;have a1:=IsSl.app1M (f:=Attr.row) (b:=40) (a:=l[k]) hu (by omega);rw[Attr.row] at a1;rw[List.take_length]
    cases hq:(once (l.take k)).any (λz=>decide (keyOf l[k]=keyOf z)) with
    |true=>rw[if_pos hq] at e3;simp only[amS,↓reduceIte,bxS,pe_inc (show k<9223372036854775807 by omega)];exact LoopPost.next (u,k+1) rfl ⟨hlt,by rw[e3];exact hu,rfl⟩ (by simp only;omega)
    |false=>rw[if_neg (by rw[hq];decide)] at e3;simp only[amS,Nat.reduceLeDiff,↓reduceIte,bxS,e1,er1,em,a1,pe_inc (show k<9223372036854775807 by omega)];exact LoopPost.next (_,k+1) rfl ⟨hlt,by rw[e3];exact .mk,rfl⟩ (by simp only;omega)
  ·rw[List.take_of_length_le hge] at hu;simp only[amS,↓reduceIte,bxS,hvl,show¬(k:Int)<(l.length:Int) by omega];exact⟨_,rfl,hu⟩
 obtain⟨r,h',hr,hu,rfl⟩:=hev.ret;exact⟨r,hr,hu⟩
theorem f418s {y:ANode} {K V:AVal} (ok:NOk y) (hK:IsInts y.kids K) (hV:AttrsF h V y.attrs):Ret cx 36 [.agg (ndrow y K V)] h tt h:=by
 have r1:=f219s y K V h;have lk:=IsSl.lenM hK;have lv:=hV.len;have k1:=ok.k;rw[ndrow] at r1;rw[ret_iff,t36_eq,t36,ndrow];have q1:¬y.kind<1:=by omega
 have q2:¬y.kind>6:=by omega
 have qk:¬y.kind=4→¬y.kind=1→¬y.kind=2→y.kids=[]:=λa b c=>Decidable.byContradiction λhn=>by rcases ok.kids hn with h|h|h<;>contradiction
 have qe:=ok.elem;have qn:=ok.nm;have qd:=ok.dt;have qt:=ok.data;have qq:=ok.quirks;have qc:=ok.contT;have qh:=ok.hostF;have ht:isT y→y.kind=4:=λh=>h.1;by_cases hT:isT y
 ·have h4:=ht hT;have z1:y.host=0:=Decidable.byContradiction λhn=>by have:=qh hn;omega
  obtain⟨d1,d2⟩:=qd (by omega);have d3:=qt (by omega) (by omega);have d4:=qq (by omega);rw[decide_eq_true hT] at r1;simp only[h4,d1,d2,d3,d4,z1] at r1;simp only[amS,bxS,lk,lv,r1.call,h4,d1,d2,d3,d4,z1,Int.reduceLT,Int.reduceEq,Int.reduceGT,false_implies,true_implies,true_and,and_true,ne_eq,eq_self,decide_true,decide_false,Bool.not_true,Bool.not_false,not_true_eq_false,not_false_eq_true]
  try decide
 ·rw[decide_eq_false hT] at r1;have c0:y.cont=0:=Decidable.byContradiction λhn=>hT (qc hn);have six:y.kind=1∨y.kind=2∨y.kind=3∨y.kind=4∨y.kind=5∨y.kind=6:=by omega
  rcases six with h4|h4|h4|h4|h4|h4
  all_goals
   have z1:y.kind≠2→y.host=0:=λh2=>Decidable.byContradiction λhn=>h2 (qh hn);rw[h4] at qk qe qn qd qt qq z1;simp only[Int.reduceEq,not_true_eq_false,not_false_eq_true,true_implies,false_implies,ne_eq] at qk qe qn qd qt qq z1;simp only[h4,c0,z1,qk,qe,qn,qd,qt,qq] at r1;simp only[amS,bxS,lk,lv,r1.call,h4,c0,z1,qk,qe,qn,qd,qt,qq,List.length_nil,Int.natCast_zero,Int.lt_irrefl,Int.reduceLT,Int.reduceEq,Int.reduceGT,false_implies,true_implies,true_and,and_true,ne_eq,eq_self,decide_true,decide_false,Bool.not_true,Bool.not_false,not_true_eq_false,not_false_eq_true]
   try decide
theorem idx_at {l:List Int} (hn:l.Nodup) {k:Nat} (hk:k<l.length):idxFrom (λy=>decide (l[k]=y)) 0 l=(k:Int):=by
 obtain⟨j,hj,e,g,_⟩:=idx_mem (List.getElem_mem hk);rw[e];rw[List.getElem?_eq_getElem hj,Option.some.injEq] at g;have:j=k:=by
  rcases Nat.lt_trichotomy j k with h|h|h
  ·exact absurd g (List.pairwise_iff_getElem.1 (List.nodup_iff_pairwise_ne.1 hn) j k hj hk h)
  ·exact h
  ·exact absurd g.symm (List.pairwise_iff_getElem.1 (List.nodup_iff_pairwise_ne.1 hn) k j hk hj h)
 rw[this]
theorem SA.has (w:SA h a n ss A) (hx:A.has x):Ret cx 81 [.ptr (some (a,0)),.int .i64 x] h tt h:=by
 have:=f224s (x:=x) w
 rwa [decide_eq_true hx] at this
theorem f419s {e:Int} (w:SA h a n ss A) (ok:ArOk A e) (hx:A.has x) (hb:∀y,(A.nd y).kids.length≤1000000000):Ret cx 40 [.ptr (some (a,0)),.int .i64 x] h tt h:=by
 have lk:=IsSl.lenM (w.kid hx);have root:=(ok.nok x hx).root;have nod:=(ok.nok x hx).nod;have hbx:=hb x;have ld:=w.ld hx;rw[ndrow] at ld;rw[ret_iff,t40_eq,t40];by_cases hp:(A.nd x).par=0
 ·simp only[amS,bxS,w.nodes,w.addr hx,ld,hp,ne_eq,eq_self,decide_true,decide_false,Bool.not_true,Bool.not_false,not_true_eq_false,not_false_eq_true];refine W_loop_st (λk:Nat=>[ff,.int .i64 (k:Int)]) (λk h1=>k≤(A.nd x).kids.length∧h1=h) (λk=>(A.nd x).kids.length-k) 0 rfl ⟨Nat.zero_le _,rfl⟩ ?_;rintro k h1 ⟨hk,rfl⟩;rcases Nat.lt_or_ge k (A.nd x).kids.length with hlt|hge
  ·obtain⟨hy,hpy⟩:=ok.kid x hx _ (List.getElem_mem hlt);obtain⟨p,e1,e2⟩:=(IsInts.ints (h:=h1) (w.kid hx)).at_ k hlt;have r2:=f161a (h:=h1) (w.kid hx).ints hbx ((A.nd x).kids[k]);rw[idx_at nod hlt] at r2;simp only[amS,bxS,lk,show(k:Int)<((A.nd x).kids.length:Int) by omega,e1,e2,(w.has hy).call,w.nodes,w.addr hy,w.f1 hy,hpy,r2.call,ne_eq,eq_self,pe_inc (show k<9223372036854775807 by omega)];exact LoopPost.next (k+1) rfl ⟨hlt,rfl⟩ (by omega)
  ·simp only[amS,bxS,lk,show¬(k:Int)<((A.nd x).kids.length:Int) by omega]
 ·obtain⟨hh,hm⟩:=ok.par x hx hp;obtain⟨q1,q2⟩:=root hp;obtain⟨i,hi,ei,_⟩:=idx_mem hm;have r4:=f161a (h:=h) (w.kid hh).ints (hb _) x;rw[ei] at r4;simp only[amS,bxS,w.nodes,w.addr hx,ld,hp,(w.has hh).call,q1,q2,w.addr hh,w.f2 hh,r4.call,show¬(i:Int)<0 by omega,ne_eq];refine W_loop_st (λk:Nat=>[ff,.int .i64 (k:Int)]) (λk h1=>k≤(A.nd x).kids.length∧h1=h) (λk=>(A.nd x).kids.length-k) 0 rfl ⟨Nat.zero_le _,rfl⟩ ?_;rintro k h1 ⟨hk,rfl⟩;rcases Nat.lt_or_ge k (A.nd x).kids.length with hlt|hge
  ·obtain⟨hy,hpy⟩:=ok.kid x hx _ (List.getElem_mem hlt);obtain⟨p,e1,e2⟩:=(IsInts.ints (h:=h1) (w.kid hx)).at_ k hlt;have r2:=f161a (h:=h1) (w.kid hx).ints hbx ((A.nd x).kids[k]);rw[idx_at nod hlt] at r2;simp only[amS,bxS,lk,show(k:Int)<((A.nd x).kids.length:Int) by omega,e1,e2,(w.has hy).call,w.nodes,w.addr hy,w.f1 hy,hpy,r2.call,ne_eq,eq_self,pe_inc (show k<9223372036854775807 by omega)];exact LoopPost.next (k+1) rfl ⟨hlt,rfl⟩ (by omega)
  ·simp only[amS,bxS,lk,show¬(k:Int)<((A.nd x).kids.length:Int) by omega]
theorem f420s (w:SA h a n ss A) (ok:ArOk A 0) (hx:A.has x):Ret cx 41 [.ptr (some (a,0)),.int .i64 x] h tt h:=by
 obtain⟨d1,d2⟩:=ok.doc x hx;have d3:=ok.docD x hx;have x0:x≠0:=by have:=hx.1;omega
 have rt:=f219s (A.nd x) (pS ss x).kv (pS ss x).av h;have ld:=w.ld hx;rw[ndrow] at ld rt;have hT:isT (A.nd x)→A.has (A.nd x).cont∧(A.nd (A.nd x).cont).kind=2∧(A.nd (A.nd x).cont).host=x:=λt=>ok.cont x hx (ok.tpl x hx x0 t);have hH:(A.nd x).host≠0→A.has (A.nd x).host∧isT (A.nd (A.nd x).host)∧(A.nd (A.nd x).host).cont=x:=λh0=>⟨(ok.host x hx h0).1,(ok.nok _ (ok.host x hx h0).1).contT (by rw[(ok.host x hx h0).2];exact x0),(ok.host x hx h0).2⟩
 rw[ret_iff,t41_eq,t41];have tail:(A.nd x).host≠0→∃K V,Ret cx 80 [.agg (ndrow (A.nd (A.nd x).host) K V)] h tt h∧hload h (some 13) (.ptr (some (n,nS (A.nd x).host)))=some (.agg (ndrow (A.nd (A.nd x).host) K V)):=λh0=>by obtain⟨h1,h2,_⟩:=hH h0;have r:=f219s (A.nd (A.nd x).host) (pS ss (A.nd x).host).kv (pS ss (A.nd x).host).av h;rw[decide_eq_true h2] at r;exact⟨_,_,r,w.ld h1⟩
 by_cases q2:isT (A.nd x)
 ·obtain⟨c1,c2,c3⟩:=hT q2;have q1:¬(A.nd x).kind=1:=by rw[q2.1];decide
  rw[decide_eq_true q2] at rt;by_cases q3:(A.nd x).host=0
  ·rw[q3] at rt;simp only[amS,bxS,w.nodes,w.addr hx,ld,(w.has d1).call,w.addr d1,w.f0 d1,d2,q1,rt.call,(w.has c1).call,w.addr c1,w.f0 c1,c2,w.f12 c1,c3,q3,ne_eq,eq_self,decide_true,decide_false,Bool.not_true,Bool.not_false,not_true_eq_false,not_false_eq_true]
  ·obtain⟨h1,h2,h3⟩:=hH q3;obtain⟨K,V,r,l⟩:=tail q3;simp only[amS,bxS,w.nodes,w.addr hx,ld,(w.has d1).call,w.addr d1,w.f0 d1,d2,q1,rt.call,(w.has c1).call,w.addr c1,w.f0 c1,c2,w.f12 c1,c3,q3,(w.has h1).call,w.addr h1,l,r.call,w.f11 h1,h3,ne_eq,eq_self,decide_true,decide_false,Bool.not_true,Bool.not_false,not_true_eq_false,not_false_eq_true]
 ·rw[decide_eq_false q2] at rt;by_cases q1:(A.nd x).kind=1
  ·have e1:=d3 q1;have q3:(A.nd x).host=0:=Decidable.byContradiction λh0=>by have:=(ok.nok x hx).hostF h0;omega
   rw[q3,q1,e1] at rt;simp only[amS,bxS,w.nodes,w.addr hx,ld,e1,(w.has hx).call,w.f0 hx,q1,rt.call,q3,ne_eq,eq_self,decide_true,decide_false,Bool.not_true,Bool.not_false,not_true_eq_false,not_false_eq_true]
  ·by_cases q3:(A.nd x).host=0
   ·rw[q3] at rt;simp only[amS,bxS,w.nodes,w.addr hx,ld,(w.has d1).call,w.addr d1,w.f0 d1,d2,q1,rt.call,q3,ne_eq,eq_self,decide_true,decide_false,Bool.not_true,Bool.not_false,not_true_eq_false,not_false_eq_true]
   ·obtain⟨h1,h2,h3⟩:=hH q3;obtain⟨K,V,r,l⟩:=tail q3;simp only[amS,bxS,w.nodes,w.addr hx,ld,(w.has d1).call,w.addr d1,w.f0 d1,d2,q1,rt.call,q3,(w.has h1).call,w.addr h1,l,r.call,w.f11 h1,h3,ne_eq,eq_self,decide_true,decide_false,Bool.not_true,Bool.not_false,not_true_eq_false,not_false_eq_true]
theorem f421s {e:Int} (w:SA h a n ss A) (ok:ArOk A e) (hx:A.has x) (hb:ss.length≤900000000):Ret cx 42 [.ptr (some (a,0)),.int .i64 x] h ff h:=by
 obtain⟨r,hr⟩:=ok.rank;have up1:∀y,A.has y→A.up y=0∨(A.has (A.up y)∧r (A.up y)<r y):=λy hy=>by
  by_cases h0:A.up y=0
  ·exact .inl h0
  ·exact .inr ⟨up_has ok hy h0,hr y hy h0⟩
 have ln:peval (.len false) [.msl n 0 (ss.length+1) 13]=some (.int .i64 ((ss.length+1:Nat):Int)):=rfl;rw[ret_iff,t42_eq,t42];simp only[amS,bxS,(f309s w hx).call];refine W_loop_st (λs:Int×Nat=>[ff,.int .i64 s.1,.int .i64 (s.2:Int)]) (λs h1=>s.2≤ss.length+1∧(s.1=0∨(A.has s.1∧r s.1<r x))∧h1=h) (λs=>ss.length+1 -s.2) (A.up x,0) rfl ⟨Nat.zero_le _,up1 x hx,rfl⟩ ?_;rintro⟨y,k⟩ h1 ⟨hk,hy,rfl⟩;simp only at hk hy;rcases hy with rfl|⟨hy,hry⟩
 ·simp only[amS,↓reduceIte,bxS,ne_eq,eq_self]
 ·have y0:¬y=0:=by have:=hy.1;omega
  have yx:¬y=x:=λe=>by rw[e] at hry;omega
  rcases Nat.lt_or_ge k (ss.length+1) with hlt|hge
  ·simp only[amS,↓reduceIte,bxS,y0,w.nodes,ln,show(k:Int)<((ss.length+1:Nat):Int) by omega,yx,(f309s w hy).call,pe_inc (show k<9223372036854775807 by omega),ne_eq];exact LoopPost.next (A.up y,k+1) rfl ⟨hlt,(up1 y hy).imp id λh=>⟨h.1,Nat.lt_trans h.2 hry⟩,rfl⟩ (by simp only;omega)
  ·simp only[amS,↓reduceIte,bxS,y0,w.nodes,ln,show¬(k:Int)<((ss.length+1:Nat):Int) by omega,ne_eq]
theorem nodes_sn {lo:Nat}:∀{rows:List (List AVal)} {l:List ANode},rows.length=l.length→(∀k (h1:k<rows.length) (h2:k<l.length),NRow h lo l[k] rows[k])→
  ∃ss:List SN,l=ss.map SN.x∧rows=ss.map SN.row∧(∀s∈ss,IsInts s.x.kids s.kv)∧∀s∈ss,AttrsAt h s.av s.x.attrs
 |[],[],_,_=>⟨[],rfl,rfl,by simp,by simp⟩
 |[],_::_,hl,_=>by simp at hl
 |_::_,[],hl,_=>by simp at hl
 |r::rows,y::l,hl,hh=>by
  obtain⟨ss,e1,e2,e3,e4⟩:=nodes_sn (rows:=rows) (l:=l) (by simpa using hl) λk h1 h2=>by have:=hh (k+1) (by simpa using h1) (by simpa using h2);simpa using this
  obtain⟨K,V,er,hK,hV,_⟩:=hh 0 (by simp) (by simp);simp only[List.getElem_cons_zero] at er hK hV;refine⟨⟨y,K,V⟩::ss,by rw[e1];rfl,by rw[e2,er];rfl,λs hs=>?_,λs hs=>?_⟩
  ·rcases List.mem_cons.1 hs with rfl|hs
   ·exact hK
   ·exact e3 s hs
  ·rcases List.mem_cons.1 hs with rfl|hs
   ·exact hV
   ·exact e4 s hs
theorem sa_lay {lo:Nat} {v:AVal} (hv:NodesV h lo v A.n) (hne:A.n≠[]) (hb:A.n.length≤900000000):
  ∃ss:List SN,ss.length=A.n.length∧hmake h 13 168 [I 0,I 0,.slnil,I 0,I 0,S [],.slnil,S [],S [],S [],ff,I 0,I 0] (I 1) (I 1)=some (h++[.cells SN.z.row],.msl h.length 0 1 13)∧
   hgrow (h++[.cells SN.z.row]) 13 168 (.msl h.length 0 1 13) v=some (h++[AObj.dead,AObj.cells ((SN.z::ss).map SN.row).flatten],.msl (h.length+1) 0 (ss.length+1) 13)∧
   ∀t,SA (h++[AObj.dead,AObj.cells ((SN.z::ss).map SN.row).flatten]++[AObj.cells [.msl (h.length+1) 0 (ss.length+1) 13,.slnil]]++t) (h.length+2) (h.length+1) ss A:=by
 have hmx:maxBytes=140737488355328:=rfl;obtain⟨rows,s1,e1,n1⟩:=hv;obtain⟨ss,q1,q2,q3,q4⟩:=nodes_sn e1 n1;have hl:ss.length=A.n.length:=by rw[q1,List.length_map]
 refine⟨ss,hl,rfl,?_,λt=>⟨q1,by simp,by simp,q3,λs hs=>?_⟩⟩
 ·have hne2:rows≠[]:=by rintro rfl;exact hne (List.eq_nil_of_length_eq_zero (by simpa using e1.symm))
  have hg:=hgrow_some (h:=h++[.cells SN.z.row]) (id:=h.length) (rows:=[SN.z.row]) (r2:=rows) (z:=13) (b:=168) (v:=v) (by simp;rfl) (by decide) (by simp) s1 hne2 (by rw[e1];simp;omega);rw[List.length_singleton] at hg;rw[hg,q2];simp[Nat.add_comm]
 ·rw[List.append_assoc,List.append_assoc];exact(q4 s hs).app
theorem f413s {lo:Nat} {v:AVal} (ok:ArOk A 0) (hv:NodesV h lo v A.n) (hne:A.n≠[]) (hb:A.n.length≤900000000) (hk:∀y,(A.nd y).kids.length≤1000000000) (ha:∀y,(A.nd y).attrs.length≤1000000000):∃t,Ret cx 15 [v] h tt (h++t):=by
 obtain⟨ss,hl,g1,g2,g3⟩:=sa_lay hv hne hb;have vc:v.cells=[v]:=by obtain⟨rows,s1,_⟩:=hv;exact IsSl.cells s1
 obtain⟨t0,ht0⟩:∃t0,h++[AObj.dead,AObj.cells ((SN.z::ss).map SN.row).flatten]++[AObj.cells [.msl (h.length+1) 0 (ss.length+1) 13,.slnil]]=h++t0:=⟨_,List.append_assoc _ _ _⟩;have w:=g3 [];rw[List.append_nil,ht0] at w;have al:(h++[AObj.dead,AObj.cells ((SN.z::ss).map SN.row).flatten]).length=h.length+2:=by simp
 have ln:peval (.len false) [.msl (h.length+1) 0 (ss.length+1) 13]=some (.int .i64 ((ss.length+1:Nat):Int)):=rfl;refine⟨t0,?_⟩;rw[ret_iff,t15_eq,t15];refine W_make g1 ?_;simp only[amS,Nat.reduceLeDiff,↓reduceIte,fillAt,bxS,g2,al,ht0];obtain⟨a0,ea⟩:∃a0,h.length+2=a0:=⟨_,rfl⟩;obtain⟨n0,en⟩:∃n0,h.length+1=n0:=⟨_,rfl⟩;rw[ea,en] at w;rw[en] at ln;rw[ea];obtain⟨H,eH⟩:∃H,h++t0=H:=⟨_,rfl⟩;rw[eH] at w⊢;have hwl:=w.len;refine W_loop_st (λk:Nat=>[ff,.int .i64 (k:Int)]) (λk h1=>1≤k∧k≤ss.length+1∧h1=H) (λk=>ss.length+1 -k) 1 rfl ⟨Nat.le_refl _,by omega,rfl⟩ ?_;rintro k h1 ⟨hk1,hk2,rfl⟩;rcases Nat.lt_or_ge k (ss.length+1) with hlt|hge
 ·have hx:A.has (k:Int):=by unfold Ar.has;omega
  have nk:=ok.nok _ hx;have av:=(w.att hx).fl;have ld:=w.ld hx;have r1:=f418s (h:=h1) nk (w.kid hx) av;have r2:=f217s av (ha _) nk.asp;obtain⟨u,r3,hu⟩:=f218s av (ha _);rw[nk.once] at hu;have lu:=IsSl.lenM hu;have lv:=av.len;have rs:∀{Q:Post} {h:AHeap} {kk:AVal→IT},W cx (.pcall 37 [.int .i64 (A.nd k).space] kk) Q h↔W cx (kk tt) Q h:=λ{Q h kk}=>by
   have:=(f154s (A.nd k).space).pcall (h:=h) (Q:=Q) (k:=kk) rfl rfl
   rwa [decide_eq_true (show BS.okSp (A.nd k).space from nk.sp)] at this
  rw[ndrow] at ld r1;simp only[amS,bxS,w.nodes,ln,show(k:Int)<((ss.length+1:Nat):Int) by omega,w.addr hx,ld,r1.call,rs,r2.call,lv,r3.call,lu,(f419s w ok hx hk).call,(f420s w ok hx).call,ne_eq,eq_self,pe_inc (show k<9223372036854775807 by omega)];exact LoopPost.next (k+1) rfl ⟨by omega,hlt,rfl⟩ (by omega)
 ·simp only[amS,bxS,w.nodes,ln,show¬(k:Int)<((ss.length+1:Nat):Int) by omega];refine W_loop_st (λk:Nat=>[ff,.int .i64 (k:Int)]) (λk h2=>1≤k∧k≤ss.length+1∧h2=h1) (λk=>ss.length+1 -k) 1 rfl ⟨Nat.le_refl _,by omega,rfl⟩ ?_;rintro j h2 ⟨hj1,hj2,rfl⟩;rcases Nat.lt_or_ge j (ss.length+1) with hlt|hge
  ·have hx:A.has (j:Int):=by unfold Ar.has;omega
   simp only[amS,bxS,w.nodes,ln,show(j:Int)<((ss.length+1:Nat):Int) by omega,(f421s w ok hx (by omega)).call,pe_inc (show j<9223372036854775807 by omega)];exact LoopPost.next (j+1) rfl ⟨by omega,hlt,rfl⟩ (by omega)
  ·simp only[amS,bxS,w.nodes,ln,show¬(j:Int)<((ss.length+1:Nat):Int) by omega,eH]
end
end Go.Am
end
