/- Parts of the proof. No law is claimed here. -/
import Derived.Test.YtbicpeplenomhaaGreatDoorR24
import Derived.Test.YtbicpeplenomhaaGreatDoorR22
set_option linter.unusedVariables false
set_option linter.unusedSimpArgs false
section
namespace Go.Am
open Go
set_option maxRecDepth 100000
section
variable {h h':AHeap} {bi a ai:Nat} {o c t:AVal} {G G' F:Nat→Prop} {b b':BS} {x:Int} {m:Nat}
variable {nm:Bytes} {av:AVal} {l:List Attr} {r:List AVal} {sp p:Int} {e:Fmt} {at_ mk last:Int} {anc far:Item}
theorem IsEnts.find (hc:IsEnts b.act c) (w:BX h bi a o c t G b) (rm:Room b m) (nm:Bytes):Ret cx 128 [.ptr (some (bi,3)),.str nm] h (.int .i64 (findC nm b.act)) h:=by
 obtain⟨fs,hfs,hv⟩:=hc;have ha:=rm.act;have:=f115 w.atC hv (by rw[←hfs,List.length_map] at ha;omega) nm
 rwa [findE_C,hfs] at this
theorem ext_less (hai:h.length≤ai) (x:Ext h (own2 ai bi G) h' (own2 ai bi G')):Ext h (own bi G) h' (own bi G'):=
 ⟨x.len,λi hi hn=>x.old i hi λhg=>by
  rcases hg with rfl|hg
  ·omega
  ·exact hn hg,λi hi=>by
  rcases x.own i (.inr hi) with(rfl|h)|h
  ·exact .inr hai
  ·exact .inl h
  ·exact .inr h⟩
theorem findC_lt {nm:Bytes} {l:List FCor} (h:0≤findC nm l):∃p:Nat,∃hp:p<l.length,findC nm l=(p:Int):=by
 have key:∀r:List FCor,findCR nm r<r.length:=by
  intro r
  induction r with
  |nil=>show(-1:Int)<0;decide
  |cons x r ih=>rw[findCR];simp only[List.length_cons];split<;>(try split)<;>omega
 have:=key l.reverse;rw[List.length_reverse] at this;refine⟨(findC nm l).toNat,?_,by omega⟩;unfold findC at h⊢;omega
theorem entC_at {l:List FCor} {f:Nat} (hn:((l.map FCor.node).filter λn=>decide (n≠0)).Nodup) (hf:f<l.length) (h0:l[f].node≠0):entC l[f].node l=(f:Int):=by
 unfold entC;rw[if_neg h0];refine lastIdx_is hf (by simp[nodeC]) λj hj h=>?_;by_cases he:l[j].node=l[f].node
 ·exfalso;have:l=l.take j++l[j]::l.drop (j+1):=by rw[←List.drop_eq_getElem_cons hj,List.take_append_drop]
  rw[this,List.map_append,List.map_cons,List.filter_append,List.filter_cons,if_pos (by simpa[he] using h0),List.nodup_append] at hn;have hm:l[f]∈l.take j:=List.mem_take_iff_getElem.2 ⟨f,by omega,rfl⟩;exact hn.2.2 l[f].node (List.mem_filter.2 ⟨List.mem_map_of_mem hm,by simpa using h0⟩) l[j].node (by simp) he.symm
 ·simp[nodeC,he]
theorem set_ext2 {v:AObj}:Ext h (Am.own2 ai bi G) (h.set ai v) (Am.own2 ai bi G):=⟨by rw[List.length_set];exact Nat.le_refl _,λi _ hn=>List.getElem?_set_ne λe=>hn (.inl e.symm),λ_ h=> .inl h⟩
theorem st_anc (hc:h[ai]?=some (.cells (acells e at_ mk anc far last))) (i:Item):hstore h 4 (.ptr (some (ai,5))) (.agg i.row)=some (h.set ai (.cells (acells e at_ mk i far last))):=by simp only[hstore,hc];rfl
theorem st_far (hc:h[ai]?=some (.cells (acells e at_ mk anc far last))) (i:Item):hstore h 4 (.ptr (some (ai,9))) (.agg i.row)=some (h.set ai (.cells (acells e at_ mk anc i last))):=by simp only[hstore,hc];rfl
theorem ld_ent (hc:h[ai]?=some (.cells (acells e at_ mk anc far last))):hload h (some 3) (.ptr (some (ai,0)))=some (.agg e.row):=by simp only[hload,hc];rfl
theorem moveKids_snoc {A:Ar} {n x:Int} {l:List Int}:BS.moveKids A n (l++[x])=(BS.moveKids A n l).tput n x 0:=by unfold BS.moveKids;rw[List.foldl_append];rfl
theorem f43b (w:BX h bi a o c t G b) (hc:IsEnts b.act c) (ok:BOk b) (rm:Room b (m+4*b.opn.length+10)) (nm:Bytes):
  ∃h' o' c' G',Ret cx 75 [.ptr (some (bi,0)),.str nm] h (.bool (b.round nm).1) h'∧BX h' bi a o' c' t G' (b.round nm).2∧IsEnts (b.round nm).2.act c'∧Ext h (own bi G) h' (own bi G'):=by
 have ho:=rm.opn;have hac:=rm.act;have r1:=hc.find w rm nm;by_cases hf:findC nm b.act<0
 ·obtain⟨h2,o2,r2,w2,x2⟩:=f58b w rm nm;have e:b.round nm=(false,b.anyEnd nm):=by unfold BS.round;simp only;rw[if_pos hf]
  have ea:(b.anyEnd nm).act=b.act:=by
   unfold BS.anyEnd;split
   ·split<;>rfl
   ·rfl
  rw[e];refine⟨h2,o2,c,G,?_,w2,by rw[ea];exact hc,x2⟩;rw[ret_iff,t75_eq,t75];simp only[amS,Nat.reduceLeDiff,↓reduceIte,fillAt,bxS,r1.call,hf,r2.call]
 obtain⟨f,hfl,ef⟩:=findC_lt (Int.not_lt.1 hf);have hf0:¬(f:Int)<0:=by omega
 rw[ef] at r1;have hc':=hc;obtain⟨fs,hfs,hv⟩:=hc';have hfl2:b.act.length=fs.length:=by rw[←hfs,List.length_map]
 have efp:fs[f].c=b.act[f]:=by simp only[←hfs,List.getElem_map]
 have l3:=w.l3;have e1:=IsSl.eaddrM (k:= .i64) hv (show f<fs.length by omega);generalize hfe:fs[f]=fe at*;have hgd:b.act.getD f FCor.zero=fe.c:=by rw[List.getD_eq_getElem?_getD,List.getElem?_eq_getElem hfl];exact efp.symm
 have hv3:fe.v.cells=[fe.v]:=IsSl.cells fe.ok;have w1:=w.app (u:=[.cells (acells fe (f:Int) (f:Int) Item.zero Item.zero 0)]);have st1:(h++[AObj.cells (acells fe (f:Int) (f:Int) Item.zero Item.zero 0)])[h.length]?=some (.cells (acells fe (f:Int) (f:Int) Item.zero Item.zero 0)):=by simp
 have x1:Ext h (own bi G) (h++[AObj.cells (acells fe (f:Int) (f:Int) Item.zero Item.zero 0)]) (own bi G):=w.ext_app;have hn1:¬own bi G h.length:=by
  rintro(e|hg)
  ·exact absurd w.lt (by omega)
  ·exact absurd (w.w.lt hg) (Nat.lt_irrefl _)
 obtain⟨H1,hH1⟩:∃H1,H1=h++[AObj.cells (acells fe (f:Int) (f:Int) Item.zero Item.zero 0)]:=⟨_,rfl⟩;rw[←hH1] at w1 st1 x1;have l0:hload H1 none (.ptr (some (h.length,0)))=some (.int .i64 fe.c.node):=At.load ⟨_,st1,rfl⟩;have r2:=f116 w1.sA (by omega) fe.c.node;have hal:acells fe (f:Int) (f:Int) Item.zero Item.zero 0=[.int .i64 fe.c.node,.str fe.c.name,fe.v,.int .i64 (f:Int),.int .i64 (f:Int),I 0,I 0,S [],ff,I 0,I 0,S [],ff,I 0]:=rfl;rw[hal] at hH1;rw[Fmt.row] at e1;by_cases hk:lastIdx (isNode fe.c.node) b.opn<0
 ·obtain⟨h2,c2,r3,w2,hc2,_,x2⟩:=f117b w1 hc rm st1 hn1 hfl ⟨by omega,by omega⟩ ⟨by omega,by omega⟩;have e:b.round nm=(false,{b with act:=dropAt b.act f}):=by unfold BS.round;simp only;rw[if_neg hf,ef,Int.toNat_natCast,hgd,if_pos hk]
  rw[e];refine⟨h2,o,c2,G,?_,w2,hc2,ext_less (Nat.le_refl _) ((ext_own2 x1 h.length).trans x2)⟩;rw[ret_iff,t75_eq,t75];simp only[amS,Nat.reduceLeDiff,↓reduceIte,fillAt,bxS,r1.call,hf0,l3,e1,←hH1,l0,r2.call,hk,r3.call]
 obtain⟨k,ek⟩:∃k:Nat,lastIdx (isNode fe.c.node) b.opn=(k:Int):=⟨_,(Int.toNat_of_nonneg (Int.not_lt.1 hk)).symm⟩;obtain⟨hkl,hkq,_⟩:=lastIdx_get ek;have hk0:¬(k:Int)<0:=by omega
 rw[ek] at r2;by_cases hkz:k=0
 ·have e:b.round nm=(false,b):=by unfold BS.round;simp only;rw[if_neg hf,ef,Int.toNat_natCast,hgd,if_neg hk,if_pos (.inl (by rw[ek,hkz];rfl))]
  rw[e];refine⟨H1,o,c,G,?_,w1,hc,x1⟩;rw[ret_iff,t75_eq,t75];simp only[amS,Nat.reduceLeDiff,↓reduceIte,fillAt,bxS,r1.call,hf0,l3,e1,←hH1,l0,r2.call,hk0,eq_true (show(k:Int)=0 by omega)]
 have hkz':¬(k:Int)=0:=by omega
 have r3:=f118 w1.sA (by omega) 1 fe.c.node;by_cases hsc:inSc (isNode fe.c.node) (ends 1) b.opn.reverse=false
 ·have e:b.round nm=(false,b):=by unfold BS.round;simp only;rw[if_neg hf,ef,Int.toNat_natCast,hgd,if_neg hk,if_pos (.inr hsc)]
  rw[e];refine⟨H1,o,c,G,?_,w1,hc,x1⟩;rw[hsc] at r3;rw[ret_iff,t75_eq,t75];simp only[amS,Nat.reduceLeDiff,↓reduceIte,fillAt,bxS,r1.call,hf0,l3,e1,←hH1,l0,r2.call,hk0,hkz',r3.call]
 have hsc':inSc (isNode fe.c.node) (ends 1) b.opn.reverse=true:=by simpa using hsc
 rw[hsc'] at r3;have r4:=f119 w1.sA (by omega) fe.c.node;have hor:¬(lastIdx (isNode fe.c.node) b.opn=0∨inSc (isNode fe.c.node) (ends 1) b.opn.reverse=false):=by rw[ek];rintro(h|h);exact hkz' h;exact hsc h
 by_cases hfa:furthest fe.c.node b.opn<0
 ·have e:b.round nm=(false,{b with opn:=popNode fe.c.node b.opn,act:=dropAt b.act f}):=by unfold BS.round;simp only;rw[if_neg hf,ef,Int.toNat_natCast,hgd,if_neg hk,if_neg hor,if_pos hfa]
  obtain⟨u,r5,hu⟩:=f120 w1.sO (by omega) fe.c.node;have w2:=w1.putO hu;have st2:(put H1 bi 2 u)[h.length]?=_:=(put_other (λe=>hn1 (.inl e))).trans st1;obtain⟨h3,c3,r6,w3,hc3,_,x3⟩:=f117b w2 hc ((rm.le (m':=0) (by omega)).sub rfl popNode_sub (List.Sublist.refl _) (Nat.le_refl _)) st2 hn1 hfl ⟨by omega,by omega⟩ ⟨by omega,by omega⟩;rw[e];refine⟨h3,u,c3,G,?_,w3,hc3,ext_less (Nat.le_refl _) ((ext_own2 (x1.trans put_ext) h.length).trans x3)⟩;rw[ret_iff,t75_eq,t75];simp only[amS,Nat.reduceLeDiff,↓reduceIte,fillAt,bxS,r1.call,hf0,l3,e1,←hH1,l0,r2.call,hk0,hkz',r3.call,r4.call,hfa,r5.call,r6.call]
 obtain⟨N,hN,eN⟩:∃N:Nat,k+1+N<b.opn.length∧furthest fe.c.node b.opn=((k+1+N:Nat):Int):=by
  have hfa':=hfa;rw[furthest_eq,if_neg hk,ek,Int.toNat_natCast] at hfa'⊢;unfold firstFrom at hfa'⊢;split at hfa'
  ·rename_i j hj;have:=(List.findIdx?_eq_some_iff_findIdx_eq.1 hj).1;rw[List.length_drop] at this;exact⟨j,by omega,by omega⟩
  ·omega
 obtain⟨fb,hfb⟩:∃fb,fb=b.opn[k+1+N]:=⟨_,rfl⟩;obtain⟨an,han⟩:∃an,an=b.opn[k-1]'(by omega):=⟨_,rfl⟩;have hgf:b.opn.getD (k+1+N) Item.zero=fb:=by rw[List.getD_eq_getElem?_getD,List.getElem?_eq_getElem hN,hfb];rfl
 have hga:b.opn.getD (k-1) Item.zero=an:=by rw[List.getD_eq_getElem?_getD,List.getElem?_eq_getElem (by omega),han];rfl
 have e:b.round nm=(true,BS.roundE fe.c fb.node an.node (BS.betw fb.node an.node (k+1+N) k N (b,fb.node,f))):=by
  unfold BS.round;simp only
  rw[if_neg hf,ef,Int.toNat_natCast,hgd,if_neg hk,if_neg hor,if_neg hfa,ek,eN,Int.toNat_natCast,Int.toNat_natCast,hgf,hga,show k+1+N-1 -k=N by omega]
 have hfbo:=ok.op fb (by rw[hfb];exact List.getElem_mem _);have hfek:b.opn[k].node=fe.c.node:=by simpa[isNode] using hkq
 have hfeh:b.a.has fe.c.node:=by rw[←hfek];exact(ok.op _ (List.getElem_mem _)).1
 have hfe0:b.act[f].node≠0:=by rw[←efp];have:=hfeh.1;omega
 have hent:=entC_at ok.acN hfl hfe0;rw[←efp] at hent;have hen:=rm.ents _ (List.getElem_mem hfl);rw[←efp] at hen;have hi1:=pe_dec (n:=k) (by omega) (by omega);have r5:=f113 w1.sA ((k-1:Nat):Int);rw[itemAt_lt (by omega),←han] at r5;have r6:=f113 w1.sA ((k+1+N:Nat):Int);rw[itemAt_lt hN,←hfb] at r6;have s5:=st_anc st1 an;have hl1:h.length<H1.length:=(List.getElem?_eq_some_iff.1 st1).1;have hbn:h.length≠bi:=λe=>hn1 (.inl e);have st2:(H1.set h.length (.cells (acells fe f f an Item.zero 0)))[h.length]?=_:=List.getElem?_set_self hl1;have w2:BX (H1.set h.length (.cells (acells fe f f an Item.zero 0))) bi a o c t G b:=w1.frame λj hj=>List.getElem?_set_ne λe=>hn1 (by rw[e];exact hj);have x2:=(ext_own2 x1 h.length).trans (set_ext2 (v:= .cells (acells fe f f an Item.zero 0)));generalize H1.set h.length (.cells (acells fe f f an Item.zero 0))=H2 at*;have s6:=st_far st2 fb;have hl2:h.length<H2.length:=(List.getElem?_eq_some_iff.1 st2).1;have st3:(H2.set h.length (.cells (acells fe f f an fb 0)))[h.length]?=_:=List.getElem?_set_self hl2;have w3:BX (H2.set h.length (.cells (acells fe f f an fb 0))) bi a o c t G b:=w2.frame λj hj=>List.getElem?_set_ne λe=>hn1 (by rw[e];exact hj);have x3:=x2.trans (set_ext2 (v:= .cells (acells fe f f an fb 0)));generalize H2.set h.length (.cells (acells fe f f an fb 0))=H3 at*;have l9:hload H3 none (.ptr (some (h.length,9)))=some (.int .i64 fb.node):=At.load ⟨_,st3,rfl⟩;have t13:At H3 h.length 13 (I 0):=⟨_,st3,rfl⟩;have s7:=t13.store (u:= .int .i64 fb.node) rfl;have st4:=put_cells (k:=13) (v:= .int .i64 fb.node) st3;have w4:BX (put H3 h.length 13 (.int .i64 fb.node)) bi a o c t G b:=w3.frame λj hj=>put_other λe=>hn1 (by rw[←e];exact hj);have x4:=x3.trans (put_ext2 (k:=13) (v:= .int .i64 fb.node));generalize put H3 h.length 13 (.int .i64 fb.node)=H4 at*;have i0:BetI H4 bi a h.length t G fe an fb k N (m+10) (b,fb.node,f) N H4 o c G (b,fb.node,f):=
  ⟨Nat.le_refl _,w4,hc,ok,rm.le (by omega),hfbo.1,by rw[hent];exact st4,hn1,.refl,by rw[hent];omega,by show f≤1000000000;omega,rfl,by simp only;omega,rfl,hfeh⟩
 have le0:=(betw_ok (blk:=fb.node) (anc:=an.node) (far:=k+1+N) (k:=k) (c:=N) (s:=(b,fb.node,f)) ok hfbo.1).2.2;obtain⟨h5,o5,c5,G5,s',r7,es,i⟩:=f121b i0 (by omega) ek hN;rw[←es] at le0 e;obtain⟨q,hq,hq1,hq0,hq2,hq3⟩:=entC_get i.hat;have ist:=i.st;rw[hq1] at ist;have hmk:=i.mkb;have hab:h.length≠bi:=hbn;have l5:hload h5 none (.ptr (some (h.length,5)))=some (.int .i64 an.node):=At.load ⟨_,ist,rfl⟩;obtain⟨u6,r8⟩:=f32b i.w i.ok i.rm an.node;have w6:=i.w.app (u:=u6);have w6':=i.w.ext_app (u:=u6);have hl5:h.length<h5.length:=(List.getElem?_eq_some_iff.1 ist).1;have st6:(h5++u6)[h.length]?=_:=(List.getElem?_append_left hl5).trans ist;have l13:hload (h5++u6) none (.ptr (some (h.length,13)))=some (.int .i64 s'.2.1):=At.load ⟨_,st6,rfl⟩;have hl6:h.length<(h5++u6).length:=by rw[List.length_append];omega
 obtain⟨h7,G7,r9,w7,x7⟩:=f38b (x:=s'.2.1) (p:=(s'.1.place an.node).1) (bf:=(s'.1.place an.node).2) w6 i.ok i.rm;have hn7:¬own bi G7 h.length:=λhg=>by
  rcases x7.own h.length hg with hg|hg
  ·exact i.hn hg
  ·omega
 have st7:h7[h.length]?=_:=(x7.old h.length hl6 i.hn).trans st6;have l3b:hload h7 (some 3) (.ptr (some (h.length,0)))=some (.agg fe.row):=ld_ent st7;have l9b:hload h7 none (.ptr (some (h.length,9)))=some (.int .i64 fb.node):=At.load ⟨_,st7,rfl⟩;obtain⟨r,r10,hr⟩:=f122b fe h7;have le7:Le s'.1.a (s'.1.a.bput s'.2.1 (s'.1.place an.node).1 (s'.1.place an.node).2):=le_bput;have ok7:=i.ok.setA (ok_bput (n:=s'.2.1) (p:=(s'.1.place an.node).1) (b:=(s'.1.place an.node).2) i.ok.ok) le7;have rm7:=i.rm.setA (same_bput (x:=s'.2.1) (p:=(s'.1.place an.node).1) (bf:=(s'.1.place an.node).2));obtain⟨b2,hb2⟩:∃b2,b2={s'.1 with a:=s'.1.a.bput s'.2.1 (s'.1.place an.node).1 (s'.1.place an.node).2}:=⟨_,rfl⟩;have ho2:b2.opn=s'.1.opn:=by rw[hb2]
 have hc2:b2.act=s'.1.act:=by rw[hb2]
 have le2:Le s'.1.a b2.a:=by rw[hb2];exact le7
 rw[←hb2] at w7 ok7 rm7;obtain⟨h8,G8,r11,w8,x8⟩:=f67b (m:=m+7) w7 ok7 (rm7.le (by omega)) hr fe.ok hen.2 hen.1 fb.node 1;obtain⟨ok8,fr,le8⟩:=mk_ok (nm:=fe.c.name) (at_:=fe.c.attrs) (p:=fb.node) ok7 hs1;have rm8:=mk_room (m:=m+7) (nm:=fe.c.name) (l:=fe.c.attrs) (sp:=1) (p:=fb.node) (rm7.le (by omega)) hen.2;obtain⟨nw,hnw⟩:∃nw,nw=b2.mkI fe.c.name fe.c.attrs 1:=⟨_,rfl⟩;obtain⟨b3,hb3⟩:∃b3,b3=b2.mkB fe.c.name fe.c.attrs 1 fb.node:=⟨_,rfl⟩;have ho3:b3.opn=s'.1.opn:=by rw[hb3,←ho2];unfold BS.mkB;rw[if_pos hs1]
 have hc3:b3.act=s'.1.act:=by rw[hb3,←hc2];unfold BS.mkB;rw[if_pos hs1]
 rw[←hnw] at r11 fr;rw[←hb3] at w8 ok8 fr le8 rm8;have hl7:h.length<h7.length:=(List.getElem?_eq_some_iff.1 st7).1;have hn8:¬own bi G8 h.length:=λhg=>by
  rcases x8.own h.length hg with hg|hg
  ·exact hn7 hg
  ·omega
 have st8:h8[h.length]?=_:=(x8.old h.length hl7 hn7).trans st7;have l9c:hload h8 none (.ptr (some (h.length,9)))=some (.int .i64 fb.node):=At.load ⟨_,st8,rfl⟩;obtain⟨kv,r12,hkv⟩:∃v,Ret cx 38 [.ptr (some (a,0)),.int .i64 fb.node] h8 v h8∧IsInts (b3.a.nd fb.node).kids v:=by obtain⟨n',m',ps,wa⟩:=w8.w.pa;exact f110w wa rm8.lim (rm8.lim.kids ok8.ok fb.node)
 have hkl3:(b3.a.nd fb.node).kids.length≤1000000000:=rm8.lim.kids ok8.ok fb.node;have hnr:nw.row=[.int .i64 nw.node,.int .i64 nw.space,.str nw.name,.bool nw.point]:=rfl;rw[Fmt.row] at r10 l3b;have hev:Ev cx 75 [.ptr (some (bi,0)),.str nm] h λr h'=>r= .bool true∧∃o' c' G',BX h' bi a o' c' t G' (BS.roundE fe.c fb.node an.node s')∧IsEnts (BS.roundE fe.c fb.node an.node s').act c'∧Ext h (own bi G) h' (own bi G'):=by
  unfold Ev;rw[t75_eq,t75];simp only[amS,Nat.reduceLeDiff,↓reduceIte,fillAt,bxS,r1.call,hf0,l3,e1,←hH1,l0,r2.call,hk0,hkz',r3.call,r4.call,eN,show¬((k+1+N:Nat):Int)<0 by omega,hi1,r5.call,r6.call,s5,s6,l9,s7];simp only[amS,bxS,r7.call,l5,r8.call];simp only[amS,bxS,l13,r9.call];simp only[amS,l3b,l9b];simp only[amS,↓reduceIte,bxS,itS,r10.call,W_same_self,r11.call,l9b];simp only[amS,w8.l0,l9c,r12.call,IsSl.lenM hkv];have x8':Ext h (own2 h.length bi G) h8 (own2 h.length bi G8):=(((x4.trans i.x).trans (ext_own2 w6' h.length)).trans (ext_own2 x7 h.length)).trans (ext_own2 x8 h.length);refine W_loop_fin (i:=0) (λj:Nat=>[.int .i64 (j:Int)]) (λj h9=>j≤(b3.a.nd fb.node).kids.length∧∃G9,BX h9 bi a o5 c5 t G9 {b3 with a:=BS.moveKids b3.a nw.node ((b3.a.nd fb.node).kids.take j)}∧BOk {b3 with a:=BS.moveKids b3.a nw.node ((b3.a.nd fb.node).kids.take j)}∧Room {b3 with a:=BS.moveKids b3.a nw.node ((b3.a.nd fb.node).kids.take j)} (m+7)∧Ext h8 (own bi G8) h9 (own bi G9)) (λj=>(b3.a.nd fb.node).kids.length-j)
   (λj h9=>j=(b3.a.nd fb.node).kids.length∧∃G9,BX h9 bi a o5 c5 t G9 {b3 with a:=BS.moveKids b3.a nw.node ((b3.a.nd fb.node).kids.take j)}∧BOk {b3 with a:=BS.moveKids b3.a nw.node ((b3.a.nd fb.node).kids.take j)}∧Room {b3 with a:=BS.moveKids b3.a nw.node ((b3.a.nd fb.node).kids.take j)} (m+7)∧Ext h8 (own bi G8) h9 (own bi G9)) 0 rfl ⟨Nat.zero_le _,G8,w8,ok8,rm8,.refl⟩ ?_ ?_
  ·rintro j h9 ⟨hj,G9,w9,ok9,rm9,x9⟩;rcases Nat.lt_or_ge j (b3.a.nd fb.node).kids.length with hlt|hge
   ·have e9:=IsSl.eaddrM (k:= .i64) hkv hlt;obtain⟨h10,G10,r13,w10,x10⟩:=f38b (x:=(b3.a.nd fb.node).kids[j]) (p:=nw.node) (bf:=0) w9 ok9 rm9;have lej:=(moveKids_ok (n:=nw.node) (l:=(b3.a.nd fb.node).kids.take j) ok8.ok).2;rw[bput_elem (by show((BS.moveKids b3.a nw.node ((b3.a.nd fb.node).kids.take j)).nd nw.node).kind=4;rw[lej.kind _ fr.has];exact fr.kind)] at w10;have hs:BS.moveKids b3.a nw.node ((b3.a.nd fb.node).kids.take (j+1))=(BS.moveKids b3.a nw.node ((b3.a.nd fb.node).kids.take j)).tput nw.node (b3.a.nd fb.node).kids[j] 0:=by rw[List.take_succ_eq_append_getElem hlt,moveKids_snoc]
    rw[intRow] at e9;simp only[amS,bxS,show(j:Int)<((b3.a.nd fb.node).kids.length:Int) by omega,e9,r13.call,pe_inc (show j<9223372036854775807 by omega)];refine .next (j+1) rfl ⟨hlt,G10,by rw[hs];exact w10,?_,?_,x9.trans x10⟩ (by omega)
    ·have:=ok9.setA (ok_tput (p:=nw.node) (n:=(b3.a.nd fb.node).kids[j]) (b:=0) ok9.ok) le_tput;rw[hs];exact this
    ·have:=rm9.setA (same_tput (p:=nw.node) (x:=(b3.a.nd fb.node).kids[j]) (bf:=0));rw[hs];exact this
   ·simp only[amS,bxS,show¬(j:Int)<((b3.a.nd fb.node).kids.length:Int) by omega];exact .fin j rfl ⟨by omega,G9,w9,ok9,rm9,x9⟩
  ·rintro j h9 ⟨rfl,G9,w9,ok9,rm9,x9⟩;rw[List.take_length] at w9 ok9 rm9;have hl8:h.length<h8.length:=(List.getElem?_eq_some_iff.1 st8).1;have hn9:¬own bi G9 h.length:=λhg=>by
    rcases x9.own h.length hg with hg|hg
    ·exact hn8 hg
    ·omega
   have st9:h9[h.length]?=_:=(x9.old h.length hl8 hn8).trans st8;have l9d:hload h9 none (.ptr (some (h.length,9)))=some (.int .i64 fb.node):=At.load ⟨_,st9,rfl⟩;have le9:=(moveKids_ok (n:=nw.node) (l:=(b3.a.nd fb.node).kids) ok8.ok).2;have lef:Le b.a (BS.moveKids b3.a nw.node (b3.a.nd fb.node).kids):=((le0.trans le2).trans le8).trans le9;obtain⟨h10,G10,r13,w10,x10⟩:=f38b (x:=nw.node) (p:=fb.node) (bf:=0) w9 ok9 rm9;rw[bput_elem (by show((BS.moveKids b3.a nw.node (b3.a.nd fb.node).kids).nd fb.node).kind=4;rw[lef.kind _ hfbo.1];exact hfbo.2.1)] at w10;have hl9:h.length<h9.length:=(List.getElem?_eq_some_iff.1 st9).1;have hn10:¬own bi G10 h.length:=λhg=>by
    rcases x10.own h.length hg with hg|hg
    ·exact hn9 hg
    ·omega
   have st10:h10[h.length]?=_:=(x10.old h.length hl9 hn9).trans st9;have l3c:hload h10 none (.ptr (some (h.length,3)))=some (.int .i64 (q:Int)):=At.load ⟨_,st10,rfl⟩;have rm10:=rm9.setA (same_tput (p:=fb.node) (x:=nw.node) (bf:=0));have hc10:IsEnts ({b3 with a:=(BS.moveKids b3.a nw.node (b3.a.nd fb.node).kids).tput fb.node nw.node 0}:BS).act c5:=by simp only;rw[hc3];exact i.hc
   have hqa:=i.rm.act;obtain⟨h11,c11,r14,w11,hc11,st11,x11⟩:=f117b w10 hc10 rm10 st10 hn10 (k:=q) (by simp only;rw[hc3];exact hq) ⟨by omega,by omega⟩ ⟨by omega,by omega⟩;simp only at w11 hc11;have l1:hload h11 none (.ptr (some (h.length,1)))=some (.str fe.c.name):=At.load ⟨_,st11,rfl⟩;have l2:hload h11 none (.ptr (some (h.length,2)))=some fe.v:=At.load ⟨_,st11,rfl⟩;have l4:hload h11 none (.ptr (some (h.length,4)))=some (.int .i64 (down q (s'.2.2:Int))):=At.load ⟨_,st11,rfl⟩;obtain⟨fs2,hfs2,hv2⟩:=hc11;have hac3:b3.act.length=s'.1.act.length:=by rw[hc3]
   have hfl3:fs2.length≤900000000:=by have h1:=congrArg List.length hfs2;rw[List.length_map,dropAt_len (by rw[hc3];exact hq)] at h1;omega
   have hatr:=hen.2.1;obtain⟨u1,e2,he2,r15,hu1⟩:=f123 (h:=h11) (id:=bi) (o:=3) (l:=fs2) ⟨c11,w11.atC,hv2⟩ (by omega) (e:=⟨{fe.c with node:=nw.node},fe.v,fe.ok⟩) (by unfold FOk;simp only;omega) (down q (s'.2.2:Int));have r15':Ret cx 133 [.ptr (some (bi,3)),.agg [.int .i64 nw.node,.str fe.c.name,fe.v],.int .i64 (down q (s'.2.2:Int))] h11 (.tuple []) (put h11 bi 3 u1):=r15;obtain⟨mk',hmk'⟩:∃mk':Nat,mk'=if q<s'.2.2 then s'.2.2 -1 else s'.2.2:=⟨_,rfl⟩
   have hdown:down q (s'.2.2:Int)=(mk':Int):=by rw[hmk'];unfold down;split<;>split<;>omega
   have w12:=w11.putC (u:=u1) (l:=(dropAt b3.act q).take (clampPos mk' (dropAt b3.act q).length)++{fe.c with node:=nw.node}::(dropAt b3.act q).drop (clampPos mk' (dropAt b3.act q).length));have hc12:IsEnts ((dropAt b3.act q).take (clampPos mk' (dropAt b3.act q).length)++{fe.c with node:=nw.node}::(dropAt b3.act q).drop (clampPos mk' (dropAt b3.act q).length)) u1:=by refine⟨_,?_,hu1⟩;rw[hdown,List.map_append,List.map_cons,List.map_take,List.map_drop,hfs2,he2,←hfs2,List.length_map]
   have hob:=i.rm.opn;obtain⟨u2,r16,hu2⟩:=f124 w12.sO (by simp only;rw[ho3];omega) fe.c.node;have w13:=w12.putO hu2;have hrl:(removed fe.c.node b3.opn).length≤s'.1.opn.length:=by rw[←ho3];exact removed_sub.length_le
   have st13:(put (put h11 bi 3 u1) bi 2 u2)[h.length]?=_:=(put_other hab).trans ((put_other hab).trans st11);have l9e:hload (put (put h11 bi 3 u1) bi 2 u2) none (.ptr (some (h.length,9)))=some (.int .i64 fb.node):=At.load ⟨_,st13,rfl⟩;have r17:=f116 w13.sA (by simp only;omega) fb.node;have hli: -1≤lastIdx (isNode fb.node) (removed fe.c.node b3.opn)∧lastIdx (isNode fb.node) (removed fe.c.node b3.opn)≤(removed fe.c.node b3.opn).length:=by rcases lastIdx_spec (q:=isNode fb.node) (l:=removed fe.c.node b3.opn) with⟨h,_⟩|⟨n,h1,h2,_⟩<;>omega
   have add:=pe_addI (a:=lastIdx (isNode fb.node) (removed fe.c.node b3.opn)) (b:=1) (by omega) (by omega);obtain⟨u3,r18,hu3⟩:=f125 w13.sO (by simp only;omega) nw (lastIdx (isNode fb.node) (removed fe.c.node b3.opn)+1);have w14:=w13.putO hu3;simp only[amS,Nat.reduceLeDiff,↓reduceIte,fillAt,bxS,itS,l9d,r13.call,l3c,r14.call,l1,l2,hv3,l4,r15'.call,r16.call,l9e,r17.call,add,r18.call];have hE:BS.roundE fe.c fb.node an.node s'={b3 with a:=(BS.moveKids b3.a nw.node (b3.a.nd fb.node).kids).tput fb.node nw.node 0,act:=(dropAt b3.act q).take (clampPos mk' (dropAt b3.act q).length)++{fe.c with node:=nw.node}::(dropAt b3.act q).drop (clampPos mk' (dropAt b3.act q).length),opn:=(removed fe.c.node b3.opn).take (insertPos (lastIdx (isNode fb.node) (removed fe.c.node b3.opn)+1) (removed fe.c.node b3.opn).length)++nw::(removed fe.c.node b3.opn).drop (insertPos (lastIdx (isNode fb.node) (removed fe.c.node b3.opn)+1) (removed fe.c.node b3.opn).length)}:=by
    have hq':entC fe.c.node b3.act=(q:Int):=by rw[hc3];exact hq1
    unfold BS.roundE;simp only
    rw[←hb2,←hb3,←hnw,hq',Int.toNat_natCast,←hmk']
   rw[hE];refine⟨_,rfl,rfl,u3,u1,G10,w14,hc12,ext_less (Nat.le_refl _) ?_⟩;exact((((x8'.trans (ext_own2 (x9.trans x10) h.length)).trans x11).trans (ext_own2 put_ext h.length)).trans (ext_own2 put_ext h.length)).trans (ext_own2 put_ext h.length)
 obtain⟨r,h',hr,rfl,o',c',G',w',hc',x'⟩:=hev.ret;rw[e];exact⟨h',o',c',G',hr,w',hc',x'⟩
end
end Go.Am
end
section
namespace Go.Am
open Go
set_option maxRecDepth 100000
section
variable {h h':AHeap} {bi a ai:Nat} {o c t:AVal} {G G' F:Nat→Prop} {b b':BS} {x:Int} {m:Nat}
variable {nm:Bytes} {av:AVal} {l:List Attr} {r:List AVal} {sp p:Int} {e:Fmt} {at_ mk last:Int} {anc far:Item}
theorem betw1_len {blk anc:Int} {far i:Nat} {l:Int} {mk:Nat}:(BS.betw1 blk anc far i b l mk).1.opn.length≤b.opn.length:=by
 have h1:(dropAt b.opn i).length≤b.opn.length:=dropAt_sub.length_le;unfold BS.betw1;simp only
 split
 ·exact h1
 ·split
  ·exact h1
  ·have hop:∀nm l p,(b.mkB nm l 1 p).opn=b.opn:=λnm l p=>by unfold BS.mkB;rw[if_pos hs1]
   simp only[hop,List.length_set];exact Nat.le_refl _
theorem betw_room {blk anc:Int} {far k m:Nat}:∀{c:Nat} {s:BS×Int×Nat},Room s.1 (m+4*c)→Room (BS.betw blk anc far k c s).1 m∧(BS.betw blk anc far k c s).1.opn.length≤s.1.opn.length
 |0,s,r=>⟨r.le (by omega),Nat.le_refl _⟩
 |c+1,s,r=>by have r1:=betw1_room (blk:=blk) (anc:=anc) (far:=far) (i:=k+(c+1)) (l:=s.2.1) (mk:=s.2.2) (m:=m+4*c) (r.le (by omega));have h:=betw_room (blk:=blk) (anc:=anc) (far:=far) (k:=k) (m:=m) (c:=c) (s:=BS.betw1 blk anc far (k+(c+1)) s.1 s.2.1 s.2.2) r1;exact⟨h.1,Nat.le_trans h.2 betw1_len⟩
theorem roundE_room {fe:FCor} {blk anc:Int} {s:BS×Int×Nat} (r:Room s.1 (m+4)) (hen:fe.name.length≤1000∧SmallA fe.attrs):Room (BS.roundE fe blk anc s) m∧(BS.roundE fe blk anc s).opn.length≤s.1.opn.length+1:=by
 unfold BS.roundE;simp only
 generalize hpb:s.1.place anc=pb;have r1:=r.setA (same_bput (x:=s.2.1) (p:=pb.1) (bf:=pb.2));generalize hb2:({s.1 with a:=s.1.a.bput s.2.1 pb.1 pb.2}:BS)=b2 at r1;have ho2:b2.opn=s.1.opn:=by rw[←hb2]
 have r3:=mk_room (m:=m+1) (nm:=fe.name) (l:=fe.attrs) (sp:=1) (p:=blk) (r1.le (by omega)) hen.2;have hop:(b2.mkB fe.name fe.attrs 1 blk).opn=b2.opn:=by unfold BS.mkB;rw[if_pos hs1]
 have hnw:(b2.mkI fe.name fe.attrs 1).name.length≤1000:=mkI_name hen.1;generalize b2.mkB fe.name fe.attrs 1 blk=b3 at*;generalize b2.mkI fe.name fe.attrs 1=n at*;have r4:=r3.setA ((same_moveKids (n:=n.node) (l:=(b3.a.nd blk).kids)).trans (same_tput (p:=blk) (x:=n.node) (bf:=0)));have ins:∀{α:Type} (l:List α) (k:Nat) (y:α),(l.take k++y::l.drop k).length=l.length+1∧∀z∈l.take k++y::l.drop k,z∈l∨z=y:=λl k y=>⟨by rw[List.length_append,List.length_cons,List.length_take,List.length_drop];omega,λz hz=>by
  rcases List.mem_append.1 hz with hz|hz
  ·exact .inl (List.mem_of_mem_take hz)
  ·rcases List.mem_cons.1 hz with rfl|hz
   ·exact .inr rfl
   ·exact .inl (List.mem_of_mem_drop hz)⟩
 have hr:=removed_sub (n:=fe.node) (l:=b3.opn);have hd:=dropAt_sub (l:=b3.act) (k:=(entC fe.node b3.act).toNat);have r5:=r4.le (m':=m) (by omega);refine⟨⟨r5.n,r5.at_,r5.data,?_,?_,r5.tm,λe he=>?_,λi hi=>?_⟩,?_⟩
 ·simp only[(ins _ _ _).1];have:=hr.length_le;have:=r3.opn;omega
 ·simp only[(ins _ _ _).1];have:=hd.length_le;have:=r3.act;omega
 ·rcases(ins _ _ _).2 e he with he|rfl
  ·exact r3.ents e (hd.subset he)
  ·exact hen
 ·rcases(ins _ _ _).2 i hi with hi|rfl
  ·exact r3.nms i (hr.subset hi)
  ·exact hnw
 ·simp only[(ins _ _ _).1];have h1:=hr.length_le;have h2:=congrArg List.length (hop.trans ho2);omega
theorem round_room (r:Room b (m+4*b.opn.length+10)) (nm:Bytes):Room (b.round nm).2 m∧(b.round nm).2.opn.length≤b.opn.length+1:=by
 have r0:Room b m:=r.le (by omega);unfold BS.round;simp only
 split
 ·have key:(b.anyEnd nm).a=b.a∧List.Sublist (b.anyEnd nm).opn b.opn∧(b.anyEnd nm).act=b.act∧(b.anyEnd nm).tm=b.tm:=by
   unfold BS.anyEnd;split
   ·split
    ·exact⟨rfl,popNode_sub.trans pops_sub,rfl,rfl⟩
    ·exact⟨rfl,List.Sublist.refl _,rfl,rfl⟩
   ·exact⟨rfl,List.Sublist.refl _,rfl,rfl⟩
  exact⟨r0.sub key.1 key.2.1 (by rw[key.2.2.1];exact List.Sublist.refl _) (by rw[key.2.2.2];exact Nat.le_refl _),Nat.le_trans key.2.1.length_le (Nat.le_succ _)⟩
 ·rename_i hf;obtain⟨f,hfl,ef⟩:=findC_lt (Int.not_lt.1 hf);have hgd:b.act.getD (findC nm b.act).toNat FCor.zero=b.act[f]:=by rw[ef,Int.toNat_natCast,List.getD_eq_getElem?_getD,List.getElem?_eq_getElem hfl];rfl
  have hen:=r.ents _ (List.getElem_mem hfl);rw[hgd];split
  ·exact⟨r0.sub rfl (List.Sublist.refl _) dropAt_sub (Nat.le_refl _),Nat.le_succ _⟩
  ·split
   ·exact⟨r0,Nat.le_succ _⟩
   ·split
    ·exact⟨r0.sub rfl popNode_sub dropAt_sub (Nat.le_refl _),Nat.le_trans popNode_sub.length_le (Nat.le_succ _)⟩
    ·rename_i hk _ hfa;have hlt:(furthest b.act[f].node b.opn).toNat-1 -(lastIdx (isNode b.act[f].node) b.opn).toNat≤b.opn.length:=by
      rw[furthest_eq];split
      ·omega
      ·unfold firstFrom;split
       ·rename_i j hj;have:=(List.findIdx?_eq_some_iff_findIdx_eq.1 hj).1;rw[List.length_drop] at this;omega
       ·omega
     have h1:=betw_room (blk:=(b.opn.getD (furthest b.act[f].node b.opn).toNat Item.zero).node) (anc:=(b.opn.getD ((lastIdx (isNode b.act[f].node) b.opn).toNat-1) Item.zero).node) (far:=(furthest b.act[f].node b.opn).toNat) (k:=(lastIdx (isNode b.act[f].node) b.opn).toNat) (m:=m+4) (c:=(furthest b.act[f].node b.opn).toNat-1 -(lastIdx (isNode b.act[f].node) b.opn).toNat) (s:=(b,(b.opn.getD (furthest b.act[f].node b.opn).toNat Item.zero).node,(findC nm b.act).toNat)) (r.le (by omega));have h2:=roundE_room (fe:=b.act[f]) (blk:=(b.opn.getD (furthest b.act[f].node b.opn).toNat Item.zero).node) (anc:=(b.opn.getD ((lastIdx (isNode b.act[f].node) b.opn).toNat-1) Item.zero).node) h1.1 hen;exact⟨h2.1,Nat.le_trans h2.2 (Nat.succ_le_succ h1.2)⟩
theorem rounds_room:∀{n:Nat} {b:BS} {k:Nat},b.opn.length≤k→Room b (m+n*(4*(k+n)+10))→Room (BS.rounds n b nm) m∧(BS.rounds n b nm).opn.length≤k+n
 |0,b,k,hk,r=>⟨r.le (by omega),hk⟩
 |n+1,b,k,hk,r=>by
  have e:(n+1)*(4*(k+(n+1))+10)=n*(4*(k+1+n)+10)+(4*(k+(n+1))+10):=by rw[Nat.add_mul,Nat.one_mul,show k+(n+1)=k+1+n by omega]
  rw[e] at r;have h1:=round_room (m:=m+n*(4*(k+1+n)+10)) (r.le (by omega)) nm;unfold BS.rounds;simp only
  split
  ·have h2:=rounds_room (n:=n) (k:=k+1) (by omega) h1.1;exact⟨h2.1,by omega⟩
  ·exact⟨h1.1.le (by omega),by omega⟩
theorem f15b (w:BX h bi a o c t G b) (hc:IsEnts b.act c) (ok:BOk b) (rm:Room b (m+8*(4*(b.opn.length+8)+10))) (nm:Bytes):
  ∃h' o' c' G',Ret cx 28 [.ptr (some (bi,0)),.str nm] h (.tuple []) h'∧BX h' bi a o' c' t G' (b.agency nm)∧IsEnts (b.agency nm).act c'∧Ext h (own bi G) h' (own bi G'):=by
 have ho:=rm.opn;have r1:=f14b w rm;have em:peval (.mksl 1) [.str nm]=some (.sl 1 ([nm].map strRow)):=mk_strs (ws:=[nm]) rfl (by simp);have r2:Ret cx 72 [.agg (topOf b.opn).row,.sl 1 ([nm].map strRow)] h (.bool (isOne [nm] (topOf b.opn))) h:=f40b (ws:=[nm]) isStrs_of (by simp) _ h;have r3:=hc.at w rm (topOf b.opn).node;have hpa:b.pop.act=b.act:=by unfold BS.pop;split<;>rfl
 by_cases h1:isOne [nm] (topOf b.opn)=true∧entC (topOf b.opn).node b.act<0
 ·obtain⟨h2,o2,r4,w2,x2⟩:=f42b w rm;have e:b.agency nm=b.pop:=by unfold BS.agency;rw[if_pos h1]
  rw[e];refine⟨h2,o2,c,G,?_,w2,by rw[hpa];exact hc,x2⟩;rw[h1.1] at r2;rw[ret_iff,t28_eq,t28];simp only[amS,bxS,itS,(f31b w).call,r1.call,em,r2.call,r3.call,h1.2,r4.call]
 have e:b.agency nm=BS.rounds 8 b nm:=by unfold BS.agency;rw[if_neg h1]
 rw[e];have hev:Ev cx 28 [.ptr (some (bi,0)),.str nm] h λr h'=>r= .tuple []∧∃o' c' G',BX h' bi a o' c' t G' (BS.rounds 8 b nm)∧IsEnts (BS.rounds 8 b nm).act c'∧Ext h (own bi G) h' (own bi G'):=by
  unfold Ev;rw[t28_eq,t28];have fin:∀(Q:Post) (k:AExit→List AVal→IT),(∀x vs h1,(x= .exit 0∨x= .ret)→(∃o' c' G',BX h1 bi a o' c' t G' (BS.rounds 8 b nm)∧IsEnts (BS.rounds 8 b nm).act c'∧Ext h (own bi G) h1 (own bi G'))→W cx (k x vs) Q h1)→
    W cx (.loop 5 [(I 0)] (λc13=> .op (.int .lss) [(g c13 0),(I 8)] λv14=> .cnd v14 (.call 75 [.ptr (some (bi,0)),.str nm] λv15=> .op (.un .not) [v15] λv16=> .cnd v16 (.ret .ret [(g c13 0)]) (.op (.int .add) [(g c13 0),(I 1)] λv17=> .ret .normal [v17])) (.ret (.exit 0) [(g c13 0)])) k) Q h:=by
   intro Q k hk;refine W_loop_st (λn:Nat=>[.int .i64 ((8 -n:Nat):Int)]) (λn h1=>n≤8∧∃o1 c1 G1 b1,BX h1 bi a o1 c1 t G1 b1∧IsEnts b1.act c1∧BOk b1∧Room b1 (m+n*(4*(b.opn.length+8)+10))∧b1.opn.length≤b.opn.length+(8 -n)∧BS.rounds 8 b nm=BS.rounds n b1 nm∧Ext h (own bi G) h1 (own bi G1)) (λn=>n) 8 rfl ⟨Nat.le_refl _,o,c,G,b,w,hc,ok,rm,by omega,rfl,.refl⟩ ?_;rintro n h1 ⟨hn,o1,c1,G1,b1,w1,hc1,ok1,rm1,hl1,e1,x1⟩
   cases n with
   |zero=>simp only[amS,bxS,show¬((8 -0:Nat):Int)<8 by decide];exact hk _ _ _ (.inl rfl) ⟨o1,c1,G1,by rw[e1];exact w1,by rw[e1];exact hc1,x1⟩
   |succ n=>
    have hsp:(n+1)*(4*(b.opn.length+8)+10)=n*(4*(b.opn.length+8)+10)+(4*(b.opn.length+8)+10):=by rw[Nat.add_mul,Nat.one_mul]
    rw[hsp] at rm1;have rm1':Room b1 (m+n*(4*(b.opn.length+8)+10)+4*b1.opn.length+10):=rm1.le (by omega);obtain⟨h2,o2,c2,G2,r5,w2,hc2,x2⟩:=f43b w1 hc1 ok1 rm1' nm;obtain⟨rm2,hl2⟩:=round_room rm1' nm;have ok2:=(round_ok (nm:=nm) ok1).1;have hlt:((8 -(n+1):Nat):Int)<8:=by omega
    have inc:peval (.int .add) [.int .i64 ((8 -(n+1):Nat):Int),I 1]=some (.int .i64 ((8 -n:Nat):Int)):=by
     have:=pe_inc (n:=8 -(n+1)) (by omega)
     rwa [show 8 -(n+1)+1=8 -n by omega] at this
    have er:BS.rounds (n+1) b1 nm=if(b1.round nm).1 then BS.rounds n (b1.round nm).2 nm else(b1.round nm).2:=rfl
    cases hr:(b1.round nm).1 with
    |true=>rw[hr] at r5 er;simp only[amS,bxS,hlt,r5.call,inc];exact LoopPost.next n rfl ⟨by omega,o2,c2,G2,_,w2,hc2,ok2,rm2,by omega,e1.trans er,x1.trans x2⟩ (by omega)
    |false=>rw[hr] at r5 er;simp only[amS,bxS,hlt,r5.call];exact hk _ _ _ (.inr rfl) ⟨o2,c2,G2,by rw[e1,er];exact w2,by rw[e1,er];exact hc2,x1.trans x2⟩
  by_cases h2:isOne [nm] (topOf b.opn)=true
  ·have h3:¬entC (topOf b.opn).node b.act<0:=λh=>h1 ⟨h2,h⟩;rw[h2] at r2;simp only[amS,bxS,itS,(f31b w).call,r1.call,em,r2.call,r3.call,h3];refine fin _ _ ?_;rintro x vs h1 (rfl|rfl) ⟨o',c',G',a1,a2,a3⟩
   ·simp only[amS];exact⟨_,rfl,rfl,o',c',G',a1,a2,a3⟩
   ·simp only[amS];exact⟨_,rfl,rfl,o',c',G',a1,a2,a3⟩
  ·have h2:isOne [nm] (topOf b.opn)=false:=by simpa using h2
   rw[h2] at r2;simp only[amS,bxS,itS,(f31b w).call,r1.call,em,r2.call];refine fin _ _ ?_;rintro x vs h1 (rfl|rfl) ⟨o',c',G',a1,a2,a3⟩
   ·simp only[amS];exact⟨_,rfl,rfl,o',c',G',a1,a2,a3⟩
   ·simp only[amS];exact⟨_,rfl,rfl,o',c',G',a1,a2,a3⟩
 obtain⟨r,h',hr,rfl,o',c',G',w',hc',x'⟩:=hev.ret;exact⟨h',o',c',G',hr,w',hc',x'⟩
end
end Go.Am
end
section
namespace Go.Am
open Go
set_option maxRecDepth 100000
structure BOp where
 k:Int
 name:Bytes
 attrs:List Attr
 space:Int
 a:Int
 b:Bool
 s:Bytes
 r:Int
 n:Int
def nodeItem (h:Int):Item:=⟨h,0,[],false⟩
noncomputable def doB (b:BS) (q:BOp):BS×Item:=
 if q.k=1 then(b.insB q.name q.attrs 1,nodeItem (b.a.len+1))
 else if q.k=2 then(b.insB q.name q.attrs q.space,nodeItem (b.insH q.space))
 else if q.k=3 then(b.format q.name q.attrs,nodeItem (b.a.len+1))
 else if q.k=4 then(b.char q.r,Item.zero)
 else if q.k=5 then(b.comment q.s q.a,Item.zero)
 else if q.k=6 then(b.rawText q.name q.attrs q.n,Item.zero)
 else if q.k=7 then(b.closeP,Item.zero)
 else if q.k=8 then(b.rebuild,Item.zero)
 else if q.k=9 then(b.anyEnd q.name,Item.zero)
 else if q.k=10 then(b.agency q.name,Item.zero)
 else if q.k=11 then(b.reset,Item.zero)
 else if q.k=12 then(b.merge q.attrs q.a,Item.zero)
 else if q.k=13 then(b.endTemplate,Item.zero)
 else if q.k=14 then({b with stop:=true},Item.zero)
 else if q.k=15 then({b with foster:=q.b},Item.zero)
 else if q.k=16 then({b with tm:=b.tm++[q.n]},Item.zero)
 else if q.k=17 then({b with act:=b.act++[FCor.zero]},Item.zero)
 else if q.k=18 then(b.pop,b.popI)
 else if q.k=19 then({b with head:=q.a},Item.zero)
 else if q.k=20 then({b with mode:=q.n},Item.zero)
 else if q.k=21 then({b with act:=clearC b.act},Item.zero)
 else if q.k=22 then({b with opn:=pops never (isOne [q.name]) b.opn},Item.zero)
 else if q.k=23 then({b with form:=q.a},Item.zero)
 else if q.k=24 then(b.mkB q.name q.attrs q.space q.a,b.mkI q.name q.attrs q.space)
 else(b,Item.zero)
structure QOk (q:BOp):Prop where
 name:q.name.length≤1000
 attrs:SmallA q.attrs
 s:q.s.length≤1000
 r: -2147483648≤q.r∧q.r≤2147483647
section
variable {b:BS} {q:BOp} {m j:Nat}
theorem mkB_ok (o:BOk b) {nm:Bytes} {l:List Attr} {sp p:Int}:BOk (b.mkB nm l sp p):=by
 by_cases hs:BS.okSp sp
 ·exact(mk_ok o hs).1
 ·unfold BS.mkB;rw[if_neg hs];exact o
theorem mark_ok (o:BOk b):BOk {b with act:=b.act++[FCor.zero]}:=by have:=o.insC (e:=FCor.zero) (k:=b.act.length) (.inl rfl) (.inl rfl);rw[List.take_length,List.drop_length] at this;exact this
theorem doB_ok (o:BOk b):BOk (doB b q).1:=by
 unfold doB;by_cases k1:q.k=1
 ·rw[if_pos k1];dsimp only;exact ins_ok o
 rw[if_neg k1];by_cases k2:q.k=2
 ·rw[if_pos k2];dsimp only;exact ins_ok o
 rw[if_neg k2];by_cases k3:q.k=3
 ·rw[if_pos k3];dsimp only;exact format_ok o
 rw[if_neg k3];by_cases k4:q.k=4
 ·rw[if_pos k4];dsimp only;exact char_ok o
 rw[if_neg k4];by_cases k5:q.k=5
 ·rw[if_pos k5];dsimp only;exact comment_ok o
 rw[if_neg k5];by_cases k6:q.k=6
 ·rw[if_pos k6];dsimp only;exact rawText_ok o
 rw[if_neg k6];by_cases k7:q.k=7
 ·rw[if_pos k7];dsimp only;exact closeP_ok o
 rw[if_neg k7];by_cases k8:q.k=8
 ·rw[if_pos k8];dsimp only;exact rebuild_ok o
 rw[if_neg k8];by_cases k9:q.k=9
 ·rw[if_pos k9];dsimp only;exact anyEnd_ok o
 rw[if_neg k9];by_cases k10:q.k=10
 ·rw[if_pos k10];dsimp only;exact agency_ok o
 rw[if_neg k10];by_cases k11:q.k=11
 ·rw[if_pos k11];dsimp only;exact reset_ok o
 rw[if_neg k11];by_cases k12:q.k=12
 ·rw[if_pos k12];dsimp only;exact merge_ok o
 rw[if_neg k12];by_cases k13:q.k=13
 ·rw[if_pos k13];dsimp only;exact endTemplate_ok o
 rw[if_neg k13];by_cases k14:q.k=14
 ·rw[if_pos k14];dsimp only;exact o.of_eq rfl rfl rfl rfl
 rw[if_neg k14];by_cases k15:q.k=15
 ·rw[if_pos k15];dsimp only;exact o.of_eq rfl rfl rfl rfl
 rw[if_neg k15];by_cases k16:q.k=16
 ·rw[if_pos k16];dsimp only;exact o.of_eq rfl rfl rfl rfl
 rw[if_neg k16];by_cases k17:q.k=17
 ·rw[if_pos k17];dsimp only;exact mark_ok o
 rw[if_neg k17];by_cases k18:q.k=18
 ·rw[if_pos k18];dsimp only;exact pop_ok o
 rw[if_neg k18];by_cases k19:q.k=19
 ·rw[if_pos k19];dsimp only;exact o.of_eq rfl rfl rfl rfl
 rw[if_neg k19];by_cases k20:q.k=20
 ·rw[if_pos k20];dsimp only;exact o.of_eq rfl rfl rfl rfl
 rw[if_neg k20];by_cases k21:q.k=21
 ·rw[if_pos k21];dsimp only;exact o.subC (List.take_sublist _ _)
 rw[if_neg k21];by_cases k22:q.k=22
 ·rw[if_pos k22];dsimp only;exact o.subO pops_sub
 rw[if_neg k22];by_cases k23:q.k=23
 ·rw[if_pos k23];dsimp only;exact o.of_eq rfl rfl rfl rfl
 rw[if_neg k23];by_cases k24:q.k=24
 ·rw[if_pos k24];dsimp only;exact mkB_ok o
 rw[if_neg k24];exact o
theorem Room.setNode {k m:Nat} {h:Int} {x:ANode} (r:Room b (m+k)) (h1:x.attrs.length≤(b.a.nd h).attrs.length+k∨x.attrs.length≤1000) (h2:x.data.length≤(b.a.nd h).data.length+k∨x.data.length≤100000):Room {b with a:=b.a.set h x} m:=by
 have hn:(b.a.set h x).n.length=b.a.n.length:=by have:=len_set (A:=b.a) (h:=h) (x:=x);unfold Ar.len at this;omega
 have r0:=r.le (m':=m) (by omega);have rn:=r.n;refine⟨by simp only;rw[hn];exact r0.n,λy=>?_,λy=>?_,r0.opn,r0.act,r0.tm,r0.ents,r0.nms⟩
 ·simp only;rw[nd_set];split
  ·rename_i hh;have:=r.at_ h;omega
  ·exact r0.at_ y
 ·simp only;rw[nd_set];split
  ·have:=r.data h;omega
  ·exact r0.data y
theorem charAt_room {m:Nat} {s:Bytes} {p bf:Int} (r:Room b (m+5)) (hs:s.length≤4):Room {b with a:=BS.charAt b.a s p bf} m:=by
 have hadd:∀d,Room {b with a:=(b.a.add {kind:=5,doc:=d,data:=s}).bput (b.a.len+1) p bf} m:=λd=>((r.le (m':=m+1) (by omega)).grow (grow_add (Nat.zero_le _) (by simp only;omega))).setA same_bput
 have r0:=r.le (m':=m) (by omega);unfold BS.charAt;split
 ·split
  ·split
   ·exact Room.setNode (k:=5) r (.inl (by simp only;omega)) (.inl (by simp only[List.length_append];omega))
   ·exact hadd _
  ·exact hadd _
 ·exact r0
theorem commentAt_room {m:Nat} {s:Bytes} {p bf:Int} (r:Room b (m+5)) (hs:s.length≤100000):Room {b with a:=BS.commentAt b.a s p bf} m:=by
 unfold BS.commentAt;split
 ·exact((r.le (m':=m+1) (by omega)).grow (grow_add (Nat.zero_le _) hs)).setA same_bput
 ·exact r.le (by omega)
end
end Go.Am
end
section
namespace Go.Am
open Go
set_option maxRecDepth 100000
section
variable {b:BS} {q:BOp} {m j:Nat} {nm:Bytes}
theorem merge_room {l:List Attr} {x:Int} (r:Room b (m+1000)) (hl:l.length≤1000):Room (b.merge l x) m:=by
 unfold BS.merge;split
 ·refine Room.setNode (k:=1000) r (.inl ?_) (.inl (by simp only;omega));have:=once_le (l:=(b.a.nd x).attrs++BS.plain l);rw[List.length_append,BS.plain,List.length_map] at this;unfold BS.plain;simp only;omega
 ·exact r.le (by omega)
theorem rebF_more:∀{l:List FCor} {b:BS},(BS.rebF l b).2.opn.length≤b.opn.length+l.length∧(BS.rebF l b).2.act=b.act∧(BS.rebF l b).1.length=l.length∧∀e∈(BS.rebF l b).1,∃e'∈l,e.name=e'.name∧e.attrs=e'.attrs
 |[],b=>⟨by simp[BS.rebF],rfl,rfl,λe he=>by simp[BS.rebF] at he⟩
 |e::l,b=>by
  obtain⟨h1,h2,h3,h4⟩:=rebF_more (l:=l) (b:=b.insB e.name e.attrs 1);have h5:(b.insB e.name e.attrs 1).opn.length≤b.opn.length+1:=by
   unfold BS.insB;rw[if_pos hs1];simp only
   have:(b.mkB e.name e.attrs 1 (b.place 0).1).opn=b.opn:=by unfold BS.mkB;rw[if_pos hs1]
   rw[List.length_append,List.length_singleton]
   first|(rw[this];exact Nat.le_refl _)|exact Nat.le_refl _
  rw[BS.rebF];refine⟨by simp only[List.length_cons];omega,by simp only;rw[h2,act_insB],by simp only[List.length_cons,h3],λe1 he=>?_⟩;rcases List.mem_cons.1 he with rfl|he
  ·exact⟨e,by simp,rfl,rfl⟩
  ·obtain⟨e',h6,h7⟩:=h4 e1 he;exact⟨e',by simp[h6],h7⟩
theorem rebuild_room (r:Room b (m+4*b.act.length)):Room b.rebuild m∧b.rebuild.opn.length≤b.opn.length+b.act.length∧b.rebuild.act.length=b.act.length:=by
 have hk:=rebK_le (b:=b);have r1:=rebF_room (l:=b.act.drop b.rebK) (b:=b) (m:=m) (r.le (by rw[List.length_drop];omega)) λe he=>r.ents e (List.mem_of_mem_drop he);obtain⟨h1,h2,h3,h4⟩:=rebF_more (l:=b.act.drop b.rebK) (b:=b);rw[List.length_drop] at h1 h3;have hl:b.rebuild.act.length=b.act.length:=by unfold BS.rebuild;simp only[List.length_append,List.length_take,h3];omega
 refine⟨⟨r1.n,r1.at_,r1.data,r1.opn,?_,r1.tm,λe he=>?_,r1.nms⟩,by unfold BS.rebuild;simp only;omega,hl⟩
 ·rw[hl];have:=r.act;omega
 ·unfold BS.rebuild at he;simp only at he;rcases List.mem_append.1 he with he|he
  ·exact r.ents e (List.mem_of_mem_take he)
  ·obtain⟨e',h5,h6,h7⟩:=h4 e he;rw[h6,h7];exact r.ents e' (List.mem_of_mem_drop h5)
theorem betw_act {blk anc:Int} {far k:Nat}:∀{c:Nat} {s:BS×Int×Nat},(BS.betw blk anc far k c s).1.act.length≤s.1.act.length
 |0,s=>Nat.le_refl _
 |c+1,s=>by
  refine Nat.le_trans (betw_act (c:=c)) ?_;unfold BS.betw1;simp only
  split
  ·exact Nat.le_refl _
  ·split
   ·exact dropAt_sub.length_le
   ·have:∀nm l p,(s.1.mkB nm l 1 p).act=s.1.act:=λnm l p=>by unfold BS.mkB;rw[if_pos hs1]
    simp only[this,List.length_set];exact Nat.le_refl _
theorem round_act:(b.round nm).2.act.length≤b.act.length+1:=by
 unfold BS.round;simp only
 split
 ·have:(b.anyEnd nm).act=b.act:=by
   unfold BS.anyEnd;split
   ·split<;>rfl
   ·rfl
  rw[this];omega
 ·split
  ·exact Nat.le_trans dropAt_sub.length_le (Nat.le_succ _)
  ·split
   ·exact Nat.le_succ _
   ·split
    ·exact Nat.le_trans dropAt_sub.length_le (Nat.le_succ _)
    ·unfold BS.roundE;simp only
     generalize hs:BS.betw _ _ _ _ _ _=s;have h1:s.1.act.length≤b.act.length:=by rw[←hs];exact betw_act
     have:∀(b2:BS) nm l p,(b2.mkB nm l 1 p).act=b2.act:=λb2 nm l p=>by unfold BS.mkB;rw[if_pos hs1]
     simp only[this,List.length_append,List.length_cons,List.length_take,List.length_drop];have h2:∀k,(dropAt s.1.act k).length≤s.1.act.length:=λk=>dropAt_sub.length_le;refine Nat.le_trans (m:=(dropAt s.1.act (entC (b.act.getD (findC nm b.act).toNat FCor.zero).node s.1.act).toNat).length+1) ?_ (Nat.succ_le_succ (Nat.le_trans (h2 _) h1));omega
theorem rounds_act:∀{n:Nat} {b:BS},(BS.rounds n b nm).act.length≤b.act.length+n
 |0,b=>Nat.le_refl _
 |n+1,b=>by
  have h:=round_act (b:=b) (nm:=nm);unfold BS.rounds;simp only
  split
  ·have:=rounds_act (n:=n) (b:=(b.round nm).2);omega
  ·omega
structure Sz (b:BS) (j:Nat):Prop where
 rm:Room b (5000000*j)
 opn:b.opn.length+1200*j≤125000
 act:b.act.length+10*j≤1100
theorem Sz.of {b':BS} (h:Sz b (j+1)) (r:Room b' (5000000*j)) (h1:b'.opn.length≤b.opn.length+1200) (h2:b'.act.length≤b.act.length+10):Sz b' j:=⟨r,by have:=h.opn;omega,by have:=h.act;omega⟩
theorem Sz.big {k:Nat} (h:Sz b (j+1)) (hk:k≤5000000:=by omega):Room b (5000000*j+k):=h.rm.le (by omega)
theorem Sz.sub' {b':BS} (h:Sz b (j+1)) (ha:b'.a=b.a) (ho:b'.opn.Sublist b.opn) (hc:b'.act.Sublist b.act) (ht:b'.tm.length≤b.tm.length):Sz b' j:=
 h.of ((h.rm.le (by omega)).sub ha ho hc ht) (by have:=ho.length_le;omega) (by have:=hc.length_le;omega)
theorem Sz.pop (h:Sz b (j+1)):Sz b.pop j:=by
 unfold BS.pop;split
 ·exact h.sub' rfl (List.Sublist.refl _) (List.Sublist.refl _) (Nat.le_refl _)
 ·exact h.sub' rfl (List.take_sublist _ _) (List.Sublist.refl _) (Nat.le_refl _)
theorem insB_opn {l:List Attr} {sp:Int}:(b.insB nm l sp).opn.length≤b.opn.length+1200:=by
 unfold BS.insB;split
 ·rename_i hs;have:(b.mkB nm l sp (b.place 0).1).opn=b.opn:=by unfold BS.mkB;rw[if_pos hs]
  have:=congrArg List.length this;simp only[List.length_append,List.length_singleton];omega
 ·omega
theorem format_act {l:List Attr}:(b.format nm l).act.length≤b.act.length+10:=by
 unfold BS.format;simp only
 obtain⟨l',h1,h2⟩:=pushC_ok (l:=(b.insB nm l 1).act) (e:=⟨b.a.len+1,nm,l⟩);rw[h2,List.length_append,List.length_singleton];have:=h1.length_le;rw[act_insB] at this;omega
theorem doB_sz (h:Sz b (j+1)) (hq:QOk q):Sz (doB b q).1 j:=by
 unfold doB;by_cases k1:q.k=1
 ·rw[if_pos k1];dsimp only;exact h.of (ins_room h.big hq.attrs hq.name) insB_opn (by rw[act_insB];omega)
 rw[if_neg k1];by_cases k2:q.k=2
 ·rw[if_pos k2];dsimp only;exact h.of (ins_room h.big hq.attrs hq.name) insB_opn (by rw[act_insB];omega)
 rw[if_neg k2];by_cases k3:q.k=3
 ·rw[if_pos k3];dsimp only;exact h.of (format_room h.big hq.attrs hq.name) insB_opn format_act
 rw[if_neg k3];by_cases k4:q.k=4
 ·rw[if_pos k4];dsimp only;exact h.of (charAt_room h.big (utf8_len _)) (Nat.le_add_right _ _) (Nat.le_add_right _ _)
 rw[if_neg k4];by_cases k5:q.k=5
 ·rw[if_pos k5];dsimp only;unfold BS.comment;split
  ·exact h.of (commentAt_room h.big (by have:=hq.s;omega)) (Nat.le_add_right _ _) (Nat.le_add_right _ _)
  ·exact h.of (commentAt_room h.big (by have:=hq.s;omega)) (Nat.le_add_right _ _) (Nat.le_add_right _ _)
 rw[if_neg k5];by_cases k6:q.k=6
 ·rw[if_pos k6];dsimp only;exact h.of ((ins_room h.big hq.attrs hq.name).eq rfl rfl rfl rfl) insB_opn (by show(b.insB q.name q.attrs 1).act.length≤_;rw[act_insB];omega)
 rw[if_neg k6];by_cases k7:q.k=7
 ·rw[if_pos k7];dsimp only;unfold BS.closeP;split
  ·exact h.sub' rfl (pops_sub.trans pops_sub) (List.Sublist.refl _) (Nat.le_refl _)
  ·exact h.sub' rfl (List.Sublist.refl _) (List.Sublist.refl _) (Nat.le_refl _)
 rw[if_neg k7];by_cases k8:q.k=8
 ·rw[if_pos k8];dsimp only;have h1:=rebuild_room (m:=5000000*j) (h.rm.le (by have:=h.act;omega));exact h.of h1.1 (by have:=h.act;have:=h1.2.1;omega) (by rw[h1.2.2];omega)
 rw[if_neg k8];by_cases k9:q.k=9
 ·rw[if_pos k9];dsimp only;unfold BS.anyEnd;split
  ·split
   ·exact h.sub' rfl (popNode_sub.trans pops_sub) (List.Sublist.refl _) (Nat.le_refl _)
   ·exact h.sub' rfl (List.Sublist.refl _) (List.Sublist.refl _) (Nat.le_refl _)
  ·exact h.sub' rfl (List.Sublist.refl _) (List.Sublist.refl _) (Nat.le_refl _)
 rw[if_neg k9];by_cases k10:q.k=10
 ·rw[if_pos k10];dsimp only;unfold BS.agency;split
  ·exact h.pop
  ·have h1:=rounds_room (n:=8) (b:=b) (k:=b.opn.length) (nm:=q.name) (m:=5000000*j) (Nat.le_refl _) (h.rm.le (by have:=h.opn;omega));exact h.of h1.1 (by have:=h1.2;omega) (by have:=rounds_act (n:=8) (b:=b) (nm:=q.name);omega)
 rw[if_neg k10];by_cases k11:q.k=11
 ·rw[if_pos k11];dsimp only;exact h.sub' rfl (List.Sublist.refl _) (List.Sublist.refl _) (Nat.le_refl _)
 rw[if_neg k11];by_cases k12:q.k=12
 ·rw[if_pos k12];dsimp only;have e:(b.merge q.attrs q.a).opn=b.opn∧(b.merge q.attrs q.a).act=b.act:=by unfold BS.merge;split<;>exact⟨rfl,rfl⟩
  exact h.of (merge_room (m:=5000000*j) (h.rm.le (by omega)) hq.attrs.1) (by rw[e.1];omega) (by rw[e.2];omega)
 rw[if_neg k12];by_cases k13:q.k=13
 ·rw[if_pos k13];dsimp only;unfold BS.endTemplate;split
  ·exact h.sub' rfl (List.Sublist.refl _) (List.Sublist.refl _) (Nat.le_refl _)
  ·exact h.sub' rfl (show(pops never (isOne [wTemplate]) (pops unthorough never b.opn)).Sublist b.opn from pops_sub.trans pops_sub) (List.take_sublist _ _) (show b.tm.dropLast.length≤b.tm.length by simp)
 rw[if_neg k13];by_cases k14:q.k=14
 ·rw[if_pos k14];dsimp only;exact h.sub' rfl (List.Sublist.refl _) (List.Sublist.refl _) (Nat.le_refl _)
 rw[if_neg k14];by_cases k15:q.k=15
 ·rw[if_pos k15];dsimp only;exact h.sub' rfl (List.Sublist.refl _) (List.Sublist.refl _) (Nat.le_refl _)
 rw[if_neg k15];by_cases k16:q.k=16
 ·rw[if_pos k16];dsimp only;have r:=h.rm.le (m':=5000000*j+1) (by omega);have r0:=r.le (m':=5000000*j) (by omega);exact h.of ⟨r0.n,r0.at_,r0.data,r0.opn,r0.act,by have:=r.tm;simp only[List.length_append,List.length_singleton];omega,r0.ents,r0.nms⟩ (Nat.le_add_right _ _) (Nat.le_add_right _ _)
 rw[if_neg k16];by_cases k17:q.k=17
 ·rw[if_pos k17];dsimp only;refine h.of ((h.rm.le (m':=5000000*j+1) (by omega)).consC (e:=FCor.zero) (by simp) (λe he=>?_) ⟨by decide,by decide,λa ha=>by cases ha⟩) (Nat.le_add_right _ _) (by simp);rcases List.mem_append.1 he with he|he
  ·exact .inl he
  ·exact .inr (by simpa using he)
 rw[if_neg k17];by_cases k18:q.k=18
 ·rw[if_pos k18];dsimp only;exact h.pop
 rw[if_neg k18];by_cases k19:q.k=19
 ·rw[if_pos k19];dsimp only;exact h.sub' rfl (List.Sublist.refl _) (List.Sublist.refl _) (Nat.le_refl _)
 rw[if_neg k19];by_cases k20:q.k=20
 ·rw[if_pos k20];dsimp only;exact h.sub' rfl (List.Sublist.refl _) (List.Sublist.refl _) (Nat.le_refl _)
 rw[if_neg k20];by_cases k21:q.k=21
 ·rw[if_pos k21];dsimp only;exact h.sub' rfl (List.Sublist.refl _) (List.take_sublist _ _) (Nat.le_refl _)
 rw[if_neg k21];by_cases k22:q.k=22
 ·rw[if_pos k22];dsimp only;exact h.sub' rfl pops_sub (List.Sublist.refl _) (Nat.le_refl _)
 rw[if_neg k22];by_cases k23:q.k=23
 ·rw[if_pos k23];dsimp only;exact h.sub' rfl (List.Sublist.refl _) (List.Sublist.refl _) (Nat.le_refl _)
 rw[if_neg k23];by_cases k24:q.k=24
 ·rw[if_pos k24];dsimp only;have e:(b.mkB q.name q.attrs q.space q.a).opn=b.opn∧(b.mkB q.name q.attrs q.space q.a).act=b.act:=by unfold BS.mkB;split<;>exact⟨rfl,rfl⟩
  exact h.of (mk_room (m:=5000000*j) (h.rm.le (by omega)) hq.attrs) (by rw[e.1];omega) (by rw[e.2];omega)
 rw[if_neg k24];dsimp only;exact h.sub' rfl (List.Sublist.refl _) (List.Sublist.refl _) (Nat.le_refl _)
end
end Go.Am
end
section
namespace Go.Am
open Go
set_option maxRecDepth 100000
def qrow (q:BOp) (av:AVal):List AVal:=[.int .i64 q.k,.str q.name,av,.int .i64 q.space,.int .i64 q.a,.bool q.b,.str q.s,.int .i32 q.r,.int .i64 q.n]
section
variable {h h':AHeap} {bi a:Nat} {o c t:AVal} {G G' F:Nat→Prop} {b:BS} {x:Int} {m j:Nat} {q:BOp}
variable {nm:Bytes} {av:AVal} {l:List Attr} {r:List AVal} {sp p:Int}
theorem f53b (hv:IsAttrs q.attrs av) (hl:q.attrs.length≤1000) (h:AHeap):∃r av',Ret cx 35 [.agg (qrow q av)] h (.agg r) h∧TokR q.name av' r∧IsAttrs q.attrs av':=by have hmx:maxBytes=140737488355328:=rfl;obtain⟨u,e,hu⟩:=IsSl.appNil (b:=40) hv (by omega);have hc:u.cells=[u]:=IsSl.cells hu;refine⟨_,u,?_,⟨I 2,ff,S [],ff,S [],ff,ff,ff,S [],.int .i32 0,rfl⟩,hu⟩;rw[ret_iff,t35_eq,t35,qrow];simp only[amS,Nat.reduceLeDiff,↓reduceIte,fillAt,bxS,e,hc]
theorem f64b (i:Item) (h:AHeap):Ret cx 96 [.agg i.row] h (.agg i.row) h:=by rw[ret_iff,t96_eq,t96,Item.row];simp only[amS,Nat.reduceLeDiff,↓reduceIte,fillAt,bxS]
set_option maxHeartbeats 4000000 in
theorem f20b (w:BX h bi a o c t G b) (hc:IsEnts b.act c) (ok:BOk b) (sz:Sz b (j+1)) (hq:QOk q) (hv:IsAttrs q.attrs av):
  ∃h' o' c' t' G',Ret cx 43 [.ptr (some (bi,0)),.agg (qrow q av)] h (.agg (doB b q).2.row) h'∧BX h' bi a o' c' t' G' (doB b q).1∧IsEnts (doB b q).1.act c'∧Ext h (own bi G) h' (own bi G'):=by
 unfold doB qrow;by_cases k1:q.k=1
 ·rw[if_pos k1];dsimp only;obtain⟨r,av',r1,hr,hv'⟩:=f53b (q:=q) hv hq.attrs.1 h;rw[qrow] at r1;obtain⟨h',o',G',r2,w',x'⟩:=f11b (m:=5000000*j) w ok sz.big hr hv' hq.attrs hq.name;refine⟨h',o',c,t,G',?_,w',by rw[act_insB];exact hc,x'⟩;rw[ret_iff,t43_eq,t43];simp only[amS,Nat.reduceLeDiff,↓reduceIte,fillAt,bxS,eq_true k1,r1.call,r2.call]
  try rfl
 rw[if_neg k1];by_cases k2:q.k=2
 ·rw[if_pos k2];dsimp only;obtain⟨r,av',r1,hr,hv'⟩:=f53b (q:=q) hv hq.attrs.1 h;rw[qrow] at r1;obtain⟨h',o',G',r2,w',x'⟩:=f29b (m:=5000000*j) w ok sz.big hr hv' hq.attrs hq.name q.space;refine⟨h',o',c,t,G',?_,w',by rw[act_insB];exact hc,x'⟩;rw[ret_iff,t43_eq,t43];simp only[amS,Nat.reduceLeDiff,↓reduceIte,fillAt,bxS,k1,eq_true k2,r1.call,r2.call]
  try rfl
 rw[if_neg k2];by_cases k3:q.k=3
 ·rw[if_pos k3];dsimp only;obtain⟨r,av',r1,hr,hv'⟩:=f53b (q:=q) hv hq.attrs.1 h;rw[qrow] at r1;obtain⟨h',o',c',G',r2,w',hc',x'⟩:=f12b (m:=5000000*j) w hc ok sz.big hr hv' hq.attrs hq.name;refine⟨h',o',c',t,G',?_,w',hc',x'⟩;rw[ret_iff,t43_eq,t43];simp only[amS,Nat.reduceLeDiff,↓reduceIte,fillAt,bxS,k1,k2,eq_true k3,r1.call,r2.call]
  try rfl
 rw[if_neg k3];by_cases k4:q.k=4
 ·rw[if_pos k4];dsimp only;obtain⟨h',G',r2,w',x'⟩:=f13b (m:=5000000*j) w ok sz.big q.r hq.r;refine⟨h',o,c,t,G',?_,w',hc,x'⟩;rw[ret_iff,t43_eq,t43];simp only[amS,↓reduceIte,fillAt,bxS,k1,k2,k3,eq_true k4,r2.call]
  try rfl
 rw[if_neg k4];by_cases k5:q.k=5
 ·rw[if_pos k5];dsimp only;obtain⟨h',G',r2,w',x'⟩:=f54b (m:=5000000*j) w ok sz.big q.s (by have:=hq.s;omega) q.a;refine⟨h',o,c,t,G',?_,w',hc,x'⟩;rw[ret_iff,t43_eq,t43];simp only[amS,↓reduceIte,fillAt,bxS,k1,k2,k3,k4,eq_true k5,r2.call]
  try rfl
 rw[if_neg k5];by_cases k6:q.k=6
 ·rw[if_pos k6];dsimp only;obtain⟨r,av',r1,hr,hv'⟩:=f53b (q:=q) hv hq.attrs.1 h;rw[qrow] at r1;obtain⟨h',o',G',r2,w',x'⟩:=f55b (m:=5000000*j) w ok sz.big hr hv' hq.attrs hq.name q.n;refine⟨h',o',c,t,G',?_,w',by show IsEnts (b.insB q.name q.attrs 1).act c;rw[act_insB];exact hc,x'⟩;rw[ret_iff,t43_eq,t43];simp only[amS,↓reduceIte,fillAt,bxS,k1,k2,k3,k4,k5,eq_true k6,r1.call,r2.call]
  try rfl
 rw[if_neg k6];by_cases k7:q.k=7
 ·rw[if_pos k7];dsimp only;obtain⟨h',o',r2,w',x'⟩:=f56b w sz.rm;refine⟨h',o',c,t,G,?_,w',by have e:b.closeP.act=b.act:=(by unfold BS.closeP;split<;>rfl);rw[e];exact hc,x'⟩;rw[ret_iff,t43_eq,t43];simp only[amS,↓reduceIte,fillAt,bxS,k1,k2,k3,k4,k5,k6,eq_true k7,r2.call]
  try rfl
 rw[if_neg k7];by_cases k8:q.k=8
 ·rw[if_pos k8];dsimp only;obtain⟨h',o',c',G',r2,w',hc',x'⟩:=f57b (m:=5000000*j) w hc ok (sz.rm.le (by have:=sz.act;omega));refine⟨h',o',c',t,G',?_,w',hc',x'⟩;rw[ret_iff,t43_eq,t43];simp only[amS,↓reduceIte,fillAt,bxS,k1,k2,k3,k4,k5,k6,k7,eq_true k8,r2.call]
  try rfl
 rw[if_neg k8];by_cases k9:q.k=9
 ·rw[if_pos k9];dsimp only;obtain⟨h',o',r2,w',x'⟩:=f58b w sz.rm q.name;refine⟨h',o',c,t,G,?_,w',by have e:(b.anyEnd q.name).act=b.act:=(by unfold BS.anyEnd;split;split<;>rfl;rfl);rw[e];exact hc,x'⟩;rw[ret_iff,t43_eq,t43];simp only[amS,↓reduceIte,fillAt,bxS,k1,k2,k3,k4,k5,k6,k7,k8,eq_true k9,r2.call]
  try rfl
 rw[if_neg k9];by_cases k10:q.k=10
 ·rw[if_pos k10];dsimp only;obtain⟨h',o',c',G',r2,w',hc',x'⟩:=f15b (m:=5000000*j) w hc ok (sz.rm.le (by have:=sz.opn;omega)) q.name;refine⟨h',o',c',t,G',?_,w',hc',x'⟩;rw[ret_iff,t43_eq,t43];simp only[amS,↓reduceIte,fillAt,bxS,k1,k2,k3,k4,k5,k6,k7,k8,k9,eq_true k10,r2.call]
  try rfl
 rw[if_neg k10];by_cases k11:q.k=11
 ·rw[if_pos k11];dsimp only;obtain⟨h',r2,w',x'⟩:=f59b w sz.rm;refine⟨h',o,c,t,G,?_,w',hc,x'⟩;rw[ret_iff,t43_eq,t43];simp only[amS,↓reduceIte,fillAt,bxS,k1,k2,k3,k4,k5,k6,k7,k8,k9,k10,eq_true k11,r2.call]
  try rfl
 rw[if_neg k11];by_cases k12:q.k=12
 ·rw[if_pos k12];dsimp only;obtain⟨r,av',r1,hr,hv'⟩:=f53b (q:=q) hv hq.attrs.1 h;rw[qrow] at r1;obtain⟨h',G',r2,w',x'⟩:=f60b (m:=5000000*j) w ok sz.big hr hv' hq.attrs q.a;refine⟨h',o,c,t,G',?_,w',by have e:(b.merge q.attrs q.a).act=b.act:=(by unfold BS.merge;split<;>rfl);rw[e];exact hc,x'⟩;rw[ret_iff,t43_eq,t43];simp only[amS,↓reduceIte,fillAt,bxS,k1,k2,k3,k4,k5,k6,k7,k8,k9,k10,k11,eq_true k12,r1.call,r2.call]
  try rfl
 rw[if_neg k12];by_cases k13:q.k=13
 ·rw[if_pos k13];dsimp only;obtain⟨h',o',c',t',r2,w',hc',x'⟩:=f61b w hc sz.rm;refine⟨h',o',c',t',G,?_,w',hc',x'⟩;rw[ret_iff,t43_eq,t43];simp only[amS,↓reduceIte,fillAt,bxS,k1,k2,k3,k4,k5,k6,k7,k8,k9,k10,k11,k12,eq_true k13,r2.call]
  try rfl
 rw[if_neg k13];by_cases k14:q.k=14
 ·rw[if_pos k14];dsimp only;obtain⟨h',r2,w',x'⟩:=f62b w;refine⟨h',o,c,t,G,?_,w',hc,x'⟩;rw[ret_iff,t43_eq,t43];simp only[amS,↓reduceIte,fillAt,bxS,k1,k2,k3,k4,k5,k6,k7,k8,k9,k10,k11,k12,k13,eq_true k14,r2.call]
  try rfl
 rw[if_neg k14];by_cases k15:q.k=15
 ·rw[if_pos k15];dsimp only;have w':BX (put h bi 15 (.bool q.b)) bi a o c t G {b with foster:=q.b}:=w.put rfl rfl w.o w.t;refine⟨put h bi 15 (.bool q.b),o,c,t,G,?_,w',hc,put_ext⟩;rw[ret_iff,t43_eq,t43];simp only[amS,↓reduceIte,fillAt,bxS,k1,k2,k3,k4,k5,k6,k7,k8,k9,k10,k11,k12,k13,k14,eq_true k15,w.st (k:=15) (v:= .bool q.b) rfl rfl]
  try rfl
 rw[if_neg k15];by_cases k16:q.k=16
 ·rw[if_pos k16];dsimp only;have htm:=sz.rm.tm;have hmx:maxBytes=140737488355328:=rfl;obtain⟨u,e1,hu⟩:=IsSl.appNil (b:=8) w.t (by omega);have e2:=IsSl.app1M (b:=8) (a:=q.n) hu (by omega);have em:peval (.mksl 1) [.int .i64 q.n]=some (.sl 1 [intRow q.n]):=rfl;have hu2:IsInts (b.tm++[q.n]) (.sl 1 ((b.tm++[q.n]).map intRow)):= .mk;have w':=w.putT hu2;refine⟨put h bi 6 (.sl 1 ((b.tm++[q.n]).map intRow)),o,c,_,G,?_,w',hc,put_ext⟩;rw[ret_iff,t43_eq,t43];simp only[amS,↓reduceIte,fillAt,bxS,k1,k2,k3,k4,k5,k6,k7,k8,k9,k10,k11,k12,k13,k14,k15,eq_true k16,w.l6,e1,em,e2,w.st (k:=6) (v0:=t) rfl (IsSl.cells hu2)]
  try rfl
 rw[if_neg k16];by_cases k17:q.k=17
 ·rw[if_pos k17];dsimp only;have hac:=sz.rm.act;obtain⟨fs,hfs,hv2⟩:=hc;obtain⟨u,r2,hu⟩:=f63 (h:=h) (id:=bi) (o:=3) (l:=fs) ⟨c,w.atC,hv2⟩ (by rw[←hfs,List.length_map] at hac;omega);have w':=w.putC (u:=u) (l:=b.act++[FCor.zero]);have hc':IsEnts (b.act++[FCor.zero]) u:=⟨_,by rw[List.map_append,hfs];rfl,hu⟩;refine⟨put h bi 3 u,o,u,t,G,?_,w',hc',put_ext⟩;rw[ret_iff,t43_eq,t43];simp only[amS,↓reduceIte,fillAt,bxS,k1,k2,k3,k4,k5,k6,k7,k8,k9,k10,k11,k12,k13,k14,k15,k16,eq_true k17,r2.call]
  try rfl
 rw[if_neg k17];by_cases k18:q.k=18
 ·rw[if_pos k18];dsimp only;obtain⟨h',o',r2,w',x'⟩:=f42b w sz.rm;have r3:=f64b b.popI h';refine⟨h',o',c,t,G,?_,w',by have e:b.pop.act=b.act:=(by unfold BS.pop;split<;>rfl);rw[e];exact hc,x'⟩;rw[ret_iff,t43_eq,t43];simp only[amS,↓reduceIte,fillAt,bxS,itS,k1,k2,k3,k4,k5,k6,k7,k8,k9,k10,k11,k12,k13,k14,k15,k16,k17,eq_true k18,r2.call,r3.call]
  try rfl
 rw[if_neg k18];by_cases k19:q.k=19
 ·rw[if_pos k19];dsimp only;have w':BX (put h bi 7 (.int .i64 q.a)) bi a o c t G {b with head:=q.a}:=w.put rfl rfl w.o w.t;refine⟨put h bi 7 (.int .i64 q.a),o,c,t,G,?_,w',hc,put_ext⟩;rw[ret_iff,t43_eq,t43];simp only[amS,↓reduceIte,fillAt,bxS,k1,k2,k3,k4,k5,k6,k7,k8,k9,k10,k11,k12,k13,k14,k15,k16,k17,k18,eq_true k19,w.st (k:=7) (v:= .int .i64 q.a) rfl rfl]
  try rfl
 rw[if_neg k19];by_cases k20:q.k=20
 ·rw[if_pos k20];dsimp only;have w':=w.putM q.n;refine⟨put h bi 4 (.int .i64 q.n),o,c,t,G,?_,w',hc,put_ext⟩;rw[ret_iff,t43_eq,t43];simp only[amS,↓reduceIte,fillAt,bxS,k1,k2,k3,k4,k5,k6,k7,k8,k9,k10,k11,k12,k13,k14,k15,k16,k17,k18,k19,eq_true k20,w.st (k:=4) (v:= .int .i64 q.n) rfl rfl]
  try rfl
 rw[if_neg k20];by_cases k21:q.k=21
 ·rw[if_pos k21];dsimp only;have hac:=sz.rm.act;obtain⟨fs,hfs,hv2⟩:=hc;obtain⟨u,r2,hu⟩:=f65 (h:=h) (id:=bi) (o:=3) (l:=fs) ⟨c,w.atC,hv2⟩ (by rw[←hfs,List.length_map] at hac;omega);have w':=w.putC (u:=u) (l:=clearC b.act);have hc':IsEnts (clearC b.act) u:=⟨_,by rw[clear_C,hfs],hu⟩;refine⟨put h bi 3 u,o,u,t,G,?_,w',hc',put_ext⟩;rw[ret_iff,t43_eq,t43];simp only[amS,↓reduceIte,fillAt,bxS,k1,k2,k3,k4,k5,k6,k7,k8,k9,k10,k11,k12,k13,k14,k15,k16,k17,k18,k19,k20,eq_true k21,r2.call]
  try rfl
 rw[if_neg k21];by_cases k22:q.k=22
 ·rw[if_pos k22];dsimp only;have ho:=sz.rm.opn;have em:peval (.mksl 1) [.str q.name]=some (.sl 1 ([q.name].map strRow)):=mk_strs (ws:=[q.name]) rfl (by simp);obtain⟨u,r2,hu⟩:=f66 w.sO (by omega) (isStrs_of (ws:=[q.name])) (by simp);have w':=w.putO hu;refine⟨put h bi 2 u,u,c,t,G,?_,w',hc,put_ext⟩;rw[ret_iff,t43_eq,t43];simp only[amS,↓reduceIte,fillAt,bxS,k1,k2,k3,k4,k5,k6,k7,k8,k9,k10,k11,k12,k13,k14,k15,k16,k17,k18,k19,k20,k21,eq_true k22,em,r2.call]
  try rfl
 rw[if_neg k22];by_cases k23:q.k=23
 ·rw[if_pos k23];dsimp only;have w':BX (put h bi 8 (.int .i64 q.a)) bi a o c t G {b with form:=q.a}:=w.put rfl rfl w.o w.t;refine⟨put h bi 8 (.int .i64 q.a),o,c,t,G,?_,w',hc,put_ext⟩;rw[ret_iff,t43_eq,t43];simp only[amS,↓reduceIte,fillAt,bxS,k1,k2,k3,k4,k5,k6,k7,k8,k9,k10,k11,k12,k13,k14,k15,k16,k17,k18,k19,k20,k21,k22,eq_true k23,w.st (k:=8) (v:= .int .i64 q.a) rfl rfl]
  try rfl
 rw[if_neg k23];by_cases k24:q.k=24
 ·rw[if_pos k24];dsimp only;obtain⟨r,av',r1,hr,hv'⟩:=f53b (q:=q) hv hq.attrs.1 h;rw[qrow] at r1;obtain⟨h',G',r2,w',x'⟩:=f67b (m:=5000000*j) w ok sz.big hr hv' hq.attrs hq.name q.a q.space;have r3:=f64b (b.mkI q.name q.attrs q.space) h';refine⟨h',o,c,t,G',?_,w',by have e:(b.mkB q.name q.attrs q.space q.a).act=b.act:=(by unfold BS.mkB;split<;>rfl);rw[e];exact hc,x'⟩;rw[ret_iff,t43_eq,t43];simp only[amS,↓reduceIte,fillAt,bxS,itS,k1,k2,k3,k4,k5,k6,k7,k8,k9,k10,k11,k12,k13,k14,k15,k16,k17,k18,k19,k20,k21,k22,k23,eq_true k24,r1.call,r2.call,r3.call]
  try rfl
 rw[if_neg k24];refine⟨h,o,c,t,G,?_,w,hc,.refl⟩;rw[ret_iff,t43_eq,t43];simp only[amS,↓reduceIte,fillAt,bxS,k1,k2,k3,k4,k5,k6,k7,k8,k9,k10,k11,k12,k13,k14,k15,k16,k17,k18,k19,k20,k21,k22,k23,k24]
 try rfl
end
end Go.Am
end
section
namespace Go.Am
open Go
set_option maxRecDepth 100000
theorem flat_ints:∀l:List Int,(l.map intRow).flatten=l.map (AVal.int .i64)
 |[]=>rfl
 |x::l=>by simp[intRow,flat_ints l]
def arD (q:Bool):Ar:={n:=[{kind:=1,doc:=1,quirks:=q}],i:=[0]}
def newB (q:Bool):BS:={a:=arD q,doc:=1,opn:=[],act:=[],mode:=1,orig:=0,tm:=[],head:=0,form:=0,frag:=false,ctx:=Item.zero,fs:=true,foster:=false,pend:=[],skip:=false,sw:=0,stop:=false}
noncomputable def newF3 (sp:Int) (nm:Bytes) (l:List Attr) (q:Bool):BS:=
 {(newB q).mkB wHtm [] 1 1 with a:=((newB q).mkB wHtm [] 1 1).a.bput ((newB q).mkI wHtm [] 1).node 1 0,opn:=((newB q).mkB wHtm [] 1 1).opn++[(newB q).mkI wHtm [] 1],frag:=true,ctx:=⟨0,sp,nm,htmlPoint sp nm l⟩}
noncomputable def newF4 (sp:Int) (nm:Bytes) (l:List Attr) (q:Bool):BS:=if isOne [wTemplate] (newF3 sp nm l q).ctx then{newF3 sp nm l q with tm:=[18]} else newF3 sp nm l q
noncomputable def newF (sp:Int) (nm:Bytes) (l:List Attr) (q f:Bool):BS:=if f then{(newF4 sp nm l q).reset with form:= -1} else(newF4 sp nm l q).reset
structure BStart where
 frag:Bool
 space:Int
 name:Bytes
 attrs:List Attr
 quirks:Bool
 form:Bool
noncomputable def BStart.b (s:BStart):BS:=if s.frag then newF s.space s.name s.attrs s.quirks s.form else newB s.quirks
def srow (s:BStart) (av:AVal):List AVal:=[.bool s.frag,.int .i64 s.space,.str s.name,av,.bool s.quirks,.bool s.form]
theorem arD_ok (q:Bool):ArOk (arD q) 0:=by
 have h0:ArOk (⟨[],[]⟩:Ar) 0:=by
  have hn:∀h,¬(⟨[],[]⟩:Ar).has h:=λh hh=>by have h1:=hh.1;have h2:=hh.2;simp at h2;omega
  exact⟨rfl,λh hh=>absurd hh (hn h),λh hh=>absurd hh (hn h),λh hh=>absurd hh (hn h),λh hh=>absurd hh (hn h),λh hh=>absurd hh (hn h),λh hh=>absurd hh (hn h),λh hh=>absurd hh (hn h),λh hh=>absurd hh (hn h),λh hh=>absurd hh (hn h),⟨λ_=>0,λh hh=>absurd hh (hn h)⟩⟩
 have hx:NOk {kind:=1,doc:=1,quirks:=q}:=by constructor<;>simp[once,onceF]
 exact ok_add h0 hx (.inl ⟨rfl,rfl⟩) rfl rfl rfl rfl (λh=>absurd h.1 (show¬(1:Int)=4 by decide))
theorem newB_ok (q:Bool):BOk (newB q):=by refine⟨arD_ok q,⟨⟨Int.le_refl 1,Int.le_refl 1⟩,rfl⟩,λi hi=>(nomatch hi),List.nodup_nil,λe he=>(nomatch he),List.nodup_nil⟩
theorem newB_nd {q:Bool} (x:Int):(newB q).a.nd x=if x=1 then{kind:=1,doc:=1,quirks:=q} else{}:=by
 unfold Ar.nd;by_cases h:x=1
 ·subst h;rfl
 ·rw[if_neg h,if_neg];intro hh;have h1:=hh.1;have h2:=hh.2;simp[newB,arD] at h2;omega
theorem newB_sz (q:Bool):Sz (newB q) 101:=by
 refine⟨⟨by simp[newB,arD],λx=>?_,λx=>?_,by simp[newB],by simp[newB],by simp[newB],λe he=>(nomatch he),λi hi=>(nomatch hi)⟩,by simp[newB],by simp[newB]⟩
 ·rw[newB_nd];split<;>simp
 ·rw[newB_nd];split<;>simp
section
variable {h h':AHeap} {bi a:Nat} {o c t:AVal} {G G' F:Nat→Prop} {b:BS} {x:Int} {m j:Nat} {q:BOp}
variable {nm:Bytes} {av:AVal} {l:List Attr} {r:List AVal} {sp p:Int}
theorem f26b (h:AHeap) (q:Bool):∃h1 h',Ret cx 49 [] h (.ptr (some (h.length,0))) h1∧Ret cx 50 [.ptr (some (h.length,0)),.bool q] h1 (.int .i64 1) h'∧PA h' h.length (h.length+1) none [⟨{kind:=1,doc:=1,quirks:=q},.slnil,.slnil,rfl⟩] (arD q)∧h'=h++[.cells [.msl (h.length+1) 0 1 13,.map none],.cells [I 1,I 0,.slnil,I 1,I 0,S [],.slnil,S [],S [],S [],.bool q,I 0,I 0]]:=by
 have hmx:maxBytes=140737488355328:=rfl;have g1:∀u:AHeap,hgrow u 13 168 .slnil (.sl 13 [[I 1,I 0,.slnil,I 0,I 0,S [],.slnil,S [],S [],S [],.bool q,I 0,I 0]])=some (u++[.cells [I 1,I 0,.slnil,I 0,I 0,S [],.slnil,S [],S [],S [],.bool q,I 0,I 0]],.msl u.length 0 1 13):=λu=>rfl;obtain⟨H1,hH1⟩:∃H1,H1=h++[AObj.cells [.slnil,.map none]]:=⟨_,rfl⟩;have c1:H1[h.length]?=some (.cells [.slnil,.map none]):=by rw[hH1];simp
 have hl1:H1.length=h.length+1:=by rw[hH1];simp
 have g2:=g1 H1;rw[hl1] at g2;have t1:At H1 h.length 0 .slnil:=⟨_,c1,rfl⟩;have c2:(H1++[AObj.cells [I 1,I 0,.slnil,I 0,I 0,S [],.slnil,S [],S [],S [],.bool q,I 0,I 0]])[h.length]?=some (.cells [.slnil,.map none]):=(List.getElem?_append_left (by omega)).trans c1;have n2:(H1++[AObj.cells [I 1,I 0,.slnil,I 0,I 0,S [],.slnil,S [],S [],S [],.bool q,I 0,I 0]])[h.length+1]?=some (.cells [I 1,I 0,.slnil,I 0,I 0,S [],.slnil,S [],S [],S [],.bool q,I 0,I 0]):=by rw[←hl1];simp
 have hl2:(H1++[AObj.cells [I 1,I 0,.slnil,I 0,I 0,S [],.slnil,S [],S [],S [],.bool q,I 0,I 0]]).length=h.length+2:=by rw[List.length_append,hl1];rfl
 have e12:H1++[AObj.cells [I 1,I 0,.slnil,I 0,I 0,S [],.slnil,S [],S [],S [],.bool q,I 0,I 0]]=h++[.cells [.slnil,.map none],.cells [I 1,I 0,.slnil,I 0,I 0,S [],.slnil,S [],S [],S [],.bool q,I 0,I 0]]:=by rw[hH1,List.append_assoc];rfl
 generalize H1++[AObj.cells [I 1,I 0,.slnil,I 0,I 0,S [],.slnil,S [],S [],S [],.bool q,I 0,I 0]]=H2 at*;have t2:At H2 h.length 0 .slnil:=⟨_,c2,rfl⟩;have s2:=t2.store (u:= .msl (h.length+1) 0 1 13) rfl;have c3:=put_cells (k:=0) (v:= .msl (h.length+1) 0 1 13) c2;have n3:(put H2 h.length 0 (.msl (h.length+1) 0 1 13))[h.length+1]?=_:=(put_other (by omega)).trans n2;have e3:put H2 h.length 0 (.msl (h.length+1) 0 1 13)=h++[.cells [.msl (h.length+1) 0 1 13,.map none],.cells [I 1,I 0,.slnil,I 0,I 0,S [],.slnil,S [],S [],S [],.bool q,I 0,I 0]]:=by rw[put_of c2,e12,List.set_append_right _ _ (Nat.le_refl _),Nat.sub_self];rfl
 generalize put H2 h.length 0 (.msl (h.length+1) 0 1 13)=H3 at*;have l3:hload H3 none (.ptr (some (h.length,0)))=some (.msl (h.length+1) 0 1 13):=At.load ⟨_,c3,rfl⟩;have e4:peval (.eaddr 13) [.msl (h.length+1) 0 1 13,I 0]=some (.ptr (some (h.length+1,0))):=eaddr_msl (k:= .i64) (i:=0) (by decide);have t3:At H3 (h.length+1) 3 (I 0):=⟨_,n3,rfl⟩;have s3:=t3.store (u:=I 1) rfl;have c4:(put H3 (h.length+1) 3 (I 1))[h.length]?=_:=(put_other (by omega)).trans c3;have n4:=put_cells (k:=3) (v:=I 1) n3;have e5:put H3 (h.length+1) 3 (I 1)=h++[.cells [.msl (h.length+1) 0 1 13,.map none],.cells [I 1,I 0,.slnil,I 1,I 0,S [],.slnil,S [],S [],S [],.bool q,I 0,I 0]]:=by rw[put_of n3,e3,List.set_append_right _ _ (by omega),Nat.add_sub_cancel_left];rfl
 refine⟨H1,put H3 (h.length+1) 3 (I 1),?_,?_,⟨rfl,rfl,c4,n4,?_,?_,.inl ⟨rfl,λk=>?_⟩⟩,e5⟩
 ·rw[ret_iff,t49_eq,t49];simp only[amS,↓reduceIte,fillAt,bxS,hH1]
 ·have r1:Ret cx 114 [.ptr (some (h.length,0)),.agg [I 1,I 0,.slnil,I 0,I 0,S [],.slnil,S [],S [],S [],.bool q,I 0,I 0]] H1 (I 1) H3:=by rw[ret_iff,t114_eq,t114];simp only[amS,Nat.reduceLeDiff,↓reduceIte,fillAt,bxS,t1.load,show peval (.mksl 13) [.agg [I 1,I 0,.slnil,I 0,I 0,S [],.slnil,S [],S [],S [],.bool q,I 0,I 0]]=some (.sl 13 [[I 1,I 0,.slnil,I 0,I 0,S [],.slnil,S [],S [],S [],.bool q,I 0,I 0]]) from rfl,g2,s2,l3,show peval (.len false) [.msl (h.length+1) 0 1 13]=some (I 1) from rfl]
  have r2:Ret cx 55 [.ptr (some (h.length,0)),I 1] H3 (.ptr (some (h.length+1,0))) H3:=by rw[ret_iff,t55_eq,t55];simp only[amS,bxS,l3,show peval (.int .sub) [I 1,I 1]=some (I 0) from rfl,e4]
  rw[ret_iff,t50_eq,t50];simp only[amS,Nat.reduceLeDiff,↓reduceIte,fillAt,bxS,r1.call,r2.call,s3]
 ·intro p hp;rw[List.mem_singleton] at hp;subst hp;exact .inl ⟨rfl,rfl⟩
 ·simp[ids,kid?]
 ·unfold Ar.inr;split
  ·rename_i hh;have h1:=hh.1;have h2:=hh.2;simp[arD] at h2;have:k=1:=by omega
   subst this;rfl
  ·rfl
theorem f28b (h:AHeap) (q:Bool):∃h1 h2 h' bi G,Ret cx 49 [] h (.ptr (some (h.length,0))) h1∧Ret cx 50 [.ptr (some (h.length,0)),.bool q] h1 (.int .i64 1) h2∧Ret cx 52 [.ptr (some (h.length,0)),I 1] h2 (.ptr (some (bi,0))) h'∧BX h' bi h.length .slnil .slnil .slnil G (newB q)∧Ext h (λ_=>False) h' (own bi G):=by
 obtain⟨h1,h2,r1,r2,wa,eh⟩:=f26b h q;obtain⟨r,t,r3,K,V,rfl,hK,hV,_⟩:=f97w (x:=1) wa ((newB_sz q).rm.lim) ((newB_sz q).rm.lim.kids (newB_ok q).ok 1);have hx:(arD q).has 1:=⟨Int.le_refl 1,Int.le_refl 1⟩;have hnd:(arD q).nd 1={kind:=1,doc:=1,quirks:=q}:=(newB_nd (q:=q) 1).trans (if_pos rfl);rw[if_pos hx,hnd] at r3;have wt:PA (h2++t) _ _ _ _ _:=wa.frame λi hi=>List.getElem?_append_left (wa.lt i hi);refine⟨h1,h2,h2++t++[.cells (bcells h.length (newB q) .slnil .slnil .slnil)],(h2++t).length,λi=>i∈ids h.length (h.length+1) none [⟨{kind:=1,doc:=1,quirks:=q},.slnil,.slnil,rfl⟩],r1,r2,?_,⟨by simp,.inr ⟨rfl,rfl⟩,.inr ⟨rfl,rfl⟩,?_,?_⟩,?_⟩
 ·rw[ret_iff,t52_eq,t52];simp only[amS,Nat.reduceLeDiff,↓reduceIte,fillAt,bxS,r3.call,aaS];exact⟨λh=>absurd rfl h,λ_=>⟨λh=>absurd rfl h,λ_=>rfl⟩⟩
 ·exact⟨_,_,_,wt.frame λi hi=>List.getElem?_append_left (wt.lt i hi),λi=>Iff.rfl⟩
 ·intro hm;exact absurd (wt.lt _ hm) (Nat.lt_irrefl _)
 ·have hle:h.length≤h2.length:=by rw[eh];simp
  refine⟨by simp;omega,λi hi _=>?_,λi hi=> .inr ?_⟩
  ·rw[List.append_assoc,List.getElem?_append_left (by omega),eh,List.getElem?_append_left hi]
  ·rcases hi with rfl|hi
   ·simp;omega
   ·simp[ids,kid?] at hi;omega
theorem newF3_ok (sp:Int) (nm:Bytes) (l:List Attr) (q:Bool):BOk (newF3 sp nm l q)∧Sz (newF3 sp nm l q) 100:=by
 refine⟨?_,?_⟩
 ·obtain⟨ok1,f,le1⟩:=mk_ok (nm:=wHtm) (at_:=[]) (p:=1) (newB_ok q) hs1;have ok2:=ok1.setA (ok_bput (n:=((newB q).mkI wHtm [] 1).node) (p:=1) (b:=0) ok1.ok) le_bput;have l2:Le ((newB q).mkB wHtm [] 1 1).a (((newB q).mkB wHtm [] 1 1).a.bput ((newB q).mkI wHtm [] 1).node 1 0):=le_bput;have ho:((newB q).mkB wHtm [] 1 1).opn=[]:=by unfold BS.mkB;rw[if_pos hs1];rfl
  have ok3:=ok2.insO (i:=(newB q).mkI wHtm [] 1) (k:=0) ⟨l2.has _ f.has,by rw[l2.kind _ f.has];exact f.kind,by rw[l2.space _ f.has];exact f.space,by rw[l2.name _ f.has];exact f.name⟩ (by simp only[ho];simp);exact ok3.of_eq rfl rfl (by unfold newF3;simp only[ho];rfl) rfl
 ·have sz:=newB_sz q;have e:((newB q).mkB wHtm [] 1 1).opn=[]∧((newB q).mkB wHtm [] 1 1).act=[]:=by unfold BS.mkB;rw[if_pos hs1];exact⟨rfl,rfl⟩
  have r1:=mk_room (m:=5000000*100+1) (nm:=wHtm) (l:=[]) (sp:=1) (p:=1) (sz.rm.le (by omega)) ⟨by decide,λa ha=>(nomatch ha)⟩;have r2:=r1.setA (same_bput (x:=((newB q).mkI wHtm [] 1).node) (p:=1) (bf:=0));have r3:=r2.consO (i:=(newB q).mkI wHtm [] 1) (l':=((newB q).mkB wHtm [] 1 1).opn++[(newB q).mkI wHtm [] 1]) (by simp) (λj hj=>by simpa using hj) (mkI_name (by decide));exact⟨⟨r3.n,r3.at_,r3.data,r3.opn,r3.act,r3.tm,r3.ents,r3.nms⟩,by unfold newF3;simp only[e.1];show 1+1200*100≤125000;decide,by unfold newF3;simp only[e.2];decide⟩
theorem newF4_ok (sp:Int) (nm:Bytes) (l:List Attr) (q:Bool):BOk (newF4 sp nm l q)∧Sz (newF4 sp nm l q) 100:=by
 obtain⟨ok3,sz3⟩:=newF3_ok sp nm l q;unfold newF4;split
 ·have r:=sz3.rm;exact⟨ok3.of_eq rfl rfl rfl rfl,⟨⟨r.n,r.at_,r.data,r.opn,r.act,by simp,r.ents,r.nms⟩,sz3.opn,sz3.act⟩⟩
 ·exact⟨ok3,sz3⟩
theorem newF_ok (sp:Int) (nm:Bytes) (l:List Attr) (q f:Bool):BOk (newF sp nm l q f)∧Sz (newF sp nm l q f) 100:=by
 obtain⟨ok4,sz4⟩:=newF4_ok sp nm l q;have r5:Room (newF4 sp nm l q).reset (5000000*100):=sz4.rm.mode;unfold newF;split
 ·exact⟨(reset_ok ok4).of_eq rfl rfl rfl rfl,⟨⟨r5.n,r5.at_,r5.data,r5.opn,r5.act,r5.tm,r5.ents,r5.nms⟩,sz4.opn,sz4.act⟩⟩
 ·exact⟨reset_ok ok4,⟨r5,sz4.opn,sz4.act⟩⟩
theorem BX.stCtx (w:BX h bi a o c t G b) (i:Item):∃h',hstore h 4 (.ptr (some (bi,10))) (.agg i.row)=some h'∧BX h' bi a o c t G {b with ctx:=i}∧Ext h (own bi G) h' (own bi G):=by refine⟨h.set bi (.cells (bcells a {b with ctx:=i} o c t)),?_,⟨List.getElem?_set_self w.lt,w.o,w.t,w.w.frame λj hj=>List.getElem?_set_ne λe=>w.nb (by rw[e];exact hj),w.nb⟩,⟨by rw[List.length_set];exact Nat.le_refl _,λj _ hn=>List.getElem?_set_ne λe=>hn (.inl e.symm),λ_ h=> .inl h⟩⟩;simp only[hstore,w.hb];rfl
theorem f27b (h:AHeap) (sp:Int) (nm:Bytes) (hv:IsAttrs l av) (hl:SmallA l) (q f q':Bool):∃h1 h2 h' bi o t G,Ret cx 49 [] h (.ptr (some (h.length,0))) h1∧Ret cx 50 [.ptr (some (h.length,0)),.bool q] h1 (.int .i64 1) h2∧Ret cx 51 [.ptr (some (h.length,0)),I 1,.agg [.int .i64 sp,.str nm,av,.bool q',.bool f]] h2 (.ptr (some (bi,0))) h'∧BX h' bi h.length o .slnil t G (newF sp nm l q f)∧Ext h (λ_=>False) h' (own bi G):=by
 obtain⟨h1,h2,h3,bi,G,r1,r2,r3,w,x⟩:=f28b h q;have hr:TokR wHtm .slnil [I 2,.str wHtm,ff,S [],ff,S [],ff,ff,.slnil,ff,S [],.int .i32 0]:=⟨I 2,ff,S [],ff,S [],ff,ff,ff,S [],.int .i32 0,rfl⟩;obtain⟨h4,G4,r4,w4,x4⟩:=f67b (m:=1000) w (newB_ok q) ((newB_sz q).rm.le (by omega)) hr (l:=[]) (.inr ⟨rfl,rfl⟩) ⟨by decide,λa ha=>(nomatch ha)⟩ (by decide) 1 1;obtain⟨ok4,f4,le4⟩:=mk_ok (nm:=wHtm) (at_:=[]) (p:=1) (newB_ok q) hs1;have rm4:=mk_room (m:=1000) (nm:=wHtm) (l:=[]) (sp:=1) (p:=1) ((newB_sz q).rm.le (by omega)) ⟨by decide,λa ha=>(nomatch ha)⟩;obtain⟨h5,G5,r5,w5,x5⟩:=f38b (x:=((newB q).mkI wHtm [] 1).node) (p:=1) (bf:=0) w4 ok4 rm4;have ho:((newB q).mkB wHtm [] 1 1).opn=[]:=by unfold BS.mkB;rw[if_pos hs1];rfl
 obtain⟨u6,r6,hu6⟩:=f95 w5.sO (by simp only[ho];decide) ((newB q).mkI wHtm [] 1);have w6:=w5.putO hu6;have w7:BX (put (put h5 bi 2 u6) bi 9 tt) bi h.length u6 .slnil .slnil G5 _:=w6.put (k:=9) (v:=tt) (b':={{{(newB q).mkB wHtm [] 1 1 with a:=((newB q).mkB wHtm [] 1 1).a.bput ((newB q).mkI wHtm [] 1).node 1 0} with opn:=((newB q).mkB wHtm [] 1 1).opn++[(newB q).mkI wHtm [] 1]} with frag:=true}) rfl rfl hu6 w6.t;have s7:hstore (put h5 bi 2 u6) 1 (.ptr (some (bi,9))) tt=some (put (put h5 bi 2 u6) bi 9 tt):=w6.st (k:=9) (v:=tt) (v0:= .bool ((newB q).mkB wHtm [] 1 1).frag) rfl rfl;have r8:Ret cx 116 [.int .i64 sp,.str nm,av] (put (put h5 bi 2 u6) bi 9 tt) (.bool (htmlPoint sp nm l)) (put (put h5 bi 2 u6) bi 9 tt):=f96 hv (λa ha=>by have:=(hl.2 a ha).2;have:maxBytes=140737488355328:=rfl;omega) (by have:=hl.1;omega) sp nm _;obtain⟨h8,s8,w8,x8⟩:=w7.stCtx ⟨0,sp,nm,htmlPoint sp nm l⟩;have w8':BX h8 bi h.length u6 .slnil .slnil G5 (newF3 sp nm l q):=w8;have x8':Ext h (λ_=>False) h8 (own bi G5):=((((x.trans x4).trans x5).trans put_ext).trans put_ext).trans x8;clear w8;have l10:=w8'.lctx;have hctx:(newF3 sp nm l q).ctx=⟨0,sp,nm,htmlPoint sp nm l⟩:=rfl;obtain⟨ok4',sz4⟩:=newF4_ok sp nm l q;have r9:=f40b (ws:=[wTemplate]) isStrs_of (by decide) (newF3 sp nm l q).ctx h8;have key:∃h9 t9,BX h9 bi h.length u6 .slnil t9 G5 (newF4 sp nm l q)∧Ext h8 (own bi G5) h9 (own bi G5)∧(isOne [wTemplate] (newF3 sp nm l q).ctx=true→hstore h8 1 (.ptr (some (bi,6))) (.sl 1 [[I 18]])=some h9)∧(isOne [wTemplate] (newF3 sp nm l q).ctx=false→h9=h8):=by
  by_cases hT:isOne [wTemplate] (newF3 sp nm l q).ctx=true
  ·have hu:IsInts [18] (.sl 1 [[I 18]]):= .mk;refine⟨put h8 bi 6 (.sl 1 [[I 18]]),.sl 1 [[I 18]],?_,put_ext,λ_=>w8'.st (k:=6) (v0:= .slnil) rfl rfl,λh=>absurd hT (by rw[h];decide)⟩;unfold newF4;rw[if_pos hT];exact w8'.putT hu
  ·refine⟨h8,.slnil,?_,.refl,λh=>absurd h hT,λ_=>rfl⟩;unfold newF4;rw[if_neg hT];exact w8'
 obtain⟨h9,t9,w9,x9,k1,k2⟩:=key;obtain⟨h10,r10,w10,x10⟩:=f59b w9 sz4.rm;have em:peval (.mksl 1) [I 18]=some (.sl 1 [[I 18]]):=rfl;have xx:Ext h (λ_=>False) h10 (own bi G5):=(x8'.trans x9).trans x10;have hir:((newB q).mkI wHtm [] 1).row=[.int .i64 ((newB q).mkI wHtm [] 1).node,.int .i64 ((newB q).mkI wHtm [] 1).space,.str ((newB q).mkI wHtm [] 1).name,.bool ((newB q).mkI wHtm [] 1).point]:=rfl;generalize(newB q).mkI wHtm [] 1=it at*;have s8':hstore (put (put h5 bi 2 u6) bi 9 tt) 4 (.ptr (some (bi,10))) (.agg [I 0,.int .i64 sp,.str nm,.bool (htmlPoint sp nm l)])=some h8:=s8;have em2:peval (.mksl 1) [S [116,101,109,112,108,97,116,101]]=some (.sl 1 ([wTemplate].map strRow)):=mk_wT
 cases hT:isOne [wTemplate] (newF3 sp nm l q).ctx with
 |true=>
  rw[hT] at r9;have k1':=k1 hT
  cases f with
  |true=>
   refine⟨h1,h2,put h10 bi 8 (.int .i64 (-1)),bi,u6,t9,G5,r1,r2,?_,?_,xx.trans put_ext⟩
   ·rw[ret_iff,t51_eq,t51];simp only[amS,Nat.reduceLeDiff,↓reduceIte,fillAt,bxS,itS,r3.call,r4.call,r5.call,r6.call,s7,r8.call,s8',l10,em2,r9.call,em,k1',r10.call,w10.st (k:=8) (v:=I (-1)) rfl rfl]
   ·unfold newF;rw[if_pos rfl];exact w10.put rfl rfl w10.o w10.t
  |false=>refine⟨h1,h2,h10,bi,u6,t9,G5,r1,r2,?_,w10,xx⟩;rw[ret_iff,t51_eq,t51];simp only[amS,Nat.reduceLeDiff,↓reduceIte,fillAt,bxS,itS,r3.call,r4.call,r5.call,r6.call,s7,r8.call,s8',l10,em2,r9.call,em,k1',r10.call]
 |false=>
  rw[hT] at r9;have k2':=k2 hT;subst k2'
  cases f with
  |true=>
   refine⟨h1,h2,put h10 bi 8 (.int .i64 (-1)),bi,u6,t9,G5,r1,r2,?_,?_,xx.trans put_ext⟩
   ·rw[ret_iff,t51_eq,t51];simp only[amS,Nat.reduceLeDiff,↓reduceIte,fillAt,bxS,itS,r3.call,r4.call,r5.call,r6.call,s7,r8.call,s8',l10,em2,r9.call,em,r10.call,w10.st (k:=8) (v:=I (-1)) rfl rfl]
   ·unfold newF;rw[if_pos rfl];exact w10.put rfl rfl w10.o w10.t
  |false=>refine⟨h1,h2,h10,bi,u6,t9,G5,r1,r2,?_,w10,xx⟩;rw[ret_iff,t51_eq,t51];simp only[amS,Nat.reduceLeDiff,↓reduceIte,fillAt,bxS,itS,r3.call,r4.call,r5.call,r6.call,s7,r8.call,s8',l10,em2,r9.call,em,r10.call]
theorem f10b (h:AHeap) (s:BStart) (hv:IsAttrs s.attrs av) (hl:SmallA s.attrs):∃h' bi a o c t G,Ret cx 13 [.agg (srow s av)] h (.ptr (some (bi,0))) h'∧BX h' bi a o c t G s.b∧IsEnts s.b.act c∧Ext h (λ_=>False) h' (own bi G):=by
 have ha3:(newF3 s.space s.name s.attrs s.quirks).act=[]:=by unfold newF3;simp only;unfold BS.mkB;rw[if_pos hs1];rfl
 cases hf:s.frag with
 |true=>
  obtain⟨h1,h2,h',bi,o,t,G,r1,r2,r3,w,x⟩:=f27b h s.space s.name hv hl s.quirks s.form s.quirks;refine⟨h',bi,h.length,o,.slnil,t,G,?_,by unfold BStart.b;rw[if_pos hf];exact w,?_,x⟩
  ·rw[ret_iff,t13_eq,t13,srow,hf];simp only[amS,r1.call,r2.call,r3.call]
  ·have e:s.b.act=[]:=by unfold BStart.b newF newF4;rw[if_pos hf];split<;>split<;>exact ha3
   rw[e];exact⟨[],rfl,.inr ⟨rfl,rfl⟩⟩
 |false=>
  obtain⟨h1,h2,h',bi,G,r1,r2,r3,w,x⟩:=f28b h s.quirks;have e:s.b=newB s.quirks:=by unfold BStart.b;rw[if_neg (by rw[hf];decide)]
  refine⟨h',bi,h.length,.slnil,.slnil,.slnil,G,?_,by rw[e];exact w,by rw[e];exact⟨[],rfl,.inr ⟨rfl,rfl⟩⟩,x⟩;rw[ret_iff,t13_eq,t13,srow,hf];simp only[amS,r1.call,r2.call,r3.call]
theorem BStart.ok (s:BStart):BOk s.b∧Sz s.b 100:=by
 unfold BStart.b;split
 ·exact newF_ok _ _ _ _ _
 ·have h:=newB_sz s.quirks;exact⟨newB_ok _,⟨h.rm.le (by omega),by have:=h.opn;omega,by have:=h.act;omega⟩⟩
end
end Go.Am
end
section
namespace Go.Am
open Go
set_option maxRecDepth 100000
def IntsV (h:AHeap) (lo:Nat) (v:AVal) (l:List Int):Prop:=(v= .slnil∧l=[])∨∃id,lo≤id∧v= .msl id 0 l.length 1∧h[id]?=some (.cells (l.map (AVal.int .i64)))
def EntsV (h:AHeap) (lo:Nat) (v:AVal) (l:List FCor):Prop:=(v= .slnil∧l=[])∨∃id,∃fs:List Fmt,lo≤id∧v= .msl id 0 fs.length 3∧h[id]?=some (.cells (fs.map Fmt.row).flatten)∧fs.map (·.c)=l
section
variable {h h':AHeap} {lo lo':Nat} {v:AVal}
theorem IntsV.cells {l:List Int} (hv:IntsV h lo v l):v.cells=[v]:=by rcases hv with⟨rfl,_⟩|⟨id,_,rfl,_⟩<;>rfl
theorem EntsV.cells {l:List FCor} (hv:EntsV h lo v l):v.cells=[v]:=by rcases hv with⟨rfl,_⟩|⟨id,fs,_,rfl,_⟩<;>rfl
theorem IntsV.frame {l:List Int} (hv:IntsV h lo v l) (hf:∀i,lo≤i→i<h.length→h'[i]?=h[i]?):IntsV h' lo v l:=by
 rcases hv with hv|⟨id,h1,h2,h3⟩
 ·exact .inl hv
 ·exact .inr ⟨id,h1,h2,by rw[hf id h1 (List.getElem?_eq_some_iff.1 h3).1];exact h3⟩
theorem EntsV.frame {l:List FCor} (hv:EntsV h lo v l) (hf:∀i,lo≤i→i<h.length→h'[i]?=h[i]?):EntsV h' lo v l:=by
 rcases hv with hv|⟨id,fs,h1,h2,h3,h4⟩
 ·exact .inl hv
 ·exact .inr ⟨id,fs,h1,h2,by rw[hf id h1 (List.getElem?_eq_some_iff.1 h3).1];exact h3,h4⟩
theorem IntsV.low {l:List Int} (hv:IntsV h lo v l) (hl:lo'≤lo):IntsV h lo' v l:=by
 rcases hv with hv|⟨id,h1,h2⟩
 ·exact .inl hv
 ·exact .inr ⟨id,by omega,h2⟩
theorem EntsV.low {l:List FCor} (hv:EntsV h lo v l) (hl:lo'≤lo):EntsV h lo' v l:=by
 rcases hv with hv|⟨id,fs,h1,h2⟩
 ·exact .inl hv
 ·exact .inr ⟨id,fs,by omega,h2⟩
theorem IntsV.ints {l:List Int} (hv:IntsV h lo v l):IntsAt h v l:=by
 rcases hv with⟨rfl,rfl⟩|⟨id,_,rfl,hc⟩
 ·exact⟨rfl,λk hk=>by simp at hk⟩
 ·refine⟨rfl,λk hlt=>⟨.ptr (some (id,k)),by have:=eaddr_msl (id:=id) (z:=1) (k:= .i64) hlt;rwa [Nat.mul_one] at this,?_⟩⟩;simp only[hload,hc,partOf_none];simp[hlt]
theorem growI {h u:AHeap} {V:AVal} {L:List Int} (hV:IntsV (h++u) h.length V L) (hb:L.length≤1000000000) (x:Int):∃u' V',hgrow (h++u) 1 8 V (.sl 1 [[.int .i64 x]])=some (h++u',V')∧IntsV (h++u') h.length V' (L++[x]):=by
 have hmx:maxBytes=140737488355328:=rfl;rcases hV with⟨rfl,rfl⟩|⟨id,hid,rfl,hc⟩
 ·exact⟨u++[.cells [.int .i64 x]],.msl (h++u).length 0 1 1,by rw[←List.append_assoc];rfl,.inr ⟨(h++u).length,by simp,rfl,by simp⟩⟩
 ·have hr:∀r∈L.map intRow,r.length=1:=map_rows (f:=intRow) (λ_=>rfl) L;have hc':(h++u)[id]?=some (.cells (L.map intRow).flatten):=by rw[flat_ints];exact hc
  have hg:=hgrow_some (b:=8) (rows:=L.map intRow) (r2:=[[AVal.int .i64 x]]) (v:= .sl 1 [[AVal.int .i64 x]]) hr (by decide) hc' .mk (by simp) (by rw[List.length_map];simp;omega);rw[List.length_map] at hg;have e:(h++u).set id .dead++[AObj.cells (L.map intRow++[[AVal.int .i64 x]]).flatten]=h++(u.set (id-h.length) .dead++[.cells ((L++[x]).map (AVal.int .i64))]):=by rw[List.set_append_right _ _ hid,List.append_assoc,List.flatten_append,flat_ints,List.map_append];rfl
  rw[e] at hg;have hl2:(h++(u.set (id-h.length) AObj.dead++[.cells ((L++[x]).map (AVal.int .i64))]))=(h++u.set (id-h.length) AObj.dead)++[.cells ((L++[x]).map (AVal.int .i64))]:=by rw[List.append_assoc]
  have hl3:(h++u.set (id-h.length) AObj.dead).length=(h++u).length:=by simp
  refine⟨_,_,hg,.inr ⟨(h++u).length,by simp,by simp,?_⟩⟩;rw[hl2,←hl3,List.getElem?_append_right (Nat.le_refl _),Nat.sub_self];rfl
end
structure SS where
 mode:Int
 orig:Int
 tm:List Int
 opn:List Int
 act:List FCor
 head:Int
 form:Int
 fs:Bool
 foster:Bool
 pend:Bytes
 skip:Bool
 sw:Int
 stop:Bool
def BS.snap (b:BS):SS:=⟨b.mode,b.orig,b.tm,b.opn.map Item.node,b.act,b.head,b.form,b.fs,b.foster,b.pend,b.skip,b.sw,b.stop⟩
def srowV (s:SS) (t o c:AVal):List AVal:=[.int .i64 s.mode,.int .i64 s.orig,t,o,c,.int .i64 s.head,.int .i64 s.form,.bool s.fs,.bool s.foster,.str s.pend,.bool s.skip,.int .i64 s.sw,.bool s.stop]
structure SnapV (h:AHeap) (lo:Nat) (s:SS) (t o c:AVal):Prop where
 t:IsInts s.tm t
 o:IntsV h lo o s.opn
 c:EntsV h lo c s.act
section
variable {h h':AHeap} {bi a lo:Nat} {o c t:AVal} {G G' F:Nat→Prop} {b:BS} {x:Int} {m:Nat}
theorem SnapV.frame {s:SS} (w:SnapV h lo s t o c) (hf:∀i,lo≤i→i<h.length→h'[i]?=h[i]?):SnapV h' lo s t o c:=⟨w.t,w.o.frame hf,w.c.frame hf⟩
theorem hmake_rows {h:AHeap} {n:Nat} (hn:n≤1000000000):hmake h 3 48 [I 0,S [],.slnil] (.int .i64 (n:Int)) (.int .i64 (n:Int))=some (h++[.cells (List.replicate n [I 0,S [],.slnil]).flatten],.msl h.length 0 n 3):=by
 have hm:maxBytes=140737488355328:=rfl;unfold hmake;simp only
 rw[if_pos ⟨by omega,by omega,by omega,rfl⟩];rfl
theorem f16b (w:BX h bi a o c t G b) (hc:IsEnts b.act c) (rm:Room b m):∃t' o' c' u,Ret cx 22 [.ptr (some (bi,0))] h (.agg (srowV b.snap t' o' c')) (h++u)∧SnapV (h++u) h.length b.snap t' o' c':=by
 have hmx:maxBytes=140737488355328:=rfl;have ho:=rm.opn;have hac:=rm.act;have htm:=rm.tm;obtain⟨t',e0,ht'⟩:=f44b w.t (by omega) h;have htc:t'.cells=[t']:=IsSl.cells ht';obtain⟨fs,hfs,hv⟩:=hc;have hfl:b.act.length=fs.length:=by rw[←hfs,List.length_map]
 have lo1:=IsSl.lenM w.o;have hev:Ev cx 22 [.ptr (some (bi,0))] h λr h'=>∃t' o' c' u,r= .agg (srowV b.snap t' o' c')∧h'=h++u∧SnapV (h++u) h.length b.snap t' o' c':=by
  unfold Ev;have ld:hload h none (.ptr (some (bi,2)))=some o:=w.ld 2;have k4:=w.l4;have k5:hload h none (.ptr (some (bi,5)))=some (.int .i64 b.orig):=w.ld 5;have k6:=w.l6;have k7:=w.l7;have k8:hload h none (.ptr (some (bi,8)))=some (.int .i64 b.form):=w.ld 8;have k14:hload h none (.ptr (some (bi,14)))=some (.bool b.fs):=w.ld 14;have k15:=w.l15;have k16:hload h none (.ptr (some (bi,16)))=some (.str b.pend):=w.ld 16;have k17:hload h none (.ptr (some (bi,17)))=some (.bool b.skip):=w.ld 17;have k18:hload h none (.ptr (some (bi,18)))=some (.int .i64 b.sw):=w.ld 18;have k19:hload h none (.ptr (some (bi,19)))=some (.bool b.stop):=w.ld 19;rw[t22_eq,t22];simp only[amS,Nat.reduceLeDiff,↓reduceIte,fillAt,bxS,(f31b w).call,k4,k5,k6,e0.call,W_same_self,k7,k8,k14,k15,k16,k17,k18,k19,htc,ld,lo1];refine W_loop_fin (i:=0) (λz:AVal×Nat=>[.agg [.int .i64 b.mode,.int .i64 b.orig,t',z.1,.slnil,.int .i64 b.head,.int .i64 b.form,.bool b.fs,.bool b.foster,.str b.pend,.bool b.skip,.int .i64 b.sw,.bool b.stop],.int .i64 (z.2:Int)]) (λz h1=>z.2≤b.opn.length∧∃u,h1=h++u∧IntsV (h++u) h.length z.1 ((b.opn.take z.2).map Item.node)) (λz=>b.opn.length-z.2) (λz h1=>∃u,h1=h++u∧IntsV (h++u) h.length z.1 (b.opn.map Item.node)) (.slnil,0) rfl ⟨Nat.zero_le _,[],by simp,.inl ⟨rfl,by simp⟩⟩ ?_ ?_
  ·rintro⟨V,n⟩ h1 ⟨hn,u,rfl,hV⟩;simp only at hn hV;have hVc:=hV.cells;rcases Nat.lt_or_ge n b.opn.length with hlt|hge
   ·have e1:=IsSl.eaddrM (k:= .i64) w.o hlt;rw[Item.row] at e1;obtain⟨u',V',g1,hV'⟩:=growI hV (by rw[List.length_map,List.length_take];omega) b.opn[n].node;have hV'c:=hV'.cells;have em:peval (.mksl 1) [.int .i64 b.opn[n].node]=some (.sl 1 [[.int .i64 b.opn[n].node]]):=rfl;simp only[amS,Nat.reduceLeDiff,↓reduceIte,bxS,show(n:Int)<(b.opn.length:Int) by omega,e1,em,g1,hV'c,pe_inc (show n<9223372036854775807 by omega)];exact .next (V',n+1) rfl ⟨hlt,u',rfl,by rw[List.take_succ_eq_append_getElem hlt,List.map_append];exact hV'⟩ (by simp only;omega)
   ·rw[List.take_of_length_le hge] at hV;simp only[amS,↓reduceIte,bxS,show¬(n:Int)<(b.opn.length:Int) by omega];exact .fin (V,n) rfl ⟨u,rfl,hV⟩
  ·rintro⟨O,n0⟩ h1 ⟨u,rfl,hO⟩;simp only at hO;have hOc:=hO.cells;have w1:=w.app (u:=u);have l31:=w1.l3;have lc:=IsSl.lenM hv;simp only[amS,↓reduceIte,bxS,l31,lc];refine W_make (hmake_rows (h:=h++u) (n:=fs.length) (by omega)) ?_;obtain⟨H0,hH0⟩:∃H0,H0=h++u:=⟨_,rfl⟩;rw[←hH0] at hO⊢;have c0:(H0++[AObj.cells (List.replicate fs.length [I 0,S [],.slnil]).flatten])[H0.length]?=some (.cells (List.replicate fs.length [I 0,S [],.slnil]).flatten):=by simp
   have l32:hload (H0++[AObj.cells (List.replicate fs.length [I 0,S [],.slnil]).flatten]) none (.ptr (some (bi,3)))=some c:=by rw[hH0];exact(w1.app).l3
   have hrep:(List.replicate fs.length [I 0,S [],AVal.slnil]).flatten.length=fs.length*3:=by rw[flat_len (z:=3) (by intro r hr;rw[(List.mem_replicate.1 hr).2];rfl),List.length_replicate]
   have cp:meval (.copy 3) (H0++[AObj.cells (List.replicate fs.length [I 0,S [],.slnil]).flatten]) [.msl H0.length 0 fs.length 3,c]=some (H0++[AObj.cells (fs.map Fmt.row).flatten],.int .i64 (fs.length:Int)):=by
    have er:rowsAt (H0++[AObj.cells (List.replicate fs.length [I 0,S [],.slnil]).flatten]) 3 c=some (fs.map Fmt.row):=by
     rcases hv with rfl|⟨rfl,h0⟩
     ·simp[rowsAt]
     ·rw[h0];rfl
    simp only[meval,hcopy,er,c0];rw[if_pos ⟨trivial,by simp,by rw[hrep];omega⟩];have h1:(List.replicate fs.length [I 0,S [],AVal.slnil]).flatten.drop (0+(fs.map Fmt.row).length*3)=[]:=List.drop_of_length_le (by rw[hrep,List.length_map];omega);rw[h1,List.take_zero,List.nil_append,List.append_nil,List.length_map,List.set_append_right _ _ (Nat.le_refl _),Nat.sub_self];rfl
   have lm:peval (.len false) [.msl H0.length 0 fs.length 3]=some (.int .i64 (fs.length:Int)):=rfl;simp only[amS,↓reduceIte,bxS,l32,cp,lm];refine W_loop_fin (i:=2) (λn:Nat=>[.int .i64 (n:Int)]) (λn h1=>n≤fs.length∧∃fs1:List Fmt,h1=H0++[.cells (fs1.map Fmt.row).flatten]∧fs1.length=fs.length∧fs1.map (·.c)=b.act) (λn=>fs.length-n) (λn h1=>∃fs1:List Fmt,h1=H0++[.cells (fs1.map Fmt.row).flatten]∧fs1.length=fs.length∧fs1.map (·.c)=b.act) 0 rfl ⟨Nat.zero_le _,fs,rfl,rfl,hfs⟩ ?_ ?_
   ·rintro n h1 ⟨hn,fs1,rfl,hl1,hm1⟩;rcases Nat.lt_or_ge n fs.length with hlt|hge
    ·have hlt1:n<fs1.length:=by omega
     have ef:fs1[n].c=b.act[n]'(by omega):=by simp only[←hm1,List.getElem_map]
     have hal:=(rm.ents fs1[n].c (by rw[ef];exact List.getElem_mem _)).2.1;have e1:peval (.eaddr 3) [.msl H0.length 0 fs.length 3,.int .i64 (n:Int)]=some (.ptr (some (H0.length,n*3))):=eaddr_msl hlt;have cc:(H0++[AObj.cells (fs1.map Fmt.row).flatten])[H0.length]?=some (.cells (fs1.map Fmt.row).flatten):=by simp
     have hg:(fs1.map Fmt.row)[n]?=some fs1[n].row:=by rw[List.getElem?_map,List.getElem?_eq_getElem hlt1];rfl
     have l2:hload (H0++[AObj.cells (fs1.map Fmt.row).flatten]) none (.ptr (some (H0.length,n*3+2)))=some fs1[n].v:=by simp only[hload,cc,partOf_none];exact flat_get (rowF fs1) (by decide) hg
     obtain⟨av,r1,hav⟩:=f45 (h:=H0++[AObj.cells (fs1.map Fmt.row).flatten]) fs1[n].ok (by omega);have havc:av.cells=[av]:=IsSl.cells hav;have s1:hstore (H0++[AObj.cells (fs1.map Fmt.row).flatten]) 1 (.ptr (some (H0.length,n*3+2))) av=some (H0++[.cells ((fs1.set n ⟨fs1[n].c,av,hav⟩).map Fmt.row).flatten]):=by have e:=flat_set1 (rows:=fs1.map Fmt.row) (i:=n) (k:=2) (v:=av) (rowF fs1) (by simpa using hlt1) (by decide);simp only[hstore,cc,havc,List.length_singleton,true_and];rw[if_pos (by rw[flat_len (rowF fs1),List.length_map];omega),e,List.set_append_right _ _ (Nat.le_refl _),Nat.sub_self,List.map_set,List.getElem_map];rfl
     simp only[amS,bxS,show(n:Int)<(fs.length:Int) by omega,e1,l2,r1.call,s1,pe_inc (show n<9223372036854775807 by omega)];refine .next (n+1) rfl ⟨hlt,_,rfl,by rw[List.length_set];exact hl1,?_⟩ (by omega)
     rw[List.map_set,hm1];have hn':n<b.act.length:=by omega
     show b.act.set n fs1[n].c=b.act;rw[ef,List.set_getElem_self]
    ·simp only[amS,bxS,show¬(n:Int)<(fs.length:Int) by omega];exact .fin n rfl ⟨fs1,rfl,hl1,hm1⟩
   ·rintro n h1 ⟨fs1,rfl,hl1,hm1⟩;simp only[amS,↓reduceIte];refine⟨_,rfl,t',O,.msl H0.length 0 fs.length 3,u++[.cells (fs1.map Fmt.row).flatten],rfl,by rw[hH0,List.append_assoc],ht',?_,?_⟩
    ·rw[←List.append_assoc,←hH0];exact hO.frame λi _ hi=>List.getElem?_append_left hi
    ·rw[←List.append_assoc,←hH0];exact .inr ⟨H0.length,fs1,by rw[hH0];simp,by rw[hl1],by simp,hm1⟩
 obtain⟨r,h',hr,t',o',c',u,rfl,rfl,hs⟩:=hev.ret;exact⟨t',o',c',u,hr,hs⟩
end
end Go.Am
end
section
namespace Go.Am
open Go
set_option maxRecDepth 100000
structure EntsAt (h:AHeap) (v:AVal) (fs:List Fmt):Prop where
 len:peval (.len false) [v]=some (.int .i64 (fs.length:Int))
 at_:∀k (hk:k<fs.length),∃id o,peval (.eaddr 3) [v,.int .i64 (k:Int)]=some (.ptr (some (id,o)))∧hload h none (.ptr (some (id,o)))=some (.int .i64 fs[k].c.node)∧hload h none (.ptr (some (id,o+1)))=some (.str fs[k].c.name)∧hload h none (.ptr (some (id,o+2)))=some fs[k].v
def NRd (h:AHeap) (x:ANode) (r:List AVal):Prop:=∃K V,r=[.int .i64 x.kind,.int .i64 x.par,K,.int .i64 x.doc,.int .i64 x.space,.str x.name,V,.str x.data,.str x.pub,.str x.sys,.bool x.quirks,.int .i64 x.cont,.int .i64 x.host]∧IntsAt h K x.kids∧AttrsIn h V x.attrs∧K.cells=[K]∧V.cells=[V]
def NodesR (h:AHeap) (v:AVal) (l:List ANode):Prop:=∃rows:List (List AVal),IsSl 13 rows v∧rows.length=l.length∧∀k (h1:k<rows.length) (h2:k<l.length),NRd h l[k] rows[k]
def NodesV (h:AHeap) (lo:Nat) (v:AVal) (l:List ANode):Prop:=∃rows:List (List AVal),IsSl 13 rows v∧rows.length=l.length∧∀k (h1:k<rows.length) (h2:k<l.length),NRow h lo l[k] rows[k]
section
variable {h h':AHeap} {lo lo':Nat} {v v':AVal}
theorem EntsV.at_ {l:List FCor} (hv:EntsV h lo v l):∃fs:List Fmt,fs.map (·.c)=l∧EntsAt h v fs:=by
 rcases hv with⟨rfl,rfl⟩|⟨id,fs,_,rfl,hc,e⟩
 ·exact⟨[],rfl,rfl,λk hk=>by simp at hk⟩
 ·refine⟨fs,e,rfl,λk hk=>⟨id,k*3,eaddr_msl hk,?_⟩⟩;have hg:(fs.map Fmt.row)[k]?=some fs[k].row:=by rw[List.getElem?_map,List.getElem?_eq_getElem hk];rfl
  have ld:∀j,j<3→hload h none (.ptr (some (id,k*3+j)))=fs[k].row[j]?:=λj hj=>by simp only[hload,hc,partOf_none];exact flat_get (rowF fs) hj hg
  have l0:=ld 0 (by decide);rw[Nat.add_zero] at l0;exact⟨l0,ld 1 (by decide),ld 2 (by decide)⟩
theorem Up.le {N N':Nat} (hu:Up N v) (hl:N'≤N):Up N' v:=λid k e=>Nat.le_trans hl (hu id k e)
theorem NRow.rd {x:ANode} {r:List AVal} (hr:NRow h lo x r):NRd h x r:=let⟨K,V,e,h1,h2,_⟩:=hr;⟨K,V,e,h1.ints,h2.in_,IsSl.cells h1,h2.cells⟩
theorem NRow.frame {x:ANode} {r:List AVal} (hr:NRow h lo x r) (hf:∀i,lo≤i→i<h.length→h'[i]?=h[i]?) (hl:h.length≤h'.length):NRow h' lo x r:=by
 obtain⟨K,V,e,h1,h2,h3⟩:=hr;refine⟨K,V,e,h1,?_,h3⟩;rcases h2 with h2|⟨id,e1,e2,e3⟩
 ·exact .inl h2
 ·exact .inr ⟨id,e1,by rw[hf id (h3 _ _ e1) e3];exact e2,by omega⟩
theorem NRow.low {x:ANode} {r:List AVal} (hr:NRow h lo x r) (hl:lo'≤lo):NRow h lo' x r:=let⟨K,V,e,h1,h2,h3⟩:=hr;⟨K,V,e,h1,h2,h3.le hl⟩
theorem NodesV.rd {l:List ANode} (hv:NodesV h lo v l):NodesR h v l:=let⟨rows,h1,h2,h3⟩:=hv;⟨rows,h1,h2,λk a b=>(h3 k a b).rd⟩
theorem NodesV.frame {l:List ANode} (hv:NodesV h lo v l) (hf:∀i,lo≤i→i<h.length→h'[i]?=h[i]?) (hl:h.length≤h'.length):NodesV h' lo v l:=let⟨rows,h1,h2,h3⟩:=hv;⟨rows,h1,h2,λk a b=>(h3 k a b).frame hf hl⟩
theorem f18 {l:List Int} (hv:IntsAt h v l) (hv':IntsAt h v' l) (hb:l.length≤1000000000):Ret cx 26 [v,v'] h tt h:=by
 rw[ret_iff,t26_eq,t26];simp only[amS,bxS,hv.len,hv'.len,ne_eq,eq_self];refine W_loop_st (λn:Nat=>[ff,.int .i64 (n:Int)]) (λn h1=>n≤l.length∧h1=h) (λn=>l.length-n) 0 rfl ⟨Nat.zero_le _,rfl⟩ ?_;rintro n h1 ⟨hn,rfl⟩;rcases Nat.lt_or_ge n l.length with hlt|hge
 ·obtain⟨p,a1,a2⟩:=hv.at_ n hlt;obtain⟨p',b1,b2⟩:=hv'.at_ n hlt;simp only[amS,bxS,hv.len,show(n:Int)<(l.length:Int) by omega,a1,a2,b1,b2,ne_eq,eq_self,pe_inc (show n<9223372036854775807 by omega)];exact LoopPost.next (n+1) rfl ⟨hlt,rfl⟩ (by omega)
 ·simp only[amS,bxS,hv.len,show¬(n:Int)<(l.length:Int) by omega]
theorem geqA (y:Attr):peval (.geq true [.i,.s,.s]) [.agg y.row,.agg y.row]=some (.bool false):=by rw[pe_geq_agg];simp[Attr.row,flatEqs,flatEq]
theorem f285c {l:List Attr} (hv:AttrsIn h v l) (hv':AttrsIn h v' l) (hb:l.length≤1000000000):Ret cx 17 [v,v'] h tt h:=by
 rw[ret_iff,t17_eq,t17];simp only[amS,bxS,hv.len,hv'.len,ne_eq,eq_self];refine W_loop_st (λn:Nat=>[ff,.int .i64 (n:Int)]) (λn h1=>n≤l.length∧h1=h) (λn=>l.length-n) 0 rfl ⟨Nat.zero_le _,rfl⟩ ?_;rintro n h1 ⟨hn,rfl⟩;rcases Nat.lt_or_ge n l.length with hlt|hge
 ·obtain⟨p,a1,a2⟩:=hv.at_ n hlt;obtain⟨p',b1,b2⟩:=hv'.at_ n hlt;simp only[amS,bxS,hv.len,show(n:Int)<(l.length:Int) by omega,a1,a2,b1,b2,geqA,pe_inc (show n<9223372036854775807 by omega)];exact LoopPost.next (n+1) rfl ⟨hlt,rfl⟩ (by omega)
 ·simp only[amS,bxS,hv.len,show¬(n:Int)<(l.length:Int) by omega]
theorem f87 {fs fs':List Fmt} (hv:EntsAt h v fs) (hv':EntsAt h v' fs') (he:fs.map (·.c)=fs'.map (·.c)) (hb:fs.length≤1000000000) (ha:∀e∈fs,e.c.attrs.length≤1000000000):Ret cx 71 [v,v'] h tt h:=by
 have hl:fs'.length=fs.length:=by have:=congrArg List.length he;simpa using this.symm
 have l1:=hv.len;have l2:=hv'.len;rw[hl] at l2;rw[ret_iff,t71_eq,t71];simp only[amS,bxS,l1,l2,ne_eq,eq_self];refine W_loop_st (λn:Nat=>[ff,.int .i64 (n:Int)]) (λn h1=>n≤fs.length∧h1=h) (λn=>fs.length-n) 0 rfl ⟨Nat.zero_le _,rfl⟩ ?_;rintro n h1 ⟨hn,rfl⟩;rcases Nat.lt_or_ge n fs.length with hlt|hge
 ·have hlt':n<fs'.length:=by omega
  have ec:fs'[n].c=fs[n].c:=by have:=congrArg (λl=>l[n]?) he;simp only[List.getElem?_map,List.getElem?_eq_getElem hlt,List.getElem?_eq_getElem hlt',Option.map_some,Option.some.injEq] at this;exact this.symm
  obtain⟨id,o,a1,a2,a3,a4⟩:=hv.at_ n hlt;obtain⟨id',o',b1,b2,b3,b4⟩:=hv'.at_ n hlt';rw[ec] at b2 b3;have hav:IsAttrs fs[n].c.attrs fs[n].v:=fs[n].ok;have hav':IsAttrs fs[n].c.attrs fs'[n].v:=by rw[←ec];exact fs'[n].ok
  have hab:=ha _ (List.getElem_mem hlt);have m1:=IsSl.lenM hav;have m2:=IsSl.lenM hav';generalize fs[n].v=av at*;generalize fs'[n].v=av' at*;generalize fs[n].c.attrs=al at*;simp only[amS,bxS,l1,show(n:Int)<(fs.length:Int) by omega,a1,a2,a3,a4,b1,b2,b3,b4,ne_eq,eq_self,m1,m2];refine W_loop_st (λj:Nat=>[ff,.int .i64 (j:Int)]) (λj h2=>j≤al.length∧h2=h1) (λj=>al.length-j) 0 rfl ⟨Nat.zero_le _,rfl⟩ ?_;rintro j h2 ⟨hj,rfl⟩;rcases Nat.lt_or_ge j al.length with hjl|hjg
  ·have e1:=IsSl.eaddrM (k:= .i64) hav hjl;have e2:=IsSl.eaddrM (k:= .i64) hav' hjl;have hr3:(Attr.row al[j]).length=3:=rfl;have ht3:(Attr.row al[j]).take 3=Attr.row al[j]:=rfl;simp only[amS,bxS,a1,a4,b1,b4,m1,show(j:Int)<(al.length:Int) by omega,e1,e2,hr3,ht3,Nat.le_refl,geqA,pe_inc (show j<9223372036854775807 by omega)];exact LoopPost.next (j+1) rfl ⟨hjl,rfl⟩ (by omega)
  ·simp only[amS,bxS,a1,a4,m1,show¬(j:Int)<(al.length:Int) by omega,pe_inc (show n<9223372036854775807 by omega)];exact LoopPost.next (n+1) rfl ⟨hlt,rfl⟩ (by omega)
 ·simp only[amS,bxS,l1,show¬(n:Int)<(fs.length:Int) by omega]
theorem f22 {s:SS} {t o c t' o' c':AVal} (w:SnapV h lo s t o c) (w':SnapV h lo' s t' o' c') (b1:s.tm.length≤1000000000) (b2:s.opn.length≤1000000000) (b3:s.act.length≤1000000000) (b4:∀e∈s.act,e.attrs.length≤1000000000):Ret cx 25 [.agg (srowV s t o c),.agg (srowV s t' o' c')] h tt h:=by
 obtain⟨fs,e1,he⟩:=w.c.at_;obtain⟨fs',e1',he'⟩:=w'.c.at_;have r1:=f18 w.o.ints w'.o.ints b2;have r2:=f87 he he' (e1.trans e1'.symm) (by rw[←e1,List.length_map] at b3;exact b3) (λe hm=>b4 e.c (by rw[←e1];exact List.mem_map_of_mem hm));have tc:t.cells=[t]:=IsSl.cells w.t;have tc':t'.cells=[t']:=IsSl.cells w'.t;have oc:=w.o.cells;have oc':=w'.o.cells;have cc:=w.c.cells;have cc':=w'.c.cells;have l1:=IsSl.lenM w.t;have l2:=IsSl.lenM w'.t;rw[ret_iff,t25_eq,t25,srowV,srowV];simp only[amS,bxS,l1,l2,ne_eq,eq_self,r1.call,r2.call];refine W_loop_st (λn:Nat=>[ff,.int .i64 (n:Int)]) (λn h1=>n≤s.tm.length∧h1=h) (λn=>s.tm.length-n) 0 rfl ⟨Nat.zero_le _,rfl⟩ ?_;rintro n h1 ⟨hn,rfl⟩;rcases Nat.lt_or_ge n s.tm.length with hlt|hge
 ·have a1:=IsSl.eaddrM (k:= .i64) w.t hlt;have a2:=IsSl.eaddrM (k:= .i64) w'.t hlt;rw[intRow] at a1 a2;simp only[amS,bxS,l1,show(n:Int)<(s.tm.length:Int) by omega,a1,a2,ne_eq,eq_self,pe_inc (show n<9223372036854775807 by omega)];exact LoopPost.next (n+1) rfl ⟨hlt,rfl⟩ (by omega)
 ·simp only[amS,bxS,l1,show¬(n:Int)<(s.tm.length:Int) by omega,eq_self,decide_true]
theorem f257 {x:ANode} {r r':List AVal} (hr:NRd h x r) (hr':NRd h x r') (hb:x.attrs.length≤1000000000):Ret cx 140 [.agg r,.agg r'] h tt h:=by obtain⟨K,V,rfl,k1,k2,k3,k4⟩:=hr;obtain⟨K',V',rfl,k1',k2',k3',k4'⟩:=hr';have r1:=f285c k2 k2' hb;rw[ret_iff,t140_eq,t140];simp only[amS,bxS,eq_self,r1.call,decide_true]
theorem f183 {x:ANode} {r r':List AVal} (hr:NRd h x r) (hr':NRd h x r') (hb:x.attrs.length≤1000000000) (hk:x.kids.length≤1000000000):Ret cx 79 [.agg r,.agg r'] h tt h:=by have r1:=f257 hr hr' hb;obtain⟨K,V,rfl,k1,k2,k3,k4⟩:=hr;obtain⟨K',V',rfl,k1',k2',k3',k4'⟩:=hr';have r2:=f18 k1 k1' hk;rw[ret_iff,t79_eq,t79];simp only[amS,eq_self,r1.call,r2.call,decide_true]
theorem f90 {l:List ANode} (hv:NodesR h v l) (hv':NodesR h v' l) (hb:l.length≤1000000000) (ha:∀x∈l,x.attrs.length≤1000000000∧x.kids.length≤1000000000):Ret cx 32 [v,v'] h tt h:=by
 obtain⟨rows,s1,e1,n1⟩:=hv;obtain⟨rows',s1',e1',n1'⟩:=hv';have l1:=s1.len;have l2:=s1'.len;rw[e1] at l1;rw[e1'] at l2;rw[ret_iff,t32_eq,t32];simp only[amS,bxS,l1,l2,ne_eq,eq_self];refine W_loop_st (λn:Nat=>[ff,.int .i64 (n:Int)]) (λn h1=>n≤l.length∧h1=h) (λn=>l.length-n) 0 rfl ⟨Nat.zero_le _,rfl⟩ ?_;rintro n h1 ⟨hn,rfl⟩;rcases Nat.lt_or_ge n l.length with hlt|hge
 ·have a1:=s1.eaddr (k:= .i64) (show n<rows.length by omega);have a2:=s1'.eaddr (k:= .i64) (show n<rows'.length by omega);have q1:=n1 n (by omega) hlt;have q2:=n1' n (by omega) hlt;have hm:=ha _ (List.getElem_mem hlt);have r1:=f183 q1 q2 hm.1 hm.2;obtain⟨K,V,er,_⟩:=q1;obtain⟨K',V',er',_⟩:=q2;rw[er] at a1 r1;rw[er'] at a2 r1;simp only[amS,Nat.reduceLeDiff,↓reduceIte,bxS,l1,show(n:Int)<(l.length:Int) by omega,a1,a2,r1.call,pe_inc (show n<9223372036854775807 by omega)];exact LoopPost.next (n+1) rfl ⟨hlt,rfl⟩ (by omega)
 ·simp only[amS,↓reduceIte,bxS,l1,show¬(n:Int)<(l.length:Int) by omega]
end
theorem nd_get {A:Ar} {k:Nat} (hk:k<A.n.length):A.has ((k:Int)+1)∧A.nd ((k:Int)+1)=A.n[k]:=by
 have h1:A.has ((k:Int)+1):=by unfold Ar.has;omega
 refine⟨h1,?_⟩;unfold Ar.nd;rw[if_pos h1,List.getD_eq_getElem?_getD,show((k:Int)+1).toNat-1=k by omega,List.getElem?_eq_getElem hk];rfl
section
variable {h h':AHeap} {a n:Nat} {m:Option Nat} {ps:List PN} {A:Ar} {x:Int}
theorem f91w (w:PA h a n m ps A) (lm:Lim A) (hk:∀x,(A.nd x).kids.length≤1000000000) (hb:A.n.length≤900000000):∃v u,Ret cx 30 [.ptr (some (a,0))] h v (h++u)∧NodesV (h++u) h.length v A.n:=by
 have hmx:maxBytes=140737488355328:=rfl;have hpl:A.n.length=ps.length:=by rw[w.e,List.length_map]
 have hev:Ev cx 30 [.ptr (some (a,0))] h λr h'=>∃u,h'=h++u∧NodesV (h++u) h.length r A.n:=by
  unfold Ev;rw[t30_eq,t30];simp only[amS,bxS,w.nodes,show peval (.len false) [.msl n 0 ps.length 13]=some (.int .i64 (ps.length:Int)) from rfl];refine W_loop_st (λz:AVal×Nat=>[z.1,.int .i64 (z.2:Int)]) (λz h1=>z.2≤ps.length∧∃u,h1=h++u∧NodesV (h++u) h.length z.1 (A.n.take z.2)) (λz=>ps.length-z.2) (.slnil,0) rfl ⟨Nat.zero_le _,[],by simp,[],.nil,by simp,λk h1 h2=>by simp at h1⟩ ?_;rintro⟨V,k⟩ h1 ⟨hk1,u,rfl,hV⟩;simp only at hk1 hV;have w1:PA (h++u) a n m ps A:=w.frame λi hi=>List.getElem?_append_left (w.lt i hi);rcases Nat.lt_or_ge k ps.length with hlt|hge
  ·obtain⟨hx,ex⟩:=nd_get (A:=A) (k:=k) (by omega);obtain⟨r,t,r1,hr⟩:=f184w w1 lm hx (hk _);have ea:peval (.eaddr 13) [.msl n 0 ps.length 13,.int .i64 (k:Int)]=some (.ptr (some (n,nP n ((k:Int)+1)))):=by have:=eaddr_msl (k:= .i64) (id:=n) (z:=13) hlt;rw[this];unfold nP;congr 4
   obtain⟨rows,s1,e1,n1⟩:=hV;rw[List.length_take,Nat.min_eq_left (by omega)] at e1;obtain⟨K,W,er,hr2⟩:=hr;have em:peval (.mksl 13) [.agg r]=some (.sl 13 [r]):=pe_mksl1 (a:= .agg r) (by rw[er];rfl) (by decide);have ap:=IsSl.app1 (b:=168) (row:=r) s1 (by omega);simp only[amS,bxS,show(k:Int)<(ps.length:Int) by omega,w1.nodes,ea,r1.call,em,ap,pe_inc (show k<9223372036854775807 by omega)];refine LoopPost.next (_,k+1) rfl ⟨hlt,u++t,by rw[List.append_assoc],rows++[r],.mk,by rw[List.length_append,List.length_take,e1];simp;omega,λj h1 h2=>?_⟩ (by simp only;omega);rw[←List.append_assoc];rw[List.getElem_take];by_cases hj:j<rows.length
   ·rw[List.getElem_append_left hj];have:=n1 j hj (by rw[List.length_take];omega);rw[List.getElem_take] at this;exact this.app
   ·have ej:j=k:=by simp at h1;omega
    subst ej;rw[List.getElem_append_right (by omega)];simp only[e1,Nat.sub_self,List.getElem_cons_zero];rw[←ex];exact NRow.low (lo:=(h++u).length) ⟨K,W,er,hr2⟩ (by simp)
  ·rw[List.take_of_length_le (by omega)] at hV;simp only[amS,bxS,show¬(k:Int)<(ps.length:Int) by omega];exact⟨_,rfl,u,rfl,hV⟩
 obtain⟨r,h',hr,u,rfl,hV⟩:=hev.ret;exact⟨r,u,hr,hV⟩
end
end Go.Am
end
section
namespace Go.Am
open Go
set_option maxRecDepth 100000
def PB (h:AHeap) (bi:Nat) (b:BS) (F:Nat→Prop):Prop:=∃a o c t G,BX h bi a o c t G b∧IsEnts b.act c∧F=own bi G
structure Fin (b:BS) (j:Nat):Prop where
 ok:BOk b
 sz:Sz b j
section
variable {h h':AHeap} {bi wi:Nat} {b:BS} {F F2:Nat→Prop} {q:BOp} {av:AVal} {j:Nat}
theorem PB.lt (w:PB h bi b F) {i:Nat} (hi:F i):i<h.length:=by
 obtain⟨a,o,c,t,G,w,_,rfl⟩:=w;rcases hi with rfl|hi
 ·exact w.lt
 ·exact w.w.lt hi
theorem PB.frame (w:PB h bi b F) (hf:∀i,F i→h'[i]?=h[i]?):PB h' bi b F:=by obtain⟨a,o,c,t,G,w,hc,rfl⟩:=w;exact⟨a,o,c,t,G,w.frame hf,hc,rfl⟩
theorem PB.app (w:PB h bi b F) {u:AHeap}:PB (h++u) bi b F:=w.frame λi hi=>List.getElem?_append_left (w.lt hi)
theorem Fin.le {k:Nat} (f:Fin b j) (hk:k≤j):Fin b k:=⟨f.ok,f.sz.rm.le (by omega),by have:=f.sz.opn;omega,by have:=f.sz.act;omega⟩
theorem Fin.do (f:Fin b (j+1)) (hq:QOk q):Fin (doB b q).1 j:=⟨doB_ok f.ok,doB_sz f.sz hq⟩
theorem BStart.fin (s:BStart):Fin s.b 100:=⟨s.ok.1,s.ok.2⟩
theorem f20e (w:PB h bi b F) (f:Fin b (j+1)) (hq:QOk q) (hv:IsAttrs q.attrs av):∃h' F',Ret cx 43 [.ptr (some (bi,0)),.agg (qrow q av)] h (.agg (doB b q).2.row) h'∧PB h' bi (doB b q).1 F'∧Ext h F h' F':=by obtain⟨a,o,c,t,G,w,hc,rfl⟩:=w;obtain⟨h',o',c',t',G',r,w',hc',x⟩:=f20b w hc f.ok f.sz hq hv;exact⟨h',_,r,⟨a,o',c',t',G',w',hc',rfl⟩,x⟩
theorem f10e (s:BStart) (hv:IsAttrs s.attrs av) (hl:SmallA s.attrs) (h:AHeap):∃h' bi F,Ret cx 13 [.agg (srow s av)] h (.ptr (some (bi,0))) h'∧PB h' bi s.b F∧Ext h (λ_=>False) h' F:=by obtain⟨h',bi,a,o,c,t,G,r,w,hc,x⟩:=f10b h s hv hl;exact⟨h',bi,_,r,⟨a,o,c,t,G,w,hc,rfl⟩,x⟩
end
structure QO where
 q:BOp
 v:AVal
 ok:IsAttrs q.attrs v
def QO.row (x:QO):List AVal:=qrow x.q x.v
theorem QO.len_row {x:QO}:x.row.length=9:=rfl
theorem QO.take_row {x:QO}:x.row.take 9=x.row:=rfl
def IsOps (l:List QO) (v:AVal):Prop:=IsSl 9 (l.map QO.row) v
noncomputable def playB:BS→List QO→BS
 |b,[]=>b
 |b,x::l=>playB (doB b x.q).1 l
theorem playB_snoc:∀{l:List QO} {b:BS} {x:QO},playB b (l++[x])=(doB (playB b l) x.q).1
 |[],_,_=>rfl
 |y::l,b,x=>by rw[List.cons_append,playB,playB_snoc,playB]
theorem play_fin:∀{l:List QO} {b:BS} {j:Nat},Fin b (j+l.length)→(∀x∈l,QOk x.q)→Fin (playB b l) j
 |[],_,_,f,_=>f
 |x::l,b,j,f,hq=>by rw[playB];exact play_fin (Fin.do (j:=j+l.length) (f.le (by simp only[List.length_cons];omega)) (hq x (by simp))) λy hy=>hq y (by simp[hy])
end Go.Am
end
section
namespace Go.Am
open Go
set_option maxRecDepth 100000
theorem run_known:Ev cx 12 [] [] λr _=>r= .bool true:=Ev_of_tab 3000 (by kernel_rfl)
end Go.Am
end
