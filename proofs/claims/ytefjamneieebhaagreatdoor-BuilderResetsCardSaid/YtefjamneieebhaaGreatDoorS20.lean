/- Lemmas -/
import Derived.Test.YtefjamneieebhaaGreatDoorS19
set_option linter.unusedVariables false
set_option linter.unusedSimpArgs false
section
namespace Go.Am
set_option maxRecDepth 100000
structure Le(A A':Ar):Prop where
 has:∀h,A.has h->A'.has h
 kind:∀h,A.has h->(A'.nd h).kind=(A.nd h).kind
 AZ:∀h,A.has h->(A'.nd h).AZ=(A.nd h).AZ
 name:∀h,A.has h->(A'.nd h).name=(A.nd h).name
section
variable{A A' A'':Ar}{h k e p n b:Int}{x:Eg}
theorem Le.refl:Le A A:=⟨λ_ h=>h,λ_ _=>rfl,λ_ _=>rfl,λ_ _=>rfl⟩
theorem Le.trans(h1:Le A A')(h2:Le A' A''):Le A A'':=⟨λh hh=>h2.has h (h1.has h hh),λh hh=>by rw[h2.kind h (h1.has h hh),h1.kind h hh],λh hh=>by rw[h2.AZ h (h1.has h hh),h1.AZ h hh],λh hh=>by rw[h2.name h (h1.has h hh),h1.name h hh]⟩
theorem Le.uz(h1:∀h,A.has h->A'.has h)(h2:∀h,A.has h->A'.nd h=A.nd h):Le A A':=⟨h1,λh hh=>by rw[h2 h hh],λh hh=>by rw[h2 h hh],λh hh=>by rw[h2 h hh]⟩
theorem Vw(hh:A.has h):h≠A.len+1:=λe=>Qb (A:=A) (e▸hh)
theorem Lb(hh:A.has h):(A.add x).nd h=A.nd h:=by rw[HM,if_neg (Vw hh)]
theorem iM:Le A (A.add x):= .uz (λh hh=>Di.2 (.inl hh)) λh hh=>Lb hh
theorem YT(h1:x.kind=(A.nd h).kind)(h2:x.AZ=(A.nd h).AZ)(h3:x.name=(A.nd h).name):Le A (A.set h x):=by
 refine⟨λk hk=>Hw.2 hk,?_,?_,?_⟩<;>intro k hk<;>rw[IK]<;>split;·rename_i e;rw[e.1,h1]
 .rfl
 .rename_i e;rw[e.1,h2]
 .rfl
 .rename_i e;rw[e.1,h3]
 .rfl
theorem mD{l:List Int}:Le A (A.set h {A.nd h with AY:=l}):=YT rfl rfl rfl
theorem mE:Le A (A.set h {A.nd h with E6:=p}):=YT rfl rfl rfl
theorem O_:Le A (A.cut n):=by
 unfold Ar.cut;simp only;split;·exact .refl
 .exact Le.trans mD mE
theorem P_:Le A (A.L7 p n b):=Le.trans mD mE
theorem Nd:Le A (A.Fe p n b):=by unfold Ar.Fe;split;exact O_.trans P_;exact .refl
theorem H6:Le A (A.DZ n p b):=by unfold Ar.DZ;split;exact .refl;exact Nd
theorem Nf(ok:Eu A e):Eu (A.DZ n p b) e:=by unfold Ar.DZ;split;exact ok;exact OX ok
theorem cN{d sp:Int}{nm:Ap}{l:List AU}(hh:A.has h):(A.elem d sp nm l).has h/\(A.elem d sp nm l).nd h=A.nd h:=by
 have hne:=Vw hh;unfold Ar.elem;simp only
 split;·have h1:(A.add {kind:=4,Cy:=d,AZ:=sp,name:=nm,Ax:=Ce l}).has h:=Di.2 (.inl hh);refine⟨Hw.2 (Di.2 (.inl (Mv h1))),?_⟩;rw[IK,if_neg (λe=>hne e.1),Lb (Mv h1),Vu (.inl (Vw h1)),Lb hh]
 .exact⟨Di.2 (.inl hh),Lb hh⟩
theorem cO{d sp:Int}{nm:Ap}{l:List AU}:(A.elem d sp nm l).has (A.len+1)/\((A.elem d sp nm l).nd (A.len+1)).kind=4/\((A.elem d sp nm l).nd (A.len+1)).AZ=sp/\((A.elem d sp nm l).nd (A.len+1)).name=nm/\((A.elem d sp nm l).nd (A.len+1)).AY=[]/\((A.elem d sp nm l).nd (A.len+1)).E6=0/\((A.elem d sp nm l).nd (A.len+1)).Cy=d/\((A.elem d sp nm l).nd (A.len+1)).Ax=Ce l:=by
 unfold Ar.elem;simp only
 split;·have h1:(A.add {kind:=4,Cy:=d,AZ:=sp,name:=nm,Ax:=Ce l}).has (A.len+1):=Di.2 (.inr rfl);have h2:=Di (x:={kind:=2,DT:=A.len+1,Cy:=(A.add {kind:=4,Cy:=d,AZ:=sp,name:=nm,Ax:=Ce l}).ET d}).2 (.inl (Mv (h:=d) h1));rw[Hw,IK,if_pos ⟨rfl,h2⟩];exact⟨h2,rfl,rfl,rfl,rfl,rfl,rfl,rfl⟩
 .rw[HM,if_pos rfl];exact⟨Di.2 (.inr rfl),rfl,rfl,rfl,rfl,rfl,rfl,rfl⟩
theorem YU{d sp:Int}{nm:Ap}{l:List AU}:Le A (A.elem d sp nm l):= .uz (λ_ h=>(cN h).1) λ_ h=>(cN h).2
theorem cP{l:List AU}(ok:Eu A e)(hh:A.has h)(hk:(A.nd h).kind=4)(hl:∀a∈l,0<=a.AZ/\a.AZ<=7):Eu (A.Iu h l) e:=by have hx:=ok.Q8 h hh;refine yH ok hh ⟨hx.k,hx.AY,λh=>absurd hk h,hx.nm,hx.dt,hx.data,hx.Cq,hx.sp,λa ha=>hl a (cG ha),XI l,hx.S5,hx.Ou,hx.root,hx.rX⟩ rfl rfl rfl ⟨(ok.Cy h hh).1,(ok.Cy h hh).2,ok.YQ h hh⟩ rfl rfl λhT=>hT
theorem iN{s:Ap}(ok:Eu A e)(hh:A.has h)(hk:(A.nd h).kind=5\/(A.nd h).kind=6):Eu (A.Rb h s) e:=by have hx:=ok.Q8 h hh;refine yH ok hh ⟨hx.k,hx.AY,hx.elem,hx.nm,hx.dt,λh5 h6=>by have:(A.nd h).kind≠5:=h5;have:(A.nd h).kind≠6:=h6;omega,hx.Cq,hx.sp,hx.dw,hx.Ce,hx.S5,hx.Ou,hx.root,hx.rX⟩ rfl rfl rfl ⟨(ok.Cy h hh).1,(ok.Cy h hh).2,ok.YQ h hh⟩ rfl rfl λhT=>hT
theorem YV{kd d:Int}{s:Ap}(ok:Eu A e)(he:e≠A.len+1)(hd:A.has d/\(A.nd d).kind=1)(hk:kd=5\/kd=6):Eu (A.add {kind:=kd,Cy:=d,data:=s}) e:=by
 refine Vt ok ?_ (.inr ⟨by simp;omega,hd⟩) rfl rfl rfl rfl (λh=>?_);·constructor<;>simp[Ce,GA]<;>omega
 .have:=h.1;simp at this;omega
theorem iO{s:Ap}:Le A (A.Rb h s):=YT rfl rfl rfl
theorem cQ{l:List AU}:Le A (A.Iu h l):=YT rfl rfl rfl
theorem iP{sp:Int}{a:AU}:0<=(CM sp a).AZ/\(CM sp a).AZ<=7:=by
 unfold CM;split
 .split
  .rename_i s m he;have:∀x∈fT,0<=x.2.1/\x.2.1<=7:=by decide
   unfold DF at he;cases hf:fT.find? λx=>decide (Jc sp a.name=x.1) with
   |none=>rw[hf] at he;cases he
   |some y=>rw[hf] at he;have:=this y (List.mem_of_find?_eq_some hf);simp at he;rw[he] at this;exact this
  .exact⟨HT 0,by simp⟩
 .exact⟨HT 0,by simp⟩
end
structure DG(b:BS):Prop where
 ok:Eu b.a 0
 Cy:b.a.has b.Cy/\(b.a.nd b.Cy).kind=1
 op:∀i∈b.AO,b.a.has i.node/\(b.a.nd i.node).kind=4/\(b.a.nd i.node).AZ=i.AZ/\(b.a.nd i.node).name=i.name
 dx:(b.AO.map Item.node).Nodup
 ac:∀e∈b.A4,e.node=0\/(b.a.has e.node/\(b.a.nd e.node).kind=4)
 sC:((b.A4.map Cc.node).filter λn=>decide (n≠0)).Nodup
section
variable{b:BS}{t:Int}
theorem jn{A A':Ar}{l:List Item}(hl:Le A A')(h:∀i∈l,A.has i.node/\(A.nd i.node).kind=4/\(A.nd i.node).AZ=i.AZ/\(A.nd i.node).name=i.name):∀i∈l,A'.has i.node/\(A'.nd i.node).kind=4/\(A'.nd i.node).AZ=i.AZ/\(A'.nd i.node).name=i.name:=by intro i hi;have:=h i hi;rw[hl.kind _ this.1,hl.AZ _ this.1,hl.name _ this.1];exact⟨hl.has _ this.1,this.2⟩
theorem mF{A A':Ar}{l:List Cc}(hl:Le A A')(h:∀e∈l,e.node=0\/(A.has e.node/\(A.nd e.node).kind=4)):∀e∈l,e.node=0\/(A'.has e.node/\(A'.nd e.node).kind=4):=by
 intro e he;rcases h e he with h|h
 .exact .inl h
 .rw[hl.kind _ h.1];exact .inr ⟨hl.has _ h.1,h.2⟩
theorem DG.Jm(o:DG b){A:Ar}(ok:Eu A 0)(hl:Le b.a A):DG {b with a:=A}:=
 ⟨ok,by rw[hl.kind _ o.Cy.1];exact⟨hl.has _ o.Cy.1,o.Cy.2⟩,jn hl o.op,o.dx,mF hl o.ac,o.sC⟩
theorem DG.aKk(o:DG b){l:List Item}(h1:∀i∈l,i∈b.AO)(h2:(l.map Item.node).Nodup):DG {b with AO:=l}:=
 ⟨o.ok,o.Cy,λi hi=>o.op i (h1 i hi),h2,o.ac,o.sC⟩
theorem DG.YW(o:DG b){l:List Item}(h1:List.Sublist l b.AO):DG {b with AO:=l}:=o.aKk (λ_ hi=>h1.subset hi) (o.dx.sublist (h1.map _))
theorem DG.iQ(o:DG b){l:List Cc}(h1:List.Sublist l b.A4):DG {b with A4:=l}:=
 ⟨o.ok,o.Cy,o.op,o.dx,λe he=>o.ac e (h1.subset he),o.sC.sublist ((h1.map _).filter _)⟩
theorem EF{p q:Item->Bool}{l:List Item}:List.Sublist (Dr p q l) l:=by
 have key:∀r:List Item,List.Sublist (Om p q r) r:=by
  intro r;induction r with
  |nil=>exact AX _
  |cons x r ih=>
   cases r with
   |nil=>exact AX _
   |cons y r=>
    rw[Om];split;·exact AX _
    .split;·exact List.sublist_cons_self _ _
     .exact ih.trans (List.sublist_cons_self _ _)
 have:=(key l.reverse).reverse;rwa [GU] at this
theorem HO{n:Int}{l:List Item}:List.Sublist (Ga n l) l:=by unfold Ga;split;exact AX _;exact EF
theorem CV{α:Type}{l:List α}{k:Nat}:List.Sublist (A7 l k) l:=by
 unfold A7;conv=>rhs;rw[<-CK k l]
 refine List.Sublist.append (AX _) ?_;rw[<-E5];exact List.drop_sublist _ _
theorem Kb{n:Int}{l:List Item}:List.Sublist (CF n l) l:=by unfold CF;split;exact AX _;exact CV
theorem Lc{l:List Item}{i:Int}(h0:0<=i)(h1:i<l.length):Gy l i∈l:=by unfold Gy;rw[if_pos h0,AE,Ae (by omega)];exact AI _
theorem JL{α:Type}{q:α->Bool}{l:List α}:AJ q l<l.length∧-1<=AJ q l:=by rcases CP (q:=q) (l:=l) with⟨h1,_⟩|⟨n,hn,h1,_⟩<;>rw[h1]<;>omega
theorem sD{l:List Item}(h:l≠[]):D7 l∈l:=by have:0<l.length:=FU.2 h;exact Lc (by omega) (by omega)
theorem jo(o:DG b)(hn:b.AO≠[]):b.a.has b.I3.1/\(b.I3.2≠0->b.a.has b.I3.2/\(b.a.nd b.I3.2).E6=b.I3.1):=by
 have hl:0<b.AO.length:=FU.2 hn;have h1:=JL (q:=Bp [A5]) (l:=b.AO);have h2:=JL (q:=Bp [Ew]) (l:=b.AO);unfold BS.I3;simp only
 split;·exact⟨(o.op _ (Lc (by omega) (by omega))).1,λh=>absurd rfl h⟩
 .split;·exact⟨(o.op _ (Lc (by omega) (by omega))).1,λh=>absurd rfl h⟩
  .have h3:=o.op _ (Lc (l:=b.AO) (i:=AJ (Bp [Ew]) b.AO) (by omega) (by omega));split;·rename_i hp;exact⟨(o.ok.E6 _ h3.1 hp).1,λ_=>⟨h3.1,rfl⟩⟩
   .exact⟨(o.op _ (Lc (by omega) (by omega))).1,λh=>absurd rfl h⟩
theorem Vx(o:DG b)(ht:t=0\/(b.a.has t/\b.AO≠[])):b.a.has (b.place t).1/\((b.place t).2≠0->b.a.has (b.place t).2/\(b.a.nd (b.place t).2).E6=(b.place t).1):=by
 unfold BS.place;simp only
 split;·exact⟨o.Cy.1,λh=>absurd rfl h⟩
 .rename_i h0;have hn:b.AO≠[]:=by
   rcases ht with h|h
   .intro h2;exact h0 ⟨h,h2⟩
   .exact h.2
  have h1:b.a.has (if t=0 then(D7 b.AO).node else t):=by
   split;·exact(o.op _ (sD hn)).1
   .rename_i h2;exact(ht.resolve_left h2).1
  generalize(if t=0 then(D7 b.AO).node else t)=t' at h1;have h2:b.a.has (if b.Eh=true/\Ra GO b.a t' then b.I3 else(t',0)).1/\((if b.Eh=true/\Ra GO b.a t' then b.I3 else(t',0)).2≠0->b.a.has (if b.Eh=true/\Ra GO b.a t' then b.I3 else(t',0)).2/\(b.a.nd (if b.Eh=true/\Ra GO b.a t' then b.I3 else(t',0)).2).E6=(if b.Eh=true/\Ra GO b.a t' then b.I3 else(t',0)).1):=by
   split;·exact jo o hn
   .exact⟨h1,λh=>absurd rfl h⟩
  generalize(if b.Eh=true/\Ra GO b.a t' then b.I3 else(t',0))=pb at h2;split;·rename_i hc;exact⟨(o.ok.cont _ h2.1 hc).1,λh=>absurd rfl h⟩
  .exact h2
theorem Sg(o:DG b){p:Int}:b.a.has (b.Io p)/\(b.a.nd (b.Io p)).kind=1:=by
 unfold BS.Io;by_cases hp:b.a.has p
 .have key:∀q,b.a.has q->b.a.has (if(b.a.nd q).Cy≠0 then(b.a.nd q).Cy else b.Cy)/\(b.a.nd (if(b.a.nd q).Cy≠0 then(b.a.nd q).Cy else b.Cy)).kind=1:=by
   intro q hq;split;·exact o.ok.Cy q hq
   .exact o.Cy
  split;·rename_i hc;exact key _ (o.ok.cont p hp hc).1
  .exact key p hp
 .rw[GI hp];exact o.Cy
variable{nm:Ap}{at_:List AU}{sp p:Int}
structure yL(b b1:BS)(i:Item):Prop where
 has:b1.a.has i.node
 kind:(b1.a.nd i.node).kind=4
 AZ:(b1.a.nd i.node).AZ=i.AZ
 name:(b1.a.nd i.node).name=i.name
 new:¬b.a.has i.node
theorem Mw(o:DG b)(hs:BS.Hn sp):DG (b.D8 nm at_ sp p)/\yL b (b.D8 nm at_ sp p) (b.FA nm at_ sp)/\Le b.a (b.D8 nm at_ sp p).a:=by
 have hd:=Sg o (p:=p);unfold BS.D8 BS.FA;rw[if_pos hs,if_pos hs];have ok:=jm (sp:=sp) (nm:=BS.Ip sp nm) (l:=at_.map (CM sp)) o.ok hd hs (by intro a ha;obtain⟨c,_,rfl⟩:=Bk.1 ha;exact iP)
 have hn:=cO (A:=b.a) (d:=b.Io p) (sp:=sp) (nm:=BS.Ip sp nm) (l:=at_.map (CM sp));exact⟨o.Jm ok YU,⟨hn.1,hn.2.1,hn.2.2.1,hn.2.2.2.1,Qb⟩,YU⟩
theorem Mx(o:DG b){b1:BS}{i:Item}(f:yL b b1 i):i.node∉b.AO.map Item.node:=by intro h;obtain⟨j,hj,e⟩:=Bk.1 h;exact f.new (e▸(o.op j hj).1)
theorem O1(o:DG b){b1:BS}{i:Item}(f:yL b b1 i):i.node∉b.A4.map Cc.node:=by
 intro h;obtain⟨j,hj,e⟩:=Bk.1 h;rcases o.ac j hj with h1|h1
 .have:=f.has.1;omega
 .exact f.new (e▸h1.1)
theorem sE{α:Type}[DecidableEq α]{l:List α}{k:Nat}{x:α}(h:l.Nodup)(hx:x∉l):(l.take k++x::l.drop k).Nodup:=by
 have e:=CK k l;rw[B7];rw[<-e,B7] at h;refine⟨h.1,BV.2 ⟨λh1=>hx (Bv h1),h.2.1⟩,?_⟩;rintro a ha c hc rfl;rcases AL.1 hc with rfl|hc
 .exact hx (Bf ha)
 .exact h.2.2 _ ha _ hc rfl
theorem iR{α:Type}[DecidableEq α]{l:List α}{k:Nat}{x:α}(h:l.Nodup)(hx:x∉l):(l.set k x).Nodup:=by
 rw[BW];split
 .have e:=CK k l;rw[B7];rw[<-e,B7] at h;have hd:List.Sublist (l.drop (k+1)) (l.drop k):=by rw[<-E5];exact List.drop_sublist _ _
  refine⟨h.1,BV.2 ⟨λh1=>hx (Bv h1),h.2.1.sublist hd⟩,?_⟩;rintro a ha c hc rfl;rcases AL.1 hc with rfl|hc
  .exact hx (Bf ha)
  .exact h.2.2 _ ha _ (hd.subset hc) rfl
 .exact h
theorem XJ{α β:Type}(f:α->β)(l:List α)(k:Nat)(x:α):(l.take k++x::l.drop k).map f=(l.map f).take k++f x::(l.map f).drop k:=by simp
theorem DG.Q_(o:DG b){i:Item}{k:Nat}(h1:b.a.has i.node/\(b.a.nd i.node).kind=4/\(b.a.nd i.node).AZ=i.AZ/\(b.a.nd i.node).name=i.name)(h2:i.node∉b.AO.map Item.node):DG {b with AO:=b.AO.take k++i::b.AO.drop k}:=by
 refine⟨o.ok,o.Cy,?_,by show((b.AO.take k++i::b.AO.drop k).map Item.node).Nodup;rw[XJ];exact sE o.dx h2,o.ac,o.sC⟩;intro j hj;rcases Ao.1 hj with hj|hj
 .exact o.op j (Bf hj)
 .rcases AL.1 hj with rfl|hj
  .exact h1
  .exact o.op j (Bv hj)
theorem DG.iS(o:DG b){i:Item}{k:Nat}(h1:b.a.has i.node/\(b.a.nd i.node).kind=4/\(b.a.nd i.node).AZ=i.AZ/\(b.a.nd i.node).name=i.name)(h2:i.node∉b.AO.map Item.node):DG {b with AO:=b.AO.set k i}:=by
 refine⟨o.ok,o.Cy,?_,by show((b.AO.set k i).map Item.node).Nodup;rw[Fh];exact iR o.dx h2,o.ac,o.sC⟩;intro j hj;rcases Dh hj with hj|rfl
 .exact o.op j hj
 .exact h1
theorem yM{l:List Int}{k:Nat}{x:Int}(h:(l.filter λn=>decide (n≠0)).Nodup)(hx:x∉l):((l.take k++x::l.drop k).filter λn=>decide (n≠0)).Nodup:=by
 have e:=CK k l;rw[<-e,EA,B7] at h;rw[EA,B7];by_cases h0:x=0;·subst h0;simpa using h
 .rw[List.filter_cons_of_pos (by simpa using h0)];refine⟨h.1,BV.2 ⟨λh1=>hx (Bv ((DU.1 h1).1)),h.2.1⟩,?_⟩;rintro a ha c hc rfl;rcases AL.1 hc with rfl|hc
  .exact hx (Bf (DU.1 ha).1)
  .exact h.2.2 _ ha _ hc rfl
theorem yN{l:List Int}{k:Nat}{x:Int}(h:(l.filter λn=>decide (n≠0)).Nodup)(hx:x∉l):((l.set k x).filter λn=>decide (n≠0)).Nodup:=by
 rw[BW];split
 .have h2:(((l.take k++l.drop (k+1))).filter λn=>decide (n≠0)).Nodup:=h.sublist ((show List.Sublist (A7 l k) l from CV).filter _);rw[EA,B7] at h2⊢;by_cases h0:x=0;·subst h0;simpa using h2
  .rw[List.filter_cons_of_pos (by simpa using h0)];refine⟨h2.1,BV.2 ⟨λh1=>hx (Bv ((DU.1 h1).1)),h2.2.1⟩,?_⟩;rintro a ha c hc rfl;rcases AL.1 hc with rfl|hc
   .exact hx (Bf (DU.1 ha).1)
   .exact h2.2.2 _ ha _ hc rfl
 .exact h
theorem DG.R_(o:DG b){e:Cc}{k:Nat}(h1:e.node=0\/(b.a.has e.node/\(b.a.nd e.node).kind=4))(h2:e.node=0\/e.node∉b.A4.map Cc.node):DG {b with A4:=b.A4.take k++e::b.A4.drop k}:=by
 refine⟨o.ok,o.Cy,o.op,o.dx,?_,?_⟩
 .intro j hj;rcases Ao.1 hj with hj|hj
  .exact o.ac j (Bf hj)
  .rcases AL.1 hj with rfl|hj
   .exact h1
   .exact o.ac j (Bv hj)
 .show(((b.A4.take k++e::b.A4.drop k).map Cc.node).filter _).Nodup;rw[XJ];rcases h2 with h2|h2
  .have:=o.sC;conv at this=>rw[<-CK k (b.A4.map Cc.node),EA]
   rw[EA,List.filter_cons_of_neg (by simp[h2])];exact this
  .exact yM o.sC h2
theorem DG.iT(o:DG b){e:Cc}{k:Nat}(h1:b.a.has e.node/\(b.a.nd e.node).kind=4)(h2:e.node∉b.A4.map Cc.node):DG {b with A4:=b.A4.set k e}:=by
 refine⟨o.ok,o.Cy,o.op,o.dx,?_,?_⟩
 .intro j hj;rcases Dh hj with hj|rfl
  .exact o.ac j hj
  .exact .inr h1
 .show(((b.A4.set k e).map Cc.node).filter _).Nodup;rw[Fh];exact yN o.sC h2
theorem Qe(o:DG b):DG (b.Ex nm at_ sp):=by
 unfold BS.Ex;split
 .rename_i hs;obtain⟨o1,f,hl⟩:=Mw (nm:=nm) (at_:=at_) (p:=(b.place 0).1) o hs;have o2:=o1.Jm (Nf (n:=b.a.len+1) (p:=(b.place 0).1) (b:=(b.place 0).2) o1.ok) H6;have hn:(b.FA nm at_ sp).node=b.a.len+1:=by unfold BS.FA;rw[if_pos hs]
  have l2:Le (b.D8 nm at_ sp (b.place 0).1).a ((b.D8 nm at_ sp (b.place 0).1).a.DZ (b.a.len+1) (b.place 0).1 (b.place 0).2):=H6;have ho:(b.D8 nm at_ sp (b.place 0).1).AO=b.AO:=by unfold BS.D8;rw[if_pos hs]
  have:=o2.Q_ (i:=b.FA nm at_ sp) (k:=b.AO.length) ⟨l2.has _ f.has,by rw[l2.kind _ f.has];exact f.kind,by rw[l2.AZ _ f.has];exact f.AZ,by rw[l2.name _ f.has];exact f.name⟩ (by simp only[ho];exact Mx o f);simp only[ho,Bu,Fm] at this;simp only[ho];exact this
 .exact o
theorem Vy{l:List Cc}{e:Cc}:∃l',List.Sublist l' l/\cM e l=l'++[e]:=by
 unfold cM;split;·exact⟨_,CV,rfl⟩
 .exact⟨_,AX _,rfl⟩
theorem jq:Le b.a (b.Ex nm at_ sp).a:=by
 unfold BS.Ex BS.D8;split;·exact Le.trans YU H6
 .exact .refl
theorem cR(hs:BS.Hn sp):(b.Ex nm at_ sp).a.has (b.a.len+1)/\((b.Ex nm at_ sp).a.nd (b.a.len+1)).kind=4:=by
 unfold BS.Ex BS.D8;rw[if_pos hs];simp only
 rw[if_pos hs];have hn:=cO (A:=b.a) (d:=b.Io (b.place 0).1) (sp:=sp) (nm:=BS.Ip sp nm) (l:=at_.map (CM sp));exact⟨H6.has _ hn.1,by rw[H6.kind _ hn.1];exact hn.2.1⟩
theorem FC:(b.Ex nm at_ sp).A4=b.A4:=by unfold BS.Ex BS.D8;split<;>rfl
theorem IQ:BS.Hn 1:=⟨by decide,by decide⟩
theorem jr(o:DG b):b.a.len+1∉b.A4.map Cc.node:=by
 intro h;obtain⟨j,hj,e⟩:=Bk.1 h;rcases o.ac j hj with h1|h1
 .unfold Ar.len at e;omega
 .exact Qb (e▸h1.1)
theorem sF(o:DG b):DG (b.Jd nm at_):=by
 have o1:=Qe (nm:=nm) (at_:=at_) (sp:=1) o;unfold BS.Jd;simp only
 obtain⟨l',h1,h2⟩:=Vy (l:=(b.Ex nm at_ 1).A4) (e:=⟨b.a.len+1,nm,at_⟩);rw[h2];have o2:=o1.iQ h1;have:=o2.R_ (e:=⟨b.a.len+1,nm,at_⟩) (k:=l'.length) (.inr (cR IQ)) (.inr (by intro h;rw[FC] at h1;exact jr o ((h1.map Cc.node).subset h)))
 simpa using this
theorem DG.of_eq{c:BS}(o:DG b)(h1:c.a=b.a)(h2:c.Cy=b.Cy)(h3:c.AO=b.AO)(h4:c.A4=b.A4):DG c:=
 ⟨h1▸o.ok,by rw[h1,h2];exact o.Cy,by rw[h1,h3];exact o.op,by rw[h3];exact o.dx,by rw[h1,h4];exact o.ac,by rw[h4];exact o.sC⟩
theorem iU{l:List Int}{bf t:Int}(h:Sf l bf=some t):t∈l:=by
 unfold Sf at h;split at h;·exact List.mem_of_getLast? h
 .exact(List.takeWhile_sublist _).subset (List.mem_of_getLast? h)
theorem sG{A:Ar}{s:Ap}{p bf:Int}(ok:Eu A 0)(hp:A.has p):Eu (BS.Ku A s p bf) 0/\Le A (BS.Ku A s p bf):=by
 have h0:(0:Int)≠A.len+1:=by unfold Ar.len;omega
 have ha:=Nf (n:=A.len+1) (p:=p) (b:=bf) (YV (s:=s) (kd:=5) ok h0 (ok.Cy p hp) (.inl rfl));have hl:Le A ((A.add {kind:=5,Cy:=(A.nd p).Cy,data:=s}).DZ (A.len+1) p bf):=Le.trans iM H6;unfold BS.Ku;split
 .split
  .rename_i t ht;split;·rename_i hk;exact⟨iN ok (ok.LF p hp _ (iU ht)).1 (.inl hk),iO⟩
   .exact⟨ha,hl⟩
  .exact⟨ha,hl⟩
 .exact⟨ok,.refl⟩
theorem js(o:DG b){r:Int}:DG (b.iK r):=by have h:=sG (s:=GP r) (bf:=(b.place 0).2) o.ok (Vx o (.inl rfl)).1;exact o.Jm h.1 h.2
theorem Rd{A:Ar}{s:Ap}{p bf:Int}(ok:Eu A 0):Eu (BS.Eo A s p bf) 0/\Le A (BS.Eo A s p bf):=by
 unfold BS.Eo;split
 .rename_i hk;have hp:A.has p:=by
   by_cases hp:A.has p;·exact hp
   .rw[GI hp] at hk;unfold J9 at hk;simp at hk
  have h0:(0:Int)≠A.len+1:=by unfold Ar.len;omega
  exact⟨Nf (YV (s:=s) (kd:=6) ok h0 (ok.Cy p hp) (.inr rfl)),Le.trans iM H6⟩
 .exact⟨ok,.refl⟩
theorem iV(o:DG b){s:Ap}{p:Int}:DG (b.JY s p):=by
 unfold BS.JY;split;·have h:=Rd (s:=s) (p:=(b.place 0).1) (bf:=(b.place 0).2) o.ok;exact o.Jm h.1 h.2
 .have h:=Rd (s:=s) (p:=p) (bf:=0) o.ok;exact o.Jm h.1 h.2
theorem iW(o:DG b){st:Int}:DG (b.OY nm at_ st):=(Qe o).of_eq rfl rfl rfl rfl
theorem sH(o:DG b):DG b.IL:=by
 unfold BS.IL;split;·exact o.YW (EF.trans EF)
 .exact o
theorem XK(o:DG b):DG (b.C0 nm):=by
 unfold BS.C0;split
 .split;·exact o.YW (HO.trans EF)
  .exact o
 .exact o
theorem Re(o:DG b):DG b.HN:=o.of_eq rfl rfl rfl rfl
theorem yO(o:DG b){l:List AU}{h:Int}:DG (b.GB l h):=by
 unfold BS.GB;split
 .rename_i hk;have hh:b.a.has h:=by
   by_cases hp:b.a.has h;·exact hp
   .rw[GI hp] at hk;simp at hk
  refine o.Jm (cP o.ok hh hk ?_) cQ;intro a ha;rcases Ao.1 ha with ha|ha
  .exact(o.ok.Q8 h hh).dw a ha
  .obtain⟨c,_,rfl⟩:=Bk.1 ha;simp
 .exact o
theorem Vz(o:DG b):DG b.C5:=by
 unfold BS.C5;split;·exact o
 .have o1:=(o.YW (EF (p:=CC) (q:=Bp [A5]) (l:=Dr Cs CC b.AO) |>.trans EF)).iQ (l:=Fz b.A4) (EV _ _);exact(Re (b:={b with AO:=Dr CC (Bp [A5]) (Dr Cs CC b.AO),A4:=Fz b.A4,tm:=b.tm.dropLast}) (o1.of_eq rfl rfl rfl rfl))
theorem yP(o:DG b):DG b.Qd:=by
 unfold BS.Qd;split;·exact o
 .exact o.YW (EV _ _)
structure aEz(b:BS)(l:List Cc)(r:List Cc×BS):Prop where
 ok:DG r.2
 le:Le b.a r.2.a
 A4:r.2.A4=b.A4
 len:r.1.length=l.length
 nodes:∀e∈r.1,r.2.a.has e.node/\(r.2.a.nd e.node).kind=4/\¬b.a.has e.node
 u_:(r.1.map Cc.node).Nodup
 aEA:r.1.map Cc.name=l.map Cc.name
theorem mG:∀{l:List Cc} {b:BS},DG b->aEz b l (BS.Iv l b)
 |[],b,o=>by
  refine⟨o,.refl,rfl,rfl,?_,?_,rfl⟩;·intro e he;cases he
  .exact List.nodup_nil
 |e::l,b,o=>by
  have o1:=Qe (nm:=e.name) (at_:=e.Ax) (sp:=1) o;have r:=mG (l:=l) o1;have hl:Le b.a (b.Ex e.name e.Ax 1).a:=jq;have hn:=cR (b:=b) (nm:=e.name) (at_:=e.Ax) IQ;refine⟨r.ok,hl.trans r.le,r.A4.trans FC,by simp[BS.Iv,r.len],?_,?_,by simp[BS.Iv,r.aEA]⟩
  .intro c hc;rcases AL.1 hc with rfl|hc
   .exact⟨r.le.has _ hn.1,(r.le.kind _ hn.1).trans hn.2,Qb⟩
   .have:=r.nodes c hc;exact⟨this.1,this.2.1,λh=>this.2.2 (hl.has _ h)⟩
  .simp only[BS.Iv,Bl,BV];refine⟨λh=>?_,r.u_⟩;obtain⟨c,hc,e1⟩:=Bk.1 h;exact(r.nodes c hc).2.2 (e1▸hn.1)
theorem iX(o:DG b):DG b.Dv:=by
 have r:=mG (l:=b.A4.drop b.Ka) o;unfold BS.Dv;simp only
 have hc:=mF r.le o.ac;refine⟨r.ok.ok,r.ok.Cy,r.ok.op,r.ok.dx,?_,?_⟩
 .intro e he;rcases Ao.1 he with he|he
  .exact hc e (Bf he)
  .exact .inr ⟨(r.nodes e he).1,(r.nodes e he).2.1⟩
 .show(((b.A4.take b.Ka++(BS.Iv (b.A4.drop b.Ka) b).1).map Cc.node).filter _).Nodup;rw[BH,EA,B7];refine⟨o.sC.sublist (((EV _ _).map _).filter _),r.u_.filter _,?_⟩;rintro a ha c HH rfl;obtain⟨e1,h1,rfl⟩:=Bk.1 (DU.1 ha).1;obtain⟨e2,h2,e3⟩:=Bk.1 (DU.1 HH).1;have h3:=(r.nodes e2 h2);rw[e3] at h3;rcases o.ac e1 (Bf h1) with h4|h4
  .have:=h3.1.1;omega
  .exact h3.2.2 h4.1
theorem VA(o:DG b){blk anc:Int}{far i:Nat}{l:Int}{m:Nat}(hl:b.a.has l):DG (BS.EL blk anc far i b l m).1/\(BS.EL blk anc far i b l m).1.a.has (BS.EL blk anc far i b l m).2.1/\Le b.a (BS.EL blk anc far i b l m).1.a:=by
 unfold BS.EL;simp only
 split;·exact⟨o.YW CV,hl,.refl⟩
 .split;·exact⟨(o.iQ CV).YW CV,hl,.refl⟩
  .generalize Jn:b.A4.getD (EE (b.AO.getD i Item.zero).node b.A4).toNat Cc.zero=en;obtain⟨o1,f,DV⟩:=Mw (nm:=en.name) (at_:=en.Ax) (p:=anc) o IQ;have l2:Le (b.D8 en.name en.Ax 1 anc).a ((b.D8 en.name en.Ax 1 anc).a.Fe (b.FA en.name en.Ax 1).node l 0):=Nd;have MH:(b.D8 en.name en.Ax 1 anc).AO=b.AO:=by unfold BS.D8;rw[if_pos IQ]
   have Ry:(b.D8 en.name en.Ax 1 anc).A4=b.A4:=by unfold BS.D8;rw[if_pos IQ]
   have o2:=o1.Jm (OX (p:=(b.FA en.name en.Ax 1).node) (n:=l) (b:=0) o1.ok) l2;have o3:=o2.iS (i:=b.FA en.name en.Ax 1) (k:=i) ⟨l2.has _ f.has,by rw[l2.kind _ f.has];exact f.kind,by rw[l2.AZ _ f.has];exact f.AZ,by rw[l2.name _ f.has];exact f.name⟩ (by simp only[MH];exact Mx o f);have o4:=o3.iT (e:={en with node:=(b.FA en.name en.Ax 1).node}) (k:=(EE (b.AO.getD i Item.zero).node b.A4).toNat) ⟨l2.has _ f.has,by rw[l2.kind _ f.has];exact f.kind⟩ (by simp only[Ry];exact O1 o f);exact⟨o4,l2.has _ f.has,DV.trans l2⟩
theorem T6{blk anc:Int}{far k:Nat}:∀{c:Nat} {s:BS×Int×Nat},DG s.1->s.1.a.has s.2.1->DG (BS.Jl blk anc far k c s).1/\(BS.Jl blk anc far k c s).1.a.has (BS.Jl blk anc far k c s).2.1/\Le s.1.a (BS.Jl blk anc far k c s).1.a
 |0,s,o,h=>⟨o,h,.refl⟩
 |c+1,s,o,h=>by obtain⟨o1,h1,l1⟩:=VA (blk:=blk) (anc:=anc) (far:=far) (i:=k+(c+1)) (m:=s.2.2) o h;obtain⟨o2,h2,l2⟩:=T6 (blk:=blk) (anc:=anc) (far:=far) (k:=k) (c:=c) o1 h1;exact⟨o2,h2,l1.trans l2⟩
theorem LI{n:Int}:∀{l:List Int} {A:Ar},Eu A 0->Eu (BS.Ci A n l) 0/\Le A (BS.Ci A n l)
 |[],A,ok=>⟨ok,.refl⟩
 |x::l,A,ok=>by have h:=LI (n:=n) (l:=l) (OX (p:=n) (n:=x) (b:=0) ok);exact⟨h.1,Le.trans Nd h.2⟩
theorem sI{fe:Cc}{blk anc:Int}{s:BS×Int×Nat}(o:DG s.1):DG (BS.FM fe blk anc s)/\Le s.1.a (BS.FM fe blk anc s).a:=by
 unfold BS.FM;simp only
 generalize XL:s.1.place anc=pb;have l1:Le s.1.a (s.1.a.DZ s.2.1 pb.1 pb.2):=H6;have o1:=o.Jm (Nf (n:=s.2.1) (p:=pb.1) (b:=pb.2) o.ok) l1;generalize MJ:({s.1 with a:=s.1.a.DZ s.2.1 pb.1 pb.2}:BS)=b2 at o1;have NH:b2.a=s.1.a.DZ s.2.1 pb.1 pb.2:=by rw[<-MJ]
 have Wh:b2.AO=s.1.AO:=by rw[<-MJ]
 have HH:b2.A4=s.1.A4:=by rw[<-MJ]
 obtain⟨o3,f,l3⟩:=Mw (nm:=fe.name) (at_:=fe.Ax) (p:=blk) o1 IQ;have MH:(b2.D8 fe.name fe.Ax 1 blk).AO=b2.AO:=by unfold BS.D8;rw[if_pos IQ]
 have Ry:(b2.D8 fe.name fe.Ax 1 blk).A4=b2.A4:=by unfold BS.D8;rw[if_pos IQ]
 generalize uH:b2.D8 fe.name fe.Ax 1 blk=b3 at*;generalize hn:b2.FA fe.name fe.Ax 1=n at*;obtain⟨uL,l4⟩:=LI (n:=n.node) (l:=(b3.a.nd blk).AY) o3.ok;have S_:=OX (p:=blk) (n:=n.node) (b:=0) uL;have l5:Le b3.a ((BS.Ci b3.a n.node (b3.a.nd blk).AY).Fe blk n.node 0):=l4.trans Nd;have o5:=o3.Jm S_ l5;have fr:((BS.Ci b3.a n.node (b3.a.nd blk).AY).Fe blk n.node 0).has n.node/\(((BS.Ci b3.a n.node (b3.a.nd blk).AY).Fe blk n.node 0).nd n.node).kind=4/\(((BS.Ci b3.a n.node (b3.a.nd blk).AY).Fe blk n.node 0).nd n.node).AZ=n.AZ/\(((BS.Ci b3.a n.node (b3.a.nd blk).AY).Fe blk n.node 0).nd n.node).name=n.name:=
  ⟨l5.has _ f.has,by rw[l5.kind _ f.has];exact f.kind,by rw[l5.AZ _ f.has];exact f.AZ,by rw[l5.name _ f.has];exact f.name⟩
 have o6:=(o5.iQ (l:=A7 b3.A4 (EE fe.node b3.A4).toNat) CV).YW (l:=CF fe.node b3.AO) Kb;have n1:n.node∉(CF fe.node b3.AO).map Item.node:=λh=>Mx o1 f ((Kb.map Item.node).subset (by rw[MH] at h;exact h));have n2:n.node∉(A7 b3.A4 (EE fe.node b3.A4).toNat).map Cc.node:=λh=>O1 o1 f ((CV.map Cc.node).subset (by rw[Ry] at h;exact h));refine⟨(o6.Q_ (i:=n) fr n1).R_ (e:={fe with node:=n.node}) (.inr ⟨fr.1,fr.2.1⟩) (.inr n2),?_⟩;rw[NH] at l3;exact l1.trans (l3.trans l5)
theorem VB(o:DG b):DG (b.round nm).2/\Le b.a (b.round nm).2.a:=by
 have hla:Le b.a (b.C0 nm).a:=by
  unfold BS.C0;split;·split<;>exact .refl
  .exact .refl
 unfold BS.round;simp only
 split;·exact⟨XK o,hla⟩
 .split;·exact⟨o.iQ CV,.refl⟩
  .split;·exact⟨o,.refl⟩
   .split;·exact⟨(o.YW HO).iQ CV,.refl⟩
    .rename_i hf;have aQt:Dz (b.A4.getD (FI nm b.A4).toNat Cc.zero).node b.AO<b.AO.length:=by
      rw[HL];split;·omega
      .unfold Em;split;·rename_i k hk;have:=(Hz.1 hk).1;rw[A8] at this;omega
       .omega
     have hb:b.a.has (b.AO.getD (Dz (b.A4.getD (FI nm b.A4).toNat Cc.zero).node b.AO).toNat Item.zero).node:=by rw[AE,Ae (by omega)];exact(o.op _ (AI _)).1
     obtain⟨o1,h1,l1⟩:=T6 (blk:=(b.AO.getD (Dz (b.A4.getD (FI nm b.A4).toNat Cc.zero).node b.AO).toNat Item.zero).node) (anc:=(b.AO.getD ((AJ (Bm (b.A4.getD (FI nm b.A4).toNat Cc.zero).node) b.AO).toNat-1) Item.zero).node) (far:=(Dz (b.A4.getD (FI nm b.A4).toNat Cc.zero).node b.AO).toNat) (k:=(AJ (Bm (b.A4.getD (FI nm b.A4).toNat Cc.zero).node) b.AO).toNat) (c:=(Dz (b.A4.getD (FI nm b.A4).toNat Cc.zero).node b.AO).toNat-1 -(AJ (Bm (b.A4.getD (FI nm b.A4).toNat Cc.zero).node) b.AO).toNat) (s:=(b,(b.AO.getD (Dz (b.A4.getD (FI nm b.A4).toNat Cc.zero).node b.AO).toNat Item.zero).node,(FI nm b.A4).toNat)) o hb;have r:=sI (fe:=b.A4.getD (FI nm b.A4).toNat Cc.zero) (blk:=(b.AO.getD (Dz (b.A4.getD (FI nm b.A4).toNat Cc.zero).node b.AO).toNat Item.zero).node) (anc:=(b.AO.getD ((AJ (Bm (b.A4.getD (FI nm b.A4).toNat Cc.zero).node) b.AO).toNat-1) Item.zero).node) o1;exact⟨r.1,l1.trans r.2⟩
theorem XM:∀{n:Nat} {b:BS},DG b->DG (BS.DL n b nm)/\Le b.a (BS.DL n b nm).a
 |0,b,o=>⟨o,.refl⟩
 |n+1,b,o=>by
  obtain⟨o1,l1⟩:=VB (nm:=nm) o;unfold BS.DL;simp only
  split;·have r:=XM (n:=n) o1;exact⟨r.1,l1.trans r.2⟩
  .exact⟨o1,l1⟩
theorem sJ(o:DG b):DG (b.FB nm):=by
 unfold BS.FB;split;·exact yP o
 .exact(XM o).1
end
structure L9(A:Ar):Prop where
 n:A.n.length<=1000000000
 at_:∀x,(A.nd x).Ax.length<=1000000000
 data:∀x,(A.nd x).data.length<=1000000000
def DA(l:List AU):Prop:=l.length<=1000/\∀a∈l,a.name.length<=1000/\a.value.length<=1000
structure BQ(b:BS)(m:Nat):Prop where
 n:b.a.n.length+m<=900000000
 at_:∀x,(b.a.nd x).Ax.length+m<=1000000000
 data:∀x,(b.a.nd x).data.length+m<=1000000000
 AO:b.AO.length+m<=900000000
 A4:b.A4.length+m<=900000000
 tm:b.tm.length+m<=900000000
 Dk:∀e∈b.A4,e.name.length<=1000/\DA e.Ax
 Wn:∀i∈b.AO,i.name.length<=1000
theorem BQ.Wo{b:BS}{m:Nat}(r:BQ b m):L9 b.a:=⟨by have:=r.n;omega,λx=>by have:=r.at_ x;omega,λx=>by have:=r.data x;omega⟩
theorem BQ.le{b:BS}{m m':Nat}(r:BQ b m)(hm:m'<=m):BQ b m':=⟨by have:=r.n;omega,λx=>by have:=r.at_ x;omega,λx=>by have:=r.data x;omega,by have:=r.AO;omega,by have:=r.A4;omega,by have:=r.tm;omega,r.Dk,r.Wn⟩
theorem XN{sp:Int}{y:AU}:(CM sp y).value=y.value:=by
 unfold CM;split;·split<;>rfl
 .rfl
structure Ng(A A':Ar):Prop where
 n:A'.n.length=A.n.length
 at_:∀x,(A'.nd x).Ax=(A.nd x).Ax
 data:∀x,(A'.nd x).data=(A.nd x).data
section
variable{A A' A'':Ar}{x p bf:Int}{b:BS}{m:Nat}
theorem Ng.refl:Ng A A:=⟨rfl,λ_=>rfl,λ_=>rfl⟩
theorem Ng.trans(h:Ng A A')(k:Ng A' A''):Ng A A'':=⟨k.n.trans h.n,λx=>(k.at_ x).trans (h.at_ x),λx=>(k.data x).trans (h.data x)⟩
theorem cS{y:Eg}(h1:y.Ax=(A.nd x).Ax)(h2:y.data=(A.nd x).data):Ng A (A.set x y):=by
 refine⟨It,λk=>?_,λk=>?_⟩<;>rw[IK]<;>split;·rename_i e;rw[h1,e.1]
 .rfl
 .rename_i e;rw[h2,e.1]
 .rfl
theorem XO{l:List Int}:Ng A (A.set x {A.nd x with AY:=l}):=cS rfl rfl
theorem XP:Ng A (A.set x {A.nd x with E6:=p}):=cS rfl rfl
theorem IZ:Ng A (A.Fe p x bf):=by
 unfold Ar.Fe;split
 .refine Ng.trans ?_ (Ng.trans XO XP);unfold Ar.cut;simp only;split;·exact .refl
  .exact Ng.trans XO XP
 .exact .refl
theorem I0:Ng A (A.DZ x p bf):=by unfold Ar.DZ;split;exact .refl;exact IZ
theorem PF{n:Int}:∀{l:List Int} {A:Ar},Ng A (BS.Ci A n l)
 |[],A=> .refl
 |y::l,A=>Ng.trans IZ (PF (l:=l))
theorem BQ.same{c:BS}(r:BQ b m)(h:Ng b.a c.a)(h1:c.AO.length<=b.AO.length)(h2:c.A4.length<=b.A4.length)(h3:c.tm.length<=b.tm.length)(h4:∀e∈c.A4,e.name.length<=1000/\DA e.Ax)(h5:∀i∈c.AO,i.name.length<=1000):BQ c m:=
 ⟨by rw[h.n];exact r.n,λx=>by rw[h.at_];exact r.at_ x,λx=>by rw[h.data];exact r.data x,by have:=r.AO;omega,by have:=r.A4;omega,by have:=r.tm;omega,h4,h5⟩
theorem BQ.Jm{A':Ar}(r:BQ b m)(h:Ng b.a A'):BQ {b with a:=A'} m:=r.same h (Ac _) (Ac _) (Ac _) r.Dk r.Wn
theorem BQ.eq{c:BS}(r:BQ b m)(h1:c.a=b.a)(h2:c.AO=b.AO)(h3:c.A4=b.A4)(h4:c.tm=b.tm):BQ c m:=⟨by rw[h1];exact r.n,by rw[h1];exact r.at_,by rw[h1];exact r.data,by rw[h2];exact r.AO,by rw[h3];exact r.A4,by rw[h4];exact r.tm,by rw[h3];exact r.Dk,by rw[h2];exact r.Wn⟩
structure Si(A A':Ar)(k:Nat):Prop where
 n:A'.n.length<=A.n.length+k
 at_:∀x,(A'.nd x).Ax.length<=max (A.nd x).Ax.length 1000
 data:∀x,(A'.nd x).data.length<=max (A.nd x).data.length 100000
theorem My{y:Eg}(h1:y.Ax.length<=1000)(h2:y.data.length<=100000):Si A (A.add y) 1:=by refine⟨by simp[Ar.add],λx=>?_,λx=>?_⟩<;>rw[HM]<;>split<;>omega
theorem Si.trans{k k':Nat}(h:Si A A' k)(g:Si A' A'' k'):Si A A'' (k+k'):=
 ⟨by have:=h.n;have:=g.n;omega,λx=>by have:=h.at_ x;have:=g.at_ x;omega,λx=>by have:=h.data x;have:=g.data x;omega⟩
theorem Si.le{k k':Nat}(h:Si A A' k)(hk:k<=k'):Si A A' k':=⟨by have:=h.n;omega,h.at_,h.data⟩
theorem sK(h:Ng A A'):Si A A' 0:=⟨by rw[h.n];exact Ac _,λx=>by rw[h.at_];omega,λx=>by rw[h.data];omega⟩
theorem iY:Si A (A.CU x) 1:=by
 unfold Ar.CU;split;·exact(sK .refl).le (by omega)
 .have:=My (A:=A) (y:={kind:=1,Cy:=A.len+1}) (AR _) (AR _);exact⟨this.n,this.at_,this.data⟩
theorem yQ{y:Eg}(h1:y.Ax.length<=1000)(h2:y.data.length<=100000):Si A (A.set x y) 0:=by refine⟨by rw[It];exact Ac _,λx=>?_,λx=>?_⟩<;>rw[IK]<;>split<;>omega
theorem sL{d sp:Int}{nm:Ap}{l:List AU}(hl:l.length<=1000):Si A (A.elem d sp nm l) 3:=by
 have ho:=Bt (OW (l:=l)) hl;have g1:=My (A:=A) (y:={kind:=4,Cy:=d,AZ:=sp,name:=nm,Ax:=Ce l}) ho (AR _);unfold Ar.elem;simp only
 split;·have g2:=iY (A:=A.add {kind:=4,Cy:=d,AZ:=sp,name:=nm,Ax:=Ce l}) (x:=d);have g3:=My (A:=(A.add {kind:=4,Cy:=d,AZ:=sp,name:=nm,Ax:=Ce l}).CU d) (y:={kind:=2,DT:=A.len+1,Cy:=(A.add {kind:=4,Cy:=d,AZ:=sp,name:=nm,Ax:=Ce l}).ET d}) (AR _) (AR _);exact g1.trans (k':=2) (g2.trans (k':=1) (g3.trans (k':=0) (yQ ho (AR _))))
 .exact g1.le (by omega)
theorem BQ.FE{A':Ar}{k:Nat}(r:BQ b (m+k))(h:Si b.a A' k):BQ {b with a:=A'} m:=
 ⟨by have:=r.n;have:=h.n;simp only;omega,λx=>by have:=r.at_ x;have:=h.at_ x;have:=r.n;simp only;omega,λx=>by have:=r.data x;have:=h.data x;have:=r.n;simp only;omega,by have:=r.AO;simp only;omega,by have:=r.A4;simp only;omega,by have:=r.tm;simp only;omega,r.Dk,r.Wn⟩
theorem VC{sp:Int}{nm:Ap}:(BS.Ip sp nm).length=nm.length:=by
 unfold BS.Ip;split
 .rcases Ks nm HX with h|h
  .rw[h]
  .conv=>rhs;rw[<-h.2,Q1]
 .rfl
variable{nm:Ap}{l:List AU}{sp:Int}
theorem H7(r:BQ b (m+3))(hl:DA l):BQ (b.D8 nm l sp p) m:=by
 unfold BS.D8;split;·exact r.FE (sL (by rw[Ai];exact hl.1))
 .exact r.le (by omega)
theorem Mz(hn:nm.length<=1000):(b.FA nm l sp).name.length<=1000:=by
 unfold BS.FA;split;·show(BS.Ip sp nm).length<=1000;rw[VC];exact hn
 .exact AR _
theorem BQ.vd{i:Item}{l':List Item}(r:BQ b (m+1))(h1:l'.length<=b.AO.length+1)(h2:∀j∈l',j∈b.AO\/j=i)(hi:i.name.length<=1000):BQ {b with AO:=l'} m:=
 ⟨by have:=r.n;simp only;omega,λx=>by have:=r.at_ x;simp only;omega,λx=>by have:=r.data x;simp only;omega,by have:=r.AO;simp only;omega,by have:=r.A4;simp only;omega,by have:=r.tm;simp only;omega,r.Dk,λj hj=>by
  rcases h2 j hj with h|rfl
  .exact r.Wn j h
  .exact hi⟩
theorem BQ.ve{e:Cc}{l':List Cc}(r:BQ b (m+1))(h1:l'.length<=b.A4.length+1)(h2:∀j∈l',j∈b.A4\/j=e)(hi:e.name.length<=1000/\DA e.Ax):BQ {b with A4:=l'} m:=
 ⟨by have:=r.n;simp only;omega,λx=>by have:=r.at_ x;simp only;omega,λx=>by have:=r.data x;simp only;omega,by have:=r.AO;simp only;omega,by have:=r.A4;simp only;omega,by have:=r.tm;simp only;omega,λj hj=>by
  rcases h2 j hj with h|rfl
  .exact r.Dk j h
  .exact hi,r.Wn⟩
theorem Ld(r:BQ b (m+4))(hl:DA l)(hn:nm.length<=1000):BQ (b.Ex nm l sp) m:=by
 unfold BS.Ex;split
 .rename_i hs;have r1:=H7 (m:=m+1) (nm:=nm) (sp:=sp) (p:=(b.place 0).1) (r.le (by omega)) hl;have r2:=r1.Jm (I0 (x:=b.a.len+1) (p:=(b.place 0).1) (bf:=(b.place 0).2));have ho:(b.D8 nm l sp (b.place 0).1).AO=b.AO:=by unfold BS.D8;rw[if_pos hs]
  refine r2.vd (i:=b.FA nm l sp) (by simp only[As,Br];exact Ac _) (λj hj=>?_) (Mz hn);rcases Ao.1 hj with h|h
  .exact .inl h
  .exact .inr (by simpa using h)
 .exact r.le (by omega)
theorem cT(r:BQ b (m+5))(hl:DA l)(hn:nm.length<=1000):BQ (b.Jd nm l) m:=by
 have r1:=Ld (m:=m+1) (sp:=1) (nm:=nm) (r.le (by omega)) hl hn;unfold BS.Jd;simp only
 obtain⟨l',h1,h2⟩:=Vy (l:=(b.Ex nm l 1).A4) (e:=⟨b.a.len+1,nm,l⟩);rw[h2];refine r1.ve (e:=⟨b.a.len+1,nm,l⟩) (by have:=h1.length_le;simp;omega) (λj hj=>?_) ⟨hn,hl⟩;rcases Ao.1 hj with h|h
 .exact .inl (h1.subset h)
 .exact .inr (by simpa using h)
end
end Go.Am
end
