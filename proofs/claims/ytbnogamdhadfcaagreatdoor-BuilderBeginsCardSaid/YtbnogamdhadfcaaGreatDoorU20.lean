/- Lemmas -/
import Derived.Test.YtbnogamdhadfcaaGreatDoorU19
set_option linter.unusedVariables false
set_option linter.unusedSimpArgs false
section
namespace Go.Am
set_option maxRecDepth 100000
structure Le(A A':Ar):Prop where
 has:∀h,A.has h->A'.has h
 kind:∀h,A.has h->(A'.nd h).kind=(A.nd h).kind
 AX:∀h,A.has h->(A'.nd h).AX=(A.nd h).AX
 name:∀h,A.has h->(A'.nd h).name=(A.nd h).name
section
variable{A A' A'':Ar}{h k e p n b:Int}{x:Eh}
theorem Le.refl:Le A A:=⟨λ_ h=>h,λ_ _=>rfl,λ_ _=>rfl,λ_ _=>rfl⟩
theorem Le.trans(h1:Le A A')(h2:Le A' A''):Le A A'':=⟨λh hh=>h2.has h (h1.has h hh),λh hh=>by rw[h2.kind h (h1.has h hh),h1.kind h hh],λh hh=>by rw[h2.AX h (h1.has h hh),h1.AX h hh],λh hh=>by rw[h2.name h (h1.has h hh),h1.name h hh]⟩
theorem Le.vf(h1:∀h,A.has h->A'.has h)(h2:∀h,A.has h->A'.nd h=A.nd h):Le A A':=⟨h1,λh hh=>by rw[h2 h hh],λh hh=>by rw[h2 h hh],λh hh=>by rw[h2 h hh]⟩
theorem Vp(hh:A.has h):h≠A.len+1:=λe=>P7 (A:=A) (e▸hh)
theorem Lf(hh:A.has h):(A.add x).nd h=A.nd h:=by rw[HN,if_neg (Vp hh)]
theorem iC:Le A (A.add x):= .vf (λh hh=>Dj.2 (.inl hh)) λh hh=>Lf hh
theorem YN(h1:x.kind=(A.nd h).kind)(h2:x.AX=(A.nd h).AX)(h3:x.name=(A.nd h).name):Le A (A.set h x):=by
 refine⟨λk hk=>Hz.2 hk,?_,?_,?_⟩<;>intro k hk<;>rw[IJ]<;>split;·rename_i e;rw[e.1,h1]
 .rfl
 .rename_i e;rw[e.1,h2]
 .rfl
 .rename_i e;rw[e.1,h3]
 .rfl
theorem lV{l:List Int}:Le A (A.set h {A.nd h with AZ:=l}):=YN rfl rfl rfl
theorem lW:Le A (A.set h {A.nd h with E8:=p}):=YN rfl rfl rfl
theorem T_:Le A (A.cut n):=by
 unfold Ar.cut;simp only;split;·exact .refl
 .exact Le.trans lV lW
theorem U_:Le A (A.L2 p n b):=Le.trans lV lW
theorem M3:Le A (A.Fg p n b):=by unfold Ar.Fg;split;exact T_.trans U_;exact .refl
theorem H6:Le A (A.D0 n p b):=by unfold Ar.D0;split;exact .refl;exact M3
theorem M4(ok:Eu A e):Eu (A.D0 n p b) e:=by unfold Ar.D0;split;exact ok;exact ON ok
theorem cF{d sp:Int}{nm:As}{l:List AW}(hh:A.has h):(A.elem d sp nm l).has h/\(A.elem d sp nm l).nd h=A.nd h:=by
 have hne:=Vp hh;unfold Ar.elem;simp only
 split;·have h1:(A.add {kind:=4,Cy:=d,AX:=sp,name:=nm,Ax:=Cf l}).has h:=Dj.2 (.inl hh);refine⟨Hz.2 (Dj.2 (.inl (Mo h1))),?_⟩;rw[IJ,if_neg (λe=>hne e.1),Lf (Mo h1),Vn (.inl (Vp h1)),Lf hh]
 .exact⟨Dj.2 (.inl hh),Lf hh⟩
theorem cG{d sp:Int}{nm:As}{l:List AW}:(A.elem d sp nm l).has (A.len+1)/\((A.elem d sp nm l).nd (A.len+1)).kind=4/\((A.elem d sp nm l).nd (A.len+1)).AX=sp/\((A.elem d sp nm l).nd (A.len+1)).name=nm/\((A.elem d sp nm l).nd (A.len+1)).AZ=[]/\((A.elem d sp nm l).nd (A.len+1)).E8=0/\((A.elem d sp nm l).nd (A.len+1)).Cy=d/\((A.elem d sp nm l).nd (A.len+1)).Ax=Cf l:=by
 unfold Ar.elem;simp only
 split;·have h1:(A.add {kind:=4,Cy:=d,AX:=sp,name:=nm,Ax:=Cf l}).has (A.len+1):=Dj.2 (.inr rfl);have h2:=Dj (x:={kind:=2,DT:=A.len+1,Cy:=(A.add {kind:=4,Cy:=d,AX:=sp,name:=nm,Ax:=Cf l}).EV d}).2 (.inl (Mo (h:=d) h1));rw[Hz,IJ,if_pos ⟨rfl,h2⟩];exact⟨h2,rfl,rfl,rfl,rfl,rfl,rfl,rfl⟩
 .rw[HN,if_pos rfl];exact⟨Dj.2 (.inr rfl),rfl,rfl,rfl,rfl,rfl,rfl,rfl⟩
theorem YO{d sp:Int}{nm:As}{l:List AW}:Le A (A.elem d sp nm l):= .vf (λ_ h=>(cF h).1) λ_ h=>(cF h).2
theorem cH{l:List AW}(ok:Eu A e)(hh:A.has h)(hk:(A.nd h).kind=4)(hl:∀a∈l,0<=a.AX/\a.AX<=7):Eu (A.Iu h l) e:=by have hx:=ok.Q3 h hh;refine xS ok hh ⟨hx.k,hx.AZ,λh=>absurd hk h,hx.nm,hx.dt,hx.data,hx.Cb,hx.sp,λa ha=>hl a (bX ha),XC l,hx.SY,hx.Oh,hx.root,hx.rN⟩ rfl rfl rfl ⟨(ok.Cy h hh).1,(ok.Cy h hh).2,ok.YK h hh⟩ rfl rfl λhT=>hT
theorem iD{s:As}(ok:Eu A e)(hh:A.has h)(hk:(A.nd h).kind=5\/(A.nd h).kind=6):Eu (A.Q5 h s) e:=by have hx:=ok.Q3 h hh;refine xS ok hh ⟨hx.k,hx.AZ,hx.elem,hx.nm,hx.dt,λh5 h6=>by have:(A.nd h).kind≠5:=h5;have:(A.nd h).kind≠6:=h6;omega,hx.Cb,hx.sp,hx.dg,hx.Cf,hx.SY,hx.Oh,hx.root,hx.rN⟩ rfl rfl rfl ⟨(ok.Cy h hh).1,(ok.Cy h hh).2,ok.YK h hh⟩ rfl rfl λhT=>hT
theorem YP{kd d:Int}{s:As}(ok:Eu A e)(he:e≠A.len+1)(hd:A.has d/\(A.nd d).kind=1)(hk:kd=5\/kd=6):Eu (A.add {kind:=kd,Cy:=d,data:=s}) e:=by
 refine Vm ok ?_ (.inr ⟨by simp;omega,hd⟩) rfl rfl rfl rfl (λh=>?_);·constructor<;>simp[Cf,GD]<;>omega
 .have:=h.1;simp at this;omega
theorem iE{s:As}:Le A (A.Q5 h s):=YN rfl rfl rfl
theorem cI{l:List AW}:Le A (A.Iu h l):=YN rfl rfl rfl
theorem iF{sp:Int}{a:AW}:0<=(CM sp a).AX/\(CM sp a).AX<=7:=by
 unfold CM;split
 .split
  .rename_i s m he;have:∀x∈fT,0<=x.2.1/\x.2.1<=7:=by decide
   unfold DF at he;cases hf:fT.find? λx=>decide (Jb sp a.name=x.1) with
   |none=>rw[hf] at he;cases he
   |some y=>rw[hf] at he;have:=this y (List.mem_of_find?_eq_some hf);simp at he;rw[he] at this;exact this
  .exact⟨Fq 0,by simp⟩
 .exact⟨Fq 0,by simp⟩
end
structure DG(b:BS):Prop where
 ok:Eu b.a 0
 Cy:b.a.has b.Cy/\(b.a.nd b.Cy).kind=1
 op:∀i∈b.AR,b.a.has i.node/\(b.a.nd i.node).kind=4/\(b.a.nd i.node).AX=i.AX/\(b.a.nd i.node).name=i.name
 dh:(b.AR.map Item.node).Nodup
 ac:∀e∈b.A4,e.node=0\/(b.a.has e.node/\(b.a.nd e.node).kind=4)
 rR:((b.A4.map Cd.node).filter λn=>decide (n≠0)).Nodup
section
variable{b:BS}{t:Int}
theorem jg{A A':Ar}{l:List Item}(hl:Le A A')(h:∀i∈l,A.has i.node/\(A.nd i.node).kind=4/\(A.nd i.node).AX=i.AX/\(A.nd i.node).name=i.name):∀i∈l,A'.has i.node/\(A'.nd i.node).kind=4/\(A'.nd i.node).AX=i.AX/\(A'.nd i.node).name=i.name:=by intro i hi;have:=h i hi;rw[hl.kind _ this.1,hl.AX _ this.1,hl.name _ this.1];exact⟨hl.has _ this.1,this.2⟩
theorem lX{A A':Ar}{l:List Cd}(hl:Le A A')(h:∀e∈l,e.node=0\/(A.has e.node/\(A.nd e.node).kind=4)):∀e∈l,e.node=0\/(A'.has e.node/\(A'.nd e.node).kind=4):=by
 intro e he;rcases h e he with h|h
 .exact .inl h
 .rw[hl.kind _ h.1];exact .inr ⟨hl.has _ h.1,h.2⟩
theorem DG.Jl(o:DG b){A:Ar}(ok:Eu A 0)(hl:Le b.a A):DG {b with a:=A}:=
 ⟨ok,by rw[hl.kind _ o.Cy.1];exact⟨hl.has _ o.Cy.1,o.Cy.2⟩,jg hl o.op,o.dh,lX hl o.ac,o.rR⟩
theorem DG.aJ7(o:DG b){l:List Item}(h1:∀i∈l,i∈b.AR)(h2:(l.map Item.node).Nodup):DG {b with AR:=l}:=
 ⟨o.ok,o.Cy,λi hi=>o.op i (h1 i hi),h2,o.ac,o.rR⟩
theorem DG.YQ(o:DG b){l:List Item}(h1:List.Sublist l b.AR):DG {b with AR:=l}:=o.aJ7 (λ_ hi=>h1.subset hi) (o.dh.sublist (h1.map _))
theorem DG.iG(o:DG b){l:List Cd}(h1:List.Sublist l b.A4):DG {b with A4:=l}:=
 ⟨o.ok,o.Cy,o.op,o.dh,λe he=>o.ac e (h1.subset he),o.rR.sublist ((h1.map _).filter _)⟩
theorem EF{p q:Item->Bool}{l:List Item}:List.Sublist (Dr p q l) l:=by
 have key:∀r:List Item,List.Sublist (Oc p q r) r:=by
  intro r;induction r with
  |nil=>exact AY _
  |cons x r ih=>
   cases r with
   |nil=>exact AY _
   |cons y r=>
    rw[Oc];split;·exact AY _
    .split;·exact List.sublist_cons_self _ _
     .exact ih.trans (List.sublist_cons_self _ _)
 have:=(key l.reverse).reverse;rwa [GX] at this
theorem HP{n:Int}{l:List Item}:List.Sublist (Gd n l) l:=by unfold Gd;split;exact AY _;exact EF
theorem CX{α:Type}{l:List α}{k:Nat}:List.Sublist (A6 l k) l:=by
 unfold A6;conv=>rhs;rw[<-CK k l]
 refine List.Sublist.append (AY _) ?_;rw[<-E7];exact List.drop_sublist _ _
theorem Kb{n:Int}{l:List Item}:List.Sublist (CF n l) l:=by unfold CF;split;exact AY _;exact CX
theorem Lg{l:List Item}{i:Int}(h0:0<=i)(h1:i<l.length):GB l i∈l:=by unfold GB;rw[if_pos h0,AE,Af (by omega)];exact AJ _
theorem JJ{α:Type}{q:α->Bool}{l:List α}:AK q l<l.length∧-1<=AK q l:=by rcases CQ (q:=q) (l:=l) with⟨h1,_⟩|⟨n,hn,h1,_⟩<;>rw[h1]<;>omega
theorem rS{l:List Item}(h:l≠[]):EU l∈l:=by have:0<l.length:=FX.2 h;exact Lg (by omega) (by omega)
theorem jh(o:DG b)(hn:b.AR≠[]):b.a.has b.I2.1/\(b.I2.2≠0->b.a.has b.I2.2/\(b.a.nd b.I2.2).E8=b.I2.1):=by
 have hl:0<b.AR.length:=FX.2 hn;have h1:=JJ (q:=Bp [A5]) (l:=b.AR);have h2:=JJ (q:=Bp [Ew]) (l:=b.AR);unfold BS.I2;simp only
 split;·exact⟨(o.op _ (Lg (by omega) (by omega))).1,λh=>absurd rfl h⟩
 .split;·exact⟨(o.op _ (Lg (by omega) (by omega))).1,λh=>absurd rfl h⟩
  .have h3:=o.op _ (Lg (l:=b.AR) (i:=AK (Bp [Ew]) b.AR) (by omega) (by omega));split;·rename_i hp;exact⟨(o.ok.E8 _ h3.1 hp).1,λ_=>⟨h3.1,rfl⟩⟩
   .exact⟨(o.op _ (Lg (by omega) (by omega))).1,λh=>absurd rfl h⟩
theorem Vq(o:DG b)(ht:t=0\/(b.a.has t/\b.AR≠[])):b.a.has (b.place t).1/\((b.place t).2≠0->b.a.has (b.place t).2/\(b.a.nd (b.place t).2).E8=(b.place t).1):=by
 unfold BS.place;simp only
 split;·exact⟨o.Cy.1,λh=>absurd rfl h⟩
 .rename_i h0;have hn:b.AR≠[]:=by
   rcases ht with h|h
   .intro h2;exact h0 ⟨h,h2⟩
   .exact h.2
  have h1:b.a.has (if t=0 then(EU b.AR).node else t):=by
   split;·exact(o.op _ (rS hn)).1
   .rename_i h2;exact(ht.resolve_left h2).1
  generalize(if t=0 then(EU b.AR).node else t)=t' at h1;have h2:b.a.has (if b.Ei=true/\Q4 GS b.a t' then b.I2 else(t',0)).1/\((if b.Ei=true/\Q4 GS b.a t' then b.I2 else(t',0)).2≠0->b.a.has (if b.Ei=true/\Q4 GS b.a t' then b.I2 else(t',0)).2/\(b.a.nd (if b.Ei=true/\Q4 GS b.a t' then b.I2 else(t',0)).2).E8=(if b.Ei=true/\Q4 GS b.a t' then b.I2 else(t',0)).1):=by
   split;·exact jh o hn
   .exact⟨h1,λh=>absurd rfl h⟩
  generalize(if b.Ei=true/\Q4 GS b.a t' then b.I2 else(t',0))=pb at h2;split;·rename_i hc;exact⟨(o.ok.cont _ h2.1 hc).1,λh=>absurd rfl h⟩
  .exact h2
theorem Sa(o:DG b){p:Int}:b.a.has (b.Im p)/\(b.a.nd (b.Im p)).kind=1:=by
 unfold BS.Im;by_cases hp:b.a.has p
 .have key:∀q,b.a.has q->b.a.has (if(b.a.nd q).Cy≠0 then(b.a.nd q).Cy else b.Cy)/\(b.a.nd (if(b.a.nd q).Cy≠0 then(b.a.nd q).Cy else b.Cy)).kind=1:=by
   intro q hq;split;·exact o.ok.Cy q hq
   .exact o.Cy
  split;·rename_i hc;exact key _ (o.ok.cont p hp hc).1
  .exact key p hp
 .rw[GM hp];exact o.Cy
variable{nm:As}{at_:List AW}{sp p:Int}
structure xW(b b1:BS)(i:Item):Prop where
 has:b1.a.has i.node
 kind:(b1.a.nd i.node).kind=4
 AX:(b1.a.nd i.node).AX=i.AX
 name:(b1.a.nd i.node).name=i.name
 new:¬b.a.has i.node
theorem Mp(o:DG b)(hs:BS.Ho sp):DG (b.D9 nm at_ sp p)/\xW b (b.D9 nm at_ sp p) (b.FE nm at_ sp)/\Le b.a (b.D9 nm at_ sp p).a:=by
 have hd:=Sa o (p:=p);unfold BS.D9 BS.FE;rw[if_pos hs,if_pos hs];have ok:=jf (sp:=sp) (nm:=BS.Io sp nm) (l:=at_.map (CM sp)) o.ok hd hs (by intro a ha;obtain⟨c,_,rfl⟩:=Bk.1 ha;exact iF)
 have hn:=cG (A:=b.a) (d:=b.Im p) (sp:=sp) (nm:=BS.Io sp nm) (l:=at_.map (CM sp));exact⟨o.Jl ok YO,⟨hn.1,hn.2.1,hn.2.2.1,hn.2.2.2.1,P7⟩,YO⟩
theorem Mq(o:DG b){b1:BS}{i:Item}(f:xW b b1 i):i.node∉b.AR.map Item.node:=by intro h;obtain⟨j,hj,e⟩:=Bk.1 h;exact f.new (e▸(o.op j hj).1)
theorem OR(o:DG b){b1:BS}{i:Item}(f:xW b b1 i):i.node∉b.A4.map Cd.node:=by
 intro h;obtain⟨j,hj,e⟩:=Bk.1 h;rcases o.ac j hj with h1|h1
 .have:=f.has.1;omega
 .exact f.new (e▸h1.1)
theorem rT{α:Type}[DecidableEq α]{l:List α}{k:Nat}{x:α}(h:l.Nodup)(hx:x∉l):(l.take k++x::l.drop k).Nodup:=by
 have e:=CK k l;rw[B7];rw[<-e,B7] at h;refine⟨h.1,BW.2 ⟨λh1=>hx (Bw h1),h.2.1⟩,?_⟩;rintro a ha c hc rfl;rcases AM.1 hc with rfl|hc
 .exact hx (Bf ha)
 .exact h.2.2 _ ha _ hc rfl
theorem iH{α:Type}[DecidableEq α]{l:List α}{k:Nat}{x:α}(h:l.Nodup)(hx:x∉l):(l.set k x).Nodup:=by
 rw[BY];split
 .have e:=CK k l;rw[B7];rw[<-e,B7] at h;have hd:List.Sublist (l.drop (k+1)) (l.drop k):=by rw[<-E7];exact List.drop_sublist _ _
  refine⟨h.1,BW.2 ⟨λh1=>hx (Bw h1),h.2.1.sublist hd⟩,?_⟩;rintro a ha c hc rfl;rcases AM.1 hc with rfl|hc
  .exact hx (Bf ha)
  .exact h.2.2 _ ha _ (hd.subset hc) rfl
 .exact h
theorem XD{α β:Type}(f:α->β)(l:List α)(k:Nat)(x:α):(l.take k++x::l.drop k).map f=(l.map f).take k++f x::(l.map f).drop k:=by simp
theorem DG.V_(o:DG b){i:Item}{k:Nat}(h1:b.a.has i.node/\(b.a.nd i.node).kind=4/\(b.a.nd i.node).AX=i.AX/\(b.a.nd i.node).name=i.name)(h2:i.node∉b.AR.map Item.node):DG {b with AR:=b.AR.take k++i::b.AR.drop k}:=by
 refine⟨o.ok,o.Cy,?_,by show((b.AR.take k++i::b.AR.drop k).map Item.node).Nodup;rw[XD];exact rT o.dh h2,o.ac,o.rR⟩;intro j hj;rcases Ao.1 hj with hj|hj
 .exact o.op j (Bf hj)
 .rcases AM.1 hj with rfl|hj
  .exact h1
  .exact o.op j (Bw hj)
theorem DG.iI(o:DG b){i:Item}{k:Nat}(h1:b.a.has i.node/\(b.a.nd i.node).kind=4/\(b.a.nd i.node).AX=i.AX/\(b.a.nd i.node).name=i.name)(h2:i.node∉b.AR.map Item.node):DG {b with AR:=b.AR.set k i}:=by
 refine⟨o.ok,o.Cy,?_,by show((b.AR.set k i).map Item.node).Nodup;rw[Fk];exact iH o.dh h2,o.ac,o.rR⟩;intro j hj;rcases Di hj with hj|rfl
 .exact o.op j hj
 .exact h1
theorem xX{l:List Int}{k:Nat}{x:Int}(h:(l.filter λn=>decide (n≠0)).Nodup)(hx:x∉l):((l.take k++x::l.drop k).filter λn=>decide (n≠0)).Nodup:=by
 have e:=CK k l;rw[<-e,EA,B7] at h;rw[EA,B7];by_cases h0:x=0;·subst h0;simpa using h
 .rw[List.filter_cons_of_pos (by simpa using h0)];refine⟨h.1,BW.2 ⟨λh1=>hx (Bw ((DV.1 h1).1)),h.2.1⟩,?_⟩;rintro a ha c hc rfl;rcases AM.1 hc with rfl|hc
  .exact hx (Bf (DV.1 ha).1)
  .exact h.2.2 _ ha _ hc rfl
theorem xY{l:List Int}{k:Nat}{x:Int}(h:(l.filter λn=>decide (n≠0)).Nodup)(hx:x∉l):((l.set k x).filter λn=>decide (n≠0)).Nodup:=by
 rw[BY];split
 .have h2:(((l.take k++l.drop (k+1))).filter λn=>decide (n≠0)).Nodup:=h.sublist ((show List.Sublist (A6 l k) l from CX).filter _);rw[EA,B7] at h2⊢;by_cases h0:x=0;·subst h0;simpa using h2
  .rw[List.filter_cons_of_pos (by simpa using h0)];refine⟨h2.1,BW.2 ⟨λh1=>hx (Bw ((DV.1 h1).1)),h2.2.1⟩,?_⟩;rintro a ha c hc rfl;rcases AM.1 hc with rfl|hc
   .exact hx (Bf (DV.1 ha).1)
   .exact h2.2.2 _ ha _ hc rfl
 .exact h
theorem DG.W_(o:DG b){e:Cd}{k:Nat}(h1:e.node=0\/(b.a.has e.node/\(b.a.nd e.node).kind=4))(h2:e.node=0\/e.node∉b.A4.map Cd.node):DG {b with A4:=b.A4.take k++e::b.A4.drop k}:=by
 refine⟨o.ok,o.Cy,o.op,o.dh,?_,?_⟩
 .intro j hj;rcases Ao.1 hj with hj|hj
  .exact o.ac j (Bf hj)
  .rcases AM.1 hj with rfl|hj
   .exact h1
   .exact o.ac j (Bw hj)
 .show(((b.A4.take k++e::b.A4.drop k).map Cd.node).filter _).Nodup;rw[XD];rcases h2 with h2|h2
  .have:=o.rR;conv at this=>rw[<-CK k (b.A4.map Cd.node),EA]
   rw[EA,List.filter_cons_of_neg (by simp[h2])];exact this
  .exact xX o.rR h2
theorem DG.iJ(o:DG b){e:Cd}{k:Nat}(h1:b.a.has e.node/\(b.a.nd e.node).kind=4)(h2:e.node∉b.A4.map Cd.node):DG {b with A4:=b.A4.set k e}:=by
 refine⟨o.ok,o.Cy,o.op,o.dh,?_,?_⟩
 .intro j hj;rcases Di hj with hj|rfl
  .exact o.ac j hj
  .exact .inr h1
 .show(((b.A4.set k e).map Cd.node).filter _).Nodup;rw[Fk];exact xY o.rR h2
theorem Qa(o:DG b):DG (b.Ex nm at_ sp):=by
 unfold BS.Ex;split
 .rename_i hs;obtain⟨o1,f,hl⟩:=Mp (nm:=nm) (at_:=at_) (p:=(b.place 0).1) o hs;have o2:=o1.Jl (M4 (n:=b.a.len+1) (p:=(b.place 0).1) (b:=(b.place 0).2) o1.ok) H6;have hn:(b.FE nm at_ sp).node=b.a.len+1:=by unfold BS.FE;rw[if_pos hs]
  have l2:Le (b.D9 nm at_ sp (b.place 0).1).a ((b.D9 nm at_ sp (b.place 0).1).a.D0 (b.a.len+1) (b.place 0).1 (b.place 0).2):=H6;have ho:(b.D9 nm at_ sp (b.place 0).1).AR=b.AR:=by unfold BS.D9;rw[if_pos hs]
  have:=o2.V_ (i:=b.FE nm at_ sp) (k:=b.AR.length) ⟨l2.has _ f.has,by rw[l2.kind _ f.has];exact f.kind,by rw[l2.AX _ f.has];exact f.AX,by rw[l2.name _ f.has];exact f.name⟩ (by simp only[ho];exact Mq o f);simp only[ho,Bu,Fs] at this;simp only[ho];exact this
 .exact o
theorem Vr{l:List Cd}{e:Cd}:∃l',List.Sublist l' l/\cD e l=l'++[e]:=by
 unfold cD;split;·exact⟨_,CX,rfl⟩
 .exact⟨_,AY _,rfl⟩
theorem ji:Le b.a (b.Ex nm at_ sp).a:=by
 unfold BS.Ex BS.D9;split;·exact Le.trans YO H6
 .exact .refl
theorem cJ(hs:BS.Ho sp):(b.Ex nm at_ sp).a.has (b.a.len+1)/\((b.Ex nm at_ sp).a.nd (b.a.len+1)).kind=4:=by
 unfold BS.Ex BS.D9;rw[if_pos hs];simp only
 rw[if_pos hs];have hn:=cG (A:=b.a) (d:=b.Im (b.place 0).1) (sp:=sp) (nm:=BS.Io sp nm) (l:=at_.map (CM sp));exact⟨H6.has _ hn.1,by rw[H6.kind _ hn.1];exact hn.2.1⟩
theorem FF:(b.Ex nm at_ sp).A4=b.A4:=by unfold BS.Ex BS.D9;split<;>rfl
theorem IP:BS.Ho 1:=⟨by decide,by decide⟩
theorem jj(o:DG b):b.a.len+1∉b.A4.map Cd.node:=by
 intro h;obtain⟨j,hj,e⟩:=Bk.1 h;rcases o.ac j hj with h1|h1
 .unfold Ar.len at e;omega
 .exact P7 (e▸h1.1)
theorem rU(o:DG b):DG (b.Jc nm at_):=by
 have o1:=Qa (nm:=nm) (at_:=at_) (sp:=1) o;unfold BS.Jc;simp only
 obtain⟨l',h1,h2⟩:=Vr (l:=(b.Ex nm at_ 1).A4) (e:=⟨b.a.len+1,nm,at_⟩);rw[h2];have o2:=o1.iG h1;have:=o2.W_ (e:=⟨b.a.len+1,nm,at_⟩) (k:=l'.length) (.inr (cJ IP)) (.inr (by intro h;rw[FF] at h1;exact jj o ((h1.map Cd.node).subset h)))
 simpa using this
theorem DG.of_eq{c:BS}(o:DG b)(h1:c.a=b.a)(h2:c.Cy=b.Cy)(h3:c.AR=b.AR)(h4:c.A4=b.A4):DG c:=
 ⟨h1▸o.ok,by rw[h1,h2];exact o.Cy,by rw[h1,h3];exact o.op,by rw[h3];exact o.dh,by rw[h1,h4];exact o.ac,by rw[h4];exact o.rR⟩
theorem iK{l:List Int}{bf t:Int}(h:R7 l bf=some t):t∈l:=by
 unfold R7 at h;split at h;·exact List.mem_of_getLast? h
 .exact(List.takeWhile_sublist _).subset (List.mem_of_getLast? h)
theorem rV{A:Ar}{s:As}{p bf:Int}(ok:Eu A 0)(hp:A.has p):Eu (BS.Kw A s p bf) 0/\Le A (BS.Kw A s p bf):=by
 have h0:(0:Int)≠A.len+1:=by unfold Ar.len;omega
 have ha:=M4 (n:=A.len+1) (p:=p) (b:=bf) (YP (s:=s) (kd:=5) ok h0 (ok.Cy p hp) (.inl rfl));have hl:Le A ((A.add {kind:=5,Cy:=(A.nd p).Cy,data:=s}).D0 (A.len+1) p bf):=Le.trans iC H6;unfold BS.Kw;split
 .split
  .rename_i t ht;split;·rename_i hk;exact⟨iD ok (ok.LA p hp _ (iK ht)).1 (.inl hk),iE⟩
   .exact⟨ha,hl⟩
  .exact⟨ha,hl⟩
 .exact⟨ok,.refl⟩
theorem jk(o:DG b){r:Int}:DG (b.iA r):=by have h:=rV (s:=GU r) (bf:=(b.place 0).2) o.ok (Vq o (.inl rfl)).1;exact o.Jl h.1 h.2
theorem Q7{A:Ar}{s:As}{p bf:Int}(ok:Eu A 0):Eu (BS.Eo A s p bf) 0/\Le A (BS.Eo A s p bf):=by
 unfold BS.Eo;split
 .rename_i hk;have hp:A.has p:=by
   by_cases hp:A.has p;·exact hp
   .rw[GM hp] at hk;unfold J9 at hk;simp at hk
  have h0:(0:Int)≠A.len+1:=by unfold Ar.len;omega
  exact⟨M4 (YP (s:=s) (kd:=6) ok h0 (ok.Cy p hp) (.inr rfl)),Le.trans iC H6⟩
 .exact⟨ok,.refl⟩
theorem iL(o:DG b){s:As}{p:Int}:DG (b.JW s p):=by
 unfold BS.JW;split;·have h:=Q7 (s:=s) (p:=(b.place 0).1) (bf:=(b.place 0).2) o.ok;exact o.Jl h.1 h.2
 .have h:=Q7 (s:=s) (p:=p) (bf:=0) o.ok;exact o.Jl h.1 h.2
theorem iM(o:DG b){st:Int}:DG (b.OO nm at_ st):=(Qa o).of_eq rfl rfl rfl rfl
theorem rW(o:DG b):DG b.IK:=by
 unfold BS.IK;split;·exact o.YQ (EF.trans EF)
 .exact o
theorem XE(o:DG b):DG (b.C1 nm):=by
 unfold BS.C1;split
 .split;·exact o.YQ (HP.trans EF)
  .exact o
 .exact o
theorem Q8(o:DG b):DG b.HO:=o.of_eq rfl rfl rfl rfl
theorem xZ(o:DG b){l:List AW}{h:Int}:DG (b.GF l h):=by
 unfold BS.GF;split
 .rename_i hk;have hh:b.a.has h:=by
   by_cases hp:b.a.has h;·exact hp
   .rw[GM hp] at hk;simp at hk
  refine o.Jl (cH o.ok hh hk ?_) cI;intro a ha;rcases Ao.1 ha with ha|ha
  .exact(o.ok.Q3 h hh).dg a ha
  .obtain⟨c,_,rfl⟩:=Bk.1 ha;simp
 .exact o
theorem Vs(o:DG b):DG b.C7:=by
 unfold BS.C7;split;·exact o
 .have o1:=(o.YQ (EF (p:=CC) (q:=Bp [A5]) (l:=Dr Cr CC b.AR) |>.trans EF)).iG (l:=FD b.A4) (EX _ _);exact(Q8 (b:={b with AR:=Dr CC (Bp [A5]) (Dr Cr CC b.AR),A4:=FD b.A4,tm:=b.tm.dropLast}) (o1.of_eq rfl rfl rfl rfl))
theorem yA(o:DG b):DG b.P9:=by
 unfold BS.P9;split;·exact o
 .exact o.YQ (EX _ _)
structure aEA(b:BS)(l:List Cd)(r:List Cd×BS):Prop where
 ok:DG r.2
 le:Le b.a r.2.a
 A4:r.2.A4=b.A4
 len:r.1.length=l.length
 nodes:∀e∈r.1,r.2.a.has e.node/\(r.2.a.nd e.node).kind=4/\¬b.a.has e.node
 vg:(r.1.map Cd.node).Nodup
 aEB:r.1.map Cd.name=l.map Cd.name
theorem lY:∀{l:List Cd} {b:BS},DG b->aEA b l (BS.Iv l b)
 |[],b,o=>by
  refine⟨o,.refl,rfl,rfl,?_,?_,rfl⟩;·intro e he;cases he
  .exact List.nodup_nil
 |e::l,b,o=>by
  have o1:=Qa (nm:=e.name) (at_:=e.Ax) (sp:=1) o;have r:=lY (l:=l) o1;have hl:Le b.a (b.Ex e.name e.Ax 1).a:=ji;have hn:=cJ (b:=b) (nm:=e.name) (at_:=e.Ax) IP;refine⟨r.ok,hl.trans r.le,r.A4.trans FF,by simp[BS.Iv,r.len],?_,?_,by simp[BS.Iv,r.aEB]⟩
  .intro c hc;rcases AM.1 hc with rfl|hc
   .exact⟨r.le.has _ hn.1,(r.le.kind _ hn.1).trans hn.2,P7⟩
   .have:=r.nodes c hc;exact⟨this.1,this.2.1,λh=>this.2.2 (hl.has _ h)⟩
  .simp only[BS.Iv,Bl,BW];refine⟨λh=>?_,r.vg⟩;obtain⟨c,hc,e1⟩:=Bk.1 h;exact(r.nodes c hc).2.2 (e1▸hn.1)
theorem iN(o:DG b):DG b.Dv:=by
 have r:=lY (l:=b.A4.drop b.Ka) o;unfold BS.Dv;simp only
 have hc:=lX r.le o.ac;refine⟨r.ok.ok,r.ok.Cy,r.ok.op,r.ok.dh,?_,?_⟩
 .intro e he;rcases Ao.1 he with he|he
  .exact hc e (Bf he)
  .exact .inr ⟨(r.nodes e he).1,(r.nodes e he).2.1⟩
 .show(((b.A4.take b.Ka++(BS.Iv (b.A4.drop b.Ka) b).1).map Cd.node).filter _).Nodup;rw[BI,EA,B7];refine⟨o.rR.sublist (((EX _ _).map _).filter _),r.vg.filter _,?_⟩;rintro a ha c HV rfl;obtain⟨e1,h1,rfl⟩:=Bk.1 (DV.1 ha).1;obtain⟨e2,h2,e3⟩:=Bk.1 (DV.1 HV).1;have h3:=(r.nodes e2 h2);rw[e3] at h3;rcases o.ac e1 (Bf h1) with h4|h4
  .have:=h3.1.1;omega
  .exact h3.2.2 h4.1
theorem Vt(o:DG b){blk anc:Int}{far i:Nat}{l:Int}{m:Nat}(hl:b.a.has l):DG (BS.EM blk anc far i b l m).1/\(BS.EM blk anc far i b l m).1.a.has (BS.EM blk anc far i b l m).2.1/\Le b.a (BS.EM blk anc far i b l m).1.a:=by
 unfold BS.EM;simp only
 split;·exact⟨o.YQ CX,hl,.refl⟩
 .split;·exact⟨(o.iG CX).YQ CX,hl,.refl⟩
  .generalize Jm:b.A4.getD (EE (b.AR.getD i Item.zero).node b.A4).toNat Cd.zero=en;obtain⟨o1,f,DW⟩:=Mp (nm:=en.name) (at_:=en.Ax) (p:=anc) o IP;have l2:Le (b.D9 en.name en.Ax 1 anc).a ((b.D9 en.name en.Ax 1 anc).a.Fg (b.FE en.name en.Ax 1).node l 0):=M3;have MA:(b.D9 en.name en.Ax 1 anc).AR=b.AR:=by unfold BS.D9;rw[if_pos IP]
   have Rs:(b.D9 en.name en.Ax 1 anc).A4=b.A4:=by unfold BS.D9;rw[if_pos IP]
   have o2:=o1.Jl (ON (p:=(b.FE en.name en.Ax 1).node) (n:=l) (b:=0) o1.ok) l2;have o3:=o2.iI (i:=b.FE en.name en.Ax 1) (k:=i) ⟨l2.has _ f.has,by rw[l2.kind _ f.has];exact f.kind,by rw[l2.AX _ f.has];exact f.AX,by rw[l2.name _ f.has];exact f.name⟩ (by simp only[MA];exact Mq o f);have o4:=o3.iJ (e:={en with node:=(b.FE en.name en.Ax 1).node}) (k:=(EE (b.AR.getD i Item.zero).node b.A4).toNat) ⟨l2.has _ f.has,by rw[l2.kind _ f.has];exact f.kind⟩ (by simp only[Rs];exact OR o f);exact⟨o4,l2.has _ f.has,DW.trans l2⟩
theorem T0{blk anc:Int}{far k:Nat}:∀{c:Nat} {s:BS×Int×Nat},DG s.1->s.1.a.has s.2.1->DG (BS.Jk blk anc far k c s).1/\(BS.Jk blk anc far k c s).1.a.has (BS.Jk blk anc far k c s).2.1/\Le s.1.a (BS.Jk blk anc far k c s).1.a
 |0,s,o,h=>⟨o,h,.refl⟩
 |c+1,s,o,h=>by obtain⟨o1,h1,l1⟩:=Vt (blk:=blk) (anc:=anc) (far:=far) (i:=k+(c+1)) (m:=s.2.2) o h;obtain⟨o2,h2,l2⟩:=T0 (blk:=blk) (anc:=anc) (far:=far) (k:=k) (c:=c) o1 h1;exact⟨o2,h2,l1.trans l2⟩
theorem LD{n:Int}:∀{l:List Int} {A:Ar},Eu A 0->Eu (BS.Cj A n l) 0/\Le A (BS.Cj A n l)
 |[],A,ok=>⟨ok,.refl⟩
 |x::l,A,ok=>by have h:=LD (n:=n) (l:=l) (ON (p:=n) (n:=x) (b:=0) ok);exact⟨h.1,Le.trans M3 h.2⟩
theorem rX{fe:Cd}{blk anc:Int}{s:BS×Int×Nat}(o:DG s.1):DG (BS.FO fe blk anc s)/\Le s.1.a (BS.FO fe blk anc s).a:=by
 unfold BS.FO;simp only
 generalize XF:s.1.place anc=pb;have l1:Le s.1.a (s.1.a.D0 s.2.1 pb.1 pb.2):=H6;have o1:=o.Jl (M4 (n:=s.2.1) (p:=pb.1) (b:=pb.2) o.ok) l1;generalize MC:({s.1 with a:=s.1.a.D0 s.2.1 pb.1 pb.2}:BS)=b2 at o1;have Nv:b2.a=s.1.a.D0 s.2.1 pb.1 pb.2:=by rw[<-MC]
 have Wf:b2.AR=s.1.AR:=by rw[<-MC]
 have HV:b2.A4=s.1.A4:=by rw[<-MC]
 obtain⟨o3,f,l3⟩:=Mp (nm:=fe.name) (at_:=fe.Ax) (p:=blk) o1 IP;have MA:(b2.D9 fe.name fe.Ax 1 blk).AR=b2.AR:=by unfold BS.D9;rw[if_pos IP]
 have Rs:(b2.D9 fe.name fe.Ax 1 blk).A4=b2.A4:=by unfold BS.D9;rw[if_pos IP]
 generalize tV:b2.D9 fe.name fe.Ax 1 blk=b3 at*;generalize hn:b2.FE fe.name fe.Ax 1=n at*;obtain⟨tZ,l4⟩:=LD (n:=n.node) (l:=(b3.a.nd blk).AZ) o3.ok;have X_:=ON (p:=blk) (n:=n.node) (b:=0) tZ;have l5:Le b3.a ((BS.Cj b3.a n.node (b3.a.nd blk).AZ).Fg blk n.node 0):=l4.trans M3;have o5:=o3.Jl X_ l5;have fr:((BS.Cj b3.a n.node (b3.a.nd blk).AZ).Fg blk n.node 0).has n.node/\(((BS.Cj b3.a n.node (b3.a.nd blk).AZ).Fg blk n.node 0).nd n.node).kind=4/\(((BS.Cj b3.a n.node (b3.a.nd blk).AZ).Fg blk n.node 0).nd n.node).AX=n.AX/\(((BS.Cj b3.a n.node (b3.a.nd blk).AZ).Fg blk n.node 0).nd n.node).name=n.name:=
  ⟨l5.has _ f.has,by rw[l5.kind _ f.has];exact f.kind,by rw[l5.AX _ f.has];exact f.AX,by rw[l5.name _ f.has];exact f.name⟩
 have o6:=(o5.iG (l:=A6 b3.A4 (EE fe.node b3.A4).toNat) CX).YQ (l:=CF fe.node b3.AR) Kb;have n1:n.node∉(CF fe.node b3.AR).map Item.node:=λh=>Mq o1 f ((Kb.map Item.node).subset (by rw[MA] at h;exact h));have n2:n.node∉(A6 b3.A4 (EE fe.node b3.A4).toNat).map Cd.node:=λh=>OR o1 f ((CX.map Cd.node).subset (by rw[Rs] at h;exact h));refine⟨(o6.V_ (i:=n) fr n1).W_ (e:={fe with node:=n.node}) (.inr ⟨fr.1,fr.2.1⟩) (.inr n2),?_⟩;rw[Nv] at l3;exact l1.trans (l3.trans l5)
theorem Vu(o:DG b):DG (b.round nm).2/\Le b.a (b.round nm).2.a:=by
 have hla:Le b.a (b.C1 nm).a:=by
  unfold BS.C1;split;·split<;>exact .refl
  .exact .refl
 unfold BS.round;simp only
 split;·exact⟨XE o,hla⟩
 .split;·exact⟨o.iG CX,.refl⟩
  .split;·exact⟨o,.refl⟩
   .split;·exact⟨(o.YQ HP).iG CX,.refl⟩
    .rename_i hf;have aQq:Dz (b.A4.getD (FL nm b.A4).toNat Cd.zero).node b.AR<b.AR.length:=by
      rw[HM];split;·omega
      .unfold Em;split;·rename_i k hk;have:=(HD.1 hk).1;rw[A7] at this;omega
       .omega
     have hb:b.a.has (b.AR.getD (Dz (b.A4.getD (FL nm b.A4).toNat Cd.zero).node b.AR).toNat Item.zero).node:=by rw[AE,Af (by omega)];exact(o.op _ (AJ _)).1
     obtain⟨o1,h1,l1⟩:=T0 (blk:=(b.AR.getD (Dz (b.A4.getD (FL nm b.A4).toNat Cd.zero).node b.AR).toNat Item.zero).node) (anc:=(b.AR.getD ((AK (Bm (b.A4.getD (FL nm b.A4).toNat Cd.zero).node) b.AR).toNat-1) Item.zero).node) (far:=(Dz (b.A4.getD (FL nm b.A4).toNat Cd.zero).node b.AR).toNat) (k:=(AK (Bm (b.A4.getD (FL nm b.A4).toNat Cd.zero).node) b.AR).toNat) (c:=(Dz (b.A4.getD (FL nm b.A4).toNat Cd.zero).node b.AR).toNat-1 -(AK (Bm (b.A4.getD (FL nm b.A4).toNat Cd.zero).node) b.AR).toNat) (s:=(b,(b.AR.getD (Dz (b.A4.getD (FL nm b.A4).toNat Cd.zero).node b.AR).toNat Item.zero).node,(FL nm b.A4).toNat)) o hb;have r:=rX (fe:=b.A4.getD (FL nm b.A4).toNat Cd.zero) (blk:=(b.AR.getD (Dz (b.A4.getD (FL nm b.A4).toNat Cd.zero).node b.AR).toNat Item.zero).node) (anc:=(b.AR.getD ((AK (Bm (b.A4.getD (FL nm b.A4).toNat Cd.zero).node) b.AR).toNat-1) Item.zero).node) o1;exact⟨r.1,l1.trans r.2⟩
theorem XG:∀{n:Nat} {b:BS},DG b->DG (BS.DK n b nm)/\Le b.a (BS.DK n b nm).a
 |0,b,o=>⟨o,.refl⟩
 |n+1,b,o=>by
  obtain⟨o1,l1⟩:=Vu (nm:=nm) o;unfold BS.DK;simp only
  split;·have r:=XG (n:=n) o1;exact⟨r.1,l1.trans r.2⟩
  .exact⟨o1,l1⟩
theorem rY(o:DG b):DG (b.Hp nm):=by
 unfold BS.Hp;split;·exact yA o
 .exact(XG o).1
end
structure LF(A:Ar):Prop where
 n:A.n.length<=1000000000
 at_:∀x,(A.nd x).Ax.length<=1000000000
 data:∀x,(A.nd x).data.length<=1000000000
def DL(l:List AW):Prop:=l.length<=1000/\∀a∈l,a.name.length<=1000/\a.value.length<=1000
structure BQ(b:BS)(m:Nat):Prop where
 n:b.a.n.length+m<=900000000
 at_:∀x,(b.a.nd x).Ax.length+m<=1000000000
 data:∀x,(b.a.nd x).data.length+m<=1000000000
 AR:b.AR.length+m<=900000000
 A4:b.A4.length+m<=900000000
 tm:b.tm.length+m<=900000000
 Dl:∀e∈b.A4,e.name.length<=1000/\DL e.Ax
 Wk:∀i∈b.AR,i.name.length<=1000
theorem BQ.Tq{b:BS}{m:Nat}(r:BQ b m):LF b.a:=⟨by have:=r.n;omega,λx=>by have:=r.at_ x;omega,λx=>by have:=r.data x;omega⟩
theorem BQ.le{b:BS}{m m':Nat}(r:BQ b m)(hm:m'<=m):BQ b m':=⟨by have:=r.n;omega,λx=>by have:=r.at_ x;omega,λx=>by have:=r.data x;omega,by have:=r.AR;omega,by have:=r.A4;omega,by have:=r.tm;omega,r.Dl,r.Wk⟩
theorem XH{sp:Int}{y:AW}:(CM sp y).value=y.value:=by
 unfold CM;split;·split<;>rfl
 .rfl
structure M5(A A':Ar):Prop where
 n:A'.n.length=A.n.length
 at_:∀x,(A'.nd x).Ax=(A.nd x).Ax
 data:∀x,(A'.nd x).data=(A.nd x).data
section
variable{A A' A'':Ar}{x p bf:Int}{b:BS}{m:Nat}
theorem M5.refl:M5 A A:=⟨rfl,λ_=>rfl,λ_=>rfl⟩
theorem M5.trans(h:M5 A A')(k:M5 A' A''):M5 A A'':=⟨k.n.trans h.n,λx=>(k.at_ x).trans (h.at_ x),λx=>(k.data x).trans (h.data x)⟩
theorem cK{y:Eh}(h1:y.Ax=(A.nd x).Ax)(h2:y.data=(A.nd x).data):M5 A (A.set x y):=by
 refine⟨It,λk=>?_,λk=>?_⟩<;>rw[IJ]<;>split;·rename_i e;rw[h1,e.1]
 .rfl
 .rename_i e;rw[h2,e.1]
 .rfl
theorem XI{l:List Int}:M5 A (A.set x {A.nd x with AZ:=l}):=cK rfl rfl
theorem XJ:M5 A (A.set x {A.nd x with E8:=p}):=cK rfl rfl
theorem IY:M5 A (A.Fg p x bf):=by
 unfold Ar.Fg;split
 .refine M5.trans ?_ (M5.trans XI XJ);unfold Ar.cut;simp only;split;·exact .refl
  .exact M5.trans XI XJ
 .exact .refl
theorem IZ:M5 A (A.D0 x p bf):=by unfold Ar.D0;split;exact .refl;exact IY
theorem Pv{n:Int}:∀{l:List Int} {A:Ar},M5 A (BS.Cj A n l)
 |[],A=> .refl
 |y::l,A=>M5.trans IY (Pv (l:=l))
theorem BQ.same{c:BS}(r:BQ b m)(h:M5 b.a c.a)(h1:c.AR.length<=b.AR.length)(h2:c.A4.length<=b.A4.length)(h3:c.tm.length<=b.tm.length)(h4:∀e∈c.A4,e.name.length<=1000/\DL e.Ax)(h5:∀i∈c.AR,i.name.length<=1000):BQ c m:=
 ⟨by rw[h.n];exact r.n,λx=>by rw[h.at_];exact r.at_ x,λx=>by rw[h.data];exact r.data x,by have:=r.AR;omega,by have:=r.A4;omega,by have:=r.tm;omega,h4,h5⟩
theorem BQ.Jl{A':Ar}(r:BQ b m)(h:M5 b.a A'):BQ {b with a:=A'} m:=r.same h (Ac _) (Ac _) (Ac _) r.Dl r.Wk
theorem BQ.eq{c:BS}(r:BQ b m)(h1:c.a=b.a)(h2:c.AR=b.AR)(h3:c.A4=b.A4)(h4:c.tm=b.tm):BQ c m:=⟨by rw[h1];exact r.n,by rw[h1];exact r.at_,by rw[h1];exact r.data,by rw[h2];exact r.AR,by rw[h3];exact r.A4,by rw[h4];exact r.tm,by rw[h3];exact r.Dl,by rw[h2];exact r.Wk⟩
structure Sb(A A':Ar)(k:Nat):Prop where
 n:A'.n.length<=A.n.length+k
 at_:∀x,(A'.nd x).Ax.length<=max (A.nd x).Ax.length 1000
 data:∀x,(A'.nd x).data.length<=max (A.nd x).data.length 100000
theorem Mr{y:Eh}(h1:y.Ax.length<=1000)(h2:y.data.length<=100000):Sb A (A.add y) 1:=by refine⟨by simp[Ar.add],λx=>?_,λx=>?_⟩<;>rw[HN]<;>split<;>omega
theorem Sb.trans{k k':Nat}(h:Sb A A' k)(g:Sb A' A'' k'):Sb A A'' (k+k'):=
 ⟨by have:=h.n;have:=g.n;omega,λx=>by have:=h.at_ x;have:=g.at_ x;omega,λx=>by have:=h.data x;have:=g.data x;omega⟩
theorem Sb.le{k k':Nat}(h:Sb A A' k)(hk:k<=k'):Sb A A' k':=⟨by have:=h.n;omega,h.at_,h.data⟩
theorem rZ(h:M5 A A'):Sb A A' 0:=⟨by rw[h.n];exact Ac _,λx=>by rw[h.at_];omega,λx=>by rw[h.data];omega⟩
theorem iO:Sb A (A.CW x) 1:=by
 unfold Ar.CW;split;·exact(rZ .refl).le (by omega)
 .have:=Mr (A:=A) (y:={kind:=1,Cy:=A.len+1}) (AO _) (AO _);exact⟨this.n,this.at_,this.data⟩
theorem yB{y:Eh}(h1:y.Ax.length<=1000)(h2:y.data.length<=100000):Sb A (A.set x y) 0:=by refine⟨by rw[It];exact Ac _,λx=>?_,λx=>?_⟩<;>rw[IJ]<;>split<;>omega
theorem sB{d sp:Int}{nm:As}{l:List AW}(hl:l.length<=1000):Sb A (A.elem d sp nm l) 3:=by
 have ho:=Bt (OM (l:=l)) hl;have g1:=Mr (A:=A) (y:={kind:=4,Cy:=d,AX:=sp,name:=nm,Ax:=Cf l}) ho (AO _);unfold Ar.elem;simp only
 split;·have g2:=iO (A:=A.add {kind:=4,Cy:=d,AX:=sp,name:=nm,Ax:=Cf l}) (x:=d);have g3:=Mr (A:=(A.add {kind:=4,Cy:=d,AX:=sp,name:=nm,Ax:=Cf l}).CW d) (y:={kind:=2,DT:=A.len+1,Cy:=(A.add {kind:=4,Cy:=d,AX:=sp,name:=nm,Ax:=Cf l}).EV d}) (AO _) (AO _);exact g1.trans (k':=2) (g2.trans (k':=1) (g3.trans (k':=0) (yB ho (AO _))))
 .exact g1.le (by omega)
theorem BQ.Ft{A':Ar}{k:Nat}(r:BQ b (m+k))(h:Sb b.a A' k):BQ {b with a:=A'} m:=
 ⟨by have:=r.n;have:=h.n;simp only;omega,λx=>by have:=r.at_ x;have:=h.at_ x;have:=r.n;simp only;omega,λx=>by have:=r.data x;have:=h.data x;have:=r.n;simp only;omega,by have:=r.AR;simp only;omega,by have:=r.A4;simp only;omega,by have:=r.tm;simp only;omega,r.Dl,r.Wk⟩
theorem Vv{sp:Int}{nm:As}:(BS.Io sp nm).length=nm.length:=by
 unfold BS.Io;split
 .rcases Kt nm HX with h|h
  .rw[h]
  .conv=>rhs;rw[<-h.2,QW]
 .rfl
variable{nm:As}{l:List AW}{sp:Int}
theorem H7(r:BQ b (m+3))(hl:DL l):BQ (b.D9 nm l sp p) m:=by
 unfold BS.D9;split;·exact r.Ft (sB (by rw[Ai];exact hl.1))
 .exact r.le (by omega)
theorem Ms(hn:nm.length<=1000):(b.FE nm l sp).name.length<=1000:=by
 unfold BS.FE;split;·show(BS.Io sp nm).length<=1000;rw[Vv];exact hn
 .exact AO _
theorem BQ.vh{i:Item}{l':List Item}(r:BQ b (m+1))(h1:l'.length<=b.AR.length+1)(h2:∀j∈l',j∈b.AR\/j=i)(hi:i.name.length<=1000):BQ {b with AR:=l'} m:=
 ⟨by have:=r.n;simp only;omega,λx=>by have:=r.at_ x;simp only;omega,λx=>by have:=r.data x;simp only;omega,by have:=r.AR;simp only;omega,by have:=r.A4;simp only;omega,by have:=r.tm;simp only;omega,r.Dl,λj hj=>by
  rcases h2 j hj with h|rfl
  .exact r.Wk j h
  .exact hi⟩
theorem BQ.vi{e:Cd}{l':List Cd}(r:BQ b (m+1))(h1:l'.length<=b.A4.length+1)(h2:∀j∈l',j∈b.A4\/j=e)(hi:e.name.length<=1000/\DL e.Ax):BQ {b with A4:=l'} m:=
 ⟨by have:=r.n;simp only;omega,λx=>by have:=r.at_ x;simp only;omega,λx=>by have:=r.data x;simp only;omega,by have:=r.AR;simp only;omega,by have:=r.A4;simp only;omega,by have:=r.tm;simp only;omega,λj hj=>by
  rcases h2 j hj with h|rfl
  .exact r.Dl j h
  .exact hi,r.Wk⟩
theorem Lh(r:BQ b (m+4))(hl:DL l)(hn:nm.length<=1000):BQ (b.Ex nm l sp) m:=by
 unfold BS.Ex;split
 .rename_i hs;have r1:=H7 (m:=m+1) (nm:=nm) (sp:=sp) (p:=(b.place 0).1) (r.le (by omega)) hl;have r2:=r1.Jl (IZ (x:=b.a.len+1) (p:=(b.place 0).1) (bf:=(b.place 0).2));have ho:(b.D9 nm l sp (b.place 0).1).AR=b.AR:=by unfold BS.D9;rw[if_pos hs]
  refine r2.vh (i:=b.FE nm l sp) (by simp only[Aq,Bs];exact Ac _) (λj hj=>?_) (Ms hn);rcases Ao.1 hj with h|h
  .exact .inl h
  .exact .inr (by simpa using h)
 .exact r.le (by omega)
theorem cL(r:BQ b (m+5))(hl:DL l)(hn:nm.length<=1000):BQ (b.Jc nm l) m:=by
 have r1:=Lh (m:=m+1) (sp:=1) (nm:=nm) (r.le (by omega)) hl hn;unfold BS.Jc;simp only
 obtain⟨l',h1,h2⟩:=Vr (l:=(b.Ex nm l 1).A4) (e:=⟨b.a.len+1,nm,l⟩);rw[h2];refine r1.vi (e:=⟨b.a.len+1,nm,l⟩) (by have:=h1.length_le;simp;omega) (λj hj=>?_) ⟨hn,hl⟩;rcases Ao.1 hj with h|h
 .exact .inl (h1.subset h)
 .exact .inr (by simpa using h)
end
end Go.Am
end
