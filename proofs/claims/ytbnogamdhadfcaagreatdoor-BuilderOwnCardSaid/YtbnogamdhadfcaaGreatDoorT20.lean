/- Lemmas -/
import Derived.Test.YtbnogamdhadfcaaGreatDoorT19
set_option linter.unusedVariables false
set_option linter.unusedSimpArgs false
section
namespace Go.Am
set_option maxRecDepth 100000
structure Le(A A':Ar):Prop where
 has:∀h,A.has h->A'.has h
 kind:∀h,A.has h->(A'.nd h).kind=(A.nd h).kind
 A0:∀h,A.has h->(A'.nd h).A0=(A.nd h).A0
 name:∀h,A.has h->(A'.nd h).name=(A.nd h).name
section
variable{A A' A'':Ar}{h k e p n b:Int}{x:Em}
theorem Le.refl:Le A A:=⟨λ_ h=>h,λ_ _=>rfl,λ_ _=>rfl,λ_ _=>rfl⟩
theorem Le.trans(h1:Le A A')(h2:Le A' A''):Le A A'':=⟨λh hh=>h2.has h (h1.has h hh),λh hh=>by rw[h2.kind h (h1.has h hh),h1.kind h hh],λh hh=>by rw[h2.A0 h (h1.has h hh),h1.A0 h hh],λh hh=>by rw[h2.name h (h1.has h hh),h1.name h hh]⟩
theorem Le.vg(h1:∀h,A.has h->A'.has h)(h2:∀h,A.has h->A'.nd h=A.nd h):Le A A':=⟨h1,λh hh=>by rw[h2 h hh],λh hh=>by rw[h2 h hh],λh hh=>by rw[h2 h hh]⟩
theorem Vq(hh:A.has h):h≠A.len+1:=λe=>P8 (A:=A) (e▸hh)
theorem Lg(hh:A.has h):(A.add x).nd h=A.nd h:=by rw[HO,if_neg (Vq hh)]
theorem hC:Le A (A.add x):= .vg (λh hh=>Dl.2 (.inl hh)) λh hh=>Lg hh
theorem YQ(h1:x.kind=(A.nd h).kind)(h2:x.A0=(A.nd h).A0)(h3:x.name=(A.nd h).name):Le A (A.set h x):=by
 refine⟨λk hk=>HC.2 hk,?_,?_,?_⟩<;>intro k hk<;>rw[IN]<;>split;·rename_i e;rw[e.1,h1]
 .rfl
 .rename_i e;rw[e.1,h2]
 .rfl
 .rename_i e;rw[e.1,h3]
 .rfl
theorem lU{l:List Int}:Le A (A.set h {A.nd h with AZ:=l}):=YQ rfl rfl rfl
theorem lV:Le A (A.set h {A.nd h with Fa:=p}):=YQ rfl rfl rfl
theorem Q_:Le A (A.cut n):=by
 unfold Ar.cut;simp only;split;·exact .refl
 .exact Le.trans lU lV
theorem R_:Le A (A.L1 p n b):=Le.trans lU lV
theorem M5:Le A (A.Fg p n b):=by unfold Ar.Fg;split;exact Q_.trans R_;exact .refl
theorem Ib:Le A (A.D3 n p b):=by unfold Ar.D3;split;exact .refl;exact M5
theorem M6(ok:Ew A e):Ew (A.D3 n p b) e:=by unfold Ar.D3;split;exact ok;exact OT ok
theorem cD{d sp:Int}{nm:As}{l:List AU}(hh:A.has h):(A.elem d sp nm l).has h/\(A.elem d sp nm l).nd h=A.nd h:=by
 have hne:=Vq hh;unfold Ar.elem;simp only
 split;·have h1:(A.add {kind:=4,Cz:=d,A0:=sp,name:=nm,Ay:=Cg l}).has h:=Dl.2 (.inl hh);refine⟨HC.2 (Dl.2 (.inl (Mq h1))),?_⟩;rw[IN,if_neg (λe=>hne e.1),Lg (Mq h1),Vo (.inl (Vq h1)),Lg hh]
 .exact⟨Dl.2 (.inl hh),Lg hh⟩
theorem cE{d sp:Int}{nm:As}{l:List AU}:(A.elem d sp nm l).has (A.len+1)/\((A.elem d sp nm l).nd (A.len+1)).kind=4/\((A.elem d sp nm l).nd (A.len+1)).A0=sp/\((A.elem d sp nm l).nd (A.len+1)).name=nm/\((A.elem d sp nm l).nd (A.len+1)).AZ=[]/\((A.elem d sp nm l).nd (A.len+1)).Fa=0/\((A.elem d sp nm l).nd (A.len+1)).Cz=d/\((A.elem d sp nm l).nd (A.len+1)).Ay=Cg l:=by
 unfold Ar.elem;simp only
 split;·have h1:(A.add {kind:=4,Cz:=d,A0:=sp,name:=nm,Ay:=Cg l}).has (A.len+1):=Dl.2 (.inr rfl);have h2:=Dl (x:={kind:=2,DW:=A.len+1,Cz:=(A.add {kind:=4,Cz:=d,A0:=sp,name:=nm,Ay:=Cg l}).EX d}).2 (.inl (Mq (h:=d) h1));rw[HC,IN,if_pos ⟨rfl,h2⟩];exact⟨h2,rfl,rfl,rfl,rfl,rfl,rfl,rfl⟩
 .rw[HO,if_pos rfl];exact⟨Dl.2 (.inr rfl),rfl,rfl,rfl,rfl,rfl,rfl,rfl⟩
theorem YR{d sp:Int}{nm:As}{l:List AU}:Le A (A.elem d sp nm l):= .vg (λ_ h=>(cD h).1) λ_ h=>(cD h).2
theorem cF{l:List AU}(ok:Ew A e)(hh:A.has h)(hk:(A.nd h).kind=4)(hl:∀a∈l,0<=a.A0/\a.A0<=7):Ew (A.Iv h l) e:=by have hx:=ok.Q2 h hh;refine xT ok hh ⟨hx.k,hx.AZ,λh=>absurd hk h,hx.nm,hx.dt,hx.data,hx.Cr,hx.sp,λa ha=>hl a (bW ha),XE l,hx.S2,hx.Ok,hx.root,hx.rQ⟩ rfl rfl rfl ⟨(ok.Cz h hh).1,(ok.Cz h hh).2,ok.YM h hh⟩ rfl rfl λhT=>hT
theorem hZ{s:As}(ok:Ew A e)(hh:A.has h)(hk:(A.nd h).kind=5\/(A.nd h).kind=6):Ew (A.Q4 h s) e:=by have hx:=ok.Q2 h hh;refine xT ok hh ⟨hx.k,hx.AZ,hx.elem,hx.nm,hx.dt,λh5 h6=>by have:(A.nd h).kind≠5:=h5;have:(A.nd h).kind≠6:=h6;omega,hx.Cr,hx.sp,hx.dn,hx.Cg,hx.S2,hx.Ok,hx.root,hx.rQ⟩ rfl rfl rfl ⟨(ok.Cz h hh).1,(ok.Cz h hh).2,ok.YM h hh⟩ rfl rfl λhT=>hT
theorem YS{kd d:Int}{s:As}(ok:Ew A e)(he:e≠A.len+1)(hd:A.has d/\(A.nd d).kind=1)(hk:kd=5\/kd=6):Ew (A.add {kind:=kd,Cz:=d,data:=s}) e:=by
 refine Vn ok ?_ (.inr ⟨by simp;omega,hd⟩) rfl rfl rfl rfl (λh=>?_);·constructor<;>simp[Cg,GD]<;>omega
 .have:=h.1;simp at this;omega
theorem iA{s:As}:Le A (A.Q4 h s):=YQ rfl rfl rfl
theorem cG{l:List AU}:Le A (A.Iv h l):=YQ rfl rfl rfl
theorem iB{sp:Int}{a:AU}:0<=(CO sp a).A0/\(CO sp a).A0<=7:=by
 unfold CO;split
 .split
  .rename_i s m he;have:∀x∈fT,0<=x.2.1/\x.2.1<=7:=by decide
   unfold DF at he;cases hf:fT.find? λx=>decide (Jh sp a.name=x.1) with
   |none=>rw[hf] at he;cases he
   |some y=>rw[hf] at he;have:=this y (List.mem_of_find?_eq_some hf);simp at he;rw[he] at this;exact this
  .exact⟨HW 0,by simp⟩
 .exact⟨HW 0,by simp⟩
end
structure DG(b:BS):Prop where
 ok:Ew b.a 0
 Cz:b.a.has b.Cz/\(b.a.nd b.Cz).kind=1
 op:∀i∈b.AR,b.a.has i.node/\(b.a.nd i.node).kind=4/\(b.a.nd i.node).A0=i.A0/\(b.a.nd i.node).name=i.name
 dr:(b.AR.map Item.node).Nodup
 ac:∀e∈b.A3,e.node=0\/(b.a.has e.node/\(b.a.nd e.node).kind=4)
 rU:((b.A3.map Ce.node).filter λn=>decide (n≠0)).Nodup
section
variable{b:BS}{t:Int}
theorem jm{A A':Ar}{l:List Item}(hl:Le A A')(h:∀i∈l,A.has i.node/\(A.nd i.node).kind=4/\(A.nd i.node).A0=i.A0/\(A.nd i.node).name=i.name):∀i∈l,A'.has i.node/\(A'.nd i.node).kind=4/\(A'.nd i.node).A0=i.A0/\(A'.nd i.node).name=i.name:=by intro i hi;have:=h i hi;rw[hl.kind _ this.1,hl.A0 _ this.1,hl.name _ this.1];exact⟨hl.has _ this.1,this.2⟩
theorem lW{A A':Ar}{l:List Ce}(hl:Le A A')(h:∀e∈l,e.node=0\/(A.has e.node/\(A.nd e.node).kind=4)):∀e∈l,e.node=0\/(A'.has e.node/\(A'.nd e.node).kind=4):=by
 intro e he;rcases h e he with h|h
 .exact .inl h
 .rw[hl.kind _ h.1];exact .inr ⟨hl.has _ h.1,h.2⟩
theorem DG.Jq(o:DG b){A:Ar}(ok:Ew A 0)(hl:Le b.a A):DG {b with a:=A}:=
 ⟨ok,by rw[hl.kind _ o.Cz.1];exact⟨hl.has _ o.Cz.1,o.Cz.2⟩,jm hl o.op,o.dr,lW hl o.ac,o.rU⟩
theorem DG.aJZ(o:DG b){l:List Item}(h1:∀i∈l,i∈b.AR)(h2:(l.map Item.node).Nodup):DG {b with AR:=l}:=
 ⟨o.ok,o.Cz,λi hi=>o.op i (h1 i hi),h2,o.ac,o.rU⟩
theorem DG.YT(o:DG b){l:List Item}(h1:List.Sublist l b.AR):DG {b with AR:=l}:=o.aJZ (λ_ hi=>h1.subset hi) (o.dr.sublist (h1.map _))
theorem DG.iC(o:DG b){l:List Ce}(h1:List.Sublist l b.A3):DG {b with A3:=l}:=
 ⟨o.ok,o.Cz,o.op,o.dr,λe he=>o.ac e (h1.subset he),o.rU.sublist ((h1.map _).filter _)⟩
theorem EH{p q:Item->Bool}{l:List Item}:List.Sublist (Ds p q l) l:=by
 have key:∀r:List Item,List.Sublist (Of p q r) r:=by
  intro r;induction r with
  |nil=>exact AX _
  |cons x r ih=>
   cases r with
   |nil=>exact AX _
   |cons y r=>
    rw[Of];split;·exact AX _
    .split;·exact List.sublist_cons_self _ _
     .exact ih.trans (List.sublist_cons_self _ _)
 have:=(key l.reverse).reverse;rwa [GZ] at this
theorem HQ{n:Int}{l:List Item}:List.Sublist (Gd n l) l:=by unfold Gd;split;exact AX _;exact EH
theorem CX{α:Type}{l:List α}{k:Nat}:List.Sublist (A7 l k) l:=by
 unfold A7;conv=>rhs;rw[<-CL k l]
 refine List.Sublist.append (AX _) ?_;rw[<-E9];exact List.drop_sublist _ _
theorem Kg{n:Int}{l:List Item}:List.Sublist (CG n l) l:=by unfold CG;split;exact AX _;exact CX
theorem Lh{l:List Item}{i:Int}(h0:0<=i)(h1:i<l.length):GB l i∈l:=by unfold GB;rw[if_pos h0,AE,Ai (by omega)];exact AI _
theorem JN{α:Type}{q:α->Bool}{l:List α}:AL q l<l.length∧-1<=AL q l:=by rcases CR (q:=q) (l:=l) with⟨h1,_⟩|⟨n,hn,h1,_⟩<;>rw[h1]<;>omega
theorem rV{l:List Item}(h:l≠[]):EW l∈l:=by have:0<l.length:=FW.2 h;exact Lh (by omega) (by omega)
theorem jn(o:DG b)(hn:b.AR≠[]):b.a.has b.I7.1/\(b.I7.2≠0->b.a.has b.I7.2/\(b.a.nd b.I7.2).Fa=b.I7.1):=by
 have hl:0<b.AR.length:=FW.2 hn;have h1:=JN (q:=Bq [A6]) (l:=b.AR);have h2:=JN (q:=Bq [Ex]) (l:=b.AR);unfold BS.I7;simp only
 split;·exact⟨(o.op _ (Lh (by omega) (by omega))).1,λh=>absurd rfl h⟩
 .split;·exact⟨(o.op _ (Lh (by omega) (by omega))).1,λh=>absurd rfl h⟩
  .have h3:=o.op _ (Lh (l:=b.AR) (i:=AL (Bq [Ex]) b.AR) (by omega) (by omega));split;·rename_i hp;exact⟨(o.ok.Fa _ h3.1 hp).1,λ_=>⟨h3.1,rfl⟩⟩
   .exact⟨(o.op _ (Lh (by omega) (by omega))).1,λh=>absurd rfl h⟩
theorem Vr(o:DG b)(ht:t=0\/(b.a.has t/\b.AR≠[])):b.a.has (b.place t).1/\((b.place t).2≠0->b.a.has (b.place t).2/\(b.a.nd (b.place t).2).Fa=(b.place t).1):=by
 unfold BS.place;simp only
 split;·exact⟨o.Cz.1,λh=>absurd rfl h⟩
 .rename_i h0;have hn:b.AR≠[]:=by
   rcases ht with h|h
   .intro h2;exact h0 ⟨h,h2⟩
   .exact h.2
  have h1:b.a.has (if t=0 then(EW b.AR).node else t):=by
   split;·exact(o.op _ (rV hn)).1
   .rename_i h2;exact(ht.resolve_left h2).1
  generalize(if t=0 then(EW b.AR).node else t)=t' at h1;have h2:b.a.has (if b.Eb=true/\Q3 GU b.a t' then b.I7 else(t',0)).1/\((if b.Eb=true/\Q3 GU b.a t' then b.I7 else(t',0)).2≠0->b.a.has (if b.Eb=true/\Q3 GU b.a t' then b.I7 else(t',0)).2/\(b.a.nd (if b.Eb=true/\Q3 GU b.a t' then b.I7 else(t',0)).2).Fa=(if b.Eb=true/\Q3 GU b.a t' then b.I7 else(t',0)).1):=by
   split;·exact jn o hn
   .exact⟨h1,λh=>absurd rfl h⟩
  generalize(if b.Eb=true/\Q3 GU b.a t' then b.I7 else(t',0))=pb at h2;split;·rename_i hc;exact⟨(o.ok.cont _ h2.1 hc).1,λh=>absurd rfl h⟩
  .exact h2
theorem Sd(o:DG b){p:Int}:b.a.has (b.Iq p)/\(b.a.nd (b.Iq p)).kind=1:=by
 unfold BS.Iq;by_cases hp:b.a.has p
 .have key:∀q,b.a.has q->b.a.has (if(b.a.nd q).Cz≠0 then(b.a.nd q).Cz else b.Cz)/\(b.a.nd (if(b.a.nd q).Cz≠0 then(b.a.nd q).Cz else b.Cz)).kind=1:=by
   intro q hq;split;·exact o.ok.Cz q hq
   .exact o.Cz
  split;·rename_i hc;exact key _ (o.ok.cont p hp hc).1
  .exact key p hp
 .rw[GN hp];exact o.Cz
variable{nm:As}{at_:List AU}{sp p:Int}
structure xX(b b1:BS)(i:Item):Prop where
 has:b1.a.has i.node
 kind:(b1.a.nd i.node).kind=4
 A0:(b1.a.nd i.node).A0=i.A0
 name:(b1.a.nd i.node).name=i.name
 new:¬b.a.has i.node
theorem Ms(o:DG b)(hs:BS.Hq sp):DG (b.Ee nm at_ sp p)/\xX b (b.Ee nm at_ sp p) (b.FE nm at_ sp)/\Le b.a (b.Ee nm at_ sp p).a:=by
 have hd:=Sd o (p:=p);unfold BS.Ee BS.FE;rw[if_pos hs,if_pos hs];have ok:=jl (sp:=sp) (nm:=BS.Ir sp nm) (l:=at_.map (CO sp)) o.ok hd hs (by intro a ha;obtain⟨c,_,rfl⟩:=Bl.1 ha;exact iB)
 have hn:=cE (A:=b.a) (d:=b.Iq p) (sp:=sp) (nm:=BS.Ir sp nm) (l:=at_.map (CO sp));exact⟨o.Jq ok YR,⟨hn.1,hn.2.1,hn.2.2.1,hn.2.2.2.1,P8⟩,YR⟩
theorem Mt(o:DG b){b1:BS}{i:Item}(f:xX b b1 i):i.node∉b.AR.map Item.node:=by intro h;obtain⟨j,hj,e⟩:=Bl.1 h;exact f.new (e▸(o.op j hj).1)
theorem OX(o:DG b){b1:BS}{i:Item}(f:xX b b1 i):i.node∉b.A3.map Ce.node:=by
 intro h;obtain⟨j,hj,e⟩:=Bl.1 h;rcases o.ac j hj with h1|h1
 .have:=f.has.1;omega
 .exact f.new (e▸h1.1)
theorem rW{α:Type}[DecidableEq α]{l:List α}{k:Nat}{x:α}(h:l.Nodup)(hx:x∉l):(l.take k++x::l.drop k).Nodup:=by
 have e:=CL k l;rw[B8];rw[<-e,B8] at h;refine⟨h.1,BY.2 ⟨λh1=>hx (Bw h1),h.2.1⟩,?_⟩;rintro a ha c hc rfl;rcases AP.1 hc with rfl|hc
 .exact hx (Bj ha)
 .exact h.2.2 _ ha _ hc rfl
theorem iD{α:Type}[DecidableEq α]{l:List α}{k:Nat}{x:α}(h:l.Nodup)(hx:x∉l):(l.set k x).Nodup:=by
 rw[BZ];split
 .have e:=CL k l;rw[B8];rw[<-e,B8] at h;have hd:List.Sublist (l.drop (k+1)) (l.drop k):=by rw[<-E9];exact List.drop_sublist _ _
  refine⟨h.1,BY.2 ⟨λh1=>hx (Bw h1),h.2.1.sublist hd⟩,?_⟩;rintro a ha c hc rfl;rcases AP.1 hc with rfl|hc
  .exact hx (Bj ha)
  .exact h.2.2 _ ha _ (hd.subset hc) rfl
 .exact h
theorem XF{α β:Type}(f:α->β)(l:List α)(k:Nat)(x:α):(l.take k++x::l.drop k).map f=(l.map f).take k++f x::(l.map f).drop k:=by simp
theorem DG.S_(o:DG b){i:Item}{k:Nat}(h1:b.a.has i.node/\(b.a.nd i.node).kind=4/\(b.a.nd i.node).A0=i.A0/\(b.a.nd i.node).name=i.name)(h2:i.node∉b.AR.map Item.node):DG {b with AR:=b.AR.take k++i::b.AR.drop k}:=by
 refine⟨o.ok,o.Cz,?_,by show((b.AR.take k++i::b.AR.drop k).map Item.node).Nodup;rw[XF];exact rW o.dr h2,o.ac,o.rU⟩;intro j hj;rcases Ap.1 hj with hj|hj
 .exact o.op j (Bj hj)
 .rcases AP.1 hj with rfl|hj
  .exact h1
  .exact o.op j (Bw hj)
theorem DG.iE(o:DG b){i:Item}{k:Nat}(h1:b.a.has i.node/\(b.a.nd i.node).kind=4/\(b.a.nd i.node).A0=i.A0/\(b.a.nd i.node).name=i.name)(h2:i.node∉b.AR.map Item.node):DG {b with AR:=b.AR.set k i}:=by
 refine⟨o.ok,o.Cz,?_,by show((b.AR.set k i).map Item.node).Nodup;rw[Fj];exact iD o.dr h2,o.ac,o.rU⟩;intro j hj;rcases Dk hj with hj|rfl
 .exact o.op j hj
 .exact h1
theorem xY{l:List Int}{k:Nat}{x:Int}(h:(l.filter λn=>decide (n≠0)).Nodup)(hx:x∉l):((l.take k++x::l.drop k).filter λn=>decide (n≠0)).Nodup:=by
 have e:=CL k l;rw[<-e,EB,B8] at h;rw[EB,B8];by_cases h0:x=0;·subst h0;simpa using h
 .rw[List.filter_cons_of_pos (by simpa using h0)];refine⟨h.1,BY.2 ⟨λh1=>hx (Bw ((DX.1 h1).1)),h.2.1⟩,?_⟩;rintro a ha c hc rfl;rcases AP.1 hc with rfl|hc
  .exact hx (Bj (DX.1 ha).1)
  .exact h.2.2 _ ha _ hc rfl
theorem xZ{l:List Int}{k:Nat}{x:Int}(h:(l.filter λn=>decide (n≠0)).Nodup)(hx:x∉l):((l.set k x).filter λn=>decide (n≠0)).Nodup:=by
 rw[BZ];split
 .have h2:(((l.take k++l.drop (k+1))).filter λn=>decide (n≠0)).Nodup:=h.sublist ((show List.Sublist (A7 l k) l from CX).filter _);rw[EB,B8] at h2⊢;by_cases h0:x=0;·subst h0;simpa using h2
  .rw[List.filter_cons_of_pos (by simpa using h0)];refine⟨h2.1,BY.2 ⟨λh1=>hx (Bw ((DX.1 h1).1)),h2.2.1⟩,?_⟩;rintro a ha c hc rfl;rcases AP.1 hc with rfl|hc
   .exact hx (Bj (DX.1 ha).1)
   .exact h2.2.2 _ ha _ hc rfl
 .exact h
theorem DG.T_(o:DG b){e:Ce}{k:Nat}(h1:e.node=0\/(b.a.has e.node/\(b.a.nd e.node).kind=4))(h2:e.node=0\/e.node∉b.A3.map Ce.node):DG {b with A3:=b.A3.take k++e::b.A3.drop k}:=by
 refine⟨o.ok,o.Cz,o.op,o.dr,?_,?_⟩
 .intro j hj;rcases Ap.1 hj with hj|hj
  .exact o.ac j (Bj hj)
  .rcases AP.1 hj with rfl|hj
   .exact h1
   .exact o.ac j (Bw hj)
 .show(((b.A3.take k++e::b.A3.drop k).map Ce.node).filter _).Nodup;rw[XF];rcases h2 with h2|h2
  .have:=o.rU;conv at this=>rw[<-CL k (b.A3.map Ce.node),EB]
   rw[EB,List.filter_cons_of_neg (by simp[h2])];exact this
  .exact xY o.rU h2
theorem DG.iF(o:DG b){e:Ce}{k:Nat}(h1:b.a.has e.node/\(b.a.nd e.node).kind=4)(h2:e.node∉b.A3.map Ce.node):DG {b with A3:=b.A3.set k e}:=by
 refine⟨o.ok,o.Cz,o.op,o.dr,?_,?_⟩
 .intro j hj;rcases Dk hj with hj|rfl
  .exact o.ac j hj
  .exact .inr h1
 .show(((b.A3.set k e).map Ce.node).filter _).Nodup;rw[Fj];exact xZ o.rU h2
theorem Qb(o:DG b):DG (b.Ey nm at_ sp):=by
 unfold BS.Ey;split
 .rename_i hs;obtain⟨o1,f,hl⟩:=Ms (nm:=nm) (at_:=at_) (p:=(b.place 0).1) o hs;have o2:=o1.Jq (M6 (n:=b.a.len+1) (p:=(b.place 0).1) (b:=(b.place 0).2) o1.ok) Ib;have hn:(b.FE nm at_ sp).node=b.a.len+1:=by unfold BS.FE;rw[if_pos hs]
  have l2:Le (b.Ee nm at_ sp (b.place 0).1).a ((b.Ee nm at_ sp (b.place 0).1).a.D3 (b.a.len+1) (b.place 0).1 (b.place 0).2):=Ib;have ho:(b.Ee nm at_ sp (b.place 0).1).AR=b.AR:=by unfold BS.Ee;rw[if_pos hs]
  have:=o2.S_ (i:=b.FE nm at_ sp) (k:=b.AR.length) ⟨l2.has _ f.has,by rw[l2.kind _ f.has];exact f.kind,by rw[l2.A0 _ f.has];exact f.A0,by rw[l2.name _ f.has];exact f.name⟩ (by simp only[ho];exact Mt o f);simp only[ho,Bu,Fo] at this;simp only[ho];exact this
 .exact o
theorem Vs{l:List Ce}{e:Ce}:∃l',List.Sublist l' l/\cC e l=l'++[e]:=by
 unfold cC;split;·exact⟨_,CX,rfl⟩
 .exact⟨_,AX _,rfl⟩
theorem jo:Le b.a (b.Ey nm at_ sp).a:=by
 unfold BS.Ey BS.Ee;split;·exact Le.trans YR Ib
 .exact .refl
theorem cH(hs:BS.Hq sp):(b.Ey nm at_ sp).a.has (b.a.len+1)/\((b.Ey nm at_ sp).a.nd (b.a.len+1)).kind=4:=by
 unfold BS.Ey BS.Ee;rw[if_pos hs];simp only
 rw[if_pos hs];have hn:=cE (A:=b.a) (d:=b.Iq (b.place 0).1) (sp:=sp) (nm:=BS.Ir sp nm) (l:=at_.map (CO sp));exact⟨Ib.has _ hn.1,by rw[Ib.kind _ hn.1];exact hn.2.1⟩
theorem FF:(b.Ey nm at_ sp).A3=b.A3:=by unfold BS.Ey BS.Ee;split<;>rfl
theorem IV:BS.Hq 1:=⟨by decide,by decide⟩
theorem jq(o:DG b):b.a.len+1∉b.A3.map Ce.node:=by
 intro h;obtain⟨j,hj,e⟩:=Bl.1 h;rcases o.ac j hj with h1|h1
 .unfold Ar.len at e;omega
 .exact P8 (e▸h1.1)
theorem rX(o:DG b):DG (b.Ji nm at_):=by
 have o1:=Qb (nm:=nm) (at_:=at_) (sp:=1) o;unfold BS.Ji;simp only
 obtain⟨l',h1,h2⟩:=Vs (l:=(b.Ey nm at_ 1).A3) (e:=⟨b.a.len+1,nm,at_⟩);rw[h2];have o2:=o1.iC h1;have:=o2.T_ (e:=⟨b.a.len+1,nm,at_⟩) (k:=l'.length) (.inr (cH IV)) (.inr (by intro h;rw[FF] at h1;exact jq o ((h1.map Ce.node).subset h)))
 simpa using this
theorem DG.of_eq{c:BS}(o:DG b)(h1:c.a=b.a)(h2:c.Cz=b.Cz)(h3:c.AR=b.AR)(h4:c.A3=b.A3):DG c:=
 ⟨h1▸o.ok,by rw[h1,h2];exact o.Cz,by rw[h1,h3];exact o.op,by rw[h3];exact o.dr,by rw[h1,h4];exact o.ac,by rw[h4];exact o.rU⟩
theorem iG{l:List Int}{bf t:Int}(h:Sc l bf=some t):t∈l:=by
 unfold Sc at h;split at h;·exact List.mem_of_getLast? h
 .exact(List.takeWhile_sublist _).subset (List.mem_of_getLast? h)
theorem rY{A:Ar}{s:As}{p bf:Int}(ok:Ew A 0)(hp:A.has p):Ew (BS.Kx A s p bf) 0/\Le A (BS.Kx A s p bf):=by
 have h0:(0:Int)≠A.len+1:=by unfold Ar.len;omega
 have ha:=M6 (n:=A.len+1) (p:=p) (b:=bf) (YS (s:=s) (kd:=5) ok h0 (ok.Cz p hp) (.inl rfl));have hl:Le A ((A.add {kind:=5,Cz:=(A.nd p).Cz,data:=s}).D3 (A.len+1) p bf):=Le.trans hC Ib;unfold BS.Kx;split
 .split
  .rename_i t ht;split;·rename_i hk;exact⟨hZ ok (ok.LD p hp _ (iG ht)).1 (.inl hk),iA⟩
   .exact⟨ha,hl⟩
  .exact⟨ha,hl⟩
 .exact⟨ok,.refl⟩
theorem jr(o:DG b){r:Int}:DG (b.gY r):=by have h:=rY (s:=GV r) (bf:=(b.place 0).2) o.ok (Vr o (.inl rfl)).1;exact o.Jq h.1 h.2
theorem Q6{A:Ar}{s:As}{p bf:Int}(ok:Ew A 0):Ew (BS.Es A s p bf) 0/\Le A (BS.Es A s p bf):=by
 unfold BS.Es;split
 .rename_i hk;have hp:A.has p:=by
   by_cases hp:A.has p;·exact hp
   .rw[GN hp] at hk;unfold Ke at hk;simp at hk
  have h0:(0:Int)≠A.len+1:=by unfold Ar.len;omega
  exact⟨M6 (YS (s:=s) (kd:=6) ok h0 (ok.Cz p hp) (.inr rfl)),Le.trans hC Ib⟩
 .exact⟨ok,.refl⟩
theorem iH(o:DG b){s:As}{p:Int}:DG (b.J2 s p):=by
 unfold BS.J2;split;·have h:=Q6 (s:=s) (p:=(b.place 0).1) (bf:=(b.place 0).2) o.ok;exact o.Jq h.1 h.2
 .have h:=Q6 (s:=s) (p:=p) (bf:=0) o.ok;exact o.Jq h.1 h.2
theorem iI(o:DG b){st:Int}:DG (b.OU nm at_ st):=(Qb o).of_eq rfl rfl rfl rfl
theorem rZ(o:DG b):DG b.IP:=by
 unfold BS.IP;split;·exact o.YT (EH.trans EH)
 .exact o
theorem XG(o:DG b):DG (b.C1 nm):=by
 unfold BS.C1;split
 .split;·exact o.YT (HQ.trans EH)
  .exact o
 .exact o
theorem Q7(o:DG b):DG b.HP:=o.of_eq rfl rfl rfl rfl
theorem yA(o:DG b){l:List AU}{h:Int}:DG (b.GF l h):=by
 unfold BS.GF;split
 .rename_i hk;have hh:b.a.has h:=by
   by_cases hp:b.a.has h;·exact hp
   .rw[GN hp] at hk;simp at hk
  refine o.Jq (cF o.ok hh hk ?_) cG;intro a ha;rcases Ap.1 ha with ha|ha
  .exact(o.ok.Q2 h hh).dn a ha
  .obtain⟨c,_,rfl⟩:=Bl.1 ha;simp
 .exact o
theorem Vt(o:DG b):DG b.C8:=by
 unfold BS.C8;split;·exact o
 .have o1:=(o.YT (EH (p:=CD) (q:=Bq [A6]) (l:=Ds Cs CD b.AR) |>.trans EH)).iC (l:=FD b.A3) (EZ _ _);exact(Q7 (b:={b with AR:=Ds CD (Bq [A6]) (Ds Cs CD b.AR),A3:=FD b.A3,tm:=b.tm.dropLast}) (o1.of_eq rfl rfl rfl rfl))
theorem yB(o:DG b):DG b.Qa:=by
 unfold BS.Qa;split;·exact o
 .exact o.YT (EZ _ _)
structure aEv(b:BS)(l:List Ce)(r:List Ce×BS):Prop where
 ok:DG r.2
 le:Le b.a r.2.a
 A3:r.2.A3=b.A3
 len:r.1.length=l.length
 nodes:∀e∈r.1,r.2.a.has e.node/\(r.2.a.nd e.node).kind=4/\¬b.a.has e.node
 vh:(r.1.map Ce.node).Nodup
 aEw:r.1.map Ce.name=l.map Ce.name
theorem lX:∀{l:List Ce} {b:BS},DG b->aEv b l (BS.Iw l b)
 |[],b,o=>by
  refine⟨o,.refl,rfl,rfl,?_,?_,rfl⟩;·intro e he;cases he
  .exact List.nodup_nil
 |e::l,b,o=>by
  have o1:=Qb (nm:=e.name) (at_:=e.Ay) (sp:=1) o;have r:=lX (l:=l) o1;have hl:Le b.a (b.Ey e.name e.Ay 1).a:=jo;have hn:=cH (b:=b) (nm:=e.name) (at_:=e.Ay) IV;refine⟨r.ok,hl.trans r.le,r.A3.trans FF,by simp[BS.Iw,r.len],?_,?_,by simp[BS.Iw,r.aEw]⟩
  .intro c hc;rcases AP.1 hc with rfl|hc
   .exact⟨r.le.has _ hn.1,(r.le.kind _ hn.1).trans hn.2,P8⟩
   .have:=r.nodes c hc;exact⟨this.1,this.2.1,λh=>this.2.2 (hl.has _ h)⟩
  .simp only[BS.Iw,Bm,BY];refine⟨λh=>?_,r.vh⟩;obtain⟨c,hc,e1⟩:=Bl.1 h;exact(r.nodes c hc).2.2 (e1▸hn.1)
theorem iJ(o:DG b):DG b.Dv:=by
 have r:=lX (l:=b.A3.drop b.Kf) o;unfold BS.Dv;simp only
 have hc:=lW r.le o.ac;refine⟨r.ok.ok,r.ok.Cz,r.ok.op,r.ok.dr,?_,?_⟩
 .intro e he;rcases Ap.1 he with he|he
  .exact hc e (Bj he)
  .exact .inr ⟨(r.nodes e he).1,(r.nodes e he).2.1⟩
 .show(((b.A3.take b.Kf++(BS.Iw (b.A3.drop b.Kf) b).1).map Ce.node).filter _).Nodup;rw[BE,EB,B8];refine⟨o.rU.sublist (((EZ _ _).map _).filter _),r.vh.filter _,?_⟩;rintro a ha c HZ rfl;obtain⟨e1,h1,rfl⟩:=Bl.1 (DX.1 ha).1;obtain⟨e2,h2,e3⟩:=Bl.1 (DX.1 HZ).1;have h3:=(r.nodes e2 h2);rw[e3] at h3;rcases o.ac e1 (Bj h1) with h4|h4
  .have:=h3.1.1;omega
  .exact h3.2.2 h4.1
theorem Vu(o:DG b){blk anc:Int}{far i:Nat}{l:Int}{m:Nat}(hl:b.a.has l):DG (BS.EO blk anc far i b l m).1/\(BS.EO blk anc far i b l m).1.a.has (BS.EO blk anc far i b l m).2.1/\Le b.a (BS.EO blk anc far i b l m).1.a:=by
 unfold BS.EO;simp only
 split;·exact⟨o.YT CX,hl,.refl⟩
 .split;·exact⟨(o.iC CX).YT CX,hl,.refl⟩
  .generalize Jr:b.A3.getD (EG (b.AR.getD i Item.zero).node b.A3).toNat Ce.zero=en;obtain⟨o1,f,DY⟩:=Ms (nm:=en.name) (at_:=en.Ay) (p:=anc) o IV;have l2:Le (b.Ee en.name en.Ay 1 anc).a ((b.Ee en.name en.Ay 1 anc).a.Fg (b.FE en.name en.Ay 1).node l 0):=M5;have MD:(b.Ee en.name en.Ay 1 anc).AR=b.AR:=by unfold BS.Ee;rw[if_pos IV]
   have Q8:(b.Ee en.name en.Ay 1 anc).A3=b.A3:=by unfold BS.Ee;rw[if_pos IV]
   have o2:=o1.Jq (OT (p:=(b.FE en.name en.Ay 1).node) (n:=l) (b:=0) o1.ok) l2;have o3:=o2.iE (i:=b.FE en.name en.Ay 1) (k:=i) ⟨l2.has _ f.has,by rw[l2.kind _ f.has];exact f.kind,by rw[l2.A0 _ f.has];exact f.A0,by rw[l2.name _ f.has];exact f.name⟩ (by simp only[MD];exact Mt o f);have o4:=o3.iF (e:={en with node:=(b.FE en.name en.Ay 1).node}) (k:=(EG (b.AR.getD i Item.zero).node b.A3).toNat) ⟨l2.has _ f.has,by rw[l2.kind _ f.has];exact f.kind⟩ (by simp only[Q8];exact OX o f);exact⟨o4,l2.has _ f.has,DY.trans l2⟩
theorem T2{blk anc:Int}{far k:Nat}:∀{c:Nat} {s:BS×Int×Nat},DG s.1->s.1.a.has s.2.1->DG (BS.Jp blk anc far k c s).1/\(BS.Jp blk anc far k c s).1.a.has (BS.Jp blk anc far k c s).2.1/\Le s.1.a (BS.Jp blk anc far k c s).1.a
 |0,s,o,h=>⟨o,h,.refl⟩
 |c+1,s,o,h=>by obtain⟨o1,h1,l1⟩:=Vu (blk:=blk) (anc:=anc) (far:=far) (i:=k+(c+1)) (m:=s.2.2) o h;obtain⟨o2,h2,l2⟩:=T2 (blk:=blk) (anc:=anc) (far:=far) (k:=k) (c:=c) o1 h1;exact⟨o2,h2,l1.trans l2⟩
theorem LH{n:Int}:∀{l:List Int} {A:Ar},Ew A 0->Ew (BS.Cl A n l) 0/\Le A (BS.Cl A n l)
 |[],A,ok=>⟨ok,.refl⟩
 |x::l,A,ok=>by have h:=LH (n:=n) (l:=l) (OT (p:=n) (n:=x) (b:=0) ok);exact⟨h.1,Le.trans M5 h.2⟩
theorem sB{fe:Ce}{blk anc:Int}{s:BS×Int×Nat}(o:DG s.1):DG (BS.FO fe blk anc s)/\Le s.1.a (BS.FO fe blk anc s).a:=by
 unfold BS.FO;simp only
 generalize XH:s.1.place anc=pb;have l1:Le s.1.a (s.1.a.D3 s.2.1 pb.1 pb.2):=Ib;have o1:=o.Jq (M6 (n:=s.2.1) (p:=pb.1) (b:=pb.2) o.ok) l1;generalize MF:({s.1 with a:=s.1.a.D3 s.2.1 pb.1 pb.2}:BS)=b2 at o1;have Nz:b2.a=s.1.a.D3 s.2.1 pb.1 pb.2:=by rw[<-MF]
 have Wf:b2.AR=s.1.AR:=by rw[<-MF]
 have HZ:b2.A3=s.1.A3:=by rw[<-MF]
 obtain⟨o3,f,l3⟩:=Ms (nm:=fe.name) (at_:=fe.Ay) (p:=blk) o1 IV;have MD:(b2.Ee fe.name fe.Ay 1 blk).AR=b2.AR:=by unfold BS.Ee;rw[if_pos IV]
 have Q8:(b2.Ee fe.name fe.Ay 1 blk).A3=b2.A3:=by unfold BS.Ee;rw[if_pos IV]
 generalize tW:b2.Ee fe.name fe.Ay 1 blk=b3 at*;generalize hn:b2.FE fe.name fe.Ay 1=n at*;obtain⟨uA,l4⟩:=LH (n:=n.node) (l:=(b3.a.nd blk).AZ) o3.ok;have U_:=OT (p:=blk) (n:=n.node) (b:=0) uA;have l5:Le b3.a ((BS.Cl b3.a n.node (b3.a.nd blk).AZ).Fg blk n.node 0):=l4.trans M5;have o5:=o3.Jq U_ l5;have fr:((BS.Cl b3.a n.node (b3.a.nd blk).AZ).Fg blk n.node 0).has n.node/\(((BS.Cl b3.a n.node (b3.a.nd blk).AZ).Fg blk n.node 0).nd n.node).kind=4/\(((BS.Cl b3.a n.node (b3.a.nd blk).AZ).Fg blk n.node 0).nd n.node).A0=n.A0/\(((BS.Cl b3.a n.node (b3.a.nd blk).AZ).Fg blk n.node 0).nd n.node).name=n.name:=
  ⟨l5.has _ f.has,by rw[l5.kind _ f.has];exact f.kind,by rw[l5.A0 _ f.has];exact f.A0,by rw[l5.name _ f.has];exact f.name⟩
 have o6:=(o5.iC (l:=A7 b3.A3 (EG fe.node b3.A3).toNat) CX).YT (l:=CG fe.node b3.AR) Kg;have n1:n.node∉(CG fe.node b3.AR).map Item.node:=λh=>Mt o1 f ((Kg.map Item.node).subset (by rw[MD] at h;exact h));have n2:n.node∉(A7 b3.A3 (EG fe.node b3.A3).toNat).map Ce.node:=λh=>OX o1 f ((CX.map Ce.node).subset (by rw[Q8] at h;exact h));refine⟨(o6.S_ (i:=n) fr n1).T_ (e:={fe with node:=n.node}) (.inr ⟨fr.1,fr.2.1⟩) (.inr n2),?_⟩;rw[Nz] at l3;exact l1.trans (l3.trans l5)
theorem Vv(o:DG b):DG (b.round nm).2/\Le b.a (b.round nm).2.a:=by
 have hla:Le b.a (b.C1 nm).a:=by
  unfold BS.C1;split;·split<;>exact .refl
  .exact .refl
 unfold BS.round;simp only
 split;·exact⟨XG o,hla⟩
 .split;·exact⟨o.iC CX,.refl⟩
  .split;·exact⟨o,.refl⟩
   .split;·exact⟨(o.YT HQ).iC CX,.refl⟩
    .rename_i hf;have aQj:DA (b.A3.getD (FL nm b.A3).toNat Ce.zero).node b.AR<b.AR.length:=by
      rw[HN];split;·omega
      .unfold Ep;split;·rename_i k hk;have:=(HE.1 hk).1;rw[A8] at this;omega
       .omega
     have hb:b.a.has (b.AR.getD (DA (b.A3.getD (FL nm b.A3).toNat Ce.zero).node b.AR).toNat Item.zero).node:=by rw[AE,Ai (by omega)];exact(o.op _ (AI _)).1
     obtain⟨o1,h1,l1⟩:=T2 (blk:=(b.AR.getD (DA (b.A3.getD (FL nm b.A3).toNat Ce.zero).node b.AR).toNat Item.zero).node) (anc:=(b.AR.getD ((AL (Bp (b.A3.getD (FL nm b.A3).toNat Ce.zero).node) b.AR).toNat-1) Item.zero).node) (far:=(DA (b.A3.getD (FL nm b.A3).toNat Ce.zero).node b.AR).toNat) (k:=(AL (Bp (b.A3.getD (FL nm b.A3).toNat Ce.zero).node) b.AR).toNat) (c:=(DA (b.A3.getD (FL nm b.A3).toNat Ce.zero).node b.AR).toNat-1 -(AL (Bp (b.A3.getD (FL nm b.A3).toNat Ce.zero).node) b.AR).toNat) (s:=(b,(b.AR.getD (DA (b.A3.getD (FL nm b.A3).toNat Ce.zero).node b.AR).toNat Item.zero).node,(FL nm b.A3).toNat)) o hb;have r:=sB (fe:=b.A3.getD (FL nm b.A3).toNat Ce.zero) (blk:=(b.AR.getD (DA (b.A3.getD (FL nm b.A3).toNat Ce.zero).node b.AR).toNat Item.zero).node) (anc:=(b.AR.getD ((AL (Bp (b.A3.getD (FL nm b.A3).toNat Ce.zero).node) b.AR).toNat-1) Item.zero).node) o1;exact⟨r.1,l1.trans r.2⟩
theorem XI:∀{n:Nat} {b:BS},DG b->DG (BS.DM n b nm)/\Le b.a (BS.DM n b nm).a
 |0,b,o=>⟨o,.refl⟩
 |n+1,b,o=>by
  obtain⟨o1,l1⟩:=Vv (nm:=nm) o;unfold BS.DM;simp only
  split;·have r:=XI (n:=n) o1;exact⟨r.1,l1.trans r.2⟩
  .exact⟨o1,l1⟩
theorem sC(o:DG b):DG (b.Hr nm):=by
 unfold BS.Hr;split;·exact yB o
 .exact(XI o).1
end
structure L3(A:Ar):Prop where
 n:A.n.length<=1000000000
 at_:∀x,(A.nd x).Ay.length<=1000000000
 data:∀x,(A.nd x).data.length<=1000000000
def DH(l:List AU):Prop:=l.length<=1000/\∀a∈l,a.name.length<=1000/\a.value.length<=1000
structure BR(b:BS)(m:Nat):Prop where
 n:b.a.n.length+m<=900000000
 at_:∀x,(b.a.nd x).Ay.length+m<=1000000000
 data:∀x,(b.a.nd x).data.length+m<=1000000000
 AR:b.AR.length+m<=900000000
 A3:b.A3.length+m<=900000000
 tm:b.tm.length+m<=900000000
 Dj:∀e∈b.A3,e.name.length<=1000/\DH e.Ay
 Wl:∀i∈b.AR,i.name.length<=1000
theorem BR.Wm{b:BS}{m:Nat}(r:BR b m):L3 b.a:=⟨by have:=r.n;omega,λx=>by have:=r.at_ x;omega,λx=>by have:=r.data x;omega⟩
theorem BR.le{b:BS}{m m':Nat}(r:BR b m)(hm:m'<=m):BR b m':=⟨by have:=r.n;omega,λx=>by have:=r.at_ x;omega,λx=>by have:=r.data x;omega,by have:=r.AR;omega,by have:=r.A3;omega,by have:=r.tm;omega,r.Dj,r.Wl⟩
theorem XJ{sp:Int}{y:AU}:(CO sp y).value=y.value:=by
 unfold CO;split;·split<;>rfl
 .rfl
structure M7(A A':Ar):Prop where
 n:A'.n.length=A.n.length
 at_:∀x,(A'.nd x).Ay=(A.nd x).Ay
 data:∀x,(A'.nd x).data=(A.nd x).data
section
variable{A A' A'':Ar}{x p bf:Int}{b:BS}{m:Nat}
theorem M7.refl:M7 A A:=⟨rfl,λ_=>rfl,λ_=>rfl⟩
theorem M7.trans(h:M7 A A')(k:M7 A' A''):M7 A A'':=⟨k.n.trans h.n,λx=>(k.at_ x).trans (h.at_ x),λx=>(k.data x).trans (h.data x)⟩
theorem cI{y:Em}(h1:y.Ay=(A.nd x).Ay)(h2:y.data=(A.nd x).data):M7 A (A.set x y):=by
 refine⟨Iu,λk=>?_,λk=>?_⟩<;>rw[IN]<;>split;·rename_i e;rw[h1,e.1]
 .rfl
 .rename_i e;rw[h2,e.1]
 .rfl
theorem XK{l:List Int}:M7 A (A.set x {A.nd x with AZ:=l}):=cI rfl rfl
theorem XL:M7 A (A.set x {A.nd x with Fa:=p}):=cI rfl rfl
theorem I3:M7 A (A.Fg p x bf):=by
 unfold Ar.Fg;split
 .refine M7.trans ?_ (M7.trans XK XL);unfold Ar.cut;simp only;split;·exact .refl
  .exact M7.trans XK XL
 .exact .refl
theorem I4:M7 A (A.D3 x p bf):=by unfold Ar.D3;split;exact .refl;exact I3
theorem Pz{n:Int}:∀{l:List Int} {A:Ar},M7 A (BS.Cl A n l)
 |[],A=> .refl
 |y::l,A=>M7.trans I3 (Pz (l:=l))
theorem BR.same{c:BS}(r:BR b m)(h:M7 b.a c.a)(h1:c.AR.length<=b.AR.length)(h2:c.A3.length<=b.A3.length)(h3:c.tm.length<=b.tm.length)(h4:∀e∈c.A3,e.name.length<=1000/\DH e.Ay)(h5:∀i∈c.AR,i.name.length<=1000):BR c m:=
 ⟨by rw[h.n];exact r.n,λx=>by rw[h.at_];exact r.at_ x,λx=>by rw[h.data];exact r.data x,by have:=r.AR;omega,by have:=r.A3;omega,by have:=r.tm;omega,h4,h5⟩
theorem BR.Jq{A':Ar}(r:BR b m)(h:M7 b.a A'):BR {b with a:=A'} m:=r.same h (Ac _) (Ac _) (Ac _) r.Dj r.Wl
theorem BR.eq{c:BS}(r:BR b m)(h1:c.a=b.a)(h2:c.AR=b.AR)(h3:c.A3=b.A3)(h4:c.tm=b.tm):BR c m:=⟨by rw[h1];exact r.n,by rw[h1];exact r.at_,by rw[h1];exact r.data,by rw[h2];exact r.AR,by rw[h3];exact r.A3,by rw[h4];exact r.tm,by rw[h3];exact r.Dj,by rw[h2];exact r.Wl⟩
structure Se(A A':Ar)(k:Nat):Prop where
 n:A'.n.length<=A.n.length+k
 at_:∀x,(A'.nd x).Ay.length<=max (A.nd x).Ay.length 1000
 data:∀x,(A'.nd x).data.length<=max (A.nd x).data.length 100000
theorem Mu{y:Em}(h1:y.Ay.length<=1000)(h2:y.data.length<=100000):Se A (A.add y) 1:=by refine⟨by simp[Ar.add],λx=>?_,λx=>?_⟩<;>rw[HO]<;>split<;>omega
theorem Se.trans{k k':Nat}(h:Se A A' k)(g:Se A' A'' k'):Se A A'' (k+k'):=
 ⟨by have:=h.n;have:=g.n;omega,λx=>by have:=h.at_ x;have:=g.at_ x;omega,λx=>by have:=h.data x;have:=g.data x;omega⟩
theorem Se.le{k k':Nat}(h:Se A A' k)(hk:k<=k'):Se A A' k':=⟨by have:=h.n;omega,h.at_,h.data⟩
theorem sD(h:M7 A A'):Se A A' 0:=⟨by rw[h.n];exact Ac _,λx=>by rw[h.at_];omega,λx=>by rw[h.data];omega⟩
theorem iK:Se A (A.CW x) 1:=by
 unfold Ar.CW;split;·exact(sD .refl).le (by omega)
 .have:=Mu (A:=A) (y:={kind:=1,Cz:=A.len+1}) (AO _) (AO _);exact⟨this.n,this.at_,this.data⟩
theorem yC{y:Em}(h1:y.Ay.length<=1000)(h2:y.data.length<=100000):Se A (A.set x y) 0:=by refine⟨by rw[Iu];exact Ac _,λx=>?_,λx=>?_⟩<;>rw[IN]<;>split<;>omega
theorem sE{d sp:Int}{nm:As}{l:List AU}(hl:l.length<=1000):Se A (A.elem d sp nm l) 3:=by
 have ho:=Bt (OS (l:=l)) hl;have g1:=Mu (A:=A) (y:={kind:=4,Cz:=d,A0:=sp,name:=nm,Ay:=Cg l}) ho (AO _);unfold Ar.elem;simp only
 split;·have g2:=iK (A:=A.add {kind:=4,Cz:=d,A0:=sp,name:=nm,Ay:=Cg l}) (x:=d);have g3:=Mu (A:=(A.add {kind:=4,Cz:=d,A0:=sp,name:=nm,Ay:=Cg l}).CW d) (y:={kind:=2,DW:=A.len+1,Cz:=(A.add {kind:=4,Cz:=d,A0:=sp,name:=nm,Ay:=Cg l}).EX d}) (AO _) (AO _);exact g1.trans (k':=2) (g2.trans (k':=1) (g3.trans (k':=0) (yC ho (AO _))))
 .exact g1.le (by omega)
theorem BR.Fs{A':Ar}{k:Nat}(r:BR b (m+k))(h:Se b.a A' k):BR {b with a:=A'} m:=
 ⟨by have:=r.n;have:=h.n;simp only;omega,λx=>by have:=r.at_ x;have:=h.at_ x;have:=r.n;simp only;omega,λx=>by have:=r.data x;have:=h.data x;have:=r.n;simp only;omega,by have:=r.AR;simp only;omega,by have:=r.A3;simp only;omega,by have:=r.tm;simp only;omega,r.Dj,r.Wl⟩
theorem Vw{sp:Int}{nm:As}:(BS.Ir sp nm).length=nm.length:=by
 unfold BS.Ir;split
 .rcases Kv nm H7 with h|h
  .rw[h]
  .conv=>rhs;rw[<-h.2,QV]
 .rfl
variable{nm:As}{l:List AU}{sp:Int}
theorem Ic(r:BR b (m+3))(hl:DH l):BR (b.Ee nm l sp p) m:=by
 unfold BS.Ee;split;·exact r.Fs (sE (by rw[Ah];exact hl.1))
 .exact r.le (by omega)
theorem Mv(hn:nm.length<=1000):(b.FE nm l sp).name.length<=1000:=by
 unfold BS.FE;split;·show(BS.Ir sp nm).length<=1000;rw[Vw];exact hn
 .exact AO _
theorem BR.vi{i:Item}{l':List Item}(r:BR b (m+1))(h1:l'.length<=b.AR.length+1)(h2:∀j∈l',j∈b.AR\/j=i)(hi:i.name.length<=1000):BR {b with AR:=l'} m:=
 ⟨by have:=r.n;simp only;omega,λx=>by have:=r.at_ x;simp only;omega,λx=>by have:=r.data x;simp only;omega,by have:=r.AR;simp only;omega,by have:=r.A3;simp only;omega,by have:=r.tm;simp only;omega,r.Dj,λj hj=>by
  rcases h2 j hj with h|rfl
  .exact r.Wl j h
  .exact hi⟩
theorem BR.vj{e:Ce}{l':List Ce}(r:BR b (m+1))(h1:l'.length<=b.A3.length+1)(h2:∀j∈l',j∈b.A3\/j=e)(hi:e.name.length<=1000/\DH e.Ay):BR {b with A3:=l'} m:=
 ⟨by have:=r.n;simp only;omega,λx=>by have:=r.at_ x;simp only;omega,λx=>by have:=r.data x;simp only;omega,by have:=r.AR;simp only;omega,by have:=r.A3;simp only;omega,by have:=r.tm;simp only;omega,λj hj=>by
  rcases h2 j hj with h|rfl
  .exact r.Dj j h
  .exact hi,r.Wl⟩
theorem Li(r:BR b (m+4))(hl:DH l)(hn:nm.length<=1000):BR (b.Ey nm l sp) m:=by
 unfold BS.Ey;split
 .rename_i hs;have r1:=Ic (m:=m+1) (nm:=nm) (sp:=sp) (p:=(b.place 0).1) (r.le (by omega)) hl;have r2:=r1.Jq (I4 (x:=b.a.len+1) (p:=(b.place 0).1) (bf:=(b.place 0).2));have ho:(b.Ee nm l sp (b.place 0).1).AR=b.AR:=by unfold BS.Ee;rw[if_pos hs]
  refine r2.vi (i:=b.FE nm l sp) (by simp only[Ao,Bc];exact Ac _) (λj hj=>?_) (Mv hn);rcases Ap.1 hj with h|h
  .exact .inl h
  .exact .inr (by simpa using h)
 .exact r.le (by omega)
theorem cJ(r:BR b (m+5))(hl:DH l)(hn:nm.length<=1000):BR (b.Ji nm l) m:=by
 have r1:=Li (m:=m+1) (sp:=1) (nm:=nm) (r.le (by omega)) hl hn;unfold BS.Ji;simp only
 obtain⟨l',h1,h2⟩:=Vs (l:=(b.Ey nm l 1).A3) (e:=⟨b.a.len+1,nm,l⟩);rw[h2];refine r1.vj (e:=⟨b.a.len+1,nm,l⟩) (by have:=h1.length_le;simp;omega) (λj hj=>?_) ⟨hn,hl⟩;rcases Ap.1 hj with h|h
 .exact .inl (h1.subset h)
 .exact .inr (by simpa using h)
end
end Go.Am
end
