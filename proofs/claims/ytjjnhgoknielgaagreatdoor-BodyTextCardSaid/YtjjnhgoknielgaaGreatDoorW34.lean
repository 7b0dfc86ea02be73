/- Lemmas -/
import Derived.Test.YtjjnhgoknielgaaGreatDoorW30
set_option linter.all false
set_option maxRecDepth 100000
section
namespace Go.Am
section
variable{l:List Int}{bf t N:Int}{k:Nat}
end
section
variable{A B:Ar}{p bf e h:Int}{x:HK}{b:BS}{t:Int}
def wb(ok:Eo A e):∀{m},Reach (A.add x) (A.len+1) m->¬A.has m:=by
 intro m hm;induction hm with
 |refl=>exact Om
 |@step q h1 _ ih=>
  intro hq;have e:(A.add x).up q=A.up q:=by unfold Ar.up;rw[Jl hq]
  rw[e] at h1 ih;exact ih (YV ok hq h1)
def aCm(ok:Eo A e)(h1:x.GO=0)(hk:x.kind≠1/\x.kind≠2)(hp:A.has p)(kp:MO (A.nd p).kind)(g:(A.nd p).kind=1->x.kind≠4)(hb:bf≠0->A.has bf/\(A.nd bf).GO=p)(k:Int):
  ((A.add x).Et (A.len+1) p bf).nd k=if k=A.len+1 then{x with GO:=p} else if k=p then{A.nd p with Bi:=I1 (A.nd p).Bi bf (A.len+1)} else A.nd k:=by
 have d:p≠A.len+1:=Oo hp;have c:(A.add x).nd (A.len+1)=x:=by rw[Jj,Ae rfl]
 have a:∀{k},A.has k->(A.add x).nd k=A.nd k:=Jl;have f:sy (A.add x) p (A.len+1) bf:=⟨DO.2 (.inl hp),DO.2 (.inr rfl),λh=>⟨DO.2 (.inl (hb h).1),Oo (hb h).1,by rw[a (hb h).1];exact(hb h).2⟩,by rw[a hp];exact kp,by rw[c];exact hk,λh=>wb ok h hp⟩;have i:(A.add x).cut (A.len+1)=A.add x:=by unfold Ar.cut;simp only;rw[c,Ae h1]
 unfold Ar.Et;rw[Aa (by rw[a hp,c];exact λh=>g h.1 h.2.1)];unfold Ar.F9;rw[Ae f,i,SN f.hp f.hn (C3 d),c,a hp];split;.rfl
 .rename_i hk;rw[Jj,Aa hk]
def ŝ{n k:Int}:(A.Et n p bf).has k↔A.has k:=by unfold Ar.has;have:=(Û (A:=A) (n:=n) (p:=p) (b:=bf));unfold Ar.len at this;omega
end
end Go.Am
end
section
namespace Go.Am
open Go
def Ar.el(A:Ar)(x:Int):List Int:=(A.nd x).Bi.filter λk=>decide ((A.nd k).kind=4)
section
variable{A A':Ar}{e x p n bf d sp:Int}{y:HK}{l:List Bj}{nm:Ah}{b:BS}
def Ut(ok:Eo A e)(hx:A.has x)(hl:Le A A')(hk:(A'.nd x).Bi=(A.nd x).Bi):A'.el x=A.el x:=by unfold Ar.el;rw[hk];refine NG λk h=>?_;rw[hl.kind _ (ok.Ok x hx k h).1]
def lX(h:n∈A.el x):n∈(A.nd x).Bi/\(A.nd n).kind=4:=by have:=BE.1 h;exact⟨this.1,CC this.2⟩
def lY(f:sy A p n bf):n≠p:=λe=>f.re (e▸ .refl)
def Xu(ok:Eo A e)(hx:A.has x)(hp:p≠x)(hn:n∉A.el x):(A.F9 p n bf).el x=A.el x:=by
 have hl:Le A (A.F9 p n bf):=Hs;unfold Ar.F9 at hl⊢;split
 .rename_i f;rw[Ae f] at hl;have hne:=lY f;have c:=SN (A:=A.cut n) (p:=p) (n:=n) (b:=bf) (k:=x) (KT.2 f.hp) (KT.2 f.hn) hne;have a:=QX (k:=x) ok f.hn;by_cases g:x=n
  .refine Ut ok hx hl ?_;rw[c,Ae g];simp only
   rw[QX ok f.hn,Ae rfl,g]
  .rw[Aa g,Aa (C3 hp)] at c;rw[Aa g] at a;by_cases m:(A.nd n).GO≠0/\x=(A.nd n).GO
   .rw[Ae m] at a;unfold Ar.el;rw[c,a];simp only
    rw[aRF];refine NG λk h=>?_;rw[hl.kind _ (ok.Ok x hx k h).1];by_cases i:(A.nd k).kind=4;.have:k≠n:=λj=>hn (BE.2 ⟨j▸h,by rw[<-j];exact Ak i⟩);simp[i,this]
    .simp[i]
   .rw[Aa m] at a;exact Ut ok hx hl (by rw[c,a])
 .rfl
def lZ(ok:Eo A e)(hx:A.has x)(hp:p≠x)(hn:n∉A.el x):(A.Et n p bf).el x=A.el x:=by
 unfold Ar.Et;split;.rfl
 .exact Xu ok hx hp hn
def xQ{q:Int->Bool}{ks:List Int}(h:q n=false):(I1 ks bf n).filter q=ks.filter q:=by
 unfold I1;split;.rw[Be];simp[h]
 .rw[Be,CX (by simp[h])];rw[<-Be,NR]
def ZS(ok:Eo A e)(hx:A.has x)(hk:(A.nd n).kind≠4):(A.F9 p n bf).el x=A.el x:=by
 by_cases hp:p=x
 .have hl:Le A (A.F9 p n bf):=Hs;unfold Ar.F9 at hl⊢;split
  .rename_i f;rw[Ae f] at hl;have hne:=lY f;have i:=SN (A:=A.cut n) (p:=p) (n:=n) (b:=bf) (k:=x) (KT.2 f.hp) (KT.2 f.hn) hne;rw[Aa (by rw[<-hp];exact C3 hne),Ae hp.symm] at i;have j:=QX (k:=p) ok f.hn;rw[Aa (C3 hne)] at j;have key:∀k∈I1 (A.nd x).Bi bf n,(((A.cut n).Mw p n bf).nd k).kind=(A.nd k).kind:=λk h=>by
    rcases LC.1 h with rfl|h
    .exact hl.kind _ f.hn
    .exact hl.kind _ (ok.Ok x hx k h).1
   have a:((A.cut n).nd p).Bi=(A.nd p).Bi\/((A.cut n).nd p).Bi=(A.nd p).Bi.filter λm=>decide (m≠n):=by
    rw[j];split;.exact .inr rfl
    .exact .inl rfl
   unfold Ar.el;rw[i];simp only
   rw[hp] at a⊢;have q:(I1 ((A.cut n).nd x).Bi bf n).filter (λk=>decide ((((A.cut n).Mw x n bf).nd k).kind=4))=(I1 ((A.cut n).nd x).Bi bf n).filter λk=>decide ((A.nd k).kind=4):=NG λk h=>by
    rw[hp] at key;rw[key k];rcases LC.1 h with rfl|h
    .exact LC.2 (.inl rfl)
    .refine LC.2 (.inr ?_);rcases a with c|c
     .rw[c] at h;exact h
     .rw[c] at h;exact(BE.1 h).1
   rw[q,xQ (by simpa using hk)];rcases a with c|c
   .rw[c]
   .rw[c,aRF];refine NG λk h=>?_;by_cases g:(A.nd k).kind=4;.have:k≠n:=λo=>hk (o▸g);simp[g,this]
    .simp[g]
  .rfl
 .exact Xu ok hx hp λh=>hk (lX h).2
def ZT(ok:Eo A e)(hx:A.has x)(hk:(A.nd n).kind≠4):(A.Et n p bf).el x=A.el x:=by
 unfold Ar.Et;split;.rfl
 .exact ZS ok hx hk
def xR(ok:Eo A e)(hx:A.has x):(A.add y).el x=A.el x:=Ut ok hx PK (by rw[Jl hx])
def l8(ok:Eo A e)(hx:A.has x):(A.elem d sp nm l).el x=A.el x:=Ut ok hx W8 (by rw[(TX hx).2])
def xS(ok:Eo A e)(hx:A.has x){h:Int}(h1:y.kind=(A.nd h).kind)(h2:y.Bd=(A.nd h).Bd)(h3:y.name=(A.nd h).name)(a:y.Bi=(A.nd h).Bi):(A.set h y).el x=A.el x:=Ut ok hx (PL h1 h2 h3) (by
 rw[IS];split;.rename_i e;rw[a,e.1]
 .rfl)
def mA(o:EC b)(hx:b.a.has x){r:Int}:(b.Jk r).a.el x=b.a.el x:=by
 have ok:=o.ok;have hp:=(TZ o (.inl rfl)).1;have Nf:∀s,((b.a.add {kind:=5,BM:=(b.a.nd (b.place 0).1).BM,data:=s}).Et (b.a.len+1) (b.place 0).1 (b.place 0).2).el x=b.a.el x:=λs=>by have RO:=TY (kd:=5) (s:=s) ok (show(0:Int)≠b.a.len+1 by unfold Ar.len;omega) (ok.BM _ hp) (.inl rfl);rw[ZT RO (DO.2 (.inl hx)) (by rw[Jj,Ae rfl];show(5:Int)≠4;decide),xR ok hx]
 unfold BS.Jk BS.JT;simp only
 split
 .split
  .split;.unfold Ar.N6;exact xS ok hx rfl rfl rfl rfl
   .exact Nf _
  .exact Nf _
 .rfl
def xT(o:EC b)(hx:b.a.has x){s:Ah}{h:Int}:(b.DD s h).a.el x=b.a.el x:=by
 have ok:=o.ok;have key:∀p bf,(BS.H5 b.a s p bf).el x=b.a.el x:=λp bf=>by
  unfold BS.H5;split
  .rename_i hk;have hp:b.a.has p:=by refine RZ λh=>?_;rw[OV h] at hk;unfold MO at hk;simp at hk
   have RO:=TY (kd:=6) (s:=s) ok (show(0:Int)≠b.a.len+1 by unfold Ar.len;omega) (ok.BM _ hp) (.inr rfl);rw[ZT RO (DO.2 (.inl hx)) (by rw[Jj,Ae rfl];show(6:Int)≠4;decide),xR ok hx]
  .rfl
 unfold BS.DD;simp only
 split;.exact key _ _
 .exact key _ _
def ZU(o:EC b)(hx:b.a.has x){h:Int}:(b.FJ l h).a.el x=b.a.el x:=by
 unfold BS.FJ;split;.exact xS o.ok hx rfl rfl rfl rfl
 .rfl
def ny(o:EC b)(hx:b.a.has x):b.NP.a.el x=b.a.el x:=by unfold BS.NP;exact xS o.ok hx rfl rfl rfl rfl
def Ş(o:EC b)(hx:b.a.has x){t:Dr}:(b.Nw t).a.el x=b.a.el x:=by
 have hd:=o.BM;have c:sJ {kind:=3,BM:=b.BM,name:=t.name,Lg:=t.Lg,sys:=t.sys}:=by constructor<;>simp[Dx,GP,dQ]
 have RO:=PI o.ok c (.inr ⟨AB,hd⟩) rfl rfl rfl rfl (λh=>absurd h.1 (Az:¬(3:Int)=4));unfold BS.Nw;simp only
 rw[ZS RO (DO.2 (.inl hx)) (by rw[Jj,Ae rfl];show(3:Int)≠4;decide),xR o.ok hx]
def Vq(o:EC b)(hx:b.a.has x)(hp:(b.place 0).1≠x):(b.Co nm l sp).a.el x=b.a.el x:=by
 unfold BS.Co;split
 .rename_i hs;simp only
  obtain⟨f,fr,l1⟩:=Qf (nm:=nm) (at_:=l) (p:=(b.place 0).1) o hs;have c:(b.Gf nm l sp (b.place 0).1).a.el x=b.a.el x:=by unfold BS.Gf;rw[Ae hs];exact l8 o.ok hx
  rw[lZ f.ok (l1.has _ hx) hp,c];rw[c];intro h;exact Om (A:=b.a) ((o.ok.Ok x hx _ (lX h).1).1)
 .rfl
def Vr(o:EC b)(hp:b.place 0=(x,0))(hx:b.a.has x)(hk:(b.a.nd x).kind=4\/((b.a.nd x).kind=1/\b.a.el x=[])):(b.Co nm l 1).a.el x=b.a.el x++[b.a.len+1]/\(b.Co nm l 1).a.el (b.a.len+1)=[]:=by
 obtain⟨r,fr,l1⟩:=Qf (nm:=nm) (at_:=l) (p:=x) o KG;have ea:(b.Gf nm l 1 x).a=b.a.elem (b.Ko x) 1 (BS.Mf 1 nm) (l.map (DR 1)):=by unfold BS.Gf;rw[Ae KG]
 have hn:=OY (A:=b.a) (d:=b.Ko x) (sp:=1) (nm:=BS.Mf 1 nm) (l:=l.map (DR 1));have hold:∀{k},b.a.has k->((b.Gf nm l 1 x).a).has k/\((b.Gf nm l 1 x).a).nd k=b.a.nd k:=λhk=>by rw[ea];exact TX hk
 have D:(b.Gf nm l 1 x).a.el x=b.a.el x:=by rw[ea];exact l8 o.ok hx
 have w:(b.Co nm l 1).a=(b.Gf nm l 1 x).a.Et (b.a.len+1) x 0:=by unfold BS.Co;rw[Ae KG,hp]
 rw[<-ea] at hn;have RO:=r.ok;generalize(b.Gf nm l 1 x).a=B at*;obtain⟨g,c,F,E,t,s,_⟩:=hn;have hne:x≠b.a.len+1:=Oo hx;have reach:∀{m},Reach B (b.a.len+1) m->¬b.a.has m:=by
  intro m hm;induction hm with
  |refl=>exact Om
  |@step q h1 _ ih=>
   intro hq;have e:B.up q=b.a.up q:=by unfold Ar.up;rw[(hold hq).2]
   rw[e] at h1 ih;exact ih (YV o.ok hq h1)
 have f:sy B x (b.a.len+1) 0:=⟨(hold hx).1,g,λh=>absurd rfl h,by rw[(hold hx).2];unfold MO;omega,by rw[c];decide,λh=>reach h hx⟩;have v:B.cut (b.a.len+1)=B:=by unfold Ar.cut;simp only;rw[Ae s]
 have hb:B.Et (b.a.len+1) x 0=B.Mw x (b.a.len+1) 0:=by
  unfold Ar.Et;rw[Aa];.unfold Ar.F9;rw[Ae f,v]
  .rintro⟨h1,h2,k,h3,j⟩;rw[(hold hx).2] at h1 h3;rcases hk with hk|⟨_,hk⟩
   .omega
   .have u:=o.ok.Ok x hx k h3;rw[(hold u.1).2] at j;have:k∈b.a.el x:=BE.2 ⟨h3,Ak j⟩;rw[hk] at this;cases this
 rw[w,hb];have i:∀k,(B.Mw x (b.a.len+1) 0).nd k=if k=b.a.len+1 then{B.nd (b.a.len+1) with GO:=x} else if k=x then{B.nd x with Bi:=I1 (B.nd x).Bi 0 (b.a.len+1)} else B.nd k:=λk=>SN f.hp f.hn (C3 hne)
 have hl:Le B (B.Mw x (b.a.len+1) 0):=Ù;constructor
 .rw[<-D];unfold Ar.el;rw[i x,Aa hne,Ae rfl];simp only
  have C:I1 (B.nd x).Bi 0 (b.a.len+1)=(B.nd x).Bi++[b.a.len+1]:=by unfold I1;rw[Ae rfl]
  rw[C,Be];have z:[b.a.len+1].filter (λk=>decide (((B.Mw x (b.a.len+1) 0).nd k).kind=4))=[b.a.len+1]:=by rw[CW (by rw[hl.kind _ g,c];rfl)];rfl
  rw[z];congr 1
  refine NG λk h=>?_;rw[hl.kind _ (RO.Ok x (hold hx).1 k h).1]
 .unfold Ar.el;rw[i,Ae rfl];simp only
  rw[t];rfl
end
def Eh(H:Int)(b c:BS):Prop:=c.BM=b.BM/\c.a.el b.BM=b.a.el b.BM/\c.a.el H=b.a.el H
structure Dk(H:Int)(L:List Int)(b:BS):Prop where
 d:b.a.el b.BM=[H]
 h:b.a.el H=L
 has:b.a.has H
 kind:(b.a.nd H).kind=4
def Kh(H:Int)(L:List Int)(y:Int):Prop:=y≠H/\y∉L
section
variable{P l:List Item}{q H y:Int}{L:List Int}{T:List Int}{m k j n:Nat}{b c d:BS}{nm x:Ah}{at_:List Bj}{t:Dr}{sp h:Int}{i:Item}
def Dk.go(o:Dk H L b)(h:Eh H b c)(hl:Le b.a c.a):Dk H L c:=⟨by rw[h.1,h.2.1];exact o.d,h.2.2.trans o.h,hl.has _ o.has,by rw[hl.kind _ o.has];exact o.kind⟩
def Dk.aRt(o:Dk H L b)(ok:EC b):∀y∈L,b.a.has y:=λy hy=>by rw[<-o.h] at hy;exact(ok.ok.Ok H o.has y (lX hy).1).1
def Dk.new(o:Dk H L b)(ok:EC b)(hy:¬b.a.has y):Kh H L y:=⟨λe=>hy (e▸o.has),λh=>hy (o.aRt ok y h)⟩
def mB(o:Dk H L b)(ok:EC b){A:Ar}(e:Eo A 0)(g:Le b.a A)(hd:A.el b.BM=[H])(f:A.el H=L){p n bf:Int}(hp:p≠b.BM/\p≠H)(hn:Kh H L n):(A.F9 p n bf).el b.BM=[H]/\(A.F9 p n bf).el H=L:=
 ⟨by rw[Xu e (g.has _ ok.BM.1) hp.1 (by rw[hd];simpa using hn.1)];exact hd,by rw[Xu e (g.has _ o.has) hp.2 (by rw[f];exact hn.2)];exact f⟩
def ZV(ok:EC b)(hf:b.D4=false)(hn:b.Au≠[]){t v:Int}(hv:b.a.has v/\(b.a.nd v).kind=4)(f:v≠H)(g:(b.a.nd H).kind=4)(e:(t=0/\v=(DP b.Au).node)\/(t≠0/\t=v)):(b.place t).1≠b.BM/\(b.place t).1≠H:=by
 have hd:=ok.BM;have key:(if t=0 then(DP b.Au).node else t)=v:=by
  rcases e with⟨h1,h2⟩|⟨h1,h2⟩
  .rw[Ae h1,h2]
  .rw[Aa h1,h2]
 unfold BS.place;simp only
 rw[Aa (λh=>hn h.2),key,hf];simp only[B5,aD,DK];split
 .rename_i hc;have h1:=ok.ok.cont v hv.1 hc;refine⟨λe=>?_,λe=>?_⟩;.simp only at e;rw[e,hd.2] at h1;exact absurd h1.2.1 Az
  .simp only at e;rw[e,g] at h1;exact absurd h1.2.1 Az
 .refine⟨λe=>?_,λe=>f e⟩;simp only at e;rw[e,hd.2] at hv;exact absurd hv.2 Az
def nz{p:Int}(ok:EC b){z:Int}(hz:b.a.has z):(b.Gf nm at_ 1 p).a.el z=b.a.el z:=by unfold BS.Gf;rw[Ae KG];exact l8 ok.ok hz
def ş(o:Dk H L b)(ok:EC b){blk anc:Int}{far i:Nat}{l:Int}{mm:Nat}(hl:b.a.has l)(hf:Kh H L l):Dk H L (BS.Gu blk anc far i b l mm).1/\Kh H L (BS.Gu blk anc far i b l mm).2.1/\(BS.Gu blk anc far i b l mm).1.BM=b.BM:=by
 obtain⟨_,_,le⟩:=OZ (blk:=blk) (anc:=anc) (far:=far) (i:=i) (l:=l) (m:=mm) ok hl;unfold BS.Gu at le⊢;simp only at le⊢;split;.exact⟨⟨o.d,o.h,o.has,o.kind⟩,hf,rfl⟩
 .split;.exact⟨⟨o.d,o.h,o.has,o.kind⟩,hf,rfl⟩
  .rename_i h1 h2;rw[Aa h1,Aa h2] at le;generalize b.A3.getD (FU (b.Au.getD i Item.zero).node b.A3).toNat Cn.zero=en at*;obtain⟨s,fr,l1⟩:=Qf (nm:=en.name) (at_:=en.As) (p:=anc) ok KG;have g:=nz (nm:=en.name) (at_:=en.As) (p:=anc) ok ok.BM.1;have f:=nz (nm:=en.name) (at_:=en.As) (p:=anc) ok o.has;rw[o.d] at g;rw[o.h] at f;have qI:(b.Gf en.name en.As 1 anc).BM=b.BM:=by have:=Xp (b:=b) (nm:=en.name) (at_:=en.As) (p:=anc);exact(DQ.1 this).2.2.2.2.2.2.2
   have hn:Kh H L (b.HA en.name en.As 1).node:=o.new ok fr.new;have r:=mB o ok s.ok l1 g f (p:=(b.HA en.name en.As 1).node) (n:=l) (bf:=0) ⟨λe=>fr.new (e▸ok.BM.1),hn.1⟩ hf;refine⟨⟨?_,r.2,le.has _ o.has,?_⟩,hn,qI⟩;.simp only;rw[qI];exact r.1
   .simp only
    rw[Hs.kind _ (l1.has _ o.has),l1.kind _ o.has];exact o.kind
def n_{blk anc:Int}{far k:Nat}:∀{c:Nat} {s:BS×Int×Nat},Dk H L s.1->EC s.1->s.1.a.has s.2.1->Kh H L s.2.1->Dk H L (BS.Np blk anc far k c s).1/\Kh H L (BS.Np blk anc far k c s).2.1/\(BS.Np blk anc far k c s).1.BM=s.1.BM
 |0,s,o,_,_,hf=>⟨o,hf,rfl⟩
 |c+1,s,o,ok,hl,hf=>by obtain⟨f,f1,p⟩:=ş o ok (blk:=blk) (anc:=anc) (far:=far) (i:=k+(c+1)) (mm:=s.2.2) hl hf;obtain⟨RO,h1,_⟩:=OZ (blk:=blk) (anc:=anc) (far:=far) (i:=k+(c+1)) (l:=s.2.1) (m:=s.2.2) ok hl;obtain⟨e,f2,g⟩:=n_ (blk:=blk) (anc:=anc) (far:=far) (k:=k) (c:=c) (s:=BS.Gu blk anc far (k+(c+1)) s.1 s.2.1 s.2.2) f RO h1 f1;exact⟨e,f2,g.trans p⟩
def oa(o:Dk H L b)(ok:EC b){n:Int}(hp:n≠b.BM/\n≠H):∀{ks:List Int} {A:Ar},Eo A 0->Le b.a A->A.el b.BM=[H]->A.el H=L->(∀y∈ks,Kh H L y)->(BS.DA A n ks).el b.BM=[H]/\(BS.DA A n ks).el H=L
 |[],A,_,_,hd,g,_=>⟨hd,g⟩
 |y::ks,A,f,r,hd,g,hf=>by have e:=mB o ok f r hd g (p:=n) (n:=y) (bf:=0) hp (hf y AB);exact oa o ok hp (A:=A.F9 n y 0) (N5 f) (r.trans Hs) e.1 e.2 λz hz=>hf z (by simp[hz])
def wc{fe:Cn}{blk anc:Int}{s:BS×Int×Nat}(o:Dk H L s.1)(ok:EC s.1)(G:s.1.D4=false)(hn:s.1.Au≠[])(hl:Kh H L s.2.1)(hb:s.1.a.has blk/\(s.1.a.nd blk).kind=4)(B:blk≠H)(ha:s.1.a.has anc/\(s.1.a.nd anc).kind=4)(I:anc≠H):Dk H L (BS.IX fe blk anc s)/\(BS.IX fe blk anc s).BM=s.1.BM:=by
 obtain⟨_,le⟩:=Va (fe:=fe) (blk:=blk) (anc:=anc) (s:=s) ok;have sE:=ZV (H:=H) (t:=anc) (v:=anc) ok G hn ha I o.kind (.inr ⟨λe=>by have:=ha.1.1;omega,rfl⟩);unfold BS.IX at le⊢;simp only at le⊢;generalize s.1.place anc=pb at*;have l1:Le s.1.a (s.1.a.Et s.2.1 pb.1 pb.2):=JK;have RO:=PM (n:=s.2.1) (p:=pb.1) (b:=pb.2) ok.ok;have ŵ:(s.1.a.Et s.2.1 pb.1 pb.2).el s.1.BM=[H]:=by rw[lZ ok.ok ok.BM.1 sE.1 (by rw[o.d];simpa using hl.1)];exact o.d
 have Ű:(s.1.a.Et s.2.1 pb.1 pb.2).el H=L:=by rw[lZ ok.ok o.has sE.2 (by rw[o.h];exact hl.2)];exact o.h
 have D:=ok.I5 RO l1;obtain⟨b2,Qq⟩:∃b2:BS,b2={s.1 with a:=s.1.a.Et s.2.1 pb.1 pb.2}:=⟨_,rfl⟩;rw[<-Qq] at D le⊢;have a2:b2.a=s.1.a.Et s.2.1 pb.1 pb.2:=by rw[Qq]
 have O:b2.BM=s.1.BM:=by rw[Qq]
 rw[<-a2] at ŵ Ű l1;clear Qq a2;obtain⟨J,fr,l3⟩:=Qf (nm:=fe.name) (at_:=fe.As) (p:=blk) D KG;have w:=nz (nm:=fe.name) (at_:=fe.As) (p:=blk) D (l1.has _ ok.BM.1);have u:=nz (nm:=fe.name) (at_:=fe.As) (p:=blk) D (l1.has _ o.has);rw[ŵ] at w;rw[Ű] at u;have N:(b2.Gf fe.name fe.As 1 blk).BM=b2.BM:=(DQ.1 (Xp (b:=b2) (nm:=fe.name) (at_:=fe.As) (p:=blk))).2.2.2.2.2.2.2;have r:=J.ok;have aS3:=J.BM;generalize b2.HA fe.name fe.As 1=n at*;generalize b2.Gf fe.name fe.As 1 blk=b3 at*;have g:=l1.trans l3;have yW:¬s.1.a.has n.node:=λh=>fr.new (l1.has _ h);have A:Kh H L n.node:=o.new ok yW;have tH:n.node≠s.1.BM:=λe=>yW (e▸ok.BM.1);have C:blk≠s.1.BM:=λe=>by have:=ok.BM.2;rw[<-e,hb.2] at this;exact absurd this Az
 have zu:∀y∈(b3.a.nd blk).Bi,Kh H L y:=λy hy=>by
  have h1:=r.Ok blk (g.has _ hb.1) y hy;have f:∀z,b3.a.has z->y∈b3.a.el z->z=blk:=λz hz F=>(r.Ok z hz y (lX F).1).2.symm.trans h1.2;refine⟨λe=>?_,λM=>?_⟩
  .have:y∈b3.a.el s.1.BM:=by rw[w,e];simp
   exact C (f _ (g.has _ ok.BM.1) this).symm
  .have:y∈b3.a.el H:=by rw[u];exact M
   exact B (f _ (g.has _ o.has) this).symm
 have K:=oa o ok (n:=n.node) ⟨tH,A.1⟩ (ks:=(b3.a.nd blk).Bi) r g w u zu;obtain⟨E,l4⟩:=KB (n:=n.node) (l:=(b3.a.nd blk).Bi) r;have If:=mB o ok E (g.trans l4) K.1 K.2 (p:=blk) (n:=n.node) (bf:=0) ⟨C,B⟩ A;have Wv:b3.BM=s.1.BM:=N.trans O;refine⟨⟨?_,If.2,le.has _ o.has,?_⟩,Wv⟩;.simp only;rw[Wv];exact If.1
 .rw[le.kind _ o.has];exact o.kind
def ZW:(b.C1 nm).a=b.a/\(b.C1 nm).BM=b.BM:=by
 unfold BS.C1;split;.split<;>exact⟨rfl,rfl⟩
 .exact⟨rfl,rfl⟩
def Dk.mY(o:Dk H L b)(h1:c.a=b.a)(h2:c.BM=b.BM):Dk H L c:=⟨by rw[h1,h2];exact o.d,by rw[h1];exact o.h,by rw[h1];exact o.has,by rw[h1];exact o.kind⟩
def Š(o:Dk H L b)(ok:EC b)(f:Vm b.a b.A3)(z:b.D4=false)(hnm:nm∈B2)(hl:m<=b.Au.length)(hm:2<=m)(hp:∀i∈b.Au.take m,AS i=true)(N:∃h r,b.Au=h::r/\h.node=H)(XU:∀i∈b.Au.drop m,AS i=true->Kh H L i.node):Dk H L (b.round nm).2/\(b.round nm).2.BM=b.BM:=by
 obtain⟨M,hr,R,S⟩:=N;unfold BS.round;simp only
 split;.exact⟨o.mY ZW.1 ZW.2,ZW.2⟩
 .rename_i h1;obtain⟨J,I,hname⟩:=S0 h1;generalize b.A3.getD (DT nm b.A3).toNat Cn.zero=fe at*;split;.exact⟨⟨o.d,o.h,o.has,o.kind⟩,rfl⟩
  .split;.exact⟨o,rfl⟩
   .rename_i h2 h3;split;.exact⟨⟨o.d,o.h,o.has,o.kind⟩,rfl⟩
    .rename_i D;have E:=f fe J;have y9:∀i∈b.Au,i.node=fe.node->AS i=false:=λi hi e=>by
      have v:=ok.op i hi;rcases E with u|u
      .exact absurd u I
      .rw[e] at v;exact Ht (by rw[<-v.2.2.1,u.2.2]) (by rw[<-v.2.2.2,u.2.1];exact u.1)
     rcases BZ (q:=Bt fe.node) (l:=b.Au) with⟨v,_⟩|⟨k,hk,v,u,_⟩
     .omega
     have Y_:(AD (Bt fe.node) b.Au).toNat=k:=by rw[v];omega
     have K:m<=k:=by
      rcases Bm k m with h|h
      .have D:=hp b.Au[k] (CZ.2 ⟨k,Ac,rfl⟩);rw[y9 _ (AG hk) (CC u)] at D;cases D
      .exact h
     have vi:=Sn (x:=fe.node) (l:=b.Au) Ac;rw[Y_] at vi;rcases vi with⟨F,_⟩|⟨j,hj,F,W,O,eA⟩
     .omega
     have A:(Ec fe.node b.Au).toNat=j:=by rw[F];omega
     rw[Y_,A];have C:b.Au.getD j Item.zero=b.Au[j]:=by rw[AL,Av hj];rfl
     have sX:k-1<b.Au.length:=Ac;have B:b.Au.getD (k-1) Item.zero=b.Au[k-1]:=by rw[AL,Av sX];rfl
     rw[C,B];have aDM:Kh H L b.Au[j].node:=XU b.Au[j] (by
      have e:b.Au[j]=(b.Au.drop m)[j-m]'(by rw[A4];omega):=by rw[Hb];congr 1;omega
      rw[e];exact AG _) O
     have g:=ok.op _ (AG hj);have EV:=ok.op _ (AG sX);have h0:b.Au[0]'(by omega)=M:=by simp[R]
     have p:b.Au[k-1].node≠H:=λe=>by
      have Te:(b.Au.map Item.node)[k-1]'(by rw[Aw];omega)=(b.Au.map Item.node)[0]'(by rw[Aw];omega):=by simp only[Ei];rw[e,h0,S]
      have:=(Ow ok.mU).1 Te;omega
     have a1:=lC (blk:=b.Au[j].node) (anc:=b.Au[k-1].node) (far:=j) (k:=k) (c:=j-1 -k) (s:=(b,b.Au[j].node,(DT nm b.A3).toNat)) ok f g.1 (λq hq Te Q=>eA q hq Te Ac);obtain⟨V,U,G⟩:=n_ (blk:=b.Au[j].node) (anc:=b.Au[k-1].node) (far:=j) (k:=k) (c:=j-1 -k) (s:=(b,b.Au[j].node,(DT nm b.A3).toNat)) o ok g.1 aDM;generalize Tz:b.Au[j].node=blk at*;generalize b.Au[k-1].node=anc at*;generalize BS.Np blk anc j k (j-1 -k) (b,blk,(DT nm b.A3).toNat)=s at*;simp only at a1 G;have w:s.1.Au≠[]:=λe=>by have:=a1.fm.len Ac;rw[e,AZ] at this;omega
     have r:=wc (fe:=fe) (blk:=blk) (anc:=anc) (s:=s) V a1.ok (by rw[(DQ.1 a1.rest).2.2.2.2.2.1];exact z) w U ⟨a1.le.has _ g.1,by rw[a1.le.kind _ g.1];exact g.2.1⟩ aDM.1 ⟨a1.le.has _ EV.1,by rw[a1.le.kind _ EV.1];exact EV.2.1⟩ p;exact⟨r.1,r.2.trans G⟩
def fG(hnm:nm∈B2)(hm:2<=m):∀{n:Nat} {b:BS},Dk H L b->EC b->Vm b.a b.A3->b.D4=false->m<=b.Au.length->(∀i∈b.Au.take m,AS i=true)->(∃h r,b.Au=h::r/\h.node=H)->(∀i∈b.Au.filter AS,i∈b.Au.take m\/Kh H L i.node)->((b.Au.filter AS).map Item.node).Nodup->Dk H L (BS.Gp n b nm)/\(BS.Gp n b nm).BM=b.BM
 |0,b,o,_,_,_,_,_,_,_,_=>⟨o,rfl⟩
 |n+1,b,o,ok,f,g,hl,hp,u,XU,tH=>by
  have p:∀i∈b.Au.drop m,AS i=true->Kh H L i.node:=λi hi hs=>by
   rcases XU i (BE.2 ⟨A6 hi,hs⟩) with h|h
   .exfalso;have e:=ok.mU;rw[<-Br m b.Au,B3,BY] at e;exact e.2.2 _ (A5.2 ⟨i,h,rfl⟩) _ (A5.2 ⟨i,hi,rfl⟩) rfl
   .exact h
  have a1:=qU ok f hnm hl hp;obtain⟨s,v⟩:=Š o ok f g hnm hl hm hp u p;unfold BS.Gp;simp only
  split
  .have r:=fG hnm hm (n:=n) s a1.ok a1.ac (by rw[(DQ.1 a1.rest).2.2.2.2.2.1];exact g) (a1.fm.len hl) (by rw[a1.fm.J4];exact hp) (by
    obtain⟨h,rr,z,w⟩:=u;have h3:=a1.fm.J4;rw[z] at h3;cases ho:(b.round nm).2.Au with
    |nil=>rw[ho] at h3;cases m with
     |zero=>omega
     |succ m=>simp at h3
    |cons x xs=>
     rw[ho] at h3;cases m with
     |zero=>omega
     |succ m=>simp only[LN,Cu] at h3;exact⟨x,xs,rfl,by rw[h3.1];exact w⟩) (by rw[a1.fm.sp,a1.fm.J4];exact XU) (by rw[a1.fm.sp];exact tH)
   exact⟨r.1,r.2.trans v⟩
  .exact⟨s,v⟩
def we(o:Dk H L b)(ok:EC b)(f:Vm b.a b.A3)(e:b.D4=false)(hnm:nm∈B2)(hl:m<=b.Au.length)(hm:2<=m)(hp:∀i∈b.Au.take m,AS i=true)(g:∃h r,b.Au=h::r/\h.node=H)(XU:∀i∈b.Au.filter AS,i∈b.Au.take m\/Kh H L i.node):Dk H L (b.C7 nm)/\(b.C7 nm).BM=b.BM:=by
 unfold BS.C7;split
 .have h1:b.FB.a=b.a/\b.FB.BM=b.BM:=by unfold BS.FB;split<;>exact⟨rfl,rfl⟩
  exact⟨o.mY h1.1 h1.2,h1.2⟩
 .exact fG hnm hm o ok f e hl hp g XU (ok.mU.sublist (List.filter_sublist.map _))
end
def bQ(P:List Item):Int:=(P.headD Item.zero).node
def FI:List Item->List Int
 |o::_=>if AH [Ii] o=true then[o.node] else[]
 |[]=>[]
structure Dq(P:List Item)(q:Int)(T:List Int)(b:BS):Prop where
 d:Dp P q T b
 k:Dk (bQ P) (b.head::FI P.tail) b
section
variable{P l:List Item}{q H y:Int}{L:List Int}{T:List Int}{m k j n:Nat}{b c d:BS}{nm x:Ah}{at_:List Bj}{t:Dr}{sp h:Int}{i:Item}
def Pf.fst(p:Pf P):∃h o r,P=h::o::r/\bQ P=h.node/\FI P.tail=if AH [Ii] o=true then[o.node] else[]:=by
 cases p with
 |body h o a b=>exact⟨h,o,[],rfl,rfl,rfl⟩
 |Ox h o a b=>exact⟨h,o,[],rfl,rfl,rfl⟩
 |head h d t a b c=>exact⟨h,d,[t],rfl,rfl,rfl⟩
def Dp.rO(o:Dp P q T b):∃h x r u,P=h::x::r/\b.Au=h::x::(r++u)/\bQ P=h.node/\FI P.tail=if AH [Ii] x=true then[x.node] else[]:=by obtain⟨h,x,r,a,f,e⟩:=o.d.pf.fst;refine⟨h,x,r,b.Au.drop P.length,a,?_,f,e⟩;have:=o.d.split;rw[a] at this⊢;exact this
def Dp.aL7(o:Dp P q T b):∀i∈b.Au.filter AS,i∈b.Au.take P.length\/Kh (bQ P) (b.head::FI P.tail) i.node:=by
 obtain⟨h,x,r,u,g,v,s,p⟩:=o.rO;intro i hi;obtain⟨uC,cQ⟩:=BE.1 hi;rw[o.d.J4];have hsp:=o.d.split;rw[hsp] at uC;rcases Ao.1 uC with h1|h1
 .exact .inl h1
 .right;have EV:=o.d.v' i h1 cQ;have NV:=o.cm.ok.op i (by rw[hsp];exact BJ _ h1);have tH:=o.cm.ok.mU;rw[hsp,B3,BY] at tH;have a:∀z∈P,i.node≠z.node:=λz hz e=>tH.2.2 _ (A5.2 ⟨z,hz,rfl⟩) _ (A5.2 ⟨i,h1,rfl⟩) e.symm;refine⟨by rw[s];exact a h (by rw[g];simp),λhm=>?_⟩;rcases AF.1 hm with h2|h2
  .have h3:=o.hd.name;rw[<-h2,NV.2.2.2] at h3;have f:=o.hd.Bd;rw[<-h2,NV.2.2.1] at f;exact EV f (by rw[h3];decide)
  .rw[p] at h2;split at h2;.simp at h2;exact a x (by rw[g];simp) h2
   .cases h2
def Dq.Qh(o:Dq P q T b)(d:Dp P q T c)(ha:c.a=b.a)(hd:c.BM=b.BM)(e:c.head=b.head):Dq P q T c:=⟨d,by rw[e];exact o.k.mY ha hd⟩
def Dq.any(o:Dq P q T b)(d:Dp P q T c)(e:Eh (bQ P) b c)(hl:Le b.a c.a)(f:c.head=b.head):Dq P q T c:=⟨d,by rw[f];exact o.k.go e hl⟩
def Dq.kp(o:Dq P q T b)(d:Dp P q T c)(kk:Kp b c)(h1:c.a.el b.BM=b.a.el b.BM)(h2:c.a.el (bQ P)=b.a.el (bQ P)):Dq P q T c:=by have r:=DQ.1 kk.rest;exact o.any d ⟨r.2.2.2.2.2.2.2,h1,h2⟩ kk.le r.2.2.1
def Dq.place(o:Dq P q T b):(b.place 0).1≠b.BM/\(b.place 0).1≠bQ P:=by
 obtain⟨h,x,r,u,p,a,f,g⟩:=o.d.rO;have hne:b.Au≠[]:=by rw[a];simp
 have NV:=o.d.cm.ok.op _ (U8 hne);refine ZV o.d.cm.ok o.d.cm.fo hne (v:=(DP b.Au).node) ⟨NV.1,NV.2.1⟩ ?_ o.k.kind (.inl ⟨rfl,rfl⟩);intro e;have hlen:2<=b.Au.length:=by rw[a];simp
 have ht:DP b.Au=b.Au[b.Au.length-1]'(by omega):=by have:=Km (l:=b.Au) (n:=b.Au.length-1) Ac;rwa [(Ac:b.Au.length-1+1=b.Au.length),Bl] at this
 have h0:b.Au[0]'(by omega)=h:=by simp[a]
 have Te:(b.Au.map Item.node)[b.Au.length-1]'(by rw[Aw];omega)=(b.Au.map Item.node)[0]'(by rw[Aw];omega):=by simp only[Ei];rw[<-ht,h0,e,f]
 have:=(Ow o.d.cm.ok.mU).1 Te;omega
def Dq.wg(o:Dq P q T b):Dk (bQ P) (b.head::FI P.tail) (b.Co nm at_ sp):=by have kk:=GS (nm:=nm) (l:=at_) (sp:=sp) o.d.cm;have r:=DQ.1 kk.rest;exact o.k.go ⟨r.2.2.2.2.2.2.2,Vq o.d.cm.ok o.d.cm.ok.BM.1 o.place.1,Vq o.d.cm.ok o.k.has o.place.2⟩ kk.le
def Dq.aCn(o:Dq P q T b)(d:Dp P q T (b.Co nm at_ sp)):Dq P q T (b.Co nm at_ sp):=by have r:=DQ.1 (GS (nm:=nm) (l:=at_) (sp:=sp) o.d.cm).rest;exact⟨d,by rw[r.2.2.1];exact o.wg⟩
def Dq.Cr(o:Dq P q T b)(h:Rh t.name)(hp:t.name≠wP):Dq P q T (b.Cr t):=o.aCn (o.d.Cr h hp)
def ZX:b.B7.a=b.a/\b.B7.BM=b.BM/\b.B7.head=b.head:=by unfold BS.B7;split<;>exact⟨rfl,rfl,rfl⟩
def Oa:b.FB.a=b.a/\b.FB.BM=b.BM/\b.FB.head=b.head:=by unfold BS.FB;split<;>exact⟨rfl,rfl,rfl⟩
def Dq.B7(o:Dq P q T b):Dq P q T b.B7:=o.Qh o.d.B7.1 ZX.1 ZX.2.1 ZX.2.2
def Dq.LM(o:Dq P q T b)(h:Rh t.name):Dq P q T (b.block t):=Dq.aCn (nm:=t.name) (at_:=t.As) (sp:=1) o.B7 (o.d.LM h)
def Dq.eU(o:Dq P q T b){ws:List Ah}(hw:∀w∈ws,w∉H8)(h:AH ws (DP b.Au)=true):Dq P q T b.FB:=o.Qh (o.d.eU hw h) Oa.1 Oa.2.1 Oa.2.2
def Dq.Jk(o:Dq P q T b){r:Int}:Dq P q T (b.Jk r):=o.kp o.d.Jk (P1 o.d.cm) (mA o.d.cm.ok o.d.cm.ok.BM.1) (mA o.d.cm.ok o.k.has)
def Dq.FJ(o:Dq P q T b):Dq P q T (b.FJ at_ h):=o.kp o.d.FJ (Zz o.d.cm) (ZU o.d.cm.ok o.d.cm.ok.BM.1) (ZU o.d.cm.ok o.k.has)
def Dq.set(o:Dq P q T b)(c:BS)(h1:c.a=b.a:=by rfl)(h3:c.Au=b.Au:=by rfl)(e:c.A3=b.A3:=by rfl)(h2:c.rs=b.rs:=by rfl):Dq P q T c:=by have r:=DQ.1 h2;exact o.Qh (o.d.eq h1 h3 e h2) h1 r.2.2.2.2.2.2.2 r.2.2.1
def Dq.fO(o:Dq P q T b):Dq P q T (b.Co nm at_ 1).FB:=by have r:=DQ.1 (GS (nm:=nm) (l:=at_) (sp:=1) o.d.cm).rest;refine⟨o.d.fO,?_⟩;rw[Oa.2.2,r.2.2.1];exact(o.wg (nm:=nm) (at_:=at_) (sp:=1)).mY Oa.1 Oa.2.1
def Dq.GR(o:Dq P q T b):Dq P q T (b.GR t):=o.fO
def Dq.Eu(o:Dq P q T b)(hn:nm∈B2):Dq P q T (b.Eu nm at_):=by have r:=DQ.1 (GS (nm:=nm) (l:=at_) (sp:=1) o.d.cm).rest;refine⟨o.d.Eu hn,?_⟩;have:(b.Eu nm at_).head=b.head:=r.2.2.1;rw[this];exact(o.wg (nm:=nm) (at_:=at_) (sp:=1)).mY (c:=b.Eu nm at_) rfl rfl
def oc:∀{es:List Cn} {b:BS},Dq P q T b->(∀e∈es,e.name∈B2)->Dk (bQ P) (b.head::FI P.tail) (BS.JJ es b).2
 |[],b,o,_=>o.k
 |e::es,b,o,hf=>by have f:Dp P q T (b.Co e.name e.As 1):=o.d.go (GS o.d.cm) (o.d.d.fm (lE (hf e AB) o.d.d.len));have a:=o.aCn f;have r:=DQ.1 (GS (nm:=e.name) (l:=e.As) (sp:=1) o.d.cm).rest;have:=oc (es:=es) a λx hx=>hf x (by simp[hx]);rw[r.2.2.1] at this;rw[BS.JJ];exact this
def bR(o:Cm b):∀e∈b.A3.drop b.NM,e.name∈B2:=by
 intro e he;obtain⟨k,hk,a⟩:=LU he;rw[Hb] at a;rw[A4] at hk;have h1:b.settled e=false:=by
  rcases BZ (q:=b.settled) (l:=b.A3) with⟨h2,h3⟩|⟨n,hn,h2,_,f⟩
  .exact h3 e (A6 he)
  .rw[<-a];refine f _ Ac ?_;unfold BS.NM;rw[h2];omega
 have h2:e.node≠0:=λh3=>by have:=V5 (b:=b) (e:=e);rw[h1] at this;simp[h3] at this
 rcases o.ac e (A6 he) with h3|h3
 .exact absurd h3 h2
 .exact h3.1
def Dq.AM(o:Dq P q T b):Dq P q T b.AM:=by have r:=DQ.1 (ZA o.d.cm o.d.d.len).rest;refine⟨o.d.AM,?_⟩;rw[r.2.2.1];exact(oc o (bR o.d.cm)).mY (c:=b.AM) rfl rfl
def Dq.C7(o:Dq P q T b)(hn:nm∈B2):Dq P q T (b.C7 nm):=by have a:=Vn (m:=P.length) (nm:=nm) o.d.cm.ok o.d.cm.ac hn o.d.d.len o.d.d.ĺ;have r:=DQ.1 a.rest;obtain⟨h,x,rr,u,p,f,e,g⟩:=o.d.rO;refine⟨o.d.C7 hn,?_⟩;rw[r.2.2.1];exact(we o.k o.d.cm.ok o.d.cm.ac o.d.cm.fo hn o.d.d.len o.d.d.pf.len o.d.d.ĺ ⟨h,_,f,e.symm⟩ o.d.aL7).1
def Dq.HL(o:Dq P q T b):Dq P q T (b.HL t):=by
 unfold BS.HL;split;.exact o
 .simp only
  split;.exact o.AM.Jk
  .exact(o.AM.Jk).set _
def Dq.Iq(o:Dq P q T b)(h:Rh t.name)(hp:t.name≠wP):Dq P q T (b.Iq t):=by
 unfold BS.Iq;simp only
 split;.rename_i h1;exact Dq.Cr (o.B7.eU (ws:=Dg) Az h1) h hp
 .exact Dq.Cr o.B7 h hp
def Dq.MP(o:Dq P q T b)(h:t.name=aYd):Dq P q T (b.MP t):=by
 have d:=o.d.MP h;have hn:Rh t.name:=⟨by rw[h];decide,by rw[h];decide⟩;unfold BS.MP at d⊢;by_cases e:b.Ha≠0/\¬b.Ox;.rw[Ae e];exact o
 .rw[Aa e] at d⊢;simp only at d⊢;by_cases a:b.Ox;.rw[Ae a];exact o.LM hn
  .rw[Aa a] at d⊢;exact(o.LM hn).Qh d rfl rfl rfl
def mC{ws:List Ah}:(b.FW ws).a=b.a/\(b.FW ws).BM=b.BM/\(b.FW ws).head=b.head:=by
 unfold BS.FW;split;.split<;>exact⟨rfl,rfl,rfl⟩
 .exact⟨rfl,rfl,rfl⟩
def Dq.FW(o:Dq P q T b){ws:List Ah}(hw:∀w∈ws,w∉H8):Dq P q T (b.FW ws):=o.Qh (o.d.FW hw) mC.1 mC.2.1 mC.2.2
def Dq.SX(o:Dq P q T b)(h:Rh t.name):Dq P q T (b.SX t):=by
 unfold BS.SX;refine Dq.LM ?_ h;have a:Dq P q T {b with fs:=false}:=o.set _;split;.exact a.FW Az
 .exact a.FW Az
def Dq.KX(o:Dq P q T b)(h:t.name=aXQ):Dq P q T (b.KX t):=by
 unfold BS.KX;simp only
 have a:Dq P q T (if b.has [aXQ] then b.Dw aXQ [] else b):=by
  split;.rename_i h1;exact o.Qh (o.d.Dw (sc:=1) (.inl rfl) Az (.inl Az) h1) rfl rfl rfl
  .exact o
 exact(Dq.Cr a.AM ⟨by rw[h];decide,by rw[h];decide⟩ (by rw[h];decide)).set _
def Dq.wR(o:Dq P q T b)(h:t.name∈B2):Dq P q T (b.wR t):=o.AM.Eu h
def Dq.Nx(o:Dq P q T b):Dq P q T b.Nx:=by
 have d:=o.d.Nx;unfold BS.Nx at d⊢;simp only at d⊢;by_cases a:DT [97] b.A3<0;.rw[Ae a];exact o
 .rw[Aa a] at d⊢;exact(o.C7 (nm:=[97]) Az).Qh d rfl rfl rfl
def Dq.WK(o:Dq P q T b)(h:t.name∈B2):Dq P q T (b.WK t):=o.Nx.wR h
def Dq.Ui(o:Dq P q T b)(h:t.name∈B2):Dq P q T (b.Ui t):=by
 unfold BS.Ui;simp only
 split;.exact(o.AM.C7 Az).AM.Eu h
 .exact o.AM.Eu h
def Dq.BV(o:Dq P q T b)(h:Rh t.name)(hp:t.name≠wP):Dq P q T (b.BV t):=(Dq.Cr o.AM h hp).Qh (o.d.BV h hp) rfl rfl rfl
def Dq.empty(o:Dq P q T b):Dq P q T (b.empty t):=by
 unfold BS.empty;split;.exact(o.B7.GR).set _
 .split;.exact(o.GR).set _
  .split;.exact(o.AM.GR).set _
   .exact(o.AM.GR).set _
def Dq.KY(o:Dq P q T b)(h:Rh t.name)(hp:t.name≠wP):Dq P q T (b.KY t):=by
 unfold BS.KY;split;.rename_i h1;exact Dq.Cr ((o.eU (ws:=[aX0]) Az h1).AM) h hp
 .exact Dq.Cr o.AM h hp
def Dq.SZ(o:Dq P q T b)(h:Rh t.name)(hp:t.name≠wP):Dq P q T (b.SZ t):=by
 unfold BS.SZ;split;.exact Dq.Cr (o.Qh o.d.Uj rfl rfl rfl) h hp
 .exact Dq.Cr o h hp
def Dq.HR(o:Dq P q T b):Dq P q T (b.HR t):=by
 have d:=o.d.HR (t:=t);have hsp:(if t.name=aYG then(3:Int) else 2)=2\/(if t.name=aYG then(3:Int) else 2)=3:=by split<;>simp
 unfold BS.HR at d⊢;simp only at d⊢;have a:=o.AM.aCn (o.d.AM.aLA (nm:=t.name) (l:=t.As) hsp);split;.rename_i hc;rw[Ae hc] at d;exact a.Qh d Oa.1 Oa.2.1 Oa.2.2
 .exact a
def Dq.Jq(o:Dq P q T b):Dq P q T (b.Jq t):=by
 unfold BS.Jq;split;.exact o
 .split;.exact o.FJ
  .split;.exact Dq.FJ (o.set _)
   .exact o
def ZY:(b.Fa t).a=b.a/\(b.Fa t).BM=b.BM/\(b.Fa t).head=b.head:=by unfold BS.Fa;split<;>exact⟨rfl,rfl,rfl⟩
def wh:(b.JM t).a=b.a/\(b.JM t).BM=b.BM/\(b.JM t).head=b.head:=by
 unfold BS.JM;split;.exact ZY
 .split<;>exact⟨rfl,rfl,rfl⟩
def mD:b.FH.a=b.a/\b.FH.BM=b.BM/\b.FH.head=b.head:=by unfold BS.FH;split<;>exact⟨rfl,rfl,rfl⟩
def rP:(b.GA t).a=b.a/\(b.GA t).BM=b.BM/\(b.GA t).head=b.head:=by unfold BS.GA;split<;>exact⟨rfl,rfl,rfl⟩
def š:(b.C1 nm).a=b.a/\(b.C1 nm).BM=b.BM/\(b.C1 nm).head=b.head:=by
 unfold BS.C1;split;.split<;>exact⟨rfl,rfl,rfl⟩
 .exact⟨rfl,rfl,rfl⟩
def Dq.HS(o:Dq P q T b)(h1:t.name∈Zt):Dq P q T (b.HS t):=by
 have d:=o.d.HS h1;unfold BS.HS at d⊢;dsimp only at d⊢;generalize b.N7 _ _=s at d⊢;cases s with
 |true=>simp only[BN] at d⊢;exact o.Qh d rfl rfl rfl
 |false=>
  simp only[B5,DK] at d⊢;by_cases h:t.name=[112];.rw[Ae h] at d⊢;have r:=DQ.1 (GS (nm:=[112]) (l:=[]) (sp:=1) o.d.cm).rest;refine⟨d,?_⟩;have:((b.Cr (Gj [112])).Dw t.name t.name).head=b.head:=r.2.2.1;rw[this];exact(o.wg (nm:=[112]) (at_:=[]) (sp:=1)).mY (c:=(b.Cr (Gj [112])).Dw t.name t.name) rfl rfl
  .rw[Aa h];exact o
end
def L5(b:BS):Prop:=((b.mode=1\/b.mode=2)->b.a.el b.BM=[])/\(b.mode=3->∃h,b.Au=[h]/\Dk h.node [] b)/\(4<=b.mode->∃h r,b.Au=h::r/\Dk h.node (b.head::FI r) b)
def NS(r:BS×Bool):Prop:=Gv r.1.mode=false\/L5 r.1
section
variable{P l:List Item}{q H y:Int}{L:List Int}{T:List Int}{m k j n:Nat}{b c d:BS}{nm x:Ah}{at_:List Bj}{t:Dr}{sp:Int}{i h:Item}{r:List Item}
def NS.ite{p:Prop}[Decidable p]{x y:BS×Bool}(h1:p->NS x)(h2:¬p->NS y):NS (if p then x else y):=by
 split;.rename_i h;exact h1 h
 .rename_i h;exact h2 h
def NS.B0{v:Bool}(h:L5 c):NS (c,v):= .inr h
def K6(hm:4<=c.mode)(e:c.Au=h::r)(k:Dk h.node (c.head::FI r) c):L5 c:=⟨λh=>Ac,λh=>Ac,λ_=>⟨h,r,e,k⟩⟩
def fH(o:Dq P q T b)(hq:4<=q):L5 b:=by obtain⟨h,x,r,u,g,f,e,a⟩:=o.d.rO;refine K6 (by rw[o.d.md];exact hq) f ?_;have:=o.k;rw[e,a] at this;exact this
def Ţ(o:Ep b)(s:L5 b)(hm:b.mode=7\/b.mode=18):∃P,Dq P b.mode b.tm b:=by obtain⟨_,P,d⟩:=o.dp hm;obtain⟨h,x,r,u,p,g,f,e⟩:=d.rO;obtain⟨h',r',a,k⟩:=s.2.2 Ac;refine⟨P,d,?_⟩;rw[g] at a;simp only[Cu] at a;rw[f,e,a.1];rw[<-a.2] at k;exact k
def ţ(s:L5 b)(o:Cm b)(kk:Kp b c)(ho:c.Au=b.Au)(he:∀x,b.a.has x->c.a.el x=b.a.el x):L5 c:=by
 obtain⟨z,r2,p,g,w,v,u,f⟩:=DQ.1 kk.rest;refine⟨λhm=>?_,λhm=>?_,λhm=>?_⟩;.rw[f,he _ o.ok.BM.1];exact s.1 (by rw[<-g];exact hm)
 .obtain⟨h,e,k⟩:=s.2.1 (by rw[<-g];exact hm);exact⟨h,ho.trans e,k.go ⟨f,he _ o.ok.BM.1,he _ k.has⟩ kk.le⟩
 .obtain⟨h,r,e,k⟩:=s.2.2 (by rw[<-g];exact hm);exact⟨h,r,ho.trans e,by rw[p];exact k.go ⟨f,he _ o.ok.BM.1,he _ k.has⟩ kk.le⟩
def Xv(s:L5 b)(o:Cm b){v:Int}:L5 (b.Jk v):=ţ s o (P1 o) rfl λx hx=>mA o.ok hx
def Jt(s:L5 b)(o:Cm b){w:Ah}{v:Int}:L5 (b.DD w v):=ţ s o (Jr o) rfl λx hx=>xT o.ok hx
def Xw(s:L5 b)(o:Cm b):L5 (b.I3 t):=ţ s o (Rf o) O7 λx hx=>by unfold BS.I3;split;rfl;exact ZU o.ok hx
def wj(o:Cm b)(e:b.Au=h::r)(hr:r≠[])(hk:(b.a.nd h.node).kind=4):(b.place 0).1≠b.BM/\(b.place 0).1≠h.node:=by
 have hne:b.Au≠[]:=by rw[e];simp
 have NV:=o.ok.op _ (U8 hne);refine ZV o.ok o.fo hne (v:=(DP b.Au).node) ⟨NV.1,NV.2.1⟩ ?_ hk (.inl ⟨rfl,rfl⟩);intro f;have hpos:=CB.2 hr;have hlen:2<=b.Au.length:=by rw[e,AJ];omega
 have ht:DP b.Au=b.Au[b.Au.length-1]'(by omega):=by have:=Km (l:=b.Au) (n:=b.Au.length-1) Ac;rwa [(Ac:b.Au.length-1+1=b.Au.length),Bl] at this
 have h0:b.Au[0]'(by omega)=h:=by simp[e]
 have Te:(b.Au.map Item.node)[b.Au.length-1]'(by rw[Aw];omega)=(b.Au.map Item.node)[0]'(by rw[Aw];omega):=by simp only[Ei];rw[<-ht,h0,f]
 have:=(Ow o.ok.mU).1 Te;omega
def Ť(o:Cm b)(e:b.Au=h::r)(hr:r≠[])(k:Dk h.node L b):Dk h.node L (b.Co nm at_ sp):=by have kk:=GS (nm:=nm) (l:=at_) (sp:=sp) o;have rr:=DQ.1 kk.rest;have hp:=wj o e hr k.kind;exact k.go ⟨rr.2.2.2.2.2.2.2,Vq o.ok o.ok.BM.1 hp.1,Vq o.ok k.has hp.2⟩ kk.le
def S5{x:Item}(hx:AH [Ii] x=false):FI (r++[x])=FI r:=by
 cases r with
 |nil=>simp[FI,hx]
 |cons o r=>rfl
def Xx(o:Cm b)(hm:4<=b.mode)(e:b.Au=h::r)(k:Dk h.node (b.head::FI r) (b.Co nm at_ 1))(hn:nm∈bJ){s:Int}:L5 (b.Dj nm at_ s):=by have rr:=DQ.1 (L3 (b:=b) (nm:=nm) (l:=at_) (sp:=1));refine K6 (h:=h) (r:=r++[b.HA nm at_ 1]) (Az:(4:Int)<=8) (by rw[lR,e];rfl) ?_;rw[S5 (by rw[KZ];exact Ap (by have key:∀w∈bJ,w∉[Ii]:=Az;exact key _ hn))];have:(b.Dj nm at_ s).head=b.head:=rr.2.2.1;rw[this];exact k.mY (c:=b.Dj nm at_ s) rfl rfl
def mE(o:Cm b)(e:b.Au=h::r)(k:Dk h.node (b.head::FI r) (b.Co t.name t.As 1))(hn:t.name=AW):L5 (b.Nz t):=by have rr:=DQ.1 (L3 (b:=b) (nm:=t.name) (l:=t.As) (sp:=1));refine K6 (h:=h) (r:=r++[b.HA t.name t.As 1]) (Az:(4:Int)<=18) (by rw[Us,e];rfl) ?_;rw[S5 (by rw[KZ,hn];decide)];have:(b.Nz t).head=b.head:=rr.2.2.1;rw[this];exact k.mY (c:=b.Nz t) rfl rfl
def rQ(o:Cm b)(hm:4<=b.mode)(e:b.Au=h::r)(k:Dk h.node (b.head::FI r) (b.Co nm at_ 1)):L5 (b.Co nm at_ 1).FB:=by have kk:=DQ.1 (Uk (nm:=nm) (l:=at_) o).rest;refine K6 (h:=h) (r:=r) (by rw[kk.2.2.2.1];exact hm) (by rw[Rb (by rw[e];simp)];exact e) ?_;rw[kk.2.2.1];exact k.mY Oa.1 Oa.2.1
def ZZ(o:Cm b)(e:b.Au=[h])(h1:AH [IW] h=true):b.place 0=(h.node,0):=by
 have ht:DP b.Au=h:=by rw[e];rfl
 have NV:=o.ok.op h (by rw[e];simp);have hc:(b.a.nd h.node).cont=0:=by refine RZ λhc=>?_;have h2:=(o.ok.ok.Tg _ NV.1).QW hc;have h3:=h2.2.2;rw[NV.2.2.2] at h3;have f:=(B9.1 h1).2;simp at f;rw[h3] at f;exact absurd f Az
 unfold BS.place;simp only
 rw[Aa (by rw[e];simp),Ae trivial,ht,o.fo];simp[hc]
def xU{qk:Dr->Bool}(o:Ep b)(s:L5 b)(hm:b.mode=1):NS (b.Gq qk t):=by
 have he:=s.1 (.inl hm);have hd:=o.cm.ok.BM.1;have f:=rM (t:=t) o.cm;have g:=Ş (t:=t) o.cm.ok hd;have p:(b.Nw t).NP.a.el b.BM=[]:=by rw[show b.BM=(b.Nw t).BM from rfl,ny f.ok f.ok.BM.1];exact g.trans he
 have e:∀c:BS,c.mode=2->c.a.el c.BM=[]->L5 c:=λc h1 h2=>⟨λ_=>h2,λh=>Ac,λh=>Ac⟩;unfold BS.Gq;refine NS.ite (λ_=> .B0 s) λ_=>NS.ite (λ_=> .B0 s) λ_=>NS.ite (λ_=> .B0 (Jt s o.cm)) λ_=>NS.ite (λ_=> .B0 (e _ rfl ?_)) λ_=> .B0 (e _ rfl ?_);.show b.NP.a.el b.BM=[];rw[ny o.cm.ok hd];exact he
 .simp only
  split;.exact p
  .show(b.Nw t).a.el b.BM=[];rw[g];exact he
def bS(o:Ep b)(s:L5 b)(hm:b.mode=2):NS (b.DY t):=by
 have hs:b.Au=[]/\b.tm=[]:=by rcases o.sh Ac with h|h|h|h|h|h<;>first|exact h.2|omega
 have he:=s.1 (.inr hm);have hd:=o.cm.ok.BM;have e:∀nm at_,∀c:BS,c.a=(b.Co nm at_ 1).a->c.BM=(b.Co nm at_ 1).BM->c.Au=(b.Co nm at_ 1).Au->c.mode=3->L5 c:=by
  intro nm at_ c h1 h2 h3 g;have hp:b.place 0=(b.BM,0):=by unfold BS.place;rw[Ae ⟨rfl,hs.1⟩]
  obtain⟨a1,a2⟩:=Vr (nm:=nm) (l:=at_) o.cm.ok hp hd.1 (.inr ⟨hd.2,he⟩);have hn:=O4 (b:=b) (nm:=nm) (l:=at_);have f:(b.Co nm at_ 1).BM=b.BM:=Y1;refine⟨λh=>Ac,λ_=>⟨b.HA nm at_ 1,by rw[h3,EM,hs.1];rfl,?_⟩,λh=>Ac⟩;rw[Uh];exact⟨by rw[h1,h2,f,a1,he];rfl,by rw[h1,a2],by rw[h1];exact hn.2.2.1,by rw[h1];exact hn.2.2.2⟩
 unfold BS.DY;exact NS.ite (λ_=> .B0 s) λ_=>NS.ite (λ_=> .B0 s) λ_=>NS.ite (λ_=> .B0 s) λ_=>NS.ite (λ_=> .B0 s) λ_=>NS.ite (λ_=> .B0 (Jt s o.cm)) λ_=>NS.ite (λ_=> .B0 (e t.name t.As _ rfl rfl rfl rfl)) λ_=> .B0 (e aXM [] _ rfl rfl rfl rfl)
def bT(o:Ep b)(s:L5 b)(hm:b.mode=3):NS (b.DZ t):=by
 obtain⟨⟨p,f,z⟩,kE⟩:(∃h,b.Au=[h]/\AH [IW] h=true)/\b.tm=[]:=by rcases o.sh Ac with h|h|h|h|h|h<;>first|exact h.2|omega
 obtain⟨h',Z9,k⟩:=s.2.1 hm;rw[f] at Z9;simp only[Cu,EN] at Z9;subst Z9;have g:∀nm at_,nm=I2->∀c:BS,c.a=(b.Co nm at_ 1).a->c.BM=(b.Co nm at_ 1).BM->c.Au=(b.Co nm at_ 1).Au->c.mode=4->c.head=b.Li 1->L5 c:=by
  intro nm at_ hn c h1 h2 h3 B u;have hp:=ZZ o.cm f z;obtain⟨a1,a2⟩:=Vr (nm:=nm) (l:=at_) o.cm.ok hp k.has (.inl k.kind);have a3:=Vq (nm:=nm) (l:=at_) (sp:=1) o.cm.ok o.cm.ok.BM.1 (by rw[hp];intro e;have:=o.cm.ok.BM.2;rw[<-e,k.kind] at this;exact absurd this Az);have A:(b.Co nm at_ 1).BM=b.BM:=Y1;have v:c.head=b.a.len+1:=by rw[u];unfold BS.Li;rw[Ae KG]
  have kk:=GS (nm:=nm) (l:=at_) (sp:=1) o.cm;refine K6 (h:=p) (r:=[b.HA nm at_ 1]) Ac (by rw[h3,EM,f];rfl) ?_;have w:FI [b.HA nm at_ 1]=[]:=by
   have:AH [Ii] (b.HA nm at_ 1)=false:=by rw[KZ,hn];decide
   simp[FI,this]
  rw[w,v];exact⟨by rw[h1,h2,A,a3];exact k.d,by rw[h1,a1,k.h];rfl,by rw[h1];exact kk.le.has _ k.has,by rw[h1,kk.le.kind _ k.has];exact k.kind⟩
 unfold BS.DZ;exact NS.ite (λ_=> .B0 s) λ_=>NS.ite (λ_=> .B0 s) λ_=>NS.ite (λ_=> .B0 s) λ_=>NS.ite (λ_=> .B0 s) λ_=>NS.ite (λ_=> .B0 (Jt s o.cm)) λ_=>NS.ite (λ_=> .B0 (Xw s o.cm)) λ_=>NS.ite (λh=> .B0 (g t.name t.As (by simpa using h.2) _ rfl rfl rfl rfl rfl)) λ_=> .B0 (g I2 [] rfl _ rfl rfl rfl rfl rfl)
def ť{ws:List Ah}(h:AH ws i=true)(hw:Ii∉ws):AH [Ii] i=false:=by
 cases h2:AH [Ii] i with
 |false=>rfl
 |true=>have h3:=(B9.1 h2).2;simp at h3;have a:=(B9.1 h).2;rw[h3] at a;exact absurd a hw
def xV(o:Ep b)(s:L5 b)(hm:b.mode=4):NS (b.C2 t):=by
 obtain⟨⟨f,hd,a,A,v⟩,kE⟩:(∃h d,b.Au=[h,d]/\AH [IW] h=true/\AH [I2] d=true)/\b.tm=[]:=by rcases o.sh Ac with h|h|h|h|h|h<;>first|exact h.2|omega
 obtain⟨h',r',Z9,k⟩:=s.2.2 Ac;rw[a] at Z9;simp only[Cu] at Z9;obtain⟨rfl,rfl⟩:=Z9;have p:∀nm at_ sp,Dk f.node (b.head::FI [hd]) (b.Co nm at_ sp):=λnm at_ sp=>Ť o.cm a AB k;have z:FI [hd]=[]:=by simp[FI,ť v Az]
 have S4:b.FB={b with Au:=[f]}:=by unfold BS.FB;rw[a];rfl
 have e:L5 {b.FB with mode:=6}:=by rw[S4];refine K6 (h:=f) (r:=[]) (Az:(4:Int)<=6) rfl ?_;rw[z] at k;exact k.mY (c:={{b with Au:=[f]} with mode:=6}) rfl rfl
 by_cases hk:t.ok;rotate_left;.unfold BS.C2;rw[Ae hk];exact .B0 s
 by_cases u:t.st Ge;.exact Mr hk u (λ_=> .B0 (rQ o.cm Ac a (p _ _ _))) (λh s _=> .B0 (Xx o.cm Ac a (p _ _ _) h)) λh=> .B0 (mE o.cm a (p _ _ _) h)
 have g:∀ws:List Ah,(∀w∈ws,w∈Ge)->¬t.st ws:=λws hw h=>u ⟨h.1,hw _ h.2⟩;unfold BS.C2;rw[Aa (by simpa using hk)];refine NS.ite (λ_=> .B0 s) λ_=>NS.ite (λ_=> .B0 s) λ_=>NS.ite (λ_=> .B0 s) λ_=>NS.ite (λ_=> .B0 (Xv s o.cm)) λ_=>NS.ite (λ_=> .B0 (Jt s o.cm)) λ_=>NS.ite (λ_=> .B0 (Xw s o.cm)) λ_=>?_;rw[Aa (g _ Az),Aa (g _ Az),Aa (g _ Az),Aa (g _ Az)];refine NS.ite (λh=>?_) λ_=>NS.ite (λ_=> .B0 e) λ_=>?_
 .have rr:=DQ.1 (L3 (b:=b) (nm:=t.name) (l:=t.As) (sp:=1));refine .B0 (K6 (h:=f) (r:=[hd,b.HA t.name t.As 1]) (Az:(4:Int)<=5) ?_ ?_);.show(b.Co t.name t.As 1).Au=_;rw[EM,a];rfl
  .have:({b.Cr t with mode:=5}:BS).head=b.head:=rr.2.2.1;rw[this];exact(p t.name t.As 1).mY (c:={b.Cr t with mode:=5}) rfl rfl
 .rw[Aa (g _ Az)];refine NS.ite (λ_=>?_) λ_=> .B0 e;rw[Xs (λi hi=>by
   rw[a] at hi;simp at hi;rcases hi with rfl|rfl
   .exact bN A Az
   .exact bN v Az)]
  exact .B0 s
def bU(o:Ep b)(s:L5 b)(hm:b.mode=5):NS (b.FG t):=by
 obtain⟨⟨f,hd,x,a,F,E,D⟩,kE⟩:(∃h d x,b.Au=[h,d,x]/\AH [IW] h=true/\AH [I2] d=true/\AH [aHQ] x=true)/\b.tm=[]:=by rcases o.sh Ac with h|h|h|h|h|h<;>first|exact h.2|omega
 obtain⟨h',r',Z9,k⟩:=s.2.2 Ac;rw[a] at Z9;simp only[Cu] at Z9;obtain⟨rfl,rfl⟩:=Z9;have g:∀nm at_ sp,Dk f.node (b.head::FI [hd,x]) (b.Co nm at_ sp):=λnm at_ sp=>Ť o.cm a AB k;have S4:b.FB={b with Au:=[f,hd]}:=by unfold BS.FB;rw[a];rfl
 have e:L5 {b.FB with mode:=4}:=by rw[S4];refine K6 (h:=f) (r:=[hd]) (Az:(4:Int)<=4) rfl ?_;exact k.mY (c:={{b with Au:=[f,hd]} with mode:=4}) rfl rfl
 unfold BS.FG;by_cases hk:t.ok;rotate_left;.rw[Ae hk];exact .B0 s
 rw[Aa (by simpa using hk)];refine NS.ite (λ_=> .B0 s) λp=>NS.ite (λ_=> .B0 s) λz=>NS.ite (λ_=> .B0 s) λv=>NS.ite (λ_=> .B0 (Xw s o.cm)) λB=>NS.ite (λ_=> .B0 e) λ_=>NS.ite (λh=>?_) λu=>NS.ite (λh=>?_) λA=>NS.ite (λh=>?_) λ_=> .B0 e;.unfold BS.C2;have C:=h.1;rw[Aa (by simpa using hk),Aa p,Aa (λh=>by have:=h.1;omega),Aa (λh=>by have:=h.1;omega),Ae h];exact .B0 (Xv s o.cm)
 .unfold BS.C2;rw[Aa (by simpa using hk),Aa p,Aa (λh=>by have:=h.1;omega),Aa (λh=>by have:=h.1;omega),Aa u,Ae h];exact .B0 (Jt s o.cm)
 .refine Mr hk ⟨h.1,by have key:∀w∈ĵ,w∈Ge:=Az;exact key _ h.2⟩ (λ_=> .B0 (rQ o.cm Ac a (g _ _ _))) (λh s _=> .B0 (Xx o.cm Ac a (g _ _ _) h)) λh=> .B0 (mE o.cm a (g _ _ _) h)
def rR(hk:t.ok)(hs:t.st Ge):(b.Fe t).1.a=(BS.Co {b with Au:=b.Au++[BS.DF b.head]} t.name t.As 1).a/\(b.Fe t).1.BM=b.BM/\(b.Fe t).1.head=b.head:=by have rr:=DQ.1 (L3 (b:={b with Au:=b.Au++[BS.DF b.head]}) (nm:=t.name) (l:=t.As) (sp:=1));refine Mr (b:={b with Au:=b.Au++[BS.DF b.head]}) (Q:=λr=>r.1.a=(BS.Co {b with Au:=b.Au++[BS.DF b.head]} t.name t.As 1).a/\r.1.BM=b.BM/\r.1.head=b.head) hk hs (λ_=>?_) (λ_ s _=>⟨rfl,rr.2.2.2.2.2.2.2,rr.2.2.1⟩) λ_=>⟨rfl,rr.2.2.2.2.2.2.2,rr.2.2.1⟩;exact⟨Oa.1,Oa.2.1.trans rr.2.2.2.2.2.2.2,Oa.2.2.trans rr.2.2.1⟩
def mF(o:Ep b)(s:L5 b)(hm:b.mode=6):NS (b.Ex t):=by
 obtain⟨⟨h0,f,z⟩,kE⟩:(∃h,b.Au=[h]/\AH [IW] h=true)/\b.tm=[]:=by rcases o.sh Ac with h|h|h|h|h|h<;>first|exact h.2|omega
 obtain⟨h',r',Z9,k⟩:=s.2.2 Ac;rw[f] at Z9;simp only[Cu] at Z9;obtain⟨rfl,rfl⟩:=Z9;have B:=o.lT hm;have g:∀nm at_,nm=Ii->∀c:BS,c.a=(b.Co nm at_ 1).a->c.BM=(b.Co nm at_ 1).BM->c.Au=(b.Co nm at_ 1).Au->c.mode=7->c.head=(b.Co nm at_ 1).head->L5 c:=by
  intro nm at_ hn c h1 h2 h3 v C;have hp:=ZZ o.cm f z;obtain⟨a1,a2⟩:=Vr (nm:=nm) (l:=at_) o.cm.ok hp k.has (.inl k.kind);have a3:=Vq (nm:=nm) (l:=at_) (sp:=1) o.cm.ok o.cm.ok.BM.1 (by rw[hp];intro e;have:=o.cm.ok.BM.2;rw[<-e,k.kind] at this;exact absurd this Az);have kk:=GS (nm:=nm) (l:=at_) (sp:=1) o.cm;have rr:=DQ.1 kk.rest;refine K6 (h:=h0) (r:=[b.HA nm at_ 1]) Ac (by rw[h3,EM,f];rfl) ?_;have D:FI [b.HA nm at_ 1]=[b.a.len+1]:=by
   have:AH [Ii] (b.HA nm at_ 1)=true:=by rw[KZ,hn];decide
   simp[FI,this,Uh]
  rw[D,C,rr.2.2.1];exact⟨by rw[h1,h2,rr.2.2.2.2.2.2.2,a3];exact k.d,by rw[h1,a1,k.h];rfl,by rw[h1];exact kk.le.has _ k.has,by rw[h1,kk.le.kind _ k.has];exact k.kind⟩
 unfold BS.Ex;by_cases hk:t.ok;rotate_left;.rw[Ae hk];exact .B0 s
 rw[Aa (by simpa using hk)];refine NS.ite (λ_=> .B0 s) λ_=>NS.ite (λ_=> .B0 s) λ_=>NS.ite (λ_=> .B0 s) λ_=>NS.ite (λ_=> .B0 (Xv s o.cm)) λ_=>NS.ite (λ_=> .B0 (Jt s o.cm)) λ_=>NS.ite (λ_=> .B0 (Xw s o.cm)) λ_=>NS.ite (λh=> .B0 (g t.name t.As (by simpa using h.2) _ rfl rfl rfl rfl rfl)) λ_=>NS.ite (λ_=> .inl rfl) λ_=>NS.ite (λh=>?_) λ_=>NS.ite (λh=>?_) λ_=> .B0 (g Ii [] rfl _ rfl rfl rfl rfl rfl)
 .have ha:=rR (b:=b) hk h;have u:=ng o.cm B;have A:Dk h0.node (b.head::FI []) (BS.Co {b with Au:=b.Au++[BS.DF b.head]} t.name t.As 1):=Ť (r:=[BS.DF b.head]) u (by show b.Au++_=_;rw[f];rfl) AB (k.mY (c:={b with Au:=b.Au++[BS.DF b.head]}) rfl rfl);have ho:(b.Fe t).1.Au=b.Au\/∃x,(b.Fe t).1.Au=b.Au++[x]/\AH [Ii] x=false:=by refine Rg (Q:=λr=>r.1.Au=b.Au\/∃x,r.1.Au=b.Au++[x]/\AH [Ii] x=false) o hm hk h (λ_ c i e _ _ _=> .inl e) (λ_ c i ⟨x,e⟩ E _ _ _=> .inr ⟨x,e,?_⟩) λ_ c i ⟨x,h1,e⟩ _ _ _=> .inr ⟨x,e,ť h1 Az⟩;obtain⟨X,r,w,v,_⟩:=i.Zu E;rw[e] at w;have:=List.append_inj_right' w rfl;simp at this;rw[this];exact ť v Az
  have p:4<=(b.Fe t).1.mode:=by refine Rg (Q:=λr=>4<=r.1.mode) o hm hk h (λ_ c i _ e _ _=>by show 4<=c.mode;omega) (λ_ c i _ e _ _ _=>by show 4<=c.mode;omega) λ_ c i _ e _ _=>by show 4<=c.mode;omega
  have F:(BS.Co {b with Au:=b.Au++[BS.DF b.head]} t.name t.As 1).BM=b.BM:=Y1;have kf:=A.mY (c:=(b.Fe t).1) ha.1 (ha.2.1.trans F.symm);refine .inr ?_;rcases ho with e|⟨x,e,hx⟩
  .exact K6 p (e.trans f) (by rw[ha.2.2];exact kf)
  .exact K6 (h:=h0) (r:=[x]) p (by rw[e,f];rfl) (by
    have:FI [x]=[]:=by simp[FI,hx]
    rw[ha.2.2,this];exact kf)
 .rw[O8 hk h,Xs (λi hi=>by rw[f] at hi;simp at hi;rw[hi];exact bN z Az)]
  exact .B0 s
def wk(o:Ep b)(s:L5 b)(hm:b.mode=8):NS (b.LL t):=by
 obtain⟨X,r,f,A,z,B,sh⟩:=o.Zu hm;have p:X≠[]:=by
  rintro rfl;rcases sh with h|h|h|h|h|h
  .omega
  .omega
  .obtain⟨_,_,h2,_⟩:=h.2.1;cases h2
  .obtain⟨_,_,_,h2,_⟩:=h.2.1;cases h2
  .obtain⟨_,h2,_⟩:=h.2.1;cases h2
  .obtain⟨P,u⟩:=h.2;have w:=u.len;have C:=u.pf.len;rw[AZ] at w;omega
 have v:=CB.2 p;have S4:b.FB={b with Au:=X}:=by unfold BS.FB;rw[Aa (by rw[f];simp;omega)];rw[f];simp
 have a:L5 {b.FB with mode:=b.IV}:=by
  obtain⟨h',r',e,k⟩:=s.2.2 Ac;rw[S4];cases X with
  |nil=>exact absurd rfl p
  |cons g X=>rw[f] at e;simp only[BD,Cu] at e;rw[<-e.1,<-e.2,S5 (ť A Az)] at k;exact K6 (h:=g) (r:=X) z rfl (k.mY (c:={{b with Au:=g::X} with mode:=b.IV}) rfl rfl)
 unfold BS.LL;exact NS.ite (λ_=> .B0 s) λ_=>NS.ite (λ_=> .B0 (Xv s o.cm)) λ_=>NS.ite (λ_=> .B0 a) λ_=>NS.ite (λ_=> .B0 a) λ_=> .B0 s
def Xy(s:L5 b)(hb:4<=b.mode)(hc:4<=c.mode)(h1:c.a=b.a)(h2:c.BM=b.BM)(h3:c.Au=b.Au)(f:c.head=b.head):L5 c:=by obtain⟨h,r,e,k⟩:=s.2.2 hb;exact K6 hc (h3.trans e) (by rw[f];exact k.mY h1 h2)
def fI(o:Dq P b.mode b.tm b)(v:0<=AD Em b.Au)(hc:c=BS.JR {b with Au:=Hc b.Au (AD Em b.Au),A3:=FF b.A3,tm:=b.tm.dropLast}):L5 c:=by
 obtain⟨i,_,_,w,_,h3⟩:=lQ o.d v hc;have ca:c.a=b.a:=by rw[hc];rfl
 have E:c.BM=b.BM:=by rw[hc];rfl
 have e:c.Au=Hc b.Au (AD Em b.Au):=by rw[hc];rfl
 have D:c.head=b.head:=by rw[hc];rfl
 clear hc;obtain⟨h,x,r,u,C,s,B,A⟩:=o.d.rO;have hpos:b.Au.take (max 1 (AD Em b.Au).toNat)=h::(x::(r++u)).take (max 1 (AD Em b.Au).toNat-1):=by rw[s];obtain⟨z,hz⟩:∃z,max 1 (AD Em (h::x::(r++u))).toNat=z+1:=⟨max 1 (AD Em (h::x::(r++u))).toNat-1,Ac⟩;rw[hz];rfl
 have hm:4<=c.mode:=by
  rcases i.sh w with h|h|h|h|h|h
  .exfalso;have:=h.2.1;rw[e] at this;unfold Hc at this;rw[hpos] at this;cases this
  .exact absurd h.1 h3
  .omega
  .omega
  .omega
  .omega
 unfold Hc at e;rw[hpos] at e;refine K6 hm e ?_;rw[D];have k:=o.k.mY ca E;rw[B,A] at k;by_cases hz:max 1 (AD Em b.Au).toNat-1=0
 .rw[hz];rcases BZ (q:=Em) (l:=b.Au) with⟨h1,_⟩|⟨q,hq,h1,h2,_⟩
  .omega
  .have Ĥ:q<=1:=by omega
   have:AH [Ii] x=false:=by
    have g:q=0\/q=1:=Ac;rcases g with rfl|rfl
    .exfalso;have h0:b.Au[0]'hq=h:=by simp[s]
     rw[h0] at h2;obtain⟨F,rr,p,uc⟩:=o.d.d.pf.aLy;rw[C] at p;simp only[Cu] at p;rw[<-p.1] at uc;rw[bN uc Az] at h2;cases h2
    .have h0:b.Au[1]'hq=x:=by simp[s]
     rw[h0] at h2;exact ť h2 Az
   rw[this] at k;exact k
 .obtain⟨z,f⟩:∃z,max 1 (AD Em b.Au).toNat-1=z+1:=⟨max 1 (AD Em b.Au).toNat-1 -1,Ac⟩;rw[f];exact k
def fJ(o:Dq P b.mode b.tm b)(hm:4<=b.mode)(s:L5 b):NS b.MI:=by
 unfold BS.MI;split;.rename_i h;unfold BS.Ox at h;rw[PH];exact .B0 (fI o h rfl)
 .exact .B0 (Xy s hm hm rfl rfl rfl rfl)
def od(o:Dq P b.mode b.tm b)(s:L5 b):L5 b.Dn:=by
 unfold BS.Dn;split;.exact s
 .rename_i h;have h1:0<=AD (AH [AW]) b.Au:=Ac;rw[Nv (λ_=>Q6) h1];exact fI o h1 rfl
def We(o:Dq P q T b)(hm:4<=q)(hk:t.ok)(hs:t.st Ge):NS (b.C2 t):=by
 obtain⟨h,x,r,u,v,f,p,g⟩:=o.d.rO;have a:4<=b.mode:=by rw[o.d.md];exact hm
 have e:∀nm at_,Dk h.node (b.head::FI (x::(r++u))) (b.Co nm at_ 1):=λnm at_=>by have:=o.wg (nm:=nm) (at_:=at_) (sp:=1);rw[p,g] at this;exact this
 exact Mr hk hs (λ_=> .B0 (fH o.fO hm)) (λh s _=> .B0 (Xx o.d.cm a f (e _ _) h)) λh=> .B0 (mE o.d.cm f (e _ _) h)
def bV(o:Ep b)(s:L5 b)(hm:b.mode=18):NS (b.D0 t):=by
 obtain⟨P,d⟩:=Ţ o s (.inr hm);have a:4<=b.mode:=Ac;unfold BS.D0;by_cases hk:t.ok;rotate_left;.rw[Ae hk];exact .B0 s
 rw[Aa (by simpa using hk)];have e:∀m,Gv m=false->NS (b.E9 m):=λm h=> .inl h;refine NS.ite (λ_=> .B0 (fH d.HL a)) λ_=>NS.ite (λ_=> .B0 (Jt s o.cm)) λ_=>NS.ite (λ_=> .B0 s) λ_=>NS.ite (λh=>We d a hk h) λ_=>NS.ite (λh=>?_) λ_=>NS.ite (λ_=>e _ rfl) λ_=>NS.ite (λ_=>e _ rfl) λ_=>NS.ite (λ_=>e _ rfl) λ_=>NS.ite (λ_=>e _ rfl) λ_=>NS.ite (λh=> .B0 (Xy s a (Az:(4:Int)<=7) rfl rfl rfl rfl)) λ_=>NS.ite (λ_=> .B0 s) λ_=>fJ d a s;rw[O8 hk h];exact .B0 (od d s)
def mG(o:Dq P 7 T b)(hn:nm∈bJ){s:Int}:L5 (b.Dj nm at_ s):=by obtain⟨h,x,r,u,g,f,e,a⟩:=o.d.rO;have:=o.wg (nm:=nm) (at_:=at_) (sp:=1);rw[e,a] at this;exact Xx o.d.cm (by rw[o.d.md];decide) f this hn
def aHX(o:Dq P 7 T b)(hn:t.name∈qS):L5 (b.Zu t):=by
 have a:t.name≠aYr->t.name∈bJ:=λh=>by
  simp only[qS,AF,Ej,Mv] at hn;rcases hn with h1|h1|h1|h1|h1
  .rw[h1];decide
  .rw[h1];decide
  .rw[h1];decide
  .rw[h1];decide
  .exact absurd h1 h
 unfold BS.Zu;split;.rename_i h;exact fH ((o.LM ⟨by rw[h];decide,by rw[h];decide⟩).set _) Az
 .rename_i h;have a:=a h;split;.exact Xy (mG o a (s:=2)) (Az:(4:Int)<=8) (Az:(4:Int)<=8) rfl rfl rfl rfl
  .split;.exact mG (P:=P) (T:=T) (b:={b.B7.AM with fs:=false}) (o.B7.AM.set _) a
   .split;.exact mG (P:=P) (T:=T) (b:={b with fs:=false}) (o.set _) a
    .exact mG o a
def Ŧ(o:Dq P 7 T b)(hk:t.ok)(h2:t.k=2):NS (b.opens t):=by
 have st:∀{c},Dq P 7 T c->NS (c,false):=λd=> .B0 (fH d Az);unfold BS.opens;refine NS.ite (λh=>We o Az hk ⟨h2,h⟩) λp=>NS.ite (λh=>st (o.LM (I4 h Az))) λg=>NS.ite (λh=>st (o.Iq (I4 h Az) (λe=>absurd h (by rw[e];decide)))) λB=>NS.ite (λh=>st ((o.LM (I4 h Az)).set _)) λA=>NS.ite (λh=>st (o.wR (by have key:∀w∈ve,w∈B2:=Az;exact key _ h))) λz=>NS.ite (λh=>st (o.BV (I4 h Az) (λe=>absurd h (by rw[e];decide)))) λv=>NS.ite (λh=>st o.empty) λu=>NS.ite (λh=>st o) λa=>NS.ite (λh=> .B0 (aHX o h)) λs=>NS.ite (λh=>st (o.SZ (I4 h Az) (λe=>absurd h (by rw[e];decide)))) λPg=>NS.ite (λh=>st o.HR) λUD=>NS.ite (λh=>st (o.SX (I4 h Az))) λWa=>NS.ite (λh=>st (o.KY (I4 h Az) (λe=>absurd h (by rw[e];decide)))) λeX=>NS.ite (λh=>st o.Jq) λZH=>NS.ite (λh=>?_) λrF=>NS.ite (λh=>st (o.MP h)) λmw=>NS.ite (λh=>st (o.KX h)) λvp=>NS.ite (λh=>st (o.WK (by rw[h];decide))) λmX=>NS.ite (λh=>st (o.Ui (by rw[h];decide))) λō=>NS.ite (λh=> .inl rfl) λya=>NS.ite (λh=>?_) λf=>?_
 .unfold BS.JL;split;.exact st o
  .exact .inl rfl
 .left;show Gv (if b.mode=9\/b.mode=11\/b.mode=13\/b.mode=14\/b.mode=15 then 17 else 16)=false;split<;>rfl
 .refine st (Dq.Cr o.AM ⟨λhb=>?_,Dy p Az⟩ (Dy g Az));simp only[bF,AF,Ej,Mv] at hb;rcases hb with h|h|h|h|h|h|h|h|h|h|h|h|h|h|h|h
  .exact Dy ZH Az h
  .exact Dy a Az h
  .exact Dy ZH Az h
  .exact rF h
  .exact ya h
  .exact f h
  .exact Dy a Az h
  .exact Dy a Az h
  .exact Dy a Az h
  .exact Dy a Az h
  .exact Dy a Az h
  .exact Dy a Az h
  .exact Dy a Az h
  .exact Dy a Az h
  .exact Dy a Az h
  .exact Dy a Az h
def wm(o:Dq P 7 T b)(u:T=b.tm)(hm:b.mode=7)(s:L5 b)(hk:t.ok)(h3:t.k=3):NS (b.MJ t):=by
 have st:∀{c},Dq P 7 T c->NS (c,false):=λd=> .B0 (fH d Az);have f:∀{c:BS},Dp P 7 T c->(c.a=b.a/\c.BM=b.BM/\c.head=b.head)->NS (c,false):=λd e=>st (o.Qh d e.1 e.2.1 e.2.2);unfold BS.MJ;refine NS.ite (λh=>?_) λp=>NS.ite (λh=>?_) λg=>NS.ite (λh=>f (o.d.Fa ?_ ?_) ZY) λE=>NS.ite (λh=>st (o.C7 (by rw[ĸ] at h;exact h))) λD=>NS.ite (λh=>f o.d.FH mD) λC=>NS.ite (λh=>f (o.d.GA ?_ ?_) rP) λB=>NS.ite (λh=>st (o.HS h)) λA=>NS.ite (λh=>f (o.d.JM h) wh) λz=>NS.ite (λh=>st o.empty) λv=>f (o.d.C1 p (Dy g Az) (Dy g Az)) š;.rw[O8 hk ⟨h3,by rw[h];simp⟩];refine .B0 (od (P:=P) ⟨⟨o.d.cm,o.d.hd,by rw[<-u];exact o.d.d,rfl,rfl⟩,o.k⟩ s)
 .unfold BS.PZ;split;.exact .inl rfl
  .exact st o
 .have key:∀w∈Q8,w∉H8:=by decide
  exact key _ h
 .have key:∀w∈Q8,w∉Fu:=by decide
  exact key _ h
 .have key:∀w∈WJ,w∉H8:=by decide
  exact key _ h
 .have key:∀w∈WJ,w∉Fu:=by decide
  exact key _ h
def wo(o:Ep b)(s:L5 b)(hm:b.mode=7):NS (b.H7 t):=by
 obtain⟨P,d⟩:=Ţ o s (.inl hm);have a:Dq P 7 b.tm b:=⟨⟨d.d.cm,d.d.hd,d.d.d,hm,rfl⟩,d.k⟩;unfold BS.H7;by_cases hk:t.ok;rotate_left;.rw[Ae hk];exact .B0 s
 rw[Aa (by simpa using hk)];refine NS.ite (λ_=> .B0 (fH a.HL Az)) λe=>NS.ite (λ_=> .B0 (Jt s o.cm)) λf=>NS.ite (λp=>?_) λg=>NS.ite (λh=>Ŧ a hk h) λ_=>NS.ite (λh=>wm a rfl hm s hk h) λ_=> .B0 s;refine NS.ite (λh=>?_) λ_=> .B0 (Xy s Ac (Ac:4<=b.mode) rfl rfl rfl rfl);unfold BS.D0;rw[Aa (by simpa using hk),Aa e,Aa f,Aa Ac,Aa (λh=>by have:=h.1;omega),Aa (λh=>by have:=h.1;omega),Aa (λh=>by have:=h.1;omega),Aa (λh=>by have:=h.1;omega),Aa (λh=>by have:=h.1;omega),Aa (λh=>by have:=h.1;omega),Aa Ac,Aa Ac];exact fJ d Ac s
def ŧ{qk:Dr->Bool}(o:Ep b)(s:L5 b):NS (b.apply qk t):=by unfold BS.apply;exact NS.ite (λ_=> .B0 s) λ_=>NS.ite (λh=>xU o s h) λ_=>NS.ite (λh=>bS o s h) λ_=>NS.ite (λh=>bT o s h) λ_=>NS.ite (λh=>xV o s h) λ_=>NS.ite (λh=>bU o s h) λ_=>NS.ite (λh=>mF o s h) λ_=>NS.ite (λh=>wo o s h) λ_=>NS.ite (λh=>wk o s h) λ_=>NS.ite (λh=>bV o s h) λ_=> .B0 s
end
section
variable{b c:BS}{t:Dr}{qk:Dr->Bool}{j k:Nat}{l:List Dr}
def aHY{f:Bool}:L5 (Ih f):=by refine⟨λ_=>?_,λh=>absurd (show(1:Int)=3 from h) Az,λh=>absurd (show(4:Int)<=1 from h) Az⟩;show((Ih f).a.el 1)=[];unfold Ar.el;rw[Xn,Ae rfl];rfl
def Xz{R Q:BS->Prop}(a:∀c,R c->Gv c.mode=true->(c.apply qk t).2=true->Gv (c.apply qk t).1.mode=true->R (c.apply qk t).1)(hF:∀c,R c->Gv c.mode=true->(c.apply qk t).2=false->Gv (c.apply qk t).1.mode=true->Q (c.apply qk t).1):∀{k:Nat} {c:BS},R c->(L4 qk t k c).2=true->Gv (L4 qk t k c).1.mode=true->Q (L4 qk t k c).1
 |0,c,_,h2,h3=>by rw[L4] at h2 h3;simp only at h2 h3;rw[h3] at h2;cases h2
 |k+1,c,r,h2,h3=>by
  rw[L4] at h2 h3⊢;cases ho:Gv c.mode with
  |false=>rw[ho,Ae rfl] at h3;simp only at h3;rw[ho] at h3;cases h3
  |true=>
   rw[ho,Aa AB] at h2 h3;rw[Aa AB];cases hb:(c.apply qk t).2 with
   |false=>rw[hb,Ae rfl] at h2 h3;rw[Ae rfl];exact hF c r ho hb h3
   |true=>
    rw[hb,Aa AB] at h2 h3;rw[Aa AB];cases hm:Gv (c.apply qk t).1.mode with
    |false=>rw[aCk hm] at h3;simp only at h3;rw[hm] at h3;cases h3
    |true=>exact Xz a hF (a c r ho hb hm) h2 h3
def mH(o:Ep c)(s:L5 c)(hm:Gv (c.apply qk t).1.mode=true):Ep (c.apply qk t).1/\L5 (c.apply qk t).1:=by
 refine⟨?_,?_⟩
 .rcases ZQ (qk:=qk) (t:=t) o with h|h
  .rw[hm] at h;cases h
  .exact h.1
 .rcases ŧ (qk:=qk) (t:=t) o s with h|h
  .rw[hm] at h;cases h
  .exact h
def aHZ(o:Ep c)(s:L5 c)(h2:(L4 qk t k c).2=true)(h3:Gv (L4 qk t k c).1.mode=true):Ep (L4 qk t k c).1/\L5 (L4 qk t k c).1:=
 Xz (R:=λc=>Ep c/\L5 c) (Q:=λc=>Ep c/\L5 c) (λc r _ _ hm=>mH r.1 r.2 hm) (λc r _ _ hm=>mH r.1 r.2 hm) ⟨o,s⟩ h2 h3
def O9(h:(Ew qk (t::l) b).2=2):(L4 qk t (9+b.tm.length) b).2=true/\Gv (L4 qk t (9+b.tm.length) b).1.mode=true/\Ew qk (t::l) b=Ew qk l (L4 qk t (9+b.tm.length) b).1:=by
 rw[Ew] at h⊢;cases h1:(L4 qk t (9+b.tm.length) b).2 with
 |false=>rw[h1,Ae rfl] at h;simp at h
 |true=>
  rw[h1,Aa AB] at h;rw[Aa AB];cases h2:Gv (L4 qk t (9+b.tm.length) b).1.mode with
  |false=>rw[h2,Ae rfl] at h;simp at h
  |true=>rw[Aa AB];exact⟨rfl,rfl,rfl⟩
def oe:∀{l:List Dr} {b:BS},(Ew qk l b).2=2->Ep b->L5 b->Ep (Ew qk l b).1/\L5 (Ew qk l b).1
 |[],b,_,o,s=>by rw[Ew];exact⟨o,s⟩
 |t::l,b,h,o,s=>by obtain⟨h1,h2,h3⟩:=O9 h;rw[h3] at h⊢;obtain⟨d,a⟩:=aHZ o s h1 h2;exact oe h d a
def fK:∀{l:List Dr} {b:BS},(Ew qk (l++[t]) b).2=2->(Ew qk l b).2=2/\(L4 qk t (9+(Ew qk l b).1.tm.length) (Ew qk l b).1).2=true/\Gv (L4 qk t (9+(Ew qk l b).1.tm.length) (Ew qk l b).1).1.mode=true/\(Ew qk (l++[t]) b).1=(L4 qk t (9+(Ew qk l b).1.tm.length) (Ew qk l b).1).1
 |[],b,h=>by rw[Bq] at h;obtain⟨h1,h2,h3⟩:=O9 h;rw[Bq,h3,Ew];exact⟨rfl,h1,h2,by rw[Ew]⟩
 |x::l,b,h=>by
  rw[BD] at h;obtain⟨h1,h2,h3⟩:=O9 h;rw[h3] at h;have r:=fK h;have e:Ew qk (x::l) b=Ew qk l (L4 qk x (9+b.tm.length) b).1:=by rw[Ew,h1,Aa AB,h2,Aa AB]
  rw[BD,h3,e];exact r
def aCo(o:Ep b)(hk:t.k=6)(a:(b.apply qk t).2=false)(ho:Gv b.mode=true):b.mode=7/\b.tm=[]/\(b.apply qk t).1={b with stop:=true}:=by
 have EV:t.ok:=by unfold Dr.ok;omega
 have ns:∀ws,¬t.st ws:=λws h=>by have:=h.1;omega
 have ne:∀ws,¬t.en ws:=λws h=>by have:=h.1;omega
 have no:∀ws,¬t.bD ws:=λws h=>by have:=h.1;omega
 have g:¬t.E8:=λh=>by have:=h.1;omega
 have f:¬t.k=1:=Ac;have e:¬t.k=4:=Ac;have m:¬t.k=5:=Ac;have r:¬t.k=2:=Ac;have p:¬t.k=3:=Ac;have Nz:(b.mode=7\/b.mode=18)->b.tm≠[]->b.MI.2=true:=λhm hne=>by
  obtain⟨_,P,d⟩:=o.dp hm;have hc:=d.d.ź;have:b.Ox:=by
   unfold BS.Ox;rcases BZ (q:=Em) (l:=b.Au) with⟨h1,h2⟩|⟨n,hn,h1,_,_⟩
   .exfalso;rw[Hy.2 (λi hi=>by rw[h2 i (BE.1 hi).1];simp)] at hc;exact hne (Fz.1 hc.symm)
   .show 0<=AD Em b.Au;omega
  unfold BS.MI;rw[Ae this]
 have hm:b.mode=1\/b.mode=2\/b.mode=3\/b.mode=4\/b.mode=5\/b.mode=6\/b.mode=7\/b.mode=8\/b.mode=18:=by have:=CC ho;omega
 unfold BS.apply at a⊢;rw[Aa (by simpa using EV)] at a⊢;rcases hm with hm|hm|hm|hm|hm|hm|hm|hm|hm
 .exfalso;rw[Ae hm] at a;unfold BS.Gq at a;rw[Aa (by simpa using EV),Aa g,Aa e,Ae f] at a;cases a
 .exfalso;rw[Aa Ac,Ae hm] at a;unfold BS.DY at a;rw[Aa (by simpa using EV),Aa f,Aa g,Aa (no _),Aa e,Aa (ns _)] at a;cases a
 .exfalso;rw[Aa Ac,Aa Ac,Ae hm] at a;unfold BS.DZ at a;rw[Aa (by simpa using EV),Aa f,Aa g,Aa (no _),Aa e,Aa (ns _),Aa (ns _)] at a;cases a
 .exfalso;rw[Aa Ac,Aa Ac,Aa Ac,Ae hm] at a;unfold BS.C2 at a;rw[Aa (by simpa using EV),Aa f,Aa (ns _),Aa (no _),Aa g,Aa e,Aa (ns _),Aa (ns _),Aa (ns _),Aa (ns _),Aa (ns _),Aa (ns _),Aa (ne _),Aa (ns _),Aa (ne _)] at a;cases a
 .exfalso;rw[Aa Ac,Aa Ac,Aa Ac,Aa Ac,Ae hm] at a;unfold BS.FG at a;rw[Aa (by simpa using EV),Aa f,Aa (ns _),Aa (no _),Aa (ns _),Aa (ne _),Aa g,Aa e,Aa (ns _)] at a;cases a
 .exfalso;rw[Aa Ac,Aa Ac,Aa Ac,Aa Ac,Aa Ac,Ae hm] at a;unfold BS.Ex at a;rw[Aa (by simpa using EV),Aa f,Aa (ns _),Aa (no _),Aa g,Aa e,Aa (ns _),Aa (ns _),Aa (ns _),Aa (ns _),Aa (ne _)] at a;cases a
 .rw[Aa Ac,Aa Ac,Aa Ac,Aa Ac,Aa Ac,Aa Ac,Ae hm] at a⊢;unfold BS.H7 at a⊢;rw[Aa (by simpa using EV),Aa m,Aa e,Ae hk] at a⊢;by_cases h0:0<b.tm.length;.exfalso;rw[Ae h0] at a;unfold BS.D0 at a;rw[Aa (by simpa using EV),Aa m,Aa e,Aa f,Aa (ns _),Aa (ne _),Aa (ns _),Aa (ns _),Aa (ns _),Aa (ns _),Aa r,Aa p,Nz (.inl hm) (CB.1 h0)] at a;cases a
  .rw[Aa h0];exact⟨hm,Fz.1 Ac,rfl⟩
 .exfalso;rw[Aa Ac,Aa Ac,Aa Ac,Aa Ac,Aa Ac,Aa Ac,Aa Ac,Ae hm] at a;unfold BS.LL at a;rw[Aa (by simpa using EV),Aa m,Ae hk] at a;cases a
 .exfalso;have hne:=(o.dp (.inr hm)).1 hm;rw[Aa Ac,Aa Ac,Aa Ac,Aa Ac,Aa Ac,Aa Ac,Aa Ac,Aa Ac,Ae hm] at a;unfold BS.D0 at a;rw[Aa (by simpa using EV),Aa m,Aa e,Aa f,Aa (ns _),Aa (ne _),Aa (ns _),Aa (ns _),Aa (ns _),Aa (ns _),Aa r,Aa p,Nz (.inr hm) hne] at a;cases a
structure og(b:BS):Prop where
 stop:b.stop=true
 mode:b.mode=7
 ex:∃h o,b.Au.take 2=[h,o]/\AH [IW] h=true/\AH [Ii] o=true/\b.a.el b.BM=[h.node]/\b.a.el h.node=[b.head,o.node]
def aH0(o:Ep c)(s:L5 c)(hm:c.mode=7)(ht:c.tm=[]):og {c with stop:=true}:=by
 obtain⟨P,d⟩:=Ţ o s (.inl hm);have k:=d.k;have hp:=d.d.d.J4;have hc:=d.d.d.ź;rw[ht,AZ,Hy] at hc;have e:∀i∈P,Em i=false:=λi hi=>by
  have h1:i∈c.Au.filter AS:=by rw[d.d.d.wS];exact B4 _ hi
  simpa using hc i h1
 cases d.d.d.pf with
 |body h o' a b'=>
  refine⟨rfl,hm,h,o',hp,a,b',?_,?_⟩;.exact k.d
  .have:=k.h;simp only[FI,List.tail_cons,b',BN] at this;exact this
 |Ox h o' a b'=>have:=e o' AB;rw[b'] at this;cases this
 |head h f t a b' c'=>have:=e t AB;rw[c'] at this;cases this
def aCp(hk:t.k=6)(o:Ep b)(s:L5 b)(h2:(L4 qk t k b).2=true)(h3:Gv (L4 qk t k b).1.mode=true):og (L4 qk t k b).1:=
 Xz (R:=λc=>Ep c/\L5 c) (Q:=og) (λc r _ _ hm=>mH r.1 r.2 hm) (λc r ho hF _=>by obtain⟨e,d,a⟩:=aCo r.1 hk hF ho;rw[a];exact aH0 r.1 r.2 e d) ⟨o,s⟩ h2 h3
def Ũ(hk:t.k=6)(h:(Ew qk (l++[t]) (Ih false)).2=2)(o:Ep (Ih false)):og (Ew qk (l++[t]) (Ih false)).1:=by obtain⟨h1,h2,h3,e⟩:=fK h;obtain⟨d,a⟩:=oe h1 o aHY;rw[e];exact aCp hk d a h2 h3
end
end Go.Am
end
