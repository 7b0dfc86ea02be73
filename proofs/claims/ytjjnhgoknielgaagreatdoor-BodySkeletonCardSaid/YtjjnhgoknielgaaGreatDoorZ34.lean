/- Lemmas -/
import Derived.Test.YtjjnhgoknielgaaGreatDoorZ30
set_option linter.all false
set_option maxRecDepth 100000
section
end
section
namespace Go.Am
open Go
def Ar.el(A:Ar)(x:Int):List Int:=(A.nd x).Bm.filter λk=>decide ((A.nd k).kind=4)
section
variable{A A':Ar}{e x p n bf d sp:Int}{y:HP}{l:List Be}{nm:Ah}{b:BS}
def Uc(ok:EA A e)(hx:A.has x)(hl:Le A A')(hk:(A'.nd x).Bm=(A.nd x).Bm):A'.el x=A.el x:=by unfold Ar.el;rw[hk];refine Nv λk h=>?_;rw[hl.kind _ (ok.N7 x hx k h).1]
def kM(h:n∈A.el x):n∈(A.nd x).Bm/\(A.nd n).kind=4:=by have:=BD.1 h;exact⟨this.1,CD this.2⟩
def kg(f:zo A p n bf):n≠p:=λe=>f.re (e▸ .refl)
def Xf(ok:EA A e)(hx:A.has x)(hp:p≠x)(hn:n∉A.el x):(A.GC p n bf).el x=A.el x:=by
 have hl:Le A (A.GC p n bf):=Hi;unfold Ar.GC at hl⊢;split
 .rename_i f;rw[Af f] at hl;have hne:=kg f;have c:=YD (A:=A.cut n) (p:=p) (n:=n) (b:=bf) (k:=x) (KK.2 f.hp) (KK.2 f.hn) hne;have a:=QJ (k:=x) ok f.hn;by_cases g:x=n
  .refine Uc ok hx hl ?_;rw[c,Af g];simp only
   rw[QJ ok f.hn,Af rfl,g]
  .rw[Ac g,Ac (CZ hp)] at c;rw[Ac g] at a;by_cases m:(A.nd n).GR≠0/\x=(A.nd n).GR
   .rw[Af m] at a;unfold Ar.el;rw[c,a];simp only
    rw[aQp];refine Nv λk h=>?_;rw[hl.kind _ (ok.N7 x hx k h).1];by_cases i:(A.nd k).kind=4;.have:k≠n:=λj=>hn (BD.2 ⟨j▸h,by rw[<-j];exact Ak i⟩);simp[i,this]
    .simp[i]
   .rw[Ac m] at a;exact Uc ok hx hl (by rw[c,a])
 .rfl
def kN(ok:EA A e)(hx:A.has x)(hp:p≠x)(hn:n∉A.el x):(A.E1 n p bf).el x=A.el x:=by
 unfold Ar.E1;split;.rfl
 .exact Xf ok hx hp hn
def vW{q:Int->Bool}{ks:List Int}(h:q n=false):(JC ks bf n).filter q=ks.filter q:=by
 unfold JC;split;.rw[Bc];simp[h]
 .rw[Bc,Dv (by simp[h])];rw[<-Bc,ND]
def Zx(ok:EA A e)(hx:A.has x)(hk:(A.nd n).kind≠4):(A.GC p n bf).el x=A.el x:=by
 by_cases hp:p=x
 .have hl:Le A (A.GC p n bf):=Hi;unfold Ar.GC at hl⊢;split
  .rename_i f;rw[Af f] at hl;have hne:=kg f;have i:=YD (A:=A.cut n) (p:=p) (n:=n) (b:=bf) (k:=x) (KK.2 f.hp) (KK.2 f.hn) hne;rw[Ac (by rw[<-hp];exact CZ hne),Af hp.symm] at i;have j:=QJ (k:=p) ok f.hn;rw[Ac (CZ hne)] at j;have key:∀k∈JC (A.nd x).Bm bf n,(((A.cut n).Mm p n bf).nd k).kind=(A.nd k).kind:=λk h=>by
    rcases Lr.1 h with rfl|h
    .exact hl.kind _ f.hn
    .exact hl.kind _ (ok.N7 x hx k h).1
   have a:((A.cut n).nd p).Bm=(A.nd p).Bm\/((A.cut n).nd p).Bm=(A.nd p).Bm.filter λm=>decide (m≠n):=by
    rw[j];split;.exact .inr rfl
    .exact .inl rfl
   unfold Ar.el;rw[i];simp only
   rw[hp] at a⊢;have q:(JC ((A.cut n).nd x).Bm bf n).filter (λk=>decide ((((A.cut n).Mm x n bf).nd k).kind=4))=(JC ((A.cut n).nd x).Bm bf n).filter λk=>decide ((A.nd k).kind=4):=Nv λk h=>by
    rw[hp] at key;rw[key k];rcases Lr.1 h with rfl|h
    .exact Lr.2 (.inl rfl)
    .refine Lr.2 (.inr ?_);rcases a with c|c
     .rw[c] at h;exact h
     .rw[c] at h;exact(BD.1 h).1
   rw[q,vW (by simpa using hk)];rcases a with c|c
   .rw[c]
   .rw[c,aQp];refine Nv λk h=>?_;by_cases g:(A.nd k).kind=4;.have:k≠n:=λo=>hk (o▸g);simp[g,this]
    .simp[g]
  .rfl
 .exact Xf ok hx hp λh=>hk (kM h).2
def Zy(ok:EA A e)(hx:A.has x)(hk:(A.nd n).kind≠4):(A.E1 n p bf).el x=A.el x:=by
 unfold Ar.E1;split;.rfl
 .exact Zx ok hx hk
def vX(ok:EA A e)(hx:A.has x):(A.add y).el x=A.el x:=Uc ok hx Px (by rw[Ls hx])
def kP(ok:EA A e)(hx:A.has x):(A.elem d sp nm l).el x=A.el x:=Uc ok hx WM (by rw[(TI hx).2])
def vY(ok:EA A e)(hx:A.has x){h:Int}(h1:y.kind=(A.nd h).kind)(h2:y.A9=(A.nd h).A9)(h3:y.name=(A.nd h).name)(a:y.Bm=(A.nd h).Bm):(A.set h y).el x=A.el x:=Uc ok hx (Py h1 h2 h3) (by
 rw[Ka];split;.rename_i e;rw[a,e.1]
 .rfl)
def kQ(o:Ey b)(hx:b.a.has x){r:Int}:(b.Kx r).a.el x=b.a.el x:=by
 have ok:=o.ok;have hp:=(TK o (.inl rfl)).1;have M4:∀s,((b.a.add {kind:=5,BM:=(b.a.nd (b.place 0).1).BM,data:=s}).E1 (b.a.len+1) (b.place 0).1 (b.place 0).2).el x=b.a.el x:=λs=>by have RA:=TJ (kd:=5) (s:=s) ok (show(0:Int)≠b.a.len+1 by unfold Ar.len;omega) (ok.BM _ hp) (.inl rfl);rw[Zy RA (Em.2 (.inl hx)) (by rw[Kb,Af rfl];show(5:Int)≠4;decide),vX ok hx]
 unfold BS.Kx BS.QK;simp only
 split
 .split
  .split;.unfold Ar.Rr;exact vY ok hx rfl rfl rfl rfl
   .exact M4 _
  .exact M4 _
 .rfl
def vZ(o:Ey b)(hx:b.a.has x){s:Ah}{h:Int}:(b.DB s h).a.el x=b.a.el x:=by
 have ok:=o.ok;have key:∀p bf,(BS.HR b.a s p bf).el x=b.a.el x:=λp bf=>by
  unfold BS.HR;split
  .rename_i hk;have hp:b.a.has p:=by refine ń λh=>?_;rw[OH h] at hk;unfold NR at hk;simp at hk
   have RA:=TJ (kd:=6) (s:=s) ok (show(0:Int)≠b.a.len+1 by unfold Ar.len;omega) (ok.BM _ hp) (.inr rfl);rw[Zy RA (Em.2 (.inl hx)) (by rw[Kb,Af rfl];show(6:Int)≠4;decide),vX ok hx]
  .rfl
 unfold BS.DB;simp only
 split;.exact key _ _
 .exact key _ _
def Zz(o:Ey b)(hx:b.a.has x){h:Int}:(b.FD l h).a.el x=b.a.el x:=by
 unfold BS.FD;split;.exact vY o.ok hx rfl rfl rfl rfl
 .rfl
def kh(o:Ey b)(hx:b.a.has x):b.PL.a.el x=b.a.el x:=by unfold BS.PL;exact vY o.ok hx rfl rfl rfl rfl
def ĥ(o:Ey b)(hx:b.a.has x){t:DF}:(b.Nn t).a.el x=b.a.el x:=by
 have hd:=o.BM;have c:qK {kind:=3,BM:=b.BM,name:=t.name,KB:=t.KB,sys:=t.sys}:=by constructor<;>simp[Dt,GB,cQ]
 have RA:=Pv o.ok c (.inr ⟨AB,hd⟩) rfl rfl rfl rfl (λh=>absurd h.1 (AA:¬(3:Int)=4));unfold BS.Nn;simp only
 rw[Zx RA (Em.2 (.inl hx)) (by rw[Kb,Af rfl];show(3:Int)≠4;decide),vX o.ok hx]
def U9(o:Ey b)(hx:b.a.has x)(hp:(b.place 0).1≠x):(b.Cu nm l sp).a.el x=b.a.el x:=by
 unfold BS.Cu;split
 .rename_i hs;simp only
  obtain⟨f,fr,l1⟩:=P5 (nm:=nm) (at_:=l) (p:=(b.place 0).1) o hs;have c:(b.Gm nm l sp (b.place 0).1).a.el x=b.a.el x:=by unfold BS.Gm;rw[Af hs];exact kP o.ok hx
  rw[kN f.ok (l1.has _ hx) hp,c];rw[c];intro h;exact Pu (A:=b.a) ((o.ok.N7 x hx _ (kM h).1).1)
 .rfl
def Va(o:Ey b)(hp:b.place 0=(x,0))(hx:b.a.has x)(hk:(b.a.nd x).kind=4\/((b.a.nd x).kind=1/\b.a.el x=[])):(b.Cu nm l 1).a.el x=b.a.el x++[b.a.len+1]/\(b.Cu nm l 1).a.el (b.a.len+1)=[]:=by
 obtain⟨r,fr,l1⟩:=P5 (nm:=nm) (at_:=l) (p:=x) o Kw;have ea:(b.Gm nm l 1 x).a=b.a.elem (b.KL x) 1 (BS.MM 1 nm) (l.map (D2 1)):=by unfold BS.Gm;rw[Af Kw]
 have hn:=QL (A:=b.a) (d:=b.KL x) (sp:=1) (nm:=BS.MM 1 nm) (l:=l.map (D2 1));have hold:∀{k},b.a.has k->((b.Gm nm l 1 x).a).has k/\((b.Gm nm l 1 x).a).nd k=b.a.nd k:=λhk=>by rw[ea];exact TI hk
 have D:(b.Gm nm l 1 x).a.el x=b.a.el x:=by rw[ea];exact kP o.ok hx
 have w:(b.Cu nm l 1).a=(b.Gm nm l 1 x).a.E1 (b.a.len+1) x 0:=by unfold BS.Cu;rw[Af Kw,hp]
 rw[<-ea] at hn;have RA:=r.ok;generalize(b.Gm nm l 1 x).a=B at*;obtain⟨g,c,F,E,t,s,_⟩:=hn;have hne:x≠b.a.len+1:=Sx hx;have reach:∀{m},Reach B (b.a.len+1) m->¬b.a.has m:=by
  intro m hm;induction hm with
  |refl=>exact Pu
  |@step q h1 _ ih=>
   intro hq;have e:B.up q=b.a.up q:=by unfold Ar.up;rw[(hold hq).2]
   rw[e] at h1 ih;exact ih (gK o.ok hq h1)
 have f:zo B x (b.a.len+1) 0:=⟨(hold hx).1,g,λh=>absurd rfl h,by rw[(hold hx).2];unfold NR;omega,by rw[c];decide,λh=>reach h hx⟩;have v:B.cut (b.a.len+1)=B:=by unfold Ar.cut;simp only;rw[Af s]
 have hb:B.E1 (b.a.len+1) x 0=B.Mm x (b.a.len+1) 0:=by
  unfold Ar.E1;rw[Ac];.unfold Ar.GC;rw[Af f,v]
  .rintro⟨h1,h2,k,h3,j⟩;rw[(hold hx).2] at h1 h3;rcases hk with hk|⟨_,hk⟩
   .omega
   .have u:=o.ok.N7 x hx k h3;rw[(hold u.1).2] at j;have:k∈b.a.el x:=BD.2 ⟨h3,Ak j⟩;rw[hk] at this;cases this
 rw[w,hb];have i:∀k,(B.Mm x (b.a.len+1) 0).nd k=if k=b.a.len+1 then{B.nd (b.a.len+1) with GR:=x} else if k=x then{B.nd x with Bm:=JC (B.nd x).Bm 0 (b.a.len+1)} else B.nd k:=λk=>YD f.hp f.hn (CZ hne)
 have hl:Le B (B.Mm x (b.a.len+1) 0):=zt;constructor
 .rw[<-D];unfold Ar.el;rw[i x,Ac hne,Af rfl];simp only
  have C:JC (B.nd x).Bm 0 (b.a.len+1)=(B.nd x).Bm++[b.a.len+1]:=by unfold JC;rw[Af rfl]
  rw[C,Bc];have z:[b.a.len+1].filter (λk=>decide (((B.Mm x (b.a.len+1) 0).nd k).kind=4))=[b.a.len+1]:=by rw[Du (by rw[hl.kind _ g,c];rfl)];rfl
  rw[z];congr 1
  refine Nv λk h=>?_;rw[hl.kind _ (RA.N7 x (hold hx).1 k h).1]
 .unfold Ar.el;rw[i,Af rfl];simp only
  rw[t];rfl
end
def Eh(H:Int)(b c:BS):Prop:=c.BM=b.BM/\c.a.el b.BM=b.a.el b.BM/\c.a.el H=b.a.el H
structure Dk(H:Int)(L:List Int)(b:BS):Prop where
 d:b.a.el b.BM=[H]
 h:b.a.el H=L
 has:b.a.has H
 kind:(b.a.nd H).kind=4
def J5(H:Int)(L:List Int)(y:Int):Prop:=y≠H/\y∉L
section
variable{P l:List Item}{q H y:Int}{L:List Int}{T:List Int}{m k j n:Nat}{b c d:BS}{nm x:Ah}{at_:List Be}{t:DF}{sp h:Int}{i:Item}
def Dk.go(o:Dk H L b)(h:Eh H b c)(hl:Le b.a c.a):Dk H L c:=⟨by rw[h.1,h.2.1];exact o.d,h.2.2.trans o.h,hl.has _ o.has,by rw[hl.kind _ o.has];exact o.kind⟩
def Dk.aQe(o:Dk H L b)(ok:Ey b):∀y∈L,b.a.has y:=λy hy=>by rw[<-o.h] at hy;exact(ok.ok.N7 H o.has y (kM hy).1).1
def Dk.new(o:Dk H L b)(ok:Ey b)(hy:¬b.a.has y):J5 H L y:=⟨λe=>hy (e▸o.has),λh=>hy (o.aQe ok y h)⟩
def kR(o:Dk H L b)(ok:Ey b){A:Ar}(e:EA A 0)(g:Le b.a A)(hd:A.el b.BM=[H])(f:A.el H=L){p n bf:Int}(hp:p≠b.BM/\p≠H)(hn:J5 H L n):(A.GC p n bf).el b.BM=[H]/\(A.GC p n bf).el H=L:=
 ⟨by rw[Xf e (g.has _ ok.BM.1) hp.1 (by rw[hd];simpa using hn.1)];exact hd,by rw[Xf e (g.has _ o.has) hp.2 (by rw[f];exact hn.2)];exact f⟩
def ZA(ok:Ey b)(hf:b.Ec=false)(hn:b.Au≠[]){t v:Int}(hv:b.a.has v/\(b.a.nd v).kind=4)(f:v≠H)(g:(b.a.nd H).kind=4)(e:(t=0/\v=(D1 b.Au).node)\/(t≠0/\t=v)):(b.place t).1≠b.BM/\(b.place t).1≠H:=by
 have hd:=ok.BM;have key:(if t=0 then(D1 b.Au).node else t)=v:=by
  rcases e with⟨h1,h2⟩|⟨h1,h2⟩
  .rw[Af h1,h2]
  .rw[Ac h1,h2]
 unfold BS.place;simp only
 rw[Ac (λh=>hn h.2),key,hf];simp only[Cb,wF,DP];split
 .rename_i hc;have h1:=ok.ok.cont v hv.1 hc;refine⟨λe=>?_,λe=>?_⟩;.simp only at e;rw[e,hd.2] at h1;exact absurd h1.2.1 AA
  .simp only at e;rw[e,g] at h1;exact absurd h1.2.1 AA
 .refine⟨λe=>?_,λe=>f e⟩;simp only at e;rw[e,hd.2] at hv;exact absurd hv.2 AA
def ki{p:Int}(ok:Ey b){z:Int}(hz:b.a.has z):(b.Gm nm at_ 1 p).a.el z=b.a.el z:=by unfold BS.Gm;rw[Af Kw];exact kP ok.ok hz
def Ħ(o:Dk H L b)(ok:Ey b){blk anc:Int}{far i:Nat}{l:Int}{mm:Nat}(hl:b.a.has l)(hf:J5 H L l):Dk H L (BS.Gi blk anc far i b l mm).1/\J5 H L (BS.Gi blk anc far i b l mm).2.1/\(BS.Gi blk anc far i b l mm).1.BM=b.BM:=by
 obtain⟨_,_,le⟩:=OK (blk:=blk) (anc:=anc) (far:=far) (i:=i) (l:=l) (m:=mm) ok hl;unfold BS.Gi at le⊢;simp only at le⊢;split;.exact⟨⟨o.d,o.h,o.has,o.kind⟩,hf,rfl⟩
 .split;.exact⟨⟨o.d,o.h,o.has,o.kind⟩,hf,rfl⟩
  .rename_i h1 h2;rw[Ac h1,Ac h2] at le;generalize b.A4.getD (FL (b.Au.getD i Item.zero).node b.A4).toNat Ck.zero=en at*;obtain⟨s,fr,l1⟩:=P5 (nm:=en.name) (at_:=en.As) (p:=anc) ok Kw;have g:=ki (nm:=en.name) (at_:=en.As) (p:=anc) ok ok.BM.1;have f:=ki (nm:=en.name) (at_:=en.As) (p:=anc) ok o.has;rw[o.d] at g;rw[o.h] at f;have oS:(b.Gm en.name en.As 1 anc).BM=b.BM:=by have:=Xa (b:=b) (nm:=en.name) (at_:=en.As) (p:=anc);exact(DO.1 this).2.2.2.2.2.2.2
   have hn:J5 H L (b.HQ en.name en.As 1).node:=o.new ok fr.new;have r:=kR o ok s.ok l1 g f (p:=(b.HQ en.name en.As 1).node) (n:=l) (bf:=0) ⟨λe=>fr.new (e▸ok.BM.1),hn.1⟩ hf;refine⟨⟨?_,r.2,le.has _ o.has,?_⟩,hn,oS⟩;.simp only;rw[oS];exact r.1
   .simp only
    rw[Hi.kind _ (l1.has _ o.has),l1.kind _ o.has];exact o.kind
def kj{blk anc:Int}{far k:Nat}:∀{c:Nat} {s:BS×Int×Nat},Dk H L s.1->Ey s.1->s.1.a.has s.2.1->J5 H L s.2.1->Dk H L (BS.Nf blk anc far k c s).1/\J5 H L (BS.Nf blk anc far k c s).2.1/\(BS.Nf blk anc far k c s).1.BM=s.1.BM
 |0,s,o,_,_,hf=>⟨o,hf,rfl⟩
 |c+1,s,o,ok,hl,hf=>by obtain⟨f,f1,p⟩:=Ħ o ok (blk:=blk) (anc:=anc) (far:=far) (i:=k+(c+1)) (mm:=s.2.2) hl hf;obtain⟨RA,h1,_⟩:=OK (blk:=blk) (anc:=anc) (far:=far) (i:=k+(c+1)) (l:=s.2.1) (m:=s.2.2) ok hl;obtain⟨e,f2,g⟩:=kj (blk:=blk) (anc:=anc) (far:=far) (k:=k) (c:=c) (s:=BS.Gi blk anc far (k+(c+1)) s.1 s.2.1 s.2.2) f RA h1 f1;exact⟨e,f2,g.trans p⟩
def kq(o:Dk H L b)(ok:Ey b){n:Int}(hp:n≠b.BM/\n≠H):∀{ks:List Int} {A:Ar},EA A 0->Le b.a A->A.el b.BM=[H]->A.el H=L->(∀y∈ks,J5 H L y)->(BS.Dz A n ks).el b.BM=[H]/\(BS.Dz A n ks).el H=L
 |[],A,_,_,hd,g,_=>⟨hd,g⟩
 |y::ks,A,f,r,hd,g,hf=>by have e:=kR o ok f r hd g (p:=n) (n:=y) (bf:=0) hp (hf y AB);exact kq o ok hp (A:=A.GC n y 0) (NT f) (r.trans Hi) e.1 e.2 λz hz=>hf z (by simp[hz])
def tj{fe:Ck}{blk anc:Int}{s:BS×Int×Nat}(o:Dk H L s.1)(ok:Ey s.1)(G:s.1.Ec=false)(hn:s.1.Au≠[])(hl:J5 H L s.2.1)(hb:s.1.a.has blk/\(s.1.a.nd blk).kind=4)(B:blk≠H)(ha:s.1.a.has anc/\(s.1.a.nd anc).kind=4)(I:anc≠H):Dk H L (BS.IG fe blk anc s)/\(BS.IG fe blk anc s).BM=s.1.BM:=by
 obtain⟨_,le⟩:=UP (fe:=fe) (blk:=blk) (anc:=anc) (s:=s) ok;have eQ:=ZA (H:=H) (t:=anc) (v:=anc) ok G hn ha I o.kind (.inr ⟨λe=>by have:=ha.1.1;omega,rfl⟩);unfold BS.IG at le⊢;simp only at le⊢;generalize s.1.place anc=pb at*;have l1:Le s.1.a (s.1.a.E1 s.2.1 pb.1 pb.2):=Jr;have RA:=Pz (n:=s.2.1) (p:=pb.1) (b:=pb.2) ok.ok;have ĺ:(s.1.a.E1 s.2.1 pb.1 pb.2).el s.1.BM=[H]:=by rw[kN ok.ok ok.BM.1 eQ.1 (by rw[o.d];simpa using hl.1)];exact o.d
 have Ķ:(s.1.a.E1 s.2.1 pb.1 pb.2).el H=L:=by rw[kN ok.ok o.has eQ.2 (by rw[o.h];exact hl.2)];exact o.h
 have D:=ok.IP RA l1;obtain⟨b2,Qb⟩:∃b2:BS,b2={s.1 with a:=s.1.a.E1 s.2.1 pb.1 pb.2}:=⟨_,rfl⟩;rw[<-Qb] at D le⊢;have a2:b2.a=s.1.a.E1 s.2.1 pb.1 pb.2:=by rw[Qb]
 have O:b2.BM=s.1.BM:=by rw[Qb]
 rw[<-a2] at ĺ Ķ l1;clear Qb a2;obtain⟨J,fr,l3⟩:=P5 (nm:=fe.name) (at_:=fe.As) (p:=blk) D Kw;have w:=ki (nm:=fe.name) (at_:=fe.As) (p:=blk) D (l1.has _ ok.BM.1);have u:=ki (nm:=fe.name) (at_:=fe.As) (p:=blk) D (l1.has _ o.has);rw[ĺ] at w;rw[Ķ] at u;have N:(b2.Gm fe.name fe.As 1 blk).BM=b2.BM:=(DO.1 (Xa (b:=b2) (nm:=fe.name) (at_:=fe.As) (p:=blk))).2.2.2.2.2.2.2;have r:=J.ok;have aRJ:=J.BM;generalize b2.HQ fe.name fe.As 1=n at*;generalize b2.Gm fe.name fe.As 1 blk=b3 at*;have g:=l1.trans l3;have wX:¬s.1.a.has n.node:=λh=>fr.new (l1.has _ h);have A:J5 H L n.node:=o.new ok wX;have rF:n.node≠s.1.BM:=λe=>wX (e▸ok.BM.1);have C:blk≠s.1.BM:=λe=>by have:=ok.BM.2;rw[<-e,hb.2] at this;exact absurd this AA
 have xm:∀y∈(b3.a.nd blk).Bm,J5 H L y:=λy hy=>by
  have h1:=r.N7 blk (g.has _ hb.1) y hy;have f:∀z,b3.a.has z->y∈b3.a.el z->z=blk:=λz hz F=>(r.N7 z hz y (kM F).1).2.symm.trans h1.2;refine⟨λe=>?_,λM=>?_⟩
  .have:y∈b3.a.el s.1.BM:=by rw[w,e];simp
   exact C (f _ (g.has _ ok.BM.1) this).symm
  .have:y∈b3.a.el H:=by rw[u];exact M
   exact B (f _ (g.has _ o.has) this).symm
 have K:=kq o ok (n:=n.node) ⟨rF,A.1⟩ (ks:=(b3.a.nd blk).Bm) r g w u xm;obtain⟨E,l4⟩:=Kq (n:=n.node) (l:=(b3.a.nd blk).Bm) r;have Jz:=kR o ok E (g.trans l4) K.1 K.2 (p:=blk) (n:=n.node) (bf:=0) ⟨C,B⟩ A;have Wf:b3.BM=s.1.BM:=N.trans O;refine⟨⟨?_,Jz.2,le.has _ o.has,?_⟩,Wf⟩;.simp only;rw[Wf];exact Jz.1
 .rw[le.kind _ o.has];exact o.kind
def ZB:(b.CV nm).a=b.a/\(b.CV nm).BM=b.BM:=by
 unfold BS.CV;split;.split<;>exact⟨rfl,rfl⟩
 .exact⟨rfl,rfl⟩
def Dk.lN(o:Dk H L b)(h1:c.a=b.a)(h2:c.BM=b.BM):Dk H L c:=⟨by rw[h1,h2];exact o.d,by rw[h1];exact o.h,by rw[h1];exact o.has,by rw[h1];exact o.kind⟩
def ħ(o:Dk H L b)(ok:Ey b)(f:U5 b.a b.A4)(z:b.Ec=false)(hnm:nm∈B1)(hl:m<=b.Au.length)(hm:2<=m)(hp:∀i∈b.Au.take m,AO i=true)(N:∃h r,b.Au=h::r/\h.node=H)(XC:∀i∈b.Au.drop m,AO i=true->J5 H L i.node):Dk H L (b.round nm).2/\(b.round nm).2.BM=b.BM:=by
 obtain⟨M,hr,Q,R⟩:=N;unfold BS.round;simp only
 split;.exact⟨o.lN ZB.1 ZB.2,ZB.2⟩
 .rename_i h1;obtain⟨J,I,hname⟩:=SJ h1;generalize b.A4.getD (DS nm b.A4).toNat Ck.zero=fe at*;split;.exact⟨⟨o.d,o.h,o.has,o.kind⟩,rfl⟩
  .split;.exact⟨o,rfl⟩
   .rename_i h2 h3;split;.exact⟨⟨o.d,o.h,o.has,o.kind⟩,rfl⟩
    .rename_i D;have E:=f fe J;have xD:∀i∈b.Au,i.node=fe.node->AO i=false:=λi hi e=>by
      have v:=ok.op i hi;rcases E with u|u
      .exact absurd u I
      .rw[e] at v;exact Hk (by rw[<-v.2.2.1,u.2.2]) (by rw[<-v.2.2.2,u.2.1];exact u.1)
     rcases BY (q:=Bt fe.node) (l:=b.Au) with⟨v,_⟩|⟨k,hk,v,u,_⟩
     .omega
     have rY:(AD (Bt fe.node) b.Au).toNat=k:=by rw[v];omega
     have K:m<=k:=by
      rcases Bl k m with h|h
      .have D:=hp b.Au[k] (CS.2 ⟨k,Ab,rfl⟩);rw[xD _ (AF hk) (CD u)] at D;cases D
      .exact h
     have r_:=R6 (x:=fe.node) (l:=b.Au) Ab;rw[rY] at r_;rcases r_ with⟨F,_⟩|⟨j,hj,F,V,O,YV⟩
     .omega
     have A:(Eb fe.node b.Au).toNat=j:=by rw[F];omega
     rw[rY,A];have C:b.Au.getD j Item.zero=b.Au[j]:=by rw[AJ,Av hj];rfl
     have qX:k-1<b.Au.length:=Ab;have B:b.Au.getD (k-1) Item.zero=b.Au[k-1]:=by rw[AJ,Av qX];rfl
     rw[C,B];have aCK:J5 H L b.Au[j].node:=XC b.Au[j] (by
      have e:b.Au[j]=(b.Au.drop m)[j-m]'(by rw[AX];omega):=by rw[GP];congr 1;omega
      rw[e];exact AF _) O
     have g:=ok.op _ (AF hj);have JA:=ok.op _ (AF qX);have h0:b.Au[0]'(by omega)=M:=by simp[Q]
     have p:b.Au[k-1].node≠H:=λe=>by
      have RI:(b.Au.map Item.node)[k-1]'(by rw[Aw];omega)=(b.Au.map Item.node)[0]'(by rw[Aw];omega):=by simp only[Ei];rw[e,h0,R]
      have:=(Oe ok.lH).1 RI;omega
     have a1:=jT (blk:=b.Au[j].node) (anc:=b.Au[k-1].node) (far:=j) (k:=k) (c:=j-1 -k) (s:=(b,b.Au[j].node,(DS nm b.A4).toNat)) ok f g.1 (λq hq RI Ŀ=>YV q hq RI Ab);obtain⟨U,S,G⟩:=kj (blk:=b.Au[j].node) (anc:=b.Au[k-1].node) (far:=j) (k:=k) (c:=j-1 -k) (s:=(b,b.Au[j].node,(DS nm b.A4).toNat)) o ok g.1 aCK;generalize Tf:b.Au[j].node=blk at*;generalize b.Au[k-1].node=anc at*;generalize BS.Nf blk anc j k (j-1 -k) (b,blk,(DS nm b.A4).toNat)=s at*;simp only at a1 G;have w:s.1.Au≠[]:=λe=>by have:=a1.fm.len Ab;rw[e,AW] at this;omega
     have r:=tj (fe:=fe) (blk:=blk) (anc:=anc) (s:=s) U a1.ok (by rw[(DO.1 a1.rest).2.2.2.2.2.1];exact z) w S ⟨a1.le.has _ g.1,by rw[a1.le.kind _ g.1];exact g.2.1⟩ aCK.1 ⟨a1.le.has _ JA.1,by rw[a1.le.kind _ JA.1];exact JA.2.1⟩ p;exact⟨r.1,r.2.trans G⟩
def dX(hnm:nm∈B1)(hm:2<=m):∀{n:Nat} {b:BS},Dk H L b->Ey b->U5 b.a b.A4->b.Ec=false->m<=b.Au.length->(∀i∈b.Au.take m,AO i=true)->(∃h r,b.Au=h::r/\h.node=H)->(∀i∈b.Au.filter AO,i∈b.Au.take m\/J5 H L i.node)->((b.Au.filter AO).map Item.node).Nodup->Dk H L (BS.Gd n b nm)/\(BS.Gd n b nm).BM=b.BM
 |0,b,o,_,_,_,_,_,_,_,_=>⟨o,rfl⟩
 |n+1,b,o,ok,f,g,hl,hp,u,XC,rF=>by
  have p:∀i∈b.Au.drop m,AO i=true->J5 H L i.node:=λi hi hs=>by
   rcases XC i (BD.2 ⟨AY hi,hs⟩) with h|h
   .exfalso;have e:=ok.lH;rw[<-Br m b.Au,Cg,BW] at e;exact e.2.2 _ (A7.2 ⟨i,h,rfl⟩) _ (A7.2 ⟨i,hi,rfl⟩) rfl
   .exact h
  have a1:=pB ok f hnm hl hp;obtain⟨s,v⟩:=ħ o ok f g hnm hl hm hp u p;unfold BS.Gd;simp only
  split
  .have r:=dX hnm hm (n:=n) s a1.ok a1.ac (by rw[(DO.1 a1.rest).2.2.2.2.2.1];exact g) (a1.fm.len hl) (by rw[a1.fm.JR];exact hp) (by
    obtain⟨h,rr,z,w⟩:=u;have h3:=a1.fm.JR;rw[z] at h3;cases ho:(b.round nm).2.Au with
    |nil=>rw[ho] at h3;cases m with
     |zero=>omega
     |succ m=>simp at h3
    |cons x xs=>
     rw[ho] at h3;cases m with
     |zero=>omega
     |succ m=>simp only[LD,Cs] at h3;exact⟨x,xs,rfl,by rw[h3.1];exact w⟩) (by rw[a1.fm.sp,a1.fm.JR];exact XC) (by rw[a1.fm.sp];exact rF)
   exact⟨r.1,r.2.trans v⟩
  .exact⟨s,v⟩
def tk(o:Dk H L b)(ok:Ey b)(f:U5 b.a b.A4)(e:b.Ec=false)(hnm:nm∈B1)(hl:m<=b.Au.length)(hm:2<=m)(hp:∀i∈b.Au.take m,AO i=true)(g:∃h r,b.Au=h::r/\h.node=H)(XC:∀i∈b.Au.filter AO,i∈b.Au.take m\/J5 H L i.node):Dk H L (b.C1 nm)/\(b.C1 nm).BM=b.BM:=by
 unfold BS.C1;split
 .have h1:b.FY.a=b.a/\b.FY.BM=b.BM:=by unfold BS.FY;split<;>exact⟨rfl,rfl⟩
  exact⟨o.lN h1.1 h1.2,h1.2⟩
 .exact dX hnm hm o ok f e hl hp g XC (ok.lH.sublist (List.filter_sublist.map _))
end
def aQ(P:List Item):Int:=(P.headD Item.zero).node
def FC:List Item->List Int
 |o::_=>if AG [Io] o=true then[o.node] else[]
 |[]=>[]
structure Dq(P:List Item)(q:Int)(T:List Int)(b:BS):Prop where
 d:Dp P q T b
 k:Dk (aQ P) (b.head::FC P.tail) b
section
variable{P l:List Item}{q H y:Int}{L:List Int}{T:List Int}{m k j n:Nat}{b c d:BS}{nm x:Ah}{at_:List Be}{t:DF}{sp h:Int}{i:Item}
def Pf.fst(p:Pf P):∃h o r,P=h::o::r/\aQ P=h.node/\FC P.tail=if AG [Io] o=true then[o.node] else[]:=by
 cases p with
 |body h o a b=>exact⟨h,o,[],rfl,rfl,rfl⟩
 |Of h o a b=>exact⟨h,o,[],rfl,rfl,rfl⟩
 |head h d t a b c=>exact⟨h,d,[t],rfl,rfl,rfl⟩
def Dp.pW(o:Dp P q T b):∃h x r u,P=h::x::r/\b.Au=h::x::(r++u)/\aQ P=h.node/\FC P.tail=if AG [Io] x=true then[x.node] else[]:=by obtain⟨h,x,r,a,f,e⟩:=o.d.pf.fst;refine⟨h,x,r,b.Au.drop P.length,a,?_,f,e⟩;have:=o.d.split;rw[a] at this⊢;exact this
def Dp.aKT(o:Dp P q T b):∀i∈b.Au.filter AO,i∈b.Au.take P.length\/J5 (aQ P) (b.head::FC P.tail) i.node:=by
 obtain⟨h,x,r,u,g,v,s,p⟩:=o.pW;intro i hi;obtain⟨sC,bR⟩:=BD.1 hi;rw[o.d.JR];have hsp:=o.d.split;rw[hsp] at sC;rcases An.1 sC with h1|h1
 .exact .inl h1
 .right;have JA:=o.d.v' i h1 bR;have NH:=o.cm.ok.op i (by rw[hsp];exact BI _ h1);have rF:=o.cm.ok.lH;rw[hsp,Cg,BW] at rF;have a:∀z∈P,i.node≠z.node:=λz hz e=>rF.2.2 _ (A7.2 ⟨z,hz,rfl⟩) _ (A7.2 ⟨i,h1,rfl⟩) e.symm;refine⟨by rw[s];exact a h (by rw[g];simp),λhm=>?_⟩;rcases AE.1 hm with h2|h2
  .have h3:=o.hd.name;rw[<-h2,NH.2.2.2] at h3;have f:=o.hd.A9;rw[<-h2,NH.2.2.1] at f;exact JA f (by rw[h3];decide)
  .rw[p] at h2;split at h2;.simp at h2;exact a x (by rw[g];simp) h2
   .cases h2
def Dq.P7(o:Dq P q T b)(d:Dp P q T c)(ha:c.a=b.a)(hd:c.BM=b.BM)(e:c.head=b.head):Dq P q T c:=⟨d,by rw[e];exact o.k.lN ha hd⟩
def Dq.any(o:Dq P q T b)(d:Dp P q T c)(e:Eh (aQ P) b c)(hl:Le b.a c.a)(f:c.head=b.head):Dq P q T c:=⟨d,by rw[f];exact o.k.go e hl⟩
def Dq.kp(o:Dq P q T b)(d:Dp P q T c)(kk:Kp b c)(h1:c.a.el b.BM=b.a.el b.BM)(h2:c.a.el (aQ P)=b.a.el (aQ P)):Dq P q T c:=by have r:=DO.1 kk.rest;exact o.any d ⟨r.2.2.2.2.2.2.2,h1,h2⟩ kk.le r.2.2.1
def Dq.place(o:Dq P q T b):(b.place 0).1≠b.BM/\(b.place 0).1≠aQ P:=by
 obtain⟨h,x,r,u,p,a,f,g⟩:=o.d.pW;have hne:b.Au≠[]:=by rw[a];simp
 have NH:=o.d.cm.ok.op _ (UN hne);refine ZA o.d.cm.ok o.d.cm.fo hne (v:=(D1 b.Au).node) ⟨NH.1,NH.2.1⟩ ?_ o.k.kind (.inl ⟨rfl,rfl⟩);intro e;have hlen:2<=b.Au.length:=by rw[a];simp
 have ht:D1 b.Au=b.Au[b.Au.length-1]'(by omega):=by have:=J9 (l:=b.Au) (n:=b.Au.length-1) Ab;rwa [(Ab:b.Au.length-1+1=b.Au.length),Bk] at this
 have h0:b.Au[0]'(by omega)=h:=by simp[a]
 have RI:(b.Au.map Item.node)[b.Au.length-1]'(by rw[Aw];omega)=(b.Au.map Item.node)[0]'(by rw[Aw];omega):=by simp only[Ei];rw[<-ht,h0,e,f]
 have:=(Oe o.d.cm.ok.lH).1 RI;omega
def Dq.tl(o:Dq P q T b):Dk (aQ P) (b.head::FC P.tail) (b.Cu nm at_ sp):=by have kk:=GG (nm:=nm) (l:=at_) (sp:=sp) o.d.cm;have r:=DO.1 kk.rest;exact o.k.go ⟨r.2.2.2.2.2.2.2,U9 o.d.cm.ok o.d.cm.ok.BM.1 o.place.1,U9 o.d.cm.ok o.k.has o.place.2⟩ kk.le
def Dq.aBr(o:Dq P q T b)(d:Dp P q T (b.Cu nm at_ sp)):Dq P q T (b.Cu nm at_ sp):=by have r:=DO.1 (GG (nm:=nm) (l:=at_) (sp:=sp) o.d.cm).rest;exact⟨d,by rw[r.2.2.1];exact o.tl⟩
def Dq.CU(o:Dq P q T b)(h:Q5 t.name)(hp:t.name≠wP):Dq P q T (b.CU t):=o.aBr (o.d.CU h hp)
def ZC:b.B4.a=b.a/\b.B4.BM=b.BM/\b.B4.head=b.head:=by unfold BS.B4;split<;>exact⟨rfl,rfl,rfl⟩
def NY:b.FY.a=b.a/\b.FY.BM=b.BM/\b.FY.head=b.head:=by unfold BS.FY;split<;>exact⟨rfl,rfl,rfl⟩
def Dq.B4(o:Dq P q T b):Dq P q T b.B4:=o.P7 o.d.B4.1 ZC.1 ZC.2.1 ZC.2.2
def Dq.LC(o:Dq P q T b)(h:Q5 t.name):Dq P q T (b.block t):=Dq.aBr (nm:=t.name) (at_:=t.As) (sp:=1) o.B4 (o.d.LC h)
def Dq.dM(o:Dq P q T b){ws:List Ah}(hw:∀w∈ws,w∉HT)(h:AG ws (D1 b.Au)=true):Dq P q T b.FY:=o.P7 (o.d.dM hw h) NY.1 NY.2.1 NY.2.2
def Dq.Kx(o:Dq P q T b){r:Int}:Dq P q T (b.Kx r):=o.kp o.d.Kx (PQ o.d.cm) (kQ o.d.cm.ok o.d.cm.ok.BM.1) (kQ o.d.cm.ok o.k.has)
def Dq.FD(o:Dq P q T b):Dq P q T (b.FD at_ h):=o.kp o.d.FD (Ze o.d.cm) (Zz o.d.cm.ok o.d.cm.ok.BM.1) (Zz o.d.cm.ok o.k.has)
def Dq.set(o:Dq P q T b)(c:BS)(h1:c.a=b.a:=by rfl)(h3:c.Au=b.Au:=by rfl)(e:c.A4=b.A4:=by rfl)(h2:c.rs=b.rs:=by rfl):Dq P q T c:=by have r:=DO.1 h2;exact o.P7 (o.d.eq h1 h3 e h2) h1 r.2.2.2.2.2.2.2 r.2.2.1
def Dq.eD(o:Dq P q T b):Dq P q T (b.Cu nm at_ 1).FY:=by have r:=DO.1 (GG (nm:=nm) (l:=at_) (sp:=1) o.d.cm).rest;refine⟨o.d.eD,?_⟩;rw[NY.2.2,r.2.2.1];exact(o.tl (nm:=nm) (at_:=at_) (sp:=1)).lN NY.1 NY.2.1
def Dq.GF(o:Dq P q T b):Dq P q T (b.GF t):=o.eD
def Dq.Er(o:Dq P q T b)(hn:nm∈B1):Dq P q T (b.Er nm at_):=by have r:=DO.1 (GG (nm:=nm) (l:=at_) (sp:=1) o.d.cm).rest;refine⟨o.d.Er hn,?_⟩;have:(b.Er nm at_).head=b.head:=r.2.2.1;rw[this];exact(o.tl (nm:=nm) (at_:=at_) (sp:=1)).lN (c:=b.Er nm at_) rfl rfl
def ku:∀{es:List Ck} {b:BS},Dq P q T b->(∀e∈es,e.name∈B1)->Dk (aQ P) (b.head::FC P.tail) (BS.JG es b).2
 |[],b,o,_=>o.k
 |e::es,b,o,hf=>by have f:Dp P q T (b.Cu e.name e.As 1):=o.d.go (GG o.d.cm) (o.d.d.fm (jV (hf e AB) o.d.d.len));have a:=o.aBr f;have r:=DO.1 (GG (nm:=e.name) (l:=e.As) (sp:=1) o.d.cm).rest;have:=ku (es:=es) a λx hx=>hf x (by simp[hx]);rw[r.2.2.1] at this;rw[BS.JG];exact this
def aR(o:Cm b):∀e∈b.A4.drop b.NA,e.name∈B1:=by
 intro e he;obtain⟨k,hk,a⟩:=LL he;rw[GP] at a;rw[AX] at hk;have h1:b.settled e=false:=by
  rcases BY (q:=b.settled) (l:=b.A4) with⟨h2,h3⟩|⟨n,hn,h2,_,f⟩
  .exact h3 e (AY he)
  .rw[<-a];refine f _ Ab ?_;unfold BS.NA;rw[h2];omega
 have h2:e.node≠0:=λh3=>by have:=VN (b:=b) (e:=e);rw[h1] at this;simp[h3] at this
 rcases o.ac e (AY he) with h3|h3
 .exact absurd h3 h2
 .exact h3.1
def Dq.AL(o:Dq P q T b):Dq P q T b.AL:=by have r:=DO.1 (Zf o.d.cm o.d.d.len).rest;refine⟨o.d.AL,?_⟩;rw[r.2.2.1];exact(ku o (aR o.d.cm)).lN (c:=b.AL) rfl rfl
def Dq.C1(o:Dq P q T b)(hn:nm∈B1):Dq P q T (b.C1 nm):=by have a:=U7 (m:=P.length) (nm:=nm) o.d.cm.ok o.d.cm.ac hn o.d.d.len o.d.d.ā;have r:=DO.1 a.rest;obtain⟨h,x,rr,u,p,f,e,g⟩:=o.d.pW;refine⟨o.d.C1 hn,?_⟩;rw[r.2.2.1];exact(tk o.k o.d.cm.ok o.d.cm.ac o.d.cm.fo hn o.d.d.len o.d.d.pf.len o.d.d.ā ⟨h,_,f,e.symm⟩ o.d.aKT).1
def Dq.Ks(o:Dq P q T b):Dq P q T (b.Ks t):=by
 unfold BS.Ks;split;.exact o
 .simp only
  split;.exact o.AL.Kx
  .exact(o.AL.Kx).set _
def Dq.Ia(o:Dq P q T b)(h:Q5 t.name)(hp:t.name≠wP):Dq P q T (b.Ia t):=by
 unfold BS.Ia;simp only
 split;.rename_i h1;exact Dq.CU (o.B4.dM (ws:=Dc) AA h1) h hp
 .exact Dq.CU o.B4 h hp
def Dq.MG(o:Dq P q T b)(h:t.name=aWU):Dq P q T (b.MG t):=by
 have d:=o.d.MG h;have hn:Q5 t.name:=⟨by rw[h];decide,by rw[h];decide⟩;unfold BS.MG at d⊢;by_cases e:b.GO≠0/\¬b.Of;.rw[Af e];exact o
 .rw[Ac e] at d⊢;simp only at d⊢;by_cases a:b.Of;.rw[Af a];exact o.LC hn
  .rw[Ac a] at d⊢;exact(o.LC hn).P7 d rfl rfl rfl
def kS{ws:List Ah}:(b.FN ws).a=b.a/\(b.FN ws).BM=b.BM/\(b.FN ws).head=b.head:=by
 unfold BS.FN;split;.split<;>exact⟨rfl,rfl,rfl⟩
 .exact⟨rfl,rfl,rfl⟩
def Dq.FN(o:Dq P q T b){ws:List Ah}(hw:∀w∈ws,w∉HT):Dq P q T (b.FN ws):=o.P7 (o.d.FN hw) kS.1 kS.2.1 kS.2.2
def Dq.SG(o:Dq P q T b)(h:Q5 t.name):Dq P q T (b.SG t):=by
 unfold BS.SG;refine Dq.LC ?_ h;have a:Dq P q T {b with fs:=false}:=o.set _;split;.exact a.FN AA
 .exact a.FN AA
def Dq.KQ(o:Dq P q T b)(h:t.name=aWx):Dq P q T (b.KQ t):=by
 unfold BS.KQ;simp only
 have a:Dq P q T (if b.has [aWx] then b.Ds aWx [] else b):=by
  split;.rename_i h1;exact o.P7 (o.d.Ds (sc:=1) (.inl rfl) AA (.inl AA) h1) rfl rfl rfl
  .exact o
 exact(Dq.CU a.AL ⟨by rw[h];decide,by rw[h];decide⟩ (by rw[h];decide)).set _
def Dq.uX(o:Dq P q T b)(h:t.name∈B1):Dq P q T (b.uX t):=o.AL.Er h
def Dq.No(o:Dq P q T b):Dq P q T b.No:=by
 have d:=o.d.No;unfold BS.No at d⊢;simp only at d⊢;by_cases a:DS [97] b.A4<0;.rw[Af a];exact o
 .rw[Ac a] at d⊢;exact(o.C1 (nm:=[97]) AA).P7 d rfl rfl rfl
def Dq.Wu(o:Dq P q T b)(h:t.name∈B1):Dq P q T (b.Wu t):=o.No.uX h
def Dq.T2(o:Dq P q T b)(h:t.name∈B1):Dq P q T (b.T2 t):=by
 unfold BS.T2;simp only
 split;.exact(o.AL.C1 AA).AL.Er h
 .exact o.AL.Er h
def Dq.BU(o:Dq P q T b)(h:Q5 t.name)(hp:t.name≠wP):Dq P q T (b.BU t):=(Dq.CU o.AL h hp).P7 (o.d.BU h hp) rfl rfl rfl
def Dq.empty(o:Dq P q T b):Dq P q T (b.empty t):=by
 unfold BS.empty;split;.exact(o.B4.GF).set _
 .split;.exact(o.GF).set _
  .split;.exact(o.AL.GF).set _
   .exact(o.AL.GF).set _
def Dq.KR(o:Dq P q T b)(h:Q5 t.name)(hp:t.name≠wP):Dq P q T (b.KR t):=by
 unfold BS.KR;split;.rename_i h1;exact Dq.CU ((o.dM (ws:=[aWH]) AA h1).AL) h hp
 .exact Dq.CU o.AL h hp
def Dq.SI(o:Dq P q T b)(h:Q5 t.name)(hp:t.name≠wP):Dq P q T (b.SI t):=by
 unfold BS.SI;split;.exact Dq.CU (o.P7 o.d.T3 rfl rfl rfl) h hp
 .exact Dq.CU o h hp
def Dq.HF(o:Dq P q T b):Dq P q T (b.HF t):=by
 have d:=o.d.HF (t:=t);have hsp:(if t.name=aXn then(3:Int) else 2)=2\/(if t.name=aXn then(3:Int) else 2)=3:=by split<;>simp
 unfold BS.HF at d⊢;simp only at d⊢;have a:=o.AL.aBr (o.d.AL.aKl (nm:=t.name) (l:=t.As) hsp);split;.rename_i hc;rw[Af hc] at d;exact a.P7 d NY.1 NY.2.1 NY.2.2
 .exact a
def Dq.Ja(o:Dq P q T b):Dq P q T (b.Ja t):=by
 unfold BS.Ja;split;.exact o
 .split;.exact o.FD
  .split;.exact Dq.FD (o.set _)
   .exact o
def ZD:(b.E4 t).a=b.a/\(b.E4 t).BM=b.BM/\(b.E4 t).head=b.head:=by unfold BS.E4;split<;>exact⟨rfl,rfl,rfl⟩
def tn:(b.Ju t).a=b.a/\(b.Ju t).BM=b.BM/\(b.Ju t).head=b.head:=by
 unfold BS.Ju;split;.exact ZD
 .split<;>exact⟨rfl,rfl,rfl⟩
def kT:b.FB.a=b.a/\b.FB.BM=b.BM/\b.FB.head=b.head:=by unfold BS.FB;split<;>exact⟨rfl,rfl,rfl⟩
def pX:(b.Gp t).a=b.a/\(b.Gp t).BM=b.BM/\(b.Gp t).head=b.head:=by unfold BS.Gp;split<;>exact⟨rfl,rfl,rfl⟩
def Ĩ:(b.CV nm).a=b.a/\(b.CV nm).BM=b.BM/\(b.CV nm).head=b.head:=by
 unfold BS.CV;split;.split<;>exact⟨rfl,rfl,rfl⟩
 .exact⟨rfl,rfl,rfl⟩
def Dq.HG(o:Dq P q T b)(h1:t.name∈Y9):Dq P q T (b.HG t):=by
 have d:=o.d.HG h1;unfold BS.HG at d⊢;dsimp only at d⊢;generalize b.NU _ _=s at d⊢;cases s with
 |true=>simp only[BN] at d⊢;exact o.P7 d rfl rfl rfl
 |false=>
  simp only[Cb,DP] at d⊢;by_cases h:t.name=[112];.rw[Af h] at d⊢;have r:=DO.1 (GG (nm:=[112]) (l:=[]) (sp:=1) o.d.cm).rest;refine⟨d,?_⟩;have:((b.CU (JV [112])).Ds t.name t.name).head=b.head:=r.2.2.1;rw[this];exact(o.tl (nm:=[112]) (at_:=[]) (sp:=1)).lN (c:=(b.CU (JV [112])).Ds t.name t.name) rfl rfl
  .rw[Ac h];exact o
end
def LV(b:BS):Prop:=((b.mode=1\/b.mode=2)->b.a.el b.BM=[])/\(b.mode=3->∃h,b.Au=[h]/\Dk h.node [] b)/\(4<=b.mode->∃h r,b.Au=h::r/\Dk h.node (b.head::FC r) b)
def NS(r:BS×Bool):Prop:=Es r.1.mode=false\/LV r.1
section
variable{P l:List Item}{q H y:Int}{L:List Int}{T:List Int}{m k j n:Nat}{b c d:BS}{nm x:Ah}{at_:List Be}{t:DF}{sp:Int}{i h:Item}{r:List Item}
def NS.ite{p:Prop}[Decidable p]{x y:BS×Bool}(h1:p->NS x)(h2:¬p->NS y):NS (if p then x else y):=by
 split;.rename_i h;exact h1 h
 .rename_i h;exact h2 h
def NS.BZ{v:Bool}(h:LV c):NS (c,v):= .inr h
def KW(hm:4<=c.mode)(e:c.Au=h::r)(k:Dk h.node (c.head::FC r) c):LV c:=⟨λh=>Ab,λh=>Ab,λ_=>⟨h,r,e,k⟩⟩
def dY(o:Dq P q T b)(hq:4<=q):LV b:=by obtain⟨h,x,r,u,g,f,e,a⟩:=o.d.pW;refine KW (by rw[o.d.md];exact hq) f ?_;have:=o.k;rw[e,a] at this;exact this
def ĩ(o:DK b)(s:LV b)(hm:b.mode=7\/b.mode=18):∃P,Dq P b.mode b.tm b:=by obtain⟨_,P,d⟩:=o.dp hm;obtain⟨h,x,r,u,p,g,f,e⟩:=d.pW;obtain⟨h',r',a,k⟩:=s.2.2 Ab;refine⟨P,d,?_⟩;rw[g] at a;simp only[Cs] at a;rw[f,e,a.1];rw[<-a.2] at k;exact k
def Ī(s:LV b)(o:Cm b)(kk:Kp b c)(ho:c.Au=b.Au)(he:∀x,b.a.has x->c.a.el x=b.a.el x):LV c:=by
 obtain⟨z,r2,p,g,w,v,u,f⟩:=DO.1 kk.rest;refine⟨λhm=>?_,λhm=>?_,λhm=>?_⟩;.rw[f,he _ o.ok.BM.1];exact s.1 (by rw[<-g];exact hm)
 .obtain⟨h,e,k⟩:=s.2.1 (by rw[<-g];exact hm);exact⟨h,ho.trans e,k.go ⟨f,he _ o.ok.BM.1,he _ k.has⟩ kk.le⟩
 .obtain⟨h,r,e,k⟩:=s.2.2 (by rw[<-g];exact hm);exact⟨h,r,ho.trans e,by rw[p];exact k.go ⟨f,he _ o.ok.BM.1,he _ k.has⟩ kk.le⟩
def Xg(s:LV b)(o:Cm b){v:Int}:LV (b.Kx v):=Ī s o (PQ o) rfl λx hx=>kQ o.ok hx
def Jd(s:LV b)(o:Cm b){w:Ah}{v:Int}:LV (b.DB w v):=Ī s o (Jb o) rfl λx hx=>vZ o.ok hx
def Xh(s:LV b)(o:Cm b):LV (b.IM t):=Ī s o (Q3 o) OT λx hx=>by unfold BS.IM;split;rfl;exact Zz o.ok hx
def tq(o:Cm b)(e:b.Au=h::r)(hr:r≠[])(hk:(b.a.nd h.node).kind=4):(b.place 0).1≠b.BM/\(b.place 0).1≠h.node:=by
 have hne:b.Au≠[]:=by rw[e];simp
 have NH:=o.ok.op _ (UN hne);refine ZA o.ok o.fo hne (v:=(D1 b.Au).node) ⟨NH.1,NH.2.1⟩ ?_ hk (.inl ⟨rfl,rfl⟩);intro f;have hpos:=CB.2 hr;have hlen:2<=b.Au.length:=by rw[e,AK];omega
 have ht:D1 b.Au=b.Au[b.Au.length-1]'(by omega):=by have:=J9 (l:=b.Au) (n:=b.Au.length-1) Ab;rwa [(Ab:b.Au.length-1+1=b.Au.length),Bk] at this
 have h0:b.Au[0]'(by omega)=h:=by simp[e]
 have RI:(b.Au.map Item.node)[b.Au.length-1]'(by rw[Aw];omega)=(b.Au.map Item.node)[0]'(by rw[Aw];omega):=by simp only[Ei];rw[<-ht,h0,f]
 have:=(Oe o.ok.lH).1 RI;omega
def ī(o:Cm b)(e:b.Au=h::r)(hr:r≠[])(k:Dk h.node L b):Dk h.node L (b.Cu nm at_ sp):=by have kk:=GG (nm:=nm) (l:=at_) (sp:=sp) o;have rr:=DO.1 kk.rest;have hp:=tq o e hr k.kind;exact k.go ⟨rr.2.2.2.2.2.2.2,U9 o.ok o.ok.BM.1 hp.1,U9 o.ok k.has hp.2⟩ kk.le
def SO{x:Item}(hx:AG [Io] x=false):FC (r++[x])=FC r:=by
 cases r with
 |nil=>simp[FC,hx]
 |cons o r=>rfl
def Xi(o:Cm b)(hm:4<=b.mode)(e:b.Au=h::r)(k:Dk h.node (b.head::FC r) (b.Cu nm at_ 1))(hn:nm∈aK){s:Int}:LV (b.Df nm at_ s):=by have rr:=DO.1 (LU (b:=b) (nm:=nm) (l:=at_) (sp:=1));refine KW (h:=h) (r:=r++[b.HQ nm at_ 1]) (AA:(4:Int)<=8) (by rw[kE,e];rfl) ?_;rw[SO (by rw[KS];exact Ap (by have key:∀w∈aK,w∉[Io]:=AA;exact key _ hn))];have:(b.Df nm at_ s).head=b.head:=rr.2.2.1;rw[this];exact k.lN (c:=b.Df nm at_ s) rfl rfl
def kU(o:Cm b)(e:b.Au=h::r)(k:Dk h.node (b.head::FC r) (b.Cu t.name t.As 1))(hn:t.name=AT):LV (b.Nq t):=by have rr:=DO.1 (LU (b:=b) (nm:=t.name) (l:=t.As) (sp:=1));refine KW (h:=h) (r:=r++[b.HQ t.name t.As 1]) (AA:(4:Int)<=18) (by rw[Ub,e];rfl) ?_;rw[SO (by rw[KS,hn];decide)];have:(b.Nq t).head=b.head:=rr.2.2.1;rw[this];exact k.lN (c:=b.Nq t) rfl rfl
def pY(o:Cm b)(hm:4<=b.mode)(e:b.Au=h::r)(k:Dk h.node (b.head::FC r) (b.Cu nm at_ 1)):LV (b.Cu nm at_ 1).FY:=by have kk:=DO.1 (T4 (nm:=nm) (l:=at_) o).rest;refine KW (h:=h) (r:=r) (by rw[kk.2.2.2.1];exact hm) (by rw[Q0 (by rw[e];simp)];exact e) ?_;rw[kk.2.2.1];exact k.lN NY.1 NY.2.1
def ZE(o:Cm b)(e:b.Au=[h])(h1:AG [IF] h=true):b.place 0=(h.node,0):=by
 have ht:D1 b.Au=h:=by rw[e];rfl
 have NH:=o.ok.op h (by rw[e];simp);have hc:(b.a.nd h.node).cont=0:=by refine ń λhc=>?_;have h2:=(o.ok.ok.TH _ NH.1).RZ hc;have h3:=h2.2.2;rw[NH.2.2.2] at h3;have f:=(Ca.1 h1).2;simp at f;rw[h3] at f;exact absurd f AA
 unfold BS.place;simp only
 rw[Ac (by rw[e];simp),Af trivial,ht,o.fo];simp[hc]
def v8{qk:DF->Bool}(o:DK b)(s:LV b)(hm:b.mode=1):NS (b.Js qk t):=by
 have he:=s.1 (.inl hm);have hd:=o.cm.ok.BM.1;have f:=pU (t:=t) o.cm;have g:=ĥ (t:=t) o.cm.ok hd;have p:(b.Nn t).PL.a.el b.BM=[]:=by rw[show b.BM=(b.Nn t).BM from rfl,kh f.ok f.ok.BM.1];exact g.trans he
 have e:∀c:BS,c.mode=2->c.a.el c.BM=[]->LV c:=λc h1 h2=>⟨λ_=>h2,λh=>Ab,λh=>Ab⟩;unfold BS.Js;refine NS.ite (λ_=> .BZ s) λ_=>NS.ite (λ_=> .BZ s) λ_=>NS.ite (λ_=> .BZ (Jd s o.cm)) λ_=>NS.ite (λ_=> .BZ (e _ rfl ?_)) λ_=> .BZ (e _ rfl ?_);.show b.PL.a.el b.BM=[];rw[kh o.cm.ok hd];exact he
 .simp only
  split;.exact p
  .show(b.Nn t).a.el b.BM=[];rw[g];exact he
def aS(o:DK b)(s:LV b)(hm:b.mode=2):NS (b.Fy t):=by
 have hs:b.Au=[]/\b.tm=[]:=by rcases o.sh Ab with h|h|h|h|h|h<;>first|exact h.2|omega
 have he:=s.1 (.inr hm);have hd:=o.cm.ok.BM;have e:∀nm at_,∀c:BS,c.a=(b.Cu nm at_ 1).a->c.BM=(b.Cu nm at_ 1).BM->c.Au=(b.Cu nm at_ 1).Au->c.mode=3->LV c:=by
  intro nm at_ c h1 h2 h3 g;have hp:b.place 0=(b.BM,0):=by unfold BS.place;rw[Af ⟨rfl,hs.1⟩]
  obtain⟨a1,a2⟩:=Va (nm:=nm) (l:=at_) o.cm.ok hp hd.1 (.inr ⟨hd.2,he⟩);have hn:=OO (b:=b) (nm:=nm) (l:=at_);have f:(b.Cu nm at_ 1).BM=b.BM:=YH;refine⟨λh=>Ab,λ_=>⟨b.HQ nm at_ 1,by rw[h3,EJ,hs.1];rfl,?_⟩,λh=>Ab⟩;rw[T1];exact⟨by rw[h1,h2,f,a1,he];rfl,by rw[h1,a2],by rw[h1];exact hn.2.2.1,by rw[h1];exact hn.2.2.2⟩
 unfold BS.Fy;exact NS.ite (λ_=> .BZ s) λ_=>NS.ite (λ_=> .BZ s) λ_=>NS.ite (λ_=> .BZ s) λ_=>NS.ite (λ_=> .BZ s) λ_=>NS.ite (λ_=> .BZ (Jd s o.cm)) λ_=>NS.ite (λ_=> .BZ (e t.name t.As _ rfl rfl rfl rfl)) λ_=> .BZ (e aWu [] _ rfl rfl rfl rfl)
def aT(o:DK b)(s:LV b)(hm:b.mode=3):NS (b.Fz t):=by
 obtain⟨⟨p,f,z⟩,iZ⟩:(∃h,b.Au=[h]/\AG [IF] h=true)/\b.tm=[]:=by rcases o.sh Ab with h|h|h|h|h|h<;>first|exact h.2|omega
 obtain⟨h',lJ,k⟩:=s.2.1 hm;rw[f] at lJ;simp only[Cs,Jh] at lJ;subst lJ;have g:∀nm at_,nm=IL->∀c:BS,c.a=(b.Cu nm at_ 1).a->c.BM=(b.Cu nm at_ 1).BM->c.Au=(b.Cu nm at_ 1).Au->c.mode=4->c.head=b.Mw 1->LV c:=by
  intro nm at_ hn c h1 h2 h3 B u;have hp:=ZE o.cm f z;obtain⟨a1,a2⟩:=Va (nm:=nm) (l:=at_) o.cm.ok hp k.has (.inl k.kind);have a3:=U9 (nm:=nm) (l:=at_) (sp:=1) o.cm.ok o.cm.ok.BM.1 (by rw[hp];intro e;have:=o.cm.ok.BM.2;rw[<-e,k.kind] at this;exact absurd this AA);have A:(b.Cu nm at_ 1).BM=b.BM:=YH;have v:c.head=b.a.len+1:=by rw[u];unfold BS.Mw;rw[Af Kw]
  have kk:=GG (nm:=nm) (l:=at_) (sp:=1) o.cm;refine KW (h:=p) (r:=[b.HQ nm at_ 1]) Ab (by rw[h3,EJ,f];rfl) ?_;have w:FC [b.HQ nm at_ 1]=[]:=by
   have:AG [Io] (b.HQ nm at_ 1)=false:=by rw[KS,hn];decide
   simp[FC,this]
  rw[w,v];exact⟨by rw[h1,h2,A,a3];exact k.d,by rw[h1,a1,k.h];rfl,by rw[h1];exact kk.le.has _ k.has,by rw[h1,kk.le.kind _ k.has];exact k.kind⟩
 unfold BS.Fz;exact NS.ite (λ_=> .BZ s) λ_=>NS.ite (λ_=> .BZ s) λ_=>NS.ite (λ_=> .BZ s) λ_=>NS.ite (λ_=> .BZ s) λ_=>NS.ite (λ_=> .BZ (Jd s o.cm)) λ_=>NS.ite (λ_=> .BZ (Xh s o.cm)) λ_=>NS.ite (λh=> .BZ (g t.name t.As (by simpa using h.2) _ rfl rfl rfl rfl rfl)) λ_=> .BZ (g IL [] rfl _ rfl rfl rfl rfl rfl)
def Ĭ{ws:List Ah}(h:AG ws i=true)(hw:Io∉ws):AG [Io] i=false:=by
 cases h2:AG [Io] i with
 |false=>rfl
 |true=>have h3:=(Ca.1 h2).2;simp at h3;have a:=(Ca.1 h).2;rw[h3] at a;exact absurd a hw
def wA(o:DK b)(s:LV b)(hm:b.mode=4):NS (b.De t):=by
 obtain⟨⟨f,hd,a,A,v⟩,iZ⟩:(∃h d,b.Au=[h,d]/\AG [IF] h=true/\AG [IL] d=true)/\b.tm=[]:=by rcases o.sh Ab with h|h|h|h|h|h<;>first|exact h.2|omega
 obtain⟨h',r',lJ,k⟩:=s.2.2 Ab;rw[a] at lJ;simp only[Cs] at lJ;obtain⟨rfl,rfl⟩:=lJ;have p:∀nm at_ sp,Dk f.node (b.head::FC [hd]) (b.Cu nm at_ sp):=λnm at_ sp=>ī o.cm a AB k;have z:FC [hd]=[]:=by simp[FC,Ĭ v AA]
 have SN:b.FY={b with Au:=[f]}:=by unfold BS.FY;rw[a];rfl
 have e:LV {b.FY with mode:=6}:=by rw[SN];refine KW (h:=f) (r:=[]) (AA:(4:Int)<=6) rfl ?_;rw[z] at k;exact k.lN (c:={{b with Au:=[f]} with mode:=6}) rfl rfl
 by_cases hk:t.ok;rotate_left;.unfold BS.De;rw[Af hk];exact .BZ s
 by_cases u:t.st F6;.exact Mi hk u (λ_=> .BZ (pY o.cm Ab a (p _ _ _))) (λh s _=> .BZ (Xi o.cm Ab a (p _ _ _) h)) λh=> .BZ (kU o.cm a (p _ _ _) h)
 have g:∀ws:List Ah,(∀w∈ws,w∈F6)->¬t.st ws:=λws hw h=>u ⟨h.1,hw _ h.2⟩;unfold BS.De;rw[Ac (by simpa using hk)];refine NS.ite (λ_=> .BZ s) λ_=>NS.ite (λ_=> .BZ s) λ_=>NS.ite (λ_=> .BZ s) λ_=>NS.ite (λ_=> .BZ (Xg s o.cm)) λ_=>NS.ite (λ_=> .BZ (Jd s o.cm)) λ_=>NS.ite (λ_=> .BZ (Xh s o.cm)) λ_=>?_;rw[Ac (g _ AA),Ac (g _ AA),Ac (g _ AA),Ac (g _ AA)];refine NS.ite (λh=>?_) λ_=>NS.ite (λ_=> .BZ e) λ_=>?_
 .have rr:=DO.1 (LU (b:=b) (nm:=t.name) (l:=t.As) (sp:=1));refine .BZ (KW (h:=f) (r:=[hd,b.HQ t.name t.As 1]) (AA:(4:Int)<=5) ?_ ?_);.show(b.Cu t.name t.As 1).Au=_;rw[EJ,a];rfl
  .have:({b.CU t with mode:=5}:BS).head=b.head:=rr.2.2.1;rw[this];exact(p t.name t.As 1).lN (c:={b.CU t with mode:=5}) rfl rfl
 .rw[Ac (g _ AA)];refine NS.ite (λ_=>?_) λ_=> .BZ e;rw[Xe (λi hi=>by
   rw[a] at hi;simp at hi;rcases hi with rfl|rfl
   .exact aN A AA
   .exact aN v AA)]
  exact .BZ s
def aU(o:DK b)(s:LV b)(hm:b.mode=5):NS (b.FA t):=by
 obtain⟨⟨f,hd,x,a,F,E,D⟩,iZ⟩:(∃h d x,b.Au=[h,d,x]/\AG [IF] h=true/\AG [IL] d=true/\AG [aGK] x=true)/\b.tm=[]:=by rcases o.sh Ab with h|h|h|h|h|h<;>first|exact h.2|omega
 obtain⟨h',r',lJ,k⟩:=s.2.2 Ab;rw[a] at lJ;simp only[Cs] at lJ;obtain⟨rfl,rfl⟩:=lJ;have g:∀nm at_ sp,Dk f.node (b.head::FC [hd,x]) (b.Cu nm at_ sp):=λnm at_ sp=>ī o.cm a AB k;have SN:b.FY={b with Au:=[f,hd]}:=by unfold BS.FY;rw[a];rfl
 have e:LV {b.FY with mode:=4}:=by rw[SN];refine KW (h:=f) (r:=[hd]) (AA:(4:Int)<=4) rfl ?_;exact k.lN (c:={{b with Au:=[f,hd]} with mode:=4}) rfl rfl
 unfold BS.FA;by_cases hk:t.ok;rotate_left;.rw[Af hk];exact .BZ s
 rw[Ac (by simpa using hk)];refine NS.ite (λ_=> .BZ s) λp=>NS.ite (λ_=> .BZ s) λz=>NS.ite (λ_=> .BZ s) λv=>NS.ite (λ_=> .BZ (Xh s o.cm)) λB=>NS.ite (λ_=> .BZ e) λ_=>NS.ite (λh=>?_) λu=>NS.ite (λh=>?_) λA=>NS.ite (λh=>?_) λ_=> .BZ e;.unfold BS.De;have C:=h.1;rw[Ac (by simpa using hk),Ac p,Ac (λh=>by have:=h.1;omega),Ac (λh=>by have:=h.1;omega),Af h];exact .BZ (Xg s o.cm)
 .unfold BS.De;rw[Ac (by simpa using hk),Ac p,Ac (λh=>by have:=h.1;omega),Ac (λh=>by have:=h.1;omega),Ac u,Af h];exact .BZ (Jd s o.cm)
 .refine Mi hk ⟨h.1,by have key:∀w∈û,w∈F6:=AA;exact key _ h.2⟩ (λ_=> .BZ (pY o.cm Ab a (g _ _ _))) (λh s _=> .BZ (Xi o.cm Ab a (g _ _ _) h)) λh=> .BZ (kU o.cm a (g _ _ _) h)
def pZ(hk:t.ok)(hs:t.st F6):(b.E7 t).1.a=(BS.Cu {b with Au:=b.Au++[BS.DD b.head]} t.name t.As 1).a/\(b.E7 t).1.BM=b.BM/\(b.E7 t).1.head=b.head:=by have rr:=DO.1 (LU (b:={b with Au:=b.Au++[BS.DD b.head]}) (nm:=t.name) (l:=t.As) (sp:=1));refine Mi (b:={b with Au:=b.Au++[BS.DD b.head]}) (Q:=λr=>r.1.a=(BS.Cu {b with Au:=b.Au++[BS.DD b.head]} t.name t.As 1).a/\r.1.BM=b.BM/\r.1.head=b.head) hk hs (λ_=>?_) (λ_ s _=>⟨rfl,rr.2.2.2.2.2.2.2,rr.2.2.1⟩) λ_=>⟨rfl,rr.2.2.2.2.2.2.2,rr.2.2.1⟩;exact⟨NY.1,NY.2.1.trans rr.2.2.2.2.2.2.2,NY.2.2.trans rr.2.2.1⟩
def kW(o:DK b)(s:LV b)(hm:b.mode=6):NS (b.Gn t):=by
 obtain⟨⟨h0,f,z⟩,iZ⟩:(∃h,b.Au=[h]/\AG [IF] h=true)/\b.tm=[]:=by rcases o.sh Ab with h|h|h|h|h|h<;>first|exact h.2|omega
 obtain⟨h',r',lJ,k⟩:=s.2.2 Ab;rw[f] at lJ;simp only[Cs] at lJ;obtain⟨rfl,rfl⟩:=lJ;have B:=o.Zt hm;have g:∀nm at_,nm=Io->∀c:BS,c.a=(b.Cu nm at_ 1).a->c.BM=(b.Cu nm at_ 1).BM->c.Au=(b.Cu nm at_ 1).Au->c.mode=7->c.head=(b.Cu nm at_ 1).head->LV c:=by
  intro nm at_ hn c h1 h2 h3 v C;have hp:=ZE o.cm f z;obtain⟨a1,a2⟩:=Va (nm:=nm) (l:=at_) o.cm.ok hp k.has (.inl k.kind);have a3:=U9 (nm:=nm) (l:=at_) (sp:=1) o.cm.ok o.cm.ok.BM.1 (by rw[hp];intro e;have:=o.cm.ok.BM.2;rw[<-e,k.kind] at this;exact absurd this AA);have kk:=GG (nm:=nm) (l:=at_) (sp:=1) o.cm;have rr:=DO.1 kk.rest;refine KW (h:=h0) (r:=[b.HQ nm at_ 1]) Ab (by rw[h3,EJ,f];rfl) ?_;have D:FC [b.HQ nm at_ 1]=[b.a.len+1]:=by
   have:AG [Io] (b.HQ nm at_ 1)=true:=by rw[KS,hn];decide
   simp[FC,this,T1]
  rw[D,C,rr.2.2.1];exact⟨by rw[h1,h2,rr.2.2.2.2.2.2.2,a3];exact k.d,by rw[h1,a1,k.h];rfl,by rw[h1];exact kk.le.has _ k.has,by rw[h1,kk.le.kind _ k.has];exact k.kind⟩
 unfold BS.Gn;by_cases hk:t.ok;rotate_left;.rw[Af hk];exact .BZ s
 rw[Ac (by simpa using hk)];refine NS.ite (λ_=> .BZ s) λ_=>NS.ite (λ_=> .BZ s) λ_=>NS.ite (λ_=> .BZ s) λ_=>NS.ite (λ_=> .BZ (Xg s o.cm)) λ_=>NS.ite (λ_=> .BZ (Jd s o.cm)) λ_=>NS.ite (λ_=> .BZ (Xh s o.cm)) λ_=>NS.ite (λh=> .BZ (g t.name t.As (by simpa using h.2) _ rfl rfl rfl rfl rfl)) λ_=>NS.ite (λ_=> .inl rfl) λ_=>NS.ite (λh=>?_) λ_=>NS.ite (λh=>?_) λ_=> .BZ (g Io [] rfl _ rfl rfl rfl rfl rfl)
 .have ha:=pZ (b:=b) hk h;have u:=jt o.cm B;have A:Dk h0.node (b.head::FC []) (BS.Cu {b with Au:=b.Au++[BS.DD b.head]} t.name t.As 1):=ī (r:=[BS.DD b.head]) u (by show b.Au++_=_;rw[f];rfl) AB (k.lN (c:={b with Au:=b.Au++[BS.DD b.head]}) rfl rfl);have ho:(b.E7 t).1.Au=b.Au\/∃x,(b.E7 t).1.Au=b.Au++[x]/\AG [Io] x=false:=by refine Q4 (Q:=λr=>r.1.Au=b.Au\/∃x,r.1.Au=b.Au++[x]/\AG [Io] x=false) o hm hk h (λ_ c i e _ _ _=> .inl e) (λ_ c i ⟨x,e⟩ E _ _ _=> .inr ⟨x,e,?_⟩) λ_ c i ⟨x,h1,e⟩ _ _ _=> .inr ⟨x,e,Ĭ h1 AA⟩;obtain⟨X,r,w,v,_⟩:=i.W8 E;rw[e] at w;have:=List.append_inj_right' w rfl;simp at this;rw[this];exact Ĭ v AA
  have p:4<=(b.E7 t).1.mode:=by refine Q4 (Q:=λr=>4<=r.1.mode) o hm hk h (λ_ c i _ e _ _=>by show 4<=c.mode;omega) (λ_ c i _ e _ _ _=>by show 4<=c.mode;omega) λ_ c i _ e _ _=>by show 4<=c.mode;omega
  have F:(BS.Cu {b with Au:=b.Au++[BS.DD b.head]} t.name t.As 1).BM=b.BM:=YH;have kf:=A.lN (c:=(b.E7 t).1) ha.1 (ha.2.1.trans F.symm);refine .inr ?_;rcases ho with e|⟨x,e,hx⟩
  .exact KW p (e.trans f) (by rw[ha.2.2];exact kf)
  .exact KW (h:=h0) (r:=[x]) p (by rw[e,f];rfl) (by
    have:FC [x]=[]:=by simp[FC,hx]
    rw[ha.2.2,this];exact kf)
 .rw[OU hk h,Xe (λi hi=>by rw[f] at hi;simp at hi;rw[hi];exact aN z AA)]
  exact .BZ s
def tr(o:DK b)(s:LV b)(hm:b.mode=8):NS (b.LA t):=by
 obtain⟨X,r,f,A,z,B,sh⟩:=o.W8 hm;have p:X≠[]:=by
  rintro rfl;rcases sh with h|h|h|h|h|h
  .omega
  .omega
  .obtain⟨_,_,h2,_⟩:=h.2.1;cases h2
  .obtain⟨_,_,_,h2,_⟩:=h.2.1;cases h2
  .obtain⟨_,h2,_⟩:=h.2.1;cases h2
  .obtain⟨P,u⟩:=h.2;have w:=u.len;have C:=u.pf.len;rw[AW] at w;omega
 have v:=CB.2 p;have SN:b.FY={b with Au:=X}:=by unfold BS.FY;rw[Ac (by rw[f];simp;omega)];rw[f];simp
 have a:LV {b.FY with mode:=b.IE}:=by
  obtain⟨h',r',e,k⟩:=s.2.2 Ab;rw[SN];cases X with
  |nil=>exact absurd rfl p
  |cons g X=>rw[f] at e;simp only[B8,Cs] at e;rw[<-e.1,<-e.2,SO (Ĭ A AA)] at k;exact KW (h:=g) (r:=X) z rfl (k.lN (c:={{b with Au:=g::X} with mode:=b.IE}) rfl rfl)
 unfold BS.LA;exact NS.ite (λ_=> .BZ s) λ_=>NS.ite (λ_=> .BZ (Xg s o.cm)) λ_=>NS.ite (λ_=> .BZ a) λ_=>NS.ite (λ_=> .BZ a) λ_=> .BZ s
def Xj(s:LV b)(hb:4<=b.mode)(hc:4<=c.mode)(h1:c.a=b.a)(h2:c.BM=b.BM)(h3:c.Au=b.Au)(f:c.head=b.head):LV c:=by obtain⟨h,r,e,k⟩:=s.2.2 hb;exact KW hc (h3.trans e) (by rw[f];exact k.lN h1 h2)
def dZ(o:Dq P b.mode b.tm b)(v:0<=AD Eg b.Au)(hc:c=BS.JD {b with Au:=GQ b.Au (AD Eg b.Au),A4:=Fw b.A4,tm:=b.tm.dropLast}):LV c:=by
 obtain⟨i,_,_,w,_,h3⟩:=kD o.d v hc;have ca:c.a=b.a:=by rw[hc];rfl
 have E:c.BM=b.BM:=by rw[hc];rfl
 have e:c.Au=GQ b.Au (AD Eg b.Au):=by rw[hc];rfl
 have D:c.head=b.head:=by rw[hc];rfl
 clear hc;obtain⟨h,x,r,u,C,s,B,A⟩:=o.d.pW;have hpos:b.Au.take (max 1 (AD Eg b.Au).toNat)=h::(x::(r++u)).take (max 1 (AD Eg b.Au).toNat-1):=by rw[s];obtain⟨z,hz⟩:∃z,max 1 (AD Eg (h::x::(r++u))).toNat=z+1:=⟨max 1 (AD Eg (h::x::(r++u))).toNat-1,Ab⟩;rw[hz];rfl
 have hm:4<=c.mode:=by
  rcases i.sh w with h|h|h|h|h|h
  .exfalso;have:=h.2.1;rw[e] at this;unfold GQ at this;rw[hpos] at this;cases this
  .exact absurd h.1 h3
  .omega
  .omega
  .omega
  .omega
 unfold GQ at e;rw[hpos] at e;refine KW hm e ?_;rw[D];have k:=o.k.lN ca E;rw[B,A] at k;by_cases hz:max 1 (AD Eg b.Au).toNat-1=0
 .rw[hz];rcases BY (q:=Eg) (l:=b.Au) with⟨h1,_⟩|⟨q,hq,h1,h2,_⟩
  .omega
  .have è:q<=1:=by omega
   have:AG [Io] x=false:=by
    have g:q=0\/q=1:=Ab;rcases g with rfl|rfl
    .exfalso;have h0:b.Au[0]'hq=h:=by simp[s]
     rw[h0] at h2;obtain⟨F,rr,p,qh⟩:=o.d.d.pf.aKj;rw[C] at p;simp only[Cs] at p;rw[<-p.1] at qh;rw[aN qh AA] at h2;cases h2
    .have h0:b.Au[1]'hq=x:=by simp[s]
     rw[h0] at h2;exact Ĭ h2 AA
   rw[this] at k;exact k
 .obtain⟨z,f⟩:∃z,max 1 (AD Eg b.Au).toNat-1=z+1:=⟨max 1 (AD Eg b.Au).toNat-1 -1,Ab⟩;rw[f];exact k
def eA(o:Dq P b.mode b.tm b)(hm:4<=b.mode)(s:LV b):NS b.Mz:=by
 unfold BS.Mz;split;.rename_i h;unfold BS.Of at h;rw[Ps];exact .BZ (dZ o h rfl)
 .exact .BZ (Xj s hm hm rfl rfl rfl rfl)
def kx(o:Dq P b.mode b.tm b)(s:LV b):LV b.Di:=by
 unfold BS.Di;split;.exact s
 .rename_i h;have h1:0<=AD (AG [AT]) b.Au:=Ab;rw[Nl (λ_=>QV) h1];exact dZ o h1 rfl
def VV(o:Dq P q T b)(hm:4<=q)(hk:t.ok)(hs:t.st F6):NS (b.De t):=by
 obtain⟨h,x,r,u,v,f,p,g⟩:=o.d.pW;have a:4<=b.mode:=by rw[o.d.md];exact hm
 have e:∀nm at_,Dk h.node (b.head::FC (x::(r++u))) (b.Cu nm at_ 1):=λnm at_=>by have:=o.tl (nm:=nm) (at_:=at_) (sp:=1);rw[p,g] at this;exact this
 exact Mi hk hs (λ_=> .BZ (dY o.eD hm)) (λh s _=> .BZ (Xi o.d.cm a f (e _ _) h)) λh=> .BZ (kU o.d.cm f (e _ _) h)
def aV(o:DK b)(s:LV b)(hm:b.mode=18):NS (b.DX t):=by
 obtain⟨P,d⟩:=ĩ o s (.inr hm);have a:4<=b.mode:=Ab;unfold BS.DX;by_cases hk:t.ok;rotate_left;.rw[Af hk];exact .BZ s
 rw[Ac (by simpa using hk)];have e:∀m,Es m=false->NS (b.E3 m):=λm h=> .inl h;refine NS.ite (λ_=> .BZ (dY d.Ks a)) λ_=>NS.ite (λ_=> .BZ (Jd s o.cm)) λ_=>NS.ite (λ_=> .BZ s) λ_=>NS.ite (λh=>VV d a hk h) λ_=>NS.ite (λh=>?_) λ_=>NS.ite (λ_=>e _ rfl) λ_=>NS.ite (λ_=>e _ rfl) λ_=>NS.ite (λ_=>e _ rfl) λ_=>NS.ite (λ_=>e _ rfl) λ_=>NS.ite (λh=> .BZ (Xj s a (AA:(4:Int)<=7) rfl rfl rfl rfl)) λ_=>NS.ite (λ_=> .BZ s) λ_=>eA d a s;rw[OU hk h];exact .BZ (kx d s)
def kX(o:Dq P 7 T b)(hn:nm∈aK){s:Int}:LV (b.Df nm at_ s):=by obtain⟨h,x,r,u,g,f,e,a⟩:=o.d.pW;have:=o.tl (nm:=nm) (at_:=at_) (sp:=1);rw[e,a] at this;exact Xi o.d.cm (by rw[o.d.md];decide) f this hn
def aGS(o:Dq P 7 T b)(hn:t.name∈o9):LV (b.W8 t):=by
 have a:t.name≠aW8->t.name∈aK:=λh=>by
  simp only[o9,AE,Ej,Ml] at hn;rcases hn with h1|h1|h1|h1|h1
  .rw[h1];decide
  .rw[h1];decide
  .rw[h1];decide
  .rw[h1];decide
  .exact absurd h1 h
 unfold BS.W8;split;.rename_i h;exact dY ((o.LC ⟨by rw[h];decide,by rw[h];decide⟩).set _) AA
 .rename_i h;have a:=a h;split;.exact Xj (kX o a (s:=2)) (AA:(4:Int)<=8) (AA:(4:Int)<=8) rfl rfl rfl rfl
  .split;.exact kX (P:=P) (T:=T) (b:={b.B4.AL with fs:=false}) (o.B4.AL.set _) a
   .split;.exact kX (P:=P) (T:=T) (b:={b with fs:=false}) (o.set _) a
    .exact kX o a
def ĭ(o:Dq P 7 T b)(hk:t.ok)(h2:t.k=2):NS (b.opens t):=by
 have st:∀{c},Dq P 7 T c->NS (c,false):=λd=> .BZ (dY d AA);unfold BS.opens;refine NS.ite (λh=>VV o AA hk ⟨h2,h⟩) λp=>NS.ite (λh=>st (o.LC (IN h AA))) λg=>NS.ite (λh=>st (o.Ia (IN h AA) (λe=>absurd h (by rw[e];decide)))) λB=>NS.ite (λh=>st ((o.LC (IN h AA)).set _)) λA=>NS.ite (λh=>st (o.uX (by have key:∀w∈rj,w∈B1:=AA;exact key _ h))) λz=>NS.ite (λh=>st (o.BU (IN h AA) (λe=>absurd h (by rw[e];decide)))) λv=>NS.ite (λh=>st o.empty) λu=>NS.ite (λh=>st o) λa=>NS.ite (λh=> .BZ (aGS o h)) λs=>NS.ite (λh=>st (o.SI (IN h AA) (λe=>absurd h (by rw[e];decide)))) λO1=>NS.ite (λh=>st o.HF) λUn=>NS.ite (λh=>st (o.SG (IN h AA))) λVR=>NS.ite (λh=>st (o.KR (IN h AA) (λe=>absurd h (by rw[e];decide)))) λdP=>NS.ite (λh=>st o.Ja) λZm=>NS.ite (λh=>?_) λpM=>NS.ite (λh=>st (o.MG h)) λjn=>NS.ite (λh=>st (o.KQ h)) λsk=>NS.ite (λh=>st (o.Wu (by rw[h];decide))) λlM=>NS.ite (λh=>st (o.T2 (by rw[h];decide))) λĔ=>NS.ite (λh=> .inl rfl) λvd=>NS.ite (λh=>?_) λf=>?_
 .unfold BS.Jt;split;.exact st o
  .exact .inl rfl
 .left;show Es (if b.mode=9\/b.mode=11\/b.mode=13\/b.mode=14\/b.mode=15 then 17 else 16)=false;split<;>rfl
 .refine st (Dq.CU o.AL ⟨λhb=>?_,Dx p AA⟩ (Dx g AA));simp only[aG,AE,Ej,Ml] at hb;rcases hb with h|h|h|h|h|h|h|h|h|h|h|h|h|h|h|h
  .exact Dx Zm AA h
  .exact Dx a AA h
  .exact Dx Zm AA h
  .exact pM h
  .exact vd h
  .exact f h
  .exact Dx a AA h
  .exact Dx a AA h
  .exact Dx a AA h
  .exact Dx a AA h
  .exact Dx a AA h
  .exact Dx a AA h
  .exact Dx a AA h
  .exact Dx a AA h
  .exact Dx a AA h
  .exact Dx a AA h
def tw(o:Dq P 7 T b)(u:T=b.tm)(hm:b.mode=7)(s:LV b)(hk:t.ok)(h3:t.k=3):NS (b.MA t):=by
 have st:∀{c},Dq P 7 T c->NS (c,false):=λd=> .BZ (dY d AA);have f:∀{c:BS},Dp P 7 T c->(c.a=b.a/\c.BM=b.BM/\c.head=b.head)->NS (c,false):=λd e=>st (o.P7 d e.1 e.2.1 e.2.2);unfold BS.MA;refine NS.ite (λh=>?_) λp=>NS.ite (λh=>?_) λg=>NS.ite (λh=>f (o.d.E4 ?_ ?_) ZD) λE=>NS.ite (λh=>st (o.C1 (by rw[þ] at h;exact h))) λD=>NS.ite (λh=>f o.d.FB kT) λC=>NS.ite (λh=>f (o.d.Gp ?_ ?_) pX) λB=>NS.ite (λh=>st (o.HG h)) λA=>NS.ite (λh=>f (o.d.Ju h) tn) λz=>NS.ite (λh=>st o.empty) λv=>f (o.d.CV p (Dx g AA) (Dx g AA)) Ĩ;.rw[OU hk ⟨h3,by rw[h];simp⟩];refine .BZ (kx (P:=P) ⟨⟨o.d.cm,o.d.hd,by rw[<-u];exact o.d.d,rfl,rfl⟩,o.k⟩ s)
 .unfold BS.PM;split;.exact .inl rfl
  .exact st o
 .have key:∀w∈QX,w∉HT:=by decide
  exact key _ h
 .have key:∀w∈QX,w∉Fl:=by decide
  exact key _ h
 .have key:∀w∈Wt,w∉HT:=by decide
  exact key _ h
 .have key:∀w∈Wt,w∉Fl:=by decide
  exact key _ h
def tz(o:DK b)(s:LV b)(hm:b.mode=7):NS (b.LB t):=by
 obtain⟨P,d⟩:=ĩ o s (.inl hm);have a:Dq P 7 b.tm b:=⟨⟨d.d.cm,d.d.hd,d.d.d,hm,rfl⟩,d.k⟩;unfold BS.LB;by_cases hk:t.ok;rotate_left;.rw[Af hk];exact .BZ s
 rw[Ac (by simpa using hk)];refine NS.ite (λ_=> .BZ (dY a.Ks AA)) λe=>NS.ite (λ_=> .BZ (Jd s o.cm)) λf=>NS.ite (λp=>?_) λg=>NS.ite (λh=>ĭ a hk h) λ_=>NS.ite (λh=>tw a rfl hm s hk h) λ_=> .BZ s;refine NS.ite (λh=>?_) λ_=> .BZ (Xj s Ab (Ab:4<=b.mode) rfl rfl rfl rfl);unfold BS.DX;rw[Ac (by simpa using hk),Ac e,Ac f,Ac Ab,Ac (λh=>by have:=h.1;omega),Ac (λh=>by have:=h.1;omega),Ac (λh=>by have:=h.1;omega),Ac (λh=>by have:=h.1;omega),Ac (λh=>by have:=h.1;omega),Ac (λh=>by have:=h.1;omega),Ac Ab,Ac Ab];exact eA d Ab s
def Į{qk:DF->Bool}(o:DK b)(s:LV b):NS (b.apply qk t):=by unfold BS.apply;exact NS.ite (λ_=> .BZ s) λ_=>NS.ite (λh=>v8 o s h) λ_=>NS.ite (λh=>aS o s h) λ_=>NS.ite (λh=>aT o s h) λ_=>NS.ite (λh=>wA o s h) λ_=>NS.ite (λh=>aU o s h) λ_=>NS.ite (λh=>kW o s h) λ_=>NS.ite (λh=>tz o s h) λ_=>NS.ite (λh=>tr o s h) λ_=>NS.ite (λh=>aV o s h) λ_=> .BZ s
end
section
variable{b c:BS}{t:DF}{qk:DF->Bool}{j k:Nat}{l:List DF}
def aGT{f:Bool}:LV (II f):=by refine⟨λ_=>?_,λh=>absurd (show(1:Int)=3 from h) AA,λh=>absurd (show(4:Int)<=1 from h) AA⟩;show((II f).a.el 1)=[];unfold Ar.el;rw[W0,Af rfl];rfl
def kY{R Q:BS->Prop}(a:∀c,R c->Es c.mode=true->(c.apply qk t).2=true->Es (c.apply qk t).1.mode=true->R (c.apply qk t).1)(hF:∀c,R c->Es c.mode=true->(c.apply qk t).2=false->Es (c.apply qk t).1.mode=true->Q (c.apply qk t).1):∀{k:Nat} {c:BS},R c->(MB qk t k c).2=true->Es (MB qk t k c).1.mode=true->Q (MB qk t k c).1
 |0,c,_,h2,h3=>by rw[MB] at h2 h3;simp only at h2 h3;rw[h3] at h2;cases h2
 |k+1,c,r,h2,h3=>by
  rw[MB] at h2 h3⊢;cases ho:Es c.mode with
  |false=>rw[ho,Af rfl] at h3;simp only at h3;rw[ho] at h3;cases h3
  |true=>
   rw[ho,Ac AB] at h2 h3;rw[Ac AB];cases hb:(c.apply qk t).2 with
   |false=>rw[hb,Af rfl] at h2 h3;rw[Af rfl];exact hF c r ho hb h3
   |true=>
    rw[hb,Ac AB] at h2 h3;rw[Ac AB];cases hm:Es (c.apply qk t).1.mode with
    |false=>rw[jw hm] at h3;simp only at h3;rw[hm] at h3;cases h3
    |true=>exact kY a hF (a c r ho hb hm) h2 h3
def kZ(o:DK c)(s:LV c)(hm:Es (c.apply qk t).1.mode=true):DK (c.apply qk t).1/\LV (c.apply qk t).1:=by
 refine⟨?_,?_⟩
 .rcases Zv (qk:=qk) (t:=t) o with h|h
  .rw[hm] at h;cases h
  .exact h.1
 .rcases Į (qk:=qk) (t:=t) o s with h|h
  .rw[hm] at h;cases h
  .exact h
def aGU(o:DK c)(s:LV c)(h2:(MB qk t k c).2=true)(h3:Es (MB qk t k c).1.mode=true):DK (MB qk t k c).1/\LV (MB qk t k c).1:=
 kY (R:=λc=>DK c/\LV c) (Q:=λc=>DK c/\LV c) (λc r _ _ hm=>kZ r.1 r.2 hm) (λc r _ _ hm=>kZ r.1 r.2 hm) ⟨o,s⟩ h2 h3
def Vb(h:(D3 qk (t::l) b).2=2):(MB qk t (9+b.tm.length) b).2=true/\Es (MB qk t (9+b.tm.length) b).1.mode=true/\D3 qk (t::l) b=D3 qk l (MB qk t (9+b.tm.length) b).1:=by
 rw[D3] at h⊢;cases h1:(MB qk t (9+b.tm.length) b).2 with
 |false=>rw[h1,Af rfl] at h;simp at h
 |true=>
  rw[h1,Ac AB] at h;rw[Ac AB];cases h2:Es (MB qk t (9+b.tm.length) b).1.mode with
  |false=>rw[h2,Af rfl] at h;simp at h
  |true=>rw[Ac AB];exact⟨rfl,rfl,rfl⟩
def ky:∀{l:List DF} {b:BS},(D3 qk l b).2=2->DK b->LV b->DK (D3 qk l b).1/\LV (D3 qk l b).1
 |[],b,_,o,s=>by rw[D3];exact⟨o,s⟩
 |t::l,b,h,o,s=>by obtain⟨h1,h2,h3⟩:=Vb h;rw[h3] at h⊢;obtain⟨d,a⟩:=aGU o s h1 h2;exact ky h d a
def eB:∀{l:List DF} {b:BS},(D3 qk (l++[t]) b).2=2->(D3 qk l b).2=2/\(MB qk t (9+(D3 qk l b).1.tm.length) (D3 qk l b).1).2=true/\Es (MB qk t (9+(D3 qk l b).1.tm.length) (D3 qk l b).1).1.mode=true/\(D3 qk (l++[t]) b).1=(MB qk t (9+(D3 qk l b).1.tm.length) (D3 qk l b).1).1
 |[],b,h=>by rw[BA] at h;obtain⟨h1,h2,h3⟩:=Vb h;rw[BA,h3,D3];exact⟨rfl,h1,h2,by rw[D3]⟩
 |x::l,b,h=>by
  rw[B8] at h;obtain⟨h1,h2,h3⟩:=Vb h;rw[h3] at h;have r:=eB h;have e:D3 qk (x::l) b=D3 qk l (MB qk x (9+b.tm.length) b).1:=by rw[D3,h1,Ac AB,h2,Ac AB]
  rw[B8,h3,e];exact r
def aBs(o:DK b)(hk:t.k=6)(a:(b.apply qk t).2=false)(ho:Es b.mode=true):b.mode=7/\b.tm=[]/\(b.apply qk t).1={b with stop:=true}:=by
 have JA:t.ok:=by unfold DF.ok;omega
 have ns:∀ws,¬t.st ws:=λws h=>by have:=h.1;omega
 have ne:∀ws,¬t.en ws:=λws h=>by have:=h.1;omega
 have no:∀ws,¬t.lL ws:=λws h=>by have:=h.1;omega
 have g:¬t.JE:=λh=>by have:=h.1;omega
 have f:¬t.k=1:=Ab;have e:¬t.k=4:=Ab;have m:¬t.k=5:=Ab;have r:¬t.k=2:=Ab;have p:¬t.k=3:=Ab;have Nq:(b.mode=7\/b.mode=18)->b.tm≠[]->b.Mz.2=true:=λhm hne=>by
  obtain⟨_,P,d⟩:=o.dp hm;have hc:=d.d.Ā;have:b.Of:=by
   unfold BS.Of;rcases BY (q:=Eg) (l:=b.Au) with⟨h1,h2⟩|⟨n,hn,h1,_,_⟩
   .exfalso;rw[Ho.2 (λi hi=>by rw[h2 i (BD.1 hi).1];simp)] at hc;exact hne (Fs.1 hc.symm)
   .show 0<=AD Eg b.Au;omega
  unfold BS.Mz;rw[Af this]
 have hm:b.mode=1\/b.mode=2\/b.mode=3\/b.mode=4\/b.mode=5\/b.mode=6\/b.mode=7\/b.mode=8\/b.mode=18:=by have:=CD ho;omega
 unfold BS.apply at a⊢;rw[Ac (by simpa using JA)] at a⊢;rcases hm with hm|hm|hm|hm|hm|hm|hm|hm|hm
 .exfalso;rw[Af hm] at a;unfold BS.Js at a;rw[Ac (by simpa using JA),Ac g,Ac e,Af f] at a;cases a
 .exfalso;rw[Ac Ab,Af hm] at a;unfold BS.Fy at a;rw[Ac (by simpa using JA),Ac f,Ac g,Ac (no _),Ac e,Ac (ns _)] at a;cases a
 .exfalso;rw[Ac Ab,Ac Ab,Af hm] at a;unfold BS.Fz at a;rw[Ac (by simpa using JA),Ac f,Ac g,Ac (no _),Ac e,Ac (ns _),Ac (ns _)] at a;cases a
 .exfalso;rw[Ac Ab,Ac Ab,Ac Ab,Af hm] at a;unfold BS.De at a;rw[Ac (by simpa using JA),Ac f,Ac (ns _),Ac (no _),Ac g,Ac e,Ac (ns _),Ac (ns _),Ac (ns _),Ac (ns _),Ac (ns _),Ac (ns _),Ac (ne _),Ac (ns _),Ac (ne _)] at a;cases a
 .exfalso;rw[Ac Ab,Ac Ab,Ac Ab,Ac Ab,Af hm] at a;unfold BS.FA at a;rw[Ac (by simpa using JA),Ac f,Ac (ns _),Ac (no _),Ac (ns _),Ac (ne _),Ac g,Ac e,Ac (ns _)] at a;cases a
 .exfalso;rw[Ac Ab,Ac Ab,Ac Ab,Ac Ab,Ac Ab,Af hm] at a;unfold BS.Gn at a;rw[Ac (by simpa using JA),Ac f,Ac (ns _),Ac (no _),Ac g,Ac e,Ac (ns _),Ac (ns _),Ac (ns _),Ac (ns _),Ac (ne _)] at a;cases a
 .rw[Ac Ab,Ac Ab,Ac Ab,Ac Ab,Ac Ab,Ac Ab,Af hm] at a⊢;unfold BS.LB at a⊢;rw[Ac (by simpa using JA),Ac m,Ac e,Af hk] at a⊢;by_cases h0:0<b.tm.length;.exfalso;rw[Af h0] at a;unfold BS.DX at a;rw[Ac (by simpa using JA),Ac m,Ac e,Ac f,Ac (ns _),Ac (ne _),Ac (ns _),Ac (ns _),Ac (ns _),Ac (ns _),Ac r,Ac p,Nq (.inl hm) (CB.1 h0)] at a;cases a
  .rw[Ac h0];exact⟨hm,Fs.1 Ab,rfl⟩
 .exfalso;rw[Ac Ab,Ac Ab,Ac Ab,Ac Ab,Ac Ab,Ac Ab,Ac Ab,Af hm] at a;unfold BS.LA at a;rw[Ac (by simpa using JA),Ac m,Af hk] at a;cases a
 .exfalso;have hne:=(o.dp (.inr hm)).1 hm;rw[Ac Ab,Ac Ab,Ac Ab,Ac Ab,Ac Ab,Ac Ab,Ac Ab,Ac Ab,Af hm] at a;unfold BS.DX at a;rw[Ac (by simpa using JA),Ac m,Ac e,Ac f,Ac (ns _),Ac (ne _),Ac (ns _),Ac (ns _),Ac (ns _),Ac (ns _),Ac r,Ac p,Nq (.inr hm) hne] at a;cases a
structure kz(b:BS):Prop where
 stop:b.stop=true
 mode:b.mode=7
 ex:∃h o,b.Au.take 2=[h,o]/\AG [IF] h=true/\AG [Io] o=true/\b.a.el b.BM=[h.node]/\b.a.el h.node=[b.head,o.node]
def aGV(o:DK c)(s:LV c)(hm:c.mode=7)(ht:c.tm=[]):kz {c with stop:=true}:=by
 obtain⟨P,d⟩:=ĩ o s (.inl hm);have k:=d.k;have hp:=d.d.d.JR;have hc:=d.d.d.Ā;rw[ht,AW,Ho] at hc;have e:∀i∈P,Eg i=false:=λi hi=>by
  have h1:i∈c.Au.filter AO:=by rw[d.d.d.uY];exact B2 _ hi
  simpa using hc i h1
 cases d.d.d.pf with
 |body h o' a b'=>
  refine⟨rfl,hm,h,o',hp,a,b',?_,?_⟩;.exact k.d
  .have:=k.h;simp only[FC,List.tail_cons,b',BN] at this;exact this
 |Of h o' a b'=>have:=e o' AB;rw[b'] at this;cases this
 |head h f t a b' c'=>have:=e t AB;rw[c'] at this;cases this
def aBt(hk:t.k=6)(o:DK b)(s:LV b)(h2:(MB qk t k b).2=true)(h3:Es (MB qk t k b).1.mode=true):kz (MB qk t k b).1:=
 kY (R:=λc=>DK c/\LV c) (Q:=kz) (λc r _ _ hm=>kZ r.1 r.2 hm) (λc r ho hF _=>by obtain⟨e,d,a⟩:=aBs r.1 hk hF ho;rw[a];exact aGV r.1 r.2 e d) ⟨o,s⟩ h2 h3
def į(hk:t.k=6)(h:(D3 qk (l++[t]) (II false)).2=2)(o:DK (II false)):kz (D3 qk (l++[t]) (II false)).1:=by obtain⟨h1,h2,h3,e⟩:=eB h;obtain⟨d,a⟩:=ky h1 o aGT;rw[e];exact aBt hk d a h2 h3
end
end Go.Am
end
