/- Lemmas -/
import Derived.Test.YtbkijlifflhdiaaGreatDoorX27
import Derived.Test.YtbkijlifflhdiaaGreatDoorX25
set_option linter.all false
set_option maxRecDepth 100000
section
end
section
namespace Go.Am
open Go
section
variable{A A':Ar}{b:BS}{l u v:List Int}{n p bf:Int}{x:D8}{e:Int}
def Va{d sp:Int}{nm:Aq}{at_:List A3}{h:Int}(j:¬A.has h):((A.elem d sp nm at_).nd h).AT=[]/\((A.elem d sp nm at_).nd h).kind≠5:=by
 have c:(A.nd h).AT=[]/\(A.nd h).kind≠5:=by rw[IY j];exact⟨rfl,Bj⟩
 have f:∀(B:Ar) (k y z:Int),(B.Kc k y).nd z=B.nd z:=λ_ _ _ _=>rfl;have a:(4:Int)≠5:=Bj;have g:(2:Int)≠5:=Bj;have i:(1:Int)≠5:=Bj;unfold Ar.elem;simp only
 split
 .rw[FA];split;.exact⟨rfl,a⟩
  .rw[EB];split;.exact⟨rfl,g⟩
   .unfold Ar.CO;split
    .rw[EB];split;.exact⟨rfl,a⟩
     .exact c
    .rw[f,f,EB];split;.exact⟨rfl,i⟩
     .rw[EB];split;.exact⟨rfl,a⟩
      .exact c
 .rw[EB];split;.exact⟨rfl,a⟩
  .exact c
end
section
variable{A A':Ar}{b:BS}{n p bf:Int}{x:D8}{e:Int}{nm:Aq}{at_:List A3}{sp:Int}
def Io:BS.HR 1:=Bj
structure Dd(A:Ar):Prop where
 IG:∀h,A.has h->(A.nd h).kind=1->∀k∈(A.nd h).AT,(A.nd k).kind=4\/(A.nd k).kind=6
 one:∀h,A.has h->(A.nd h).kind=1->∀x∈(A.nd h).AT,∀y∈(A.nd h).AT,(A.nd x).kind=4->(A.nd y).kind=4->x=y
def Dd.of(d:Dd A)(ok:CX A e)(ho:∀h,A.has h->(A'.nd h).AT=(A.nd h).AT/\(A'.nd h).kind=(A.nd h).kind)(hn:∀h,¬A.has h->(A'.nd h).AT=[]):Dd A':=by
 refine⟨λh j hk k hm=>?_,λh j hk x hx y hy i g=>?_⟩
 .by_cases a:A.has h;.obtain⟨f,c⟩:=ho h a;rw[f] at hm;rw[c] at hk;rw[(ho k (ok.IG h a k hm).1).2];exact d.IG h a hk k hm
  .rw[hn h a] at hm;cases hm
 .by_cases a:A.has h;.obtain⟨f,c⟩:=ho h a;rw[f] at hx hy;rw[c] at hk;rw[(ho x (ok.IG h a x hx).1).2] at i;rw[(ho y (ok.IG h a y hy).1).2] at g;exact d.one h a hk x hx y hy i g
  .rw[hn h a] at hx;cases hx
def Dd.D9(d:Dd A)(ok:CX A e)(hp:(A.nd p).kind=1->((A.nd n).kind=4\/(A.nd n).kind=6)/\((A.nd n).kind=4->∀y∈(A.nd p).AT,(A.nd y).kind=4->y=n)):Dd (A.D9 p n bf):=by
 unfold Ar.D9;split;rotate_left;.exact d
 rename_i f;have hne:n≠p:=λe=>f.re (e▸ .refl);have l:=λk=>Pr ok f.hn (k:=k);have j:=λk=>X6 (A:=A.cut n) (b:=bf) (HF.2 f.hp) (HF.2 f.hn) hne (k:=k);have kc:∀k,((A.cut n).nd k).kind=(A.nd k).kind:=λk=>by
  rw[l];split;.rename_i e;rw[e]
  .split<;>rfl
 have i:∀k,∀m∈((A.cut n).nd k).AT,m∈(A.nd k).AT:=λk m hm=>by
  rw[l] at hm;split at hm;.rename_i e;rw[e];exact hm
  .split at hm;.exact(CG.1 hm).1
   .exact hm
 have kk:∀k,(((A.cut n).My p n bf).nd k).kind=(A.nd k).kind:=λk=>by
  rw[j];split;.rename_i e;subst e;exact kc _
  .split;.rename_i e;subst e;exact kc _
   .exact kc _
 have sub:∀k,∀m∈(((A.cut n).My p n bf).nd k).AT,m∈(A.nd k).AT\/(k=p/\m=n):=λk m hm=>by
  rw[j] at hm;split at hm;.rename_i e;subst e;exact .inl (i _ m hm)
  .split at hm
   .rename_i e;subst e;rcases Mo.1 hm with rfl|hm
    .exact .inr ⟨rfl,rfl⟩
    .exact .inl (i _ m hm)
   .exact .inl (i _ m hm)
 have xV:∀h,((A.cut n).My p n bf).has h->A.has h:=λh a=>HF.1 (S3.1 a);refine⟨λh a hk k hm=>?_,λh a hk x hx y hy g c=>?_⟩
 .rw[kk] at hk⊢;rcases sub h k hm with h1|⟨rfl,rfl⟩
  .exact d.IG h (xV h a) hk k h1
  .exact(hp hk).1
 .rw[kk] at hk g c;rcases sub h x hx with h1|⟨rfl,rfl⟩
  .rcases sub h y hy with h2|⟨rfl,rfl⟩
   .exact d.one h (xV h a) hk x h1 y h2 g c
   .exact(hp hk).2 c x h1 g
  .rcases sub h y hy with h2|⟨_,rfl⟩
   .exact((hp hk).2 g y h2 c).symm
   .rfl
def Dd.Dn(d:Dd A)(ok:CX A e)(hn:(A.nd p).kind=1->(A.nd n).kind=4\/(A.nd n).kind=6):Dd (A.Dn n p bf):=by
 unfold Ar.Dn;split;.exact d
 .rename_i h0;exact d.D9 ok λhk=>⟨hn hk,λc y hy a=>absurd ⟨hk,c,y,hy,a⟩ h0⟩
def Dd.elem(d:Dd A)(ok:CX A e){c:Int}:Dd (A.elem c sp nm at_):=
 d.of ok (λh a=>by rw[(KR a).2];exact⟨rfl,rfl⟩) λh a=>(Va a).1
def Dd.DA(d:Dd b.a)(o:Dz b){q:Int}:Dd (b.DA nm at_ sp q).a:=by
 unfold BS.DA;split;.exact d.elem o.ok
 .exact d
def Dd.DV(d:Dd b.a)(o:Dz b):Dd (b.DV nm at_ sp).a:=by
 unfold BS.DV;split;.rename_i hs;have g:=Qp (A:=b.a) (d:=b.I0 (b.place 0).1) (sp:=sp) (nm:=BS.KO sp nm) (l:=at_.map (Dp sp));obtain⟨c,f,_⟩:=JV (nm:=nm) (at_:=at_) (p:=(b.place 0).1) o hs;show Dd ((b.DA nm at_ sp (b.place 0).1).a.Dn _ _ _);refine(d.DA o).Dn c.ok λ_=> .inl ?_;unfold BS.DA;rw[Ad hs];exact g.2.1
 .exact d
def Dd.add(d:Dd A)(ok:CX A e)(hk:x.AT=[]):Dd (A.add x):=
 d.of ok (λh a=>by rw[Ep a];exact⟨rfl,rfl⟩) λh a=>by
  rw[EB];split;.exact hk
  .rw[IY a]
def Dd.set(d:Dd A)(ok:CX A e){t:Int}(h1:x.AT=(A.nd t).AT)(h2:x.kind=(A.nd t).kind):Dd (A.set t x):=
 d.of ok (λh a=>by
  rw[FA];split;.rename_i e;rw[e.1];exact⟨h1,h2⟩
  .exact⟨rfl,rfl⟩) λh a=>by rw[FA,Ac (show¬(h=t/\A.has t) from λe=>a (e.1▸e.2)),IY a]
def ja{d:Int}{s:Aq}:eS {kind:=5,BO:=d,data:=s}:=by constructor<;>simp[Cl,F9]
def jb{d:Int}{s:Aq}:eS {kind:=6,BO:=d,data:=s}:=by constructor<;>simp[Cl,F9]
def xL(ok:CX A e)(hp:A.has p){s:Aq}:CX (A.add {kind:=5,BO:=(A.nd p).BO,data:=s}) e:=
 Pq ok ja (.inr ⟨show(5:Int)≠1 by decide,ok.BO p hp⟩) rfl rfl rfl rfl λh=>absurd h.1 (Bj:¬(5:Int)=4)
def xM(ok:CX A e)(hp:A.has p){s:Aq}:CX (A.add {kind:=6,BO:=(A.nd p).BO,data:=s}) e:=
 Pq ok jb (.inr ⟨show(6:Int)≠1 by decide,ok.BO p hp⟩) rfl rfl rfl rfl λh=>absurd h.1 (Bj:¬(6:Int)=4)
def Dd.HS(d:Dd A)(ok:CX A e){s:Aq}(hp:A.has p):Dd (BS.HS A s p bf):=by
 unfold BS.HS;split
 .rename_i hk;have new:Dd ((A.add {kind:=5,BO:=(A.nd p).BO,data:=s}).Dn (A.len+1) p bf):=
   (d.add ok rfl).Dn (xL ok hp) λh=>by rw[Ep hp] at h;omega
  split
  .split;.exact d.set ok rfl rfl
   .exact new
  .exact new
 .exact d
def Dd.DD(d:Dd A)(ok:CX A e){s:Aq}:Dd (BS.DD A s p bf):=by
 unfold BS.DD;split
 .rename_i hk;have hp:A.has p:=BN λh=>by rw[IY h] at hk;revert hk;decide
  exact(d.add ok rfl).Dn (xM ok hp) λ_=> .inr (by rw[EB,Ad rfl])
 .exact d
def Dd.Cw{n:Int}:∀{l:List Int} {A:Ar},Dd A->CX A 0->A.has n->(A.nd n).kind=4->Dd (BS.Cw A n l)
 |[],_,d,_,_,_=>d
 |x::l,A,d,ok,hn,hk=>by have l1:Le A (A.D9 n x 0):=M2;exact Dd.Cw (l:=l) (d.D9 ok λh=>by rw[hk] at h;exact absurd h Bj) (MX ok) (l1.has _ hn) (by rw[l1.kind _ hn];exact hk)
def Dd.E7(d:Dd b.a)(o:Dz b){blk anc:Int}{far i:Nat}{l:Int}{m:Nat}(hl:b.a.has l/\(b.a.nd l).kind=4):Dd (BS.E7 blk anc far i b l m).1.a/\(BS.E7 blk anc far i b l m).1.a.has (BS.E7 blk anc far i b l m).2.1/\((BS.E7 blk anc far i b l m).1.a.nd (BS.E7 blk anc far i b l m).2.1).kind=4:=by
 unfold BS.E7;simp only
 split;.exact⟨d,hl⟩
 .split;.exact⟨d,hl⟩
  .generalize b.A9.getD (FF (b.AO.getD i Item.zero).node b.A9).toNat B8.zero=c;obtain⟨j,f,l1⟩:=JV (nm:=c.name) (at_:=c.Av) (p:=anc) o Io;have k:=d.DA (nm:=c.name) (at_:=c.Av) (sp:=1) (q:=anc) o;have g:Le (b.DA c.name c.Av 1 anc).a ((b.DA c.name c.Av 1 anc).a.D9 (b.HG c.name c.Av 1).node l 0):=M2;exact⟨k.D9 j.ok λh=>by rw[f.kind] at h;exact absurd h Bj,g.has _ f.has,by rw[g.kind _ f.has];exact f.kind⟩
def Dd.JT{blk anc:Int}{far k:Nat}:∀{c:Nat} {s:BS×Int×Nat},Dd s.1.a->Dz s.1->(s.1.a.has s.2.1/\(s.1.a.nd s.2.1).kind=4)->Dd (BS.JT blk anc far k c s).1.a/\(BS.JT blk anc far k c s).1.a.has (BS.JT blk anc far k c s).2.1/\((BS.JT blk anc far k c s).1.a.nd (BS.JT blk anc far k c s).2.1).kind=4
 |0,_,d,_,h=>⟨d,h⟩
 |c+1,s,d,o,h=>by have f:=d.E7 (blk:=blk) (anc:=anc) (far:=far) (i:=k+(c+1)) (m:=s.2.2) o h;exact Dd.JT (c:=c) f.1 (Qs o h.1).1 f.2
def Dd.Gk{fe:B8}{blk anc:Int}{s:BS×Int×Nat}(d:Dd s.1.a)(o:Dz s.1)(hl:s.1.a.has s.2.1/\(s.1.a.nd s.2.1).kind=4)(hb:s.1.a.has blk/\(s.1.a.nd blk).kind=4):Dd (BS.Gk fe blk anc s).a:=by
 unfold BS.Gk;simp only
 generalize oS:s.1.place anc=c;have l1:Le s.1.a (s.1.a.Dn s.2.1 c.1 c.2):=HI;have g:=o.JU (Ls (n:=s.2.1) (p:=c.1) (b:=c.2) o.ok) l1;have j:Dd (s.1.a.Dn s.2.1 c.1 c.2):=d.Dn o.ok λ_=> .inl hl.2;generalize MA:({s.1 with a:=s.1.a.Dn s.2.1 c.1 c.2}:BS)=b2 at g;have Pf:b2.a=s.1.a.Dn s.2.1 c.1 c.2:=by rw[<-MA]
 rw[<-Pf] at j l1;obtain⟨i,f,l3⟩:=JV (nm:=fe.name) (at_:=fe.Av) (p:=blk) g Io;have r:=j.DA (nm:=fe.name) (at_:=fe.Av) (sp:=1) (q:=blk) g;have m:=r.Cw (l:=((b2.DA fe.name fe.Av 1 blk).a.nd blk).AT) i.ok f.has f.kind;obtain⟨k,l4⟩:=IC (n:=(b2.HG fe.name fe.Av 1).node) (l:=((b2.DA fe.name fe.Av 1 blk).a.nd blk).AT) i.ok;refine m.D9 k λh=>?_;rw[l4.kind _ (l3.has _ (l1.has _ hb.1)),l3.kind _ (l1.has _ hb.1),l1.kind _ hb.1,hb.2] at h;exact absurd h Bj
end
section
variable{A A' A'':Ar}{b c:BS}{n p bf d e h k:Int}{x:D8}{l m:List Item}{nm:Aq}{at_:List A3}{sp:Int}
structure Lf(A A':Ar):Prop where
 has:∀h,A.has h->A'.has h
 BO:∀h,A.has h->(A'.nd h).BO=(A.nd h).BO
 cont:∀h,A.has h->(A'.nd h).cont=(A.nd h).cont
 inr:∀h,A.inr h≠0->A'.inr h=A.inr h
def Lf.refl:Lf A A:=⟨λ_ h=>h,λ_ _=>rfl,λ_ _=>rfl,λ_ _=>rfl⟩
def Lf.trans(h1:Lf A A')(h2:Lf A' A''):Lf A A'':=⟨λh a=>h2.has h (h1.has h a),λh a=>by rw[h2.BO h (h1.has h a),h1.BO h a],λh a=>by rw[h2.cont h (h1.has h a),h1.cont h a],λh a=>by rw[h2.inr h (by rw[h1.inr h a];exact a),h1.inr h a]⟩
def Vb(h1:x.BO=(A.nd n).BO)(h2:x.cont=(A.nd n).cont):Lf A (A.set n x):=by
 refine⟨λk hk=>HE.2 hk,λk hk=>?_,λk hk=>?_,λk _=>Lq⟩<;>rw[FA]<;>split;.rename_i e;rw[e.1,h1]
 .rfl
 .rename_i e;rw[e.1,h2]
 .rfl
def l8{q:List Int}:Lf A (A.set h {A.nd h with AT:=q}):=Vb rfl rfl
def mA:Lf A (A.set h {A.nd h with FL:=p}):=Vb rfl rfl
def yt:Lf A (A.cut n):=by
 unfold Ar.cut;simp only;split;.exact .refl
 .exact Lf.trans l8 mA
def QH:Lf A (A.D9 p n bf):=by
 unfold Ar.D9;split;.exact yt.trans (Lf.trans l8 mA)
 .exact .refl
def OB:Lf A (A.Dn n p bf):=by unfold Ar.Dn;split;exact .refl;exact QH
def gT(il:A.i.length=A.n.length):Lf A (A.add x):=⟨λh a=>Dh.2 (.inl a),λh a=>by rw[Ep a],λh a=>by rw[Ep a],λh _=>IZ il⟩
def N7(il:A.i.length=A.n.length):(A.add x).i.length=(A.add x).n.length:=by simp[Ar.add,il]
def Tc(il:A.i.length=A.n.length):(A.Kc h k).i.length=(A.Kc h k).n.length:=by
 simp only[Ar.Kc];split;.rw[Bv];exact il
 .exact il
def bD(il:A.i.length=A.n.length):(A.CO d).i.length=(A.CO d).n.length:=by
 unfold Ar.CO;split;.exact il
 .exact Tc (Tc (N7 il))
def yu(a:¬A.has h):A.inr h=0:=by unfold Ar.inr;rw[Ac a]
def pP(il:A.i.length=A.n.length)(h1:A.inr h≠0):(A.CO d).inr h=A.inr h:=by
 unfold Ar.CO;split;.rfl
 .rename_i h0;rw[KN (Tc (N7 il)),Ac (show¬(h=A.len+1/\_) from λe=>h1 (by rw[e.1];exact yu NX)),KN (N7 il),Ac (show¬(h=d/\_) from λe=>h0 (e.1▸h1)),IZ il]
def gU(il:A.i.length=A.n.length)(hd:A.has d):(A.CO d).inr d=A.Gj d:=by
 unfold Ar.CO Ar.Gj;split;.rfl
 .rw[KN (Tc (N7 il)),Ac (show¬(d=A.len+1/\_) from λe=>Pu hd e.1),KN (N7 il),Ad ⟨rfl,Dh.2 (.inl hd)⟩]
def mB(il:A.i.length=A.n.length):Lf A (A.elem d sp nm at_):=by
 refine⟨λh a=>(KR a).1,λh a=>by rw[(KR a).2],λh a=>by rw[(KR a).2],λh a=>?_⟩;unfold Ar.elem;simp only
 split;.rw[Lq,IZ (bD (N7 il)),pP (N7 il) (by rw[IZ il];exact a),IZ il]
 .exact IZ il
def jc(il:A.i.length=A.n.length)(hd:A.has d)(g:¬A.has h):((A.elem d sp nm at_).nd h).cont≠0->(A.elem d sp nm at_).inr ((A.elem d sp nm at_).nd h).BO=((A.elem d sp nm at_).nd ((A.elem d sp nm at_).nd h).cont).BO:=by
 have a:(A.nd h).cont=0:=by rw[IY g]
 have f:∀(B:Ar) (k y z:Int),(B.Kc k y).nd z=B.nd z:=λ_ _ _ _=>rfl;unfold Ar.elem;simp only
 split
 .generalize hx:({kind:=4,BO:=d,AW:=sp,name:=nm,Av:=Cl at_}:D8)=x;have o:x.BO=d:=by rw[<-hx]
  have i1:=N7 (x:=x) il;have h1:(A.add x).has d:=Dh.2 (.inl hd);have PF:(A.add x).has (A.len+1):=Dh.2 (.inr rfl);have Vq:((A.add x).CO d).has (A.len+1):=Kz PF;have YP:((A.add x).CO d).len+1≠A.len+1:=λe=>Pu Vq e.symm;by_cases e:h=A.len+1
  .subst e;intro _;have j:((((A.add x).CO d).add {kind:=2,C0:=A.len+1,BO:=(A.add x).Gj d}).set (A.len+1) {kind:=4,BO:=d,AW:=sp,name:=nm,Av:=Cl at_,cont:=((A.add x).CO d).len+1}).nd (A.len+1)={kind:=4,BO:=d,AW:=sp,name:=nm,Av:=Cl at_,cont:=((A.add x).CO d).len+1}:=by rw[FA,Ad ⟨rfl,Dh.2 (.inl Vq)⟩]
   rw[j];show _=(Ar.nd _ (((A.add x).CO d).len+1)).BO;rw[FA,Ac (show¬(((A.add x).CO d).len+1=A.len+1/\_) from λe=>YP e.1),EB,Ad rfl,Lq,IZ (bD i1)];show((A.add x).CO d).inr d=_;exact gU i1 h1
  .intro hc;exfalso;apply hc;rw[FA,Ac (λq=>e q.1),EB];split;.rfl
   .unfold Ar.CO;split;.rw[EB,Ac e];exact a
    .rw[f,f,EB];split;.rfl
     .rw[EB,Ac e];exact a
 .intro hc;exfalso;apply hc;rw[EB];split;.rfl
  .exact a
structure Df(A:Ar):Prop where
 kd:∀h,A.has h->∀k∈(A.nd h).AT,(A.nd k).BO=(A.nd h).BO
 ct:∀h,A.has h->(A.nd h).cont≠0->A.inr (A.nd h).BO=(A.nd (A.nd h).cont).BO
 kt:∀h,A.has h->(A.nd h).cont≠0->(A.nd h).AT=[]
def YC(ok:CX A e)(a:A.has h):(A.nd h).BO≠0:=by have:=(ok.BO h a).1.1;omega
def Df.ctl(j:Df A)(ok:CX A e)(l:Lf A A')(a:A.has h)(hc:(A'.nd h).cont≠0):A'.inr (A'.nd h).BO=(A'.nd (A'.nd h).cont).BO:=by rw[l.cont h a] at hc⊢;have c:=ok.cont h a hc;have e:=j.ct h a hc;rw[l.BO h a,l.BO _ c.1,<-e];exact l.inr _ (by rw[e];exact YC ok c.1)
def Df.of(j:Df A)(ok:CX A e)(l:Lf A A')(hk:∀h,A.has h->(A'.nd h).AT=(A.nd h).AT)(hn:∀h,¬A.has h->(A'.nd h).AT=[]/\((A'.nd h).cont≠0->A'.inr (A'.nd h).BO=(A'.nd (A'.nd h).cont).BO)):Df A':=by
 refine⟨λh f k hm=>?_,λh f hc=>?_,λh f hc=>?_⟩
 .by_cases a:A.has h;.rw[hk h a] at hm;rw[l.BO h a,l.BO k (ok.IG h a k hm).1];exact j.kd h a k hm
  .rw[(hn h a).1] at hm;cases hm
 .by_cases a:A.has h;.exact j.ctl ok l a hc
  .exact(hn h a).2 hc
 .by_cases a:A.has h;.rw[l.cont h a] at hc;rw[hk h a];exact j.kt h a hc
  .exact(hn h a).1
def Df.D9(j:Df A)(ok:CX A e)(h1:(A.nd n).BO=(A.nd p).BO)(h2:(A.nd p).cont=0):Df (A.D9 p n bf):=by
 have L:=QH (A:=A) (p:=p) (n:=n) (bf:=bf);unfold Ar.D9 at L⊢;split at L;rotate_left;.rename_i f;rw[Ac f];exact j
 rename_i f;rw[Ad f];have hne:n≠p:=λe=>f.re (e▸ .refl);have r:=λk=>Pr ok f.hn (k:=k);have q:=λk=>X6 (A:=A.cut n) (b:=bf) (HF.2 f.hp) (HF.2 f.hn) hne (k:=k);have o:∀k,∀m∈((A.cut n).nd k).AT,m∈(A.nd k).AT:=λk m hm=>by
  rw[r] at hm;split at hm;.rename_i e;rw[e];exact hm
  .split at hm;.exact(CG.1 hm).1
   .exact hm
 have sub:∀k,∀m∈(((A.cut n).My p n bf).nd k).AT,m∈(A.nd k).AT\/(k=p/\m=n):=λk m hm=>by
  rw[q] at hm;split at hm;.rename_i e;subst e;exact .inl (o _ m hm)
  .split at hm
   .rename_i e;subst e;rcases Mo.1 hm with rfl|hm
    .exact .inr ⟨rfl,rfl⟩
    .exact .inl (o _ m hm)
   .exact .inl (o _ m hm)
 have xV:∀h,((A.cut n).My p n bf).has h->A.has h:=λh a=>HF.1 (S3.1 a);refine⟨λh a k hm=>?_,λh a hc=>j.ctl ok L (xV h a) hc,λh a hc=>?_⟩
 .have g:=xV h a;rcases sub h k hm with i|⟨rfl,rfl⟩
  .rw[L.BO h g,L.BO k (ok.IG h g k i).1];exact j.kd h g k i
  .rw[L.BO _ g,L.BO _ f.hn];exact h1
 .have g:=xV h a;rw[L.cont h g] at hc;refine gZ.2 λk hm=>?_;rcases sub h k hm with i|⟨rfl,rfl⟩
  .rw[j.kt h g hc] at i;cases i
  .exact hc h2
def Df.Dn(j:Df A)(ok:CX A e)(h1:(A.nd n).BO=(A.nd p).BO)(h2:(A.nd p).cont=0):Df (A.Dn n p bf):=by
 unfold Ar.Dn;split;.exact j
 .exact j.D9 ok h1 h2
def Df.elem(j:Df A)(ok:CX A e)(hd:A.has d):Df (A.elem d sp nm at_):=
 j.of ok (mB ok.il) (λh a=>by rw[(KR a).2]) λh a=>⟨(Va a).1,jc ok.il hd a⟩
def Df.add(j:Df A)(ok:CX A e)(hk:x.AT=[])(hc:x.cont=0):Df (A.add x):=
 j.of ok (gT ok.il) (λh a=>by rw[Ep a]) λh a=>by
  rw[EB];split;.exact⟨hk,λh=>absurd hc h⟩
  .rw[IY a];exact⟨rfl,λh=>absurd rfl h⟩
def Df.set(j:Df A)(ok:CX A e)(h1:x.AT=(A.nd n).AT)(h2:x.BO=(A.nd n).BO)(f:x.cont=(A.nd n).cont):Df (A.set n x):=
 j.of ok (Vb h2 f) (λh a=>by
  rw[FA];split;.rename_i e;rw[e.1];exact h1
  .rfl) λh a=>by
  rw[FA,Ac (show¬(h=n/\A.has n) from λe=>a (e.1▸e.2)),IY a];exact⟨rfl,λh=>absurd rfl h⟩
def Df.HS(j:Df A)(ok:CX A e){s:Aq}(hp:A.has p)(hc:(A.nd p).cont=0):Df (BS.HS A s p bf)/\Lf A (BS.HS A s p bf):=by
 unfold BS.HS;split
 .have new:Df ((A.add {kind:=5,BO:=(A.nd p).BO,data:=s}).Dn (A.len+1) p bf)/\Lf A ((A.add {kind:=5,BO:=(A.nd p).BO,data:=s}).Dn (A.len+1) p bf):=
   ⟨(j.add ok rfl rfl).Dn (xL ok hp) (by rw[EB,Ad rfl,Ep hp]) (by rw[Ep hp];exact hc),(gT ok.il).trans OB⟩
  split
  .split;.exact⟨j.set ok rfl rfl rfl,Vb rfl rfl⟩
   .exact new
  .exact new
 .exact⟨j,.refl⟩
def Df.DD(j:Df A)(ok:CX A e){s:Aq}(hp:A.has p)(hc:(A.nd p).cont=0):Df (BS.DD A s p bf)/\Lf A (BS.DD A s p bf):=by
 unfold BS.DD;split;.exact⟨(j.add ok rfl rfl).Dn (xM ok hp) (by rw[EB,Ad rfl,Ep hp]) (by rw[Ep hp];exact hc),(gT ok.il).trans OB⟩
 .exact⟨j,.refl⟩
def dn(A:Ar)(h:Int):Int:=if(A.nd h).cont≠0 then(A.nd (A.nd h).cont).BO else(A.nd h).BO
def jd(hc:(A.nd h).cont=0):dn A h=(A.nd h).BO:=by unfold dn;rw[Ac (by simp[hc])]
def Lf.dn(l:Lf A A')(ok:CX A e)(a:A.has h):Go.Am.dn A' h=Go.Am.dn A h:=by
 unfold Go.Am.dn;rw[l.cont h a,l.BO h a];split;.rename_i hc;rw[l.BO _ (ok.cont h a hc).1]
 .rfl
def pQ(o:Dz b)(hp:b.a.has p):b.I0 p=dn b.a p:=by
 unfold BS.I0 dn;split;.rename_i hc;rw[Ad (YC o.ok (o.ok.cont p hp hc).1)]
 .rw[Ad (YC o.ok hp)]
def Ch(A:Ar):Int->List Item->Prop
 |_,[]=>True
 |d,x::l=>(A.nd x.node).BO=d/\Ch A (dn A x.node) l
def En(A:Ar):Int->List Item->Int
 |d,[]=>d
 |_,x::l=>En A (dn A x.node) l
def M7:∀{l:List Item} {d:Int},Ch A d (l++m)↔Ch A d l/\Ch A (En A d l) m
 |[],d=>by simp[Ch,En]
 |x::l,d=>by show(_/\Ch A (dn A x.node) (l++m))↔(_/\Ch A (dn A x.node) l)/\Ch A (En A (dn A x.node) l) m;rw[M7 (l:=l),and_assoc]
def Vc:∀{l:List Item} {d:Int},En A d (l++m)=En A (En A d l) m
 |[],d=>rfl
 |x::l,d=>Vc (l:=l)
def WY(L:Lf A A')(ok:CX A e):∀{l:List Item} {d:Int},(∀i∈l,A.has i.node)->Ch A d l->Ch A' d l/\En A' d l=En A d l
 |[],d,_,_=>⟨trivial,rfl⟩
 |x::l,d,ho,h=>by have hx:=ho x Aw;have r:=WY L ok (l:=l) (d:=dn A x.node) (λi hi=>ho i (by simp[hi])) h.2;refine⟨⟨by rw[L.BO _ hx];exact h.1,by rw[L.dn ok hx];exact r.1⟩,?_⟩;show En A' (dn A' x.node) l=En A (dn A x.node) l;rw[L.dn ok hx];exact r.2
def Tf(A:Ar)(d:Int)(l:List Item):Prop:=∀x∈l,(A.nd x.node).BO=d/\(A.nd x.node).cont=0
def Tf.ch:∀{l:List Item},Tf A d l->Ch A d l/\En A d l=d
 |[],_=>⟨trivial,rfl⟩
 |x::l,h=>by
  have hx:=h x Aw;have r:=Tf.ch (l:=l) (λi hi=>h i (by simp[hi]));have e:dn A x.node=d:=by rw[jd hx.2];exact hx.1
  exact⟨⟨hx.1,by rw[e];exact r.1⟩,by show En A (dn A x.node) l=d;rw[e];exact r.2⟩
def mC:∀{l:List Item} {d:Int},Ch A d l->(∀x∈l,(A.nd x.node).cont=0)->Tf A d l
 |[],_,_,_=>λx hx=>nomatch hx
 |x::l,d,h,hc=>by
  have e:dn A x.node=d:=by rw[jd (hc x Aw)];exact h.1
  have r:=mC (l:=l) (d:=d) (by rw[<-e];exact h.2) λy hy=>hc y (by simp[hy]);intro y hy;rcases Az.1 hy with rfl|hy
  .exact⟨h.1,hc _ Aw⟩
  .exact r y hy
def Tf.lf(t:Tf A d l)(L:Lf A A')(ho:∀i∈l,A.has i.node):Tf A' d l:=λx hx=>by rw[L.BO _ (ho x hx),L.cont _ (ho x hx)];exact t x hx
def Vd{u v:List Item}{x:Item}:EA (u++x::v) (u.length:Int)=x:=by unfold EA;rw[Ad Ab];simp
def xN(h:l≠[]):En A d l=dn A (E6 l).node:=by
 obtain⟨u,x,rfl⟩:∃u x,l=u++[x]:=⟨l.dropLast,l.getLast h,(Ib h).symm⟩;have e:E6 (u++[x])=x:=by have:=Vd (u:=u) (v:=[]) (x:=x);unfold E6;rw[Ap];simpa using this
 rw[e,Vc];rfl
def yv{i:Nat}(h:i<l.length):l=l.take i++l[i]::l.drop (i+1):=by rw[<-AA h,BM]
def Px(o:Dz b){i:Item}(hi:i∈b.AO)(h:(b.a.nd i.node).cont≠0):Bl [AY] i=true:=by have q:=o.op i hi;have t:=(o.ok.NW _ q.1).Mm h;unfold S2 at t;unfold Bl;rw[<-q.2.2.1,<-q.2.2.2,t.2.1,t.2.2];simp
def je(o:Dz b)(j:Df b.a)(ch:Ch b.a b.BO b.AO)(hn:b.AO≠[]):dn b.a b.JS.1=En b.a b.BO b.AO:=by
 generalize w:En b.a b.BO b.AO=D;have hl:0<b.AO.length:=DB.2 hn;have at_:∀i:Nat,(hi:i<b.AO.length)->EA b.AO i=b.AO[i]:=λi hi=>by unfold EA;rw[Ad Ab];simp[hi]
 have key:(0<=AG (Bl [AY]) b.AO->dn b.a (EA b.AO (AG (Bl [AY]) b.AO)).node=D/\Bl [AY] (EA b.AO (AG (Bl [AY]) b.AO))=true)/\∀i:Int,AG (Bl [AY]) b.AO<i->i<b.AO.length->(b.a.nd (EA b.AO i).node).BO=D/\(b.a.nd (EA b.AO i).node).cont=0:=by
  rcases CV (q:=Bl [AY]) (l:=b.AO) with⟨h1,h2⟩|⟨t,ht,h1,h2,C⟩
  .rw[h1];refine⟨λh=>absurd h Bj,λi H B=>?_⟩;have f:=mC ch λx hx=>BN λhc=>by have:=Px o hx hc;rw[h2 x hx] at this;cases this
   have:=f (EA b.AO i) (Ik Ab B);rw[f.ch.2] at w;rw[<-w];exact this
  .rw[h1];have e:=yv ht;have g:=ch;rw[e,M7] at g;have f:Tf b.a (dn b.a b.AO[t].node) (b.AO.drop (t+1)):=mC g.2.2 λx hx=>BN λhc=>by have J:=Px o (A6 hx) hc;obtain⟨k,hk,E⟩:=aBu hx;rw[AV] at hk;rw[bK] at E;have:=C (t+1+k) Ab Ab;rw[E,J] at this;cases this
   have F:dn b.a b.AO[t].node=D:=by
    rw[<-w];conv=>rhs;rw[e,Vc]
    exact f.ch.2.symm
   refine⟨λ_=>by rw[at_ t ht];exact⟨F,h2⟩,λi H B=>?_⟩;obtain⟨i,rfl⟩:∃j:Nat,i=j:=⟨i.toNat,Ab⟩;rw[at_ i Ab,<-F];refine f _ ?_;have I:b.AO[i]=(b.AO.drop (t+1))[i-(t+1)]'(by rw[AV];omega):=by rw[bK];congr 1;omega
   rw[I];exact AJ _
 have L:=Il (q:=Bl [AY]) (l:=b.AO);have K:=Il (q:=Bl [Fe]) (l:=b.AO);have G:0<=AG (Bl [Fe]) b.AO->Bl [Fe] (EA b.AO (AG (Bl [Fe]) b.AO))=true:=by
  rcases CV (q:=Bl [Fe]) (l:=b.AO) with⟨h1,_⟩|⟨t,ht,h1,h2,_⟩
  .rw[h1];exact λh=>absurd h Bj
  .rw[h1,at_ t ht];exact λ_=>h2
 obtain⟨z,y⟩:=key;have ne:0<=AG (Bl [Fe]) b.AO->AG (Bl [Fe]) b.AO≠AG (Bl [AY]) b.AO:=λh0 he=>by have u:=G h0;rw[he] at u h0;have s:=(z h0).2;unfold Bl at u s;simp only[C9,Dl] at u s;rw[u.2] at s;exact absurd s.2 Bj
 unfold BS.JS;simp only
 generalize AG (Bl [AY]) b.AO=v at*;generalize AG (Bl [Fe]) b.AO=r at*;have Xi:∀i:Int,0<=i->v<=i->i<b.AO.length->dn b.a (EA b.AO i).node=D:=λi h0 h1 h2=>by
  by_cases he:v=i;.subst he;exact(z h0).1
  .have:=y i Ab h2;rw[jd this.2];exact this.1
 split;.rename_i h1;exact Xi v Ab Ab Ab
 .split;.exact Xi 0 Ab Ab Ab
  .rename_i h1 h2;have C:=ne Ab;have ht:=y r Ab Ab;have hm:=o.op _ (Ik (l:=b.AO) (i:=r) Ab Ab);split;.rename_i hp;have pY:=o.ok.FL _ hm.1 hp;show dn b.a (b.a.nd (EA b.AO r).node).FL=D;rw[jd (BN λhc=>by have:=j.kt _ pY.1 hc;rw[this] at pY;cases pY.2),<-j.kd _ pY.1 _ pY.2];exact ht.1
   .show dn b.a (EA b.AO (max (r-1) 0)).node=D;exact Xi _ Ab Ab Ab
def WZ(o:Dz b)(f:b.a.has h)(hk:(b.a.nd h).kind≠4):(b.a.nd h).cont=0:=BN λhc=>hk ((o.ok.NW _ f).Mm hc).1
def QI(o:Dz b)(j:Df b.a)(ch:Ch b.a b.BO b.AO){t:Int}(ht:t=0\/(b.a.has t/\b.AO≠[]/\dn b.a t=En b.a b.BO b.AO)):(b.a.nd (b.place t).1).BO=En b.a b.BO b.AO/\(b.a.nd (b.place t).1).cont=0:=by
 unfold BS.place;simp only
 split;.rename_i h0;refine⟨?_,WZ o o.BO.1 (by rw[o.BO.2];decide)⟩;rw[h0.2];exact o.ok.Ux _ o.BO.1 o.BO.2
 .rename_i h0;have hn:b.AO≠[]:=by
   rcases ht with h|h
   .intro h2;exact h0 ⟨h,h2⟩
   .exact h.2.1
  have h1:b.a.has (if t=0 then(E6 b.AO).node else t)/\dn b.a (if t=0 then(E6 b.AO).node else t)=En b.a b.BO b.AO:=by
   split;.exact⟨(o.op _ (Rt hn)).1,(xN hn).symm⟩
   .rename_i h2;exact⟨(ht.resolve_left h2).1,(ht.resolve_left h2).2.2⟩
  generalize(if t=0 then(E6 b.AO).node else t)=t' at h1;have h2:b.a.has (if b.ES=true/\X7 Hb b.a t' then b.JS else(t',0)).1/\dn b.a (if b.ES=true/\X7 Hb b.a t' then b.JS else(t',0)).1=En b.a b.BO b.AO:=by
   split;.exact⟨(jX o hn).1,je o j ch hn⟩
   .exact h1
  generalize(if b.ES=true/\X7 Hb b.a t' then b.JS else(t',0))=f at h2;unfold dn at h2;split;.rename_i hc;rw[Ad hc] at h2;have:=o.ok.cont _ h2.1 hc;exact⟨h2.2,WZ o this.1 (by rw[this.2.1];decide)⟩
  .rename_i hc;rw[Ac hc] at h2;exact⟨h2.2,BN hc⟩
end
section
variable{A A' A'':Ar}{b c:BS}{n p bf d e h k D:Int}{x:D8}{l m:List Item}{nm:Aq}{at_:List A3}{sp:Int}{q r:Item->Bool}{es:List B8}
def yw(A:Ar)(l:List B8):Prop:=∀e∈l,e.name≠AY/\(e.node≠0->(A.nd e.node).cont=0)
def yw.lf(h:yw A es)(L:Lf A A')(ha:∀e∈es,e.node=0\/(A.has e.node/\(A.nd e.node).kind=4)):yw A' es:=λe he=>⟨(h e he).1,λh0=>by rw[L.cont _ ((ha e he).resolve_left h0).1];exact(h e he).2 h0⟩
structure Pd(b:BS):Prop where
 df:Df b.a
 ch:Ch b.a b.BO b.AO
 an:yw b.a b.A9
def Pd.US(P:Pd b)(o:Dz b)(L:Lf b.a A')(j:Df A'):Pd {b with a:=A'}:=⟨j,(WY L o.ok (λi hi=>(o.op i hi).1) P.ch).1,P.an.lf L o.ac⟩
def Pd.QY(P:Pd b)(h:l<+:b.AO):Pd {b with AO:=l}:=by obtain⟨r,e⟩:=h;have:=P.ch;rw[<-e,M7] at this;exact⟨P.df,this.1,P.an⟩
def Pd.jf(P:Pd b)(h:yw b.a es):Pd {b with A9:=es}:=⟨P.df,P.ch,h⟩
def Pd.sub(P:Pd b)(h:∀e∈es,e∈b.A9):Pd {b with A9:=es}:=P.jf λe he=>P.an e (h e he)
def Pd.eq(P:Pd b)(h1:c.a=b.a)(h2:c.BO=b.BO)(g:c.AO=b.AO)(f:c.A9=b.A9):Pd c:=⟨by rw[h1];exact P.df,by rw[h1,h2,g];exact P.ch,by rw[h1,f];exact P.an⟩
def W0:∀l:List Item,Ml q r l<:+l
 |[]=>hZ _
 |[x]=>hZ _
 |x::y::l=>by
  unfold Ml;split;.exact hZ _
  .split;.exact List.suffix_cons _ _
   .exact(W0 (y::l)).trans (List.suffix_cons _ _)
def KV:E0 q r l<+:l:=by have h:(Ml q r l.reverse).reverse<+:l.reverse.reverse:=List.reverse_prefix.2 (W0 _);rw[EH] at h;exact h
def Sm:GK n l<+:l:=by unfold GK;split;exact List.prefix_refl _;exact KV
def QJ:(b.DA nm at_ sp p).AO=b.AO:=by unfold BS.DA;split<;>rfl
def YD:(b.DA nm at_ sp p).A9=b.A9:=by unfold BS.DA;split<;>rfl
def QK:(b.DA nm at_ sp p).BO=b.BO:=by unfold BS.DA;split<;>rfl
def Mv(hs:BS.HR sp):(b.HG nm at_ sp).node=b.a.len+1:=by unfold BS.HG;rw[Ad hs]
def Ve(o:Dz b):Lf b.a (b.DA nm at_ sp p).a:=by
 unfold BS.DA;split;.exact mB o.ok.il
 .exact .refl
def Df.DA(j:Df b.a)(o:Dz b):Df (b.DA nm at_ sp p).a:=by
 unfold BS.DA;split;.exact j.elem o.ok (Ot o.ba).1
 .exact j
def YE(o:Dz b)(hs:BS.HR sp)(hp:b.a.has p):((b.DA nm at_ sp p).a.nd (b.a.len+1)).BO=dn b.a p:=by rw[<-pQ o hp];unfold BS.DA;rw[Ad hs];exact Qp.2.2.2.2.2.2.1
def YF(o:Dz b)(hn:nm≠AY):((b.DA nm at_ 1 p).a.nd (b.a.len+1)).cont=0:=by
 obtain⟨i,f,_⟩:=JV (nm:=nm) (at_:=at_) (p:=p) o Io;have g:=Mv (b:=b) (nm:=nm) (at_:=at_) Io;have j:(b.HG nm at_ 1).name=nm:=by unfold BS.HG;rw[Ad Io];simp[BS.KO]
 refine BN λhc=>hn ?_;have t:=(i.ok.NW _ (g▸f.has)).Mm hc;rw[<-j,<-f.name,g];exact t.2.2
def Pd.DA(P:Pd b)(o:Dz b):Pd (b.DA nm at_ sp p):=by have L:=Ve (nm:=nm) (at_:=at_) (sp:=sp) (p:=p) o;exact⟨P.df.DA o,by rw[QK,QJ];exact(WY L o.ok (λi hi=>(o.op i hi).1) P.ch).1,by rw[YD];exact P.an.lf L o.ac⟩
def Pd.DV(P:Pd b)(o:Dz b):Pd (b.DV nm at_ sp)/\Lf b.a (b.DV nm at_ sp).a:=by
 unfold BS.DV;split;rotate_left;.exact⟨P,.refl⟩
 rename_i hs;obtain⟨w,f,_⟩:=JV (nm:=nm) (at_:=at_) (p:=(b.place 0).1) o hs;have s:=Ve (nm:=nm) (at_:=at_) (sp:=sp) (p:=(b.place 0).1) o;have B:=P.DA (nm:=nm) (at_:=at_) (sp:=sp) (p:=(b.place 0).1) o;have g:=QI o P.df P.ch (t:=0) (.inl rfl);have hp:=(KS o (t:=0) (.inl rfl)).1;have z:=Mv (b:=b) (nm:=nm) (at_:=at_) hs;have u:=YE (nm:=nm) (at_:=at_) o hs hp;rw[jd g.2,g.1] at u;have F:=QJ (b:=b) (nm:=nm) (at_:=at_) (sp:=sp) (p:=(b.place 0).1);have G:=QK (b:=b) (nm:=nm) (at_:=at_) (sp:=sp) (p:=(b.place 0).1);have y:=f.has;rw[z] at y;have E:((b.DA nm at_ sp (b.place 0).1).a.nd (b.place 0).1).BO=En b.a b.BO b.AO:=by rw[s.BO _ hp];exact g.1
 have C:((b.DA nm at_ sp (b.place 0).1).a.nd (b.place 0).1).cont=0:=by rw[s.cont _ hp];exact g.2
 simp only
 generalize b.DA nm at_ sp (b.place 0).1=b1 at*;have j:Lf b1.a (b1.a.Dn (b.a.len+1) (b.place 0).1 (b.place 0).2):=OB;have v:=B.US w j (B.df.Dn w.ok (u.trans E.symm) C);refine⟨⟨v.df,?_,v.an⟩,s.trans j⟩;show Ch (b1.a.Dn (b.a.len+1) (b.place 0).1 (b.place 0).2) b1.BO (b1.AO++[b.HG nm at_ sp]);refine M7.2 ⟨v.ch,?_,trivial⟩;rw[z,j.BO _ y,u,F,G,(WY (s.trans j) o.ok (λi hi=>(o.op i hi).1) P.ch).2]
def bE(o:Dz b)(hn:nm≠AY):(b.DV nm at_ 1).a.has (b.a.len+1)/\((b.DV nm at_ 1).a.nd (b.a.len+1)).cont=0:=by obtain⟨j,f,_⟩:=JV (nm:=nm) (at_:=at_) (p:=(b.place 0).1) o Io;have g:=f.has;rw[Mv Io] at g;unfold BS.DV;rw[Ad Io];have i:Lf (b.DA nm at_ 1 (b.place 0).1).a ((b.DA nm at_ 1 (b.place 0).1).a.Dn (b.a.len+1) (b.place 0).1 (b.place 0).2):=OB;exact⟨i.has _ g,by show(((b.DA nm at_ 1 (b.place 0).1).a.Dn (b.a.len+1) (b.place 0).1 (b.place 0).2).nd (b.a.len+1)).cont=0;rw[i.cont _ g];exact YF o hn⟩
def pR{y z:B8}(h:z∈UB y es):z=y\/z∈es:=by
 unfold UB at h;rcases Ak.1 h with h|h
 .split at h;.exact .inr (Ck.subset h)
  .exact .inr h
 .exact .inl (by simpa using h)
def Pd.Ij(P:Pd b)(o:Dz b)(hn:nm≠AY):Pd (b.Ij nm at_):=by
 unfold BS.Ij;simp only
 have a:=(P.DV (nm:=nm) (at_:=at_) (sp:=1) o).1;refine a.jf λe he=>?_;rcases pR he with rfl|he
 .exact⟨hn,λ_=>(bE o hn).2⟩
 .exact a.an e he
def Pd.HH:∀{es:List B8} {b:BS},Pd b->Dz b->(∀e∈es,e.name≠AY)->Pd (BS.HH es b).2/\Lf b.a (BS.HH es b).2.a/\yw (BS.HH es b).2.a (BS.HH es b).1
 |[],b,P,o,_=>⟨P,.refl,λ_ h=>nomatch h⟩
 |e::es,b,P,o,h=>by
  have i:=NZ (nm:=e.name) (at_:=e.Av) (sp:=1) o;have f:=P.DV (nm:=e.name) (at_:=e.Av) (sp:=1) o;have hn:=h e Aw;have q:=bE (at_:=e.Av) o hn;obtain⟨j,g,h2⟩:=Pd.HH (es:=es) f.1 i (λx hx=>h x (by simp[hx]));refine⟨j,f.2.trans g,λx hx=>?_⟩;rcases Az.1 hx with rfl|hx
  .refine⟨hn,λ_=>?_⟩;show((BS.HH es (b.DV e.name e.Av 1)).2.a.nd (b.a.len+1)).cont=0;rw[g.cont _ q.1];exact q.2
  .exact h2 x hx
def Pd.Eb(P:Pd b)(o:Dz b):Pd b.Eb:=by
 unfold BS.Eb;simp only
 obtain⟨a,f,h2⟩:=P.HH (es:=b.A9.drop b.MZ) o λe he=>(P.an e (A6 he)).1;refine a.jf λe he=>?_;rcases Ak.1 he with he|he
 .exact(P.an.lf f o.ac) e (AN he)
 .exact h2 e he
def Pd.Dw(P:Pd b):Pd (b.Dw nm):=by
 unfold BS.Dw;split
 .split;.exact P.QY (Sm.trans KV)
  .exact P
 .exact P
def Pd.S4(P:Pd b):Pd b.S4:=by
 unfold BS.S4;split;.exact P
 .exact P.QY (List.take_prefix _ _)
def Pd.C7(P:Pd b):Pd b.C7:=by
 unfold BS.C7;split;.exact P
 .exact((P.QY (l:=E0 Ee (Bl [AY]) (E0 DG Ee b.AO)) (KV.trans KV)).sub (es:=HQ b.A9) λe he=>AN he).eq rfl rfl rfl rfl
def Pd.I1(P:Pd b):Pd b.I1:=by
 unfold BS.I1;split;.exact P.QY (KV.trans KV)
 .exact P
def Pd.H8(P:Pd b)(o:Dz b){at_:List A3}{k:Int}:Pd (b.H8 at_ k):=by
 unfold BS.H8;split;.exact P.US o (Vb rfl rfl) (P.df.set o.ok rfl rfl rfl)
 .exact P
def Pd.Z7(P:Pd b)(o:Dz b){s:Int}:Pd (b.Z7 s):=by have a:=QI o P.df P.ch (t:=0) (.inl rfl);have hp:=(KS o (t:=0) (.inl rfl)).1;have r:=P.df.HS (bf:=(b.place 0).2) (s:=Ku s) o.ok hp a.2;exact P.US o r.2 r.1
def Pd.JH(P:Pd b)(o:Dz b){s:Aq}:Pd (b.JH s 0):=by have a:=QI o P.df P.ch (t:=0) (.inl rfl);have hp:=(KS o (t:=0) (.inl rfl)).1;have r:=P.df.DD (bf:=(b.place 0).2) (s:=s) o.ok hp a.2;exact P.US o r.2 r.1
def bF{U:Type}{q e:U->Bool}:∀{r:List U},Mk q e r=true->∃C i A,r=C++i::A/\q i=true/\∀y∈C,q y=false/\e y=false
 |[],h=>by cases h
 |a::r,h=>by
  rw[Mk] at h;split at h;.rename_i h1;exact⟨[],a,r,rfl,h1,λy hy=>by cases hy⟩
  .rename_i h1;split at h;.cases h
   .rename_i h2;obtain⟨C,i,A,j,g,f⟩:=bF h;refine⟨a::C,i,A,by rw[j];rfl,g,λy hy=>?_⟩;rcases Az.1 hy with rfl|hy
    .exact⟨by simpa using h1,by simpa using h2⟩
    .exact f y hy
def Sn{U:Type}{q:U->Bool}{u v:List U}{x:U}(hx:q x=true)(hv:∀y∈v,q y=false):AG q (u++x::v)=(u.length:Int):=by
 rcases CV (q:=q) (l:=u++x::v) with⟨_,h2⟩|⟨t,ht,h1,h2,a⟩
 .rw[h2 x Aw] at hx;cases hx
 .rw[h1];rcases bJ t u.length with h|h|h
  .have:=a u.length Aw h;rw[Jh (Af _)] at this;simp[hx] at this
  .rw[h]
  .rw[Jh Ab] at h2;obtain⟨w,hw⟩:∃w,t-u.length=w+1:=⟨t-u.length-1,Ab⟩;simp only[hw,List.getElem_cons_succ] at h2;rw[hv _ (AJ _)] at h2;cases h2
def yy{q e:Item->Bool}(h:Mk q e l.reverse=true):∃u x v,l=u++x::v/\AG q l=(u.length:Int)/\q x=true/\∀y∈v,e y=false:=by
 obtain⟨C,i,B,h1,h2,a⟩:=bF h;have hl:l=B.reverse++i::C.reverse:=by have:=Ca List.reverse h1;rw[EH] at this;rw[this];simp
 exact⟨B.reverse,i,C.reverse,hl,by rw[hl];exact Sn h2 λy hy=>(a y (by simpa using hy)).1,h2,λy hy=>(a y (by simpa using hy)).2⟩
def Vf{U:Type}{u v:List U}{x:U}:Bk (u++x::v) u.length=u++v:=by unfold Bk;rw[Es,<-DL,List.drop_left];rfl
def jg{U:Type}{u v:List U}{x y:U}:(u++x::v).set u.length y=u++y::v:=by rw[B6 _ _ (Af _)];simp
def xO{i:Item}(h:LK 1 i=false):Bl [AY] i=false:=by
 refine BN λhc=>?_;have hc:Bl [AY] i=true:=by simpa using hc
 unfold Bl at hc;have q:=FI hc;have:Bl Qi i=true:=by unfold Bl;rw[decide_eq_true_iff,q.1,Dl.1 q.2];decide+kernel
 unfold LK at h;rw[Ac Bj,Ac Bj,Ac (by rw[q.1];decide),this] at h;cases h
def pT{l:List B8}(h:¬EF nm l<0):(l.getD (EF nm l).toNat B8.zero)∈l/\(l.getD (EF nm l).toNat B8.zero).node≠0:=by
 have key:∀r:List B8,0<=MY nm r->∃e a c,r=a++e::c/\MY nm r=(c.length:Int)/\e.node≠0:=by
  intro r;induction r with
  |nil=>intro h;simp[MY] at h
  |cons x t ih=>
   intro h;rw[MY] at h⊢;split at h;.omega
   .rename_i h0;rw[Ac h0];split at h;.rename_i h1;rw[Ad h1];exact⟨x,[],t,rfl,rfl,h0⟩
    .rename_i h1;rw[Ac h1];obtain⟨e,a,c,h2,f⟩:=ih h;exact⟨e,x::a,c,by rw[h2];rfl,f⟩
 obtain⟨e,a,c,h1,h2,f⟩:=key l.reverse (by unfold EF at h;omega);have hl:l=c.reverse++e::a.reverse:=by have:=Ca List.reverse h1;rw[EH] at this;rw[this];simp
 have hg:l.getD (EF nm l).toNat B8.zero=e:=by unfold EF;rw[h2,hl,Ax,Bp Aw];simp
 rw[hg];exact⟨by rw[hl];simp,f⟩
def xP{x:Int}(h:¬CK x l<0):AG (Br x) l<CK x l/\CK x l<l.length:=by
 rw[JR] at h⊢;split at h;.exact absurd Bj h
 .rename_i h0;rw[Ac h0];unfold Fm at h⊢;split at h;.rename_i k hk;have:=(Gc.1 hk).1;rw[AV] at this;constructor<;>omega
  .exact absurd Bj h
def jh{U:Type}{l:List U}{i:Nat}{z:U}:l.getD i z∈l\/l.getD i z=z:=by
 rw[Ax];rcases Bg i l.length with h|h
 .rw[Ai h];exact .inl (AJ h)
 .rw[C3 h];exact .inr rfl
structure Bw(u:List Item)(f:Item)(D blk anc:Int)(c:Nat)(s:BS×Int×Nat):Prop where
 ok:Dz s.1
 df:Df s.1.a
 an:yw s.1.a s.1.A9
 op:∃w1 w2,s.1.AO=u++f::(w1++w2)/\w1.length=c/\Tf s.1.a D (f::(w1++w2))/\∃i∈w2,i.node=blk
 ch:Ch s.1.a s.1.BO u/\En s.1.a s.1.BO u=D
 ld:s.1.a.has s.2.1/\(s.1.a.nd s.2.1).BO=D
 ac:s.1.a.has anc/\dn s.1.a anc=D
def Bw.step{u:List Item}{f:Item}{blk anc:Int}{far k c:Nat}{s:BS×Int×Nat}(w:Bw u f D blk anc (c+1) s)(S:u.length=k):Bw u f D blk anc c (BS.E7 blk anc far (k+(c+1)) s.1 s.2.1 s.2.2):=by
 have ok:=Qs (blk:=blk) (anc:=anc) (far:=far) (i:=k+(c+1)) (m:=s.2.2) w.ok w.ld.1;obtain⟨w1,w2,G,hl,M,hb⟩:=w.op;obtain⟨v,x,rfl⟩:∃v x,w1=v++[x]:=⟨w1.dropLast,w1.getLast (by intro h;rw[h] at hl;cases hl),(Ib _).symm⟩;have F:v.length=c:=by simpa using hl
 have B:s.1.AO=(u++f::v)++x::w2:=by rw[G];simp
 have I:k+(c+1)=(u++f::v).length:=by rw[Ap,AU];omega
 have H:Bk s.1.AO (k+(c+1))=u++f::(v++w2):=by rw[B,I,Vf];simp
 have es:∀y,s.1.AO.set (k+(c+1)) y=u++f::(v++y::w2):=λy=>by rw[B,I,jg];simp
 have E:Tf s.1.a D (f::(v++w2)):=λy hy=>M y (by
  rcases Az.1 hy with rfl|hy
  .simp
  .rcases Ak.1 hy with hy|hy<;>simp[hy])
 have ho:∀i∈u++f::(v++w2),s.1.a.has i.node:=λi hi=>(w.ok.op i (Ck.subset (by rw[H];exact hi))).1;revert ok;unfold BS.E7;simp only
 split;.intro ok;exact⟨ok.1,w.df,w.an,⟨v,w2,H,F,E,hb⟩,w.ch,w.ld,w.ac⟩
 .split;.intro ok;exact⟨ok.1,w.df,λe he=>w.an e (Ck.subset he),⟨v,w2,H,F,E,hb⟩,w.ch,w.ld,w.ac⟩
  .generalize Ov:s.1.A9.getD (FF (s.1.AO.getD (k+(c+1)) Item.zero).node s.1.A9).toNat B8.zero=g;have hn:g.name≠AY:=by
    rcases jh (l:=s.1.A9) (i:=(FF (s.1.AO.getD (k+(c+1)) Item.zero).node s.1.A9).toNat) (z:=B8.zero) with h|h
    .rw[Ov] at h;exact(w.an g h).1
    .rw[Ov] at h;rw[h];decide
   intro ok;obtain⟨N,f1,_⟩:=JV (nm:=g.name) (at_:=g.Av) (p:=anc) w.ok Io;have K:=Ve (nm:=g.name) (at_:=g.Av) (sp:=1) (p:=anc) w.ok;have R:=w.df.DA (nm:=g.name) (at_:=g.Av) (sp:=1) (p:=anc) w.ok;have P:=Mv (b:=s.1) (nm:=g.name) (at_:=g.Av) Io;have o:=YE (nm:=g.name) (at_:=g.Av) w.ok Io w.ac.1;have C:=YF (at_:=g.Av) (p:=anc) w.ok hn;rw[w.ac.2] at o;have G:=QJ (b:=s.1) (nm:=g.name) (at_:=g.Av) (sp:=1) (p:=anc);have ea:=YD (b:=s.1) (nm:=g.name) (at_:=g.Av) (sp:=1) (p:=anc);have Q:=QK (b:=s.1) (nm:=g.name) (at_:=g.Av) (sp:=1) (p:=anc);have t:=f1.has;rw[<-P] at o C;generalize s.1.HG g.name g.Av 1=i at*;generalize s.1.DA g.name g.Av 1 anc=b1 at*;have j:Lf b1.a (b1.a.D9 i.node s.2.1 0):=QH;have L:=K.trans j;have J:=WY L w.ok.ok (λi hi=>ho i (by simp[hi])) w.ch.1;refine⟨ok.1,R.D9 N.ok (by rw[K.BO _ w.ld.1,w.ld.2,o]) C,?_,⟨v,i::w2,?_,F,?_,?_⟩,?_,⟨j.has _ t,by show((b1.a.D9 i.node s.2.1 0).nd i.node).BO=D;rw[j.BO _ t,o]⟩,⟨L.has _ w.ac.1,by show dn (b1.a.D9 i.node s.2.1 0) anc=D;rw[L.dn w.ok.ok w.ac.1];exact w.ac.2⟩⟩
   .intro z hz;rcases CU hz with hz|rfl
    .rw[ea] at hz;exact(w.an.lf L w.ok.ac) z hz
    .refine⟨hn,λ_=>?_⟩;show((b1.a.D9 i.node s.2.1 0).nd i.node).cont=0;rw[j.cont _ t];exact C
   .show b1.AO.set _ _=_;rw[G];exact es i
   .have t2:=E.lf L λi hi=>ho i (by simp at hi⊢;exact .inr hi);intro y hy;have hy:y=i\/y∈f::(v++w2):=by simp at hy⊢;rcases hy with h|h|h|h<;>simp[h]
    rcases hy with rfl|hy
    .show((b1.a.D9 y.node s.2.1 0).nd y.node).BO=D/\((b1.a.D9 y.node s.2.1 0).nd y.node).cont=0;rw[j.BO _ t,j.cont _ t];exact⟨o,C⟩
    .exact t2 y hy
   .obtain⟨z,hz,O⟩:=hb;exact⟨z,by simp[hz],O⟩
   .show Ch (b1.a.D9 i.node s.2.1 0) b1.BO u/\En (b1.a.D9 i.node s.2.1 0) b1.BO u=D;rw[Q,J.2];exact⟨J.1,w.ch.2⟩
def Bw.all{u:List Item}{f:Item}{blk anc:Int}{far k:Nat}(a:u.length=k):∀{c:Nat} {s:BS×Int×Nat},Bw u f D blk anc c s->Bw u f D blk anc 0 (BS.JT blk anc far k c s)
 |0,_,w=>w
 |c+1,s,w=>Bw.all (c:=c) a (w.step a)
def Df.Cw{n:Int}:∀{l:List Int} {A:Ar},Df A->CX A 0->A.has n->(A.nd n).cont=0->(∀x∈l,A.has x/\(A.nd x).BO=(A.nd n).BO)->Df (BS.Cw A n l)/\Lf A (BS.Cw A n l)
 |[],_,j,_,_,_,_=>⟨j,.refl⟩
 |x::l,A,j,ok,hn,hc,hx=>by
  have a:Lf A (A.D9 n x 0):=QH;have r:=Df.Cw (n:=n) (l:=l) (j.D9 (bf:=0) ok (hx x Aw).2 hc) (MX ok) (a.has _ hn) (by rw[a.cont _ hn];exact hc) λy hy=>by have:=hx y (by simp[hy]);rw[a.BO _ this.1,a.BO _ hn];exact⟨a.has _ this.1,this.2⟩
  exact⟨r.1,a.trans r.2⟩
def Pd.Gk{u:List Item}{f:Item}{fe:B8}{blk anc:Int}{s:BS×Int×Nat}(w:Bw u f D blk anc 0 s)(hu:u≠[])(hf:f.node=fe.node)(hn:fe.name≠AY):Pd (BS.Gk fe blk anc s):=by
 obtain⟨w1,w2,o,hl,N,i0,qG,eb⟩:=w.op;obtain rfl:w1=[]:=Kl.1 hl;rw[BG] at o N;have hne:s.1.AO≠[]:=by rw[o];simp
 have eD:En s.1.a s.1.BO s.1.AO=D:=by rw[o,Vc,w.ch.2];exact N.ch.2
 have chO:Ch s.1.a s.1.BO s.1.AO:=by rw[o,M7,w.ch.2];exact⟨w.ch.1,N.ch.1⟩
 have W:=QI w.ok w.df chO (t:=anc) (.inr ⟨w.ac.1,hne,by rw[eD];exact w.ac.2⟩);have hp:=(KS w.ok (t:=anc) (.inr ⟨w.ac.1,hne⟩)).1;rw[eD] at W;have G:=N i0 (by simp[qG]);have F:=w.ok.op i0 (by rw[o];simp[qG]);rw[eb] at G F;have nd:=w.ok.qE;rw[o,BV,Bi,BF] at nd;have nf:∀y∈w2,Br fe.node y=false:=λy hy=>by unfold Br;refine Bb λh=>?_;have:=(BL.1 nd.2.1).1;exact this (AZ.2 ⟨y,hy,by rw[h,hf]⟩)
 unfold BS.Gk;simp only
 generalize oS:s.1.place anc=g at*;have U:Lf s.1.a (s.1.a.Dn s.2.1 g.1 g.2):=OB;have D1:Df (s.1.a.Dn s.2.1 g.1 g.2):=w.df.Dn w.ok.ok (by rw[w.ld.2];exact W.1.symm) W.2;have I:=w.ok.JU (Ls (n:=s.2.1) (p:=g.1) (b:=g.2) w.ok.ok) HI;generalize MA:({s.1 with a:=s.1.a.Dn s.2.1 g.1 g.2}:BS)=b2 at I;have Pf:b2.a=s.1.a.Dn s.2.1 g.1 g.2:=by rw[<-MA]
 have bM:b2.AO=s.1.AO:=by rw[<-MA]
 have JB:b2.A9=s.1.A9:=by rw[<-MA]
 have Y:b2.BO=s.1.BO:=by rw[<-MA]
 rw[<-Pf] at U D1;obtain⟨X,f3,_⟩:=JV (nm:=fe.name) (at_:=fe.Av) (p:=blk) I Io;have L3:=Ve (nm:=fe.name) (at_:=fe.Av) (sp:=1) (p:=blk) I;have D3:=D1.DA (nm:=fe.name) (at_:=fe.Av) (sp:=1) (p:=blk) I;have ei:=Mv (b:=b2) (nm:=fe.name) (at_:=fe.Av) Io;have bh2:=U.has _ F.1;have K:=YE (nm:=fe.name) (at_:=fe.Av) I Io bh2;have S:=YF (at_:=fe.Av) (p:=blk) I hn;rw[U.dn w.ok.ok F.1,jd G.2,G.1] at K;have C:=QJ (b:=b2) (nm:=fe.name) (at_:=fe.Av) (sp:=1) (p:=blk);have Q:=YD (b:=b2) (nm:=fe.name) (at_:=fe.Av) (sp:=1) (p:=blk);have P:=QK (b:=b2) (nm:=fe.name) (at_:=fe.Av) (sp:=1) (p:=blk);have M:=f3.has;rw[<-ei] at K S;rw[bM] at C;rw[JB] at Q;rw[Y] at P;have B:=U.trans L3;generalize b2.HG fe.name fe.Av 1=i at*;generalize b2.DA fe.name fe.Av 1 blk=b3 at*;have v:=B.has _ F.1;have R:(b3.a.nd blk).BO=D:=by rw[B.BO _ F.1];exact G.1
 have bc3:(b3.a.nd blk).cont=0:=by rw[B.cont _ F.1];exact G.2
 have J:=D3.Cw (n:=i.node) (l:=(b3.a.nd blk).AT) X.ok M S λx hx=>⟨(X.ok.IG _ v x hx).1,by rw[D3.kd _ v x hx,R,K]⟩;obtain⟨k4,_⟩:=IC (n:=i.node) (l:=(b3.a.nd blk).AT) X.ok;generalize BS.Cw b3.a i.node (b3.a.nd blk).AT=V at*;have L5:Lf V (V.D9 blk i.node 0):=QH;have D5:Df (V.D9 blk i.node 0):=J.1.D9 k4 (by rw[J.2.BO _ M,J.2.BO _ v,K,R]) (by rw[J.2.cont _ v];exact bc3);have L:=(B.trans J.2).trans L5;have T:=J.2.trans L5;generalize V.D9 blk i.node 0=H at*;have O:∀y∈s.1.AO,s.1.a.has y.node:=λy hy=>(w.ok.op y hy).1;have cu:=WY L w.ok.ok (λy hy=>O y (by rw[o];simp[hy])) w.ch.1;have tw:Tf H D w2:=λy hy=>(N.lf L λy hy=>O y (by rw[o];simp at hy⊢;exact .inr hy)) y (by simp[hy]);have er:DS fe.node b3.AO=u++w2:=by
  unfold DS;have e1:AG (Br fe.node) b3.AO=(u.length:Int):=by rw[C,o];exact Sn (by unfold Br;rw[hf];simp) nf
  have:=DB.2 hu;rw[e1,Ac Ab,C,o,Bn,Vf]
 refine⟨D5,?_,?_⟩
 .show Ch H b3.BO (_++i::_);rw[er,P];have E:Ch H s.1.BO (u++w2):=by rw[M7,cu.2,w.ch.2];exact⟨cu.1,tw.ch.1⟩
  have Z:∃j,∃hj:j<(u++w2).length,AG (Br blk) (u++w2)=(j:Int)/\(u++w2)[j].node=blk:=by
   rcases CV (q:=Br blk) (l:=u++w2) with⟨_,h2⟩|⟨j,hj,h1,h2,_⟩
   .have:=h2 i0 (by simp[qG]);unfold Br at this;exact absurd eb (of_decide_eq_false this)
   .exact⟨j,hj,h1,FI h2⟩
  obtain⟨j,hj,e1,e2⟩:=Z;have ip:GA (AG (Br blk) (u++w2)+1) (u++w2).length=j+1:=by unfold GA;rw[e1];omega
  rw[ip];generalize OD:u++w2=op at*;have et:op.take (j+1)=op.take j++[op[j]]:=AD hj;have eE:En H s.1.BO (op.take (j+1))=D:=by rw[et,Vc];show dn H op[j].node=D;rw[e2,L.dn w.ok.ok F.1,jd G.2,G.1]
  rw[<-BM (j+1) op,M7,eE] at E;rw[M7,eE];refine⟨by simpa using E.1,?_,?_⟩;.rw[T.BO _ M,K]
  .rw[jd (by rw[T.cont _ M];exact S),T.BO _ M,K];simpa using E.2
 .have an5:=w.an.lf L w.ok.ac;have key:∀z∈Bk b3.A9 (FF fe.node b3.A9).toNat,z.name≠AY/\(z.node≠0->(H.nd z.node).cont=0):=λz hz=>an5 z (by rw[<-Q];exact Ck.subset hz);intro z hz;rcases Ak.1 hz with hz|hz
  .exact key z (AN hz)
  .rcases Az.1 hz with rfl|hz
   .refine⟨hn,λ_=>?_⟩;show(H.nd i.node).cont=0;rw[T.cont _ M];exact S
   .exact key z (A6 hz)
def Pd.round(P:Pd b)(o:Dz b):Pd (b.round nm).2:=by
 unfold BS.round;simp only
 split;.exact P.Dw
 rename_i h1;obtain⟨F,f0⟩:=pT h1;generalize b.A9.getD (EF nm b.A9).toNat B8.zero=fe at*;split;.exact P.sub λe he=>Ck.subset he
 split;.exact P
 rename_i h2 B;split;.exact(P.QY (l:=Go.Am.GK fe.node b.AO) Sm).sub λe he=>Ck.subset he
 rename_i G;have hs:Mk (Br fe.node) (LK 1) b.AO.reverse=true:=by
  cases hc:Mk (Br fe.node) (LK 1) b.AO.reverse with
  |true=>rfl
  |false=>exact absurd (.inr hc) B
 obtain⟨u,f,v,g,I,z,ev⟩:=yy hs;have z:f.node=fe.node:=FI z;have fa:=xP G;rw[I] at fa h2 B⊢;rw[Bn];have hu:u≠[]:=λh=>B (.inl (by rw[h];rfl));have YI:=DB.2 hu;generalize aCy:(CK fe.node b.AO).toNat=far at*;have fl:far<b.AO.length:=Ab;have H:u.length<far:=Ab;have hlen:b.AO.length=u.length+(v.length+1):=by rw[g];simp
 have t:b.AO.getD far Item.zero=b.AO[far]:=by rw[Ax,Ai fl];rfl
 have s:b.AO[far]∈v.drop (far-1 -u.length):=by
  have L:b.AO[far]=(v.drop (far-1 -u.length))[0]'(by rw[AV];omega):=by rw[bK];simp only[g];rw[Jh Ab,List.getElem_cons];rw[za Ab];congr 1;omega
  rw[L];exact AJ _
 have w:b.AO.getD (u.length-1) Item.zero=E6 u:=by
  have K:u++f::v=u.dropLast++u.getLast hu::(f::v):=by
   conv=>lhs;rw[<-Ib hu]
   simp
  have J:E6 u=u.getLast hu:=by have:=Vd (u:=u.dropLast) (v:=[]) (x:=u.getLast hu);rw[Ib hu,List.length_dropLast] at this;unfold E6;rw[<-this];congr 1;omega
  rw[g,K,J,Ax,Bp Aw];simp
 have j:=P.ch;rw[g,M7] at j;generalize E:En b.a b.BO u=D at*;have ho:∀y∈u++f::v,b.a.has y.node:=λy hy=>(o.op y (by rw[g];exact hy)).1;have C:Tf b.a D (f::v):=mC j.2 λy hy=>by
  rcases Az.1 hy with rfl|hy
  .rw[z];exact(P.an fe F).2 f0
  .exact BN λhc=>by have:=Px o (i:=y) (by rw[g];simp[hy]) hc;rw[xO (ev y hy)] at this;cases this
 have xW:=C b.AO[far] (by simp[A6 s]);have w0:Bw u f D (b.AO.getD far Item.zero).node (b.AO.getD (u.length-1) Item.zero).node (far-1 -u.length) (b,(b.AO.getD far Item.zero).node,(EF nm b.A9).toNat):=by
  refine⟨o,P.df,P.an,⟨v.take (far-1 -u.length),v.drop (far-1 -u.length),by rw[BM];exact g,by rw[Au];omega,by rw[BM];exact C,b.AO[far],s,by rw[t]⟩,⟨j.1,E⟩,?_,?_⟩;.show b.a.has (b.AO.getD far Item.zero).node/\(b.a.nd (b.AO.getD far Item.zero).node).BO=D;rw[t];exact⟨(o.op _ (AJ fl)).1,xW.1⟩
  .show b.a.has _/\dn b.a _=D;rw[w,<-xN hu];exact⟨ho _ (by simp[Rt hu]),E⟩
 exact Pd.Gk (Bw.all rfl w0) hu z (P.an fe F).1
def Pd.Eo:∀{n:Nat} {b:BS},Pd b->Dz b->Pd (BS.Eo n b nm)
 |0,_,P,_=>P
 |n+1,b,P,o=>by
  unfold BS.Eo;simp only
  split;.exact Pd.Eo (P.round o) (Qt o).1
  .exact P.round o
def Pd.HT(P:Pd b)(o:Dz b):Pd (b.HT nm):=by
 unfold BS.HT;split;.exact P.S4
 .exact P.Eo o
def Vg(q:bU):Prop:=¬(q.k=5/\q.a≠0)/\¬(q.k=3/\q.name=AY)
def Pd.do(P:Pd b)(o:Dz b){q:bU}(hq:Vg q):Pd (bV b q).1:=by
 have T:∀{c:Prop} [Decidable c] {x y:BS×Item},(c->Pd x.1)->Pd y.1->Pd (if c then x else y).1:=λh1 h2=>by
  split;.rename_i h;exact h1 h
  .exact h2
 unfold bV;refine T (λ_=>(P.DV (nm:=q.name) (at_:=q.Av) (sp:=1) o).1) (T (λ_=>(P.DV (nm:=q.name) (at_:=q.Av) (sp:=q.AW) o).1) (T (λh=>P.Ij o λe=>hq.2 ⟨h,e⟩) (T (λ_=>P.Z7 o) (T (λh=>?_) (T (λ_=>(P.DV (nm:=q.name) (at_:=q.Av) (sp:=1) o).1.eq rfl rfl rfl rfl) (T (λ_=>P.I1) (T (λ_=>P.Eb o) (T (λ_=>P.Dw) (T (λ_=>P.HT o) (T (λ_=>P.eq rfl rfl rfl rfl) (T (λ_=>P.H8 o) (T (λ_=>P.C7) (T (λ_=>P.eq rfl rfl rfl rfl) (T (λ_=>P.eq rfl rfl rfl rfl) (T (λ_=>P.eq rfl rfl rfl rfl) (T (λ_=>P.jf λe he=>?_) (T (λ_=>P.S4) (T (λ_=>P.eq rfl rfl rfl rfl) (T (λ_=>P.eq rfl rfl rfl rfl) (T (λ_=>P.sub λe he=>AN he) (T (λ_=>P.QY KV) (T (λ_=>P.eq rfl rfl rfl rfl) (T (λ_=>P.DA o) P)))))))))))))))))))))));.have e:q.a=0:=BN λe=>hq.1 ⟨h,e⟩;rw[e];exact P.JH o
 .rcases Ak.1 he with he|he
  .exact P.an e he
  .rw[Dl.1 he];exact⟨Bj,λh=>absurd rfl h⟩
def Dd.HH:∀{es:List B8} {b:BS},Dd b.a->Dz b->Dd (BS.HH es b).2.a
 |[],b,j,_=>j
 |e::es,b,j,o=>Dd.HH (es:=es) (b:=b.DV e.name e.Av 1) (j.DV o) (NZ o)
def Dd.round(j:Dd b.a)(o:Dz b):Dd (b.round nm).2.a:=by
 unfold BS.round;simp only
 split
 .unfold BS.Dw;split;.split<;>exact j
  .exact j
 split;.exact j
 split;.exact j
 split;.exact j
 rename_i i;have fa:=xP i;have hl:=Il (q:=Br (b.A9.getD (EF nm b.A9).toNat B8.zero).node) (l:=b.AO);generalize b.A9.getD (EF nm b.A9).toNat B8.zero=fe at*;have hb:b.a.has (b.AO.getD (CK fe.node b.AO).toNat Item.zero).node/\(b.a.nd (b.AO.getD (CK fe.node b.AO).toNat Item.zero).node).kind=4:=by rw[Ax,Ai Ab];have:=o.op _ (AJ (l:=b.AO) (n:=(CK fe.node b.AO).toNat) Ab);exact⟨this.1,this.2.1⟩
 generalize(b.AO.getD (CK fe.node b.AO).toNat Item.zero).node=blk at*;obtain⟨g,h1⟩:=Dd.JT (blk:=blk) (anc:=(b.AO.getD ((AG (Br fe.node) b.AO).toNat-1) Item.zero).node) (far:=(CK fe.node b.AO).toNat) (k:=(AG (Br fe.node) b.AO).toNat) (c:=(CK fe.node b.AO).toNat-1 -(AG (Br fe.node) b.AO).toNat) (s:=(b,blk,(EF nm b.A9).toNat)) j o hb;obtain⟨f,_,l1⟩:=S6 (blk:=blk) (anc:=(b.AO.getD ((AG (Br fe.node) b.AO).toNat-1) Item.zero).node) (far:=(CK fe.node b.AO).toNat) (k:=(AG (Br fe.node) b.AO).toNat) (c:=(CK fe.node b.AO).toNat-1 -(AG (Br fe.node) b.AO).toNat) (s:=(b,blk,(EF nm b.A9).toNat)) o hb.1;exact g.Gk f h1 ⟨l1.has _ hb.1,by rw[l1.kind _ hb.1];exact hb.2⟩
def Dd.Eo:∀{n:Nat} {b:BS},Dd b.a->Dz b->Dd (BS.Eo n b nm).a
 |0,_,j,_=>j
 |n+1,b,j,o=>by
  unfold BS.Eo;simp only
  split;.exact Dd.Eo (j.round o) (Qt o).1
  .exact j.round o
def Dd.do(j:Dd b.a)(o:Dz b)(q:bU):Dd (bV b q).1.a:=by
 have hp:=(KS o (t:=0) (.inl rfl)).1;refine U5 (P:=λr=>Dd r.1.a) (j.DV o) (j.DV o) (Dd.DV (b:=b) (nm:=q.name) (at_:=q.Av) (sp:=1) j o) (j.HS o.ok hp) ?_ (Dd.DV (b:=b) (nm:=q.name) (at_:=q.Av) (sp:=1) j o) ?_ (j.HH o) ?_ ?_ j ?_ ?_ j j j j ?_ j j j j j (j.DA o) j
 .show Dd (if _ then _ else _);split;.exact j.DD o.ok
  .exact j.DD o.ok
 .unfold BS.I1;split<;>exact j
 .unfold BS.Dw;split;.split<;>exact j
  .exact j
 .unfold BS.HT;split;.unfold BS.S4;split<;>exact j
  .exact j.Eo o
 .unfold BS.H8;split;.exact j.set o.ok rfl rfl
  .exact j
 .unfold BS.C7;split<;>exact j
 .unfold BS.S4;split<;>exact j
def mD:∀{l:List QO} {b:BS},Pd b->Dd b.a->Dz b->(∀x∈l,Vg x.q)->Pd (Jf b l)/\Dd (Jf b l).a/\Dz (Jf b l)
 |[],_,P,j,o,_=>⟨P,j,o⟩
 |x::l,b,P,j,o,h=>by rw[Jf];exact mD (P.do o (h x Aw)) (j.do o x.q) (xB o) λy hy=>h y (by simp[hy])
def mE(q:Bool):Pd (Ed q)/\Dd (Ed q).a:=by
 have hk:∀h,((Ed q).a.nd h).AT=[]/\((Ed q).a.nd h).cont=0:=λh=>by rw[QD];split<;>exact⟨rfl,rfl⟩
 refine⟨⟨⟨λh f k hm=>?_,λh f hc=>absurd (hk h).2 hc,λh f hc=>(hk h).1⟩,trivial,λe he=>nomatch he⟩,λh f h1 k hm=>?_,λh f h1 x hm=>?_⟩;.rw[(hk h).1] at hm;cases hm
 .rw[(hk h).1] at hm;cases hm
 .rw[(hk h).1] at hm;cases hm
def bG(s:FN):Pd s.b/\Dd s.b.a:=by
 unfold FN.b;split
 .have o:=Oz s.Cj;have P:=mE s.Cj;have hs:BS.HR 1:=Io;have u:Pd (ID s.AW s.name s.Av s.Cj)/\Dd (ID s.AW s.name s.Av s.Cj).a:=by
   have h1:(Ed s.Cj).a.has 1:=⟨I6 1,I6 1⟩;have g:((Ed s.Cj).a.nd 1).BO=1/\((Ed s.Cj).a.nd 1).cont=0:=by rw[QD];exact⟨rfl,rfl⟩
   obtain⟨j,f,_⟩:=JV (nm:=Eu) (at_:=[]) (p:=1) o hs;have v:=Ve (nm:=Eu) (at_:=[]) (sp:=1) (p:=1) o;have B:=P.1.DA (nm:=Eu) (at_:=[]) (sp:=1) (p:=1) o;have E:=P.2.DA (nm:=Eu) (at_:=[]) (sp:=1) (q:=1) o;have H:=Mv (b:=Ed s.Cj) (nm:=Eu) (at_:=[]) hs;have t:=YE (nm:=Eu) (at_:=[]) o hs h1;rw[jd g.2,g.1,<-H] at t;have G:=QJ (b:=Ed s.Cj) (nm:=Eu) (at_:=[]) (sp:=1) (p:=1);have I:=QK (b:=Ed s.Cj) (nm:=Eu) (at_:=[]) (sp:=1) (p:=1);have y:((Ed s.Cj).DA Eu [] 1 1).a.has 1/\(((Ed s.Cj).DA Eu [] 1 1).a.nd 1).BO=1/\(((Ed s.Cj).DA Eu [] 1 1).a.nd 1).cont=0:=⟨v.has _ h1,by rw[v.BO _ h1];exact g.1,by rw[v.cont _ h1];exact g.2⟩;unfold ID;generalize(Ed s.Cj).HG Eu [] 1=i at*;generalize(Ed s.Cj).DA Eu [] 1 1=b1 at*;have F:=f.has;have C:Lf b1.a (b1.a.Dn i.node 1 0):=OB;have z:=B.US j C (B.df.Dn j.ok (t.trans y.2.1.symm) y.2.2);refine⟨⟨z.df,?_,z.an⟩,E.Dn j.ok λ_=> .inl f.kind⟩;show Ch (b1.a.Dn i.node 1 0) b1.BO (b1.AO++[i]);rw[G,I];refine⟨?_,trivial⟩;show((b1.a.Dn i.node 1 0).nd i.node).BO=1;rw[C.BO _ F,t]
  have w:Pd (Mu s.AW s.name s.Av s.Cj)/\Dd (Mu s.AW s.name s.Av s.Cj).a:=by
   unfold Mu;split;.exact⟨u.1.eq rfl rfl rfl rfl,u.2⟩
   .exact u
  unfold Yz;split<;>exact⟨w.1.eq rfl rfl rfl rfl,w.2⟩
 .exact mE _
end
end Go.Am
end
