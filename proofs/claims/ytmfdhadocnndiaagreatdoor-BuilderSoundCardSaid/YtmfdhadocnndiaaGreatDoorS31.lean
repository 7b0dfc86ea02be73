/- Lemmas -/
import Derived.Test.YtmfdhadocnndiaaGreatDoorS29
import Derived.Test.YtmfdhadocnndiaaGreatDoorS30
set_option linter.all false
namespace Go.Am
open Go
set_option maxRecDepth 100000
def aEr{A:Ar}{e:Int}{Af:List (List Aa)}{h0:Ah}(w:RO h0 Af A)(ok:DS A e)(hb:A.n.length<=900000000)(h:Ah):Co cx 52 [.sl 13 Af] h tt h:=by have g:=fX (h:=h) ok w.len hb λx hx=>w.WX hx;rw[Aj];show W cx (PD [.sl 13 Af]) _ h;unfold PD;simp only[Cn,D2,g]
def Ź:Ax (.geq false [.i,.i,.s,.b]) [.agg Item.zero.row,.agg Item.zero.row]=some (.bool true):=by rw[Mo];simp[Item.row,Item.zero,De,I2]
def ź{i:Item}(h:i.node≠0):Ax (.geq false [.i,.i,.s,.b]) [.agg i.row,.agg Item.zero.row]=some (.bool false):=by rw[Mo];simp[Item.row,Item.zero,De,I2,h]
def Ż(i:Item):Ax (.geq true [.i,.i,.s,.b]) [.agg i.row,.agg i.row]=some (.bool false):=by rw[Mo];simp[Item.row,De,I2]
def bl{l:List Item}:Ft l 0=l.headD Item.zero:=by cases l<;>rfl
def yF(s:GN){av:Aa}(hv:Cw s.AE av){l:List QO}{v:Aa}(ho:xY l v)(hr:∀x∈l,-2147483648<=x.q.r/\x.q.r<=2147483647):Ev cx 3 [.agg (aB s av),v] [] λr _=>r= .bool true:=by
 have J:Co cx 4 [v,I 60] [] (.bool (decide (NC l 60))) []:=f4 ho (m:=60) Br [];have R:=f5 s hv [];have g_:av.cells=[av]:=Bn.cells hv;have S:=Bn.FL ho;unfold Ev;rw[ď,t3,aB];by_cases O:NC l 60;rotate_left;.rw[A4 O] at J;simp only[abS,J.Ag,Q9];exact⟨_,rfl,rfl⟩
 rw[AW O] at J;by_cases c2:Wq s;rotate_left;.rw[A4 c2] at R;simp only[abS,J.Ag,R.Ag,Q9];exact⟨_,rfl,rfl⟩
 rw[AW c2] at R;have aKO:=O.1;have hq:∀x∈l,yk x.q:=λx hx=>(O.2 x hx).ok (hr x hx);obtain⟨h1,bi,F,r6,w1,_⟩:=aEg s hv c2.2.lz [];obtain⟨a0,o0,cc0,t0,G0,X,zy,rfl⟩:=id w1;have r7:=QZ X.sA 0;rw[aB] at r6;rw[Item.row] at r7;simp only[abS,Nat.reduceLeDiff,↓reduceIte,Bl,J.Ag,R.Ag,r6.Ag,r7.Ag];refine BF (λs:Nat×Item=>[ff,.agg [I s.2.node,I s.2.AY,.str s.2.name,.bool s.2.MJ],I (s.1:Int)]) (λt h2=>t.1<=l.length/\t.2=Ft (GC s.b (l.take t.1)).AV 0/\∃F,PB h2 bi (GC s.b (l.take t.1)) F) (λt=>l.length-t.1) (0,Ft s.b.AV 0) rfl ⟨AZ _,rfl,_,w1⟩ ?_;rintro⟨n,first⟩ h2 ⟨hn,hf,F2,P⟩;simp only at hn hf P;rcases A8 n l.length with hlt|GR
 .have e1:=Bn.Dw (k:= .i64) ho hlt;have g:Fin (GC s.b (l.take n)) (39+1):=Uy (j:=40) (l:=l.take n) (s.HT.le (by rw[Aw];omega)) λx hx=>hq x (AS hx);obtain⟨T,F4,C,B,_⟩:=aEf P g (hq _ (AP hlt)) l[n].ok;have hrow:P9 l[n].q l[n].v=l[n].row:=rfl;rw[hrow] at C;have ep:GC s.b (l.take (n+1))=(aU (GC s.b (l.take n)) l[n].q).1:=by rw[AL hlt,Ux]
  have U:∀x,(GC s.b (l.take n)).AV.head?=some x->(aU (GC s.b (l.take n)) l[n].q).1.AV.head?=some x:=λx hx=>Bg.do (b:=GC s.b (l.take n)) hx l[n].q;have op:=g.ok.op;rw[<-ep] at B U;generalize GC s.b (l.take n)=b at*;obtain⟨b',d⟩:∃b',GC s.b (l.take (n+1))=b':=⟨_,rfl⟩;rw[d] at B U;clear ep;obtain⟨a4,o4,cc4,t4,G4,D,ì,rfl⟩:=id B;have f:=QY D.sA;have aS:=QZ D.sA 0;rw[bl] at hf aS;cases MV:b'.AV with
  |nil=>
   have hb:b.AV=[]:=by
    cases hb:b.AV with
    |nil=>rfl
    |cons x t=>have:=U x (by rw[hb];rfl);rw[MV] at this;cases this
   rw[hb] at hf;rw[MV] at f aS;have Ye:first=Item.zero:=hf
   subst Ye;have qM:Item.zero=Ft b'.AV 0:=by rw[bl,MV];rfl
   have fZ:Co cx 8 [Pt bi 2,I 0] T (.agg Item.zero.row) T:=aS;have A:=Ż Item.zero;have hlen:¬(0:Int)<((0:Nat):Int):=Br;rw[Item.row] at fZ A;simp only[Item.zero] at fZ A;simp only[abS,Nat.reduceLeDiff,↓reduceIte,Bl,S,(Ab:(n:Int)<(l.length:Int)),e1,QO.Df,QO.HN,Ae,C.Ag,f.Ag,hlen,Item.zero,fZ.Ag,A,Cu (Ab:n<9223372036854775807)];exact A7.next (n+1,Item.zero) rfl ⟨hlt,by show _=Ft (GC s.b (l.take (n+1))).AV 0;rw[d];exact qM,_,by show PB _ _ (GC s.b (l.take (n+1))) _;rw[d];exact B⟩ Gp
  |cons y t=>
   rw[MV] at f aS;have qM:y=Ft b'.AV 0:=by rw[bl,MV];rfl
   have fZ:Co cx 8 [Pt bi 2,I 0] T (.agg y.row) T:=aS;have hlen:(0:Int)<((t.length+1:Nat):Int):=Ab;have A:=Ż y;rw[Item.row] at fZ A;cases hb:b.AV with
   |nil=>
    rw[hb] at hf;have Ye:first=Item.zero:=hf
    subst Ye;have N:=Ź;simp only[Item.row,Item.zero] at N;simp only[abS,Nat.reduceLeDiff,↓reduceIte,Bl,S,(Ab:(n:Int)<(l.length:Int)),e1,QO.Df,QO.HN,Ae,C.Ag,f.Ag,hlen,Item.zero,N,fZ.Ag,A,Cu (Ab:n<9223372036854775807)];exact A7.next (n+1,y) rfl ⟨hlt,by show _=Ft (GC s.b (l.take (n+1))).AV 0;rw[d];exact qM,_,by show PB _ _ (GC s.b (l.take (n+1))) _;rw[d];exact B⟩ Gp
   |cons x t'=>
    rw[hb] at hf;have Ye:first=x:=hf
    subst Ye;have hy:=U first (by rw[hb];rfl)
    rw[MV] at hy;obtain rfl:y=first:=DC hy
    have N:=ź (i:=y) (by have:=(op y (by rw[hb];simp)).1.1;omega);simp only[Item.row,Item.zero] at N;simp only[abS,Nat.reduceLeDiff,↓reduceIte,Bl,S,(Ab:(n:Int)<(l.length:Int)),e1,QO.Df,QO.HN,Ae,C.Ag,f.Ag,hlen,N,fZ.Ag,A,Cu (Ab:n<9223372036854775807)];exact A7.next (n+1,y) rfl ⟨hlt,by show _=Ft (GC s.b (l.take (n+1))).AV 0;rw[d];exact qM,_,by show PB _ _ (GC s.b (l.take (n+1))) _;rw[d];exact B⟩ Gp
 .rw[AT GR] at P hf;have HT:Fin (GC s.b l) (39+1):=Uy (j:=40) (s.HT.le (by have:=O.1;omega)) hq;generalize GC s.b l=b at*;obtain⟨a,o,c,t,G,wp,hc,rfl⟩:=id P;have rm:=HT.sz.rm;have ť:b.a.n.length<=900000000:=by have:=rm.n;omega
  have aR:=λy=>rm.U7.AX HT.ok.ok y;have fL:∀y,(b.a.nd y).AE.length<=1000000000:=λy=>by have:=rm.at_ y;omega
  have hob:b.AV.length<=1000000000:=by have:=rm.AV;omega
  have hne:b.a.n≠[]:=λe=>by have h1:=HT.ok.CQ.1;unfold Ar.has at h1;rw[e] at h1;simp at h1;omega
  obtain⟨Y,Q,C,n1⟩:=yt wp HT;have W:=wp.Ja (u:=Q);obtain⟨t1,o1,c1',u2,f,E⟩:=aEc W hc rm;have n2:=n1.El (h':=h2++Q++u2) (λi _ hi=>Al hi) Av;obtain⟨rws,rM,ro⟩:=Ÿ n2 hne;obtain⟨u3,aS⟩:=aEq ro HT.ok.ok ť aR fL (λh=>aEr ro HT.ok.ok ť h);have n3:=n2.El (h':=h2++Q++u2++u3) (λi _ hi=>Al hi) Av;obtain⟨u4,r11⟩:=ŷ HT.ok.ok n3 hne ť aR fL;rw[<-rM] at aS;have l0:=wp.l0;have Z:t1.cells=[t1]:=E.t.cells;have oc1:=E.o.cells;have cc1:=E.c.cells;have gV:(b.AV.map Item.node).length=b.AV.length:=As ..;have L:Ax (.len false) [o1]=some (I (b.AV.length:Int)):=by have:=E.o.len;rwa [show b.Ww.AV.length=b.AV.length from gV] at this
  have io:=E.o.L1;obtain⟨Af,sl,er,nr⟩:=n1;have lv1:Ax (.len false) [Y]=some (I (b.a.n.length:Int)):=by have:=sl.len;rwa [er] at this
  have vc:Y.cells=[Y]:=Bn.cells sl;rw[xX] at f;simp only[abS,Nat.reduceLeDiff,↓reduceIte,Bl,S,(Ab:¬(n:Int)<(l.length:Int)),l0,C.Ag,f.Ag,Z,oc1,cc1];generalize h2++Q++u2=H at*;refine BF (λk:Nat=>[ff,I (k:Int)]) (λk h2=>k<=b.AV.length/\h2=H) (λk=>b.AV.length-k) 0 rfl ⟨AZ _,rfl⟩ ?_;rintro k h2 ⟨hk,rfl⟩;rcases A8 k b.AV.length with z|hgk
  .have i_:k<(b.AV.map Item.node).length:=by rw[gV];exact z
   obtain⟨p,e2,e3⟩:=io.at_ k i_;have eg:b.Ww.AV[k]=b.AV[k].node:=C3 ..;rw[eg] at e3;obtain⟨w,k4,_⟩:=HT.ok.op _ (AP z);obtain⟨m,hm⟩:∃m:Nat,b.AV[k].node=(m:Int):=⟨b.AV[k].node.toNat,by have:=w.1;omega⟩;rw[hm] at e3 w k4;obtain⟨q1,q2⟩:=w;have M:m-1<b.a.n.length:=Ab;obtain⟨K,V,er2,_⟩:=nr (m-1) Ab M;have e4:=Bn.ER (k:= .i64) sl (n:=m-1) Ab;have ek:(b.a.n[m-1]).kind=4:=by have:=(fR M).2;rw[<-this,(Ab:(((m-1:Nat):Int)+1)=(m:Int))];exact k4
   rw[er2,ek] at e4;simp only[abS,L,(Ab:(k:Int)<(b.AV.length:Int)),e2,e3,(Ab:¬(m:Int)<1),lv1,(Ab:¬(b.a.n.length:Int)<(m:Int)),Ln (Ab:0<m) (Ab:m<9223372036854775807),e4,Ct,BM,Cu (Ab:k<9223372036854775807)];exact A7.next (k+1) rfl ⟨z,rfl⟩ Ab
  .simp only[abS,L,(Ab:¬(k:Int)<(b.AV.length:Int)),aS.Ag,r11.Ag,Q9];exact⟨_,rfl,rfl⟩
def p8:∀l,Sp [X6,.sl P_] l->Ev cx 3 l [] λr _=>r= .bool true:=by rintro _ ⟨a,_,rfl,ha,b,_,rfl,hb,rfl⟩;obtain⟨s,av,rfl,hv⟩:=fV ha;obtain⟨l,ho,hr⟩:=yA hb;exact yF s hv ho hr
end Go.Am
