/- Lemmas -/
import Derived.Test.YtjbidlnjecppfaaGreatDoorS11
set_option linter.all false
open List renaming length→zz
open Bool renaming true→z8
open Go.Am.Ad renaming agg→zo
open Go.Am.Ty renaming str→z7
open Go.IntKind renaming i64→z0
open Go.Am.BS renaming CM→y8
attribute[local simp]Go.Am.Ac Go.Am.By Go.Am.abS
namespace Go.Am
open Go
set_option maxRecDepth 100000
abbrev aQb:Ty:= .st [.int z0,z7,.bool,z7,.bool,z7,.bool,.bool,.sl yv,.bool,z7,.int .i32]
structure aGe(p:DE×Ad):Prop where
 v:AK p.1.Al p.2
 r: -2147483648<=p.1.r/\p.1.r<=2147483647
 n:p.1.Al.length<=maxLen
def aGf(r:List Ad)(h:jE aQb r):∃p:DE×Ad,r=Bc p.1 p.2/\aGe p:=by obtain⟨x1,S,rfl,j,h⟩:=CT h;obtain⟨x2,R,rfl,b,h⟩:=CT h;obtain⟨Z,Q,rfl,H,h⟩:=CT h;obtain⟨Y,P,rfl,G,h⟩:=CT h;obtain⟨X,O,rfl,E,h⟩:=CT h;obtain⟨W,N,rfl,D,h⟩:=CT h;obtain⟨V,M,rfl,C,h⟩:=CT h;obtain⟨U,L,rfl,B,h⟩:=CT h;obtain⟨T,K,rfl,d,h⟩:=CT h;obtain⟨ql,m,rfl,Wj,h⟩:=CT h;obtain⟨s,k,rfl,o,h⟩:=CT h;obtain⟨q,i,rfl,f,h⟩:=CT h;obtain rfl:=P9 h;obtain⟨y,rfl,_⟩:=M1 j;obtain⟨x,rfl⟩:=NT b;obtain⟨F,rfl⟩:=L3 H;obtain⟨w,rfl⟩:=NT G;obtain⟨t,rfl⟩:=L3 E;obtain⟨u,rfl⟩:=NT D;obtain⟨J,rfl⟩:=L3 C;obtain⟨I,rfl⟩:=L3 B;obtain⟨v,rfl,d⟩:=XY d;let⟨l,d,a,_⟩:=gB gC d;obtain⟨g,rfl⟩:=L3 Wj;obtain⟨e,rfl⟩:=NT o;obtain⟨n,rfl,c⟩:=M1 f;exact⟨(⟨y,x,F,w,t,u,J,I,l,g,e,n⟩,v),rfl,d,by let A:IntKind.i32.min= -2147483648:=rfl;let z:IntKind.i32.max=2147483647:=rfl;simp[Lit.wf,A,z] at c;exact c,a⟩
def saB(l:List Bb):Bool:=decide (Gy l)
def h9B{v:Ad}{l:List Bb}(h:Ak)(a:AK l v):BF cx 17 [v] h (.bool (saB l)) h:=f9 a h
section
variable{t:DE}{p:DE×Ad}{l:List (DE×Ad)}{v:Ad}
def aB7(h:t.Qa saB=z8)(a: -2147483648<=t.r/\t.r<=2147483647):t.Sm:=by rw[DE.Qa] at h;simp[Bs,Cj] at h;exact⟨Ab,(D4 h.2.2.2.2).Qa,Ab,a⟩
def ć(h:t.Qa saB=z8):zz t.Ho<=AN:=by rw[DE.Qa] at h;simp[Bs,Cj] at h;have:AN=140737488355328:=rfl;omega
end
section
variable{h h':Ak}{v i:Ad}{b:BS}{j:Nat}
def aVL(s:FX)(a:AK s.Al i){l:List QO}(b:cz l v)(h:Ak):BF cx 4 [zo (P7 s i),v] h (.bool (decide (Qb l 40/\YL s))) h:=by
 let c:BF cx 11 [v,I 40] h (.bool (decide (Qb l 40))) h:=f4 b AR h;let e:=f5 s a h;rw[Ac,aNv,P7];by_cases d:Qb l 40
 .rw[Ah d] at c;by_cases f:YL s;.rw[Ah f] at e;simp[c.KS,e.KS,d,f,iK,D3]
  .rw[Ag f] at e;simp[c.KS,e.KS,d,f,aId,Ec]
 .rw[Ag d] at c;simp[c.KS,d,iT,Ec]
def Fin.gz(f:Fin b (j+1))(d:Nm b.a):Gz b (5000000*j+5000000) (zz b.AJ) (zz b.AX):=⟨f.ok,f.sz.rm.le Ab,Af _,Af _,d⟩
end
noncomputable def BS.WL(r:Int)(b:BS)(t:DE):BS×Bool:=
 if r=1 then b.JG Q9 t else if r=2 then b.FG t else if r=3 then b.FH t else if r=4 then b.CM t else if r=5 then b.FI t
 else if r=6 then b.IQ t else if r=7 then b.L5 t else if r=8 then b.L4 t else if r=9 then b.EP t else(b,false)
def U5(m:Int):Int:=if 1<=m/\m<=8 then m else if m=18 then 9 else -1
section
variable{h h':Ak}{p bj:Nat}{F l:Nat->Prop}{b:BS}{v C:Ad}{j n o a:Nat}{t:DE}{r:Int}
def aB8(h:¬t.ok):b.WL r t=(b,false):=by
 rw[BS.WL];split;.unfold BS.JG;rw[Ae h]
 split;.unfold BS.FG;rw[Ae h]
 split;.unfold BS.FH;rw[Ae h]
 split;.unfold y8;rw[Ae h]
 split;.unfold BS.FI;rw[Ae h]
 split;.unfold BS.IQ;rw[Ae h]
 split;.unfold BS.L5;rw[Ae h]
 split;.unfold BS.L4;rw[Ae h]
 split;.unfold BS.EP;rw[Ae h]
 .rfl
def sk:b.apply Q9 t=b.WL (U5 b.mode) t:=by
 by_cases h:¬t.ok;.rw[aB8 h];rw[BS.apply];rw[Ae h]
 rw[BS.apply];rw[Aa h];unfold BS.WL U5;by_cases c:1<=b.mode/\b.mode<=8;.rw[Ae c];let a:b.mode=1\/b.mode=2\/b.mode=3\/b.mode=4\/b.mode=5\/b.mode=6\/b.mode=7\/b.mode=8:=Ab;obtain e|e|e|e|e|e|e|e:=a<;>simp[e]
 .rw[Aa c];by_cases d:b.mode=18;.simp[d]
  .let u:¬b.mode=1:=by omega
   let s:¬b.mode=2:=Ab;let q:¬b.mode=3:=Ab;let m:¬b.mode=4:=Ab;let k:¬b.mode=5:=Ab;let i:¬b.mode=6:=Ab;let g:¬b.mode=7:=Ab;let f:¬b.mode=8:=Ab;simp[u,s,q,m,k,i,g,f,d]
section
variable(w:PB h p b F)(g:Gz b (n+8*(4*(o+a+8)+10)+8*a+2000) o a)(ht:t.Sm)(hp:t.Ho.length<=AN)(hv:AK t.Al C)(hl:t.Al.length<=1000000)
def aQd(K:r≠0):
  GB h F 8 [Pt p 0,zo (I r::Bc t C)] (.bool (b.WL r t).2) p (b.WL r t).1:=by
 let⟨L,v,H⟩:=aLc hv hl;let c:=H h;let E:∀{m},m<=8*(4*(o+a+8)+10)+8*a+2000->Gz b (n+m) o a:=λhm=>g.dn Ab;let f:t.st [a2y]->GB h F 30 [Pt p 0,zo (Bc t L)] ff p (b.Hq t):=λJ=>Qf w (E Ab) ht v J;rw[BS.WL];by_cases B:r=1;.subst B;rw[Ae rfl];let⟨j,l,q,e,d⟩:=aP3 w (E Ab) ht v (λh=>f75 t hp h);exact⟨j,l,by simp only[Bc] at c q;rw[Ac,SI];simp[abS,Nat.reduceLeDiff,↓reduceIte,Bc,c.KS,q.KS],e,d⟩
 rw[Aa B];by_cases A:r=2;.subst A;rw[Ae rfl];let⟨j,l,q,e,d⟩:=aPJ w (E Ab) ht v;exact⟨j,l,by simp only[Bc] at c q;rw[Ac,SI];simp[abS,Nat.reduceLeDiff,↓reduceIte,Bc,c.KS,q.KS],e,d⟩
 rw[Aa A];by_cases z:r=3;.subst z;rw[Ae rfl];let⟨j,l,q,e,d⟩:=aPK w (E Ab) ht v f;exact⟨j,l,by simp only[Bc] at c q;rw[Ac,SI];simp[abS,Nat.reduceLeDiff,↓reduceIte,Bc,c.KS,q.KS],e,d⟩
 rw[Aa z];by_cases y:r=4;.subst y;rw[Ae rfl];let⟨j,l,q,e,d⟩:=vU w (E Ab) ht v f;exact⟨j,l,by simp only[Bc] at c q;rw[Ac,SI];simp[abS,Nat.reduceLeDiff,↓reduceIte,Bc,c.KS,q.KS],e,d⟩
 rw[Aa y];by_cases x:r=5;.subst x;rw[Ae rfl];let⟨j,l,q,e,d⟩:=aPM w (E Ab) ht v f;exact⟨j,l,by simp only[Bc] at c q;rw[Ac,SI];simp[abS,Nat.reduceLeDiff,↓reduceIte,Bc,c.KS,q.KS],e,d⟩
 rw[Aa x];by_cases u:r=6;.subst u;rw[Ae rfl];let⟨j,l,q,e,d⟩:=aPO w (E Ab) ht v f;exact⟨j,l,by simp only[Bc] at c q;rw[Ac,SI];simp[abS,Nat.reduceLeDiff,↓reduceIte,Bc,c.KS,q.KS],e,d⟩
 rw[Aa u];by_cases s:r=7;.subst s;rw[Ae rfl];let⟨j,l,q,e,d⟩:=aP0 w g ht v;exact⟨j,l,by simp only[Bc] at c q;rw[Ac,SI];simp[abS,Nat.reduceLeDiff,↓reduceIte,Bc,c.KS,q.KS],e,d⟩
 rw[Aa s];by_cases k:r=8;.subst k;rw[Ae rfl];let⟨j,l,q,e,d⟩:=aPP w (E Ab) ht v;exact⟨j,l,by simp only[Bc] at c q;rw[Ac,SI];simp[abS,Nat.reduceLeDiff,↓reduceIte,Bc,c.KS,q.KS],e,d⟩
 rw[Aa k];by_cases i:r=9;.subst i;rw[Ae rfl];let⟨j,l,q,e,d⟩:=aK9 (n:=n) w (g.dn (n':=n+4*a+1005) Ab) ht v;exact⟨j,l,by simp only[Bc] at c q;rw[Ac,SI];simp[abS,Nat.reduceLeDiff,↓reduceIte,Bc,c.KS,q.KS],e,d⟩
 rw[Aa i];exact⟨_,_,by simp only[Bc] at c;rw[Ac,SI];simp[abS,Nat.reduceLeDiff,↓reduceIte,Bc,c.KS,K,B,A,z,y,x,u,s,k,i],w,.refl⟩
def aQe:
  GB h F 8 [Pt p 0,zo (I 0::Bc t C)] (.bool (b.apply Q9 t).2) p (b.apply Q9 t).1:=by
 let⟨Xa,i,a⟩:=aLc hv hl;let c:=a h;let⟨f,l,q,e,d⟩:=aP6 w g ht i (λh=>f75 t hp h);exact⟨f,l,by rw[Bc] at c q;simp[SI,Bc,c.KS,q.KS],e,d⟩
end
end
end Go.Am
set_option maxHeartbeats 0
set_option maxRecDepth 100000
open Nat renaming reduceLeDiff→θ
open Option renaming some→zs,none→yx
open Bool renaming false→η
open Go.Am.Ad renaming tuple→ζ,str→z4
open Go.Am.AY renaming Gf→y6,Ms→wj
open Go.Am.Pw renaming append→xp,len→wb
open Go.Am.Item renaming row→z1
open UInt8 renaming ofNat→z9
open Go.Am.AM renaming next→yu
open Or renaming inr→ys,inl→yg
open Go.Am.BS renaming plain→yf,EL→y3,JL→y4,Gk→y7,IZ→x0,Gl→wy,D5→wx,Mj→wu,Hv→wn,HW→wd,Cu→vx,ER→vw
open Go.Am.DH renaming cells→yj
open Go.Am.DE renaming ok→y9,DQ→wl
section
namespace Go.Am
open Go
section
variable{b b':BS}{n C o o' a a':Nat}{nm:Aj}{l:List Bb}{t:DE}{sp:Int}{r:Int}
structure YO(b c:BS):Prop where
 le:Le b.a c.a
 Cd:c.Cd=b.Cd
 AX:c.AX=b.AX\/c.AX=b.AX++[B9.zero]
 AJ:c.AJ=b.AJ\/∃i:Item,c.AJ=b.AJ++[i]/\i.node=b.a.len+1/\c.a.has i.node/\(c.a.nd i.node).kind=4
def aB9:YO b (b.C3 t)/\(b.C3 t).AX=b.AX/\∃i:Item,(b.C3 t).AJ=b.AJ++[i]/\i.node=b.a.len+1/\(b.C3 t).a.has i.node/\((b.C3 t).a.nd i.node).kind=4:=by
 let d:=eL (b:=b) (nm:=t.name) (at_:=t.Al) KP;let e:(b.C3 t).AJ=b.AJ++[b.Hv t.name t.Al 1]:=by unfold BS.C3 wx;rw[Ae KP];show(b.EL t.name t.Al 1 _).AJ++_=_;rw[y3];rw[Ae KP]
 let c:(b.Hv t.name t.Al 1).node=b.a.len+1:=by rw[wn];rw[Ae KP]
 let k:∃i:Item,(b.C3 t).AJ=b.AJ++[i]/\i.node=b.a.len+1/\(b.C3 t).a.has i.node/\((b.C3 t).a.nd i.node).kind=4:=⟨_,e,c,c▸d.1,c▸d.2⟩;exact⟨⟨xe,aAu,yg D9,ys k⟩,D9,k⟩
def YO.eq{c d:BS}(h:YO b c)(i:d.a=c.a)(j:d.Cd=c.Cd)(f:d.AJ=c.AJ)(e:d.AX=c.AX):YO b d:=
 ⟨i▸h.le,j.trans h.Cd,e▸h.AX,f▸i▸h.AJ⟩
def aCa(n:t.st Eu):YO b (b.CM t).1:=by
 let d:=n.1;let en:∀l,¬t.en l:=λl h=>by have:=h.1;omega
 let m:∀l,¬t.Xb l:=λl h=>by have:=h.1;omega
 let z:¬t.st [a2I]:=λh=>by let o:=h.2;let a:=n.2;rw[Ax.1 o] at a;revert a;decide
 let y:¬t.st [a2y]:=λh=>by let o:=h.2;let a:=n.2;rw[Ax.1 o] at a;revert a;decide
 let j:¬t.st [a2J]:=λh=>by let o:=h.2;let a:=n.2;rw[Ax.1 o] at a;revert a;decide
 let⟨c,u,i,k,s,q,p⟩:=aB9 (b:=b) (t:=t);rw[y8];rw[Aa (show¬¬t.ok by rw[y9];omega),Aa Ab,Aa z,Aa (m _),Aa (show¬t.DQ by rw[wl];omega),Aa Ab,Aa y];by_cases g:t.st Ou
 .rw[Ae g];show YO b (b.C3 t).Gk;rw[y7];split;.exact c
  .exact⟨c.le,c.Cd,c.AX,yg (by show(b.C3 t).AJ.take ((b.C3 t).AJ.length-1)=b.AJ;rw[k,As,A5,EY];exact FM ..)⟩
 rw[Aa g];by_cases f:t.st [a2S];.rw[Ae f];exact c.eq rfl rfl rfl rfl
 rw[Aa f];by_cases e:t.st qv;.rw[Ae e];exact c.eq rfl rfl rfl rfl
 rw[Aa e];by_cases v:t.st [a2Z];.rw[Ae v];exact c.eq rfl rfl rfl rfl
 rw[Aa v,Aa j,Aa (en _)];let A:t.st [AE]:=⟨d,by
  let r:∀w∈Eu,w∈Ou\/w∈[a2S]\/w∈qv\/w∈[a2Z]\/w∈[AE]:=AR;obtain h|h|h|h|h:=r _ n.2
  .cases g ⟨d,h⟩
  .cases f ⟨d,h⟩
  .cases e ⟨d,h⟩
  .cases v ⟨d,h⟩
  .exact h⟩
 exact Ae A▸⟨c.le,c.Cd,ys (by show(b.C3 t).AX++_=_;rw[u]),ys ⟨i,k,s,q,p⟩⟩
section
variable{l:List Item}
def et{x:Item}:A7 (Bz x.node) (l++[x])=zz l:=by exact Li AF (by simp[Bz]) λj a h=>by simp at a;try omega
def v8{x y:Item}(h:y.node≠x.node):A7 (Bz x.node) (l++[x]++[y])=zz l:=by
 refine Li (by rw[As,As,A5,A5];omega) (by simp[Bz]) λj a h2=>?_;have e:j=zz l+1:=by simp at a;omega
 subst e;simp[Bz,h]
def YP{x:Item}(a:l≠[]):Cn x.node (l++[x])=l:=by have:0<zz l:=Du.2 a;rw[Cn];rw[et,Aa Ab,A6];rw[Bl];simp
def wA{x y:Item}(a:l≠[]):∃z:Item,Cn x.node (l++[x]++[y])=l++[z]/\z.node=y.node:=by
 have:0<zz l:=Du.2 a;by_cases h:y.node=x.node;.exact⟨x,h▸YP AF,h.symm⟩
 .exact⟨y,by rw[Cn];rw[v8 h,Aa Ab,A6];rw[Bl];simp,rfl⟩
end
def aLg(ok:E4 b){c:BS}(h:YO b c)(g:Fj c.a 0){l:List Item}(k:l=b.AJ\/∃z:Item,l=b.AJ++[z]/\z.node=b.a.len+1/\c.a.has z.node/\(c.a.nd z.node).kind=4):E4 {c with AJ:=l}:=by
 let f:=ok.IN g h.le;let d:E4 {b with a:=c.a,AX:=c.AX}:=by
  obtain e|e:=h.AX
  .rw[e];exact f
  .rw[e];exact vM f
 let m:E4 {b with a:=c.a,AX:=c.AX,AJ:=l}:=by
  obtain e|⟨z,e,i,p,o⟩:=k
  .rw[e];exact d
  .have:=d.aDZ ⟨p,o⟩ (λh=>by
    let⟨j,n,e⟩:=Bv.1 h;exact SC (i▸e▸(ok.op j n).1)) (by
    show 1<=zz b.AJ\/b.AJ=[];cases b.AJ
    .exact ys rfl
    next y l=>exact yg AF)
   rw[Bx,EG] at this;rwa[e]
 exact m.of_eq rfl h.Cd rfl rfl
def Lo{c:Prop}[Decidable c]{x y:BS×Bool}(d:Nm x.1.a)(b:Nm y.1.a):Nm (if c then x else y).1.a:=by split;exact d;exact b
def sm(h:Nm b.a)(f:t.Sm):Nm (b.CM t).1.a:=by
 let d:Nm (b.C3 t).a:=h.Mf f.name;let e:∀{c:BS},Nm c.a->Nm c.Gk.a:=λh=>by rw[y7];split<;>exact h
 let i:Nm b.Cu.a:=by rw[vx];split<;>exact h
 rw[y8];refine Lo h (Lo h (Lo h (Lo h (Lo h.KH (Lo ?_ (Lo ?_ (Lo (e d) (Lo d (Lo d (Lo d (Lo d (Lo (e h) (Lo d (Lo i (e h)))))))))))))));.show Nm (b.DL t.data 0).a;rw[BS.DL];split<;>exact h.EU
 .show Nm (b.Hq t).a;rw[BS.Hq];split;.exact h
  .exact h.ER
def Gz.aLh(g:Gz b (n+1005) o a)(r:t.Sm)(C:t.st Eu):Gz (b.Js t).1 n (o+2) (a+1):=by
 by_cases B:b.AJ=[]
 .let J:E4 {b with AJ:=b.AJ++[BS.Ep b.head]}:=by
   refine⟨g.ok.ok,g.ok.Cd,?_,?_,g.ok.ac,g.ok.mz⟩;.show∀i∈(b.AJ++[BS.Ep b.head]).tail,_;rw[B];simp
   .show((b.AJ++[BS.Ep b.head]).tail.map Item.node).Nodup;rw[B];simp
  let G:Gz {b with AJ:=b.AJ++[BS.Ep b.head]} (n+1004) (o+1) a:=⟨J,(WE g).2,by have:=g.AJ;rw[As,A5];omega,g.AX,g.nm⟩;exact(G.CM r).I0 Hp
 let A:=aBS (g.dn (n':=n+7) Ab) r C;let⟨H,p⟩:=WE (g.dn (n':=n+7) Ab);have d:=aCa (b:={b with AJ:=b.AJ++[BS.Ep b.head]}) C;have m:=(TL H p r C).1.ok;let h:=A.2;rw[BS.Js] at h⊢;simp only at h⊢;have f:=sm (b:={b with AJ:=b.AJ++[BS.Ep b.head]}) g.nm r;generalize(y8 {b with AJ:=b.AJ++[BS.Ep b.head]} t).1=c at d m h f⊢;let D:Cn b.head c.AJ=b.AJ\/∃z:Item,Cn b.head c.AJ=b.AJ++[z]/\z.node=b.a.len+1/\c.a.has z.node/\(c.a.nd z.node).kind=4:=by
  obtain e|⟨i,e,v,u,s⟩:=d.AJ
  .left;exact e▸YP (x:=BS.Ep b.head) B
  .right;let⟨z,q,k⟩:=wA (x:=BS.Ep b.head) (y:=i) B;exact⟨z,e▸q,k.trans v,k▸u,k▸s⟩
 let w:YO b {c with AJ:=b.AJ}:=⟨d.le,d.Cd,d.AX,yg rfl⟩;let j:=aLg g.ok w m D;refine⟨j,h,?_,?_,f⟩
 .have:=g.AJ;show(Cn b.head c.AJ).length<=_;obtain e|⟨z,e,_⟩:=D<;>rw[e]
  .omega
  .simp only[As,A5];omega
 .have:=g.AX;show zz c.AX<=_;obtain e|e:=d.AX
  .rw[e];show zz b.AX<=_;omega
  .rw[e];show(b.AX++[B9.zero]).length<=_;rw[As,A5];omega
end
end Go.Am
end
section
end
section
namespace Go.Am
open Go
section
variable{b b':BS}{n e o o' a a':Nat}{nm ex:Aj}{l:List Bb}{t:DE}{sp:Int}{r:Int}{x:Item}
def Gz.gW(g:Gz b (n+1005) o a)(c:t.Sm):Gz (b.IQ t).1 n (o+2) (a+1):=by
 let f:Gz b n (o+2) (a+1):=g.le Ab Ab Ab;let d:Gz b (n+4) o a:=g.le Ab Ab Ab;let T:Gz (if t.st Eu then b.Js t else if t.en [AE] then b.CM t else(b.C3 (Lj a2B)).again 7).1 n (o+2) (a+1):=by
  split;next e=>exact g.aLh c e
  .exact .ite (((g.le Ab (Af _) (Af _)).CM c).le (Af _) Ab Ab) (((d.C3 (HM AR)).le (Af _) Ab Ab).eq rfl rfl rfl rfl rfl)
 rw[BS.IQ];exact .aBD f (.ite ((g.le Ab (Af _) (Af _)).Nf.le (Af _) Ab Ab) (.ite (((g.le Ab (Af _) (Af _)).DL c.data).le (Af _) Ab Ab) (.ite (((g.le Ab (Af _) (Af _)).Hq c).le (Af _) Ab Ab) (.ite (((d.C3 c).le (Af _) Ab Ab).eq rfl rfl rfl rfl rfl) (.ite (((d.C3 c).le (Af _) Ab Ab).eq rfl rfl rfl rfl rfl) T)))))
def Gz.aLi{c:DE->Bool}(g:Gz b (n+8*(4*(o+a+8)+10)+8*a+2000) o a)(d:t.Sm):Gz (b.apply c t).1 n (o+2*a+17) (a+9):=by
 let e:∀{m},m<=n+8*(4*(o+a+8)+10)+8*a+2000->Gz b m o a:=λh=>g.le h (Af _) (Af _);let f:Gz b n (o+2*a+17) (a+9):=g.le Ab Ab Ab;rw[BS.apply];exact .ite f (.ite (((e Ab).JG d).le (Af _) Ab Ab)
  (.ite (((e Ab).FG d).le (Af _) Ab Ab)
  (.ite (((e Ab).FH d).le (Af _) Ab Ab)
  (.ite (((e Ab).CM d).le (Af _) Ab Ab)
  (.ite (((e Ab).FI d).le (Af _) Ab Ab)
  (.ite (((e Ab).gW d).le (Af _) Ab Ab)
  (.ite (g.L5 d)
   (.ite (((e Ab).L4).le (Af _) Ab Ab)
   (.ite (((e Ab).EP d).le (Af _) Ab Ab) f)))))))))
end
section
variable{h T:Ak}{U a:Nat}{o c t:Ad}{G V F:Nat->Prop}{b:BS}{x:Int}{m:Nat}
variable{nm:Aj}{X:Ad}{l:List Bb}{r:List Ad}{sp p:Int}
def aLj(ok:BA b)y:(if b.a.has y then(b.a.nd y).Cd else b.Cd)=if(b.a.nd y).Cd≠0 then(b.a.nd y).Cd else b.Cd:=by
 by_cases c:b.a.has y;.have:=(ok.ok.Cd y c).1.1;rw[Ae c,Ae Ab]
 .rw[Aa c,HO c,Aa AF]
def aGg(w:RX h U a o c t G b)(ok:BA b)(rm:BW b (m+3))(hnm:Nm b.a)(hr:P2 nm X r)(hv:AK l X)(hl:Eg l)(hn:zz nm<=1000)(p sp):
  ∃T V,BF cx 96 [Pt U 0,zo r,I sp,I p] h (zo (b.Hv nm l sp).row) T/\RX T U a o c t V (b.EL nm l sp p)/\Dx h (BD U G) T (BD U V):=by
 obtain⟨P,O,N,M,L,K,J,H,Uz,Tj,rfl⟩:=hr;let s:∀{Q:HN} {h:Ak} {kk:Ad->IT},W cx (.BG 201 [I sp] kk) Q h↔W cx (kk (.bool (decide (BS.I5 sp)))) Q h:=(yw _).BG rfl rfl;by_cases x:BS.I5 sp;rotate_left
 .refine⟨h,G,?_,by rw[y3];rwa[Aa x],.refl⟩;let e:b.Hv nm l sp=Item.zero:=by rw[wn];rw[Aa x]
  simp[e,Pp,aAM,AP,s,Ag x]
 let⟨u,v,hu⟩:=aUc (h:=h) hv (λy hy=>(hl.2 y hy).1) hl.1 sp;let hd:=Tt ok (p:=p);let B:∀y∈l.map (Dd sp),BS.I5 y.Bk:=by intro y hy;obtain⟨z,_,rfl⟩:=Bv.1 hy;exact pE
 let hlen:(l.map (Dd sp)).length<=1000000000:=by rw[Ao];have:=hl.1;omega
 let⟨T,V,j,E,D⟩:=w.step λn i ps f=>let⟨T,n',i',JM,r,wp,C⟩:=aHQ (nm:=y4 sp nm) f (rm.len Ab) hd.1 hd.2 x hu hlen B;⟨T,n',i',JM,r,wp,C⟩
 let Rg:=eU (sp:=sp) (nm:=nm);let g:=aNO hu (λy hy=>by obtain⟨z,hz,rfl⟩:=Bv.1 hy;rw[lW];have:=(hl.2 z hz).2;have:AN=140737488355328:=rfl;omega) Ab sp (y4 sp nm) Ab;let Z:AB (.Fc [I 0,I 0,S [],ff] [(0,1),(1,1),(2,1),(3,1)]) [I (b.a.len+1),I sp,z4 (y4 sp nm),.bool (FO sp (y4 sp nm) (l.map (Dd sp)))]=zs (zo (b.Hv nm l sp).row):=by rw[lM];rw[wn];rw[Ae x]
 let q:=aHT w hnm p;refine⟨T,V,?_,by rw[BS.EL];rwa[Ae x],D⟩;let mH:=λ(y:Item)=>@Item.C5 y;let⟨n,i,ps,f,_⟩:=w.w;let F:∀(Q:HN) (kk:Dz->List Ad->IT) p',p'=(if W9 [AE] b.a p then(b.a.nd p).cont else p)->(if b.a.has p' then(b.a.nd p').Cd else b.Cd)=b.J2 p:=by
  intro Q kk p' e;rw[aLj ok];rw[BS.J2];by_cases d:W9 [AE] b.a p;.rw[Ae d] at e;subst e;rw[Ae ((Nl ok.ok p).2 d)]
  .rw[Aa d] at e;subst e;rw[Aa (λh=>d ((Nl ok.ok p').1 h))]
 let F:=F (λ_ _ _=>True) (λ_ _=> .fail);rw[Ac,aAM];by_cases d:W9 [AE] b.a p
 .let A:b.a.has p:=by
   by_cases hp:b.a.has p;.exact hp
   .have:=d.1;rw[HO hp] at this;simp at this
  let k:=yy w (b.a.nd p).cont;rw[F _ (Ae d).symm] at k;rw[Ah d] at q;by_cases Y:sp=2
  .let e:y4 sp nm=CD nm Ko:=by rw[y4];rw[Ae Y]
   rw[e] at j g Z;simp only[abS,AP,Fh,s,Ah x,v,Aw Y,(aNM nm).BG rfl rfl,A9,q,w.l0,f.nodes,f.addr A,f.f11 A,k,BK,j,g,Z,mH]
  .let e:y4 sp nm=nm:=by rw[y4];rw[Aa Y]
   rw[e] at j g Z;simp only[abS,AP,Fh,s,Ah x,v,Y,A9,q,w.l0,f.nodes,f.addr A,f.f11 A,k,BK,j,g,Z,mH]
 .let k:=yy w p;rw[F _ (Aa d).symm] at k;rw[Ag d] at q;by_cases Y:sp=2
  .let e:y4 sp nm=CD nm Ko:=by rw[y4];rw[Ae Y]
   rw[e] at j g Z;simp only[abS,AP,Fh,s,Ah x,v,Aw Y,(aNM nm).BG rfl rfl,A9,q,w.l0,k,BK,j,g,Z,mH]
  .let e:y4 sp nm=nm:=by rw[y4];rw[Aa Y]
   rw[e] at j g Z;simp only[abS,AP,Fh,s,Ah x,v,Y,A9,q,w.l0,k,BK,j,g,Z,mH]
end
section
variable{h O:Ak}{N a:Nat}{o c t:Ad}{G P F:Nat->Prop}{b:BS}{x:Int}{m:Nat}
variable{nm:Aj}{R:Ad}{l:List Bb}{r:List Ad}{sp p:Int}
section
variable(w:RX h N a o c t G b)
def aLk(ok:BA b)(F:BW b (m+4))(x:Nm b.a)(U:P2 nm R r)(hv:AK l R)(V:Eg l)(hn:zz nm<=1000)sp:
  ∃O o' P,BF cx 79 [Pt N 0,zo r,I sp] h (I (b.Lh sp)) O/\RX O N a o' c t P (b.D5 nm l sp)/\Dx h (BD N G) O (BD N P):=by
 let cR:=hK;let ho:=F.AJ;let g:∀{Q:HN} {h:Ak} {T:Ad->IT},W cx (.BG 201 [I sp] T) Q h↔W cx (T (.bool (decide (BS.I5 sp)))) Q h:=(yw _).BG rfl rfl;let Hi:=U;obtain⟨L,K,J,H,E,D,C,B,Uz,Tj,rfl⟩:=U;by_cases f:BS.I5 sp;rotate_left
 .refine⟨h,o,G,?_,by rw[wx];rwa[Aa f],.refl⟩;let e:b.Lh sp=0:=by rw[BS.Lh];rw[Aa f]
  simp[e,aAG,g,Ag f]
 let s:=y_ w ok F x 0;let⟨h1,M,r2,w1,j⟩:=aGg (m:=m+1) w ok (F.le Ab) x Hi hv V hn (b.place 0).1 sp;let TE:=nc (nm:=nm) (at_:=l) (p:=(b.place 0).1) ok f;let qb:=Kv (m:=m+1) (nm:=nm) (sp:=sp) (p:=(b.place 0).1) (F.le Ab) V;let X:(b.Hv nm l sp).node=b.a.len+1:=by rw[wn];rw[Ae f]
 let Y:(b.EL nm l sp (b.place 0).1).AJ=b.AJ:=by rw[y3];rw[Ae f]
 let⟨h2,A,q,d,i⟩:=yz w1 TE qb (b.place 0).1 (b.Hv nm l sp).node (b.place 0).2;let ld:A8 h2 yx (Pt N 2)=zs o:=d.ld 2;let⟨u,z,hu⟩:=y6 (b:=40) d.o (by rw[Y];omega);let v:=AY.KT (b:=40) (a:=b.Hv nm l sp) hu (by rw[Y];omega);let Z:B7 (({b.EL nm l sp (b.place 0).1 with a:=(b.EL nm l sp (b.place 0).1).a.E8 (b.Hv nm l sp).node (b.place 0).1 (b.place 0).2}:BS).AJ++[b.Hv nm l sp]) _:=AY.mk;let n:=d.IB Z;let e:b.Lh sp=(b.Hv nm l sp).node:=by rw[BS.Lh];rw[Ae f,X]
 refine⟨_,_,A,?_,by rw[wx];rw[Ae f];simp only;rwa[<-X],(j.trans i).trans Be⟩;let em:AB (.Df 4) [zo (b.Hv nm l sp).row]=zs (.sl 4 [(b.Hv nm l sp).row]):=Oj;let mH:=λ(y:Item)=>@Item.C5 y;simp only[e,Ac,aAG,abS,Fh,g,Ah f,s,r2,mH,q,ld,z,em,v,d.st (k:=2) rfl (AY.cells Z)]
def Ĉ(ok:BA b)(z:BW b (m+4))(u:Nm b.a)(v:P2 nm R r)(A:AK l R)(C:Eg l)(B:zz nm<=1000):
  ∃O p P,BF cx 78 [Pt N 0,zo r] h (I (b.a.len+1)) O/\RX O N a p c t P (b.D5 nm l 1)/\Dx h (BD N G) O (BD N P):=by
 let⟨O,p,P,d,y,x⟩:=aLk w ok z u v A C B 1;refine⟨O,p,P,?_,y,x⟩;let e:b.Lh 1=b.a.len+1:=by rw[BS.Lh];rw[Ae KP]
 rw[e] at d;obtain⟨s,q,n,k,j,i,g,f,Uz,Tj,rfl⟩:=v;simp[aJK,d]
def aQf:∃O,BF cx 91 [Pt N 0] h (ζ []) O/\RX O N a o c t G {b with stop:=z8}/\Dx h (BD N G) O (BD N G):=⟨_,by simp[aJQ,w.st (k:=19) (v:=tt) rfl rfl],w.put (k:=19) rfl rfl w.o w.t,Be⟩
end
end
section
variable{h P:Ak}{O a:Nat}{o c t:Ad}{G T F:Nat->Prop}{b:BS}{x:Int}{m:Nat}
variable{nm:Aj}{U:Ad}{l:List Bb}{r:List Ad}{sp p:Int}
def aQg(w:RX h O a o c t G b)(ok:E4 b)(rm:BW b (m+1000))(hr:P2 nm U r)(hv:AK l U)(hl:Eg l)x:
  ∃P T,BF cx 89 [Pt O 0,zo r,I x] h (ζ []) P/\RX P O a o c t T (b.ER l x)/\Dx h (BD O G) P (BD O T):=by
 let cR:=hK;obtain⟨M,L,K,J,H,E,D,C,Uz,Tj,rfl⟩:=hr;by_cases F:(b.a.nd x).kind=4;rotate_left;.exact⟨h,G,by simp[aAK,Ox w x,F,BR],by rw[vw];rwa[Aa F],.refl⟩
 let X:b.a.has x:=by
  by_cases hp:b.a.has x;.exact hp
  .rw[HO hp] at F;simp at F
 let Zu:=rm.at_ x;let jb:=hl.1;let⟨n,i,ps,d,_⟩:=w.w;let⟨A,e0,g⟩:=y6 (b:=40) (d.ħ X) Ab;let Jy:Ev cx 89 [Pt O 0,zo [M,z4 nm,L,K,J,H,E,D,U,C,Uz,Tj],I x] h λr P=>r= ζ []/\∃T,RX P O a o c t T (b.ER l x)/\Dx h (BD O G) P (BD O T):=by
  rw[Ev];let Y:=AY.CQ hv;simp only[aAK,abS,Ox w x,Aw F,BR,w.l0,d.nodes,d.addr X,d.f6 X,e0];refine Bm (λs:Ad×Nat=>[s.1,I s.2]) (λs h1=>s.2<=zz l/\AK ((b.a.nd x).Al++yf (l.take s.2)) s.1/\h1=h) (λs=>zz l-s.2) (A,0) rfl ⟨AZ _,by rwa[GD,yf,C1,Br],rfl⟩ ?_;rintro⟨u,k⟩ h1 ⟨iV,Z,rfl⟩;simp only at iV Z;obtain p|EC:=AQ k (zz l)
  .let j:=AY.BL (k:= z0) hv p;rw[Bb.row] at j;let em:AB (.Df 3) [zo [I 0,z4 l[k].name,z4 l[k].value]]=zs (.sl 3 [[I 0,z4 l[k].name,z4 l[k].value]]):=rfl;let a1:=AY.KT (b:=40) (a:=⟨0,l[k].name,l[k].value⟩) Z (by rw[As,yf,Ao,Az];omega);rw[Bb.mB] at a1;let hs:(b.a.nd x).Al++yf (l.take (k+1))=((b.a.nd x).Al++yf (l.take k))++[⟨0,l[k].name,l[k].value⟩]:=by rw[AG p,yf,BJ,<-AO];rfl
   simp only[abS,θ,AP,Y,(Ab:k<(zz l:Int)),j,aaS,em,a1,BB k];exact yu (_,k+1) rfl ⟨p,by rw[hs,AO];exact .mk,rfl⟩ DO
  .have Tb:k=zz l:=by omega
   subst Tb;rw[Bx] at Z;let hsp:∀y∈(b.a.nd x).Al++yf l,BS.I5 y.Bk:=by
    intro y V;obtain V|V:=AA.1 V
    .exact(ok.ok.Vd x X).asp y V
    .obtain⟨z,_,rfl⟩:=Bv.1 V;exact⟨DO,DO⟩
   let⟨h2,N,B,v,q⟩:=w.step λn i ps d=>let⟨P,JM,f1,f2,f3⟩:=aPA d X F Z (by rw[As,yf,Ao];omega) hsp;⟨P,n,i,JM,f1,f2,f3⟩
   let e:b.ER l x={b with a:=b.a.KV x ((b.a.nd x).Al++yf l)}:=by rw[vw];rw[Ae F]
   simp only[abS,θ,AP,Y,(Ab:¬zz l<(l.length:Int)),w.l0,B];exact⟨_,rfl,rfl,N,e▸v,q⟩
 obtain⟨r,P,hr,rfl,T,w',x'⟩:=Jy.ret;exact⟨P,T,hr,w',x'⟩
def aQh(w:RX h O a o c t G b)(z:BW b m):
  ∃P J,BF cx 84 [Pt O 0] h (ζ []) P/\RX P O a J c t G b.BT/\Dx h (BD O G) P (BD O G):=by
 let ho:=z.AJ;let l:∀i∈b.AJ,zz i.name<9223372036854775807:=λi L=>by have:=z.YD i L;omega
 let B:AB (.Df 1) [S [112]]=zs (.sl 1 ([wP].map BY)):=DK rfl AR;let A:A8 h yx (Pt O 2)=zs o:=w.ld 2;let e:=aJ6 (h:=h) w.o Ab l 3 (Cc (ws:=[wP])) AR;by_cases r:HG (AS [wP]) (GZ 3) b.AJ.reverse=z8;rotate_left
 .let K:HG (AS [wP]) (GZ 3) b.AJ.reverse=η:=zv r
  rw[K] at e;exact⟨h,o,by simp only[Ac,aAI,By,A,B,e],by rw[BS.BT];rwa[Aa r],.refl⟩
 .rw[r] at e;let⟨d,g,H,v⟩:=f165 (h:=h) w.o Ab l wP η;let y:=w.If (u:=g);let f:=y.IB v;let M:Fm wP η=CN wP:=by funext a;rfl
  let l1:(Dg (Fm wP η) Cl b.AJ).length<=zz b.AJ:=Tp;let j:A8 (put (h++g) O 2 d) yx (Pt O 2)=zs d:=f.ld 2;let⟨q,F,s,x⟩:=f85 (h:=put (h++g) O 2 d) v Ab (Cc (ws:=[wP])) AR;let n:=f.If (u:=F);rw[<-Ld] at x;let p:=n.IB x;refine⟨_,q,?_,by rw[BS.BT];rwa[Ae r,<-M],((w.De.trans Be).trans f.De).trans Be⟩;simp only[Ac,aAI,By,A,B,e,H,y.st (k:=2) rfl (AY.cells v),j,s,n.st (k:=2) rfl (AY.cells x)]
variable{nm:Aj}{U:Ad}{l:List Bb}{r:List Ad}
section
variable(w:RX h O a o c t G b)
def aQi(ok:BA b)(K:BW b (m+4))(F:Nm b.a)(H:P2 nm U r)(N:AK l U)(R:Eg l)(Q:zz nm<=1000)st:
  ∃P L T,BF cx 83 [Pt O 0,zo r,I st] h (ζ []) P/\RX P O a L c t T (b.DM nm l st)/\Dx h (BD O G) P (BD O T):=by
 let⟨J,e,f,s,x,i⟩:=Ĉ w ok K F H N R Q;obtain⟨E,D,C,B,A,z,y,u,Uz,Tj,rfl⟩:=H;let d:RX (put J O 18 (I st)) O a e c t f {b.D5 nm l 1 with sw:=st}:=x.put rfl rfl x.o x.t;let g:RX (put (put J O 18 (I st)) O 5 (I (b.D5 nm l 1).mode)) O a e c t f {{b.D5 nm l 1 with sw:=st} with Kt:=(b.D5 nm l 1).mode}:=d.put rfl rfl d.o d.t;let j:=g.br 8;exact⟨_,e,f,by let q:=x.st (k:=18) (v:= I st) rfl rfl;let p:=d.st (k:=5) (v:= I (b.D5 nm l 1).mode) rfl rfl;let n:=g.st (k:=4) (v:=I 8) rfl rfl;let M:=d.l4;simp[aJM,s,q,M,p,n],j,((i.trans Be).trans Be).trans Be⟩
def aVM(p:BW b m):∃P r,BF cx 93 [Pt O 0] h (zo b.pC.row) P/\RX P O a r c t G b.Gk/\Dx h (BD O G) P (BD O G):=by
 let ho:=p.AJ;let q:A8 h yx (Pt O 2)=zs o:=w.ld 2;let lo:=AY.CQ w.o;unfold y7 BS.pC;by_cases j:zz b.AJ<2;.exact⟨h,o,by simp[Ae j,aAL,AP,q,lo,(Ab:(zz b.AJ:Int)<2)];rfl,Ae j▸w,.refl⟩
 .let⟨u,e,f,l⟩:=aFu (h:=h) w.o Ab;let s:Lc b.AJ (zz b.AJ-1)=b.AJ.take (zz b.AJ-1):=by rw[Lc];congr 1;omega
  rw[s] at l;let n:=w.If (u:=e);let d:=n.IB l;refine⟨_,u,?_,by rwa[Aa j],w.De.trans Be⟩;simp only[Aa j,Ac,aAL,abS,AP,Fh,q,lo,(Ab:¬(zz b.AJ:Int)<2),aBA w p,f,n.st (k:=2) rfl (AY.cells l)]
end
def aLl(w:RX h O a o c t G b)(T:BW b m)(nm:Aj):
  ∃P E,BF cx 86 [Pt O 0,z4 nm] h (ζ []) P/\RX P O a E c t G (b.CZ nm)/\Dx h (BD O G) P (BD O G):=by
 let ho:=T.AJ;let F:∀i∈b.AJ,zz i.name<9223372036854775807:=λi V=>by have:=T.YD i V;omega
 let H:A8 h yx (Pt O 2)=zs o:=w.ld 2;let lo:=AY.CQ w.o;let Jy:Ev cx 86 [Pt O 0,z4 nm] h λr P=>r= ζ []/\∃E,RX P O a E c t G (b.CZ nm)/\Dx h (BD O G) P (BD O G):=by
  simp only[Ev,aJO,By,H,lo,Db (zz b.AJ) 1];refine Bm (λn:Nat=>[I (n-1)]) (λn C=>n<=zz b.AJ/\(b.AJ.reverse.find? λi=>AS [nm] i||Dc i)=((b.AJ.take n).reverse.find? λi=>AS [nm] i||Dc i)/\C=h) (λn=>n) (zz b.AJ) rfl ⟨Af _,by rw[Bx],rfl⟩ ?_;rintro n C ⟨hn,l,rfl⟩;cases n
  .let e:b.CZ nm=b:=by rw[BS.CZ];rw[l];rfl
   simp only[abS,(Ab:¬0<=((0:Nat):Int)-1)];exact⟨_,rfl,rfl,o,by rwa[e],.refl⟩
  next n=>
   let x:n<zz b.AJ:=Ab;let i1:(n+1:Nat)-1=(n:Int):=Ab;have v:=AY.BL (k:= z0) w.o x;have Y7:=F _ (AV x);let L:AB (.Df 1) [z4 nm]=zs (.sl 1 ([nm].map BY)):=DK rfl AF;rw[Oo x,Ed] at l;generalize V:b.AJ[n]=i at*;let D:BF cx 212 [zo i.row,.sl 1 ([nm].map BY)] C (.bool (AS [nm] i)) C:=f167 i (Cc) AF;let K:=Db (n) 1;cases J:AS [nm] i
   .rw[J] at D l;let g:∀{Q:HN} {h:Ak} {U:Ad->IT},W cx (.BG 214 [I i.Bk,z4 i.name] U) Q h↔W cx (U (.bool (Dw i.Bk i.name))) Q h:=(f169 i.Bk i.name Y7).BG rfl rfl;cases j:Dc i
    .let d:Dw i.Bk i.name=η:=j;rw[j] at l;simp only[abS,Nat.reduceLeDiff,Fh,i1,Of,H,v,L,D,g,d,K];exact yu n rfl ⟨Ab,l,rfl⟩ Ab
    .let d:Dw i.Bk i.name=z8:=j;rw[j] at l;let e:b.CZ nm=b:=by rw[BS.CZ];rw[l];simp[J]
     simp only[abS,Nat.reduceLeDiff,Fh,i1,Of,H,v,L,D,g,d];exact⟨_,rfl,rfl,o,by rwa[e],.refl⟩
   .rw[J] at D l;let⟨f,q,g,M⟩:=f165 (h:=C) w.o Ab F nm η;let R:=w.If (u:=q);let p:=R.IB M;let I3:Fm nm η=CN nm:=by funext a;rfl
    let l1:(Dg (Fm nm η) Cl b.AJ).length<=zz b.AJ:=Tp;let s:A8 (put (C++q) O 2 f) yx (Pt O 2)=zs f:=p.ld 2;let⟨A,t2,B,X⟩:=aNZ (h:=put (C++q) O 2 f) M Ab i.node;let y:=p.If (u:=t2);let z:=y.IB X;let e:b.CZ nm={b with AJ:=Ii i.node (Dg (CN nm) Cl b.AJ)}:=by simp[BS.CZ,l,J,KL,BV]
    simp only[abS,Nat.reduceLeDiff,↓reduceIte,Fh,i1,Of,H,v,L,D,g,R.st (k:=2) (v0:=o) rfl (AY.cells M),s,B,y.st (k:=2) (v0:=f) rfl (AY.cells X)];exact⟨_,rfl,rfl,A,e▸I3▸z,((w.De.trans Be).trans p.De).trans Be⟩
 obtain⟨r,P,hr,rfl,E,w',Z⟩:=Jy.ret;exact⟨P,E,hr,w',Z⟩
variable{nm:Aj}{U:Ad}{l:List Bb}{r:List Ad}
def aQj(w:RX h O a o c t G b)(Z:Ca b.AX c)(ok:E4 b)(D:BW b (m+5))(F:Nm b.a)(K:P2 nm U r)(E:AK l U)(L:Eg l)(X:zz nm<=1000):
  ∃P R M T,BF cx 80 [Pt O 0,zo r] h (I (b.a.len+1)) P/\RX P O a R M t T (b.HH nm l)/\Ca (b.HH nm l).AX M/\Dx h (BD O G) P (BD O T):=by
 let⟨H,j,n,i,C,g⟩:=Ĉ (m:=m+1) w ok (D.le Ab) F K E L X;let⟨fs,d,Y⟩:=Z;let ha:=D.AX;let Iq:zz fs=zz b.AX:=by rw[<-d,Ao]
 let⟨u,e',Sg,Q,J⟩:=aN9 (h:=H) Y Ab (vC d λx V=>((D.DU x V).2).1) (e:=⟨⟨b.a.len+1,nm,l⟩,U,E⟩) (by rw[iQ];have:=L.1;simp only;omega);refine⟨_,j,u,n,?_,C.KJ,?_,g.trans Be⟩;.obtain⟨B,A,z,y,v,s,q,p,Uz,Tj,rfl⟩:=K;let f:BF cx 129 [c,zo [I (b.a.len+1),z4 nm,U]] H u H:=Q;let bM:=AY.cells E;simp[aJL,AP,i,C.l3,bM,f,C.st (k:=3) rfl (AY.cells J)]
 .exact⟨_,by rw[bn Sg,d];rw[BS.HH];simp only;rw[D9],J⟩
end
section
variable{n:Nat}
def wB(d:Nat)(hd:0<d)(h:n<2147483648)(e:AB (.int .quo) [I n,I d]=zs (I (IntKind.i64.wrap ((n:Int).tdiv (d:Int))))):AB (.int .quo) [I n,I d]=zs (I (n/d:Nat)):=by
 have b:(n:Int).tdiv d=(n/d:Nat):=by rw[Int.tdiv_eq_ediv_of_nonneg Ab];rfl
 have a:=Nat.div_le_self n d;rw[e,b];generalize n/d=k at*;rw[wrap_i64 Ab Ab]
def aGh(d:Nat)(hd:0<d)(h:n<2147483648)(e:AB (.int .rem) [I n,I d]=zs (I ((n:Int).tmod (d:Int)))):AB (.int .rem) [I n,I d]=zs (I (n%d:Nat)):=by
 let a:(n:Int).tmod d=(n%d:Nat):=by rw[Int.tmod_eq_emod_of_nonneg Ab];rfl
 rw[e,a]
section
variable(h:n<2147483648)
def gX:AB (.int .quo) [I n,I 64]=zs (I (n/64:Nat)):=wB 64 AR h rfl
def gY:AB (.int .quo) [I n,I 4096]=zs (I (n/4096:Nat)):=wB 4096 AR h rfl
def wC:AB (.int .quo) [I n,I 262144]=zs (I (n/262144:Nat)):=wB 262144 AR h rfl
def Qh:AB (.int .rem) [I n,I 64]=zs (I (n%64:Nat)):=aGh 64 AR h rfl
end
def WM c(h:c+n<2147483648):AB (.int .add) [I c,I n]=zs (I (c+n:Nat)):=by rw[QK Ab Ab];congr 2
def N4(h:n<64):AB (.int .add) [I 128,I n]=zs (I (128+n:Nat)):=WM 128 Ab
def ĉ(h:n<64):AB (.int .add) [I 192,I n]=zs (I (192+n:Nat)):=WM 192 Ab
def Ċ(h:n<64):AB (.int .add) [I 224,I n]=zs (I (224+n:Nat)):=WM 224 Ab
def ċ(h:n<64):AB (.int .add) [I 240,I n]=zs (I (240+n:Nat)):=WM 240 Ab
def Ug(h:n<256):AB (.conv .u8) [I n]=zs (.int .u8 n):=by rw[XR];congr 3;omega
end
def S2(r:Int):Prop:=(0<=r/\r<=55295)\/(57344<=r/\r<=1114111)
instance(r:Int):Decidable (S2 r):=by rw[S2];infer_instance
def aQk r:JY cx 204 [.int .i32 r] (.bool (decide (S2 r))):=by rw[Mh,aEn];by_cases d:0<=r<;>by_cases c:r<=55295<;>by_cases b:57344<=r<;>by_cases a:r<=1114111<;>simp[d,c,b,a,S2]
def aQl r(t:S2 r)(h:Ak):BF cx 205 [.int .i32 r] h (.sl 1 (Cs (I6 r))) h:=by
 let s:∀{a:Nat} (m:a<256),AB (.Df 1) [.int .u8 a]=zs (.sl 1 (Cs [z9 a])):=by intro a m;rw[Cs,Bn,C1,lZ m];rfl
 let KO:∀{a b:Nat} (m:a<256) (o:b<256),AB (.Df 1) [.int .u8 a,.int .u8 b]=zs (.sl 1 (Cs [z9 a,z9 b])):=by intro a b m o;simp only[Cs,Bn,C1,lZ m,lZ o];rfl
 let u:∀{a b c:Nat} (m:a<256) (o:b<256) (d:c<256),AB (.Df 1) [.int .u8 a,.int .u8 b,.int .u8 c]=zs (.sl 1 (Cs [z9 a,z9 b,z9 c])):=by intro a b c m o d;simp only[Cs,Bn,C1,lZ m,lZ o,lZ d];rfl
 let p:∀{a b c f:Nat} (m:a<256) (o:b<256) (d:c<256) (g:f<256),AB (.Df 1) [.int .u8 a,.int .u8 b,.int .u8 c,.int .u8 f]=zs (.sl 1 (Cs [z9 a,z9 b,z9 c,z9 f])):=by intro a b c f m o d g;simp only[Cs,Bn,C1,lZ m,lZ o,lZ d,lZ g];rfl
 rw[S2] at t;obtain⟨n,rfl⟩:=Ke (Ab:0<=r);let q:AB (.conv .i64) [.int .i32 n]=zs (I n):=by rw[Tk,wrap_i64 Ab Ab]
 rw[Ac,aEo];by_cases k:n<128
 .let e:I6 n=[z9 n]:=by rw[I6];rw[Ae Ab];rfl
  simp[e,q,(Ab:(n:Int)<128),Ug (Ab:n<256),s (Ab:n<256)]
 by_cases j:n<2048
 .let e:I6 n=[z9 (192+n/64),z9 (128+n%64)]:=by rw[I6];rw[Aa Ab,Ae Ab];rfl
  simp only[e,abS,q,(Ab:¬(n:Int)<128),(Ab:(n:Int)<2048),gX (Ab:n<2147483648),ĉ (Ab:n/64<64),Ug (Ab:192+n/64<256),Qh (Ab:n<2147483648),N4 (Ab:n%64<64),Ug (Ab:128+n%64<256),KO (Ab:192+n/64<256) (Ab:128+n%64<256)]
 by_cases i:n<65536
 .let e:I6 n=[z9 (224+n/4096),z9 (128+n/64%64),z9 (128+n%64)]:=by rw[I6];rw[Aa Ab,Aa Ab,Ae Ab];rfl
  simp only[e,abS,q,(Ab:¬(n:Int)<128),(Ab:¬(n:Int)<2048),(Ab:(n:Int)<65536),gY (Ab:n<2147483648),Ċ (Ab:n/4096<64),Ug (Ab:224+n/4096<256),gX (Ab:n<2147483648),Qh (Ab:n/64<2147483648),N4 (Ab:n/64%64<64),Ug (Ab:128+n/64%64<256),Qh (Ab:n<2147483648),N4 (Ab:n%64<64),Ug (Ab:128+n%64<256),u (Ab:224+n/4096<256) (Ab:128+n/64%64<256) (Ab:128+n%64<256)]
 .let e:I6 n=[z9 (240+n/262144),z9 (128+n/4096%64),z9 (128+n/64%64),z9 (128+n%64)]:=by rw[I6];rw[Aa Ab,Aa Ab,Aa Ab,Ae Ab];rfl
  simp only[e,abS,q,(Ab:¬(n:Int)<128),(Ab:¬(n:Int)<2048),(Ab:¬(n:Int)<65536),wC (Ab:n<2147483648),ċ (Ab:n/262144<64),Ug (Ab:240+n/262144<256),gY (Ab:n<2147483648),Qh (Ab:n/4096<2147483648),N4 (Ab:n/4096%64<64),Ug (Ab:128+n/4096%64<256),gX (Ab:n<2147483648),Qh (Ab:n/64<2147483648),N4 (Ab:n/64%64<64),Ug (Ab:128+n/64%64<256),Qh (Ab:n<2147483648),N4 (Ab:n%64<64),Ug (Ab:128+n%64<256),p (Ab:240+n/262144<256) (Ab:128+n/4096%64<256) (Ab:128+n/64%64<256) (Ab:128+n%64<256)]
def Č r:I6 (if S2 r then r else 65533)=I6 r:=by
 by_cases h:S2 r;.rw[Ae h]
 .rw[Aa h];rw[S2] at h;have:I6 r=[239,191,189]:=by rw[I6];rw[Aa Ab,Aa Ab,Aa Ab,Aa Ab]
  let a:I6 65533=[239,191,189]:=by rw[I6];rw[Aa Ab,Aa Ab,Ae Ab];decide+kernel
  rw[this,a]
def aCb r:S2 (if S2 r then r else 65533):=by
 by_cases h:S2 r;.rw[Ae h];exact h
 .rw[Aa h];decide
section
variable{h h':Ak}{bi a:Nat}{o c t:Ad}{G G' F:Nat->Prop}{b:BS}{x:Int}{m:Nat}
variable{nm:Aj}{av:Ad}{l:List Bb}{r:List Ad}{sp p:Int}
def RX.leaf{k d:Int}{s:Aj}(w:RX h bi a o c t G b)(ok:E4 b)(K:BW b (m+1))(T:k=5\/k=6)(H:b.a.has d/\(b.a.nd d).kind=1)(Q:zz s<=100000)(p J):
  ∃e l F,BF cx 120 [Pt a 0,I d,zo [I k,I 0,.slnil,I 0,I 0,S [],.slnil,z4 s,S [],S [],ff,I 0,I 0]] h (ζ [I (b.a.len+1),I 0]) e/\BF cx 160 [Pt bi 0,I p,I (b.a.len+1),I J] e (ζ []) l/\RX l bi a o c t F {b with a:=(b.a.add {kind:=k,Cd:=d,data:=s}).E8 (b.a.len+1) p J}/\Dx h (BD bi G) l (BD bi F):=by
 let⟨e,C,B,z,u⟩:=w.step (A':=b.a.add {kind:=k,Cd:=d,data:=s}) (R:=λl=>BF cx 120 [Pt a 0,I d,zo [I k,I 0,.slnil,I 0,I 0,S [],.slnil,z4 s,S [],S [],ff,I 0,I 0]] h (ζ [I (b.a.len+1),I 0]) l) (λn i ps v=>by let⟨l,O,P,U,r,N,j⟩:=aPv v (show b.a.len<=1000000000 by have:=K.n;rw[Ar.len];omega) H.1 H.2 k s;exact⟨l,O,P,U,r,N,j⟩)
 let⟨g,f⟩:=vF ok K T H Q;let⟨l,F,A,y,q⟩:=yz z g.ba f p (b.a.len+1) J;exact⟨e,l,F,B,A,y,u.trans q⟩
def aQm(w:RX h bi a o c t G b)(ok:E4 b)(rm:BW b (m+5))(hnm:Nm b.a)r:
  ∃h' G',BF cx 81 [Pt bi 0,.int .i32 r] h (ζ []) h'/\RX h' bi a o c t G' (b.Nf r)/\Dx h (BD bi G) h' (BD bi G'):=by
 have g:=y_ w ok rm hnm 0;have N:=aq (b:=b) (t:=0);rw[BS.Nf];generalize(b.place 0).1=p at*;generalize(b.place 0).2=bf at*;let r2:=Ox w p;rw[BS.KH];by_cases hk:(b.a.nd p).kind=4\/(b.a.nd p).kind=2;rotate_left;.exact⟨h,G,by let Y:¬(b.a.nd p).kind=4:=λe=>hk (yg e);let Z:¬(b.a.nd p).kind=2:=λe=>hk (ys e);rw[Ac,pO];simp only[abS,g,r2,BR,Y,Z,A9],by rw[Aa hk];exact w,.refl⟩
 let hp:b.a.has p:=by apply Mw;intro h;rw[HO h] at hk;simp at hk
 rw[Ae hk];let⟨i,hi,pj,Za,M⟩:=bq (l:=(b.a.nd p).Bj) (bf:=bf) (λh=>by have:=N h;let h2:=(ok.ok.Ha bf this.1 (by rw[this.2];have:=hp.1;omega)).2;rwa [this.2] at h2);rw[M];let Tb:(b.a.nd p).Bj.length<=1000000000:=rm.V6.Bj ok.ok p;let⟨n,i',ps,d,eG⟩:=w.w;let⟨kv,y,ym⟩:=aBy (x:=p) d Tb;let F:=AY.CQ ym;let q:=aPC (h:=h) ym Tb bf;let rd:=yy w p;rw[Ae hp] at rd;let z:∀{Q:HN} {h:Ak} {kk:Ad->IT},W cx (.BG 204 [.int .i32 r] kk) Q h↔W cx (kk (.bool (decide (S2 r)))) Q h:=(aQk r).BG rfl rfl;obtain⟨r',Hi⟩:∃r',r'=if S2 r then r else 65533:=⟨_,rfl⟩
 let kG:=aCb r;let wS:=Č r;rw[<-Hi] at kG wS;let rb:=aQl r' kG h;rw[wS] at rb;have wT:=Wn r;generalize hs:I6 r=s at*;let f3:LH h (.sl 1 (Cs s))=zs (h,.sl 1 (Cs s)):=rfl;let b3:AB .aQ [.sl 1 (Cs s)]=zs (z4 s):=by simp[AB,aS,UE]
 let vG:=ok.ok.Cd p hp;let⟨h4,R,S,J,H,P,O⟩:=w.leaf (m:=m) (k:=5) (s:=s) ok (rm.le Ab) (yg rfl) vG Ab p bf;by_cases hz:i=0
 .subst hz;simp only[↓reduceIte];refine⟨R,S,?_,P,O⟩;rw[Ac,pO];obtain hk|hk:=hk<;>by_cases TW:S2 r<;>by_cases h0:bf=0
  all_goals first|rw[Ae TW] at Hi|rw[Aa TW] at Hi
  all_goals subst Hi
  all_goals first
   |(rw[<-pj h0] at F;simp[AP,g,r2,BR,hk,Jq,A9,z,Ah TW,rb,f3,b3,w.l0,y,F,Aw h0,(AR:¬0<0),rd,BK,J,H];done)
   |(rw[<-pj h0] at F;simp[AP,g,r2,BR,hk,Jq,A9,z,Ag TW,rb,f3,b3,w.l0,y,F,Aw h0,(AR:¬0<0),rd,BK,J,H];done)
   |(rw[Za h0] at q;simp[AP,g,r2,BR,hk,Jq,A9,z,Ah TW,rb,f3,b3,w.l0,y,F,h0,q,(AR:¬0<0),rd,BK,J,H];done)
   |(rw[Za h0] at q;simp[AP,g,r2,BR,hk,Jq,A9,z,Ag TW,rb,f3,b3,w.l0,y,F,h0,q,(AR:¬0<(0:Nat)),rd,BK,J,H];done)
 .obtain⟨j,rfl⟩:∃j,i=j+1:=⟨i-1,Ab⟩;let hj:j<(b.a.nd p).Bj.length:=Ab;rw[Aa hz,EY,Ap hj];simp only
  have ht:=ok.ok.OL p hp _ (AV hj);let C:=AY.BL (k:= .i64) ym hj;rw[BM] at C;let D:AB (.int .sub) [I (j+1:Nat),I 1]=zs (I j):=by have:=IK (n:=j+1) Ab Ab;exact zv this
  let f:0<((j+1:Nat):Int):=Ab;generalize hte:(b.a.nd p).Bj[j]=B at*;let E:=Ox w B;by_cases A:(b.a.nd B).kind=5
  .rw[Ae A];let gq:=rm.data B;let⟨h8,K,X,U,_⟩:=d.wr ht.1 (k:=7) AR (v:= .str ((b.a.nd B).data++s)) rfl (p:=⟨{b.a.nd B with data:=(b.a.nd B).data++s},(pR ps B).kv,(pR ps B).av,d.OL ht.1,d.ħ ht.1⟩) (by simp only[RN.row];rw[(d.pn ht.1).2];rfl);let⟨V,T⟩:=w.yn (G':=Ky a n i') ⟨n,i',_,X,rfl⟩ (eG▸U);refine⟨h8,_,?_,V,T⟩;let L:=vE (s:=(b.a.nd B).data) (u:=s) Ab;rw[Ac,pO];obtain hk|hk:=hk<;>by_cases TW:S2 r<;>by_cases h0:bf=0
   all_goals first|rw[Ae TW] at Hi|rw[Aa TW] at Hi
   all_goals subst Hi
   all_goals first
    |(rw[<-pj h0] at F;simp only[abS,Nat.reduceLeDiff,↓reduceIte,AP,g,r2,BR,hk,Jq,A9,z,Ah TW,rb,f3,b3,w.l0,y,F,Aw h0,f,D,C,E,Aw A,d.nodes,d.addr ht.1,d.f7 ht.1,L,K];done)
    |(rw[<-pj h0] at F;simp only[abS,Nat.reduceLeDiff,↓reduceIte,AP,g,r2,BR,hk,Jq,A9,z,Ag TW,rb,f3,b3,w.l0,y,F,Aw h0,f,D,C,E,Aw A,d.nodes,d.addr ht.1,d.f7 ht.1,L,K];done)
    |(rw[Za h0] at q;simp only[abS,Nat.reduceLeDiff,↓reduceIte,AP,g,r2,BR,hk,Jq,A9,z,Ah TW,rb,f3,b3,w.l0,y,F,h0,q,f,D,C,E,Aw A,d.nodes,d.addr ht.1,d.f7 ht.1,L,K];done)
    |(rw[Za h0] at q;simp only[abS,Nat.reduceLeDiff,↓reduceIte,AP,g,r2,BR,hk,Jq,A9,z,Ag TW,rb,f3,b3,w.l0,y,F,h0,q,f,D,C,E,Aw A,d.nodes,d.addr ht.1,d.f7 ht.1,L,K];done)
  .rw[Aa A];refine⟨R,S,?_,P,O⟩;rw[Ac,pO];obtain hk|hk:=hk<;>by_cases TW:S2 r<;>by_cases h0:bf=0
   all_goals first|rw[Ae TW] at Hi|rw[Aa TW] at Hi
   all_goals subst Hi
   all_goals first
    |(rw[<-pj h0] at F;simp only[abS,Nat.reduceLeDiff,↓reduceIte,AP,g,r2,BR,hk,Jq,A9,z,Ah TW,rb,f3,b3,w.l0,y,F,Aw h0,f,D,C,E,A,rd,BK,J,H];done)
    |(rw[<-pj h0] at F;simp only[abS,Nat.reduceLeDiff,↓reduceIte,AP,g,r2,BR,hk,Jq,A9,z,Ag TW,rb,f3,b3,w.l0,y,F,Aw h0,f,D,C,E,A,rd,BK,J,H];done)
    |(rw[Za h0] at q;simp only[abS,Nat.reduceLeDiff,↓reduceIte,AP,g,r2,BR,hk,Jq,A9,z,Ah TW,rb,f3,b3,w.l0,y,F,h0,q,f,D,C,E,A,rd,BK,J,H];done)
    |(rw[Za h0] at q;simp only[abS,Nat.reduceLeDiff,↓reduceIte,AP,g,r2,BR,hk,Jq,A9,z,Ag TW,rb,f3,b3,w.l0,y,F,h0,q,f,D,C,E,A,rd,BK,J,H];done)
def RX.On{s:Aj}{p bf x:Int}(l:(¬x=0/\p=x/\bf=0)\/(x=0/\BF cx 202 [Pt bi 0,I 0] h (ζ [I p,I bf]) h))(w:RX h bi a o c t G b)(ok:E4 b)(F:BW b (m+1))(H:zz s<=100000):
  ∃C D,BF cx 82 [Pt bi 0,z4 s,I x] h (ζ []) C/\RX C bi a o c t D {b with a:=BS.EU b.a s p bf}/\Dx h (BD bi G) C (BD bi D):=by
 let B:=Ox w p;rw[BS.EU];by_cases k:Mt (b.a.nd p).kind
 .rw[Ae k];let z:b.a.has p:=by
   by_cases z:b.a.has p;.exact z
   .rw[HO z] at k;rw[Mt] at k;simp at k
  let E:=ok.ok.Cd p z;let rd:=yy w p;rw[Ae z] at rd;let⟨y,u,v,f,e,q,n⟩:=w.leaf ok F (ys rfl) E H p bf;refine⟨u,v,?_,q,n⟩;rw[Ac,aAH];rcases l with⟨r,rfl,rfl⟩|⟨r,d⟩
  .rcases k with k|k|k<;>simp[AP,A9,B,BR,k,Jq,w.l0,rd,BK,f,e,r]
  .rcases k with k|k|k<;>simp[AP,A9,B,BR,k,Jq,w.l0,rd,BK,f,e,Aw r,d]
 .rw[Aa k];refine⟨h,G,?_,w,.refl⟩;rw[Mt] at k;let j:¬(b.a.nd p).kind=1:=Ab;let i:¬(b.a.nd p).kind=2:=Ab;let g:¬(b.a.nd p).kind=4:=Ab;rw[Ac,aAH];rcases l with⟨r,rfl,rfl⟩|⟨r,d⟩
  .simp only[abS,θ,↓reduceIte,AP,A9,B,BR,j,i,g,r]
  .simp only[abS,θ,↓reduceIte,AP,A9,B,BR,j,i,g,Aw r,d]
def aQn(w:RX h bi a o c t G b)(ok:E4 b)(f:BW b (m+1))(i:Nm b.a)(s:Aj)(k:zz s<=100000)x:
  ∃j l,BF cx 82 [Pt bi 0,z4 s,I x] h (ζ []) j/\RX j bi a o c t l (b.DL s x)/\Dx h (BD bi G) j (BD bi l):=by
 rw[BS.DL];by_cases d:x=0;.rw[Ae d];exact RX.On (ys ⟨d,y_ w ok f i 0⟩) w ok f k
 .rw[Aa d];exact RX.On (yg ⟨d,rfl,rfl⟩) w ok f k
end
def ey(n:Int)(l:List B9):List B9:=if 0<=Eo n l then Bl l (Eo n l).toNat else l
def ez{U:Type}{l:List U}{k:Nat}{x:U}(b:k<zz l):(Bl l k).take k++x::(Bl l k).drop k=l.set k x:=by
 let a:(l.take k).length=k:=by rw[Az];omega
 rw[Bl];rw[Jc a,KZ a,B0,Ae b]
def YQ{p n:Nat}(h:p<=n):CX p n=p:=by rw[CX];omega
section
variable{h h':Ak}{bi a:Nat}{o c t:Ad}{G G' F:Nat->Prop}{b:BS}{x:Int}{m:Nat}
variable{nm:Aj}{av:Ad}{l:List Bb}{r:List Ad}{sp p:Int}
def Ca.ix{d:List B9}{n:Nat}(e:Ca d c)(f:zz d<=900000000)x(h:Ak):BF cx 216 [c,I x] h (I (Eo x d)) h:=by let⟨fs,a,b⟩:=e;have:=aTI (h:=h) b (by rw[<-a,Ao] at f;omega) x;rwa [Wm,a] at this
def Ca.wo{d:List B9}(i:Ca d c)(hb:zz d<=900000000){k:Nat}(hk:k<zz d)(h:Ak):∃u,BF cx 277 [c,I k] h u h/\Ca (Bl d k) u/\u.cells=[u]:=by
 let⟨b,e,f⟩:=i;let hl:zz d=zz b:=by rw[<-e,Ao]
 let⟨u,r,a⟩:=aN8 (h:=h) f Ab (k:=k) Ab;exact⟨u,r,⟨Bl b k,by unfold Bl;rw[BJ,E1,JA,e],a⟩,AY.cells a⟩
def Ca.wi{d:List B9}(m:Ca d c)(hb:zz d<=900000000){e:B9}{v:Ad}(j:AK e.Al v)(l:zz e.Al<=1000000000)i(h:Ak):∃u,BF cx 92 [c,zo [I e.node,z4 e.name,v],I i] h u h/\Ca (d.take (CX i (zz d))++e::d.drop (CX i (zz d))) u/\u.cells=[u]:=by
 let⟨n,f,p⟩:=m;let k:zz d=zz n:=by rw[<-f,Ao]
 let⟨u,e',o,r,b⟩:=f82 (h:=h) p Ab (e:=⟨e,v,j⟩) l i;exact⟨u,r,⟨_,by rw[BJ,Bn,E1,JA,f,o,k],b⟩,AY.cells b⟩
def aCc(w:RX h bi a o c t G b)(l:Ca b.AX c)(p:zz b.AX<=900000000)x:
  ∃m r,BF cx 345 [Pt bi 0,I x] h (ζ []) m/\RX m bi a o r t G {b with AX:=ey x b.AX}/\Ca (ey x b.AX) r/\Dx h (BD bi G) m (BD bi G):=by
 let d:=l.ix (n:=0) p x h;rw[ey];by_cases i:0<=Eo x b.AX;.let⟨q,y,e,_⟩:=HJ i;let⟨u,s,v,f⟩:=l.wo p y h;rw[Ae i];rw[e] at d⊢;rw[A6];exact⟨_,u,by simp[yc,w.l3,d,Of,s,w.st (k:=3) rfl f],w.KJ,v,Be⟩
 .rw[Aa i];exact⟨h,c,by simp[yc,w.l3,d,i],w,l,.refl⟩
structure č(h:Ak)(bi a)(t:Ad)(G0:Nat->Prop)(fe blk anc)(k N m)(s0:BS×Int×Nat)(n:Nat)(h1:Ak)(o c:Ad)(G:Nat->Prop)(s:BS×Int×Nat):Prop where
 le:n<=N
 w:RX h1 bi a o c t G s.1
 hc:Ca s.1.AX c
 ok:E4 s.1
 rm:BW s.1 (m+4*n)
 nm:Nm s.1.a
 last:s.1.a.has s.2.1
 x:Dx h (BD bi G0) h1 (BD bi G)
 mkb:s.2.2<=1000000000
 len:k+n+1<=s.1.AJ.length
 eq:wu blk anc (k+1+N) k N s0=wu blk anc (k+1+N) k n s
 ZA:0<=Eo fe s.1.AX
 AJ:s.1.AJ.take (k+n+1)=s0.1.AJ.take (k+n+1)
 feh:s.1.a.has fe
def č.step{O K:Ak}{D E B z:Ad}{C A:Nat->Prop}{L c o:Int}{k N n:Nat}{M s F:BS×Int×Nat}(i:č h bi a t G L c o k N m M (n+1) O D E C s)(e:F=wy c o (k+1+N) (k+(n+1)) s.1 s.2.1 s.2.2)
  (w:RX K bi a B z t A F.1) (Q:Ca F.1.AX z) (x:Dx O (BD bi C) K (BD bi A)) (H:F.2.2<=1000000000) (R:0<=Eo L F.1.AX):
  č h bi a t G L c o k N m M n K B z A F:=by
 let⟨g,p,q⟩:=eQ (blk:=c) (anc:=o) (far:=k+1+N) (i:=k+(n+1)) (m:=s.2.2) i.ok i.last;let hl:=i.len;let⟨f,v⟩:=mG (blk:=c) (anc:=o) (far:=k+1+N) (i:=k+(n+1)) (l:=s.2.1) (mk:=s.2.2) (b:=s.1) Ab;let d:=QZ (blk:=c) (anc:=o) (far:=k+1+N) (i:=k+(n+1)) (l:=s.2.1) (mk:=s.2.2) (m:=m+4*n) (i.rm.le Ab);let j:=Nm.Gl (blk:=c) (anc:=o) (far:=k+1+N) (i:=k+(n+1)) (l:=s.2.1) (mk:=s.2.2) i.nm i.rm;let y:wu c o (k+1+N) k (n+1) s=wu c o (k+1+N) k n (wy c o (k+1+N) (k+(n+1)) s.1 s.2.1 s.2.2):=rfl;let u:=i.eq.trans y;let T:=i.AJ;rw[<-e] at g p q f v d j u;exact⟨by have:=i.le;omega,w,Q,g,d,j,p,i.x.trans x,H,Ab,u,R,by have:=Cx (λl=>l.take (k+(n+1))) T;simp only[FL] at this;rw[(Ab:k+n+1=k+(n+1)),f];rwa [CE Ab] at this,q.has _ i.feh⟩
def aQo{anc fe:Int}{k N f:Nat}(w:RX h bi a o c t G b)(hc:Ca b.AX c)(ok:E4 b)(rm:BW b (m+4*N))(hnm:Nm b.a)(hN:k+1+N<zz b.AJ)(hf:f<=1000000000){d:Item}(ï:b.AJ[k+1+N]=d)(Tb:A7 (Bz fe) b.AJ=k)(ZA:0<=Eo fe b.AX)(feh:b.a.has fe):
  ∃h' o' c' G' s',BF cx 347 [Pt bi 0,I f,I k,I (k+1+N:Nat),I anc] h (ζ [I s'.2.1,I s'.2.2]) h'/\s'=wu d.node anc (k+1+N) k N (b,d.node,f)/\č h bi a t G fe d.node anc k N m (b,d.node,f) 0 h' o' c' G' s':=by
 have ho:=rm.AJ;have cR:=hK;let aA6:b.a.has d.node:=(ok.op d (ï▸SO _ Ab)).1;have Jy:Ev cx 347 [Pt bi 0,I f,I k,I (k+1+N:Nat),I anc] h λr h'=>∃o' c' G' s',r= ζ [I s'.2.1,I s'.2.2]/\s'=wu d.node anc (k+1+N) k N (b,d.node,f)/\č h bi a t G fe d.node anc k N m (b,d.node,f) 0 h' o' c' G' s':=by
  rw[Ev];let ld:A8 h yx (Pt bi 2)=zs o:=w.ld 2;let e0:=AY.BL (k:= z0) w.o hN;rw[ï,z1] at e0;let i1:=VO (a:=((k+1+N:Nat):Int)) (b:=1) Ab Ab;rw[(Ab:(k+1+N:Nat)-1=((k+N:Nat):Int))] at i1;simp only[aE8,By,ld,e0,i1];refine Bm (λz:Nat×Int×Nat=>[I z.2.1,I z.2.2,I (k+z.1:Nat)]) (λz h1=>∃o c G1 Z,č h bi a t G fe d.node anc k N m (b,d.node,f) z.1 h1 o c G1 (Z,z.2)) (λz=>z.1) (N,d.node,f) rfl ⟨o,c,G,b,Af _,w,hc,ok,rm,hnm,aA6,.refl,hf,DO,rfl,ZA,rfl,feh⟩ ?_;rintro⟨n,last,mk⟩ h1 ⟨U,X,G1,Z,i⟩;simp only at i;cases n
  .simp only[abS,↓reduceIte,(Ab:¬(k:Int)<(k:Int))];exact⟨_,rfl,U,X,G1,(Z,last,mk),rfl,i.eq.symm,i⟩
  next n=>
   have hnN:=i.le;let hlen:=i.len;simp only at hlen;let mH:k+(n+1)<zz Z.AJ:=Ab;let hwo:=i.rm.AJ;let hwa:=i.rm.AX;have htl:=i.rm.tm;simp only at hwo hwa;let j:RX h1 bi a U X t G1 Z:=i.w;let K:Ca Z.AX X:=i.hc;let hmk:mk<=1000000000:=i.mkb;let aO:A8 h1 yx (Pt bi 2)=zs U:=j.ld 2;have V:=AY.BL (k:= .i64) j.o mH;have aM:Z.AJ.getD (k+(n+1)) Item.zero=Z.AJ[k+(n+1)]:=by rw[A3,Ap mH];rfl
   have hxf:Z.AJ[k+(n+1)].node≠fe:=by let h2:=Cx (λl=>l[k+(n+1)]?) i.AJ;simp only[Cw] at h2;rw[Ae Ab,Ae Ab,Ap mH,Ap Ab] at h2;let⟨_,_,h3⟩:=J5 Tb;let h4:=h3 (k+(n+1)) Ab Ab;rw[EZ h2];intro h5;unfold Bz at h4;rw[h5] at h4;simp at h4
   generalize hxe:Z.AJ[k+(n+1)]=x at*;let⟨q,hq,ò,hq0,hq2,hq3⟩:=HJ i.ZA;simp only at hq ò;let r2:=K.ix (n:=0) Ab x.node h1;let ĩ:(k:Int)<((k+(n+1):Nat):Int):=Ab;let dec:AB (.int .sub) [I ((k+(n+1):Nat):Int),I 1]=zs (I ((k+n:Nat):Int)):=by have:=IK (n:=k+(n+1)) Ab Ab;rwa [(Ab:k+(n+1)-1=k+n)] at this
   let inc:AB (.int .add) [I ((k+(n+1):Nat):Int),I 1]=zs (I ((k+(n+1)+1:Nat):Int)):=Xv Ab;let s:AB (.int .sub) [I ((k+1+N:Nat):Int),I ((k+(n+1):Nat):Int)]=zs (I ((N-n:Nat):Int)):=by rw[VO Ab Ab];congr 2;omega
   have a1b:x.row.length=4:=rfl;let L:∀{h2:Ak} {P W:Ad} {G2:Nat->Prop} {b2:BS},RX h2 bi a P W t G2 b2->b2.AJ=Z.AJ->∃O M T C,A8 h2 yx (Pt bi 2)=zs P/\AB (.LK 4 η η z8) [P,I ((k+(n+1):Nat):Int)]=zs O/\AB (xp 4 40) [.slnil,O]=zs M/\AB (.LK 4 η z8 η) [P,I ((k+(n+1)+1:Nat):Int)]=zs T/\AB (xp 4 40) [M,T]=zs C/\Cv h2 1 (Pt bi 2) C=zs (Am.put h2 bi 2 C)/\RX (Am.put h2 bi 2 C) bi a C W t G2 {b2 with AJ:=Bl Z.AJ (k+(n+1))}:=by
    intro h2 P W G2 b2 B Q;let i7:B7 Z.AJ P:=by rw[<-Q];exact B.o
    let⟨O,J,q1⟩:=wj i7 (k:= .i64) (n:=k+(n+1)) Ab;let⟨M,H,q2⟩:=y6 (b:=40) q1 (by rw[Az];omega);let⟨T,E,q3⟩:=AY.VN i7 (k:= .i64) (n:=k+(n+1)+1) Ab;let⟨C,D,q4⟩:=AY.oW (b:=40) q2 q3 (by rw[Az,Bp];omega);exact⟨O,M,T,C,B.ld 2,J,H,E,D,B.st (k:=2) (v0:=P) rfl (AY.cells q4),B.IB q4⟩
   by_cases he:Eo x.node Z.AX<0
   .let⟨O,M,T,C,_,J,H,E,D,Y,R⟩:=L j rfl;let es:({Z with AJ:=Bl Z.AJ (k+(n+1))},last,mk)=wy d.node anc (k+1+N) (k+(n+1)) Z last mk:=by unfold BS.Gl;simp only[aM];rw[Ae he]
    let y:=i.step es R K Be hmk i.ZA;by_cases Pu:(3:Int)<((N-n:Nat):Int);.simp only[abS,θ,↓reduceIte,AP,Fh,ĩ,aO,V,j.l3,r2,A9,s,Pu,(Ab:¬(0:Int)<=Eo x.node Z.AX),he,J,H,inc,E,D,Y,dec];exact yu (n,last,mk) rfl ⟨_,_,_,_,y⟩ DO
    .simp only[abS,θ,↓reduceIte,AP,Fh,ĩ,aO,V,j.l3,r2,A9,s,Pu,he,J,H,inc,E,D,Y,dec];exact yu (n,last,mk) rfl ⟨_,_,_,_,y⟩ DO
   .let⟨p,hp,ep,PQ,jW,hp3⟩:=HJ (KN.1 he);let EC:(0:Int)<=(p:Int):=Ab;rw[ep] at r2;let ept:(Eo x.node Z.AX).toNat=p:=by rw[ep,A6]
    let hpf:Z.AX[p].node≠fe:=by rw[jW];exact hxf
    by_cases Pu:(3:Int)<((N-n:Nat):Int)
    .let⟨W,r3,KB,aQp⟩:=K.wo Ab hp h1;let B:=j.KJ (u:=W) (l:=Bl Z.AX p);let⟨O,M,T,C,A,J,H,E,D,Y,R⟩:=L B rfl;let es:({Z with AX:=Bl Z.AX p,AJ:=Bl Z.AJ (k+(n+1))},last,if p<mk then mk-1 else mk)=wy d.node anc (k+1+N) (k+(n+1)) Z last mk:=by unfold BS.Gl;simp only[aM];rw[Aa he,Ae (Ab:k+(n+1)+3<k+1+N),ept]
     let y:=i.step es R KB (Be.trans Be) (by simp only;split<;>omega) (by simp only;rw[mF i.ZA hp hpf];have:=i.ZA;unfold down;split<;>omega);let s3:=j.st (k:=3) (v0:=X) rfl aQp;by_cases hpm:(p:Int)<(mk:Int);.let dm:=IK (n:=mk) Ab Ab;rw[Ae (Ab:p<mk)] at y;simp only[abS,Nat.reduceLeDiff,↓reduceIte,AP,Fh,ĩ,aO,V,j.l3,r2,A9,s,Pu,EC,r3,s3,hpm,dm,(AR:(-1:Int)<0),A,J,H,inc,E,D,Y,dec];exact yu (n,last,mk-1) rfl ⟨_,_,_,_,y⟩ DO
     .rw[Aa (Ab:¬p<mk)] at y;simp only[abS,Nat.reduceLeDiff,↓reduceIte,AP,Fh,ĩ,aO,V,j.l3,r2,A9,s,Pu,EC,r3,s3,hpm,(AR:(-1:Int)<0),A,J,H,inc,E,D,Y,dec];exact yu (n,last,mk) rfl ⟨_,_,_,_,y⟩ DO
    .let⟨F,Gj,hv⟩:=K;let Iq:zz Z.AX=zz F:=by rw[<-Gj,Ao]
     let aKs:p<zz F:=Ab;let efp:F[p].c=Z.AX[p]:=by simp only[<-Gj,C4]
     let Q:=AY.BL (k:= .i64) hv aKs;have hr:P2 F[p].c.name F[p].v [I 2,.str F[p].c.name,ff,S [],ff,S [],ff,ff,F[p].v,ff,S [],.int .i32 0]:=⟨I 2,ff,S [],ff,S [],ff,ff,ff,S [],.int .i32 0,rfl⟩;have Mk:=i.rm.DU _ (AV hp);rw[<-efp] at Mk;let⟨h2,G2,r4,B,x2⟩:=aGg (m:=m+4*n) j i.ok.ba (i.rm.le Ab) i.nm hr F[p].ok Mk.2 Mk.1 anc 1;let⟨ok2,fr,le2⟩:=SG (nm:=F[p].c.name) (at_:=F[p].c.Al) (p:=anc) i.ok KP;have YG:=Kv (m:=m+4*n+1) (nm:=F[p].c.name) (l:=F[p].c.Al) (sp:=1) (p:=anc) (i.rm.le Ab) Mk.2;have Qn:(Z.EL F[p].c.name F[p].c.Al 1 anc).AJ=Z.AJ:=by unfold BS.EL;rw[Ae KP]
     have Rn:(Z.EL F[p].c.name F[p].c.Al 1 anc).AX=Z.AX:=by unfold BS.EL;rw[Ae KP]
     have es0:wy d.node anc (k+1+N) (k+(n+1)) Z last mk=({Z.EL F[p].c.name F[p].c.Al 1 anc with a:=(Z.EL F[p].c.name F[p].c.Al 1 anc).a.Gu (Z.Hv F[p].c.name F[p].c.Al 1).node last 0,AJ:=(Z.EL F[p].c.name F[p].c.Al 1 anc).AJ.set (k+(n+1)) (Z.Hv F[p].c.name F[p].c.Al 1),AX:=(Z.EL F[p].c.name F[p].c.Al 1 anc).AX.set p {F[p].c with node:=(Z.Hv F[p].c.name F[p].c.Al 1).node}},(Z.Hv F[p].c.name F[p].c.Al 1).node,if last=d.node then p+1 else mk):=by unfold BS.Gl;simp only[aM];rw[Aa he,Aa Ab,ept,A3,Ap hp,EF,<-efp]
     have ux:=PZ i.ok fr;have hna:=Tu i.ok fr;have hnf:(Z.Hv F[p].c.name F[p].c.Al 1).node≠fe:=λQ=>fr.new (by rw[Q];exact i.feh);have aKt:(Z.Hv F[p].c.name F[p].c.Al 1).name.length<=1000:=P0 Mk.1;simp only at ux hna;generalize Z.Hv F[p].c.name F[p].c.Al 1=g at*;generalize Z.EL F[p].c.name F[p].c.Al 1 anc=b2 at*;have A:A8 h2 none (Pt bi 2)=some U:=B.ld 2;let⟨O,J,q1⟩:=wj j.o (k:= .i64) (n:=k+(n+1)) Ab;let⟨M,H,q2⟩:=y6 (b:=40) q1 (by rw[Az];omega);have E:=AY.KT (a:=g) (b:=40) q2 (by rw[Az];omega);let⟨C,D,q4⟩:=AY.VN j.o (k:= .i64) (n:=k+(n+1)+1) Ab;let⟨u5,p5,q5⟩:=AY.oW (f:=Item.row) (l:=Z.AJ.take (k+(n+1))++[g]) (b:=40) .mk q4 (by rw[As,Az,Bp,A5];omega);have es5:Z.AJ.take (k+(n+1))++[g]++Z.AJ.drop (k+(n+1)+1)=b2.AJ.set (k+(n+1)) g:=by rw[Qn,B0,Ae mH,AO];rfl
     rw[es5] at q5;have s5:=B.st (k:=2) (v0:=U) rfl (AY.cells q5);have w3:=B.IB q5;have x3:=x2.trans (Be (k:=2) (v:=u5));generalize put h2 bi 2 u5=h3 at*;have hc0:Ca Z.AX X:=⟨F,Gj,hv⟩;let⟨W,r6,KB,aQp⟩:=hc0.wo Ab hp h3;let⟨c3,r7,aQq,aVN⟩:=KB.wi (by rw[Iw hp];omega) (e:={F[p].c with node:=g.node}) F[p].ok (by have:=Mk.2.1;simp only;omega) (p:Int) h3;rw[YQ (by rw[Iw hp];omega),ez hp] at aQq;have s6:=w3.st (k:=3) (v0:=X) rfl aVN;have R:=w3.KJ (u:=c3) (l:=b2.AX.set p {F[p].c with node:=g.node});have hc4:Ca (b2.AX.set p {F[p].c with node:=g.node}) c3:=by rw[Rn];exact aQq
     have x4:=x3.trans (Be (k:=3) (v:=c3));generalize put h3 bi 3 c3=h4 at*;have rm4:BW {b2 with AJ:=b2.AJ.set (k+(n+1)) g,AX:=b2.AX.set p {F[p].c with node:=g.node}} (m+4*n+1):=by
      refine⟨YG.n,YG.at_,YG.data,by simp only[Bw];exact YG.AJ,by simp only[Bw];exact YG.AX,YG.tm,λe he=>?_,λi hi=>?_⟩
      .rcases DY he with he|rfl
       .exact YG.DU e he
       .exact Mk
      .rcases DY hi with hi|rfl
       .exact YG.YD i hi
       .exact aKt
     let⟨er,h6,G6,r8,w6,x6⟩:=R.gJ ((ok2.nh (i:=g) (k:=k+(n+1)) ⟨fr.has,fr.kind⟩ (by rw[Qn];exact ux)).ni (e:={F[p].c with node:=g.node}) (k:=p) ⟨fr.has,fr.kind⟩ (by simp only[Rn];exact hna)).ba rm4 g.node last 0;have y:=i.step es0.symm w6 hc4 (x4.trans x6) (by simp only;split<;>omega) (by simp only;rw[Rn,bw i.ZA hp hpf hnf];exact i.ZA);rw[CC.row] at Q;by_cases Vg:last=d.node;.rw[Ae Vg] at y;simp only[abS,Nat.reduceLeDiff,↓reduceIte,AP,Fh,ĩ,aO,V,j.l3,r2,A9,s,Pu,(Ab:¬(p:Int)<0),Q,AY.cells F[p].ok,r4,A,J,H,Oj,E,inc,D,p5,s5,w3.l3,r6,r7,s6,Aw Vg,BB p,R.l0,r8,dec];exact yu (n,g.node,p+1) rfl ⟨_,_,_,_,y⟩ DO
     .rw[Aa Vg] at y;simp only[abS,Nat.reduceLeDiff,↓reduceIte,AP,Fh,ĩ,aO,V,j.l3,r2,A9,s,Pu,(Ab:¬(p:Int)<0),Q,AY.cells F[p].ok,r4,A,J,H,Oj,E,inc,D,p5,s5,w3.l3,r6,r7,s6,Vg,R.l0,r8,dec];exact yu (n,g.node,mk) rfl ⟨_,_,_,_,y⟩ DO
 obtain⟨r,h',hr,o',c',G',s',rfl,e',i'⟩:=Jy.ret;exact⟨h',o',c',G',s',hr,e',i'⟩
end
def YR{nm:Aj}:∀{r:List B9} {j:Nat},SE nm r=j->∃a:j<zz r.reverse,r.reverse[j].node≠0
 |[],j,e=>by rw[SE] at e;omega
 |x::r,j,e=>by
  rw[SE] at e;split at e;.omega
  .rename_i b;split at e
   .have d:j=zz r.reverse:=by rw[JO];omega
    subst d;exact⟨AF,zv b⟩
   .let⟨a,h1⟩:=YR e;exact⟨by simp at a⊢;omega,by simp[Fw];rwa[JB a]⟩
def sn{nm:Aj}{l:List B9}{f:Nat}(e:D2 nm l=f):∃hf:f<zz l,l[f].node≠0:=by rw[D2] at e;let⟨a,h⟩:=YR e;simp[Jl] at a h;exact⟨a,h⟩
def gZ{l:List B9}{n:Int}{q:Nat}(e:Eo n l=q):ey n l=Bl l q:=by rw[ey];rw[e,Ae Ab,A6]
section
variable{h h':Ak}{bi a:Nat}{o c t:Ad}{G G' F:Nat->Prop}{b:BS}{x:Int}{m:Nat}
variable{nm:Aj}{av:Ad}{l:List Bb}{r:List Ad}{sp p:Int}
def Ca.aH1{d:List B9}(e:Ca d c)(f:zz d<=900000000)(nm:Aj)(h:Ak):BF cx 344 [c,z4 nm] h (I (D2 nm d)) h:=by let⟨fs,a,b⟩:=e;have:=aTH (h:=h) b (by rw[<-a,Ao] at f;omega) nm;rwa [vB,a] at this
def aQr(w:RX h bi a o c t G b)(hc:Ca b.AX c)(ok:E4 b)(rm:BW b (m+4*zz b.AJ+10))(hnm:Nm b.a)(nm:Aj):
  ∃h' o' c' G',BF cx 218 [Pt bi 0,z4 nm] h (.bool (b.round nm).1) h'/\RX h' bi a o' c' t G' (b.round nm).2/\Ca (b.round nm).2.AX c'/\Dx h (BD bi G) h' (BD bi G'):=by
 have ho:=rm.AJ;have Rn:=rm.AX;let Y7:∀i∈b.AJ,zz i.name<9223372036854775807:=λi hi=>by have:=rm.YD i hi;omega
 let l3:=w.l3;let ld:A8 h yx (Pt bi 2)=zs o:=w.ld 2;let T:=hc.aH1 Ab nm h;by_cases hf:D2 nm b.AX<0
 .let⟨h2,o2,r2,w2,x2⟩:=aLl w rm nm;let e:b.round nm=(η,b.CZ nm):=by unfold BS.round;simp only;rw[Ae hf]
  let ea:(b.CZ nm).AX=b.AX:=by
   unfold BS.CZ;split;.split<;>rfl
   .rfl
  rw[e];refine⟨h2,o2,c,G,?_,w2,by rw[ea];exact hc,x2⟩;rw[Ac,Tx];simp only[abS,l3,T,hf,r2]
 let⟨f,Iq,Z⟩:=P3 (KN.1 hf);let⟨_,aFP⟩:=sn Z;let gm:¬(f:Int)<0:=Ab;rw[Z] at T;let JU:=hc;let⟨fs,Gj,hv⟩:=JU;let aUv:zz b.AX=zz fs:=by rw[<-Gj,Ao]
 have efp:fs[f].c=b.AX[f]:=by simp only[<-Gj,C4]
 have e1:=AY.BL (k:= .i64) hv (Ab:f<zz fs);let fR:=yr ok.mz Iq aFP;let Mk:=rm.DU _ (AV Iq);let aM:b.AX.getD f B9.zero=b.AX[f]:=by rw[A3,Ap Iq];rfl
 rw[<-efp] at fR Mk aM aFP;generalize hfe:fs[f]=L at*;let qg:L.v.cells=[L.v]:=AY.cells L.ok;rw[CC.row] at e1;let r2:=jU (h:=h) w.o Ab L.c.node;by_cases hk:A7 (Bz L.c.node) b.AJ<0
 .let⟨h2,c2,K,w2,KB,x2⟩:=aCc w hc Ab L.c.node;rw[gZ fR] at w2 KB;let e:b.round nm=(η,{b with AX:=Bl b.AX f}):=by unfold BS.round;simp only;rw[Aa hf,Z,A6,aM,Ae hk]
  rw[e];refine⟨h2,o,c2,G,?_,w2,KB,x2⟩;rw[Ac,Tx];simp only[abS,Nat.reduceLeDiff,↓reduceIte,l3,T,gm,e1,ld,r2,hk,K]
 obtain⟨k,Y⟩:∃k:Nat,A7 (Bz L.c.node) b.AJ=(k:Int):=⟨_,(Ft (KN.1 hk)).symm⟩;let⟨Tb,hkq,_⟩:=J5 Y;let bb:¬(k:Int)<0:=Ab;rw[Y] at r2;let K:=aNW (h:=h) w.o Ab Y7 1 L.c.node;by_cases TW:HG (Bz L.c.node) (GZ 1) b.AJ.reverse=η
 .let e:b.round nm=(η,b):=by unfold BS.round;simp only;rw[Aa hf,Z,A6,aM,Aa hk,Ae (ys TW)]
  rw[e];refine⟨h,o,c,G,?_,w,hc,.refl⟩;rw[TW] at K;rw[Ac,Tx];simp only[abS,Nat.reduceLeDiff,↓reduceIte,l3,T,gm,e1,ld,r2,bb,A9,K]
 let aKy:HG (Bz L.c.node) (GZ 1) b.AJ.reverse=z8:=by simpa using TW
 rw[aKy] at K;by_cases hkz:k=0
 .let e:b.round nm=(η,b):=by unfold BS.round;simp only;rw[Aa hf,Z,A6,aM,Aa hk,Ae (yg (by rw[Y,hkz];rfl))]
  rw[e];refine⟨h,o,c,G,?_,w,hc,.refl⟩;rw[Ac,Tx];simp only[abS,Nat.reduceLeDiff,↓reduceIte,l3,T,gm,e1,ld,r2,bb,A9,K,Aw (Ab:(k:Int)=0)]
 let cj:¬(k:Int)=0:=Ab;let r4:=aTA (h:=h) w.o Ab Y7 L.c.node;let hor:¬(A7 (Bz L.c.node) b.AJ=0\/HG (Bz L.c.node) (GZ 1) b.AJ.reverse=η):=by rw[Y];rintro(h|h);exact cj h;exact TW h
 by_cases hfa:Ef L.c.node b.AJ<0
 .let e:b.round nm=(η,{b with AJ:=Ii L.c.node b.AJ,AX:=Bl b.AX f}):=by unfold BS.round;simp only;rw[Aa hf,Z,A6,aM,Aa hk,Aa hor,Ae hfa]
  let⟨u,t1,r5,hu⟩:=aNZ (h:=h) w.o Ab L.c.node;let w1:=w.If (u:=t1);let w2:=w1.IB hu;let⟨h3,c3,r6,w3,Pu,x3⟩:=aCc w2 hc DO L.c.node;simp only at w3 Pu;rw[gZ fR] at w3 Pu;rw[e];refine⟨h3,u,c3,G,?_,w3,Pu,(w.De.trans Be).trans x3⟩;rw[Ac,Tx];simp only[abS,Nat.reduceLeDiff,↓reduceIte,l3,T,gm,e1,ld,r2,bb,A9,K,cj,r4,hfa,r5,w1.st (k:=2) (v0:=o) rfl (AY.cells hu),r6]
 obtain⟨N,hN,eN⟩:∃N:Nat,k+1+N<zz b.AJ/\Ef L.c.node b.AJ=((k+1+N:Nat):Int):=by
  let qi:=hfa;rw[J0,Aa hk,Y,A6] at qi⊢;unfold FQ at qi⊢;split at qi;.rename_i j hj;have:=(Fu.1 hj).1;rw[Bp] at this;exact⟨j,Ab,Ab⟩
  .omega
 let e2:=AY.BL (k:= .i64) w.o hN;let e3:=AY.BL (k:= .i64) w.o (Ab:k-1<zz b.AJ);obtain⟨d,ï⟩:∃d,d=b.AJ[k+1+N]:=⟨_,rfl⟩;obtain⟨an,han⟩:∃an,an=b.AJ[k-1]'(by omega):=⟨_,rfl⟩;rw[<-ï,z1] at e2;rw[<-han,z1] at e3;let ů:b.AJ.getD (k+1+N) Item.zero=d:=by rw[A3,Ap hN,ï];rfl
 let hga:b.AJ.getD (k-1) Item.zero=an:=by rw[A3,Ap Ab,han];rfl
 let e:b.round nm=(z8,wd L.c d.node an.node (wu d.node an.node (k+1+N) k N (b,d.node,f))):=by
  unfold BS.round;simp only
  rw[Aa hf,Z,A6,aM,Aa hk,Aa hor,Aa hfa,Y,eN,A6,A6,ů,hga,(Ab:k+1+N-1 -k=N)]
 let ú:=ok.op d (by rw[ï];exact SO _ Ab);let aKz:b.AJ[k].node=L.c.node:=by simpa[Bz] using hkq
 let aFO:b.a.has L.c.node:=by rw[<-aKz];exact(ok.op _ (SO _ Ab)).1
 let Za:=IK (n:=k) Ab Ab;let le0:=(ZH (blk:=d.node) (anc:=an.node) (far:=k+1+N) (k:=k) (c:=N) (s:=(b,d.node,f)) ok ú.1).2.2;let⟨h5,o5,c5,G5,s',r7,es,i⟩:=aQo (m:=m+10) (anc:=an.node) (fe:=L.c.node) (f:=f) w hc ok (rm.le Ab) hnm hN Ab ï.symm Y (by rw[fR];omega) aFO;rw[<-es] at le0 e;let⟨q,hq,ò,hq0,hq2,hq3⟩:=HJ i.ZA;have hmk:=i.mkb;let r8:=y_ i.w i.ok.ba i.rm i.nm an.node;let⟨h7,G7,r9,w7,x7⟩:=yz i.w i.ok.ba i.rm (s'.1.place an.node).1 s'.2.1 (s'.1.place an.node).2;let le7:Le s'.1.a (s'.1.a.E8 s'.2.1 (s'.1.place an.node).1 (s'.1.place an.node).2):=JF;let V:=i.ok.IN (O1 (n:=s'.2.1) (p:=(s'.1.place an.node).1) (b:=(s'.1.place an.node).2) i.ok.ok) le7;let Q:=i.rm.IN (LB (x:=s'.2.1) (p:=(s'.1.place an.node).1) (bf:=(s'.1.place an.node).2));let nm7:Nm (s'.1.a.E8 s'.2.1 (s'.1.place an.node).1 (s'.1.place an.node).2):=i.nm.E8;obtain⟨b2,Rk⟩:∃b2,b2={s'.1 with a:=s'.1.a.E8 s'.2.1 (s'.1.place an.node).1 (s'.1.place an.node).2}:=⟨_,rfl⟩;let i7:b2.AJ=s'.1.AJ:=by rw[Rk]
 let KB:b2.AX=s'.1.AX:=by rw[Rk]
 have le2:Le s'.1.a b2.a:=by rw[Rk];exact le7
 let nm2:Nm b2.a:=by rw[Rk];exact nm7
 rw[<-Rk] at w7 V Q;let hr:P2 L.c.name L.v [I 2,z4 L.c.name,ff,S [],ff,S [],ff,ff,L.v,ff,S [],.int .i32 0]:=⟨I 2,ff,S [],ff,S [],ff,ff,ff,S [],.int .i32 0,rfl⟩;let⟨h8,G8,r11,w8,x8⟩:=aGg (m:=m+7) w7 V.ba (Q.le Ab) nm2 hr L.ok Mk.2 Mk.1 d.node 1;let⟨U,fr,le8⟩:=SG (nm:=L.c.name) (at_:=L.c.Al) (p:=d.node) V KP;let P:=Kv (m:=m+7) (nm:=L.c.name) (l:=L.c.Al) (sp:=1) (p:=d.node) (Q.le Ab) Mk.2;obtain⟨g,hnw⟩:∃g,g=b2.Hv L.c.name L.c.Al 1:=⟨_,rfl⟩;obtain⟨F,ĥ⟩:∃F,F=b2.EL L.c.name L.c.Al 1 d.node:=⟨_,rfl⟩;let ho3:F.AJ=s'.1.AJ:=by rw[ĥ,<-i7];unfold BS.EL;rw[Ae KP]
 let Pu:F.AX=s'.1.AX:=by rw[ĥ,<-KB];unfold BS.EL;rw[Ae KP]
 rw[<-hnw] at r11 fr;rw[<-ĥ] at w8 U fr le8 P;let aO8:(F.a.nd d.node).Bj.length<=1000000000:=P.V6.Bj U.ok d.node;obtain⟨kv,r12,ym⟩:∃v,BF cx 206 [Pt a 0,I d.node] h8 v h8/\Em (F.a.nd d.node).Bj v:=by obtain⟨n,i,ps,wa,_⟩:=w8.w;exact aBy wa aO8
 let mH:=λ(y:Item)=>@Item.C5 y;let Jy:Ev cx 218 [Pt bi 0,.str nm] h λr h'=>r= .bool z8/\∃o' c' G',RX h' bi a o' c' t G' (wd L.c d.node an.node s')/\Ca (wd L.c d.node an.node s').AX c'/\Dx h (BD bi G) h' (BD bi G'):=by
  unfold Ev;rw[Tx];simp only[abS,Nat.reduceLeDiff,↓reduceIte,Fh,l3,T,gm,e1,ld,r2,bb,A9,K,cj,r4,eN,(Ab:¬((k+1+N:Nat):Int)<0),e2,Za,e3];simp only[abS,Nat.reduceLeDiff,↓reduceIte,AP,r7,r8,r9,qg];simp only[abS,↓reduceIte,Fh,r11,mH,w8.l0,r12];let x8':Dx h (BD bi G) h8 (BD bi G8):=(i.x.trans x7).trans x8;let hvl:=AY.CQ ym;refine DD (i:=0) (λj:Nat=>[I (j:Int)]) (λj X=>j<=(F.a.nd d.node).Bj.length/\∃M,RX X bi a o5 c5 t M {F with a:=BS.C0 F.a g.node ((F.a.nd d.node).Bj.take j)}/\E4 {F with a:=BS.C0 F.a g.node ((F.a.nd d.node).Bj.take j)}/\BW {F with a:=BS.C0 F.a g.node ((F.a.nd d.node).Bj.take j)} (m+7)/\Dx h8 (BD bi G8) X (BD bi M)) (λj=>(F.a.nd d.node).Bj.length-j)
   (λj X=>j=(F.a.nd d.node).Bj.length/\∃M,RX X bi a o5 c5 t M {F with a:=BS.C0 F.a g.node ((F.a.nd d.node).Bj.take j)}/\E4 {F with a:=BS.C0 F.a g.node ((F.a.nd d.node).Bj.take j)}/\BW {F with a:=BS.C0 F.a g.node ((F.a.nd d.node).Bj.take j)} (m+7)/\Dx h8 (BD bi G8) X (BD bi M)) 0 rfl ⟨AZ _,G8,w8,U,P,.refl⟩ ?_ ?_
  .rintro j X ⟨hj,M,J,qj,yt,x9⟩;rcases AQ j (F.a.nd d.node).Bj.length with hlt|EC
   .let e9:=AY.BL (k:= .i64) ym hlt;let⟨er,Wj,z,D,XV,ql⟩:=J.gJ qj.ba yt g.node (F.a.nd d.node).Bj[j] 0;let hs:BS.C0 F.a g.node ((F.a.nd d.node).Bj.take (j+1))=(BS.C0 F.a g.node ((F.a.nd d.node).Bj.take j)).Gu g.node (F.a.nd d.node).Bj[j] 0:=by rw[AG hlt,Uf]
    rw[BM] at e9;simp only[abS,hvl,(Ab:(j:Int)<((F.a.nd d.node).Bj.length:Int)),J.l0,e9,D,BB j];refine .next (j+1) rfl ⟨hlt,z,by rw[hs];exact XV,?_,?_,x9.trans ql⟩ Ab
    .have:=qj.IN (QN (p:=g.node) (n:=(F.a.nd d.node).Bj[j]) (b:=0) qj.ok) O0;rw[hs];exact this
    .have:=yt.IN (Ku (p:=g.node) (x:=(F.a.nd d.node).Bj[j]) (bf:=0));rw[hs];exact this
   .simp only[abS,hvl,(Ab:¬(j:Int)<((F.a.nd d.node).Bj.length:Int))];exact .HT j rfl ⟨Ab,M,J,qj,yt,x9⟩
  .rintro j X ⟨rfl,M,J,qj,yt,x9⟩;rw[Bx] at J qj yt;let⟨er,Wj,z,D,XV,ql⟩:=J.gJ qj.ba yt d.node g.node 0;let aFR:Ca ({F with a:=(BS.C0 F.a g.node (F.a.nd d.node).Bj).Gu d.node g.node 0}:BS).AX c5:=by simp only;rw[Pu];exact i.hc
   have hqa:=i.rm.AX;let Ŵ:Eo L.c.node F.AX=(q:Int):=by rw[Pu];exact ò
   let C:=aFR.ix (n:=0) (by simp only;rw[Pu];omega) L.c.node Wj;simp only at C;rw[Ŵ] at C;let⟨cQ,Tj,r15,A,û,x11⟩:=aCc XV aFR (by simp only;rw[Pu];omega) L.c.node;simp only at A û;rw[gZ Ŵ] at A û;obtain⟨XU,Zm⟩:∃XU:Nat,XU=if q<s'.2.2 then s'.2.2 -1 else s'.2.2:=⟨_,rfl⟩
   have gq:(Bl F.AX q).length=F.AX.length-1:=Iw (by rw[Pu];exact hq);let Zu:zz F.AX=s'.1.AX.length:=by rw[Pu]
   let⟨u1,R,aFV,W⟩:=û.wi Ab (e:={L.c with node:=g.node}) L.ok (by have:=Mk.2.1;simp only;omega) (XU:Int) cQ;let l11:=A.l3;have s12:=A.st (k:=3) (v0:=Tj) rfl W;have B:=A.KJ (u:=u1) (l:=(Bl F.AX q).take (CX XU (Bl F.AX q).length)++{L.c with node:=g.node}::(Bl F.AX q).drop (CX XU (Bl F.AX q).length));have x12:=x11.trans (Be (bi:=bi) (G:=z) (h:=cQ) (k:=3) (v:=u1));generalize put cQ bi 3 u1=H at*;have hob:=i.rm.AJ;let Ģ:zz F.AJ=s'.1.AJ.length:=by rw[ho3]
   let aQs:A8 H yx (Pt bi 2)=zs o5:=B.ld 2;let⟨u2,t2,r17,JK⟩:=aFv (h:=H) B.o DO L.c.node;simp only at JK;have s13:=(B.If (u:=t2)).st (k:=2) (v0:=o5) rfl (AY.cells JK);have O:=(B.If (u:=t2)).IB JK;have x14:=(x12.trans B.De).trans (Be (bi:=bi) (G:=z) (h:=H++t2) (k:=2) (v:=u2));generalize put (H++t2) bi 2 u2=E at*;have gd:(Cn L.c.node F.AJ).length<=s'.1.AJ.length:=by rw[<-ho3];exact Hp.length_le
   have aQt:A8 E none (Pt bi 2)=some u2:=O.ld 2;have r18:=jU (h:=E) JK Ab d.node;have hli: -1<=A7 (Bz d.node) (Cn L.c.node F.AJ)/\A7 (Bz d.node) (Cn L.c.node F.AJ)<=(Cn L.c.node F.AJ).length:=by rcases DJ (q:=Bz d.node) (l:=Cn L.c.node F.AJ) with⟨h,_⟩|⟨n,h1,h2,_⟩<;>omega
   have add:=QK (a:=A7 (Bz d.node) (Cn L.c.node F.AJ)) (b:=1) Ab Ab;let⟨u3,r19,hu3⟩:=aTG (h:=E) JK Ab g (A7 (Bz d.node) (Cn L.c.node F.AJ)+1);have s15:=O.st (k:=2) (v0:=u2) rfl (AY.cells hu3);have x15:=x14.trans (Be (bi:=bi) (G:=z) (h:=E) (k:=2) (v:=u3));have hE:wd L.c d.node an.node s'={F with a:=(BS.C0 F.a g.node (F.a.nd d.node).Bj).Gu d.node g.node 0,AX:=(Bl F.AX q).take (CX XU (Bl F.AX q).length)++{L.c with node:=g.node}::(Bl F.AX q).drop (CX XU (Bl F.AX q).length),AJ:=(Cn L.c.node F.AJ).take (ET (A7 (Bz d.node) (Cn L.c.node F.AJ)+1) (Cn L.c.node F.AJ).length)++g::(Cn L.c.node F.AJ).drop (ET (A7 (Bz d.node) (Cn L.c.node F.AJ)+1) (Cn L.c.node F.AJ).length)}:=by
    unfold BS.HW;simp only
    rw[<-Rk,<-ĥ,<-hnw,Ŵ,A6,<-Zm]
   by_cases hqm:(q:Int)<(s'.2.2:Int);.have dm:=IK (n:=s'.2.2) Ab Ab;rw[Ae (Ab:q<s'.2.2)] at Zm;rw[<-Zm] at dm;simp only[abS,Nat.reduceLeDiff,↓reduceIte,AP,Fh,J.l0,D,XV.l3,C,hqm,A9,dm,r15,l11,qg];simp only[By,R,s12,aQs,r17,s13,aQt,r18,BK,add,r19,s15];rw[hE];exact⟨_,rfl,rfl,u3,u1,z,O.IB hu3,aFV,(x8'.trans (x9.trans ql)).trans x15⟩
   .rw[Aa (Ab:¬q<s'.2.2)] at Zm;rw[Zm] at R;simp only[abS,Nat.reduceLeDiff,↓reduceIte,AP,Fh,J.l0,D,XV.l3,C,hqm,A9,r15,l11,qg];simp only[By,R,s12,aQs,r17,s13,aQt,r18,BK,add,r19,s15];rw[hE];exact⟨_,rfl,rfl,u3,u1,z,O.IB hu3,aFV,(x8'.trans (x9.trans ql)).trans x15⟩
 obtain⟨r,h',hr,rfl,o',c',G',w',JU,x'⟩:=Jy.ret;rw[e];exact⟨h',o',c',G',hr,w',JU,x'⟩
end
namespace BS
def GM(b:BS)(nm:Aj)(k:Nat):Option Int:=
 if nm=MZ then zs (K5 (b.AJ.take k))
 else if nm=wTd then(if k=0 then zs 7 else zs 15)
 else if nm=wTh then(if k=0 then zs 7 else zs 15)
 else if nm=wTr then zs 14
 else if nm=XE then zs 13
 else if nm=XG then zs 13
 else if nm=XF then zs 13
 else if nm=VZ then zs 11
 else if nm=Tr then zs 12
 else if nm=Gw then zs 9
 else if nm=AE then zs (b.tm.getLast?.getD 7)
 else if nm=Ub then(if k=0 then zs 7 else zs 4)
 else if nm=xa then zs 7
 else if nm=Ts then zs 20
 else if nm=D6 then zs (if b.head=0 then 3 else 6)
 else if k=0 then zs 7 else yx
end BS
section
variable{h h':Ak}{bi a:Nat}{o c t:Ad}{G G' F:Nat->Prop}{b:BS}{x:Int}{m:Nat}
def aCd{nd:Int}{nm:Aj}{v:Bool}{k:Nat}:b.Iv ⟨nd,1,nm,v⟩ k=b.GM nm k:=by
 unfold BS.Iv BS.GM;simp[BV];by_cases u:nm=MZ;.subst u;cases k<;>rfl
 by_cases s:nm=wTd;.subst s;cases k<;>rfl
 by_cases q:nm=wTh;.subst q;cases k<;>rfl
 by_cases p:nm=wTr;.subst p;cases k<;>rfl
 by_cases n:nm=XE;.subst n;cases k<;>rfl
 by_cases l:nm=XG;.subst l;cases k<;>rfl
 by_cases j:nm=XF;.subst j;cases k<;>rfl
 by_cases i:nm=VZ;.subst i;cases k<;>rfl
 by_cases g:nm=Tr;.subst g;cases k<;>rfl
 by_cases f:nm=Gw;.subst f;cases k<;>rfl
 by_cases h:nm=AE;.subst h;cases k<;>rfl
 by_cases o:nm=Ub;.subst o;cases k<;>rfl
 by_cases c:nm=xa;.subst c;cases k<;>rfl
 by_cases a:nm=Ts;.subst a;cases k<;>rfl
 by_cases d:nm=D6;.subst d;cases k<;>rfl
 let t:(KW.find? λr=>decide (r.1=nm))=yx:=by
  rw[S5];intro r m;simp[KW,A0,DF,K0] at m;obtain rfl|rfl|rfl|rfl|rfl|rfl|rfl|rfl|rfl:=m<;>rw[Cj]<;>intro e
  .exact p e.symm
  .exact n e.symm
  .exact l e.symm
  .exact j e.symm
  .exact i e.symm
  .exact g e.symm
  .exact f e.symm
  .exact c e.symm
  .exact a e.symm
 simp[t,u,s,q,p,n,l,j,i,g,f,h,o,c,a,d,DW,aLz,iT]
def aCe{i:Item}{k:Nat}(h:¬i.Bk=1):b.Iv i k=if k=0 then zs 7 else yx:=by rw[BS.Iv];rw[Aa h]
def aQu(w:RX h bi a o c t G b)(u:BW b m){k:Nat}(hk:k<=zz b.AJ):BF cx 349 [Pt bi 0,I k] h (I (BS.K5 (b.AJ.take k))) h:=by
 let ho:=u.AJ;let y:A8 h yx (Pt bi 2)=zs o:=w.ld 2;simp only[Ac,aFa,By,Db (k) 1];refine Bm (λn:Nat=>[I 0,I (n-1)]) (λn q=>n<=k/\((b.AJ.take k).reverse.find? λi=>AS [AE] i||AS [Gw] i)=((b.AJ.take n).reverse.find? λi=>AS [AE] i||AS [Gw] i)/\q=h) (λn=>n) k rfl ⟨Af _,rfl,rfl⟩ ?_;rintro n q ⟨hn,j,rfl⟩;cases n
 .simp[(Ab:¬0<=((0:Nat):Int)-1)];rw[BS.K5];rw[j];rfl
 next n=>
  let l:n<zz b.AJ:=Ab;let i1:(n+1:Nat)-1=(n:Int):=Ab;have g:=AY.BL (k:= z0) w.o l;let e:AB (.Df 1) [S AE]=zs (.sl 1 ([AE].map BY)):=DK rfl AR;let x:AB (.Df 1) [S Gw]=zs (.sl 1 ([Gw].map BY)):=DK rfl AR;let v:=f167 (h:=q) b.AJ[n] (Cc (ws:=[AE])) AR;let f:=f167 (h:=q) b.AJ[n] (Cc (ws:=[Gw])) AR;rw[Oo l,Ed] at j;generalize b.AJ[n]=i at*;simp only[abS,θ,Fh,i1,Of,y,g,e,v,x,f,Db (n) 1];rw[CW];refine⟨λp=>?_,λp=>?_⟩;.simp only[p,KL] at j;simp[BS.K5,j,p,BV]
  .simp only[p,E0] at j;rw[CW];refine⟨λd=>?_,λd=>?_⟩;.rw[d] at j;simp[BS.K5,j,p,Cy,DW]
   .rw[d] at j;exact yu n rfl ⟨Ab,j,rfl⟩ Ab
section
variable(w:RX h bi a o c t G b)
def aQv(K:BW b m)(i:Item){k:Nat}(O:k<=zz b.AJ):BF cx 219 [Pt bi 0,zo i.row,I k,.bool (decide (k=0))] h (ζ [I ((b.Iv i k).getD 7),.bool (b.Iv i k).isSome]) h:=by
 let B:=K.tm;let N:=w.l6;let M:=w.l7;let L:=AY.CQ w.t;let⟨nd,sp,nm,D⟩:=i;by_cases H:sp=1;rotate_left
 .rw[aCe (H),Ac,x_];by_cases u:k=0;.simp only[abS,z1,H,u,D3,EF,wR]
  .simp only[abS,z1,H,u,Ec,WW,aWr]
 subst H;rw[aCd,Ac,x_];by_cases d:nm=MZ
 .let e:b.GM nm k=zs (BS.K5 (b.AJ.take k)):=by rw[BS.GM];rw[Ae d]
  simp only[e,By,Kf,Item.row,Aw d,aQu w K O]
 by_cases f:nm=wTd
 .let e:b.GM nm k=(if k=0 then zs 7 else zs 15):=by rw[BS.GM];rw[Aa d,Ae f]
  rw[e];by_cases u:k=0;.simp only[abS,Kf,z1,d,Aw f,u]
  .simp only[abS,Kf,z1,d,Aw f,u]
 by_cases g:nm=wTh
 .let e:b.GM nm k=(if k=0 then zs 7 else zs 15):=by rw[BS.GM];rw[Aa d,Aa f,Ae g]
  rw[e];by_cases u:k=0;.simp only[abS,Kf,z1,d,f,Aw g,u]
  .simp only[abS,Kf,z1,d,f,Aw g,u]
 by_cases j:nm=wTr
 .let e:b.GM nm k=zs 14:=by rw[BS.GM];rw[Aa d,Aa f,Aa g,Ae j]
  simp only[e,By,Kf,Item.row,d,f,g,Aw j]
 by_cases l:nm=XE
 .let e:b.GM nm k=zs 13:=by rw[BS.GM];rw[Aa d,Aa f,Aa g,Aa j,Ae l]
  simp only[e,By,Kf,Item.row,d,f,g,j,Aw l]
 by_cases n:nm=XG
 .let e:b.GM nm k=zs 13:=by rw[BS.GM];rw[Aa d,Aa f,Aa g,Aa j,Aa l,Ae n]
  simp only[e,By,Kf,Item.row,d,f,g,j,l,Aw n]
 by_cases p:nm=XF
 .let e:b.GM nm k=zs 13:=by rw[BS.GM];rw[Aa d,Aa f,Aa g,Aa j,Aa l,Aa n,Ae p]
  simp only[e,By,Kf,Item.row,d,f,g,j,l,n,Aw p]
 by_cases q:nm=VZ
 .let e:b.GM nm k=zs 11:=by rw[BS.GM];rw[Aa d,Aa f,Aa g,Aa j,Aa l,Aa n,Aa p,Ae q]
  simp only[e,By,Kf,Item.row,d,f,g,j,l,n,p,Aw q]
 by_cases r:nm=Tr
 .let e:b.GM nm k=zs 12:=by rw[BS.GM];rw[Aa d,Aa f,Aa g,Aa j,Aa l,Aa n,Aa p,Aa q,Ae r]
  simp only[e,By,Kf,Item.row,d,f,g,j,l,n,p,q,Aw r]
 by_cases s:nm=Gw
 .let e:b.GM nm k=zs 9:=by rw[BS.GM];rw[Aa d,Aa f,Aa g,Aa j,Aa l,Aa n,Aa p,Aa q,Aa r,Ae s]
  simp only[e,By,Kf,Item.row,d,f,g,j,l,n,p,q,r,Aw s]
 by_cases a:nm=AE
 .let e:b.GM nm k=zs (b.tm.getLast?.getD 7):=by rw[BS.GM];rw[Aa d,Aa f,Aa g,Aa j,Aa l,Aa n,Aa p,Aa q,Aa r,Aa s,Ae a]
  rw[e];by_cases J:b.tm=[]
  .let y:AB (wb η) [t]=zs (I 0):=by rw[L,J];rfl
   simp[Kf,z1,d,f,g,j,l,n,p,q,r,s,Aw a,N,y,J,fy]
  .let G:=Du.2 J;let A:=AY.BL (k:= z0) w.t (Ab:zz b.tm-1<zz b.tm);let C:b.tm.getLast?.getD 7=b.tm[zz b.tm-1]:=by rw[Mx,Ap Ab];rfl
   rw[BM] at A;simp only[By,Kf,z1,d,f,g,j,l,n,p,q,r,s,Aw a,N,L,(Ab:(0:Int)<(b.tm.length:Int)),IK G (Ab:zz b.tm<9223372036854775807),A,C]
 by_cases c:nm=Ub
 .let e:b.GM nm k=(if k=0 then zs 7 else zs 4):=by rw[BS.GM];rw[Aa d,Aa f,Aa g,Aa j,Aa l,Aa n,Aa p,Aa q,Aa r,Aa s,Aa a,Ae c]
  rw[e];by_cases u:k=0;.simp only[abS,Kf,z1,d,f,g,j,l,n,p,q,r,s,a,Aw c,u]
  .simp only[abS,Kf,z1,d,f,g,j,l,n,p,q,r,s,a,Aw c,u]
 by_cases o:nm=xa
 .let e:b.GM nm k=zs 7:=by rw[BS.GM];rw[Aa d,Aa f,Aa g,Aa j,Aa l,Aa n,Aa p,Aa q,Aa r,Aa s,Aa a,Aa c,Ae o]
  simp only[e,By,Kf,Item.row,d,f,g,j,l,n,p,q,r,s,a,c,Aw o]
 by_cases E:nm=Ts
 .let e:b.GM nm k=zs 20:=by rw[BS.GM];rw[Aa d,Aa f,Aa g,Aa j,Aa l,Aa n,Aa p,Aa q,Aa r,Aa s,Aa a,Aa c,Aa o,Ae E]
  simp only[e,By,Kf,Item.row,d,f,g,j,l,n,p,q,r,s,a,c,o,Aw E]
 by_cases v:nm=D6
 .let e:b.GM nm k=zs (if b.head=0 then 3 else 6):=by rw[BS.GM];rw[Aa d,Aa f,Aa g,Aa j,Aa l,Aa n,Aa p,Aa q,Aa r,Aa s,Aa a,Aa c,Aa o,Aa E,Ae v]
  rw[e];by_cases z:b.head=0;.simp only[By,Kf,z1,d,f,g,j,l,n,p,q,r,s,a,c,o,E,Aw v,M,z]
  .simp only[By,Kf,z1,d,f,g,j,l,n,p,q,r,s,a,c,o,E,Aw v,M,z]
 let e:b.GM nm k=if k=0 then zs 7 else yx:=by rw[BS.GM];rw[Aa d,Aa f,Aa g,Aa j,Aa l,Aa n,Aa p,Aa q,Aa r,Aa s,Aa a,Aa c,Aa o,Aa E,Aa v]
 rw[e];by_cases u:k=0;.simp only[abS,Kf,z1,d,f,g,j,l,n,p,q,r,s,a,c,o,E,v,u]
 .simp only[abS,Kf,z1,d,f,g,j,l,n,p,q,r,s,a,c,o,E,v,u]
end
def aCf(w:RX h bi a o c t G b)(O:BW b m):
  ∃s,BF cx 88 [Pt bi 0] h (ζ []) s/\RX s bi a o c t G b.HQ/\Dx h (BD bi G) s (BD bi G):=by
 let ho:=O.AJ;let u:A8 h yx (Pt bi 2)=zs o:=w.ld 2;let lo:=AY.CQ w.o;let A:=w.l9;let E:=w.aFH;let U:Ev cx 88 [Pt bi 0] h λr s=>r= ζ []/\RX s bi a o c t G b.HQ/\Dx h (BD bi G) s (BD bi G):=by
  simp only[Ev,aJP,By,u,lo,Db (b.AJ.length) 1];let K:∀v,Cv h 1 (Pt bi 4) (I v)=zs (Am.put h bi 4 (I v)):=λv=>w.st rfl rfl;refine Bm (λn:Nat=>[I (n-1)]) (λn H=>n<=zz b.AJ/\b.Nx (zz b.AJ)=b.Nx n/\H=h) (λn=>n) (zz b.AJ) rfl ⟨Af _,rfl,rfl⟩ ?_;rintro n H ⟨hn,F,rfl⟩;cases n
  .let e:b.HQ={b with mode:=7}:=by rw[BS.HQ];rw[F];rfl
   simp only[abS,(Ab:¬0<=((0:Nat):Int)-1),K];exact⟨_,rfl,rfl,e▸w.br 7,Be⟩
  next n=>
   let D:n<zz b.AJ:=Ab;let i1:(n+1:Nat)-1=(n:Int):=Ab;have g:=AY.BL (k:= z0) w.o D;let d:=aQv w O (b.Fo n) (k:=n) Ab;let e:b.Nx (n+1)=match b.Iv (b.Fo n) n with|zs m=>m|yx=>b.Nx n:=rfl
   rw[e] at F;let L:=Db (n) 1;have i:∀(p:n≠0\/b.NR=η),b.Fo n=b.AJ[n]:=λp=>by rw[BS.Fo];rw[Aa (by rintro⟨H,P⟩;obtain p|p:=p;exact p H;rw[p] at P;cases AR P),A3,Ap D];rfl
   let j:n=0->b.NR=z8->b.Fo n=b.ctx:=λp z=>by rw[BS.Fo];rw[Ae ⟨p,z⟩]
   let B:∀v,b.Iv (b.Fo n) n=zs v->RX (Am.put H bi 4 (I v)) bi a o c t G b.HQ:=λv l=>by
    rw[l] at F;let e:b.HQ={b with mode:=v}:=by rw[BS.HQ];rw[F]
    exact e▸w.br v
   let f:b.Iv (b.Fo n) n=yx->b.Nx (zz b.AJ)=b.Nx n:=λl=>by rwa[l] at F
   generalize hx:b.AJ[n]=x at*;by_cases p:n=0
   .let y:((n:Int)=0)=True:=Aw Ab;rw[Ah p] at d;cases z:b.NR
    .rw[i (ys z)] at d B f;rw[z] at A;cases l:b.Iv x n
     .rw[l] at d;simp only[By,θ,Fh,i1,Of,u,g,y,A,d,L,Kf];exact yu n rfl ⟨Ab,f l,rfl⟩ Ab
     next v=>rw[l] at d;simp only[By,θ,Fh,i1,Of,u,g,y,A,d,K,Kf];exact⟨_,rfl,rfl,B v l,Be⟩
    .rw[j p z] at d B f;rw[z] at A;cases l:b.Iv b.ctx n
     .rw[l] at d;simp only[By,Nat.reduceLeDiff,↓reduceIte,Fh,i1,Of,u,g,y,A,E,d,L,Kf];exact yu n rfl ⟨Ab,f l,rfl⟩ Ab
     next v=>rw[l] at d;simp only[By,Nat.reduceLeDiff,↓reduceIte,Fh,i1,Of,u,g,y,A,E,d,K,Kf];exact⟨_,rfl,rfl,B v l,Be⟩
   .let y:¬(n:Int)=0:=by omega
    rw[Ag p] at d;rw[i (yg p)] at d B f;cases l:b.Iv x n
    .rw[l] at d;simp only[By,Nat.reduceLeDiff,Fh,i1,Of,u,g,y,d,L,Kf];exact yu n rfl ⟨Ab,f l,rfl⟩ Ab
    next v=>rw[l] at d;simp only[By,Nat.reduceLeDiff,Fh,i1,Of,u,g,y,d,K,Kf];exact⟨_,rfl,rfl,B v l,Be⟩
 obtain⟨r,s,T,rfl,R,Q⟩:=U.ret;exact⟨s,T,R,Q⟩
section
variable(w:RX h bi a o c t G b)(hc:Ca b.AX c)
def aQw(F:BW b m):
  ∃h' o' c' t',BF cx 90 [Pt bi 0] h (ζ []) h'/\RX h' bi a o' c' t' G b.Cu/\Ca b.Cu.AX c'/\Dx h (BD bi G) h' (BD bi G):=by
 have cR:=hK;have ho:=F.AJ;have Rn:=F.AX;have X:=F.tm;let Y7:∀i∈b.AJ,zz i.name<9223372036854775807:=λi hi=>by have:=F.YD i hi;omega
 let ld:A8 h yx (Pt bi 2)=zs o:=w.ld 2;let D:=aAW (h:=h) w.o Ab AE;by_cases Hb:A7 (AS [AE]) b.AJ<0;.exact⟨h,o,c,t,by simp[ou,ld,D,Hb],by rw[vx];rwa[Ae Hb],by rw[vx];rwa[Ae Hb],.refl⟩
 let⟨y,C,r2,Rx⟩:=f165 (h:=h) w.o Ab Y7 [] z8;let I3:Fm [] z8=CY:=by funext a;rfl
 rw[I3] at Rx;let w0:=w.If (u:=C);have L:=w0.st (k:=2) (v0:=o) rfl (AY.cells Rx);have w1:=w0.IB Rx;have R:=w.De.trans (Be (bi:=bi) (G:=G) (h:=h++C) (k:=2) (v:=y));have l1:(Dg CY Cl b.AJ).length<=zz b.AJ:=Tp;generalize put (h++C) bi 2 y=h1 at*;let aO:A8 h1 yx (Pt bi 2)=zs y:=w1.ld 2;let⟨g,t2,N,JK⟩:=f85 (h:=h1) Rx Ab (Cc (ws:=[AE])) AR;rw[<-Ld] at JK;let f:=w1.If (u:=t2);have K:=f.st (k:=2) (v0:=y) rfl (AY.cells JK);have B:=f.IB JK;have Q:=(R.trans w1.De).trans (Be (bi:=bi) (G:=G) (h:=h1++t2) (k:=2) (v:=g));generalize put (h1++t2) bi 2 g=h2 at*;let j:=B.l3;let⟨fs,Gj,hcs⟩:=hc;let Iq:zz fs=zz b.AX:=by rw[<-Gj,Ao]
 let⟨d,M,r⟩:=f84 (h:=h2) hcs Ab;have J:=B.st (k:=3) (v0:=c) rfl (AY.cells r);have s:=B.KJ (u:=d) (l:=Et b.AX);have H:=Q.trans (Be (bi:=bi) (G:=G) (h:=h2) (k:=3) (v:=d));let Pu:Ca (Et b.AX) d:=⟨_,by rw[TF,Gj],r⟩;generalize put h2 bi 3 d=h3 at*;let lt:=AY.CQ w.t;let l6:=s.l6;let e:b.Cu=BS.HQ {b with AJ:=Dg Cl (AS [AE]) (Dg CY Cl b.AJ),AX:=Et b.AX,tm:=b.tm.dropLast}:=by rw[vx];rw[Aa Hb]
 let sO:(Dg Cl (AS [AE]) (Dg CY Cl b.AJ)).Sublist b.AJ:=(Co (p:=Cl) (q:=AS [AE]) (l:=Dg CY Cl b.AJ)).trans Co;by_cases h0:b.tm=[]
 .let A:RX h3 bi a g d t G {b with AJ:=Dg Cl (AS [AE]) (Dg CY Cl b.AJ),AX:=Et b.AX,tm:=b.tm.dropLast}:=by
   have:b.tm.dropLast=b.tm:=by rw[h0];rfl
   rwa[this]
  let⟨Z,W,z,P⟩:=aCf A (F.sub (b':={b with AJ:=Dg Cl (AS [AE]) (Dg CY Cl b.AJ),AX:=Et b.AX,tm:=b.tm.dropLast}) rfl sO (B8 _ _) AF);refine⟨Z,g,d,t,?_,e▸z,e▸Pu,H.trans P⟩;have E:AB (wb η) [t]=zs (I 0):=by rw[lt,h0];rfl
  simp only[Ac,ou,By,ld,D,Hb,r2,L,aO,mC,N,K,j,M,J,l6,E,W,Kf]
 .let hpos:=Du.2 h0;let⟨u4,e4,ø⟩:=wj w.t (k:= .i64) (n:=b.tm.length-1) Ab;rw[<-Lr] at ø;let⟨T,e5,Ĩ⟩:=y6 (b:=8) ø ES;let U:=s.st (k:=6) (v0:=t) rfl (AY.cells Ĩ);let z:=s.fQ Ĩ;let⟨Y,V,S,O⟩:=aCf z (F.sub (b':={b with AJ:=Dg Cl (AS [AE]) (Dg CY Cl b.AJ),AX:=Et b.AX,tm:=b.tm.dropLast}) rfl sO (B8 _ _) AF);exact⟨Y,g,d,T,by simp only[Ac,ou,By,ld,D,Hb,r2,L,aO,mC,N,K,j,M,J,l6,lt,(Ab:0<(zz b.tm:Int)),IK hpos (Ab:zz b.tm<9223372036854775807),e4,e5,U,V,Kf],e▸S,e▸Pu,(H.trans Be).trans O⟩
def aQx(ok:E4 b)(rm:BW b (m+8*(4*(zz b.AJ+8)+10)))(hnm:Nm b.a)(nm:Aj):
  ∃h' Z F U,BF cx 87 [Pt bi 0,z4 nm] h (ζ []) h'/\RX h' bi a Z F t U (b.CJ nm)/\Ca (b.CJ nm).AX F/\Dx h (BD bi G) h' (BD bi U):=by
 let Rn:=rm.AX;let ld:A8 h yx (Pt bi 2)=zs o:=w.ld 2;let B:=aBA w rm;let em:AB (.Df 1) [z4 nm]=zs (.sl 1 ([nm].map BY)):=DK rfl AF;let r2:BF cx 212 [zo (DZ b.AJ).row,.sl 1 ([nm].map BY)] h (.bool (AS [nm] (DZ b.AJ))) h:=f167 (DZ b.AJ) (Cc) AF;let L:=hc.ix (n:=0) Ab (DZ b.AJ).node h;let H:b.Gk.AX=b.AX:=by rw[y7];split<;>rfl
 let l3:=w.l3;by_cases V:AS [nm] (DZ b.AJ)=z8/\Eo (DZ b.AJ).node b.AX<0
 .let⟨u,P,R,hu⟩:=aFu (h:=h) w.o Ab;let J:Lc b.AJ (zz b.AJ-1)=b.Gk.AJ:=by
   rw[y7];split;.unfold Lc;rw[AL Ab]
   .unfold Lc;congr 1;omega
  rw[J] at hu;let w1:=w.If (u:=P);let f:=w1.IB hu;let e:b.CJ nm=b.Gk:=by rw[BS.CJ];rw[Ae V]
  let T:({b with AJ:=b.Gk.AJ}:BS)=b.Gk:=by rw[y7];split<;>rfl
  rw[T] at f;exact e▸⟨_,u,c,G,by rw[V.1] at r2;rw[Ac,aAJ];simp only[abS,Fh,B,em,r2,l3,BK,L,V.2,ld,R,w1.st (k:=2) (v0:=o) rfl (AY.cells hu)],f,H▸hc,w.De.trans Be⟩
 let e:b.CJ nm=BS.EB 8 b nm:=by rw[BS.CJ];rw[Aa V]
 rw[e];let Jy:Ev cx 87 [Pt bi 0,z4 nm] h λr h'=>r= ζ []/\∃Z F U,RX h' bi a Z F t U (BS.EB 8 b nm)/\Ca (BS.EB 8 b nm).AX F/\Dx h (BD bi G) h' (BD bi U):=by
  rw[Ev];rw[aAJ];let HT:∀(Q:HN) (k:Dz->List Ad->IT),(∀x vs V,(x= .exit 0\/x= .ret)->(∃Z F U,RX V bi a Z F t U (BS.EB 8 b nm)/\Ca (BS.EB 8 b nm).AX F/\Dx h (BD bi G) V (BD bi U))->W cx (k x vs) Q V)->
    W cx (.loop 3 [I 1] (λd=> .op (.int .leq) [g d 0,I 8] λA=> .Hs A (.call 218 [Pt bi 0,z4 nm] λz=> .op (.un .not) [z] λv20=> .Hs v20 (.ret .ret [g d 0]) (.op (.int .add) [g d 0,I 1] λy=> .ret .normal [y])) (.ret (.exit 0) [g d 0])) k) Q h:=by
   intro Q k hk;refine Bm (λn:Nat=>[I (9 -n:Nat)]) (λn V=>n<=8/\∃D q s Y,RX V bi a D q t s Y/\Ca Y.AX q/\E4 Y/\Nm Y.a/\BW Y (m+n*(4*(zz b.AJ+8)+10))/\zz Y.AJ<=zz b.AJ+(8 -n)/\BS.EB 8 b nm=BS.EB n Y nm/\Dx h (BD bi G) V (BD bi s)) (λn=>n) 8 rfl ⟨Af _,o,c,G,b,w,hc,ok,hnm,rm,Ab,rfl,.refl⟩ ?_;rintro n V ⟨hn,D,q,s,Y,w1,Vb,TE,i,qb,ZE,l,v⟩;cases n
   .simp[(AR:¬(9 -0)<=8)];exact hk _ _ _ (yg rfl) ⟨D,q,s,l▸w1,l▸Vb,v⟩
   next n=>
    let hsp:(n+1)*(4*(zz b.AJ+8)+10)=n*(4*(zz b.AJ+8)+10)+(4*(zz b.AJ+8)+10):=by rw[Ch,GO]
    rw[hsp] at qb;let ý:BW Y (m+n*(4*(zz b.AJ+8)+10)+4*zz Y.AJ+10):=qb.le Ab;let⟨h2,M,N,O,p,f,KB,K⟩:=aQr w1 Vb TE ý i nm;let⟨YG,Zb⟩:=Q0 ý nm;let C:=(eS (nm:=nm) TE).1;let E:=Nm.round (nm:=nm) i ý;let hlt:((9 -(n+1):Nat):Int)<=8:=Ab;let inc:AB (.int .add) [I (9 -(n+1):Nat),I 1]=zs (I (9 -n:Nat)):=by have:=Xv (n:=9 -(n+1)) Ab;rwa [(Ab:9 -(n+1)+1=9 -n)] at this
    let j:BS.EB (n+1) Y nm=if(Y.round nm).1 then BS.EB n (Y.round nm).2 nm else(Y.round nm).2:=rfl
    cases hr:(Y.round nm).1<;>rw[hr] at p j
    .simp only[abS,hlt,p];exact hk _ _ _ (ys rfl) ⟨M,N,O,l▸j▸f,l▸j▸KB,v.trans K⟩
    .simp only[abS,hlt,p,inc];exact yu n rfl ⟨Ab,M,N,O,_,f,KB,C,E,YG,Ab,l.trans j,v.trans K⟩ Ab
  by_cases h2:AS [nm] (DZ b.AJ)=z8
  .let S:¬Eo (DZ b.AJ).node b.AX<0:=λh=>V ⟨h2,h⟩;rw[h2] at r2;simp only[abS,Fh,B,em,r2,l3,BK,L,S];refine HT _ _ ?_;rintro x vs V (rfl|rfl) ⟨Z,F,U,a1,a2,a3⟩;.simp only[By];exact⟨_,rfl,rfl,Z,F,U,a1,a2,a3⟩
   .simp only[By];exact⟨_,rfl,rfl,Z,F,U,a1,a2,a3⟩
  .let h2:AS [nm] (DZ b.AJ)=η:=zv h2
   rw[h2] at r2;simp only[By,B,em,r2];refine HT _ _ ?_;rintro x vs V (rfl|rfl) ⟨Z,F,U,a1,a2,a3⟩;.simp only[By];exact⟨_,rfl,rfl,Z,F,U,a1,a2,a3⟩
   .simp only[By];exact⟨_,rfl,rfl,Z,F,U,a1,a2,a3⟩
 obtain⟨r,h',hr,rfl,Z,F,U,w',JU,x'⟩:=Jy.ret;exact⟨h',Z,F,U,hr,w',JU,x'⟩
end
end
def Ď{h:Ak}{a:List CC}{v:Ad}(e:DB a v)(c:a≠[])(hl:zz a<=1000000000):KF h 3 48 .slnil v=zs (h++[yj (a.map CC.row).flatten],.CK (zz h) 0 (zz a) 3):=by let hm:=hK;have:=Nd (h:=h) (b:=48) (yg rfl) e (zv c) (by rw[Ao];omega);rwa [Ao] at this
def so{h:Ak}{v:Ad}(a:DB [] v):KF h 3 48 .slnil v=zs (h,.slnil):=Sq (yg rfl) a
section
variable{h P:Ak}{O a:Nat}{o c t:Ad}{G Q F:Nat->Prop}{b:BS}{x:Int}{m:Nat}
def aQy(w:RX h O a o c t G b)(j:BW b m)(e:CC):BF cx 211 [Pt O 0,zo e.row] h (.bool (b.settled e.c)) h:=by
 let ho:=j.AJ;let f:A8 h yx (Pt O 2)=zs o:=w.ld 2;let d:=jU (h:=h) w.o Ab e.c.node;rw[BS.settled];rw[Ac,aEt,CC.row];by_cases i:e.c.node=0;.simp only[By,Aw i,f,d,true_or,D3]
 .simp only[abS,i,f,d,false_or]
structure wF(h:Ak)(O a)(t c:Ad)(G0:Nat->Prop)(b:BS)(fs:List CC)(id m k)(h1:Ak):Prop where
 le:k<=zz fs
 low:b.Ng<=k
 ex:∃(o:Ad) (G:Nat->Prop) (b1:BS) (Jj:List CC),RX h1 O a o c t G b1/\E4 b1/\Nm b1.a/\BW b1 (m+4*(zz fs-k))/\h1[id]?=zs (yj (Jj.map CC.row).flatten)/\zz Jj=zz fs/\Jj.drop k=fs.drop k/\
  BS.A4 b={(x0 (b.AX.drop k) b1).2 with AX:=(Jj.take k).map (·.c)++(x0 (b.AX.drop k) b1).1}/\¬BD O G id/\Dx h (BD O G0) h1 (BD O G)
def wF.init(w:RX h O a o c t G b)(ok:E4 b)(f:Nm b.a)(k:BW b (m+4*zz b.AX)){d:List CC}(j:d.map (·.c)=b.AX):
  wF h O a t c G b d (zz h) m b.Ng (h++[yj (d.map CC.row).flatten]):=by
 let Iq:zz b.AX=zz d:=by rw[<-j,Ao]
 let hk:=Wp (b:=b);let i:=Nat.ne_of_gt w.lt;refine⟨Ab,Af _,o,G,b,d,w.If,ok,f,k.le Ab,?_,rfl,rfl,?_,?_,w.De⟩;.simp
 .unfold BS.A4;simp only;rw[E1,j]
 .rintro(rfl|l);.exact i rfl
  .cases (DT _) (w.w.lt l)
def wF.step{o:List CC}{x k:Nat}{J:Ak}(Gj:o.map (·.c)=b.AX)(D:∀e∈b.AX,zz e.name<=1000/\Eg e.Al)(hi:zz h<=x)(F:k<zz o)(i:wF h O a t c G b o x m k J):
  ∃(B:Ak) (n:Int),A8 J yx (Pt x (k*3+1))=zs (z4 o[k].c.name)/\A8 J yx (Pt x (k*3+2))=zs o[k].v/\BF cx 78 [Pt O 0,zo [I 2,z4 o[k].c.name,ff,S [],ff,S [],ff,ff,o[k].v,ff,S [],.int .i32 0]] J (I n) B/\
   Cv B 1 (Pt x (k*3)) (I n)=zs (Am.put B x (k*3) (I n))/\wF h O a t c G b o x m (k+1) (Am.put B x (k*3) (I n)):=by
 let⟨y,z,K,A,w1,Z,f,U,Q,ZE,V,qd,OT,g⟩:=i.ex;let M:k<zz A:=Ab;let Iq:zz b.AX=zz o:=by rw[<-Gj,Ao]
 let L:k<zz b.AX:=Ab;let r:A[k]=o[k]:=by have:=Cx (λl=>l[0]?) V;simp[CF,BE] at this;rw[Ap M,Ap F] at this;exact EZ this
 let q:b.AX[k]=o[k].c:=by simp[<-Gj,C4]
 let C:(A.map CC.row)[k]?=zs o[k].row:=by rw[Cp,Ap M,r];rfl
 let X:∀j,j<3->A8 J yx (Pt x (k*3+j))=o[k].row[j]?:=λj H=>by simp[A8,Q,Fg];exact Ni (QL A) H C
 let D:=D o[k].c (q▸AV L);let hr:P2 o[k].c.name o[k].v [I 2,z4 o[k].c.name,ff,S [],ff,S [],ff,ff,o[k].v,ff,S [],.int .i32 0]:=⟨I 2,ff,S [],ff,S [],ff,ff,ff,S [],.int .i32 0,rfl⟩;let⟨B,w,s,r2,u,d⟩:=Ĉ (m:=m+4*(zz o-(k+1))) w1 Z.ba (U.le Ab) f hr o[k].ok D.2 D.1;let Â:=(Aq.1 Q).1;let KB:B[x]?=zs (yj (A.map CC.row).flatten):=d.old x Â OT▸Q
 let Y:¬BD O s x:=λC=>by
  obtain C|C:=d.BD x C
  .exact OT C
  .omega
 let p:At B x (k*3) (I o[k].c.node):=⟨_,KB,by have:=Ni (k:=0) (QL A) AR C;rw[BE] at this;rw[this];rfl⟩
 let P:CC:=⟨{o[k].c with node:=K.a.len+1},o[k].v,o[k].ok⟩
 let E:(A.map CC.row).flatten.set (k*3) (I (K.a.len+1))=((A.set k P).map CC.row).flatten:=by have:=P1 (k:=0) (v:= I (K.a.len+1)) (QL A) (zv M) AR;rw[BE] at this;rw[Fa,B0,Ae (by rw[GX (QL A),Ao];omega)];rw[AO] at this;rwa[show P.row=((A.map CC.row)[k]'(zv M)).set 0 (I (K.a.len+1)) by rw[C4,r];rfl]
 refine⟨B,K.a.len+1,X 1 AR,X 2 AR,r2,p.store rfl,F,by have:=i.low;omega,w,s,_,A.set k P,u.Dt λj H=>Cq λe=>Y (e▸H),SH Z,f.Mf D.1,Ji (U.le Ab) D.2 D.1,?_,by rwa[Bw],?_,?_,Y,by rw[Kr];exact(g.trans d).len,λj H hn=>(Cq Ab).trans ((g.trans d).old j H hn),(g.trans d).BD⟩;.rw[IL KB,AT (by have:=d.len;omega),E]
 .rw[j2 (Ps k)];have:=Cx (λl=>l.drop 1) V;simpa[FJ] using this
 .rw[qd,AI L,q,x0];simp only
  congr 1
  rw[AG (by rwa[Bw]),aMi,BJ,Rr (Af k),AO];rfl
def aQz(w:RX h O a o c t G b)(hc:Ca b.AX c)(ok:E4 b)(Y:BW b (m+4*zz b.AX))(hnm:Nm b.a):
  ∃P Z V Q,BF cx 85 [Pt O 0] h (ζ []) P/\RX P O a Z V t Q b.A4/\Ca b.A4.AX V/\Dx h (BD O G) P (BD O Q):=by
 have Rn:=Y.AX;let⟨x,Gj,U⟩:=hc;let Iq:zz b.AX=zz x:=by rw[<-Gj,Ao]
 let Jy:Ev cx 85 [Pt O 0] h λr P=>r= ζ []/\∃Z V Q,RX P O a Z V t Q b.A4/\Ca b.A4.AX V/\Dx h (BD O G) P (BD O Q):=by
  rw[Ev];let l3:=w.l3;let lc:=AY.CQ U;simp only[aJN,By,l3,lc];refine DD (i:=0) (λn:Nat=>[I n]) (λn F=>n<=zz x/\A7 b.settled b.AX=A7 b.settled (b.AX.take n)/\F=h) (λn=>n) (λn F=>n=b.Ng/\F=h) (zz x) rfl ⟨Af _,by rw[<-Iq,Bx],rfl⟩ ?_ ?_
  .rintro n F ⟨hn,R,rfl⟩;cases n
   .simp[(AR:¬0<(0:Nat))];exact .HT 0 rfl ⟨by rw[BS.Ng];rw[R];rfl,rfl⟩
   next n=>
    let T:n<zz b.AX:=Ab;let Wi:n<zz x:=Ab;rw[Ih T] at R;let i1:=IK (n:=n+1) (Ab:0<n+1) (Ab:n+1<9223372036854775807);rw[EY] at i1;let d:=AY.BL (k:= .i64) U Wi;let en:x[n].c=b.AX[n]:=by simp only[<-Gj,C4]
    let z:=aQy w Y x[n];rw[en] at z;let wV:x[n].row.length=3:=rfl;let q:x[n].row.take 3=x[n].row:=rfl;simp only[abS,↓reduceIte,(Ab:(0:Int)<((n+1:Nat):Int)),l3,i1,d,wV,q,Af,z];cases hs:b.settled b.AX[n]
    .rw[hs,Aa AR] at R;simp;exact .next n rfl ⟨Ab,R,rfl⟩ Ab
    .rw[hs,Ae rfl] at R;simp;exact .HT (n+1) rfl ⟨by unfold BS.Ng;rw[R];omega,rfl⟩
  .rintro n F ⟨rfl,N⟩;rw[N];by_cases hne:x=[]
   .subst hne;let R:b.AX=[]:=Gj.symm;let M:b.Ng=0:=by have:=Wp (b:=b);rw[R] at this;exact Nat.le_zero.1 this
    let hb:b.A4=b:=by rw[BS.A4];simp only[R,aGD,BS.IZ,aGE,B4];rw[<-R]
    let g0:=so (h:=h) U;let f:=w.st (k:=3) (v:= .slnil) (v0:=c) rfl rfl;let X:RX (put h O 3 .slnil) O a o .slnil t G b:=w.KJ (l:=b.AX);let d:=SM X.vA (yp (l:=[]) (ys ⟨rfl,rfl⟩)) rfl;let hz:b.Ng=0:=M
    simp[l3,g0];refine DD (i:=2) (λn:Nat=>[I n]) (λn F=>n=0/\F=h) (λn=>n) (λn F=>n=0/\F=h) 0 (by rw[hz]) ⟨rfl,rfl⟩ ?_ ?_;.rintro n F ⟨rfl,rfl⟩;simp[AP,T6,show AB (wb η) [.slnil]=zs (I 0) from rfl,(AR:¬0<0)];exact .HT 0 rfl ⟨rfl,rfl⟩
    .rintro n F ⟨rfl,rfl⟩;simp only[By,↓reduceIte,f,d];exact⟨_,rfl,rfl,o,.slnil,G,by rw[hb];exact X.KJ (l:=b.AX),⟨[],by rw[hb,R];rfl,ys ⟨rfl,rfl⟩⟩,Be.trans Be⟩
   .let i0:=wF.init (m:=m) w ok hnm Y Gj;let g1:=Ď (h:=h) U hne Ab;let B:AB (wb η) [.CK (zz h) 0 (zz x) 3]=zs (I (zz x)):=rfl;simp only[By,↓reduceIte,l3,g1];refine DD (i:=2) (λn:Nat=>[I n]) (λk F=>wF h O a t c G b x (zz h) m k F) (λk=>zz x-k) (λk F=>k=zz x/\wF h O a t c G b x (zz h) m k F) b.Ng rfl i0 ?_ ?_
    .intro k F i;let E7:=i.le;obtain T|EC:=AQ k (zz x)
     .let⟨h2,n,f,K,J,H,E⟩:=wF.step Gj Y.DU (Af _) T i;let d:AB (.EM 3) [.CK (zz h) 0 (zz x) 3,I k]=zs (Pt (zz h) (k*3)):=FN T;let qg:x[k].v.cells=[x[k].v]:=AY.cells x[k].ok;simp[AP,B,(Ab:k<zz x),d,f,K,qg,J,H,BB k];exact .next (k+1) rfl E Ab
     .simp only[abS,θ,↓reduceIte,AP,B,(Ab:¬k<(x.length:Int))];exact .HT k rfl ⟨Ab,i⟩
    .rintro k F ⟨rfl,i⟩;let⟨A,s,b1,Jj,X,TE,L,qb,Vb,ZE,pB,qd,OT,C⟩:=i.ex;let g:zz h≠O:=λe=>OT (yg e);let f:=X.st (k:=3) (v:= .CK h.length 0 x.length 3) (v0:=c) rfl rfl;let y:=X.KJ (u:= .CK h.length 0 x.length 3) (l:=b1.AX);let KB:(put F O 3 (.CK (zz h) 0 (zz x) 3))[zz h]?=_:=(Cq g).trans Vb;let hf:=Kn (QL Jj) KB;rw[Ao,ZE] at hf;let d:=SM y.vA hf (Av g);let D:RX ((put F O 3 (.CK (zz h) 0 (zz x) 3)).set (zz h) .CV) O a A _ t s {b1 with AX:=b1.AX}:=y.Dt λj hj=>Av λe=>OT (by rwa[e]);simp only[By,↓reduceIte,f,d];let hb:b.A4={b1 with AX:=Jj.map (·.c)}:=by rw[qd,AU Ab,AL Ab];simp only[BS.IZ,Br]
     exact⟨_,rfl,rfl,A,_,s,hb▸D.KJ,⟨Jj,by rw[hb],.mk⟩,by let p:=C.trans (Be (bi:=O) (G:=s) (k:=3) (v:= .CK h.length 0 x.length 3));exact Dx.trans ⟨by rw[Bw];exact p.len,λj hj hn=>by rw[Av Ab];exact p.old j hj hn,p.BD⟩ Be⟩
 obtain⟨r,P,hr,rfl,Z,V,Q,w',JU,x'⟩:=Jy.ret;exact⟨P,Z,V,Q,hr,w',JU,x'⟩
end
end Go.Am
end
open Go.Am.Ad renaming ptr→zm
section
namespace Go.Am
open Go
section
variable{h P:Ak}{R a:Nat}{o c t:Ad}{G Q F:Nat->Prop}{b:BS}{x:Int}{m j:Nat}{q:cr}
variable{nm:Aj}{T:Ad}{l:List Bb}{r:List Ad}{sp p:Int}
set_option maxHeartbeats 4000000 in
def aVP(w:RX h R a o c t G b)(hc:Ca b.AX c)(ok:E4 b)(sz:Sz b (j+1))(hnm:Nm b.a)(hq:Ī q)(hv:AK q.Al T):
  ∃P o' c' t' Q,BF cx 21 [Pt R 0,.agg (NB q T)] h (.agg (fU b q).2.row) P/\RX P R a o' c' t' Q (fU b q).1/\Ca (fU b q).1.AX c'/\Dx h (BD R G) P (BD R Q):=by
 unfold fU NB;by_cases d:q.k=1;.rw[Ae d];dsimp only;obtain⟨r,Xa,D,hr,DP⟩:=Zn (q:=q) hv hq.Al.1 h;rw[NB] at D;obtain⟨P,o',Q,r2,w',x'⟩:=Ĉ (m:=5000000*j) w ok sz.XW hnm hr DP hq.Al hq.name;refine⟨P,o',c,t,Q,?_,w',by rw[D9];exact hc,x'⟩;rw[Ac,GS];simp only[abS,Nat.reduceLeDiff,↓reduceIte,AP,Aw d,D,r2];try rfl
 rw[Aa d];by_cases f:q.k=2;.rw[Ae f];dsimp only;obtain⟨r,Xa,D,hr,DP⟩:=Zn (q:=q) hv hq.Al.1 h;rw[NB] at D;obtain⟨P,o',Q,r2,w',x'⟩:=aLk (m:=5000000*j) w ok sz.XW hnm hr DP hq.Al hq.name q.Bk;refine⟨P,o',c,t,Q,?_,w',by rw[D9];exact hc,x'⟩;rw[Ac,GS];simp only[abS,Nat.reduceLeDiff,↓reduceIte,AP,d,Aw f,D,r2];try rfl
 rw[Aa f];by_cases g:q.k=3;.rw[Ae g];dsimp only;obtain⟨r,Xa,D,hr,DP⟩:=Zn (q:=q) hv hq.Al.1 h;rw[NB] at D;obtain⟨P,o',c',Q,r2,w',JU,x'⟩:=aQj (m:=5000000*j) w hc ok sz.XW hnm hr DP hq.Al hq.name;refine⟨P,o',c',t,Q,?_,w',JU,x'⟩;rw[Ac,GS];simp only[abS,Nat.reduceLeDiff,↓reduceIte,AP,d,f,Aw g,D,r2];try rfl
 rw[Aa g];by_cases i:q.k=4;.rw[Ae i];dsimp only;obtain⟨P,Q,r2,w',x'⟩:=aQm (m:=5000000*j) w ok sz.XW hnm q.r;refine⟨P,o,c,t,Q,?_,w',hc,x'⟩;rw[Ac,GS];simp only[abS,↓reduceIte,AP,d,f,g,Aw i,r2];try rfl
 rw[Aa i];by_cases y:q.k=5;.rw[Ae y];dsimp only;obtain⟨P,Q,r2,w',x'⟩:=aQn (m:=5000000*j) w ok sz.XW hnm q.s (by have:=hq.s;omega) q.a;refine⟨P,o,c,t,Q,?_,w',hc,x'⟩;rw[Ac,GS];simp only[abS,↓reduceIte,AP,d,f,g,i,Aw y,r2];try rfl
 rw[Aa y];by_cases z:q.k=6;.rw[Ae z];dsimp only;obtain⟨r,Xa,D,hr,DP⟩:=Zn (q:=q) hv hq.Al.1 h;rw[NB] at D;obtain⟨P,o',Q,r2,w',x'⟩:=aQi (m:=5000000*j) w ok sz.XW hnm hr DP hq.Al hq.name q.n;refine⟨P,o',c,t,Q,?_,w',by show Ca (b.D5 q.name q.Al 1).AX c;rw[D9];exact hc,x'⟩;rw[Ac,GS];simp only[abS,↓reduceIte,AP,d,f,g,i,y,Aw z,D,r2];try rfl
 rw[Aa z];by_cases A:q.k=7;.rw[Ae A];dsimp only;obtain⟨P,o',r2,w',x'⟩:=aQh w sz.rm;refine⟨P,o',c,t,G,?_,w',by have e:b.BT.AX=b.AX:=(by unfold BS.BT;split<;>rfl);rw[e];exact hc,x'⟩;rw[Ac,GS];simp only[abS,↓reduceIte,AP,d,f,g,i,y,z,Aw A,r2];try rfl
 rw[Aa A];by_cases B:q.k=8;.rw[Ae B];dsimp only;obtain⟨P,o',c',Q,r2,w',JU,x'⟩:=aQz (m:=5000000*j) w hc ok (sz.rm.le (by have:=sz.AX;omega)) hnm;refine⟨P,o',c',t,Q,?_,w',JU,x'⟩;rw[Ac,GS];simp only[abS,↓reduceIte,AP,d,f,g,i,y,z,A,Aw B,r2];try rfl
 rw[Aa B];by_cases C:q.k=9;.rw[Ae C];dsimp only;obtain⟨P,o',r2,w',x'⟩:=aLl w sz.rm q.name;refine⟨P,o',c,t,G,?_,w',by have e:(b.CZ q.name).AX=b.AX:=(by unfold BS.CZ;split;split<;>rfl;rfl);rw[e];exact hc,x'⟩;rw[Ac,GS];simp only[abS,↓reduceIte,AP,d,f,g,i,y,z,A,B,Aw C,r2];try rfl
 rw[Aa C];by_cases Ik:q.k=10;.rw[Ae Ik];dsimp only;obtain⟨P,o',c',Q,r2,w',JU,x'⟩:=aQx (m:=5000000*j) w hc ok (sz.rm.le (by have:=sz.AJ;omega)) hnm q.name;refine⟨P,o',c',t,Q,?_,w',JU,x'⟩;rw[Ac,GS];simp only[abS,↓reduceIte,AP,d,f,g,i,y,z,A,B,C,Aw Ik,r2];try rfl
 rw[Aa Ik];by_cases LC:q.k=11;.rw[Ae LC];dsimp only;obtain⟨P,r2,w',x'⟩:=aCf w sz.rm;refine⟨P,o,c,t,G,?_,w',hc,x'⟩;rw[Ac,GS];simp only[abS,↓reduceIte,AP,d,f,g,i,y,z,A,B,C,Ik,Aw LC,r2];try rfl
 rw[Aa LC];by_cases Md:q.k=12;.rw[Ae Md];dsimp only;obtain⟨r,Xa,D,hr,DP⟩:=Zn (q:=q) hv hq.Al.1 h;rw[NB] at D;obtain⟨P,Q,r2,w',x'⟩:=aQg (m:=5000000*j) w ok sz.XW hr DP hq.Al q.a;refine⟨P,o,c,t,Q,?_,w',by have e:(b.ER q.Al q.a).AX=b.AX:=(by unfold BS.ER;split<;>rfl);rw[e];exact hc,x'⟩;rw[Ac,GS];simp only[abS,↓reduceIte,AP,d,f,g,i,y,z,A,B,C,Ik,LC,Aw Md,D,r2];try rfl
 rw[Aa Md];by_cases Ml:q.k=13;.rw[Ae Ml];dsimp only;obtain⟨P,o',c',t',r2,w',JU,x'⟩:=aQw w hc sz.rm;refine⟨P,o',c',t',G,?_,w',JU,x'⟩;rw[Ac,GS];simp only[abS,↓reduceIte,AP,d,f,g,i,y,z,A,B,C,Ik,LC,Md,Aw Ml,r2];try rfl
 rw[Aa Ml];by_cases Oq:q.k=14;.rw[Ae Oq];dsimp only;obtain⟨P,r2,w',x'⟩:=aQf w;refine⟨P,o,c,t,G,?_,w',hc,x'⟩;rw[Ac,GS];simp only[abS,↓reduceIte,AP,d,f,g,i,y,z,A,B,C,Ik,LC,Md,Ml,Aw Oq,r2];try rfl
 rw[Aa Oq];by_cases P5:q.k=15;.rw[Ae P5];dsimp only;have w':RX (put h R 15 (.bool q.b)) R a o c t G {b with FW:=q.b}:=w.put rfl rfl w.o w.t;refine⟨put h R 15 (.bool q.b),o,c,t,G,?_,w',hc,Be⟩;rw[Ac,GS];simp only[abS,↓reduceIte,AP,d,f,g,i,y,z,A,B,C,Ik,LC,Md,Ml,Oq,Aw P5,w.st (k:=15) (v:= .bool q.b) rfl rfl];try rfl
 rw[Aa P5];by_cases Ro:q.k=16;.rw[Ae Ro];dsimp only;have M:=sz.rm.tm;have cR:=hK;obtain⟨u,O,hu⟩:=AY.Gf (b:=8) w.t Ab;have N:=AY.KT (b:=8) (a:=q.n) hu Ab;have em:AB (.Df 1) [I q.n]=some (.sl 1 [BM q.n]):=rfl;have JK:Em (b.tm++[q.n]) (.sl 1 ((b.tm++[q.n]).map BM)):= .mk;have w':=w.fQ JK;refine⟨put h R 6 (.sl 1 ((b.tm++[q.n]).map BM)),o,c,_,G,?_,w',hc,Be⟩;rw[Ac,GS];simp only[abS,↓reduceIte,AP,d,f,g,i,y,z,A,B,C,Ik,LC,Md,Ml,Oq,P5,Aw Ro,w.l6,O,em,N,w.st (k:=6) (v0:=t) rfl (AY.cells JK)];try rfl
 rw[Aa Ro];by_cases SP:q.k=17
 .rw[Ae SP];dsimp only;have Rn:=sz.rm.AX;obtain⟨u,r2,JU,K⟩:=hc.wi Ab (e:=B9.zero) (v:= .slnil) (.inr ⟨rfl,rfl⟩) AR (b.AX.length:Int) h;rw[YQ (Af _),Bx,EG] at JU;have w':=w.KJ (u:=u) (l:=b.AX++[B9.zero]);have lc:AB (.len false) [c]=some (I (b.AX.length:Int)):=by obtain⟨fs,Gj,Rw⟩:=hc;rw[AY.CQ Rw,<-Gj,Ao]
  have J:BF cx 92 [c,.agg [I 0,S [],.slnil],I (b.AX.length:Int)] h u h:=r2;refine⟨put h R 3 u,o,u,t,G,?_,w',JU,Be⟩;rw[Ac,GS];simp only[abS,↓reduceIte,AP,d,f,g,i,y,z,A,B,C,Ik,LC,Md,Ml,Oq,P5,Ro,Aw SP,w.l3,lc,J,w.st (k:=3) (v0:=c) rfl K];try rfl
 rw[Aa SP];by_cases RD:q.k=18;.rw[Ae RD];dsimp only;obtain⟨P,o',r2,w',x'⟩:=aVM w sz.rm;refine⟨P,o',c,t,G,?_,w',by have e:b.Gk.AX=b.AX:=(by unfold BS.Gk;split<;>rfl);rw[e];exact hc,x'⟩;rw[Ac,GS];simp only[abS,↓reduceIte,AP,Fh,d,f,g,i,y,z,A,B,C,Ik,LC,Md,Ml,Oq,P5,Ro,SP,Aw RD,r2];try rfl
 rw[Aa RD];by_cases Wu:q.k=19;.rw[Ae Wu];dsimp only;have w':RX (put h R 7 (I q.a)) R a o c t G {b with head:=q.a}:=w.put rfl rfl w.o w.t;refine⟨put h R 7 (I q.a),o,c,t,G,?_,w',hc,Be⟩;rw[Ac,GS];simp only[abS,↓reduceIte,AP,d,f,g,i,y,z,A,B,C,Ik,LC,Md,Ml,Oq,P5,Ro,SP,RD,Aw Wu,w.st (k:=7) (v:= I q.a) rfl rfl];try rfl
 rw[Aa Wu];by_cases YJ:q.k=20;.rw[Ae YJ];dsimp only;have w':=w.br q.n;refine⟨put h R 4 (I q.n),o,c,t,G,?_,w',hc,Be⟩;rw[Ac,GS];simp only[abS,↓reduceIte,AP,d,f,g,i,y,z,A,B,C,Ik,LC,Md,Ml,Oq,P5,Ro,SP,RD,Wu,Aw YJ,w.st (k:=4) (v:= I q.n) rfl rfl];try rfl
 rw[Aa YJ];by_cases vN:q.k=21;.rw[Ae vN];dsimp only;have Rn:=sz.rm.AX;obtain⟨fs,Gj,Rw⟩:=hc;obtain⟨u,r2,hu⟩:=f84 (h:=h) Rw (by rw[<-Gj,Ao] at Rn;omega);have w':=w.KJ (u:=u) (l:=Et b.AX);have JU:Ca (Et b.AX) u:=⟨_,by rw[TF,Gj],hu⟩;refine⟨put h R 3 u,o,u,t,G,?_,w',JU,Be⟩;rw[Ac,GS];simp only[abS,↓reduceIte,AP,d,f,g,i,y,z,A,B,C,Ik,LC,Md,Ml,Oq,P5,Ro,SP,RD,Wu,YJ,Aw vN,w.l3,r2,w.st (k:=3) (v0:=c) rfl (AY.cells hu)];try rfl
 rw[Aa vN];by_cases ÿ:q.k=22;.rw[Ae ÿ];dsimp only;have ho:=sz.rm.AJ;have ld:A8 h none (Pt R 2)=some o:=w.ld 2;have em:AB (.Df 1) [.str q.name]=some (.sl 1 ([q.name].map BY)):=DK (ws:=[q.name]) rfl AF;obtain⟨u,L,r2,hu⟩:=f85 (h:=h) w.o Ab (Cc (ws:=[q.name])) AF;rw[<-Ld] at hu;have w1:=w.If (u:=L);have w':=w1.IB hu;refine⟨put (h++L) R 2 u,u,c,t,G,?_,w',hc,w.De.trans Be⟩;rw[Ac,GS];simp only[abS,↓reduceIte,AP,d,f,g,i,y,z,A,B,C,Ik,LC,Md,Ml,Oq,P5,Ro,SP,RD,Wu,YJ,vN,Aw ÿ,ld,em,r2,w1.st (k:=2) (v0:=o) rfl (AY.cells hu)];try rfl
 rw[Aa ÿ];by_cases E:q.k=23;.rw[Ae E];dsimp only;have w':RX (put h R 8 (I q.a)) R a o c t G {b with Fx:=q.a}:=w.put rfl rfl w.o w.t;refine⟨put h R 8 (I q.a),o,c,t,G,?_,w',hc,Be⟩;rw[Ac,GS];simp only[abS,↓reduceIte,AP,d,f,g,i,y,z,A,B,C,Ik,LC,Md,Ml,Oq,P5,Ro,SP,RD,Wu,YJ,vN,ÿ,Aw E,w.st (k:=8) (v:= I q.a) rfl rfl];try rfl
 rw[Aa E];by_cases H:q.k=24;.rw[Ae H];dsimp only;obtain⟨r,Xa,D,hr,DP⟩:=Zn (q:=q) hv hq.Al.1 h;rw[NB] at D;obtain⟨P,Q,r2,w',x'⟩:=aGg (m:=5000000*j) w ok sz.XW hnm hr DP hq.Al hq.name q.a q.Bk;refine⟨P,o,c,t,Q,?_,w',by have e:(b.EL q.name q.Al q.Bk q.a).AX=b.AX:=(by unfold BS.EL;split<;>rfl);rw[e];exact hc,x'⟩;rw[Ac,GS];simp only[abS,↓reduceIte,AP,Fh,d,f,g,i,y,z,A,B,C,Ik,LC,Md,Ml,Oq,P5,Ro,SP,RD,Wu,YJ,vN,ÿ,E,Aw H,D,r2];try rfl
 rw[Aa H];refine⟨h,o,c,t,G,?_,w,hc,.refl⟩;rw[Ac,GS];simp only[abS,↓reduceIte,AP,d,f,g,i,y,z,A,B,C,Ik,LC,Md,Ml,Oq,P5,Ro,SP,RD,Wu,YJ,vN,ÿ,E,H];try rfl
end
section
variable{h h':Ak}{bi a:Nat}{o c t:Ad}{G G' F:Nat->Prop}{b:BS}{x:Int}{m j:Nat}{q:cr}
variable{nm:Aj}{av:Ad}{l:List Bb}{r:List Ad}{sp p:Int}
def sq(h:Ak):ZC h []=zs (h++[.CV,yj RN.z.row,yj [I 0],yj [.CK (zz h+1) 0 1 13,.CK (zz h+2) 0 1 1]],zm (zs (zz h+3,0))):=by rw[ZC];simp[AO,CS,B4];rfl
def aVQ(h:Ak):BF cx 53 [] h (zm (zs (zz h+3,0))) (h++[.CV,yj RN.z.row,yj [I 0],yj [.CK (zz h+1) 0 1 13,.CK (zz h+2) 0 1 1]]):=by let d:EH (.Ul ZC) h []=zs (h++[.CV,yj RN.z.row,yj [I 0],yj [.CK (zz h+1) 0 1 13,.CK (zz h+2) 0 1 1]],zm (zs (zz h+3,0))):=sq h;simp[show Cf cx 53 []=ZD [] from rfl,ZD,d]
def aGk(h:Ak):RA (h++[.CV,yj RN.z.row,yj [I 0],yj [.CK (zz h+1) 0 1 13,.CK (zz h+2) 0 1 1]]) (zz h+3) (zz h+1) (zz h+2) [] ⟨[],[]⟩:=by
 refine⟨rfl,rfl,?_,?_,?_,Ab,Ab,Ab⟩;.rw[Bu Ab,(Ab:zz h+3 -zz h=3)];rfl
 .rw[Bu Ab,(Ab:zz h+1 -zz h=1)];rfl
 .rw[Bu Ab,(Ab:zz h+2 -zz h=2)];rfl
def aQA(h:Ak)(q:Bool):∃o c l a m G,BF cx 53 [] h (Pt a 0) o/\BF cx 54 [Pt a 0,.bool q] o (I 1) c/\BF cx 56 [Pt a 0,I 1] c (Pt m 0) l/\RX l m a .slnil .slnil .slnil G (DX q)/\Dx h (λ_=>False) l (BD m G):=by
 let⟨c,f,g,r,p,d,e⟩:=aPw (aGk h) (by show 0<=1000000000;decide) q;let d:=d;let s:(ī q).has 1:=⟨Jm 1,Jm 1⟩;let t:((ī q).nd 1).kind=1:=by rw[show(ī q).nd 1=(DX q).a.nd 1 from rfl,Q2,Ae rfl]
 let i:=di d s t;let E7:zz h+4<=zz c:=have:=e.len;zv this
 refine⟨_,c,c++[yj (J4 (zz h+3) (DX q) .slnil .slnil .slnil)],zz h+3,zz c,Ky (zz h+3) f g,aVQ h,p,?_,⟨AF,ys ⟨rfl,rfl⟩,ys ⟨rfl,rfl⟩,⟨f,g,r,d.Dt λj b=>An (d.lt b),rfl⟩,λb=>absurd (d.lt b) (DT _)⟩,?_,λj b _=>?_,λj b=> ys ?_⟩;.rw[Ac,aJH];simp[AP,i,BR];rfl
 .simp;omega
 .rw[An Ab,e.old j ES (by rw[Ky];omega),An b]
 .rcases b with rfl|b
  .omega
  .rcases e.BD j b with b|b
   .unfold Ky at b;omega
   .simp at b;omega
def RX.aBt(w:RX h bi a o c t G b)(i:Item):∃f,Cv h 4 (Pt bi 10) (zo i.row)=zs f/\RX f bi a o c t G {b with ctx:=i}/\Dx h (BD bi G) f (BD bi G):=⟨h.set bi (yj (J4 a {b with ctx:=i} o c t)),by rw[Cv,w.hb];rfl,⟨AT w.lt,w.o,w.t,w.w.Dt λj hj=>Av λe=>w.nb (by rwa[e]),w.nb⟩,Bw▸Af _,λj _ m=>Av λe=>m (yg e.symm),λ_ h=> yg h⟩
def aVR(h:Ak)(sp:Int)(nm:Aj)(hv:AK l av)(hl:Eg l)(hn:zz nm<=1000)(q f q':Bool):∃h1 h2 j a b o t G,BF cx 53 [] h (Pt a 0) h1/\BF cx 54 [Pt a 0,.bool q] h1 (I 1) h2/\BF cx 55 [Pt a 0,I 1,zo [I sp,z4 nm,av,.bool q',.bool f]] h2 (Pt b 0) j/\RX j b a o .slnil t G (XX sp nm l q f)/\Dx h (λ_=>False) j (BD b G):=by
 let⟨h1,h2,h3,a,b,G,r1,r2,J,w,x⟩:=aQA h q;have ok0:=Q1 q;have iV:((DX q).a.nd 1).kind=1:=by rw[Q2,Ae rfl]
 have V:(DX q).J2 1=1:=by unfold BS.J2;rw[Q2,Ae rfl];rfl
 have K:(DX q).EL D6 [] 1 1={DX q with a:=(DX q).a.elem 1 1 D6 []}:=by unfold BS.EL;rw[Ae KP,V];rfl
 have L:(DX q).Hv D6 [] 1=⟨2,1,D6,η⟩:=by unfold BS.Hv;rw[Ae KP];rfl
 let⟨h4,G4,H,w4,x4⟩:=w.step (A':=(DX q).a.elem 1 1 D6 []) (R:=λj=>BF cx 159 [Pt a 0,I 1,I 1,.str D6,.slnil] h3 (.tuple [I ((DX q).a.len+1),I 0]) j) (λn i ps wa=>aHQ (l:=[]) wa (by show(1:Int)+3<=1000000000;decide) (⟨Jm 1,Jm 1⟩) iV KP (.inr ⟨rfl,rfl⟩) AR (λy hy=>(nomatch hy)));rw[<-K] at w4;let⟨Ħ,f4,le4⟩:=SG (nm:=D6) (at_:=[]) (p:=1) (Q1 q) KP;let⟨N,s,C,w5,x5⟩:=yz w4 Ħ.ba (Kv (m:=1000) (nm:=D6) (l:=[]) (sp:=1) (p:=1) ((Q3 q).rm.le Ab) ⟨AR,λa ha=>(nomatch ha)⟩) 1 ((DX q).Hv D6 [] 1).node 0;have ho:((DX q).EL D6 [] 1 1).AJ=[]:=by rw[K];rfl
 have Ĭ:B7 (((DX q).EL D6 [] 1 1).AJ++[(DX q).Hv D6 [] 1]) (.sl 4 [((DX q).Hv D6 [] 1).row]):=by rw[ho];exact .mk
 have A:=w5.st (k:=2) (v:= .sl 4 [((DX q).Hv D6 [] 1).row]) (v0:= .slnil) rfl rfl;have Q:=w5.IB Ĭ;have z:Cv (put N b 2 (.sl 4 [((DX q).Hv D6 [] 1).row])) 1 (Pt b 9) tt=some (put (put N b 2 (.sl 4 [((DX q).Hv D6 [] 1).row])) b 9 tt):=Q.st (k:=9) (v:=tt) (v0:= .bool ((DX q).EL D6 [] 1 1).NR) rfl rfl;have w7:RX (put (put N b 2 (.sl 4 [((DX q).Hv D6 [] 1).row])) b 9 tt) b a _ .slnil .slnil s _:=Q.put (k:=9) (v:=tt) (b':={{{(DX q).EL D6 [] 1 1 with a:=((DX q).EL D6 [] 1 1).a.E8 ((DX q).Hv D6 [] 1).node 1 0} with AJ:=((DX q).EL D6 [] 1 1).AJ++[(DX q).Hv D6 [] 1]} with NR:=true}) rfl rfl Ĭ Q.t;have Z:Dx h (λ_=>False) (put (put N b 2 (.sl 4 [((DX q).Hv D6 [] 1).row])) b 9 tt) (BD b s):=((((x.trans x4).trans x5).trans Be).trans Be);have fO:((DX q).Hv D6 [] 1).node=(DX q).a.len+1:=by rw[L];rfl
 rw[fO] at C;have aQB:((DX q).Hv D6 [] 1).row=[I ((DX q).a.len+1),I 1,S D6,ff]:=by rw[L];rfl
 rw[aQB] at A z w7 Z;generalize put N b 2 (.sl 4 [[I ((DX q).a.len+1),I 1,S D6,ff]])=h6 at*;generalize put h6 b 9 tt=h7 at*;have E:=aNO (h:=h7) hv (λa ha=>by have:=(hl.2 a ha).2;have:AN=140737488355328:=rfl;omega) (by have:=hl.1;omega) sp nm Ab;let⟨D,s8,w8,x8⟩:=w7.aBt ⟨0,sp,nm,FO sp nm l⟩;have u:RX D b a _ .slnil .slnil s (KE sp nm l q):=w8;have P:=Z.trans x8;clear w8;have d:Cv h7 4 (Pt b 10) (.agg [I 0,I sp,.str nm,.bool (FO sp nm l)])=some D:=s8;have F:(KE sp nm l q).ctx=⟨0,sp,nm,FO sp nm l⟩:=rfl;let⟨aUK,T⟩:=fX sp nm l q;have key:∃M Y,RX M b a (.sl 4 [[I ((DX q).a.len+1),I 1,S D6,ff]]) .slnil Y s (NI sp nm l q)/\Dx D (BD b s) M (BD b s)/\((sp=1/\nm=AE)->Cv D 1 (Pt b 6) (.sl 1 [[I 18]])=zs M)/\(¬(sp=1/\nm=AE)->M=D):=by
  by_cases O:sp=1/\nm=AE;.refine⟨put D b 6 (.sl 1 [[I 18]]),.sl 1 [[I 18]],?_,Be,λ_=>u.st (k:=6) (v0:= .slnil) rfl rfl,λh=>absurd O h⟩;unfold NI;rw[Ae (by rw[TG,F];exact Ah O)];exact u.fQ .mk
  .refine⟨D,.slnil,?_,.refl,λh=>absurd h O,λ_=>rfl⟩;unfold NI;rw[Aa (by rw[TG,F];exact λh=>O (D4 h))];exact u
 let⟨M,Y,w9,x9,k1,k2⟩:=key;let⟨Wj,r,U,ql⟩:=aCf w9 T.rm;have em:AB (.Df 1) [I 18]=zs (.sl 1 [[I 18]]):=rfl;have g:AB (.Df 4) [.agg [I ((DX q).a.len+1),I 1,S D6,ff]]=zs (.sl 4 [[I ((DX q).a.len+1),I 1,S D6,ff]]):=rfl;have B:=U.st (k:=8) (v:=I (-1)) rfl rfl;have hw:D6=a2y:=rfl;have HT:∃j,RX j b a (.sl 4 [[I ((DX q).a.len+1),I 1,S D6,ff]]) .slnil Y s (XX sp nm l q f)/\Dx h (λ_=>False) j (BD b s)/\(f=z8->j=put Wj b 8 (I (-1)))/\(f=η->j=Wj):=by
  cases f with
  |true=>exact⟨_,by unfold XX;rw[Ae rfl];exact U.put (k:=8) rfl rfl U.o U.t,((P.trans x9).trans ql).trans Be,λ_=>rfl,λh=>absurd h AR⟩
  |false=>exact⟨Wj,U,(P.trans x9).trans ql,λh=>absurd h AR,λ_=>rfl⟩
 let⟨j,w',x',X,W⟩:=HT;refine⟨h1,h2,j,a,b,_,Y,s,r1,r2,?_,w',x'⟩;rw[Ac,aJG];by_cases c:sp=1
 .by_cases e:nm=AE
  .have cy:=k1 ⟨c,e⟩;cases f with
   |true=>rw[X rfl];simp only[abS,Nat.reduceLeDiff,↓reduceIte,AP,Kf,J,H,C,g,A,z,E,d,Aw c,Aw e,em,cy,r,B]
   |false=>rw[W rfl];simp only[abS,Nat.reduceLeDiff,↓reduceIte,AP,Kf,J,H,C,g,A,z,E,d,Aw c,Aw e,em,cy,r]
  .have ĭ:=k2 λh=>e h.2;subst ĭ;cases f with
   |true=>rw[X rfl];simp only[abS,Nat.reduceLeDiff,↓reduceIte,AP,Kf,J,H,C,g,A,z,E,d,Aw c,e,r,B]
   |false=>rw[W rfl];simp only[abS,Nat.reduceLeDiff,↓reduceIte,AP,Kf,J,H,C,g,A,z,E,d,Aw c,e,r]
 .have ĭ:=k2 λh=>c h.1;subst ĭ;cases f with
  |true=>rw[X rfl];simp only[abS,Nat.reduceLeDiff,↓reduceIte,AP,Kf,J,H,C,g,A,z,E,d,c,r,B]
  |false=>rw[W rfl];simp only[abS,Nat.reduceLeDiff,↓reduceIte,AP,Kf,J,H,C,g,A,z,E,d,c,r]
def aVS(h:Ak)(s:FX)(p:AK s.Al av)(r:Eg s.Al)(q:zz s.name<=1000):∃i j a o c t G,BF cx 19 [zo (P7 s av)] h (Pt j 0) i/\RX i j a o c t G s.b/\Ca s.b.AX c/\Dx h (λ_=>False) i (BD j G):=by
 let n:(KE s.Bk s.name s.Al s.Cm).AX=[]:=by rw[KE];simp only;rw[y3];rw[Ae KP];rfl
 cases k:s.NR with
 |true=>
  let⟨v,u,i,a,j,o,t,G,f,l,d,w,x⟩:=aVR h s.Bk s.name p r q s.Cm s.Fx s.Cm;refine⟨i,j,a,o,.slnil,t,G,?_,by rw[FX.b];rwa[Ae k],?_,x⟩;.rw[Ac,aAE,P7,k];simp[f,l,d]
  .let e:s.b.AX=[]:=by unfold FX.b XX NI;rw[Ae k];split<;>split<;>exact n
   exact e▸⟨[],rfl,ys ⟨rfl,rfl⟩⟩
 |false=>
  let⟨v,u,i,a,j,G,f,l,d,w,x⟩:=aQA h s.Cm;let e:s.b=DX s.Cm:=by rw[FX.b];rw[Aa (by rw[k];decide)]
  exact⟨i,j,a,.slnil,.slnil,.slnil,G,by simp[aAE,P7,k,f,l,d],e▸w,e▸⟨[],rfl,ys ⟨rfl,rfl⟩⟩,x⟩
end
section
variable{h Q:Ak}{P a lo:Nat}{o c t:Ad}{G G' F:Nat->Prop}{b:BS}{x:Int}{m:Nat}
def aVT(w:RX h P a o c t G b)(hc:Ca b.AX c)(X:BW b m):∃E R T u,BF cx 45 [Pt P 0] h (zo (YK b.aW E R T)) (h++u)/\Wv (h++u) (zz h) b.aW E R T:=by
 have cR:=hK;have ho:=X.AJ;have Rn:=X.AX;have L:=X.tm;let⟨E,e0,GF⟩:=y6 (b:=8) w.t Ab;let⟨f,Gj,Z⟩:=hc;have Iq:zz b.AX=zz f:=by rw[<-Gj,Ao]
 have Jy:Ev cx 45 [Pt P 0] h λr Q=>∃E R T u,r= zo (YK b.aW E R T)/\Q=h++u/\Wv (h++u) (zz h) b.aW E R T:=by
  unfold Ev;rw[aJD];simp only[abS,Nat.reduceLeDiff,↓reduceIte,AP,w.ld,J4,e0,AY.cells GF];refine DD (i:=0) (λz:Ad×Nat=>[zo [I b.mode,I b.Kt,E,z.1,.slnil,I b.head,I b.Fx,.bool b.fs,.bool b.FW,z4 b.af,.bool b.skip,I b.sw,.bool b.stop],I (z.2:Int)]) (λz F=>z.2<=zz b.AJ/\∃u,F=h++u/\O8 (h++u) (zz h) z.1 ((b.AJ.take z.2).map Item.node)) (λz=>zz b.AJ-z.2) (λz F=>∃u,F=h++u/\O8 (h++u) (zz h) z.1 (b.AJ.map Item.node)) (.slnil,0) rfl ⟨AZ _,[],AF,yg ⟨rfl,AF⟩⟩ ?_ ?_
  .rintro⟨V,n⟩ F ⟨hn,u,rfl,d⟩;simp only at hn d;have aO:A8 (h++u) none (Pt P 2)=some o:=(w.If (u:=u)).ld 2;have y:=d.cells;rcases AQ n b.AJ.length with p|EC
   .have B:=AY.BL (k:= .i64) w.o p;rw[z1] at B;let⟨D,H,U,e⟩:=aHI d (by rw[Ao,Az];omega) b.AJ[n].node;have em:AB (.Df 1) [I b.AJ[n].node]=zs (.sl 1 [[I b.AJ[n].node]]):=rfl;simp only[abS,↓reduceIte,aO,AY.CQ w.o,(Ab:(n:Int)<(b.AJ.length:Int)),B,em,U,e.cells,BB n];exact .next (H,n+1) rfl ⟨p,D,rfl,by rw[AG p,BJ];exact e⟩ DO
   .rw[AL EC] at d;simp only[abS,↓reduceIte,aO,AY.CQ w.o,(Ab:¬(n:Int)<(b.AJ.length:Int))];exact .HT (V,n) rfl ⟨u,rfl,d⟩
  .rintro⟨O,N⟩ F ⟨u,rfl,C⟩;simp only at C;have M:=C.cells;simp only[By,↓reduceIte];have J:=w.If (u:=u);have s:h.length<=(h++u).length:=AF;obtain⟨l,j⟩:∃l,l=h++u:=⟨_,rfl⟩;rw[<-j] at C J s⊢;refine DD (i:=2) (λz:Ad×Nat=>[zo [I b.mode,I b.Kt,E,O,z.1,I b.head,I b.Fx,.bool b.fs,.bool b.FW,z4 b.af,.bool b.skip,I b.sw,.bool b.stop],I (z.2:Int)]) (λz F=>z.2<=zz f/\∃g,F=l++g/\Ot (l++g) (zz l) z.1 ((b.AX.take z.2))) (λz=>zz f-z.2) (λz F=>∃g,F=l++g/\Ot (l++g) (zz l) z.1 b.AX) (.slnil,0) rfl ⟨AZ _,[],AF,.inl ⟨rfl,AF⟩⟩ ?_ ?_
   .rintro⟨V,n⟩ F ⟨hn,g,rfl,d⟩;simp only at hn d;have q:=(J.If (u:=g)).l3;have y:=d.cells;rcases AQ n f.length with p|EC
    .have B:=AY.BL (k:= .i64) Z p;rw[CC.row] at B;have A:f[n].c=b.AX[n]:=by simp only[<-Gj,C4]
     have Zu:=(X.DU f[n].c (by rw[A];exact AV _)).2.1;let⟨av,ea,bM⟩:=AY.Gf (b:=40) f[n].ok Ab;have K:f[n].v.cells=[f[n].v]:=AY.cells f[n].ok;let⟨D,H,U,e⟩:=aPf d (by rw[Az];omega) ⟨f[n].c,av,bM⟩;rw[CC.row] at U;simp only at U e;simp only[abS,Nat.reduceLeDiff,↓reduceIte,AP,q,AY.CQ Z,(Ab:(n:Int)<(f.length:Int)),B,ea,AY.cells bM,(N1 rfl:AB (.Df 3) [.agg [I f[n].c.node,.str f[n].c.name,av]]=some (.sl 3 [[I f[n].c.node,.str f[n].c.name,av]]))];simp only[By,↓reduceIte,U,e.cells,BB n];exact .next (H,n+1) rfl ⟨p,D,rfl,by rw[AG Ab,<-A];exact e⟩ DO
    .rw[AL Ab] at d;simp only[abS,Nat.reduceLeDiff,↓reduceIte,AP,q,AY.CQ Z,(Ab:¬(n:Int)<(f.length:Int)),aaS];exact .HT (V,n) rfl ⟨g,rfl,d⟩
   .rintro⟨V,n⟩ F ⟨g,rfl,d⟩;simp only at d;have y:=d.cells;simp only[By,↓reduceIte];refine⟨_,rfl,E,O,V,u++g,rfl,by rw[j,AO],.inl GF,?_,?_⟩;.rw[<-AO,<-j];exact C.Dt λi _ hi=>An hi
    .rw[<-AO,<-j];exact d.low s
 obtain⟨r,Q,hr,E,R,T,u,rfl,rfl,hs⟩:=Jy.ret;exact⟨E,R,T,u,hr,hs⟩
end
section
variable{h t:Ak}{a n i:Nat}{u:List RN}{A:Ar}{x:Int}
def aVU(w:RA h a n i u A)(hb:zz A.n<=900000000):BF cx 141 [Pt a 0] h (I A.len) h:=by
 let hl:=w.len;let e:(zz u+1:Nat)-1=A.len:=by rw[Ar.len];omega
 let d:=VO (a:=(zz u+1:Nat)) (b:=1) Ab Ab;rw[e] at d;simp only[Ac,aEd,By,T6,w.nodes,show AB (wb η) [.CK n 0 (zz u+1) 13]=zs (I (zz u+1:Nat)) from rfl,d]
def aQC(p:RN)(h1:zz p.x.Bj<=1000000000)(h2:zz p.x.Al<=1000000000)(h:Ak):∃r,BF cx 291 [zo p.row] h (zo r) h/\∀t,NRd t p.x r:=by let cR:=hK;let⟨K,j,d⟩:=y6 (b:=8) p.okk Ab;let⟨V,g,c⟩:=y6 (b:=40) p.oka Ab;let f:=AY.cells d;let e:=AY.cells c;exact⟨_,by simp[aEW,RN.row,j,f,g,e],λt=>⟨K,V,rfl,Em.UP d,fH c,f,e⟩⟩
def aVV(w:RA h a n i u A)(M:∀x,(A.nd x).Bj.length<=1000000000)(N:∀x,(A.nd x).Al.length<=1000000000)(hb:zz A.n<=900000000):∃v,BF cx 144 [Pt a 0] h v h/\∀t,fY t v A.n:=by
 let cR:=hK;let nM:=w.len;let R:Ev cx 144 [Pt a 0] h λr t=>t=h/\∀t,fY t r A.n:=by
  rw[Ev];rw[aEg];refine Bm (λz:Ad×Nat=>[z.1,I (z.2+1:Nat)]) (λz B=>z.2<=zz u/\B=h/\∃AH:List (List Ad),AY 13 AH z.1/\zz AH=z.2/\∀t k (B:k<zz AH) (H:k<zz A.n),NRd t A.n[k] AH[k]) (λz=>zz u-z.2) (.slnil,0) rfl ⟨AZ _,rfl,[],.nil,rfl,λt k B=>by simp at B⟩ ?_;rintro⟨V,k⟩ B ⟨L,rfl,AH,d,e,f⟩;simp only at L d e;let g:AB (wb η) [.CK n 0 (zz u+1) 13]=zs (I (u.length+1:Nat)):=rfl;obtain F|EC:=AQ k (zz u)
  .let⟨E,O⟩:=qp (A:=A) (k:=k) Ab;let c:=(w.pn E).2;let J:=w.aHP E;let Q:=w.addr E;let⟨r,l,C⟩:=aQC (pR u (k+1)) (c▸M _) (c▸N _) B;rw[c,O] at C;let P:AB (.Df 13) [zo r]=zs (.sl 13 [r]):=by let⟨K,W,o,_⟩:=C [];exact Oh (by rw[o];rfl) AR
   let s:=AY.zD (b:=168) (row:=r) d Ab;let p:=Ab;let D:AB (.int .add) [I (k+1),I 1]=zs (I (k+1+1)):=QK Ab Ab;simp[w.nodes,g,p,(Ab:k+1<(u.length:Int)+1),Int.natCast_add,Int.natCast_one,Q,J,l,P,s,D];refine yu (_,k+1) rfl ⟨F,rfl,AH++[r],.mk,by simp[e],λt j B H=>?_⟩ DO;by_cases G:j<zz AH;.rw[JB G];exact f t j G H
   .have q:j=k:=by simp at B;omega
    subst q;rw[aCV Ab];simp only[e,Dy,aLA];exact C t
  .simp only[abS,w.nodes,g,(Ab:¬(k+1:Nat)<((u.length+1:Nat):Int))];exact⟨_,rfl,λt=>⟨AH,d,Ab,λj a b=>f t j a b⟩⟩
 obtain⟨r,t,C,rfl,m⟩:=R.ret;exact⟨r,C,m⟩
end
def RB(h:Ak)(d:Nat)(b:BS)(F:Nat->Prop):Prop:=∃a o c t G,RX h d a o c t G b/\Ca b.AX c/\F=BD d G
structure U7(h:Ak)(bi wi)(b:BS)(F F2:Nat->Prop):Prop where
 p:PB h bi b F
 r:RB h wi b F2
 d:∀i,F i->¬F2 i
structure RG(b:BS)j:Prop where
 ok:E4 b
 sz:Sz b j
 nm:Nm b.a
section
variable{h h':Ak}{v y:Nat}{b:BS}{F A:Nat->Prop}{q:cr}{z:Ad}{j:Nat}
def RB.lt(w:RB h v b F){i:Nat}(d:F i):i<zz h:=by
 obtain⟨a,o,c,t,G,w,_,rfl⟩:=w;obtain rfl|d:=d
 .exact w.lt
 .exact w.w.lt d
def RB.Dt(w:RB h v b F)(d:∀i,F i->h'[i]?=h[i]?):RB h' v b F:=by obtain⟨a,o,c,t,G,w,e,rfl⟩:=w;exact⟨a,o,c,t,G,w.Dt d,e,rfl⟩
def RB.If(w:RB h v b F){u:Ak}:RB (h++u) v b F:=w.Dt λi a=>An (w.lt a)
def U7.If(w:U7 h v y b F A){u:Ak}:U7 (h++u) v y b F A:=⟨w.p.If,w.r.If,w.d⟩
def RG.le{k:Nat}(f:RG b j)(hk:k<=j):RG b k:=⟨f.ok,⟨f.sz.rm.le Ab,by have:=f.sz.AJ;omega,by have:=f.sz.AX;omega⟩,f.nm⟩
def RG.HT(f:RG b j):Fin b j:=⟨f.ok,f.sz⟩
def RG.do(f:RG b (j+1))(a:Ī q):RG (fU b q).1 j:=⟨aKG f.ok,aKH f.sz a,aKN f.nm f.sz a⟩
def FX.ď(s:FX):RG s.b 100:=⟨s.ok.1,s.ok.2,aBC s⟩
def U7.prog{m:BS}{c:Nat->Prop}(w:U7 h v y b F A)(p:PB h' v m c)(x:Dx h F h' c):RB h' y b A/\∀i,c i->¬A i:=
 ⟨w.r.Dt λi e=>x.old i (w.r.lt e) λk=>w.d i k e,λi l f=>by
  obtain a|a:=x.BD i l
  .exact w.d i a f
  .have:=w.r.lt f;omega⟩
def aVX(w:RB h v b F)(f:RG b (j+1))(p:Ī q)(n:AK q.Al z):∃d e,BF cx 21 [Pt v 0,zo (NB q z)] h (zo (fU b q).2.row) d/\RB d v (fU b q).1 e/\Dx h F d e:=by obtain⟨a,o,c,t,G,w,s,rfl⟩:=w;let⟨d,m,u,l,A,r,k,y,x⟩:=aVP w s f.ok f.sz f.nm p n;exact⟨d,_,r,⟨a,m,u,l,A,k,y,rfl⟩,x⟩
def aGl(w:U7 h v y b F A)(f:RG b (j+1))(C:Ī q)(B:AK q.Al z):∃t s x a,BF cx 20 [Pt v 0,zo (NB q z)] h (zo (fU b q).2.row) t/\BF cx 21 [Pt y 0,zo (NB q z)] t (zo (fU b q).2.row) s/\U7 s v y (fU b q).1 x a:=by
 let⟨t,x,n,r,k⟩:=aUS w.p f.HT C B;let⟨m,g⟩:=w.prog r k;let⟨s,a,E,l,c⟩:=aVX m f C B;refine⟨t,s,x,a,n,E,r.Dt λi D=>c.old i (r.lt D) (g i D),l,λi e o=>?_⟩;obtain d|d:=c.BD i o
 .exact g i e d
 .have:=r.lt e;omega
section
variable(s:FX)(hv:AK s.Al z)(hl:Eg s.Al)(hn:s.name.length<=1000)(h:Ak)
def aVY:∃d v F,BF cx 19 [zo (P7 s z)] h (Pt v 0) d/\RB d v s.b F/\Dx h (λ_=>False) d F:=let⟨d,v,a,o,c,t,G,r,w,e,x⟩:=aVS h s hv hl hn;⟨d,v,_,r,⟨a,o,c,t,G,w,e,rfl⟩,x⟩
end
def sr(s:FX)(n:AK s.Al z)(o:Eg s.Al)(q:zz s.name<=1000)(h:Ak):∃j l v y F A,BF cx 18 [zo (P7 s z)] h (Pt v 0) j/\BF cx 19 [zo (P7 s z)] j (Pt y 0) l/\U7 l v y s.b F A:=by
 let⟨j,v,F,e,m,k⟩:=aUT s n o h;let⟨l,y,A,p,d,a⟩:=aVY s n o q j;refine⟨j,l,v,y,F,A,e,p,m.Dt λi r=>a.old i (m.lt r) (λh=>h),d,λi g f=>?_⟩;obtain c|c:=a.BD i f
 .exact c
 .have:=m.lt g;omega
end
def X2:∀{l:List QO} {b:BS} {j:Nat},RG b (j+zz l)->(∀x∈l,Ī x.q)->RG (P8 b l) j
 |[],_,_,f,_=>f
 |x::l,b,j,f,a=>by rw[P8];exact X2 (RG.do (f.le (by rw[Bg];omega)) (a x AF)) λy c=>a y (by simp[c])
def aVZ(i:Item):AB (.geq z8 [.i,.i,.s,.b]) [zo i.row,zo i.row]=zs (.bool η):=by rw[UD];simp[z1,EI,Ns]
section
variable{h h':Ak}{bi wi:Nat}{b:BS}{F F2:Nat->Prop}{q:cr}{av:Ad}{j:Nat}
def f7w(s:FX)(U:AK s.Al av)(X:Eg s.Al)(V:zz s.name<=1000){l:List QO}{v:Ad}(K:cz l v)(hb:zz l<=60)(J:∀x∈l,Ī x.q)(h:Ak):
  ∃E B A F C,BF cx 7 [zo (P7 s av),v] h (ζ [Pt B 0,Pt A 0,tt]) E/\U7 E B A (P8 s.b l) F C:=by
 let⟨L,h2,B,A,F,C,f,H,Q⟩:=sr s U X V h;let Y:Ev cx 7 [zo (P7 s av),v] h λr E=>r= ζ [Pt B 0,Pt A 0,tt]/\∃F C,U7 E B A (P8 s.b l) F C:=by
  rw[Ev];let g:=AY.CQ K;rw[aNx];rw[P7] at f H⊢;simp only[abS,f,H];refine Bm (λn:Nat=>[zm yx,zm yx,ff,I n]) (λn L=>n<=zz l/\∃F C,U7 L B A (P8 s.b (l.take n)) F C) (λn=>zz l-n) 0 rfl ⟨AZ _,F,C,Q⟩ ?_;rintro n z ⟨OT,u,t,a⟩;obtain j|EC:=AQ n (zz l)
  .let m:=AY.BL (k:= z0) K j;let N:RG (P8 s.b (l.take n)) (39+1):=(X2 (s.ď.le (by rw[Az];omega)) λx T=>J x (BQ T));let⟨y,w,p,o,e,d,i⟩:=aGl a N (J _ (AV j)) l[n].ok;let G:NB l[n].q l[n].v=l[n].row:=rfl;rw[G] at e d;simp only[abS,g,(Ab:n<(zz l:Int)),m,QO.C5,QO.Jh,Af,e,BK,d,aVZ,BB n];exact yu (n+1) rfl ⟨j,p,o,AG j▸gA▸i⟩ Ab
  .rw[AL EC] at a;simp only[abS,g,(Ab:¬n<(zz l:Int))];exact⟨_,rfl,rfl,u,t,a⟩
 obtain⟨r,E,G,rfl,Z,c,R⟩:=Y.ret;exact⟨E,B,A,Z,c,G,R⟩
def f8g{m:Nat}(w:U7 h bi wi b F F2)(q:BW b m)(ok:Fj b.a 0):∃u,BF cx 10 [Pt bi 0,Pt wi 0] h tt (h++u):=by
 let⟨a,o,c,t,G,wp,hc,e1⟩:=w.p;let⟨S,U,c1,f,N,E⟩:=aUM wp hc q;let w1:=w.If (u:=f);let⟨a',o',c',t',G',Q,JU,Z⟩:=w1.r;let⟨t2,T,c2,d,r2,D⟩:=aVT Q JU q;let Y:=q.tm;let X:=q.AJ;let W:=q.AX;let V:=q.n;let M:=f22 (E.Dt λi _ hi=>An hi) D (Ab:zz b.tm<=1000000000) (show(b.AJ.map Item.node).length<=1000000000 by rw[Ao];omega) (Ab:zz b.AX<=1000000000) (λe he=>by have:=(q.DU e he).2.1;omega);let v:=(wp.If (u:=f)).If (u:=d);let s:=Q.If (u:=d);let l0:=v.l0;let A:=s.l0;let B:∀x,(b.a.nd x).Bj.length<=1000000000:=λx=>q.V6.Bj ok x;let ab:∀x,(b.a.nd x).Al.length<=1000000000:=λx=>by have:=q.at_ x;omega
 let⟨n,m',ps,C⟩:=v.w.pa;let⟨n',i',JM,g,_⟩:=s.w;let⟨R,l,K,P⟩:=aUR C q.V6 B Ab;let L:=aTU C;let z:=aVU g Ab;let y:RA (h++f++d++l) a' n' i' JM b.a:=g.Dt λj hj=>An (g.lt hj);let⟨v2,J,O⟩:=aVV y B ab Ab;let I:=f90 P.rd (O (h++f++d++l)) Ab (λx hx=>by obtain⟨k,hk,rfl⟩:=List.getElem_of_mem hx;have:=(qp hk).2;exact this▸⟨ab _,B _⟩)
 let H:BF cx 46 [Pt a 0,Pt a' 0] (h++f++d) tt (h++f++d++l):=by simp only[Ac,aJE,By,L,z,CH,D3,K,J,I]
 exact⟨f++d++l,by simp only[Ac,aJx,show h++(f++d++l)=h++f++d++l by simp[AO],abS,N,r2,M,l0,A,H]⟩
end
end Go.Am
end
open Go.Am.BS renaming WL→wt
namespace Go.Am
open Go
set_option maxRecDepth 100000
noncomputable def BS.su(b:BS)(r:Int)(t:DE):BS×Bool:=if r=0 then b.apply Q9 t else b.WL r t
section
variable{h h':Ak}{c:Nat}{F:Nat->Prop}{b:BS}{v d:Ad}{j n o a:Nat}{t:DE}{r:Int}{x:Item}
def Gz.su(g:Gz b (n+8*(4*(o+a+8)+10)+8*a+2000) o a)(c:t.Sm):Gz (b.su r t).1 n (o+2*a+17) (a+9):=by
 let d:∀{m},m<=n+8*(4*(o+a+8)+10)+8*a+2000->Gz b m o a:=λh=>g.le h (Af _) (Af _);let e:Gz b n (o+2*a+17) (a+9):=g.le Ab Ab Ab;unfold BS.su wt;exact .ite (g.aLi c) (.ite (((d Ab).JG c).le (Af _) Ab Ab)
  (.ite (((d Ab).FG c).le (Af _) Ab Ab)
  (.ite (((d Ab).FH c).le (Af _) Ab Ab)
  (.ite (((d Ab).CM c).le (Af _) Ab Ab)
  (.ite (((d Ab).FI c).le (Af _) Ab Ab)
  (.ite (((d Ab).gW c).le (Af _) Ab Ab)
  (.ite (g.L5 c)
   (.ite (((d Ab).L4).le (Af _) Ab Ab)
   (.ite (((d Ab).EP c).le (Af _) Ab Ab) e)))))))))
structure Wz(b:BS)j:Prop where
 le:j<=40
 g:Gz b (4000000*j) (53000+1737*(40 -j)) (500+9*(40 -j))
def Wz.XW(w:Wz b (j+1)):Gz b (4000000*j+8*(4*((53000+1737*(39 -j))+(500+9*(39 -j))+8)+10)+8*(500+9*(39 -j))+2000) (53000+1737*(39 -j)) (500+9*(39 -j)):=have:=w.le;w.g.le Ab Ab Ab
def Wz.su(w:Wz b (j+1))(a:t.Sm):Wz (b.su r t).1 j:=have:=w.le;⟨Ab,(w.XW.su a).le (Af _) Ab Ab⟩
def RG.wz(e:RG b (59+1)):Wz b 40:=have f:=e.HT;let h1:=f.sz.AJ;let h2:=f.sz.AX;⟨Af _,(f.gz e.nm).le Ab Ab Ab⟩
def aGm(w:PB h c b F)(g:Gz b (n+8*(4*(o+a+8)+10)+8*a+2000) o a)(i:t.Sm)(j:zz t.Ho<=AN)(f:AK t.Al d)(k:zz t.Al<=1000000):
  GB h F 8 [zm (zs (c,0)),zo (.int z0 r::Bc t d)] (.bool (b.su r t).2) c (b.su r t).1:=by
 rw[BS.su];by_cases e:r=0;.subst e;exact Ae rfl▸aQe w g i j f k
 .rw[Aa e];exact aQd w g i j f k e
end
abbrev e_:Ty:= .st [.int z0,aQb]
def hC(p:Int×DE×Ad):List Ad:= .int z0 p.1::Bc p.2.1 p.2.2
def sx{v:Ad}(h:j_ (.sl e_) v):∃l:List (Int×DE×Ad),AY 13 (l.map hC) v/\zz l<=maxLen/\∀p∈l,aGe p.2:=by let h:=h;exact gB (λr h=>by obtain⟨i,g,rfl,f,h⟩:=CT h;obtain⟨c,e,rfl,b,h⟩:=CT h;obtain rfl:=P9 h;obtain⟨d,rfl,_⟩:=M1 f;obtain⟨p,rfl,a⟩:=aGf c b;exact⟨(d,p),by simp[hC],a⟩) h
end Go.Am
open Go.Am.BS renaming HX→ww
section
namespace Go.Am
open Go
def Dn(h:Ak)(F:Nat->Prop)(f:FuncId)(a:List Ad)(r:Ad)(d:Nat)(e:BS):Prop:=∃b c,BF cx f a h r b/\RB b d e c/\Dx h F b c
def Đ(h:Ak)(F:Nat->Prop)(a k:Nat)(v:Ad)(c:BS):Prop:=Cv h 1 (zm (zs (a,k))) v=zs (put h a k v)/\RB (put h a k v) a c F/\Dx h F (put h a k v) F
section
variable{h z:Ak}{y:Nat}{b b':BS}{F:Nat->Prop}{n o a:Nat}{t:DE}{av:Ad}
def GC(w:RB h y b F)(g:Gz b (n+4) o a)(f:t.Sm)(k:AK t.Al av):Dn h F 78 [zm (zs (y,0)),zo (Bc t av)] (.int z0 (b.a.len+1)) y (b.C3 t):=by obtain⟨d,e,c,tt,G,w,hc,rfl⟩:=w;let⟨z,j,l,r,i,x⟩:=Ĉ w g.ok g.rm g.nm IU k f.Al f.name;exact⟨z,_,r,⟨d,j,c,tt,l,i,by rw[BS.C3];rwa[D9],rfl⟩,x⟩
def wG(w:RB h y b F)(g:Gz b (n+5) o a)r:Dn h F 81 [zm (zs (y,0)),.int .i32 r] (.tuple []) y (b.Nf r):=by obtain⟨e,d,c,tt,G,w,i,rfl⟩:=w;let⟨z,j,r,f,x⟩:=aQm w g.ok g.rm g.nm r;exact⟨z,_,r,⟨e,d,c,tt,j,f,i,rfl⟩,x⟩
def N5(w:RB h y b F)(g:Gz b (n+1) o a){s:Aj}(i:zz s<=100000)x:Dn h F 82 [zm (zs (y,0)),z4 s,.int z0 x] (.tuple []) y (b.DL s x):=by obtain⟨e,d,c,tt,G,w,j,rfl⟩:=w;let⟨z,k,r,f,x⟩:=aQn w g.ok g.rm g.nm s i x;exact⟨z,_,r,⟨e,d,c,tt,k,f,j,rfl⟩,x⟩
def Qi(w:RB h y b F)(g:Gz b n o a):Dn h F 128 [zm (zs (y,0))] (.tuple []) y b.Gk:=by
 obtain⟨l,d,c,tt,G,w,x,rfl⟩:=w;let ho:=g.rm.AJ;let v:A8 h yx (zm (zs (y,2)))=zs d:=w.ld 2;let⟨u,i,j,s⟩:=aFu (h:=h) w.o Ab;let e:b.Gk={b with AJ:=Lc b.AJ (zz b.AJ-1)}:=by
  unfold y7 Lc;split
  .let p:max 1 ((zz b.AJ:Int)-1).toNat=1:=by omega
   rw[p,AL Ab]
  .let p:max 1 ((zz b.AJ:Int)-1).toNat=zz b.AJ-1:=by omega
   rw[p]
 let r:=w.If (u:=i);let f:=r.IB s;exact⟨_,_,by simp[xm,v,j,r.st (k:=2) rfl (AY.cells s)],⟨l,u,c,tt,G,e▸f,e▸x,rfl⟩,w.De.trans Be⟩
def EW(w:RB h y b F)v:Đ h F y 4 (.int z0 v) {b with mode:=v}:=by obtain⟨e,d,c,tt,G,w,a,rfl⟩:=w;exact⟨w.st rfl rfl,⟨e,d,c,tt,G,w.put rfl rfl w.o w.t,a,rfl⟩,Be⟩
def RB.Cg(w:RB h y b F):A8 h yx (zm (zs (y,1)))=zs (.int z0 b.Cd)/\A8 h yx (zm (zs (y,4)))=zs (.int z0 b.mode)/\A8 h yx (zm (zs (y,5)))=zs (.int z0 b.Kt)/\A8 h yx (zm (zs (y,7)))=zs (.int z0 b.head):=by obtain⟨e,d,c,tt,G,w,hc,rfl⟩:=w;exact⟨w.ld 1,w.ld 4,w.ld 5,w.ld 7⟩
def aV1(w:RB h y b F)(g:Gz b (n+5) o a)(ht:t.Sm)(hv:AK t.Al av):Dn h F 41 [zm (zs (y,0)),zo (Bc t av)] (.bool (b.L4 t).2) y (b.L4 t).1:=by
 rw[BS.L4];by_cases c:t.k=5
 .let j:¬¬t.ok:=by rw[y9];omega
  rw[Aa j,Ae c];let⟨z,u,f,v,d⟩:=wG w (g.dn (n':=n+5) Ab) t.r;exact⟨_,_,by simp[pF,Bc,c,f,(Ab:¬5=6)];try rfl,v,d⟩
 by_cases i:t.k=6
 .let j:¬¬t.ok:=by rw[y9];omega
  rw[Aa j,Aa c,Ae i];let⟨z,u,f,v,d⟩:=Qi w g;let s:b.Gk.Kt=b.Kt:=by rw[y7];split<;>rfl
  let x:=v.Cg;rw[s] at x;let⟨q,p,m⟩:=EW v b.Kt;exact⟨_,_,by simp[pF,Bc,i,f,x.2.2.1,q,(Ab:¬6=5)];try rfl,p,d.trans m⟩
 by_cases l:t.k=3
 .let j:¬¬t.ok:=by rw[y9];omega
  rw[Aa j,Aa c,Aa i,Ae l];let⟨z,u,f,v,d⟩:=Qi w g;let s:b.Gk.Kt=b.Kt:=by rw[y7];split<;>rfl
  let x:=v.Cg;rw[s] at x;let⟨q,p,m⟩:=EW v b.Kt;exact⟨_,_,by simp[pF,Bc,l,f,x.2.2.1,q,(Ab:¬3=5),(Ab:¬3=6)];try rfl,p,d.trans m⟩
 let e:(if¬t.ok then(b,false) else if t.k=5 then(b.Nf t.r,false) else if t.k=6 then b.Gk.again b.Kt else if t.k=3 then({b.Gk with mode:=b.Kt},false) else(b,false))=(b,false):=by
  by_cases A:¬t.ok;.rw[Ae A]
  .rw[Aa A,Aa c,Aa i,Aa l]
 rw[e];exact⟨_,_,by simp[pF,Bc,l,c,i];try rfl,w,.refl⟩
end
section
variable{t:DE}{av:Ad}{h:Ak}
def aQD r:JY cx 270 [.int .u8 r] (.bool (decide (gD r))):=by
 rw[Mh,aEF];by_cases b:r=9;.subst b;simp[gD]
 by_cases a:r=10;.subst a;simp[gD]
 by_cases e:r=12;.subst e;simp[gD]
 by_cases d:r=13;.subst d;simp[gD]
 by_cases c:r=32;.subst c;simp[gD]
 have:¬gD r:=by rw[gD];omega
 simp[b,a,e,d,c,this]
def đ(t:DE)(i:Ad)(h:Ak):BF cx 119 [zo (Bc t i)] h (.bool (decide t.DQ)) h:=by
 rw[Ac,aD3];by_cases d:t.k=5
 .by_cases a:0<=t.r
  .by_cases f:t.r<128
   .let e:IntKind.u8.wrap t.r=t.r:=by rw[IntKind.wrap_u8];omega
    let c:decide t.DQ=decide (gD t.r):=DG.2 (by rw[wl];exact⟨λh=>h.2,λh=>⟨d,h⟩⟩);simp[Bc,Aw d,a,f,Tk,e,(aQD t.r).BG rfl rfl,c]
   .let c:decide t.DQ=false:=Ag λh=>by unfold wl gD at h;let h2:=h.2;omega
    simp[Bc,Aw d,a,f,c]
  .let c:decide t.DQ=false:=Ag λh=>by unfold wl gD at h;omega
   simp[Bc,Aw d,a,c]
 .let c:decide t.DQ=false:=Ag λh=>d h.1;simp[Bc,d,c]
def aCg(t:DE)(c:Ad)(h:Ak):BF cx 118 [zo (Bc t c)] h (.bool (decide ¬t.ok)) h:=by
 rw[Ac,aD2];by_cases a:t.k<1;.let e:decide (¬t.ok)=z8:=Ah (by rw[y9];omega);simp[Bc,a,e,D3]
 .by_cases b:6<t.k;.let e:decide (¬t.ok)=z8:=Ah (by rw[y9];omega);simp[Bc,a,b,e,D3,Ec]
  .let e:decide (¬t.ok)=false:=Ag λh=>h (by rw[y9];omega);simp[Bc,a,b,e,Ec]
structure Wd(l:Aj)(ws:List Aj):Prop where
 len:zz l<9223372036854775806
 w:∀s,Hj l s=decide (s∈ws)
section
variable{l:Aj}{a:List Aj}
def GG(d:(decide (zz l<9223372036854775806))=z8)(c:DS [] l=a)(b:a.all (λw=> !w.isEmpty&& !w.contains 32)=z8):Wd l a:=⟨D4 d,λs=>EJ c b⟩
def Ē(w:Wd l a)(ht:zz t.name<=1000)(b:Ad)(h:Ak):BF cx 124 [zo (Bc t b),z4 l] h (.bool (decide (t.st a))) h:=by
 rw[Ac,qC];by_cases c:t.k=2
 .let e:decide (t.st a)=decide (t.name∈a):=by unfold DE.st;simp[c]
  simp[Bc,Aw c,Gx w.len (Ab:zz t.name<9223372036854775807),w.w,e]
 .let e:decide (t.st a)=false:=by unfold DE.st;simp[c]
  simp[Bc,c,e]
def Qj(w:Wd l a)(ht:zz t.name<=1000)(b:Ad)(h:Ak):BF cx 125 [zo (Bc t b),z4 l] h (.bool (decide (t.en a))) h:=by
 rw[Ac,xk];by_cases c:t.k=3
 .let e:decide (t.en a)=decide (t.name∈a):=by unfold DE.en;simp[c]
  simp[Bc,Aw c,Gx w.len (Ab:zz t.name<9223372036854775807),w.w,e]
 .let e:decide (t.en a)=false:=by unfold DE.en;simp[c]
  simp[Bc,c,e]
end
def aCh(nm:Aj)(h:Ak):BF cx 126 [z4 nm] h (zo (Bc (Lj nm) .slnil)) h:=by simp[aD6,AP,Bc,Lj];try rfl
def aLm(a b:Aj)(e:zz a<=AN)(d:zz b<=AN):JY cx 273 [z4 a,z4 b] (.bool (IE a b)):=by simp[Mh,aEG,(az a e).BG rfl rfl,(az b d).BG rfl rfl,IE]
def aV2(a b:Aj):JY cx 372 [z4 a,z4 b] (.bool (decide (zz b<=zz a/\a.take (zz b)=b))):=by
 simp[Mh,aFe];refine⟨λh=>?_,λh=>?_⟩
 .let h:zz b<=zz a:=by omega
  simp[mQ h,h];try simp
 .let h:¬zz b<=zz a:=by omega
  simp[h]
def Uh(s:Aj):(Eb s).length=zz s:=by simp[Eb]
def fc(s:Aj)n:Eb (s.take n)=(Eb s).take n:=by simp[Eb,E1]
def aQE{v:Ad}{ws:List Aj}(j:HU ws v)(p:Aj)(m:zz p<=AN)(l:∀w∈ws,zz w<=AN)(hn:zz ws<9223372036854775807)(h:Ak):BF cx 274 [z4 p,v] h (.bool (ws.any (Gi p))) h:=by
 rw[Ac,aEH];let a:(ws.map BY).length=zz ws:=Ao ..;refine Bm (λn:Nat=>[.bool false,.int z0 n]) (λn k=>n<=zz ws/\ws.any (Gi p)=(ws.drop n).any (Gi p)/\k=h) (λn=>zz ws-n) 0 rfl ⟨AZ _,rfl,rfl⟩ ?_;rintro n k ⟨jR,i,rfl⟩;obtain b|o:=AQ n (zz ws)
 .let i1:n<((ws.map BY).length:Int):=by rw[a];omega
  let e:(ws.map BY)[n]'(a▸b)=BY ws[n]:=AF;let d:decide ((Eb ws[n]).length<=(Eb p).length/\(Eb p).take (Eb ws[n]).length=Eb ws[n])=Gi p ws[n]:=by rw[Uh,Uh,<-fc];rfl
  rw[AI b,Iy] at i;simp only[By,T6,AY.len j,i1,AY.EM j (show n<(ws.map BY).length by rwa[a]),e,BY,(az p m).BG rfl rfl,(az _ (l _ (AV b))).BG rfl rfl,(aV2 _ _).BG rfl rfl,d,BB n];rw[CW];refine⟨λc=>?_,λc=>?_⟩;.rw[i,c,KL]
  .rw[c,E0] at i;exact yu (n+1) rfl ⟨b,i,rfl⟩ Ab
 .let i1:¬n<((ws.map BY).length:Int):=by rw[a];omega
  rw[AU o,RK] at i;simp only[i,abS,AY.len j,i1]
def aV3(t:DE)(a:zz t.Ho<=AN)(h:Ak):BF cx 122 [zo (Bc t av)] h (.bool (Q9 t)) h:=by
 have e:=DK (args:=WK.map Ad.str) rfl AR;have d:=DK (args:=Qg.map Ad.str) rfl AR;generalize i:(Ad.sl 1 (WK.map BY))=p at e;generalize g:(Ad.sl 1 (Qg.map BY))=z2 at d;let o:∀w∈WK,zz w<=AN:=Bi;let r:∀w∈Qg,zz w<=AN:=Bi;have s:=aQE (v:=p) (i▸.mk) t.Ho a o AR h;have B:=aQE (v:=z2) (g▸.mk) t.Ho a r AR h;have m:∀{Q:HN} {h:Ak} {k:Ad->IT},W cx (.BG 273 [z4 t.Ho,z4 qE1] k) Q h↔W cx (k (.bool (IE t.Ho qE1))) Q h:=(aLm t.Ho qE1 a Bi).BG rfl rfl;have l:∀{Q:HN} {h:Ak} {k:Ad->IT},W cx (.BG 273 [z4 t.Ho,z4 qE2] k) Q h↔W cx (k (.bool (IE t.Ho qE2))) Q h:=(aLm t.Ho qE2 a Bi).BG rfl rfl;have j:∀{Q:HN} {h:Ak} {k:Ad->IT},W cx (.BG 273 [z4 t.Ho,z4 qE3] k) Q h↔W cx (k (.bool (IE t.Ho qE3))) Q h:=(aLm t.Ho qE3 a Bi).BG rfl rfl;have u:HY.any (IE t.Ho)=(IE t.Ho qE1||(IE t.Ho qE2||IE t.Ho qE3)):=by simp[HY]
 rw[Q9];rw[u];generalize IE t.Ho qE1=b1 at*;generalize IE t.Ho qE2=E at*;generalize IE t.Ho qE3=D at*;generalize WK.any (Gi t.Ho)=C at*;generalize Qg.any (Gi t.Ho)=b5 at*;simp[WK,Qg,qA,qB,qE1,qE2,qE3,Bn,C1] at e d m l j;try dsimp only at e d
 rw[Ac,aD4,Bc];by_cases c:t.k=1;rotate_left;.simp only[abS,c,BR]
 cases A:t.q with
 |true=>simp[c]
 |false=>
 cases z:t.hn
 .simp[c]
 by_cases f:t.name=a2y;rotate_left;.simp[c,f]
 cases y:t.hp
 .simp[c,f]
 cases x:t.hs<;>cases b1<;>(try(cases E))<;>(try(cases D))<;>(try(cases C))<;>simp[c,f,m,l,j,e,d,s,B]
end
section
variable{h U:Ak}{T:Nat}{b b':BS}{F:Nat->Prop}{n o a:Nat}{t:DE}{V:Ad}
def aQF{a n i:Nat}{e:List RN}{A:Ar}{x:Int}(w:RA h a n i e A)(b:A.has x/\(A.nd x).kind=1)(q:Bool):
  ∃U l,BF cx 123 [zm (zs (a,0)),.int z0 x,.bool q] h (I 0) U/\RA U a n i l (A.set x {A.nd x with Cm:=q})/\Dx h (Ky a n i) U (Ky a n i):=by
 let⟨j,d,f,c,_⟩:=w.wr b.1 (k:=10) AR (v:= .bool q) rfl (p:=⟨{A.nd x with Cm:=q},(pR e x).kv,(pR e x).av,w.OL b.1,w.ħ b.1⟩) (by simp only[RN.row];rw[(w.pn b.1).2];rfl);exact⟨j,_,by simp[aD5,IS w,Ah b.1,w.nodes,w.addr b.1,w.f0 b.1,b.2,BR,d],f,c⟩
def aCi(w:RB h T b F)(g:Gz b n o a):∃d,A8 h yx (zm (zs (T,0)))=zs (zm (zs (d,0)))/\Dn h F 123 [zm (zs (d,0)),.int z0 b.Cd,tt] (.int z0 0) T b.gH:=by
 obtain⟨d,k,c,e,G,w,u,rfl⟩:=w;let⟨U,y,r,t,q⟩:=w.step λn i ps j=>let⟨v,x,r,s,f⟩:=aQF j g.ok.Cd z8;⟨v,n,i,x,r,s,f⟩
 exact⟨d,w.l0,U,_,r,⟨d,k,c,e,y,t,u,rfl⟩,q⟩
def aV4(w:RB h T b F)(g:Gz b (n+1) o a)(nm s p:Aj):∃d,A8 h yx (zm (zs (T,0)))=zs (zm (zs (d,0)))/\Dn h F 120 [zm (zs (d,0)),.int z0 b.Cd,zo [I 3,I 0,.slnil,I 0,I 0,z4 nm,.slnil,S [],z4 s,z4 p,ff,I 0,I 0]] (.tuple [.int z0 (b.a.len+1),I 0]) T {b with a:=b.a.add (WJ nm s p b.Cd).x}:=by
 obtain⟨d,l,c,e,G,w,D,rfl⟩:=w;let⟨U,H,r,C,A⟩:=w.step (R:=λU=>BF cx 120 [zm (zs (d,0)),.int z0 b.Cd,zo [I 3,I 0,.slnil,I 0,I 0,z4 nm,.slnil,S [],z4 s,z4 p,ff,I 0,I 0]] h (.tuple [.int z0 (b.a.len+1),I 0]) U) λn i ps f=>let⟨E,m,i1,j,B,k⟩:=dh f (by have:=g.rm.n;rw[Ar.len];omega) ⟨(WJ nm s p b.Cd).x,.slnil,.slnil,ys ⟨rfl,rfl⟩,ys ⟨rfl,rfl⟩⟩;⟨E,m,i1,_,by simp only[RN.row,WJ] at j;simp[xh,di f g.ok.Cd.1 g.ok.Cd.2,j,BR],B,k⟩
 exact⟨d,w.l0,U,_,r,⟨d,l,c,e,H,C,D,rfl⟩,A⟩
def aLn(w:RB h T b F)(g:Gz b n o a)(p x l):∃d f,A8 h yx (zm (zs (T,0)))=zs (zm (zs (d,0)))/\Dn h F 121 [zm (zs (d,0)),.int z0 p,.int z0 x,.int z0 l] (.int z0 f) T {b with a:=b.a.Gu p x l}:=by obtain⟨d,i,c,e,G,w,t,rfl⟩:=w;let⟨f,U,u,r,s,q⟩:=w.gJ g.ok g.rm p x l;exact⟨d,f,w.l0,U,_,r,⟨d,i,c,e,u,s,t,rfl⟩,q⟩
def JI:Wd a2y [a2y]:=GG AR Bi Bi
def aCj:Wd a3e eHB:=GG AR Bi Bi
section
variable(w:RB h T b F)(g:Gz b (n+5) o a)(X:t.Sm)
def aV5(J:AK t.Al V):Dn h F 35 [zm (zs (T,0)),zo (Bc t V)] (.bool (b.FG t).2) T (b.FG t).1:=by
 let K:=w.Cg;let e:=aCg t V h;let d:=đ t V h;let f:=Ē JI X.name V h;let j:=Qj aCj X.name V h;rw[BS.FG];by_cases x:¬t.ok;.rw[Ae x];rw[Ah x] at e;exact⟨_,_,by simp[UM,e],w,.refl⟩
 rw[Aa x];rw[Ag x] at e;by_cases l:t.k=1;.rw[Ae l];exact⟨_,_,by rw[Ac,UM];cases H:decide t.DQ<;>rw[H] at d<;>simp[e,d,Aw l],w,.refl⟩
 rw[Aa l];by_cases v:t.DQ;.rw[Ae v];rw[Ah v] at d;exact⟨_,_,by simp[UM,e,d],w,.refl⟩
 rw[Aa v];rw[Ag v] at d;by_cases q:t.Xb eHB
 .rw[Ae q];let c:=q.1;let D:¬t.st [a2y]:=λh=>by have:=h.1;omega
  let A:¬t.en eHB:=λh=>q.2 h.2;rw[Ag D] at f;rw[Ag A] at j;exact⟨_,_,by rw[Ac,UM];rw[Bc,c] at e d f j;simp[Bc,c,e,d,f,j,(Ab:¬3=1),(Ab:¬3=4)],w,.refl⟩
 rw[Aa q];by_cases p:t.k=4;.rw[Ae p];let⟨G,C,i,a,m⟩:=N5 (s:=t.data) w (g.dn (n':=n+1) Ab) (by have:=X.data;omega) b.Cd;exact⟨_,_,by simp[UM,e,d,l,Aw p,K,i],a,m⟩
 rw[Aa p];by_cases u:t.st [a2y];.rw[Ae u];rw[Ah u] at f;let⟨G,C,i,a,m⟩:=GC w (g.dn (n':=n+4) Ab) X J;let⟨r,z,y⟩:=EW a 3;exact⟨_,_,by rw[Bc] at i;rw[Ac,UM];rw[Bc] at e d f;simp[Bc,e,d,l,p,f,i,r],z,m.trans y⟩
 rw[Aa u];rw[Ag u] at f;let⟨G,C,i,a,m⟩:=GC (t:=Lj a2y) w (g.dn (n':=n+4) Ab) (HM AR) (ys ⟨rfl,rfl⟩);let⟨r,z,y⟩:=EW a 3;let B:=aCh a2y h;refine⟨_,_,?_,z,m.trans y⟩;rw[Ac,UM];by_cases c:t.k=3;.let A:t.en eHB:=⟨c,My λh=>q ⟨c,h⟩⟩;rw[Ah A] at j;rw[Bc,c] at e d f j;simp[Bc,c,e,d,f,j,(Ab:¬3=1),(Ab:¬3=4),B,i,r,BS.again]
 .simp only[abS,↓reduceIte,e,d,l,p,c,f,B,i,r,BS.again]
def aV6(hp:zz t.Ho<=AN)(hv:AK t.Al V):Dn h F 34 [zm (zs (T,0)),zo (Bc t V)] (.bool (b.JG Q9 t).2) T (b.JG Q9 t).1:=by
 let Z:=w.Cg;let c:=aCg t V h;let d:=đ t V h;rw[BS.JG];by_cases z:¬t.ok;.rw[Ae z];rw[Ah z] at c;exact⟨_,_,by simp[XM,c],w,.refl⟩
 rw[Aa z];rw[Ag z] at c;by_cases v:t.DQ;.rw[Ae v];rw[Ah v] at d;exact⟨_,_,by simp[XM,c,d],w,.refl⟩
 rw[Aa v];rw[Ag v] at d;by_cases e:t.k=4;.rw[Ae e];let⟨h1,H,j,U,i⟩:=N5 (s:=t.data) w (g.dn (n':=n+1) Ab) (by have:=X.data;omega) b.Cd;exact⟨_,_,by simp[XM,c,d,Aw e,Z,j],U,i⟩
 rw[Aa e];by_cases f:t.k=1;rotate_left;.rw[Ae f];let⟨P,u,h1,H,j,U,i⟩:=aCi w g;let⟨K,r,q⟩:=EW U 2;exact⟨_,_,by simp[XM,c,d,e,f,u,Z,j,K,BS.again],r,i.trans q⟩
 rw[Aa (by simp[f])];let hd:=g.ok.Cd;let hx:mn {kind:=3,Cd:=b.Cd,name:=t.name,Ho:=t.Ho,sys:=t.sys}:=by constructor<;>simp[CL,HP,iR]
 let TE:=SD g.ok.ok hx (ys ⟨AF,hd⟩) rfl rfl rfl rfl (λh=>absurd h.1 (AR:¬(3:Int)=4));let⟨P,u,h1,H,j,U,i⟩:=aV4 w (g.dn (n':=n+1) Ab) t.name t.Ho t.sys;let g1:Gz {b with a:=b.a.add (WJ t.name t.Ho t.sys b.Cd).x} n o a:=⟨g.ok.IN TE XI,(g.dn Ab).rm.Kh (LW (y:={kind:=3,Cd:=b.Cd,name:=t.name,Ho:=t.Ho,sys:=t.sys}) AF AF),g.AJ,g.AX,g.nm.add X.name⟩;let⟨O,Q,p,h2,F2,r2,r,q⟩:=aLn U g1 b.Cd (b.a.len+1) 0;let l1:=U.Cg;let M:=r.Cg;let g2:=(g.dn (n':=n+1) Ab).SX X;let m:=r;let l:=aV3 (av:=V) t hp h2;dsimp only;cases e:Q9 t<;>rw[e] at l
 .rw[Aa AF];let⟨C,B,A⟩:=EW m 2;exact⟨_,_,by rw[Ac,XM];rw[Bc,f] at c d l;simp[AP,c,d,Jq,f,Bc,u,Z,j,p,l1,r2,l,C],B,(i.trans q).trans A⟩
 .rw[Ae rfl];let⟨G,E,N,R,L,J,I⟩:=aCi m g2;let D:=L;let⟨C,B,A⟩:=EW J 2;exact⟨_,_,by rw[Ac,XM];rw[Bc,f] at c d l;simp[AP,c,d,Jq,f,Bc,u,Z,j,p,l1,r2,l,E,M,D,C],B,((i.trans q).trans I).trans A⟩
end
end
section
variable{h p:Ak}{j:Nat}{b b':BS}{F:Nat->Prop}{n o a:Nat}{t:DE}{av:Ad}{nm:Aj}{q:List Aj}
def hZ(w:RB h j b F)(g:Gz b (n+8*(4*(o+8)+10)) o a)(nm:Aj):Dn h F 87 [zm (zs (j,0)),z4 nm] (.tuple []) j (b.CJ nm):=by obtain⟨d,e,c,tt,G,w,k,rfl⟩:=w;let⟨p,i,l,s,r,f,q,x⟩:=aQx (m:=n) w k g.ok (g.rm.le (by have:=g.AJ;omega)) g.nm nm;exact⟨p,_,r,⟨d,i,l,tt,s,f,q,rfl⟩,x⟩
def aCk(w:RB h j b F)(g:Gz b n o a)(nm:Aj):Dn h F 86 [zm (zs (j,0)),z4 nm] (.tuple []) j (b.CZ nm):=by obtain⟨d,f,c,tt,G,w,hc,rfl⟩:=w;let⟨p,k,r,i,x⟩:=aLl w g.rm nm;exact⟨p,_,r,⟨d,k,c,tt,G,i,by let e:(b.CZ nm).AX=b.AX:=(by rw[BS.CZ];split;split<;>rfl;rfl);rwa[e],rfl⟩,x⟩
def Ew(w:RB h j b F)(g:Gz b (n+4*a) o a):Dn h F 85 [zm (zs (j,0))] (.tuple []) j b.A4:=by obtain⟨d,e,c,tt,G,w,k,rfl⟩:=w;let⟨p,i,l,s,r,f,q,x⟩:=aQz (m:=n) w k g.ok (g.rm.le (by have:=g.AX;omega)) g.nm;exact⟨p,_,r,⟨d,i,l,tt,s,f,q,rfl⟩,x⟩
def aCl(w:RB h j b F)(g:Gz b n o a):Dn h F 90 [zm (zs (j,0))] (.tuple []) j b.Cu:=by obtain⟨d,e,c,tt,G,w,l,rfl⟩:=w;let⟨p,k,m,i,r,f,q,x⟩:=aQw w l g.rm;exact⟨p,_,r,⟨d,k,m,i,G,f,q,rfl⟩,x⟩
def sy(h:Nm b.a)(g:Gz b n o a):Nm b.A4.a:=Nm.IZ h λe c=>(g.rm.DU e (BU c)).1
def Oz(w:RB h j b F)(v:Bool):Đ h F j 14 (.bool v) {b with fs:=v}:=by obtain⟨e,d,c,tt,G,w,a,rfl⟩:=w;exact⟨w.st rfl rfl,⟨e,d,c,tt,G,w.put rfl rfl w.o w.t,a,rfl⟩,Be⟩
def aCm(w:RB h j b F)v:Đ h F j 8 (.int z0 v) {b with Fx:=v}:=by obtain⟨e,d,c,tt,G,w,a,rfl⟩:=w;exact⟨w.st rfl rfl,⟨e,d,c,tt,G,w.put rfl rfl w.o w.t,a,rfl⟩,Be⟩
def RB.l8(w:RB h j b F):A8 h yx (zm (zs (j,8)))=zs (.int z0 b.Fx)/\A8 h yx (zm (zs (j,14)))=zs (.bool b.fs):=by obtain⟨e,d,c,tt,G,w,hc,rfl⟩:=w;exact⟨w.ld 8,w.ld 14⟩
def RB.lo(w:RB h j b F):∃v,A8 h yx (zm (zs (j,2)))=zs v/\B7 b.AJ v/\∀{u:Ad} {l:List Item},B7 l u->∀t:Ak,Đ (h++t) F j 2 u {b with AJ:=l}/\Dx h F (h++t) F:=by obtain⟨e,d,c,tt,G,w,k,rfl⟩:=w;exact⟨d,w.ld 2,w.o,λ{u l} f t=>have a:=w.If;⟨⟨a.st rfl (AY.cells f),⟨e,u,c,tt,G,a.IB f,k,rfl⟩,Be⟩,w.De⟩⟩
def RB.lc(w:RB h j b F)(g:Gz b n o a):∃v u,A8 h yx (zm (zs (j,3)))=zs v/\BF cx 94 [v] h u h/\Đ h F j 3 u {b with AX:=Et b.AX}:=by obtain⟨e,d,c,tt,G,w,m,rfl⟩:=w;let q:=g.rm.AX;let⟨fs,i,p⟩:=m;let⟨u,l,f⟩:=f84 (h:=h) p (by rw[<-i,Ao] at q;omega);exact⟨c,u,w.l3,l,w.st rfl (AY.cells f),⟨e,d,u,tt,G,w.KJ,⟨_,by rw[TF,i],f⟩,rfl⟩,Be⟩
def Gz.nmB(g:Gz b n o a):∀i∈b.AJ,zz i.name<9223372036854775807:=λi c=>by have:=g.rm.YD i c;omega
def mk1(nm:Aj):AB (.Df 1) [z4 nm]=zs (.sl 1 ([nm].map BY)):=DK rfl AF
section
variable(w:RB h j b F)(g:Gz b n o a)
def iA s(nm:Aj):BF cx 284 [zm (zs (j,0)),.int z0 s,z4 nm] h (.bool (b.GA s (AS [nm]))) h:=by let⟨v,d,a,_⟩:=w.lo;let ho:=g.rm.AJ;let c:=aJ6 (h:=h) a Ab g.nmB s (Cc (ws:=[nm])) AF;simp only[show b.GA s (AS [nm])=HG (AS [nm]) (GZ s) b.AJ.reverse from rfl,Ac,aER,By,d,mk1,c]
def aCn:BF cx 280 [zm (zs (j,0))] h (.bool (decide b.Pv)) h:=by let⟨v,d,a,_⟩:=w.lo;let ho:=g.rm.AJ;let c:=aAW (h:=h) a Ab AE;rw[show decide b.Pv=decide (0<=A7 (AS [AE]) b.AJ) from rfl];rw[AE] at c⊢;simp[aEN,d,c]
def Qk(k:Aj):Dn h F 288 [zm (zs (j,0)),z4 k] (.tuple []) j {b with AJ:=Dg (CN k) Cl b.AJ}:=by
 let⟨v,i,o,m⟩:=w.lo;let ho:=g.rm.AJ;let⟨u,t,f,l⟩:=f165 (h:=h) o Ab g.nmB k false;let p:Fm k false=CN k:=by funext a;rfl
 rw[p] at l;let⟨⟨e,n,c⟩,d⟩:=m l t;exact⟨_,_,by simp[aEU,i,f,e],n,d.trans c⟩
def aGn(nm:Aj):Dn h F 375 [zm (zs (j,0)),z4 nm] (.tuple []) j {b with AJ:=Dg Cl (AS [nm]) b.AJ}:=by let⟨v,i,m,k⟩:=w.lo;let ho:=g.rm.AJ;let⟨u,t,f,a⟩:=f85 (h:=h) m Ab (Cc (ws:=[nm])) AF;rw[<-Ld] at a;let⟨⟨e,l,c⟩,d⟩:=k a t;exact⟨_,_,by simp only[Ac,aFh,By,i,mk1,f,e],l,d.trans c⟩
def Ma(nm a:Aj):Dn h F 285 [zm (zs (j,0)),z4 nm,z4 a] (.tuple []) j (b.EO nm a):=let⟨h1,i,f,l,d⟩:=Qk w g a;let⟨h2,F2,m,e,c⟩:=aGn l (g.I0 Co) nm;⟨_,_,by simp[aES,f,m],e,d.trans c⟩
end
def X3(w:RB h j b F)(g:Gz b (n+4) o a)(k:t.Sm)(p:AK t.Al av):Dn h F 127 [zm (zs (j,0)),zo (Bc t av)] (.tuple []) j (b.I2 t):=by let⟨h1,i,c,l,e⟩:=GC w g k p;let q:Gz (b.C3 t) n (o+1) a:=g.Mf k.Al k.name;let⟨h2,F2,m,f,d⟩:=Qi l q;exact⟨_,_,by rw[Bc] at c;simp[xl,Bc,c,m],f,e.trans d⟩
end
def OO:List Aj:=[a32,a4E,a42,a4i,a4O,a4A,a4P,[100,105,114],a4H,[100,108],a4p,a4j,a4L,a4M,a4Q,a4N,[109,97,105,110],a5a,[110,97,118],[111,108],a4T,a4B,a4C,[117,108]]
def bLP:List Aj:=[a2G,a4x,[112,114,101]]
def anW:List Aj:=[[97],a2P]
def aQI:Wd a4S [a2B,a2y]:=GG AR Bi Bi
def s_:Wd a2x OO:=GG Bi Bi Bi
def aLo:Wd a4f bLP:=GG AR Bi Bi
def wH:Wd a2R [a2R]:=GG AR Bi Bi
def aLp:Wd [112] [[112]]:=GG AR Bi Bi
def zu:Wd [108,105] [[108,105]]:=GG AR Bi Bi
def zw:Wd a4e jY:=GG AR Bi Bi
def fg:Wd a2L B2:=GG AR Bi Bi
def ta:Wd a2F Pq:=GG AR Bi Bi
def aQJ:Wd [97,32,110,111,98,114] anW:=GG AR Bi Bi
def wI:Wd a2M Lk:=GG AR Bi Bi
def zx:Wd [98,114] [[98,114]]:=GG AR Bi Bi
def ē:∀w∈Q4,w∈OO\/w∈bLP:=Bi
def mS:∀w,w∈OO\/w∈bLP->w∈Q4:=by let b:∀w∈OO,w∈Q4:=Bi;let a:∀w∈bLP,w∈Q4:=Bi;exact λw h=>h.elim (b w) (a w)
def aGo:∀w∈Wx,w∈Pq\/w∈anW:=Bi
def zy:∀w,w∈Pq\/w∈anW->w∈Wx:=by let b:∀w∈Pq,w∈Wx:=Bi;let a:∀w∈anW,w∈Wx:=Bi;exact λw h=>h.elim (b w) (a w)
section
variable{h h':Ak}{bi:Nat}{b b':BS}{F:Nat->Prop}{n o a:Nat}{t:DE}{av:Ad}{nm:Aj}{ws:List Aj}
def en3(b:t.k=3):decide (t.en ws)=decide (t.name∈ws):=by unfold DE.en;simp[b]
def EX{L:List (List Aj)}{s:Aj}{X:List Aj}(a:s∈X)(h:(X.all λw=>L.all λl=>decide (w∉l))=z8):∀l∈L,s∉l:=λl b=>D4 (EE.1 (EE.1 h s a) l b)
def aV7(w:RB h bi b F)(g:Gz b (n+8*(4*(o+a+8)+10)+8*a+2000) o a)(ht:t.Sm)(hv:AK t.Al av)(hk:t.k=3)(h0:t.name≠AE):Dn h F 133 [zm (zs (bi,0)),zo (Bc t av)] (.bool (b.Lm t).2) bi (b.Lm t).1:=by
 let ge:∀{m},m<=n+8*(4*(o+a+8)+10)+8*a+2000->Gz b m o a:=λh=>g.dn h;let f:=Qj aQI ht.name av h;let d:=Qj s_ ht.name av h;let i:=Qj aLo ht.name av h;let j:=Qj wH ht.name av h;let q:=Qj aLp ht.name av h;let r:=Qj zu ht.name av h;let u:=Qj zw ht.name av h;let x:=Qj fg ht.name av h;let A:=Qj ta ht.name av h;let TK:=Qj aQJ ht.name av h;let jZ:=Qj wI ht.name av h;let aN:=Qj zx ht.name av h;rw[en3 hk] at f d i j q r u x A TK jZ aN;simp only[Bc,hk,Ax] at f d i j q r u x A TK jZ aN;rw[BS.Lm];rw[Aa h0];by_cases Y:t.name∈[a2B,a2y]
 .let K:t.name∈Ll:=by let key:∀w∈[a2B,a2y],w∈Ll:=AR;exact key _ Y
  rw[Ae K];rw[Ah Y] at f;let c:=iA w (ge (m:=0) Ab) 1 a2B;rw[BS.TI];let E:b.has [a2B]=b.GA 1 (AS [a2B]):=rfl;rw[E];cases hs:b.GA 1 (AS [a2B])<;>rw[hs] at c
  .rw[Aa AF];refine⟨_,_,?_,w,.refl⟩;rw[Ac,Gn];simp only[By,↓reduceIte,Bc,hk,f,c]
  .rw[Ae rfl];obtain⟨s2,p,l⟩:=EW w 19;refine⟨_,_,?_,p,l⟩;rw[Ac,Gn];simp only[By,↓reduceIte,Bc,hk,f,c,s2]
 let K:t.name∉Ll:=λh=>Y (by let key:∀w∈Ll,w∈[a2B,a2y]:=AR;exact key _ h)
 rw[Aa K];rw[Ag Y] at f;by_cases V:t.name∈Q4
 .rw[Ae V];let c:=iA w (ge (m:=0) Ab) 1 t.name;let P:(decide (t.name∈OO)=z8)\/(decide (t.name∈OO)=false/\decide (t.name∈bLP)=z8):=by
   obtain h|h:=ē _ V
   .exact yg (Ah h)
   .cases hd:decide (t.name∈OO);.exact ys ⟨rfl,Ah h⟩
    .exact yg rfl
  rw[BS.J6];let E:b.has [t.name]=b.GA 1 (AS [t.name]):=rfl;rw[E];cases hs:b.GA 1 (AS [t.name])
  .rw[hs] at c;rw[Aa AF];refine⟨_,_,?_,w,.refl⟩;rw[Ac,Gn];rcases P with e|⟨e,e'⟩
   .rw[e] at d;simp[-List.append_assoc,Bc,hk,f,d,c]
   .rw[e] at d;rw[e'] at i;simp[-List.append_assoc,Bc,hk,f,d,i,c]
  .rw[hs] at c;rw[Ae rfl];obtain⟨h2,F2,r2,p,l⟩:=Ma w (ge (m:=0) Ab) t.name [];refine⟨_,_,?_,p,l⟩;rw[Ac,Gn];rcases P with e|⟨e,e'⟩
   .rw[e] at d;simp[-List.append_assoc,Bc,hk,f,d,c,r2]
   .rw[e] at d;rw[e'] at i;simp[-List.append_assoc,Bc,hk,f,d,i,c,r2]
 rw[Aa V];let c2a:t.name∉OO:=λh=>V (mS _ (yg h));let c2b:t.name∉bLP:=λh=>V (mS _ (ys h));rw[Ag c2a] at d;rw[Ag c2b] at i;by_cases D:t.name=a2R
 .let s:=EX (L:=[Wx,B2,Lk,SU]) (Ax.2 D) Bi;rw[Aa (s _ AF),Aa (s _ AF),Aa (s _ AF),Aa (s _ AF),Ae D];rw[Ah D] at j;let H:=aCn w (ge (m:=0) Ab);rw[BS.WA];by_cases W:b.Pv
  .rw[Ah W] at H;rw[Ae W];rw[BS.J6];rw[D];let c:=iA w (ge (m:=0) Ab) 1 a2R;let E:b.has [a2R]=b.GA 1 (AS [a2R]):=rfl;rw[E];rw[D] at f d i j;cases hs:b.GA 1 (AS [a2R])<;>rw[hs] at c
   .rw[Aa AF];refine⟨_,_,?_,w,.refl⟩;rw[Ac,Gn];simp only[By,↓reduceIte,Bc,hk,D,f,d,i,j,H,c]
   .rw[Ae rfl];obtain⟨h2,F2,r2,p,l⟩:=Ma w (ge (m:=0) Ab) a2R [];refine⟨_,_,?_,p,l⟩;rw[Ac,Gn];simp only[By,↓reduceIte,Bc,hk,D,f,d,i,j,H,c,r2]
  .rw[Ag W] at H;rw[Aa W];let l8:=w.l8.1;let⟨s1,w1,x1⟩:=aCm w 0;let g1:Gz {b with Fx:=0} 0 o a:=(ge Ab).eq rfl rfl rfl rfl rfl;let⟨v,Q,wX,wr⟩:=w1.lo;let ho:=g1.rm.AJ;let C:=aNW (h:=put h bi 8 (I 0)) wX Ab g1.nmB 1 b.Fx;let es:b.GA 1 (Bz b.Fx)=HG (Bz b.Fx) (GZ 1) b.AJ.reverse:=rfl;by_cases M:b.Fx≠0/\b.GA 1 (Bz b.Fx)=z8;.rw[Ae M];rw[es] at M;rw[show HG (Bz b.Fx) (GZ 1) ({b with Fx:=0}:BS).AJ.reverse=z8 from M.2] at C;let⟨h4,F4,r4,w4,x4⟩:=Qk w1 g1 [];let⟨v5,l5,J,G⟩:=w4.lo;let⟨u6,t6,r6,Ĭ⟩:=aFv (h:=h4) J (by have:=(g1.I0 (lo:=Dg (CN []) Cl b.AJ) Co).rm.AJ;let e:({b with Fx:=0,AJ:=Dg (CN []) Cl b.AJ}:BS).AJ=Dg (CN []) Cl b.AJ:=rfl;simp only at this⊢;omega) b.Fx;let⟨⟨s7,w7,Z⟩,x6⟩:=G Ĭ t6;refine⟨_,_,?_,w7,((x1.trans x4).trans x6).trans Z⟩;simp[-List.append_assoc,Gn,Bc,hk,f,d,i,j,H,l8,s1,M.1,BR,Q,C,r4,l5,r6,s7]
   .rw[Aa M];refine⟨_,_,?_,w1,x1⟩;rw[Ac,Gn];by_cases z:b.Fx=0;.simp only[abS,↓reduceIte,Bc,hk,f,d,i,j,H,l8,s1,z,BR,CH]
    .let e:HG (Bz b.Fx) (GZ 1) b.AJ.reverse=false:=by
      cases hs:HG (Bz b.Fx) (GZ 1) b.AJ.reverse;.rfl
      .cases M ⟨z,hs⟩
     rw[show HG (Bz b.Fx) (GZ 1) ({b with Fx:=0}:BS).AJ.reverse=false from e] at C;simp[-List.append_assoc,Bc,hk,f,d,i,j,H,l8,s1,z,BR,Q,C]
 rw[Ag D] at j;by_cases y:t.name=[112]
 .let s:=EX (L:=[Wx,B2,Lk]) (Ax.2 y) Bi;let c5':t.name∈SU:=by rw[y];decide
  rw[Aa (s _ AF),Aa (s _ AF),Aa (s _ AF),Ae c5'];rw[Ah y] at q;rw[BS.M2];rw[y,Ae rfl];let c:=iA w (ge (m:=0) Ab) 3 [112];rw[y] at f d i j q;cases hs:b.GA 3 (AS [[112]])<;>rw[hs] at c
  .rw[Aa AF,Ae rfl];let zj:=aCh [112] h;obtain⟨h2,F2,r2,p,l⟩:=GC (t:=Lj [112]) (av:= .slnil) w (ge (m:=0+4) Ab) (HM AR) (.inr ⟨rfl,rfl⟩);let g2:Gz (b.C3 (Lj [112])) 0 (o+1) a:=(ge (m:=0+4) Ab).Mf (HM (nm:=[112]) AR).Al AR;obtain⟨h3,F3,C,O,N⟩:=Ma p g2 [112] [112];refine⟨_,_,?_,O,l.trans N⟩;rw[Ac,Gn];simp only[abS,↓reduceIte,Bc,hk,y,f,d,i,j,q,c,zj,r2,C]
  .rw[Ae rfl];obtain⟨h2,F2,r2,p,l⟩:=Ma w (ge (m:=0) Ab) [112] [112];refine⟨_,_,?_,p,l⟩;rw[Ac,Gn];simp only[abS,↓reduceIte,Bc,hk,y,f,d,i,j,q,c,r2]
 rw[Ag y] at q;by_cases B:t.name=[108,105]
 .let s:=EX (L:=[Wx,B2,Lk]) (X:=[[108,105]]) (Ax.2 B) Bi;let c6':t.name∈SU:=by rw[B];decide
  rw[Aa (s _ AF),Aa (s _ AF),Aa (s _ AF),Ae c6'];rw[Ah B] at r;rw[BS.M2];rw[B];simp only[(AR:¬([108,105]:Aj)=[112]),DW,CH,BV];let c:=iA w (ge (m:=0) Ab) 2 [108,105];rw[B] at f d i j q r;cases hs:b.GA 2 (AS [[108,105]])<;>rw[hs] at c
  .rw[Aa AF];refine⟨_,_,?_,w,.refl⟩;rw[Ac,Gn];simp only[By,↓reduceIte,Bc,hk,B,f,d,i,j,q,r,c]
  .rw[Ae rfl];obtain⟨h2,F2,r2,p,l⟩:=Ma w (ge (m:=0) Ab) [108,105] [108,105];refine⟨_,_,?_,p,l⟩;rw[Ac,Gn];simp only[By,↓reduceIte,Bc,hk,B,f,d,i,j,q,r,c,r2]
 rw[Ag B] at r;by_cases U:t.name∈jY
 .let s:=EX (L:=[Wx,B2,Lk]) U Bi;let c7':t.name∈SU:=by let key:∀w∈jY,w∈SU:=AR;exact key _ U
  rw[Aa (s _ AF),Aa (s _ AF),Aa (s _ AF),Ae c7'];rw[Ah U] at u;rw[BS.M2];rw[Aa y,Aa B,Aa y];let c:=iA w (ge (m:=0) Ab) 1 t.name;dsimp only;cases hs:b.GA 1 (AS [t.name])<;>rw[hs] at c
  .rw[Aa AF];refine⟨_,_,?_,w,.refl⟩;rw[Ac,Gn];simp only[By,↓reduceIte,Bc,hk,f,d,i,j,q,r,u,c]
  .rw[Ae rfl];obtain⟨h2,F2,r2,p,l⟩:=Ma w (ge (m:=0) Ab) t.name t.name;refine⟨_,_,?_,p,l⟩;rw[Ac,Gn];simp only[By,↓reduceIte,Bc,hk,f,d,i,j,q,r,u,c,r2]
 rw[Ag U] at u;let c57:t.name∉SU:=λh=>by
  let key:∀w∈SU,w=[112]\/w=[108,105]\/w∈jY:=AR;obtain h|h|h:=key _ h
  .exact y h
  .exact B h
  .exact U h
 by_cases T:t.name∈B2
 .let s:=EX (L:=[Wx]) T Bi;rw[Aa (s _ AF),Ae T];rw[Ah T] at x;let⟨v,Q,wX,_⟩:=w.lo;have ho:=g.rm.AJ;let em:AB (.Df 1) [S [104,49],S [104,50],S [104,51],S [104,52],S [104,53],S [104,54]]=zs (.sl 1 (B2.map BY)):=DK (ws:=B2) rfl AR;let c:=aJ6 (h:=h) wX Ab g.nmB 1 (Cc (ws:=B2)) AR;rw[BS.Ow];let E:b.has B2=HG (AS B2) (GZ 1) b.AJ.reverse:=rfl;rw[E];cases hs:HG (AS B2) (GZ 1) b.AJ.reverse<;>rw[hs] at c
  .rw[Aa AF];refine⟨_,_,?_,w,.refl⟩;rw[Ac,Gn];simp only[By,↓reduceIte,Bc,hk,f,d,i,j,q,r,u,x,em,Q,c]
  .rw[Ae rfl];obtain⟨h2,F2,r2,p,l⟩:=Qk w (ge (m:=0) Ab) [];obtain⟨v5,l5,J,G⟩:=p.lo;obtain⟨u6,t6,r6,Ĭ⟩:=f85 (h:=h2) J (by have:=((ge (m:=0) Ab).I0 (lo:=Dg (CN []) Cl b.AJ) Co).rm.AJ;omega) (Cc (ws:=B2)) AR;rw[<-Ld] at Ĭ;obtain⟨⟨s7,w7,Z⟩,x6⟩:=G Ĭ t6;refine⟨_,_,?_,w7,(l.trans x6).trans Z⟩;rw[Ac,Gn];simp only[By,↓reduceIte,Bc,hk,f,d,i,j,q,r,u,x,em,Q,c,r2,l5,r6,s7]
 rw[Ag T] at x;by_cases R:t.name∈Wx
 .rw[Ae R];let⟨h2,F2,r2,p,l⟩:=hZ (n:=n) w (ge Ab) t.name;refine⟨_,_,?_,p,l⟩;rw[Ac,Gn];obtain e|e:=aGo _ R
  .rw[Ah e] at A;simp[-List.append_assoc,Bc,hk,f,d,i,j,q,r,u,x,A,r2]
  .rw[Ah e] at TK;cases hd:decide (t.name∈Pq)<;>rw[hd] at A<;>simp[-List.append_assoc,Bc,hk,f,d,i,j,q,r,u,x,A,TK,r2]
 rw[Aa R,Aa T];let c9a:t.name∉Pq:=λh=>R (zy _ (yg h));let c9b:t.name∉anW:=λh=>R (zy _ (ys h));rw[Ag c9a] at A;rw[Ag c9b] at TK;by_cases Tj:t.name∈Lk
 .rw[Ae Tj];rw[Ah Tj] at jZ;let c:=iA w (ge (m:=0) Ab) 1 t.name;rw[BS.Qc];let E:b.has [t.name]=b.GA 1 (AS [t.name]):=rfl;rw[E];cases hs:b.GA 1 (AS [t.name])<;>rw[hs] at c
  .rw[Aa AF];refine⟨_,_,?_,w,.refl⟩;rw[Ac,Gn];simp only[By,↓reduceIte,Bc,hk,f,d,i,j,q,r,u,x,A,TK,jZ,c]
  .rw[Ae rfl];let g0:Gz b 0 o a:=ge Ab;obtain⟨h2,F2,r2,p,l⟩:=Ma w g0 t.name [];obtain⟨v3,u3,l3,C,s3,O,N⟩:=p.lc g0.EO;refine⟨_,_,?_,O,l.trans N⟩;rw[Ac,Gn];simp only[By,↓reduceIte,Bc,hk,f,d,i,j,q,r,u,x,A,TK,jZ,c,r2,l3,C,s3]
 rw[Aa Tj,Aa c57,Aa D];rw[Ag Tj] at jZ;by_cases oE:t.name=[98,114]
 .rw[Ae oE];rw[Ah oE] at aN;let zj:=λh=>aCh [98,114] h;let eb:b.empty (Lj [98,114])={b.A4.I2 (Lj [98,114]) with fs:=false}:=by rw[BS.empty];rw[Aa AR,Aa AR,Aa AR];rfl
  rw[eb];let⟨h2,F2,r2,p,l⟩:=Ew (n:=n+4) w (ge Ab);let g2:Gz b.A4 (n+4) (o+a) a:=Gz.A4 (ge Ab);let⟨h3,F3,C,O,N⟩:=X3 (t:=Lj [98,114]) (av:= .slnil) p g2 (HM AR) (ys ⟨rfl,rfl⟩);let⟨s4,w4,x4⟩:=Oz O false;exact⟨_,_,by rw[Ac,Gn];simp only[By,↓reduceIte,Bc,hk,f,d,i,j,q,r,u,x,A,TK,jZ,aN,r2,zj _,C,s4],w4,(l.trans N).trans x4⟩
 rw[Aa oE];rw[Ag oE] at aN;let⟨h2,F2,r2,p,l⟩:=aCk w (ge (m:=0) Ab) t.name;exact⟨_,_,by rw[Ac,Gn];simp only[By,↓reduceIte,Bc,hk,f,d,i,j,q,r,u,x,A,TK,jZ,aN,r2],p,l⟩
def NW:Wd a2I [a2I]:=GG AR Bi Bi
def Hr:Wd a2z [a2z]:=GG AR Bi Bi
def aQL(a:t.k=3)(l:Aj)(b:Ad)(h:Ak):BF cx 124 [zo (Bc t b),z4 l] h ff h:=by simp[qC,Bc,a,(Ab:¬3=2)]
def aQM(w:RB h bi b F)(g:Gz b n o a)(r:t.Sm)(hv:AK t.Al av)(q:t.k=3)(s:t.name=AE):Dn h F 37 [zm (zs (bi,0)),zo (Bc t av)] ff bi b.Cu:=by let f:=aCg t av h;rw[Ag (show¬¬t.ok by rw[y9];omega)] at f;let e:=đ t av h;rw[Ag (show¬t.DQ by rw[wl];omega)] at e;let i:=λl=>aQL q l av h;let d:=Qj NW r.name av h;rw[Ag (show¬t.en [a2I] by intro h;have:=h.2;rw[s] at this;revert this;decide)] at d;let c:=Qj Hr r.name av h;rw[Ah (show t.en [a2z] from⟨q,by rw[s];decide⟩)] at c;let⟨h2,F2,v,m,j⟩:=aCl w g;exact⟨_,_,by rw[Bc,q] at f e i d c;simp[I7,Bc,q,f,e,i _,d,c,v,(Ab:¬3=1),(Ab:¬3=4)],m,j⟩
def aQN(w:RB h bi b F)(g:Gz b (n+8*(4*(o+a+8)+10)+8*a+2000) o a)(q:t.Sm)(p:AK t.Al av)(j:t.k=3):Dn h F 40 [zm (zs (bi,0)),zo (Bc t av)] (.bool (b.Lm t).2) bi (b.Lm t).1:=by
 by_cases i:t.name=AE
 .let e:b.Lm t=(b.Cu,false):=by
   rw[BS.Lm];rw[Ae i];rw[y8];let c:∀m,¬t.st m:=λm h=>by have:=h.1;omega
   rw[Aa (show¬¬t.ok by rw[y9];omega),Aa Ab,Aa (c _),Aa (show¬t.Xb gE from λh=>h.2 (by rw[i];decide)),Aa (show¬t.DQ by rw[wl];omega),Aa Ab,Aa (c _),Aa (c _),Aa (c _),Aa (c _),Aa (c _),Aa (c _),
    Aa (show¬t.en [a2I] by intro h;have:=h.2;rw[i] at this;revert this;decide),Aa (c _),Ae (show t.en [AE] from⟨j,by rw[i];decide⟩)]
  rw[e];let⟨u,x,l,f,d⟩:=aQM w (g.dn (n':=0) Ab) q p j i;exact⟨_,_,by rw[Bc,j,i,AE] at l;simp[MI,Bc,j,i,AE,l,(Ab:¬3=5),(Ab:¬3=4),(Ab:¬3=6),(Ab:¬3=2)],f,d⟩
 .let⟨u,x,l,f,d⟩:=aV7 w g q p j i;let s:=i;exact⟨_,_,by rw[Bc,j] at l;simp[MI,Bc,j,s,l,(Ab:¬3=5),(Ab:¬3=4),(Ab:¬3=6),(Ab:¬3=2)],f,d⟩
end
def wJ:Wd a23 Ou:=GG AR Bi Bi
def iB:Wd a2S [a2S]:=GG AR Bi Bi
def aCo:Wd a3A qv:=GG AR Bi Bi
def X4:Wd a2Z [a2Z]:=GG AR Bi Bi
def LD:Wd a2J [a2J]:=GG AR Bi Bi
def J8:Wd a2w Eu:=GG Bi Bi Bi
def wK:Wd a4g [a2B,a2y,[98,114]]:=GG AR Bi Bi
def WN:Wd a2B [a2B]:=GG AR Bi Bi
def No:Wd a2D [a2D]:=GG AR Bi Bi
def td:Wd a2N Ā:=GG AR Bi Bi
def aH3:Wd a3H sHN:=GG AR Bi Bi
section
variable{t:DE}{a:Ad}{h:Ak}{l:Aj}{b:List Aj}
def D0(e:t.k=2)(w:Wd l b)(d:t.name∈b)(c:t.Sm)(a:Ad)(h:Ak):BF cx 124 [zo (Bc t a),z4 l] h tt h:=by let q:=Ē w c.name a h;rwa [Ah (show t.st b from⟨e,d⟩)] at q
def Il(w:Wd l b)(d:t.name∉b)(c:t.Sm)(a:Ad)(h:Ak):BF cx 124 [zo (Bc t a),z4 l] h ff h:=by let q:=Ē w c.name a h;rwa [Ag (show¬t.st b from λh=>d h.2)] at q
def WO(e:t.k=3)(w:Wd l b)(d:t.name∈b)(c:t.Sm)(a:Ad)(h:Ak):BF cx 125 [zo (Bc t a),z4 l] h tt h:=by let q:=Qj w c.name a h;rwa [Ah (show t.en b from⟨e,d⟩)] at q
def YS(w:Wd l b)(d:t.name∉b)(c:t.Sm)(a:Ad)(h:Ak):BF cx 125 [zo (Bc t a),z4 l] h ff h:=by let q:=Qj w c.name a h;rwa [Ag (show¬t.en b from λh=>d h.2)] at q
def mT(b:¬t.k=2)(l:Aj)(a:Ad)(h:Ak):BF cx 124 [zo (Bc t a),z4 l] h ff h:=by simp[qC,Bc,b]
def mU(b:¬t.k=3)(l:Aj)(a:Ad)(h:Ak):BF cx 125 [zo (Bc t a),z4 l] h ff h:=by simp[xk,Bc,b]
def Ui(b:¬t.DQ)(a:Ad)(h:Ak):BF cx 119 [zo (Bc t a)] h ff h:=by let q:=đ t a h;rwa [Ag b] at q
def z_(b:t.DQ)(a:Ad)(h:Ak):BF cx 119 [zo (Bc t a)] h tt h:=by let q:=đ t a h;rwa [Ah b] at q
def mV(b:t.ok)(a:Ad)(h:Ak):BF cx 118 [zo (Bc t a)] h ff h:=by let q:=aCg t a h;rwa [Ag (CI.2 b)] at q
def fh(b:¬t.ok)(a:Ad)(h:Ak):BF cx 118 [zo (Bc t a)] h tt h:=by let q:=aCg t a h;rwa [Ah b] at q
def Pc(h:¬t.k=5):¬t.DQ:=λa=>h a.1
end
section
variable{h h':Ak}{bi:Nat}{b b':BS}{F:Nat->Prop}{n o a:Nat}{t:DE}{av:Ad}{nm:Aj}{ws:List Aj}
def aCp(w:RB h bi b F)(q:BA b)(k:BW b (n+4))(o:Nm b.a)(f:t.Sm)(m:AK t.Al av):Dn h F 78 [zm (zs (bi,0)),zo (Bc t av)] (.int z0 (b.a.len+1)) bi (b.C3 t):=by obtain⟨d,e,c,tt,G,w,hc,rfl⟩:=w;let⟨p,l,u,r,j,x⟩:=Ĉ w q k o IU m f.Al f.name;exact⟨p,_,r,⟨d,l,c,tt,u,j,by rw[BS.C3];rwa[D9],rfl⟩,x⟩
def wL(w:RB h bi b F)(u:BA b)(l:BW b (n+4))(p:Nm b.a)(i:t.Sm)(o:AK t.Al av)s:Dn h F 83 [zm (zs (bi,0)),zo (Bc t av),.int z0 s] (.tuple []) bi (b.DM t.name t.Al s):=by obtain⟨d,f,c,tt,G,w,hc,rfl⟩:=w;let⟨q,m,y,r,k,x⟩:=aQi w u l p IU o i.Al i.name s;exact⟨q,_,r,⟨d,m,c,tt,y,k,by let e:(b.DM t.name t.Al s).AX=b.AX:=(by rw[BS.DM];simp only;rw[D9]);rwa[e],rfl⟩,x⟩
def aLq(w:RB h bi b F)(t:BW b n):Dn h F 128 [zm (zs (bi,0))] (.tuple []) bi b.Gk:=by
 obtain⟨j,d,c,tt,G,w,x,rfl⟩:=w;let ho:=t.AJ;let v:A8 h yx (zm (zs (bi,2)))=zs d:=w.ld 2;let⟨u,g,i,r⟩:=aFu (h:=h) w.o Ab;let e:b.Gk={b with AJ:=Lc b.AJ (zz b.AJ-1)}:=by
  unfold y7 Lc;split
  .let l:max 1 ((zz b.AJ:Int)-1).toNat=1:=by omega
   rw[l,AL Ab]
  .let l:max 1 ((zz b.AJ:Int)-1).toNat=zz b.AJ-1:=by omega
   rw[l]
 let q:=w.If (u:=g);let f:=q.IB r;exact⟨_,_,by simp[xm,v,i,q.st (k:=2) rfl (AY.cells r)],⟨j,u,c,tt,G,e▸f,e▸x,rfl⟩,w.De.trans Be⟩
section
variable(w:RB h bi b F)
def aGp(q:BA b)(j:BW b (n+4))(o:Nm b.a)(i:t.Sm)(m:AK t.Al av):Dn h F 127 [zm (zs (bi,0)),zo (Bc t av)] (.tuple []) bi (b.I2 t):=let⟨h1,g,f,k,d⟩:=aCp w q j o i m;let⟨h2,F2,l,e,c⟩:=aLq k (Ji j i.Al i.name);⟨_,_,by simp[xl,f,l],e,d.trans c⟩
end
def RB.mark(w:RB h bi b F)(j:BW b n):∃v u,A8 h yx (zm (zs (bi,3)))=zs v/\BF cx 129 [v,zo [I 0,S [],.slnil]] h u h/\Đ h F bi 3 u {b with AX:=b.AX++[B9.zero]}:=by
 obtain⟨g,f,c,tt,G,w,r,rfl⟩:=w;let⟨i,d,q⟩:=r;let ha:=j.AX;let Iq:zz i=zz b.AX:=by rw[<-d,Ao]
 let p:MH B9.zero i=i:=Aa (by simp[B9.zero]);let⟨u,e',s,m,a⟩:=aN9 (h:=h) q Ab (vC d λx o=>((j.DU x o).2).1) (e:=⟨B9.zero,.slnil,ys ⟨rfl,rfl⟩⟩) (by rw[iQ];decide);rw[p] at a;exact⟨c,u,w.l3,m,w.st rfl (AY.cells a),⟨g,f,u,tt,G,w.KJ,⟨_,by rw[BJ,d,Bn,C1,s],a⟩,rfl⟩,Be⟩
def RB.gS(w:RB h bi b F)(p:BW b n)m:∃v u x,A8 h yx (zm (zs (bi,6)))=zs v/\AB (xp 1 8) [.slnil,v]=zs u/\AB (xp 1 8) [u,.sl 1 [BM m]]=zs x/\Đ h F bi 6 x {b with tm:=b.tm++[m]}:=by obtain⟨i,d,c,tt,G,w,r,rfl⟩:=w;let e:=p.tm;let cR:=hK;let⟨u,g,q⟩:=y6 (b:=8) w.t Ab;let f:=AY.KT (b:=8) (a:=m) q Ab;let l:Em (b.tm++[m]) (.sl 1 ((b.tm++[m]).map BM)):= .mk;exact⟨tt,u,_,w.l6,g,f,w.st rfl (AY.cells l),⟨i,d,c,_,G,w.fQ l,r,rfl⟩,Be⟩
def X5(m:t.k=2):b.CM t=
  (if t.name∈[a2y] then(b.Hq t,false) else if t.name∈Ou then(b.I2 t,false) else if t.name∈[a2S] then(b.DM t.name t.Al 2,false)
  else if t.name∈qv then(b.DM t.name t.Al 3,false) else if t.name∈[a2Z] then(b.DM t.name t.Al 4,false) else if t.name∈[a2J] then({b.C3 t with mode:=5},false)
  else if t.name∈[AE] then({b.C3 t with AX:=(b.C3 t).AX++[B9.zero],fs:=false,mode:=18,tm:=(b.C3 t).tm++[18]},false)
  else if t.name∈[a2I] then(b,false) else b.Gk.again 6):=by
 let st:∀a,t.st a↔t.name∈a:=λa=>⟨λh=>h.2,λh=>⟨m,h⟩⟩;let en:∀a,¬t.en a:=λa h=>by have:=h.1;omega
 let e:∀a,¬t.Xb a:=λa h=>by have:=h.1;omega
 let j:¬¬t.ok:=by rw[y9];omega
 let f:¬t.DQ:=Pc Ab;let i:¬t.k=1:=Ab;let g:¬t.k=4:=Ab;rw[y8];rw[Aa j,Aa i];by_cases d:t.name∈[a2I];.let c:=EX (L:=[[a2y],Ou,[a2S],qv,[a2Z],[a2J],[AE]]) d Bi;rw[Ae ((st _).2 d),Aa (c _ AF),Aa (c _ AF),Aa (c _ AF),Aa (c _ AF),Aa (c _ AF),Aa (c _ AF),Aa (c _ AF),Ae d]
 .rw[Aa (λh=>d ((st _).1 h)),Aa (e _),Aa f,Aa g,Aa d];simp[st,en,DW]
def A_(w:RB h bi b F)(ba:BA b)(rm:BW b (n+6))(hm:Nm b.a)(l:t.Sm)(hv:AK t.Al av)(hs:t.st Eu):Dn h F 37 [zm (zs (bi,0)),zo (Bc t av)] (.bool (b.CM t).2) bi (b.CM t).1:=by
 let hk:=hs.1;let q:¬t.k=1:=Ab;let p:¬t.k=4:=Ab;let k5:¬t.k=5:=Ab;let k3:¬t.k=3:=Ab;let m:=mV (t:=t) (by rw[y9];omega) av h;let j:=Ui (Pc k5) av h;let A:=EX (L:=[[a2y],[a2J],[a2I]]) hs.2 Bi;let E:=A [a2y] AF;let i:=Il JI E l av h;rw[X5 hk,Aa E];by_cases v:t.name∈Ou;.rw[Ae v];let f:=D0 hk wJ v l av h;let⟨h1,y,d,w1,c⟩:=aGp w ba rm hm l hv;exact⟨_,_,by simp[I7,m,j,i,f,q,p,d],w1,c⟩
 rw[Aa v];let f:=Il wJ v l av h;by_cases u:t.name∈[a2S];.rw[Ae u];let g:=D0 hk iB u l av h;let⟨h1,y,d,w1,c⟩:=wL w ba rm hm l hv 2;exact⟨_,_,by simp[I7,m,j,i,f,g,q,p,d],w1,c⟩
 rw[Aa u];let g:=Il iB u l av h;by_cases s:t.name∈qv;.rw[Ae s];let x:=D0 hk aCo s l av h;let⟨h1,y,d,w1,c⟩:=wL w ba rm hm l hv 3;exact⟨_,_,by simp[I7,m,j,i,f,g,x,q,p,d],w1,c⟩
 rw[Aa s];let x:=Il aCo s l av h;by_cases r:t.name∈[a2Z];.rw[Ae r];let z:=D0 hk X4 r l av h;let⟨h1,y,d,w1,c⟩:=wL w ba rm hm l hv 4;exact⟨_,_,by simp[I7,m,j,i,f,g,x,z,q,p,d],w1,c⟩
 rw[Aa r];let z:=Il X4 r l av h;let D:=A [a2J] AF;let W:=Il LD D l av h;let C:t.name∈[AE]:=by
  let key:∀w∈Eu,w∈Ou\/w∈[a2S]\/w∈qv\/w∈[a2Z]\/w∈[AE]:=AR;obtain h|h|h|h|h:=key _ hs.2
  .cases v h
  .cases u h
  .cases s h
  .cases r h
  .exact h
 rw[Aa D,Ae C];let V:=mU k3 a2I av h;let U:=D0 hk Hr C l av h;let⟨h1,y,d,w1,c⟩:=aCp w ba rm hm l hv;let B:BW (b.C3 t) (n+2):=Ji rm l.Al l.name;let⟨v2,u2,Z,r2,T,P,K⟩:=w1.mark B;let⟨S,O,J⟩:=Oz P false;let⟨R,N,H⟩:=EW O 18;let X:BW {b.C3 t with AX:=(b.C3 t).AX++[B9.zero],fs:=false,mode:=18} (n+1):=(B.aw AF (λe he=>by
  obtain he|he:=AA.1 he
  .exact yg he
  .exact ys (zv he)) ⟨AR,AR,λa ha=>by cases ha⟩:BW {b.C3 t with AX:=(b.C3 t).AX++[B9.zero]} (n+1)).eq rfl rfl rfl rfl
 obtain⟨v5,u5,z5,Y,e5,e6,Q,M,G⟩:=N.gS X 18;let em:AB (.Df 1) [I 18]=zs (.sl 1 [BM 18]):=rfl;exact⟨_,_,by simp[I7,AP,m,j,i,f,g,x,z,W,V,U,q,p,d,Z,r2,T,S,R,Y,e5,em,e6,Q],M,(((c.trans K).trans J).trans H).trans G⟩
end
def TR:List Aj:=[[97,114,101,97],[98,114],[101,109,98,101,100],a3N,[107,101,121,103,101,110],[119,98,114]]
def rbW:List Aj:=[[114,98],a4a]
def rpW:List Aj:=[[114,112],[114,116]]
def B_:Wd a3B SQ:=GG Bi Bi Bi
def WQ:Wd a2T [a2T]:=GG Bi Bi Bi
def mW:Wd a2G [a2G]:=GG Bi Bi Bi
def fj:Wd a2E SR:=GG Bi Bi Bi
def aQO:Wd [97] [[97]]:=GG Bi Bi Bi
def C_:Wd a2P [a2P]:=GG Bi Bi Bi
def D_:Wd a2Y Ww:=GG Bi Bi Bi
def aCq:Wd a4U rbW:=GG Bi Bi Bi
def aCr:Wd a41 rpW:=GG Bi Bi Bi
def E_:Wd a4c Zo:=GG Bi Bi Bi
def fk:Wd a2W [a2W]:=GG Bi Bi Bi
def iC:Wd a2K [a2K]:=GG Bi Bi Bi
def wM:Wd a3n TR:=GG Bi Bi Bi
def fm:Wd a27 [a27]:=GG Bi Bi Bi
def F_:Wd a3K SV:=GG Bi Bi Bi
def aH5:Wd [104,114] [[104,114]]:=GG Bi Bi Bi
def YT:Wd a2U [a2U]:=GG Bi Bi Bi
def aCs:Wd a3E [a3E]:=GG Bi Bi Bi
def mX:Wd a3h [a3h]:=GG Bi Bi Bi
def iD:Wd a3o [a3o]:=GG Bi Bi Bi
def mY:Wd a25 [a25]:=GG Bi Bi Bi
section
variable{h l:Ak}{j:Nat}{b b':BS}{F:Nat->Prop}{n o a:Nat}{t:DE}{p:Ad}{nm:Aj}{ws:List Aj}
def J9(w:RB h j b F)(g:Gz b n o a):Dn h F 84 [zm (zs (j,0))] (.tuple []) j b.BT:=by obtain⟨d,f,c,tt,G,w,hc,rfl⟩:=w;let⟨l,k,r,i,x⟩:=aQh w g.rm;exact⟨l,_,r,⟨d,k,c,tt,G,i,by let e:b.BT.AX=b.AX:=(by rw[BS.BT];split<;>rfl);rwa[e],rfl⟩,x⟩
def aLr(hm:Nm b.a):Nm b.Gk.a:=by let e:b.Gk.a=b.a:=(by rw[y7];split<;>rfl);rwa[e]
def G_(w:RB h j b F)(g:Gz b (n+1000) o a)(q:t.Sm)(m:AK t.Al p)x:Dn h F 89 [zm (zs (j,0)),zo (Bc t p),.int z0 x] (.tuple []) j (b.ER t.Al x):=by obtain⟨i,f,c,tt,G,w,hc,rfl⟩:=w;obtain⟨l,s,r,k,d⟩:=aQg w g.ok g.rm IU m q.Al x;exact⟨l,_,r,⟨i,f,c,tt,s,k,by let e:(b.ER t.Al x).AX=b.AX:=(by rw[vw];split<;>rfl);rwa[e],rfl⟩,d⟩
def Ql(w:RB h j b F)(g:Gz b (n+5) o a)(f:t.Sm)(m:AK t.Al p):Dn h F 80 [zm (zs (j,0)),zo (Bc t p)] (.int z0 (b.a.len+1)) j (b.HH t.name t.Al):=by obtain⟨d,e,c,tt,G,w,q,rfl⟩:=w;let⟨l,k,s,v,r,i,u,x⟩:=aQj w q g.ok g.rm g.nm IU m f.Al f.name;exact⟨l,_,r,⟨d,k,s,tt,v,i,u,rfl⟩,x⟩
def mZ(w:RB h j b F)(g:Gz b (n+4) o a)(f:t.Sm)(q:AK t.Al p)sp:Dn h F 79 [zm (zs (j,0)),zo (Bc t p),.int z0 sp] (.int z0 (b.Lh sp)) j (b.D5 t.name t.Al sp):=by obtain⟨d,e,c,tt,G,w,hc,rfl⟩:=w;let⟨l,m,s,r,k,x⟩:=aLk w g.ok g.rm g.nm IU q f.Al f.name sp;exact⟨l,_,r,⟨d,m,c,tt,s,k,by rwa[D9],rfl⟩,x⟩
section
variable(w:RB h j b F)
def aCt(g:Gz b (n+4) o a)(d:t.Sm)(c:AK t.Al p)s:Dn h F 83 [zm (zs (j,0)),zo (Bc t p),.int z0 s] (.tuple []) j (b.DM t.name t.Al s):=wL w g.ok g.rm g.nm d c s
end
def aCu(w:RB h j b F):Dn h F 91 [zm (zs (j,0))] (.tuple []) j {b with stop:=z8}:=by obtain⟨e,d,c,tt,G,w,f,rfl⟩:=w;let⟨l,r,a,x⟩:=aQf w;exact⟨l,_,r,⟨e,d,c,tt,G,a,f,rfl⟩,x⟩
def aGr(w:RB h j b F)(g:Gz b n o a):Dn h F 88 [zm (zs (j,0))] (.tuple []) j b.HQ:=by obtain⟨e,d,c,tt,G,w,i,rfl⟩:=w;let⟨l,r,f,x⟩:=aCf w g.rm;exact⟨l,_,r,⟨e,d,c,tt,G,f,i,rfl⟩,x⟩
def aCv(w:RB h j b F)(v:Bool):Đ h F j 17 (.bool v) {b with skip:=v}:=by obtain⟨e,d,c,tt,G,w,a,rfl⟩:=w;exact⟨w.st rfl rfl,⟨e,d,c,tt,G,w.put rfl rfl w.o w.t,a,rfl⟩,Be⟩
def aQP(w:RB h j b F)v:Đ h F j 18 (.int z0 v) {b with sw:=v}:=by obtain⟨e,d,c,tt,G,w,a,rfl⟩:=w;exact⟨w.st rfl rfl,⟨e,d,c,tt,G,w.put rfl rfl w.o w.t,a,rfl⟩,Be⟩
def aLs(w:RB h j b F)v:Đ h F j 5 (.int z0 v) {b with Kt:=v}:=by obtain⟨e,d,c,tt,G,w,a,rfl⟩:=w;exact⟨w.st rfl rfl,⟨e,d,c,tt,G,w.put rfl rfl w.o w.t,a,rfl⟩,Be⟩
def aCw(w:RB h j b F)v:Đ h F j 7 (.int z0 v) {b with head:=v}:=by obtain⟨e,d,c,tt,G,w,a,rfl⟩:=w;exact⟨w.st rfl rfl,⟨e,d,c,tt,G,w.put rfl rfl w.o w.t,a,rfl⟩,Be⟩
section
variable(w:RB h j b F)(g:Gz b n o a)
def aQQ:BF cx 281 [zm (zs (j,0))] h (.bool b.I9) h:=by
 let⟨v,f,k,_⟩:=w.lo;let ho:=g.rm.AJ;let d:=aJ5 (h:=h) k 1;let i:=f167 (h:=h) (Dl b.AJ 1) (Cc (ws:=[a2B])) AR;let l:AB (.Df 1) [S a2B]=zs (.sl 1 ([a2B].map BY)):=mk1 _;let e:b.I9=AS [a2B] (Dl b.AJ 1):=by
  rw[BS.I9];by_cases c:2<=zz b.AJ;.rw[Ah c,nA]
  .rw[Ag c,MF (ys Ab)];rfl
 simp only[e,Ac,aEO,By,f,d,l,i]
def aQR:BF cx 215 [zm (zs (j,0))] h (zo (DZ b.AJ).row) h:=by let⟨v,d,a,_⟩:=w.lo;let ho:=g.rm.AJ;let c:=aNU (h:=h) a Ab;simp only[Ac,xz,abS,Fh,d,c]
end
end
abbrev Nq(t:DE)(av:Ad)(l:Aj)(ws:List Aj):Prop:=t.name∉ws->∀(h:Ak) (Q:HN) (k:Ad->IT),W cx (.call 124 [zo (Bc t av),z4 l] k) Q h↔W cx (k ff) Q h
def nq{t:DE}{l:Aj}{a:List Aj}(w:Wd l a)(c:t.Sm)(b:Ad):Nq t b l a:=λd h _ _=>(Il w d c b h).KS
section
variable{h h':Ak}{bi:Nat}{b b':BS}{F:Nat->Prop}{n o a:Nat}{t:DE}{av:Ad}{nm:Aj}{ws:List Aj}
def OA(b:t.Sm)(a:Ad):Nq t a a2y [a2y]/\Nq t a a2B [a2B]/\Nq t a a2D [a2D]/\Nq t a a2x OO/\Nq t a [112] [[112]]/\Nq t a a2L B2/\Nq t a a3B SQ/\Nq t a a2R [a2R]/\Nq t a [108,105] [[108,105]]/\Nq t a a4e jY/\Nq t a a2T [a2T]/\Nq t a a2G [a2G]/\Nq t a a2E SR:=⟨nq JI b a,nq WN b a,nq No b a,nq s_ b a,nq aLp b a,nq fg b a,nq B_ b a,nq wH b a,nq zu b a,nq zw b a,nq WQ b a,nq mW b a,nq fj b a⟩
section
variable(w:RB h bi b F)
def aCx(g:Gz b (n+1000) o a)(s:t.Sm)(z:AK t.Al av)(B:t.k=2)(A:t.name∈[a2y]):Dn h F 132 [zm (zs (bi,0)),zo (Bc t av)] (.tuple []) bi (b.Hq t):=by
 let f:=D0 B JI A s av h;let c:=aCn w g;rw[BS.Hq];by_cases e:b.Pv;.rw[Ae (yg e)];rw[Ah e] at c;exact⟨_,_,by simp[E6,f,c],w,.refl⟩
 rw[Ag e] at c;let⟨v,j,q,_⟩:=w.lo;let r:=AY.CQ q;by_cases d:b.AJ=[]
 .rw[Ae (ys d)];let i:¬0<(zz b.AJ:Int):=by rw[d];decide
  exact⟨_,_,by simp only[Ac,E6,abS,f,c,j,r,i],w,.refl⟩
 let u:=Du.2 d;rw[Aa (by simp[e,d]),show Dl b.AJ 0=b.AJ[0] from Gg u];let C:=AY.BL (k:= z0) q u;let i:0<(zz b.AJ:Int):=Ab;let⟨h1,p,m,y,l⟩:=G_ w g s z b.AJ[0].node;exact⟨_,_,by simp only[Ac,E6,By,T6,f,c,j,r,i,show AB (.EM 4) [v,I 0]=_ from C,Fh,m],y,l⟩
section
variable(g:Gz b (n+4) o a)(m:t.Sm)(u:AK t.Al av)(v:t.k=2)
def aGs(q:t.name∈OO):Dn h F 132 [zm (zs (bi,0)),zo (Bc t av)] (.tuple []) bi (b.block t):=by let c:=EX (L:=[[a2y],[a2B],[a2D]]) q Bi;rw[Bq] at c;let j:=D0 v s_ q m av h;let⟨h1,l,i,r,e⟩:=J9 w g;let⟨h2,F2,s,f,d⟩:=GC r g.BT m u;exact⟨_,_,by simp[-List.append_assoc,E6,OA m av,c,Ai,j,i,s],f,e.trans d⟩
def o_p(q:t.name∈[[112]]):Dn h F 132 [zm (zs (bi,0)),zo (Bc t av)] (.tuple []) bi (b.block t):=by let c:=EX (L:=[[a2y],[a2B],[a2D],OO]) q Bi;rw[Bq] at c;let j:=D0 v aLp q m av h;let⟨h1,l,i,r,e⟩:=J9 w g;let⟨h2,F2,s,f,d⟩:=GC r g.BT m u;exact⟨_,_,by simp[-List.append_assoc,E6,OA m av,c,Ai,j,i,s],f,e.trans d⟩
end
def aLt(g:Gz b (n+1000) o a)(u:t.Sm)(E:AK t.Al av)(G:t.k=2)(A:t.name∈[a2B]):Dn h F 132 [zm (zs (bi,0)),zo (Bc t av)] (.tuple []) bi (b.MK t):=by
 let f:=EX (L:=[[a2y]]) A Bi;rw[Bq] at f;let j:=D0 G WN A u av h;let D:¬t.name=a2y:=by rw[Ax.1 A];decide
 let c:=aQQ w g;let y:=aCn w g;rw[BS.MK];rw[Aa D];cases d:b.I9
 .rw[d] at c;simp[Cy,DW,ite_self];exact⟨_,_,by simp[E6,OA u av,f,Ai,j,c],w,.refl⟩
 .rw[d] at c;let z:2<=zz b.AJ:=by rw[BS.I9] at d;rw[Bs] at d;exact D4 d.1
  by_cases i:b.Pv;.rw[Ae (yg i)];rw[Ah i] at y;exact⟨_,_,by simp[E6,OA u av,f,Ai,j,c,y],w,.refl⟩
  rw[Ag i] at y;rw[Aa (show¬(b.Pv\/b.AJ=[]) from λh=>h.elim i λe=>by rw[e] at z;simp at z),Ae rfl,show Dl b.AJ 1=b.AJ[1] from Gg z];let⟨q,B,m⟩:=Oz w false;let H:Gz {b with fs:=false} (n+1000) o a:=g.eq rfl rfl rfl rfl rfl;let⟨v,s,C,_⟩:=B.lo;let J:=AY.BL (k:= z0) C z;let⟨h2,F2,r,p,l⟩:=G_ B H u E b.AJ[1].node;exact⟨_,_,by simp only[Ac,E6,By,T6,OA u av,f,Ai,j,c,y,q,s,show AB (.EM 4) [v,I 1]=_ from J,Fh,r],p,m.trans l⟩
end
def aQS(w:RB h bi b F)(g:Gz b n o a){x:Int}(u:b.a.has x):∃d,A8 h yx (zm (zs (bi,0)))=zs (zm (zs (d,0)))/\Dn h F 272 [zm (zs (d,0)),.int z0 x] (I 0) bi {b with a:=b.a.cut x}:=by
 obtain⟨d,k,c,e,G,w,v,rfl⟩:=w;let⟨A,C,r,t,q⟩:=w.step λn i ps j=>let⟨z,B,r,s,f⟩:=aHM j u (λy=>(g.rm.V6.Bj g.ok.ok y)) g.ok.ok;⟨z,n,i,B,r,s,f⟩
 exact⟨d,w.l0,A,_,r,⟨d,k,c,e,C,t,v,rfl⟩,q⟩
def tg(w:RB h bi b F)(g:Gz b (n+4) o a)(l:t.Sm)(hv:AK t.Al av)(hk:t.k=2)(Y:t.name∈[a2D]):Dn h F 132 [zm (zs (bi,0)),zo (Bc t av)] (.tuple []) bi (b.Kx t):=by
 let f:=EX (L:=[[a2y],[a2B]]) Y Bi;simp only[Bq] at f;let j:=D0 hk No Y l av h;let d:=aQQ w g;let R:=w.l8;rw[BS.Kx];cases c:b.I9
 .rw[c] at d;exact Ae (yg rfl)▸⟨_,_,by simp[E6,OA l av,f,Ai,j,d],w,.refl⟩
 rw[c] at d;by_cases e:b.fs=false;.rw[Ae (ys e)];rw[e] at R;exact⟨_,_,by simp[E6,OA l av,f,Ai,j,d,R],w,.refl⟩
 rw[Aa (by simp[e])];rw[Bool.not_eq_false] at e;rw[e] at R;let Z:2<=zz b.AJ:=by rw[BS.I9] at c;rw[Bs] at c;exact D4 c.1
 let T:=g.ok.op _ (S1 c);let g1:=(⟨g.ok.IN (XD g.ok.ok T.1 (by rw[T.2];decide)) SF,g.rm.IN Oy,g.AJ,g.AX,g.nm.le SF Oy.n⟩:Gz {b with a:=b.a.cut (Dl b.AJ 1).node} (n+4) o a).I0 (lo:=b.AJ.take 1) (B8 _ _);let qd:Nm (b.a.cut (Dl b.AJ 1).node):=g.nm.le SF Oy.n;let X:=T.1;rw[show Dl b.AJ 1=b.AJ[1] from Gg Z] at X g1 qd⊢;let⟨v,G,wX,_⟩:=w.lo;let ea:=AY.BL (k:= z0) wX Z;let⟨O,E,h1,Q,D,w1,y⟩:=aQS w g X;let⟨V,l3,qg,i⟩:=w1.lo;let U:B7 b.AJ V:=qg;let⟨M,J,ø⟩:=wj (k:= z0) U (n:=1) Ab;let⟨K,H,Ĩ⟩:=y6 (b:=40) ø (by have:=g.rm.AJ;have:AN=140737488355328:=rfl;rw[Az];omega);let⟨⟨q,p,m⟩,u⟩:=i Ĩ [];rw[Br] at q p m u;let⟨N,P,C,A,s⟩:=GC p g1 l hv;let⟨B,z,r⟩:=EW A 20;exact⟨_,_,by simp only[Ac,E6,By,T6,OA l av,f,Ai,j,d,R,E,G,show AB (.EM 4) [v,I 1]=_ from ea,Fh,D,l3,show AB (.LK 4 false false z8) [V,I 1]=_ from J,H,q,C,B],z,((y.trans m).trans s).trans r⟩
def aQT(a:zz nm<9223372036854775807):JY cx 282 [z4 nm] (.bool (decide (nm∈B2))):=by simp[Mh,aEP,Gx fg.len a,fg.w]
def Ĕ(i:Item):i.row=[.int z0 i.node,.int z0 i.Bk,z4 i.name,.bool i.OZ]:=rfl
def aCy(g:Gz b n o a):(DZ b.AJ).name.length<9223372036854775807:=by
 rw[DZ];obtain h|h:=AQ 0 (zz b.AJ)
 .have:=m_ (l:=b.AJ) (i:=zz b.AJ-1) Ab Ab;have:=g.nmB _ this;exact this
 .rw[MF (yg Ab)];decide
section
variable(w:RB h bi b F)(g:Gz b (n+4) o a)(B:t.Sm)(C:AK t.Al av)(D:t.k=2)
def ĕ(z:t.name∈B2):Dn h F 132 [zm (zs (bi,0)),zo (Bc t av)] (.tuple []) bi (b.NU t):=by
 let l:=EX (L:=[[a2y],[a2B],[a2D],OO,[[112]]]) z Bi;rw[Bq] at l;let r:=D0 D fg z B av h;unfold BS.NU;dsimp only;let⟨h1,y,q,k,p⟩:=J9 w g;let j:=aQR k g.BT;rw[Ĕ] at j;let i:=aQT (aCy g.BT);by_cases c:(DZ b.BT.AJ).Bk=1
 .by_cases m:(DZ b.BT.AJ).name∈B2;.rw[show AS B2 (DZ b.BT.AJ)=z8 by simp[-List.append_assoc,AS,c,m],Ae rfl];rw[Ah m] at i;let⟨h2,F2,A,x,v⟩:=Qi k g.BT;let⟨s,u,f,e,d⟩:=GC x g.BT.Gk B C;refine⟨_,_,?_,e,(p.trans v).trans d⟩;simp[-List.append_assoc,E6,OA B av,l,Ai,r,q,j,Aw c,i.BG rfl rfl,A,f]
  .rw[show AS B2 (DZ b.BT.AJ)=false by simp[-List.append_assoc,AS,c,m],Aa AF];rw[Ag m] at i;let⟨s,u,f,e,d⟩:=GC k g.BT B C;exact⟨_,_,by simp[-List.append_assoc,E6,OA B av,l,Ai,r,q,j,Aw c,i.BG rfl rfl,f],e,p.trans d⟩
 .rw[show AS B2 (DZ b.BT.AJ)=false by simp[-List.append_assoc,AS,c],Aa AF];let⟨s,u,f,e,d⟩:=GC k g.BT B C;exact⟨_,_,by simp[-List.append_assoc,E6,OA B av,l,Ai,r,q,j,c,f],e,p.trans d⟩
def aQU(k:t.name∈SQ):Dn h F 132 [zm (zs (bi,0)),zo (Bc t av)] (.tuple []) bi (b.W0 t):=by let c:=EX (L:=[[a2y],[a2B],[a2D],OO,[[112]],B2]) k Bi;rw[Bq] at c;let s:=D0 D B_ k B av h;let⟨h1,u,r,o,i⟩:=J9 w g;let⟨h2,F2,v,m,f⟩:=GC o g.BT B C;let⟨q,l,e⟩:=aCv m z8;let⟨p,j,d⟩:=Oz l false;exact⟨_,_,by simp[-List.append_assoc,E6,OA B av,c,Ai,s,r,v,q,p],j,((i.trans f).trans e).trans d⟩
end
def m0:∀{r:List Item},HG (AS [wP]) (GZ 3) r=z8->(NG (CN wP) Cl r).any (AS [AE])=r.any (AS [AE])/\HG (AS [wP]) (GZ 3) (NG (CN wP) Cl r)=z8
 |[],h=>⟨rfl,h⟩
 |[x],h=>⟨rfl,h⟩
 |x::y::r,h=>by
  rw[NG];by_cases b:CN wP x=z8;.rw[Ae b];exact⟨rfl,h⟩
  .rw[Aa b,Aa (by simp[Cl])];let e:x.Bk=1/\x.name∈GY/\x.name≠wP:=by rw[CN] at b;rw[Cj,MO,MO] at b;exact⟨CI.1 b.1,CI.1 b.2.1,b.2.2⟩
   let i:AS [wP] x=false:=by simp[AS,e.2.2]
   let f:AS [AE] x=false:=by let d:∀w∈GY,w≠AE:=AR;simp[AS,d _ e.2.1]
   let c:HG (AS [wP]) (GZ 3) (y::r)=z8:=by
    rw[HG,i] at h;simp only[Cy,DW] at h;split at h;.cases h
    .exact h
   have:=m0 c;exact⟨by rw[this.1,Iy (a:=x),f,E0],this.2⟩
def aCz{x:Item}(h:AS [AE] x=z8):GZ 3 x=z8:=by
 let a:=D4 h;rw[GZ];rw[Aa AR,Aa AR,Aa Ab];have:AS QI x=z8:=by rw[AS];rw[Cj];exact⟨a.1,by rw[Ax.1 a.2];decide⟩
 rw[this];rfl
def m6:∀{r:List Item},HG (AS [wP]) (GZ 3) r=z8->(NG Cl (AS [wP]) r).any (AS [AE])=r.any (AS [AE])
 |[],h=>rfl
 |[x],h=>rfl
 |x::y::r,h=>by
  rw[NG,Aa (by simp[Cl])];by_cases b:AS [wP] x=z8
  .rw[Ae b];let d:AS [AE] x=false:=by have:x.Bk=1/\x.name∈[wP]:=D4 b;simp[AS,Ax.1 this.2,(AR:¬wP=AE)]
   rw[Iy (a:=x),d,E0]
  .rw[Aa b];let c:GZ 3 x=false/\HG (AS [wP]) (GZ 3) (y::r)=z8:=by
    rw[HG,Aa b] at h;cases e:GZ 3 x;.rw[e] at h;exact⟨rfl,zv h⟩
    .rw[e] at h;simp at h
   let d:AS [AE] x=false:=by
    cases f:AS [AE] x;.rfl
    .rw[aCz f] at c;cases c.1
   rw[m6 c.2,Iy (a:=x),d,E0]
def aP:b.Pv↔b.AJ.any (AS [AE])=z8:=by
 unfold BS.Pv A7;constructor
 .intro h;cases a:b.AJ.reverse.findIdx? (AS [AE])
  .rw[a] at h;simp at h
  next k=>rw[Mn];let⟨c,f,_⟩:=wY.1 a;exact⟨_,List.mem_reverse.1 (AV c),f⟩
 .intro h;rw[Mn] at h;let⟨x,d,e⟩:=h;cases a:b.AJ.reverse.findIdx? (AS [AE])
  .rw[List.findIdx?_eq_none_iff] at a;have:=a x (List.mem_reverse.2 d);rw[e] at this;cases this
  next k=>
   let⟨c,_⟩:=wY.1 a;rw[JO] at c;simp only
   omega
def th:b.BT.Pv↔b.Pv:=by
 rw[aP,aP];rw[BS.BT];split;next h=>let a:=m0 h;let c:=m6 a.2;simp only[Dg];rw[Jl,List.any_reverse,c,a.1,List.any_reverse]
 .rfl
def aGt{nm:Aj}{l:List Bb}(h:nm≠AE):(b.D5 nm l 1).Pv↔b.Pv:=by
 let c:BS.I5 1:=AR;let e:(b.D5 nm l 1).AJ=b.AJ++[⟨b.a.len+1,1,nm,FO 1 nm (l.map (Dd 1))⟩]:=by rw[wx];simp[Ae c,y3,wn,show y4 1 nm=nm from Aa AR]
 rw[aP,aP,e,YW];simp[AS,h]
section
variable(w:RB h bi b F)
def aLu(g:Gz b (n+4) o a)(y:t.Sm)(E:AK t.Al av)(G:t.k=2)(C:t.name∈[a2R]):Dn h F 132 [zm (zs (bi,0)),zo (Bc t av)] (.tuple []) bi (b.Wy t):=by
 let i:=EX (L:=[[a2y],[a2B],[a2D],OO,[[112]],B2,SQ]) C Bi;simp only[Bq] at i;let j:=D0 G wH C y av h;let A:=w.l8.1;let l:=aCn w g;let J:∀{c:BS},(c.C3 t).Pv↔c.Pv:=aGt (by rw[Ax.1 C];decide);let⟨h1,x,p,D,r⟩:=J9 w g;let⟨h2,F2,B,m,q⟩:=GC D g.BT y E;let e:=aCn m (g.BT.C3 y);rw[DG.2 ((J).trans th)] at e;rw[BS.Wy];dsimp only;by_cases f:b.Pv
 .rw[Ah f] at l e;rw[Aa (by simp[f]),Ae f];refine⟨_,_,?_,m,r.trans q⟩;rw[Ac,E6];by_cases d:b.Fx=0;.simp only[abS,↓reduceIte,OA y av,i,Ai,j,A,Aw d,p,B,e]
  .simp only[abS,↓reduceIte,OA y av,i,Ai,j,A,d,l,p,B,e]
 .rw[Ag f] at l e;by_cases d:b.Fx=0;.rw[Aa (by simp[-List.append_assoc,d]),Aa f,show b.BT.Lh 1=b.BT.a.len+1 from Ae AR];let⟨v,u,s⟩:=aCm m (b.BT.a.len+1);refine⟨_,_,?_,u,(r.trans q).trans s⟩;simp[-List.append_assoc,E6,OA y av,i,Ai,j,A,Aw d,p,B,e,v]
  .rw[Ae ⟨d,f⟩];exact⟨_,_,by simp[-List.append_assoc,E6,OA y av,i,Ai,j,A,d,l],w,.refl⟩
def aCA(g:Gz b n o a){l:Aj}{t:List Aj}(O:Wd l t):Dn h F 283 [zm (zs (bi,0)),z4 l] (.tuple []) bi (({b with fs:=false}:BS).Fk t):=by
 let⟨z,N,x⟩:=Oz w false;have Y:Gz {b with fs:=false} n o a:=g.eq rfl rfl rfl rfl rfl;let Jy:Ev cx 283 [zm (zs (bi,0)),z4 l] h λr T=>r= .tuple []/\∃X,RB T bi (({b with fs:=false}:BS).Fk t) X/\Dx (put h bi 14 ff) F T X:=by
  rw[Ev];generalize({b with fs:=false}:BS)=c at*;generalize put h bi 14 ff=hs at*;let⟨v,m,wX,_⟩:=N.lo;let le:=AY.CQ wX;let e0:c.AJ.length<=900000000:=by have:=Y.rm.AJ;omega
  simp only[aEQ,abS,z,m,le,Db ((c.AJ.length:Int)) 1];refine Bm (λn:Nat=>[.int z0 (n-1)]) (λn K=>n<=zz c.AJ/\c.AJ.reverse.find? (ww t)=(c.AJ.take n).reverse.find? (ww t)/\K=hs) (λn=>n) (zz c.AJ) rfl ⟨Af _,by rw[Bx],rfl⟩ ?_;rintro n K ⟨hn,M,rfl⟩;cases n
  .let e:c.Fk t=c:=by rw[BS.Fk];rw[M];rfl
   simp only[abS,(Ab:¬(0:Int)<=((0:Nat):Int)-1)];exact⟨_,rfl,rfl,F,by rw[e];exact N,.refl⟩
  next n=>
   let J:n<zz c.AJ:=Ab;let i1:(n+1:Nat)-1=(n:Int):=Ab;have L:=AY.BL (k:= .i64) wX J;have P:=Y.nmB _ (AV J);rw[Oo J,Ed] at M;generalize hi:c.AJ[n]=i at*;let V:AB (.Df 1) [S a32,S a4H,S [112]]=zs (.sl 1 (RE.map BY)):=DK rfl AR;let j:=f167 (h:=K) i (Cc (ws:=RE)) AR;let C:=Db (n) 1;let f:=λ{Q:HN} {h:Ak} {k:Ad->IT}=>Gx (Q:=Q) (h:=h) (k:=k) O.len P;let D:=λ{Q:HN} {h:Ak} {k:Ad->IT}=>fE (n:=i.Bk) (Q:=Q) (h:=h) (k:=k) P;by_cases q:AS t i=z8
   .let d:i.Bk=1/\i.name∈t:=D4 q;let⟨h2,F2,A,y,u⟩:=Ma N Y i.name i.name;let e:c.Fk t=c.EO i.name i.name:=by rw[BS.Fk];rw[M];simp[ww,q]
    simp only[abS,Nat.reduceLeDiff,↓reduceIte,Fh,i1,Of,m,L,Aw d.1,f,O.w,Ah d.2,A];exact⟨_,rfl,rfl,F2,e▸y,u⟩
   .let cy:AS t i=false:=zv q
    let B:ww t i=(Dc i&& !(AS RE i)):=by simp[ww,cy]
    rw[B] at M;let H:Dc i=z8->AS RE i=false->c.Fk t=c:=λK h2=>by rw[BS.Fk];rw[M,K,h2];simp[cy]
    let U:(Dc i&& !(AS RE i))=false->c.AJ.reverse.find? (ww t)=(c.AJ.take n).reverse.find? (ww t):=λK=>by rw[M,K]
    let p:Dw i.Bk i.name=Dc i:=rfl;by_cases d:i.Bk=1
    .let s:i.name∉t:=λh=>q (by simp[AS,d,h]);cases E:Dc i
     .simp only[abS,Nat.reduceLeDiff,↓reduceIte,Fh,i1,Of,m,L,Aw d,f,O.w,Ag s,D,p,E,C];exact AM.next n rfl ⟨Ab,U (by rw[E];rfl),rfl⟩ Ab
     .cases G:AS RE i with
      |true=>rw[G] at j;simp only[abS,Nat.reduceLeDiff,↓reduceIte,Fh,i1,Of,m,L,Aw d,f,O.w,Ag s,D,p,E,V,j,C];exact AM.next n rfl ⟨Ab,U (by rw[E,G];rfl),rfl⟩ Ab
      |false=>rw[G] at j;simp only[abS,Nat.reduceLeDiff,↓reduceIte,Fh,i1,Of,m,L,Aw d,f,O.w,Ag s,D,p,E,V,j,C];exact⟨_,rfl,rfl,F,by rw[H E G];exact N,.refl⟩
    .cases E:Dc i
     .simp only[abS,Nat.reduceLeDiff,↓reduceIte,Fh,i1,Of,m,L,d,D,p,E,C];exact AM.next n rfl ⟨Ab,U (by rw[E];rfl),rfl⟩ Ab
     .cases G:AS RE i with
      |true=>rw[G] at j;simp only[abS,Nat.reduceLeDiff,↓reduceIte,Fh,i1,Of,m,L,d,D,p,E,V,j,C];exact AM.next n rfl ⟨Ab,U (by rw[E,G];rfl),rfl⟩ Ab
      |false=>rw[G] at j;simp only[abS,Nat.reduceLeDiff,↓reduceIte,Fh,i1,Of,m,L,d,D,p,E,V,j,C];exact⟨_,rfl,rfl,F,by rw[H E G];exact N,.refl⟩
 obtain⟨r,T,hr,rfl,X,w',x'⟩:=Jy.ret;exact⟨T,X,hr,w',x.trans x'⟩
section
variable(g:Gz b (n+4) o a)(y:t.Sm)(E:AK t.Al av)(G:t.k=2)
def aWa(A:t.name∈[[108,105]]):Dn h F 132 [zm (zs (bi,0)),zo (Bc t av)] (.tuple []) bi ((({b with fs:=false}:BS).Fk [[108,105]]).block t):=by
 let d:=EX (L:=[[a2y],[a2B],[a2D],OO,[[112]],B2,SQ,[a2R]]) A Bi;rw[Bq] at d;let r:=D0 G zu A y av h;let f:Gz (({b with fs:=false}:BS).Fk [[108,105]]) (n+4) o a:=(g.eq (c:={b with fs:=false}) rfl rfl rfl rfl rfl).Fk;let s:Nm (({b with fs:=false}:BS).Fk [[108,105]]).a:=by
  let e:(({b with fs:=false}:BS).Fk [[108,105]]).a=b.a:=by
   rw[BS.Fk];split;.split<;>rfl
   .rfl
  rw[e];exact g.nm
 let⟨h0,v,q,C,l⟩:=aCA w g zu;let⟨h1,u,p,B,j⟩:=J9 C f;let⟨h2,F2,D,m,i⟩:=GC B f.BT y E;exact⟨_,_,by simp[-List.append_assoc,E6,OA y av,d,Ai,r,q,p,D],m,(l.trans j).trans i⟩
def aWb(A:t.name∈jY):Dn h F 132 [zm (zs (bi,0)),zo (Bc t av)] (.tuple []) bi ((({b with fs:=false}:BS).Fk jY).block t):=by
 let d:=EX (L:=[[a2y],[a2B],[a2D],OO,[[112]],B2,SQ,[a2R],[[108,105]]]) A Bi;rw[Bq] at d;let r:=D0 G zw A y av h;let f:Gz (({b with fs:=false}:BS).Fk jY) (n+4) o a:=(g.eq (c:={b with fs:=false}) rfl rfl rfl rfl rfl).Fk;let s:Nm (({b with fs:=false}:BS).Fk jY).a:=by
  let e:(({b with fs:=false}:BS).Fk jY).a=b.a:=by
   rw[BS.Fk];split;.split<;>rfl
   .rfl
  rw[e];exact g.nm
 let⟨h0,v,q,C,l⟩:=aCA w g zw;let⟨h1,u,p,B,j⟩:=J9 C f;let⟨h2,F2,D,m,i⟩:=GC B f.BT y E;exact⟨_,_,by simp[-List.append_assoc,E6,OA y av,d,Ai,r,q,p,D],m,(l.trans j).trans i⟩
end
def fo(g:Gz b (n+4) o a)(r:t.Sm)(y:AK t.Al av)(z:t.k=2)(u:t.name∈[a2T]):Dn h F 132 [zm (zs (bi,0)),zo (Bc t av)] (.tuple []) bi ({b.block t with sw:=5}):=by let c:=EX (L:=[[a2y],[a2B],[a2D],OO,[[112]],B2,SQ,[a2R],[[108,105]],jY]) u Bi;rw[Bq] at c;let p:=D0 z WQ u r av h;let⟨h1,q,m,v,f⟩:=J9 w g;let⟨h2,F2,x,j,e⟩:=GC v g.BT r y;let⟨l,i,d⟩:=aQP j 5;exact⟨_,_,by simp[-List.append_assoc,E6,OA r av,c,Ai,p,m,x,l],i,(f.trans e).trans d⟩
def aCB(g:Gz b (n+4*a+4) o a)(A:t.Sm)(E:AK t.Al av)(K:t.k=2)(H:t.name∈[a2G]):Dn h F 132 [zm (zs (bi,0)),zo (Bc t av)] (.tuple []) bi (b.SY t):=by
 let q:=EX (L:=[[a2y],[a2B],[a2D],OO,[[112]],B2,SQ,[a2R],[[108,105]],jY,[a2T]]) H Bi;rw[Bq] at q;let r:=D0 K mW H A av h;let c:=iA w g 1 a2G;unfold BS.SY;dsimp only;let x:b.has [a2G]=b.GA 1 (AS [a2G]):=rfl;rw[x];cases G:b.GA 1 (AS [a2G])<;>rw[G] at c
 .rw[Aa AF];let B:Gz b (n+4+4*a) o a:=g.dn Ab;let⟨M,O,D,l,f⟩:=Ew w B;let⟨v,y,p,j,e⟩:=GC l B.A4 A E;let⟨m,i,d⟩:=Oz j false;exact⟨_,_,by simp[-List.append_assoc,E6,OA A av,q,Ai,r,c,D,p,m],i,(f.trans e).trans d⟩
 .rw[Ae rfl];let⟨h1,z,u,J,s⟩:=Ma w g a2G [];let B:Gz (b.EO a2G []) (n+4+4*a) o a:=(g.dn Ab).EO;let⟨M,O,D,l,f⟩:=Ew J B;let⟨v,y,p,j,e⟩:=GC l B.A4 A E;let⟨m,i,d⟩:=Oz j false;exact⟨_,_,by simp[-List.append_assoc,E6,OA A av,q,Ai,r,c,u,D,p,m],i,((s.trans f).trans e).trans d⟩
def aLv(g:Gz b (n) o a)(f:t.Sm)(hv:AK t.Al av)(j:t.k=2)(i:t.name∈SR):Dn h F 132 [zm (zs (bi,0)),zo (Bc t av)] (.tuple []) bi (b):=by let c:=EX (L:=[[a2y],[a2B],[a2D],OO,[[112]],B2,SQ,[a2R],[[108,105]],jY,[a2T],[a2G]]) i Bi;rw[Bq] at c;let d:=D0 j fj i f av h;exact⟨_,_,by simp[-List.append_assoc,E6,OA f av,c,Ai,d],w,.refl⟩
end
def tj(w:RB h bi b F)(g:Gz b (n) o a)(r:t.Sm)(hv:AK t.Al av)(hk:t.k=2)(c:∀l∈[[a2y],[a2B],[a2D],OO,[[112]],B2,SQ,[a2R],[[108,105]],jY,[a2T],[a2G],SR],t.name∉l)(s:Dn h F 286 [zm (zs (bi,0)),zo (Bc t av)] (.tuple []) bi b'):Dn h F 132 [zm (zs (bi,0)),zo (Bc t av)] (.tuple []) bi (b'):=by rw[Bq] at c;let⟨h1,f,e,q,d⟩:=s;exact⟨_,_,by simp[-List.append_assoc,E6,OA r av,c,Ai,e],q,d⟩
def WR(b:t.Sm)(a:Ad):Nq t a [97] [[97]]/\Nq t a a2F Pq/\Nq t a a2P [a2P]/\Nq t a a2Y Ww/\Nq t a a4U rbW/\Nq t a a41 rpW/\Nq t a a4c Zo:=⟨nq aQO b a,nq ta b a,nq C_ b a,nq D_ b a,nq aCq b a,nq aCr b a,nq E_ b a⟩
def m7(g:Gz b (n+8*(4*(o+8)+10)) o a):Nm (b.CJ nm).a:=by
 rw[BS.CJ];split;.exact aLr g.nm
 .exact Nm.EB (m:=n) g.nm (Af _) (g.rm.le (by have:=g.AJ;omega))
def RB.find(w:RB h bi b F)(g:Gz b n o a)(nm:Aj):∃v,A8 h yx (zm (zs (bi,3)))=zs v/\BF cx 344 [v,z4 nm] h (.int z0 (D2 nm b.AX)) h/\(0<=D2 nm b.AX->∃x y,AB (.EM 3) [v,.int z0 (D2 nm b.AX)]=zs (.CO [.int z0 (b.AX.getD (D2 nm b.AX).toNat B9.zero).node,x,y])):=by
 obtain⟨j,i,c,tt,G,w,r,rfl⟩:=w;let ha:=g.rm.AX;let A:=r.aH1 Ab nm h;refine⟨c,w.l3,A,λs=>?_⟩;let⟨t,u,z⟩:=r;let Iq:zz t=zz b.AX:=by rw[<-u,Ao]
 let m:(D2 nm b.AX).toNat<zz b.AX:=by let⟨p,hp,e⟩:=P3 s;omega
 let d:=AY.BL (k:= z0) z (n:=(D2 nm b.AX).toNat) Ab;rw[Ft s] at d;let f:b.AX.getD (D2 nm b.AX).toNat B9.zero=(t[(D2 nm b.AX).toNat]'(by omega)).c:=by rw[A3,Ap m,EF];simp[<-u,C4]
 exact f▸⟨_,_,d⟩
def RB.ix(w:RB h bi b F)(g:Gz b n o a)x:∃v,A8 h yx (zm (zs (bi,3)))=zs v/\BF cx 216 [v,.int z0 x] h (.int z0 (Eo x b.AX)) h/\(0<=Eo x b.AX->∃u,BF cx 277 [v,.int z0 (Eo x b.AX)] h u h/\Đ h F bi 3 u {b with AX:=Bl b.AX (Eo x b.AX).toNat}):=by
 obtain⟨i,f,c,tt,G,w,m,rfl⟩:=w;let ha:=g.rm.AX;refine⟨c,w.l3,m.ix (n:=0) Ab x h,λq=>?_⟩;let j:(Eo x b.AX).toNat<zz b.AX:=by let⟨p,hp,e,_⟩:=HJ q;omega
 let⟨u,l,t,d⟩:=m.wo Ab j h;rw[Ft q] at l;exact⟨u,l,w.st rfl d,⟨i,f,u,tt,G,w.KJ,t,rfl⟩,Be⟩
section
variable(w:RB h bi b F)
def RB.out(g:Gz b n o a)x:∃v u d t,A8 h yx (zm (zs (bi,2)))=zs v/\BF cx 130 [v,.int z0 x] h (.tuple [u,d]) (h++t)/\Đ (h++t) F bi 2 u {b with AJ:=Cn x b.AJ}/\Dx h F (h++t) F:=let⟨v,l,i,c⟩:=w.lo;let⟨u,t,r,e⟩:=aFv i (by have:=g.rm.AJ;omega) x;⟨v,u,_,t,l,r,(c e t).1,(c e t).2⟩
def p_a(g:Gz b (n+8*(4*(o+8)+10)+4*(a+8)+5) o a)(ht:t.Sm)(hv:AK t.Al av)(hk:t.k=2)(hn:t.name∈[[97]]):Dn h F 286 [zm (zs (bi,0)),zo (Bc t av)] (.tuple []) bi (b.dd t):=by
 let I:=D0 hk aQO hn ht av h;let d:Gz b ((n+4*(a+8)+5)+8*(4*(o+8)+10)) o a:=g.dn Ab;let⟨v1,l1,H,Y⟩:=w.find d [97];unfold BS.dd BS.fmt;let m:=d.Ov;let T:Nm b.Ov.a:=by
  rw[BS.Ov];dsimp only;split;.exact g.nm
  .exact m7 (nm:=[97]) d
 by_cases M:D2 [97] b.AX<0
 .let e:b.Ov=b:=by rw[BS.Ov];dsimp only;rw[Ae M]
  rw[e];let⟨h2,F2,r2,i,f⟩:=Ew (n:=n+5) w (g.dn Ab);let⟨K,F3,j,P,N⟩:=Ql i (Gz.A4 (n:=n+5) (g.dn Ab)) ht hv;exact⟨_,_,by simp[Ij,T6,I,l1,H,(Ab:¬0<=D2 [97] b.AX),r2,j],P,f.trans N⟩
 .let h0:0<=D2 [97] b.AX:=by omega
  let⟨y1,y2,ea⟩:=Y h0;let⟨h2,F2,r2,i,f⟩:=hZ w d [97];let g2:=Gz.CJ (nm:=[97]) d;have e:b.Ov={b.CJ [97] with AX:=BS.JH (b.CJ [97]).AX (b.AX.getD (D2 [97] b.AX).toNat B9.zero).node,AJ:=Cn (b.AX.getD (D2 [97] b.AX).toNat B9.zero).node (b.CJ [97]).AJ}:=by rw[BS.Ov];dsimp only;rw[Aa M]
  generalize(b.AX.getD (D2 [97] b.AX).toNat B9.zero).node=nd at*;let⟨v3,l3,j,X⟩:=i.ix g2 nd;by_cases L:Eo nd (b.CJ [97]).AX<0
  .let p:BS.JH (b.CJ [97]).AX nd=(b.CJ [97]).AX:=Ae L;let⟨v5,B,Z,t5,J,G,⟨C,A,s⟩,v⟩:=i.out g2 nd;let c:RB (put (h2++t5) bi 2 B) bi b.Ov F2:=by rwa[e,p]
   let⟨V,F6,E,z,r⟩:=Ew (n:=n+5) c (m.dn Ab);let⟨U,F7,D,y,q⟩:=Ql z (Gz.A4 (n:=n+5) (m.dn Ab)) ht hv;exact⟨_,_,by simp[Ij,T6,I,l1,H,Aw h0,ea,r2,l3,j,(Ab:¬0<=Eo nd (b.CJ [97]).AX),J,G,C,E,D],y,(((f.trans v).trans s).trans r).trans q⟩
  .let K:0<=Eo nd (b.CJ [97]).AX:=by omega
   let p:BS.JH (b.CJ [97]).AX nd=Bl (b.CJ [97]).AX (Eo nd (b.CJ [97]).AX).toNat:=Aa L;let⟨Q,S,R,O,v⟩:=X K;let W:Gz {b.CJ [97] with AX:=Bl (b.CJ [97]).AX (Eo nd (b.CJ [97]).AX).toNat} (n+4*(a+8)+5) (o+8) (a+8):=by have:=g2.sub (AW _) (O9 (l:=(b.CJ [97]).AX) (x:=nd)) (Af _);rwa [p] at this
   let⟨v5,B,Z,t5,J,G,⟨C,A,s⟩,u⟩:=O.out W nd;let c:RB (put (put h2 bi 3 Q++t5) bi 2 B) bi b.Ov F2:=e▸p▸A
   let⟨V,F6,E,z,r⟩:=Ew (n:=n+5) c (m.dn Ab);let⟨U,F7,D,y,q⟩:=Ql z (Gz.A4 (n:=n+5) (m.dn Ab)) ht hv;exact⟨_,_,by simp[Ij,I,l1,H,Aw h0,ea,r2,l3,j,Aw K,S,R,J,G,C,E,D],y,((((f.trans v).trans u).trans s).trans r).trans q⟩
def aQV(g:Gz b (n+4*a+5) o a)(r:t.Sm)(x:AK t.Al av)(y:t.k=2)(u:t.name∈Pq):Dn h F 286 [zm (zs (bi,0)),zo (Bc t av)] (.tuple []) bi (b.fmt t):=by let c:=EX (L:=[[[97]]]) u Bi;rw[Bq] at c;let m:=D0 y ta u r av h;let d:Gz b (n+5+4*a) o a:=g.dn Ab;let⟨h2,F2,v,j,f⟩:=Ew w d;let⟨p,q,l,i,e⟩:=Ql j d.A4 r x;exact⟨_,_,by simp[Ij,WR r av,c,Ai,m,v,l],i,f.trans e⟩
def aLw(g:Gz b (n+8*(4*(o+a+8)+10)+8*a+100) o a)(z:t.Sm)(N:AK t.Al av)(Q:t.k=2)(P:t.name∈[a2P]):Dn h F 286 [zm (zs (bi,0)),zo (Bc t av)] (.tuple []) bi (b.de t):=by
 let j:=EX (L:=[[[97]],Pq]) P Bi;rw[Bq] at j;let p:=D0 Q C_ P z av h;let l:Gz b ((n+5+4*(a+8)+8*(4*(o+a+8)+10))+4*a) o a:=g.dn Ab;let⟨h2,F2,M,f,m⟩:=Ew w l;let J:=l.A4;let c:=iA f J 1 a2P;unfold BS.de;dsimp only;let B:b.A4.has [a2P]=b.A4.GA 1 (AS [a2P]):=rfl;rw[B];cases O:b.A4.GA 1 (AS [a2P])<;>rw[O] at c
 .rw[Aa AF];let⟨A,C,i,e,d⟩:=Ql f (J.dn (n':=n+5) Ab) z N;exact⟨_,_,by simp[Ij,WR z av,j,Ai,p,M,c,i],e,m.trans d⟩
 .rw[Ae rfl];let⟨E,H,y,v,s⟩:=hZ f J a2P;let q:=Gz.CJ (nm:=a2P) J;let⟨D,G,x,u,r⟩:=Ew v q;let⟨A,C,i,e,d⟩:=Ql u q.A4 z N;exact⟨_,_,by simp[Ij,WR z av,j,Ai,p,M,c,y,x,i],e,((m.trans s).trans r).trans d⟩
def aQW(g:Gz b (n+4*a+4) o a)(y:t.Sm)(B:AK t.Al av)(J:t.k=2)(D:t.name∈Ww):Dn h F 286 [zm (zs (bi,0)),zo (Bc t av)] (.tuple []) bi (b.S0 t):=by
 let m:=EX (L:=[[[97]],Pq,[a2P]]) D Bi;simp only[Bq] at m;let p:=D0 J D_ D y av h;let q:=aQR w g;let E:AB (.Df 1) [S a3a]=zs (.sl 1 ([a3a].map BY)):=mk1 _;let d:=f167 (h:=h) (DZ b.AJ) (Cc (ws:=[a3a])) AR;let c:Gz b (n+4+4*a) o a:=g.dn Ab;rw[BS.S0];cases C:AS [a3a] (DZ b.AJ)<;>rw[C] at d
 .rw[Aa AF];let⟨K,N,A,j,f⟩:=Ew w c;let⟨u,v,l,i,e⟩:=GC j c.A4 y B;exact⟨_,_,by simp only[Ac,Ij,abS,WR y av,m,Ai,p,q,E,d,A,l],i,f.trans e⟩
 .rw[Ae rfl];let⟨h1,x,s,H,r⟩:=Qi w c;let⟨K,N,A,j,f⟩:=Ew H c.Gk;let⟨u,v,l,i,e⟩:=GC j c.Gk.A4 y B;exact⟨_,_,by simp only[Ac,Ij,abS,WR y av,m,Ai,p,q,E,d,s,A,l],i,(r.trans f).trans e⟩
section
variable(g:Gz b (n+4) o a)(s:t.Sm)(y:AK t.Al av)(B:t.k=2)
def aWd(u:t.name∈rbW):Dn h F 286 [zm (zs (bi,0)),zo (Bc t av)] (.tuple []) bi (b.gI t):=by
 let i:=EX (L:=[[[97]],Pq,[a2P],Ww]) u Bi;rw[Bq] at i;let j:=D0 B aCq u s av h;let c:=iA w g 1 a3t;let q:(if t.name=[114,112]\/t.name=[114,116] then a4a else([]:Aj))=([]:Aj):=by simp[rbW,A0,DF,K0] at u;obtain e|e:=u<;>rw[e]<;>decide
 rw[BS.gI];rw[q];let p:b.has [a3t]=b.GA 1 (AS [a3t]):=rfl;rw[p];cases z:b.GA 1 (AS [a3t])<;>rw[z] at c
 .rw[Aa AF];let⟨C,E,x,f,d⟩:=GC w g s y;exact⟨_,_,by simp[Ij,WR s av,i,Ai,j,c,x],f,d⟩
 .rw[Ae rfl];let⟨h1,r,m,A,l⟩:=Qk w g ([]:Aj);let⟨C,E,x,f,d⟩:=GC A (g.I0 Co) s y;exact⟨_,_,by simp[Ij,WR s av,i,Ai,j,c,m,x],f,l.trans d⟩
def aWe(u:t.name∈rpW):Dn h F 286 [zm (zs (bi,0)),zo (Bc t av)] (.tuple []) bi (b.gI t):=by
 let i:=EX (L:=[[[97]],Pq,[a2P],Ww,rbW]) u Bi;rw[Bq] at i;let j:=D0 B aCr u s av h;let c:=iA w g 1 a3t;let q:(if t.name=[114,112]\/t.name=[114,116] then a4a else([]:Aj))=a4a:=by simp[rpW,A0,DF,K0] at u;obtain e|e:=u<;>rw[e]<;>decide
 rw[BS.gI];rw[q];let p:b.has [a3t]=b.GA 1 (AS [a3t]):=rfl;rw[p];cases z:b.GA 1 (AS [a3t])<;>rw[z] at c
 .rw[Aa AF];let⟨C,E,x,f,d⟩:=GC w g s y;exact⟨_,_,by simp[Ij,WR s av,i,Ai,j,c,x],f,d⟩
 .rw[Ae rfl];let⟨h1,r,m,A,l⟩:=Qk w g a4a;let⟨C,E,x,f,d⟩:=GC A (g.I0 Co) s y;exact⟨_,_,by simp[Ij,WR s av,i,Ai,j,c,m,x],f,l.trans d⟩
end
def aQX(g:Gz b (n+4*a+4) o a)(z:t.Sm)(G:AK t.Al av)(H:t.k=2)(D:t.name∈Zo):Dn h F 286 [zm (zs (bi,0)),zo (Bc t av)] (.tuple []) bi (b.NV t):=by
 let i:=EX (L:=[[[97]],Pq,[a2P],Ww,rbW,rpW]) D Bi;simp only[Bq] at i;let d:=D0 H E_ D z av h;let j:Gz b (n+4+4*a) o a:=g.dn Ab;let⟨h1,y,p,E,m⟩:=Ew w j;let M:t.name=a4l\/t.name=a4V:=by simpa[Zo] using D
 unfold BS.NV;dsimp only;by_cases q:t.name=a4l
 .let l:¬t.name=a4V:=by rw[q];decide
  rw[Ae q];let⟨J,N,A,f,e⟩:=mZ E j.A4 z G 3;cases B:t.sc
  .rw[Aa AF];exact⟨_,_,by let c:=WR z av;simp only[Nq,Bc,B] at c d A;simp[Ij,c,i,Ai,d,Bc,B,p,l,A],f,m.trans e⟩
  .rw[Ae rfl];let⟨v,x,u,s,r⟩:=Qi f (j.A4.Mf z.Al z.name);exact⟨_,_,by let c:=WR z av;simp only[Nq,Bc,B] at c d A;simp[Ij,c,i,Ai,d,Bc,B,p,l,A,u],s,(m.trans e).trans r⟩
 .let l:=M.resolve_left q;rw[Aa q];let⟨J,N,A,f,e⟩:=mZ E j.A4 z G 2;cases B:t.sc
  .rw[Aa AF];exact⟨_,_,by let c:=WR z av;simp only[Nq,Bc,B] at c d A;simp[Ij,c,i,Ai,d,Bc,B,p,Aw l,A],f,m.trans e⟩
  .rw[Ae rfl];let⟨v,x,u,s,r⟩:=Qi f (j.A4.Mf z.Al z.name);exact⟨_,_,by let c:=WR z av;simp only[Nq,Bc,B] at c d A;simp[Ij,c,i,Ai,d,Bc,B,p,Aw l,A,u],s,(m.trans e).trans r⟩
end
def aCC(w:RB h bi b F)(g:Gz b (n) o a)(r:t.Sm)(hv:AK t.Al av)(hk:t.k=2)(c:∀l∈[[[97]],Pq,[a2P],Ww,rbW,rpW,Zo],t.name∉l)(s:Dn h F 376 [zm (zs (bi,0)),zo (Bc t av)] (.tuple []) bi b'):Dn h F 286 [zm (zs (bi,0)),zo (Bc t av)] (.tuple []) bi (b'):=by rw[Bq] at c;let⟨h1,f,e,q,d⟩:=s;exact⟨_,_,by simp[Ij,WR r av,c,Ai,e],q,d⟩
end
end Go.Am
end
open Bool renaming not_eq_true→xi
section
namespace Go.Am
open Go
section
variable{h h':Ak}{bi:Nat}{b b':BS}{F:Nat->Prop}{n o a:Nat}{t:DE}{av:Ad}{nm:Aj}{ws:List Aj}
def Ra(b:t.Sm)(a:Ad):Nq t a a2W [a2W]/\Nq t a a2M Lk/\Nq t a a2K [a2K]/\Nq t a a3n TR/\Nq t a a27 [a27]/\Nq t a a3K SV/\Nq t a [104,114] [[104,114]]/\Nq t a a2U [a2U]/\Nq t a a3E [a3E]/\Nq t a a3h [a3h]/\Nq t a a3o [a3o]/\Nq t a a25 [a25]:=⟨nq fk b a,nq wI b a,nq iC b a,nq wM b a,nq fm b a,nq F_ b a,nq aH5 b a,nq YT b a,nq aCs b a,nq mX b a,nq iD b a,nq mY b a⟩
def RB.Cm(w:RB h bi b F)(g:Gz b n o a):∃e N m r,A8 h yx (zm (zs (bi,0)))=zs (zm (zs (e,0)))/\BF cx 275 [zm (zs (e,0)),.int z0 b.Cd] h tt h/\A8 h yx (zm (zs (e,0)))=zs (.CK N 0 m 13)/\AB (.EM 13) [.CK N 0 m 13,.int z0 b.Cd]=zs (zm (zs (N,r)))/\A8 h yx (zm (zs (N,r+10)))=zs (.bool (b.a.nd b.Cd).Cm):=by obtain⟨e,f,c,tt,G,w,hc,rfl⟩:=w;let⟨N,i,s,d,_⟩:=w.w;let l:=g.ok.Cd.1;let r:=IS (x:=b.Cd) d;rw[Ah l] at r;exact⟨e,N,zz s+1,nR b.Cd,w.l0,r,d.nodes,d.addr l,by rw[d.RM l AR,<-(d.pn l).2];rfl⟩
def fq{nm:Aj}{l:List Bb}{sp:Int}:(b.D5 nm l sp).fs=b.fs:=by
 rw[wx];split;.simp only[y3];split<;>rfl
 .rfl
def m8:(b.I2 t).fs=b.fs:=by unfold BS.I2 y7 BS.C3;split<;>exact fq
def fu:∀{l:List B9} {b:BS},(x0 l b).2.fs=b.fs
 |[],b=>rfl
 |x::l,b=>by rw[x0];exact(fu).trans fq
def wO:b.A4.fs=b.fs:=fu
def iE{nm:Aj}{l:List Bb}{sp:Int}:(b.D5 nm l sp).mode=b.mode:=by
 rw[wx];split;.simp only[y3];split<;>rfl
 .rfl
def iF:∀{l:List B9} {b:BS},(x0 l b).2.mode=b.mode
 |[],b=>rfl
 |x::l,b=>by rw[x0];exact(iF).trans iE
def iG:b.A4.mode=b.mode:=iF
def j1{x:Bb}{l:List Bb}:BS.Ja (x::l)=if x.name=a3Y then decide (Eb x.value=a3I) else BS.Ja l:=by
 unfold BS.Ja;rw[Ed];by_cases h:x.name=a3Y;.simp[h]
 .simp[h]
def aWf(j:t.Sm)(p:AK t.Al av)(h:Ak):BF cx 409 [zo (Bc t av)] h (.bool (BS.Ja t.Al)) h:=by
 let cR:=hK;let m:=p;let c:=AY.CQ m;let hb:=j.Al.1;simp[aFn,Bc];refine Bm (λn:Nat=>[ff,.int z0 n]) (λn l=>n<=zz t.Al/\l=h/\BS.Ja t.Al=BS.Ja (t.Al.drop n)) (λn=>zz t.Al-n) 0 rfl ⟨AZ _,rfl,rfl⟩ ?_;rintro n l ⟨hn,rfl,b⟩;obtain a|EC:=AQ n (zz t.Al)
 .let d:=AY.BL (k:= z0) m a;let Sj:=(j.Al.2 _ (AV a)).2;let e:=az t.Al[n].value Ab;rw[AI a,j1] at b;rw[Bb.row] at d;simp[c,(Ab:n<zz t.Al),d,e.BG rfl rfl,BB n];refine⟨λi=>?_,λi=>?_⟩;.rw[b,Ae i]
  .rw[Aa i] at b;exact yu (n+1) rfl ⟨a,rfl,b⟩ Ab
 .rw[AU EC] at b;simp[c,(Ab:¬n<zz t.Al),b];rfl
section
variable(w:RB h bi b F)
def aQY(g:Gz b (n+4*a+5) o a)(z:t.Sm)(H:AK t.Al av)(J:t.k=2)(B:t.name∈Lk):Dn h F 376 [zm (zs (bi,0)),zo (Bc t av)] (.tuple []) bi (b.B6 t):=by let d:=EX (L:=[[a2W]]) B Bi;rw[Bq] at d;let v:=D0 J wI B z av h;let c:Gz b (n+5+4*a) o a:=g.dn Ab;let⟨h1,y,u,C,j⟩:=Ew w c;let⟨h2,F2,D,p,i⟩:=GC C (c.A4.dn (n':=n+1+4) Ab) z H;let⟨v3,x,G,s,r,m,f⟩:=p.mark ((c.A4.dn (n':=n+1+4) Ab).C3 z).rm;let⟨q,l,e⟩:=Oz m false;exact⟨_,_,by simp[GK,AP,Ra z av,d,Ai,v,u,D,G,s,r,q],l,((j.trans i).trans f).trans e⟩
def aGu(g:Gz b (n+4) o a)(D:t.Sm)(J:AK t.Al av)(Q:t.k=2)(K:t.name∈[a2K]):Dn h F 376 [zm (zs (bi,0)),zo (Bc t av)] (.tuple []) bi (b.Q5 t):=by
 let s:=EX (L:=[[a2W],Lk]) K Bi;simp only[Bq] at s;let u:=D0 Q iC K D av h;let⟨C,N,m,rr,x,v,H,M,c⟩:=w.Cm g;let O:=w.Cg;unfold BS.Q5;dsimp only;by_cases E:(b.a.nd b.Cd).Cm=z8;.rw[E] at c;rw[Ae E];let⟨A,B,r,l,f⟩:=GC w g D J;let⟨q,j,e⟩:=Oz l false;let⟨p,i,d⟩:=EW j 9;exact⟨_,_,by simp[GK,AP,Ra D av,s,Ai,u,x,O,v,H,M,c,r,q,p],i,(f.trans e).trans d⟩
 .rw[Aa E];rw[xi] at E;rw[E] at c;let⟨h2,F2,P,z,y⟩:=J9 w g;let⟨A,B,r,l,f⟩:=GC z g.BT D J;let⟨q,j,e⟩:=Oz l false;let⟨p,i,d⟩:=EW j 9;exact⟨_,_,by simp[GK,AP,Ra D av,s,Ai,u,x,O,v,H,M,c,P,r,q,p],i,((y.trans f).trans e).trans d⟩
def aGv(g:Gz b (n+4*a+4) o a)(s:t.Sm)(z:AK t.Al av)(A:t.k=2)(v:t.name∈TR):Dn h F 376 [zm (zs (bi,0)),zo (Bc t av)] (.tuple []) bi ({b.A4.I2 t with fs:=false}):=by let c:=EX (L:=[[a2W],Lk,[a2K]]) v Bi;simp only[Bq] at c;let q:=D0 A wM v s av h;let d:Gz b (n+4+4*a) o a:=g.dn Ab;let⟨h1,r,p,x,i⟩:=Ew w d;let⟨h2,F2,y,l,f⟩:=X3 x d.A4 s z;let⟨m,j,e⟩:=Oz l false;exact⟨_,_,by simp[GK,Ra s av,c,Ai,q,p,y,m],j,(i.trans f).trans e⟩
def aGw(g:Gz b (n+4*a+4) o a)(B:t.Sm)(G:AK t.Al av)(C:t.k=2)(H:t.name∈[a2W]):Dn h F 376 [zm (zs (bi,0)),zo (Bc t av)] (.tuple []) bi ({b.A4.I2 {t with name:=a3N} with fs:=false}):=by
 let z:({t with name:=a3N}:DE).Sm:=B.rn AR;let A:=show a3N∈TR by decide
 let c:=EX (L:=[Lk,[a2K]]) A Bi;let u:=D0 C fk H B av h;let s:=Il wI (c _ AF) z av h;let r:=Il iC (c _ AF) z av h;let q:=D0 (t:={t with name:=a3N}) C wM A z av h;let d:Gz b (n+4+4*a) o a:=g.dn Ab;let⟨h1,v,p,D,i⟩:=Ew w d;let⟨h2,F2,E,l,f⟩:=X3 D d.A4 z G;let⟨m,j,e⟩:=Oz l false;exact⟨_,_,by simp[GK,u,s,r,q,p,E,m],j,(i.trans f).trans e⟩
def aGx(g:Gz b (n+4*a+4) o a)(v:t.Sm)(A:AK t.Al av)(D:t.k=2)(B:t.name∈[a27]):Dn h F 376 [zm (zs (bi,0)),zo (Bc t av)] (.tuple []) bi ({b.A4.I2 t with fs:=b.fs&&BS.Ja t.Al}):=by
 let i:=EX (L:=[[a2W],Lk,[a2K],TR]) B Bi;simp only[Bq] at i;let p:=D0 D fm B v av h;let q:Gz b (n+4+4*a) o a:=g.dn Ab;let⟨h1,s,m,C,l⟩:=Ew w q;let⟨h2,F2,z,e,j⟩:=X3 C q.A4 v A;let u:=e.l8.2;rw[m8,wO] at u;let r:=aWf v A h2;by_cases x:b.fs=z8;.rw[x] at u;let⟨f,d,c⟩:=Oz e (BS.Ja t.Al);rw[show(b.fs&&BS.Ja t.Al)=BS.Ja t.Al by rw[x,nA]];exact⟨_,_,by simp[GK,Ra v av,i,Ai,p,m,z,u,r,f],d,(l.trans j).trans c⟩
 .rw[xi] at x;rw[x] at u;let⟨f,d,c⟩:=Oz e false;rw[show(b.fs&&BS.Ja t.Al)=false by rw[x,iL]];exact⟨_,_,by simp[GK,Ra v av,i,Ai,p,m,z,u,f],d,(l.trans j).trans c⟩
def aQZ(g:Gz b (n+4) o a)(j:t.Sm)(q:AK t.Al av)(r:t.k=2)(m:t.name∈SV):Dn h F 376 [zm (zs (bi,0)),zo (Bc t av)] (.tuple []) bi ({b.I2 t with fs:=b.fs}):=by
 let c:=EX (L:=[[a2W],Lk,[a2K],TR,[a27]]) m Bi;simp only[Bq] at c;let i:=D0 r F_ m j av h;let⟨h2,F2,p,f,d⟩:=X3 w g j q;let e:({b.I2 t with fs:=b.fs}:BS)=b.I2 t:=by rw[<-m8]
 rw[e];exact⟨_,_,by simp[GK,Ra j av,c,Ai,i,p],f,d⟩
def aWg(g:Gz b (n+4) o a)(r:t.Sm)(y:AK t.Al av)(z:t.k=2)(u:t.name∈[[104,114]]):Dn h F 376 [zm (zs (bi,0)),zo (Bc t av)] (.tuple []) bi ({b.BT.I2 t with fs:=false}):=by let c:=EX (L:=[[a2W],Lk,[a2K],TR,[a27],SV]) u Bi;simp only[Bq] at c;let p:=D0 z aH5 u r av h;let⟨h1,q,m,v,f⟩:=J9 w g;let⟨h2,F2,x,j,e⟩:=X3 v g.BT r y;let⟨l,i,d⟩:=Oz j false;exact⟨_,_,by simp[GK,Ra r av,c,Ai,p,m,x,l],i,(f.trans e).trans d⟩
def tk(g:Gz b (n+4) o a)(B:t.Sm)(J:AK t.Al av)(K:t.k=2)(E:t.name∈[a2U]):Dn h F 376 [zm (zs (bi,0)),zo (Bc t av)] (.tuple []) bi ({b.DM t.name t.Al 2 with skip:=z8,fs:=false}):=by have d:=EX (L:=[[a2W],Lk,[a2K],TR,[a27],SV,[[104,114]]]) E Bi;simp only[Bq] at d;let⟨h1,C,A,H,m⟩:=GC w g B J;let⟨z,s,l⟩:=aCv H z8;let⟨y,c,j⟩:=aQP s 2;let⟨x,r,i⟩:=aLs c (b.C3 t).mode;let⟨v,q,f⟩:=Oz r false;obtain⟨u,p,e⟩:=EW q 8;refine⟨_,_,?_,p,((((m.trans l).trans j).trans i).trans f).trans e⟩;rw[Ac,GK];simp only[abS,↓reduceIte,Ra B av,d,Ai,D0 K YT E B av h,A,z,y,c.Cg.2.1,x,v,u]
def aQ0(g:Gz b (n+4*a+4) o a)(z:t.Sm)(E:AK t.Al av)(G:t.k=2)(B:t.name∈[a3E]):Dn h F 376 [zm (zs (bi,0)),zo (Bc t av)] (.tuple []) bi (({b.BT.A4 with fs:=false}:BS).DM t.name t.Al 3):=by let d:=EX (L:=[[a2W],Lk,[a2K],TR,[a27],SV,[[104,114]],[a2U]]) B Bi;simp only[Bq] at d;let u:=D0 G aCs B z av h;let c:Gz b (n+4+4*a) o a:=g.dn Ab;let⟨h1,y,s,C,j⟩:=J9 w c;let⟨h2,F2,D,p,i⟩:=Ew C c.BT;let⟨q,m,f⟩:=Oz p false;let H:Gz ({b.BT.A4 with fs:=false}:BS) (n+4) (o+a) a:=c.BT.A4.eq rfl rfl rfl rfl rfl;let⟨v,x,r,l,e⟩:=aCt m H z E 3;exact⟨_,_,by simp[GK,Ra z av,d,Ai,u,s,D,q,r],l,((j.trans i).trans f).trans e⟩
def aCD(g:Gz b (n+4) o a)(r:t.Sm)(v:AK t.Al av)(x:t.k=2)(u:t.name∈[a3h]):Dn h F 376 [zm (zs (bi,0)),zo (Bc t av)] (.tuple []) bi (({b with fs:=false}:BS).DM t.name t.Al 3):=by let c:=EX (L:=[[a2W],Lk,[a2K],TR,[a27],SV,[[104,114]],[a2U],[a3E]]) u Bi;simp only[Bq] at c;let m:=D0 x mX u r av h;let⟨j,i,e⟩:=Oz w false;let y:Gz ({b with fs:=false}:BS) (n+4) o a:=g.eq rfl rfl rfl rfl rfl;let⟨p,q,l,f,d⟩:=aCt i y r v 3;exact⟨_,_,by simp[GK,Ra r av,c,Ai,m,j,l],f,e.trans d⟩
def Ė(g:Gz b (n+4) o a)(m:t.Sm)(r:AK t.Al av)(s:t.k=2)(q:t.name∈[a3o]):Dn h F 376 [zm (zs (bi,0)),zo (Bc t av)] (.tuple []) bi (b.DM t.name t.Al 3):=by let c:=EX (L:=[[a2W],Lk,[a2K],TR,[a27],SV,[[104,114]],[a2U],[a3E],[a3h]]) q Bi;simp only[Bq] at c;let i:=D0 s iD q m av h;let⟨j,l,f,e,d⟩:=aCt w g m r 3;exact⟨_,_,by simp[GK,Ra m av,c,Ai,i,f],e,d⟩
def aCE(g:Gz b (n+4*a+4) o a)(E:t.Sm)(hv:AK t.Al av)(hk:t.k=2)(O:t.name∈[a25]):Dn h F 376 [zm (zs (bi,0)),zo (Bc t av)] (.tuple []) bi (b.SZ t):=by
 let l:=EX (L:=[[a2W],Lk,[a2K],TR,[a27],SV,[[104,114]],[a2U],[a3E],[a3h],[a3o]]) O Bi;simp only[Bq] at l;let v:=D0 hk mY O E av h;let A:Gz b (n+4+4*a) o a:=g.dn Ab;let⟨h1,C,u,w1,r⟩:=Ew w A;let⟨h2,F2,H,B,q⟩:=GC w1 A.A4 E hv;let⟨s,j,p⟩:=Oz B false;let J:A8 (put h2 bi 14 ff) yx (zm (zs (bi,4)))=zs (.int z0 b.mode):=by have:=j.Cg.2.1;rw[this];let e:({b.A4.C3 t with fs:=false}:BS).mode=b.mode:=iE.trans iG;rw[e]
 rw[BS.SZ];by_cases i:b.mode=9;.rw[Ae (yg i)];let⟨f,d,c⟩:=EW j 17;exact⟨_,_,by rw[Ac,GK];simp only[abS,↓reduceIte,Ra E av,l,Ai,v,u,H,s,J,Aw i,f],d,((r.trans q).trans p).trans c⟩
 by_cases m:b.mode=11;.rw[Ae (ys (yg m))];let⟨f,d,c⟩:=EW j 17;exact⟨_,_,by rw[Ac,GK];simp only[abS,↓reduceIte,Ra E av,l,Ai,v,u,H,s,J,i,Aw m,f],d,((r.trans q).trans p).trans c⟩
 by_cases x:b.mode=13;.rw[Ae (ys (ys (yg x)))];let⟨f,d,c⟩:=EW j 17;exact⟨_,_,by rw[Ac,GK];simp only[abS,↓reduceIte,Ra E av,l,Ai,v,u,H,s,J,i,m,Aw x,f],d,((r.trans q).trans p).trans c⟩
 by_cases y:b.mode=14;.rw[Ae (ys (ys (ys (yg y))))];let⟨f,d,c⟩:=EW j 17;exact⟨_,_,by rw[Ac,GK];simp only[abS,↓reduceIte,Ra E av,l,Ai,v,u,H,s,J,i,m,x,Aw y,f],d,((r.trans q).trans p).trans c⟩
 by_cases z:b.mode=15;.rw[Ae (ys (ys (ys (ys z))))];let⟨f,d,c⟩:=EW j 17;exact⟨_,_,by rw[Ac,GK];simp only[abS,↓reduceIte,Ra E av,l,Ai,v,u,H,s,J,i,m,x,y,Aw z,f],d,((r.trans q).trans p).trans c⟩
 rw[Aa (by simp[i,m,x,y,z])];let⟨f,d,c⟩:=EW j 16;exact⟨_,_,by rw[Ac,GK];simp only[abS,↓reduceIte,Ra E av,l,Ai,v,u,H,s,J,i,m,x,y,z,f],d,((r.trans q).trans p).trans c⟩
def aLx(g:Gz b (n+4*a+4) o a)(p:t.Sm)(u:AK t.Al av)(hk:t.k=2)(c:∀l∈[[a2W],Lk,[a2K],TR,[a27],SV,[[104,114]],[a2U],[a3E],[a3h],[a3o],[a25]],t.name∉l):Dn h F 376 [zm (zs (bi,0)),zo (Bc t av)] (.tuple []) bi (b.A4.C3 t):=by simp only[Bq] at c;let d:Gz b (n+4+4*a) o a:=g.dn Ab;let⟨h1,m,j,r,f⟩:=Ew w d;let⟨h2,F2,s,i,e⟩:=GC r d.A4 p u;exact⟨_,_,by simp[GK,Ra p av,c,Ai,j,s],i,f.trans e⟩
def aQ1(g:Gz b (n+1000) o a)(l:t.Sm)(q:AK t.Al av)(j:t.st [a2y]):Dn h F 40 [zm (zs (bi,0)),zo (Bc t av)] ff bi (b.Hq t):=by let m:=j.1;let e:=EX (L:=[Eu]) j.2 Bi;let f:=e Eu AF;let⟨h1,i,d,p,c⟩:=aCx w g l q m j.2;exact⟨_,_,by simp[MI,(Ab:¬t.k=5),(Ab:¬t.k=4),(Ab:¬t.k=6),Aw m,Gx J8.len (show zz t.name<9223372036854775807 by have:=l.name;omega),J8.w,Ag f,d],p,c⟩
end
def ė(o:t.k=3):b.CM t=
  (if t.name∈[a2I] then({b.Gk with mode:=6},false) else if t.name∈[AE] then(b.Cu,false) else if t.name∈[a2B,a2y,[98,114]] then b.Gk.again 6 else(b,false)):=by
 let st:∀a,¬t.st a:=λa h=>by have:=h.1;omega
 let en:∀a,t.en a↔t.name∈a:=λa=>⟨λh=>h.2,λh=>⟨o,h⟩⟩;let f:t.Xb gE↔¬(t.name∈[a2I]\/t.name∈[AE]\/t.name∈[a2B,a2y,[98,114]]):=by
  let e:t.name∈gE↔(t.name∈[a2I]\/t.name∈[AE]\/t.name∈[a2B,a2y,[98,114]]):=by simp[gE,AE,A0,DF,K0]
  rw[<-e];exact⟨λh=>h.2,λh=>⟨o,h⟩⟩
 let m:¬¬t.ok:=by rw[y9];omega
 let i:¬t.DQ:=Pc Ab;let l:¬t.k=1:=Ab;let j:¬t.k=4:=Ab;rw[y8];rw[Aa m,Aa l,Aa (st _)];by_cases c:t.name∈[a2I];.rw[Aa (λh=>(f.1 h) (yg c)),Ae c];simp[st,en,i,j,c,DW,BV]
 by_cases d:t.name∈[AE];.rw[Aa (λh=>(f.1 h) (ys (yg d))),Aa c,Ae d];simp[st,en,i,j,c,d,DW,BV]
 by_cases g:t.name∈[a2B,a2y,[98,114]];.rw[Aa (λh=>(f.1 h) (ys (ys g))),Aa c,Aa d,Ae g];simp[st,en,i,j,c,d,DW]
 .rw[Ae (f.2 (by simp[c,d,g,aLz,Ai])),Aa c,Aa d,Aa g]
section
variable(w:RB h bi b F)
def aGy(g:Gz b (n+1004) o a)(Y:t.Sm)(hv:AK t.Al av)(V:t.st [a2y]->Dn h F 40 [zm (zs (bi,0)),zo (Bc t av)] ff bi (b.Hq t)):Dn h F 37 [zm (zs (bi,0)),zo (Bc t av)] (.bool (b.CM t).2) bi (b.CM t).1:=by
 by_cases C:¬t.ok
 .let e:b.CM t=(b,false):=by rw[BS.CM];rw[Ae C]
  rw[e];exact⟨_,_,by rw[Ac,I7];simp only[By,↓reduceIte,fh C av h],w,.refl⟩
 let j:=mV (CI.1 C) av h;by_cases f:t.k=1
 .let e:b.CM t=(b,false):=by rw[BS.CM];rw[Aa C,Ae f]
  rw[e];exact⟨_,_,by rw[Ac,I7];simp only[abS,↓reduceIte,j,Aw f],w,.refl⟩
 by_cases G:t.DQ
 .let e:b.CM t=(b.Nf t.r,false):=by have W:=G.1;rw[BS.CM];rw[Aa C,Aa f,Aa (show¬t.st _ from λh=>by have:=h.1;omega),Aa (show¬t.Xb _ from λh=>by have:=h.1;omega),Ae G]
  rw[e];let⟨h1,B,d,Z,c⟩:=wG w (g.dn (n':=n+5) Ab) t.r;exact⟨_,_,by rw[Ac,I7];simp only[abS,↓reduceIte,j,f,z_ G av h,d],Z,c⟩
 let p:=Ui G av h;by_cases m:t.k=4
 .let e:b.CM t=(b.DL t.data 0,false):=by rw[BS.CM];rw[Aa C,Aa f,Aa (show¬t.st _ from λh=>by have:=h.1;omega),Aa (show¬t.Xb _ from λh=>by have:=h.1;omega),Aa G,Ae m]
  rw[e];let⟨h1,B,d,Z,c⟩:=N5 (s:=t.data) w (g.dn (n':=n+1) Ab) (by have:=Y.data;omega) 0;exact⟨_,_,by rw[Ac,I7];simp only[abS,↓reduceIte,j,f,p,Aw m,d],Z,c⟩
 by_cases A:t.k=2
 .by_cases P:t.name∈Eu;.exact A_ (n:=n) w g.ok (g.rm.le Ab) g.nm Y hv ⟨A,P⟩
  rw[X5 A];by_cases q:t.name∈[a2y];.rw[Ae q];let⟨h1,B,d,Z,c⟩:=V ⟨A,q⟩;exact⟨_,_,by rw[Ac,I7];simp only[abS,↓reduceIte,j,f,p,m,D0 A JI q Y av h,d],Z,c⟩
  let hg:∀ws:List Aj,(∀w∈ws,w∈Eu)->t.name∉ws:=λws hw hx=>P (hw _ hx);let D:=hg Ou AR;let T:=hg [a2S] AR;let S:=hg qv AR;let R:=hg [a2Z] AR;let Q:=hg [AE] AR;let z:=Il JI q Y av h;let y:=Il wJ D Y av h;let E:=Il iB T Y av h;let L:=Il aCo S Y av h;let K:=Il X4 R Y av h;rw[Aa q,Aa D,Aa T,Aa S,Aa R];by_cases I:t.name∈[a2J];.rw[Ae I];let⟨h1,B,d,Z,c⟩:=GC (n:=n) w (g.dn Ab) Y hv;let⟨x,v,u⟩:=EW Z 5;exact⟨_,_,by rw[Ac,I7];simp only[abS,↓reduceIte,j,f,p,m,z,y,E,L,K,D0 A LD I Y av h,d,x],v,c.trans u⟩
  let O:=Il LD I Y av h;let i:¬t.k=3:=Ab;let N:=mU (t:=t) i a2I av h;let M:=Il Hr Q Y av h;let TK:=mU (t:=t) i a2z av h;rw[Aa I,Aa Q];by_cases H:t.name∈[a2I];.rw[Ae H];exact⟨_,_,by rw[Ac,I7];simp only[abS,↓reduceIte,j,f,p,m,z,y,E,L,K,O,N,M,TK,D0 A NW H Y av h],w,.refl⟩
  rw[Aa H];let⟨h1,B,d,Z,c⟩:=Qi w g;let⟨x,v,u⟩:=EW Z 6;exact⟨_,_,by rw[Ac,I7];simp only[abS,↓reduceIte,j,f,p,m,z,y,E,L,K,O,N,M,TK,Il NW H Y av h,i,d,x,BS.again],v,c.trans u⟩
 let z:=λl=>mT (t:=t) A l av h;by_cases i:t.k=3
 .rw[ė i];by_cases J:t.name∈[a2I];.rw[Ae J];let⟨h1,B,d,Z,c⟩:=Qi w g;let⟨x,v,u⟩:=EW Z 6;refine⟨_,_,?_,v,c.trans u⟩;rw[Ac,I7];simp only[abS,↓reduceIte,j,f,p,m,z _,WO i NW J Y av h,d,x]
  rw[Aa J];let y:=YS NW J Y av h;by_cases q:t.name∈[AE];.rw[Ae q];let⟨h1,B,d,Z,c⟩:=aCl w g;exact⟨_,_,by rw[Ac,I7];simp only[abS,↓reduceIte,j,f,p,m,z _,y,WO i Hr q Y av h,d],Z,c⟩
  rw[Aa q];let E:=YS Hr q Y av h;by_cases D:t.name∈[a2B,a2y,[98,114]];.rw[Ae D];let⟨h1,B,d,Z,c⟩:=Qi w g;let⟨x,v,u⟩:=EW Z 6;exact⟨_,_,by rw[Ac,I7];simp only[abS,↓reduceIte,j,f,p,m,z _,y,E,Aw i,WO i wK D Y av h,d,x,BS.again],v,c.trans u⟩
  .rw[Aa D];exact⟨_,_,by rw[Ac,I7];simp only[abS,↓reduceIte,j,f,p,m,z _,y,E,Aw i,YS wK D Y av h],w,.refl⟩
 let e:b.CM t=b.Gk.again 6:=by let st:∀ws,¬t.st ws:=λws h=>A h.1;let en:∀ws,¬t.en ws:=λws h=>i h.1;let U:∀ws,¬t.Xb ws:=λws h=>i h.1;rw[BS.CM];simp only[C,f,G,m,st,en,U,DW]
 rw[e];let y:=λl=>mU (t:=t) i l av h;let⟨h1,B,d,Z,c⟩:=Qi w g;let⟨x,v,u⟩:=EW Z 6;exact⟨_,_,by rw[Ac,I7];simp only[abS,↓reduceIte,j,f,p,m,z _,y _,i,d,x,BS.again],v,c.trans u⟩
def aWh(g:Gz b (n+1000) o a)(M:t.Sm)(V:AK t.Al av)(K:t.st [a2y]->Dn h F 40 [zm (zs (bi,0)),zo (Bc t av)] ff bi (b.Hq t)):Dn h F 36 [zm (zs (bi,0)),zo (Bc t av)] (.bool (b.FH t).2) bi (b.FH t).1:=by
 rw[BS.FH];by_cases A:¬t.ok;.rw[Ae A];exact⟨_,_,by rw[Ac,SK];simp only[By,↓reduceIte,fh A av h],w,.refl⟩
 let e:=mV (CI.1 A) av h;rw[Aa A];by_cases c:t.k=1;.let m:¬t.DQ:=Pc Ab;rw[Ae c];exact⟨_,_,by rw[Ac,SK];simp only[abS,↓reduceIte,e,Ui m av h,Aw c],w,.refl⟩
 rw[Aa c];by_cases m:t.DQ;.rw[Ae m];exact⟨_,_,by rw[Ac,SK];simp only[By,↓reduceIte,e,z_ m av h],w,.refl⟩
 let j:=Ui m av h;rw[Aa m];by_cases u:t.Xb eHB;.let p:=u.1;rw[Ae u];let r:=λl=>mT (t:=t) Ab l av h;exact⟨_,_,by rw[Ac,SK];simp only[abS,↓reduceIte,e,j,c,(Ab:¬t.k=4),r _,Aw p,YS aCj u.2 M av h],w,.refl⟩
 rw[Aa u];by_cases i:t.k=4;.rw[Ae i];let⟨P,G,d,N,f⟩:=N5 (s:=t.data) w (g.dn (n':=n+1) Ab) (by have:=M.data;omega) 0;exact⟨_,_,by rw[Ac,SK];simp only[abS,↓reduceIte,e,c,j,Aw i,d],N,f⟩
 rw[Aa i];by_cases q:t.st [a2y];.rw[Ae q];let⟨P,G,d,N,f⟩:=K q;exact⟨_,_,by rw[Ac,SK];simp only[abS,↓reduceIte,e,c,j,i,D0 q.1 JI q.2 M av h,d],N,f⟩
 rw[Aa q];let r:BF cx 124 [zo (Bc t av),z4 a2y] h ff h:=by
  by_cases v:t.k=2;.exact Il JI (λh=>q ⟨v,h⟩) M av h
  .exact mT v _ av h
 by_cases x:t.st [a2I];.rw[Ae x];let⟨P,G,d,N,f⟩:=GC w (g.dn (n':=n+4) Ab) M V;rw[show b.Lh 1=b.a.len+1 from Ae AR];let⟨z,E,C⟩:=aCw N (b.a.len+1);let⟨y,D,B⟩:=EW E 4;exact⟨_,_,by rw[Ac,SK];simp only[abS,↓reduceIte,e,c,j,i,r,D0 x.1 NW x.2 M av h,d,z,y],D,(f.trans C).trans B⟩
 rw[Aa x];let I:BF cx 124 [zo (Bc t av),z4 a2I] h ff h:=by
  by_cases v:t.k=2;.exact Il NW (λh=>x ⟨v,h⟩) M av h
  .exact mT v _ av h
 let H:=aCh a2I h;let⟨P,G,d,N,f⟩:=GC (t:=Lj a2I) (av:= .slnil) w (g.dn (n':=n+4) Ab) (HM AR) (ys ⟨rfl,rfl⟩);rw[show b.Lh 1=b.a.len+1 from Ae AR];let⟨z,E,C⟩:=aCw N (b.a.len+1);let⟨y,D,B⟩:=EW E 4;refine⟨_,_,?_,D,(f.trans C).trans B⟩;rw[Ac,SK];by_cases p:t.k=3;.let J:=My λh=>u ⟨p,h⟩;simp[e,c,j,i,r,I,Aw p,WO p aCj J M av h,H,d,z,y,BS.again]
 .simp only[abS,↓reduceIte,e,c,j,i,r,I,p,H,d,z,y,BS.again]
def aWi(g:Gz b (n+1004) o a)(X:t.Sm)(hv:AK t.Al av)(P:t.st [a2y]->Dn h F 40 [zm (zs (bi,0)),zo (Bc t av)] ff bi (b.Hq t)):Dn h F 38 [zm (zs (bi,0)),zo (Bc t av)] (.bool (b.FI t).2) bi (b.FI t).1:=by
 let⟨hi,V,J,wi,D⟩:=aGy w g X hv P;let H:∀{l:Aj} {Y:List Aj},Wd l Y->¬t.st Y->BF cx 124 [zo (Bc t av),z4 l] h ff h:=λ{l Y} w c=>by let q:=Ē w X.name av h;rwa [Ag c] at q
 let R:∀{l:Aj} {Y:List Aj},Wd l Y->¬t.en Y->BF cx 125 [zo (Bc t av),z4 l] h ff h:=λ{l Y} w c=>by let q:=Qj w X.name av h;rwa [Ag c] at q
 rw[BS.FI];by_cases C:¬t.ok;.rw[Ae C];exact⟨_,_,by rw[Ac,Pn];simp only[By,↓reduceIte,fh C av h],w,.refl⟩
 let e:=mV (CI.1 C) av h;rw[Aa C];by_cases d:t.k=1;.rw[Ae d];exact⟨_,_,by rw[Ac,Pn];simp only[abS,↓reduceIte,e,Aw d],w,.refl⟩
 rw[Aa d];by_cases v:t.st sHN;.let K:=v.1;let O:=EX (L:=[[a2y],Ā]) v.2 Bi;let m:¬t.DQ:=Pc Ab;let i:¬t.k=3:=Ab;let f:¬t.k=4:=Ab;rw[Ae v];exact⟨_,_,by rw[Ac,Pn];simp only[By,↓reduceIte,T6,e,d,Il JI (O _ AF) X av h,mU i a2J av h,Ui m av h,f,Il td (O _ AF) X av h,D0 K aH3 v.2 X av h],w,.refl⟩
 rw[Aa v];by_cases u:t.Xb eNo;.let i:=u.1;let K:¬t.k=2:=Ab;let m:¬t.DQ:=Pc Ab;let f:¬t.k=4:=Ab;let j:=λl=>mT K l av h;let U:t.name∉[a2J]:=λh=>u.2 (by rw[Ax.1 h];decide);let T:t.name∉[[98,114]]:=λh=>u.2 (by rw[Ax.1 h];decide);rw[Ae u];exact⟨_,_,by rw[Ac,Pn];simp only[abS,↓reduceIte,e,d,j _,YS LD U X av h,Ui m av h,f,Aw i,YS zx T X av h],w,.refl⟩
 rw[Aa u];by_cases s:t.st [a2y];.rw[Ae s];let⟨h1,Q,p,Z,x⟩:=P s;exact⟨_,_,by rw[Ac,Pn];simp only[abS,↓reduceIte,e,d,D0 s.1 JI s.2 X av h,p],Z,x⟩
 rw[Aa s];let j:=H JI s;by_cases r:t.en [a2J];.rw[Ae r];let⟨h1,Q,p,Z,x⟩:=Qi w g;let⟨A,I,E⟩:=EW Z 4;exact⟨_,_,by rw[Ac,Pn];simp only[abS,↓reduceIte,e,d,j,WO r.1 LD r.2 X av h,p,A],I,x.trans E⟩
 rw[Aa r];let y:=R LD r;by_cases m:t.DQ;.rw[Ae m];exact⟨_,_,by rw[Ac,Pn];simp only[abS,↓reduceIte,e,d,j,y,z_ m av h,J],wi,D⟩
 rw[Aa m];let B:=Ui m av h;by_cases f:t.k=4;.rw[Ae f];exact⟨_,_,by rw[Ac,Pn];simp only[abS,↓reduceIte,e,d,j,y,B,Aw f,J],wi,D⟩
 rw[Aa f];by_cases z:t.st Ā;.rw[Ae z];exact⟨_,_,by rw[Ac,Pn];simp only[abS,↓reduceIte,e,d,j,y,B,f,D0 z.1 td z.2 X av h,J],wi,D⟩
 rw[Aa z];let N:=H td z;let M:=H aH3 v;let⟨h1,Q,p,Z,x⟩:=Qi w g;let⟨A,I,E⟩:=EW Z 4;refine⟨_,_,?_,I,x.trans E⟩;rw[Ac,Pn];by_cases i:t.k=3
 .let S:t.name∈[[98,114]]:=by let h1:t.name∈eNo:=My λh=>u ⟨i,h⟩;let h2:t.name∉[a2J]:=λh=>r ⟨i,h⟩;simp only[eNo,A0,DF,K0] at h1 h2⊢;exact h1.resolve_left h2
  simp only[abS,↓reduceIte,e,d,j,y,B,f,N,M,Aw i,WO i zx S X av h,p,A,BS.again]
 .simp only[abS,↓reduceIte,e,d,j,y,B,f,N,M,i,p,A,BS.again]
end
def OB{nm:Aj}{l:List Bb}{sp:Int}:(b.D5 nm l sp).head=b.head:=by
 rw[wx];split;.simp only[y3];split<;>rfl
 .rfl
def iH:b.Gk.head=b.head:=by rw[y7];split<;>rfl
def fw(a:t.st Eu):(b.CM t).1.head=b.head:=by
 let c:=EX (L:=[[a2y],[a2J],[a2I]]) a.2 Bi;rw[X5 a.1,Aa (c [a2y] AF)];split;.exact iH.trans OB
 split;.exact OB
 split;.exact OB
 split;.exact OB
 rw[Aa (c [a2J] AF)];split;.exact OB
 exact Aa (c [a2I] AF)▸iH
def aWj(w:RB h bi b F)(g:Gz b (n+1005) o a)(ht:t.Sm)(hv:AK t.Al av)(hh:t.st [a2y]->Dn h F 40 [.ptr (zs (bi,0)),.agg (Bc t av)] ff bi (b.Hq t)):Dn h F 39 [.ptr (zs (bi,0)),.agg (Bc t av)] (.bool (b.IQ t).2) bi (b.IQ t).1:=by
 have M:∀{l:Aj} {ws:List Aj},Wd l ws->¬t.st ws->BF cx 124 [.agg (Bc t av),.str l] h ff h:=λ{l ws} w c=>by have q:=Ē (t:=t) w ht.name av h;rwa [Ag c] at q
 have wN:∀{l:Aj} {ws:List Aj},Wd l ws->¬t.en ws->BF cx 125 [.agg (Bc t av),.str l] h ff h:=λ{l ws} w c=>by have q:=Qj (t:=t) w ht.name av h;rwa [Ag c] at q
 unfold BS.IQ;by_cases U:¬t.ok;.rw[Ae U];refine⟨_,_,?_,w,.refl⟩;rw[Ac,Nz];simp only[By,↓reduceIte,fh U av h]
 have j:=mV (CI.1 U) av h;rw[Aa U];by_cases f:t.k=1;.rw[Ae f];refine⟨_,_,?_,w,.refl⟩;rw[Ac,Nz];simp only[abS,↓reduceIte,j,Aw f]
 rw[Aa f];by_cases J:t.st [a2I];.have X:=J.1;have T:=EX (L:=[[a2y],[a2B],[a2D],Eu]) J.2 Bi;have C:¬t.DQ:=Pc Ab;have p:¬t.k=3:=Ab;have e:¬t.k=4:=Ab;rw[Ae J];refine⟨_,_,?_,w,.refl⟩;rw[Ac,Nz];simp only[By,↓reduceIte,T6,j,f,Ui C av h,e,Il JI (T _ AF) ht av h,Il WN (T _ AF) ht av h,Il No (T _ AF) ht av h,Il J8 (T _ AF) ht av h,mU p a2z av h,D0 X NW J.2 ht av h]
 rw[Aa J];by_cases H:t.Xb UT
 .have p:=H.1;have C:¬t.DQ:=Pc Ab;have e:¬t.k=4:=Ab;have A:=λl=>mT (t:=t) Ab l av h;have n2:t.name∉[a2B,a2y,[98,114]]:=λh=>H.2 (by have key:∀w∈[a2B,a2y,[98,114]],w∈UT:=AR;exact key _ h)
  rw[Ae H];refine⟨_,_,?_,w,.refl⟩;rw[Ac,Nz];simp only[abS,↓reduceIte,j,f,A _,Ui C av h,e,YS Hr (λh=>H.2 (by rw[Ax.1 h];decide)) ht av h,Aw p,YS wK n2 ht av h]
 rw[Aa H];by_cases C:t.DQ;.rw[Ae C];let⟨h1,K,d,w1,i⟩:=wG w (g.dn (n':=n+5) Ab) t.r;refine⟨_,_,?_,w1,i⟩;rw[Ac,Nz];simp only[abS,↓reduceIte,j,f,z_ C av h,d]
 rw[Aa C];have B:=Ui C av h;by_cases e:t.k=4;.rw[Ae e];let⟨h1,K,d,w1,i⟩:=N5 (s:=t.data) w (g.dn (n':=n+1) Ab) (by have:=ht.data;omega) 0;refine⟨_,_,?_,w1,i⟩;rw[Ac,Nz];simp only[abS,↓reduceIte,j,f,B,Aw e,d]
 rw[Aa e];by_cases G:t.st [a2y];.rw[Ae G];let⟨h1,K,d,w1,i⟩:=hh G;refine⟨_,_,?_,w1,i⟩;rw[Ac,Nz];simp only[abS,↓reduceIte,j,f,B,e,D0 G.1 JI G.2 ht av h,d]
 rw[Aa G];have A:=M JI G;by_cases Q:t.st [a2B];.rw[Ae Q];let⟨h1,K,d,w1,i⟩:=GC w (g.dn (n':=n+4) Ab) ht hv;let⟨s2,w2,x2⟩:=Oz w1 false;let⟨m,y,x⟩:=EW w2 7;refine⟨_,_,?_,y,(i.trans x2).trans x⟩;rw[Ac,Nz];simp only[abS,↓reduceIte,j,f,B,e,A,D0 Q.1 WN Q.2 ht av h,d,s2,m]
 rw[Aa Q];have N:=M WN Q;by_cases P:t.st [a2D];.rw[Ae P];let⟨h1,K,d,w1,i⟩:=GC w (g.dn (n':=n+4) Ab) ht hv;let⟨m,y,x⟩:=EW w1 20;refine⟨_,_,?_,y,i.trans x⟩;rw[Ac,Nz];simp only[abS,↓reduceIte,j,f,B,e,A,N,D0 P.1 No P.2 ht av h,d,m]
 rw[Aa P];have R:=M No P;by_cases D:t.st Eu
 .rw[Ae D];let⟨v,l2,wX,wr⟩:=w.lo;have cR:=hK;have ho:=g.rm.AJ;let⟨e1,ee1,Z⟩:=y6 (b:=40) wX Ab;let⟨u,ee2,hu⟩:=AY.If (b:=40) Z (AY.mk (z:=4) (AH:=[(BS.Ep b.head).row])) (by rw[Ao,A5];omega);have wS:B7 (b.AJ++[BS.Ep b.head]) u:=by show AY 4 ((b.AJ++[BS.Ep b.head]).map z1) u;rw[BJ];exact hu
  let⟨⟨m,y,x⟩,_⟩:=wr wS [];rw[Br] at m y x;let⟨b1,m1⟩:=WE (g.dn (n':=n+6+1) Ab);let⟨h4,F4,r4,w4,x4⟩:=A_ y b1 m1 g.nm ht hv D;let⟨b4,m4⟩:=TL b1 m1 ht D;let⟨v5,l5,Y,V⟩:=w4.lo;have O:=w4.Cg.2.2.2;rw[fw D] at O;let⟨u6,t6,r6,Ĭ⟩:=aFv (h:=h4) Y (by have:=m4.AJ;omega) b.head;let⟨⟨s7,w7,x7⟩,x6⟩:=V Ĭ t6;have em:AB (.Fc [I 0,I 0,S [],ff] [(0,1),(1,1),(2,1)]) [.int .i64 b.head,I 1,S a2I]=zs (.agg (BS.Ep b.head).row):=rfl;have p_:AB (.Df 4) [.agg (BS.Ep b.head).row]=zs (.sl 4 [(BS.Ep b.head).row]):=rfl;unfold BS.Js;refine⟨_,_,?_,w7,((x.trans x4).trans x6).trans x7⟩;rw[Ac,Nz];simp only[abS,↓reduceIte,j,f,B,e,A,N,R,D0 D.1 J8 D.2 ht av h,l2,ee1,w.Cg.2.2.2,em,p_,ee2,m,r4,l5,O,r6,s7]
 rw[Aa D];have W:=M J8 D;by_cases E:t.en [AE];.rw[Ae E];let⟨h1,K,d,w1,i⟩:=aGy (n:=n) w (g.dn Ab) ht hv hh;refine⟨_,_,?_,w1,i⟩;rw[Ac,Nz];simp only[abS,↓reduceIte,j,f,B,e,A,N,R,W,WO E.1 Hr E.2 ht av h,d]
 rw[Aa E];let⟨h1,K,d,w1,i⟩:=GC (t:=Lj a2B) (av:= .slnil) w (g.dn (n':=n+4) Ab) (HM AR) (.inr ⟨rfl,rfl⟩);let⟨m,y,x⟩:=EW w1 7;refine⟨_,_,?_,y,i.trans x⟩;rw[Ac,Nz];by_cases p:t.k=3
 .have s5:t.name∈[a2B,a2y,[98,114]]:=by exact((AR:∀w∈UT,w∈[AE]\/w∈[a2B,a2y,[98,114]]) _ (My λh=>H ⟨p,h⟩)).resolve_left (λh=>E ⟨p,h⟩)
  simp only[abS,↓reduceIte,j,f,B,e,A,N,R,W,wN Hr E,M NW J,Aw p,WO p wK s5 ht av h,aCh a2B h,d,m,BS.again]
 .simp only[abS,↓reduceIte,j,f,B,e,A,N,R,W,wN Hr E,M NW J,p,aCh a2B h,d,m,BS.again]
def Ę:List (List Aj):=[[a2y],[a2B],[a2D],OO,[[112]],B2,SQ,[a2R],[[108,105]],jY,[a2T],[a2G],SR]
def aGz:List (List Aj):=[[[97]],Pq,[a2P],Ww,rbW,rpW,Zo]
def aQ2:List (List Aj):=[[a2W],Lk,[a2K],TR,[a27],SV,[[104,114]],[a2U],[a3E],[a3h],[a3o],[a25]]
section
variable(w:RB h bi b F)(g:Gz b n o a)(ht:t.Sm)(hv:AK t.Al av)(hk:t.k=2){X:List Aj}(hn:t.name∈X)
def YU(d:(X.all λw=>(Ę++aGz).all λl=>decide (w∉l))=z8)(k:Dn h F 376 [zm (zs (bi,0)),zo (Bc t av)] (.tuple []) bi b'):Dn h F 132 [zm (zs (bi,0)),zo (Bc t av)] (.tuple []) bi b':=have c:=EX hn d;tj w g ht hv hk (λl a=>c l (AA.2 (yg a))) (aCC w g ht hv hk (λl a=>c l (AA.2 (ys a))) k)
def iI(d:(X.all λw=>Ę.all λl=>decide (w∉l))=z8)(f:Dn h F 286 [zm (zs (bi,0)),zo (Bc t av)] (.tuple []) bi b'):Dn h F 132 [zm (zs (bi,0)),zo (Bc t av)] (.tuple []) bi b':=have c:=EX hn d;tj w g ht hv hk c f
end
def tl:List Aj:=Eu++UU++B2++SQ++Pq++Lk++UW++SR++qw++gF++Zo++gG++Ww++Ll++[a2D,a2R,a2G,[97],a2P,a2K,a25]
section
variable(w:RB h bi b F)(g:Gz b (n+8*(4*(o+a+8)+10)+8*a+2000) o a)(ht:t.Sm)(hv:AK t.Al av)(hk:t.k=2)
def aWl(h0:t.name∉Eu):Dn h F 132 [zm (zs (bi,0)),zo (Bc t av)] (.tuple []) bi (b.opens t).1/\(b.opens t).2=false:=by
 let N:∀{m},m<=n+8*(4*(o+a+8)+10)+8*a+2000->Gz b m o a:=λh=>g.dn h;rw[BS.opens];rw[Aa h0];by_cases H:t.name∈UU
 .rw[Ae H];refine⟨?_,rfl⟩;have O:∀w∈UU,w∈OO\/w∈[[112]]:=Bi;obtain h|h:=O _ H
  .exact aGs (n:=n) w (N Ab) ht hv hk h
  .exact o_p (n:=n) w (N Ab) ht hv hk h
 rw[Aa H];by_cases G:t.name∈B2;.rw[Ae G];exact⟨ĕ (n:=n) w (N Ab) ht hv hk G,rfl⟩
 rw[Aa G];by_cases E:t.name∈SQ;.rw[Ae E];exact⟨aQU (n:=n) w (N Ab) ht hv hk E,rfl⟩
 rw[Aa E];by_cases B:t.name∈Pq;.rw[Ae B];exact⟨iI w g ht hv hk B Bi (aQV (n:=n) w (N Ab) ht hv hk B),rfl⟩
 rw[Aa B];by_cases A:t.name∈Lk;.rw[Ae A];exact⟨YU w g ht hv hk A Bi (aQY (n:=n) w (N Ab) ht hv hk A),rfl⟩
 rw[Aa A];by_cases z:t.name∈UW
 .rw[Ae z];refine⟨YU w g ht hv hk z Bi ?_,rfl⟩;rw[BS.empty];by_cases c:t.name=[104,114];.rw[Ae c];exact aWg (n:=n) w (N Ab) ht hv hk (Ax.2 c)
  rw[Aa c];by_cases d:t.name∈SV;.rw[Ae d];exact aQZ (n:=n) w (N Ab) ht hv hk d
  rw[Aa d];by_cases s:t.name=a27;.rw[Ae s];exact aGx (n:=n) w (N Ab) ht hv hk (Ax.2 s)
  rw[Aa s];by_cases r:t.name=a2W;.rw[Ae r];exact aGw (n:=n) w (N Ab) ht hv hk (Ax.2 r)
  .rw[Aa r];let O:∀w∈UW,w=[104,114]\/w∈SV\/w=a27\/w=a2W\/w∈TR:=Bi;obtain h|h|h|h|h:=O _ z
   .exact absurd h c
   .exact absurd h d
   .exact absurd h s
   .exact absurd h r
   .exact aGv (n:=n) w (N Ab) ht hv hk h
 rw[Aa z];by_cases D:t.name∈SR;.rw[Ae D];exact⟨aLv w g ht hv hk D,rfl⟩
 rw[Aa D];by_cases y:t.name∈qw
 .rw[Ae y];refine⟨?_,rfl⟩;rw[BS.raw];by_cases c:t.name=a2T;.rw[Ae c];exact fo (n:=n) w (N Ab) ht hv hk (Ax.2 c)
  rw[Aa c];by_cases d:t.name=a2U;.rw[Ae d];exact YU w g ht hv hk (Ax.2 d) Bi (tk (n:=n) w (N Ab) ht hv hk (Ax.2 d))
  rw[Aa d];by_cases s:t.name=a3E;.rw[Ae s];exact YU w g ht hv hk (Ax.2 s) Bi (aQ0 (n:=n) w (N Ab) ht hv hk (Ax.2 s))
  rw[Aa s];by_cases r:t.name=a3h;.rw[Ae r];exact YU w g ht hv hk (Ax.2 r) Bi (aCD (n:=n) w (N Ab) ht hv hk (Ax.2 r))
  .rw[Aa r];let J:t.name=a3o:=by simp only[qw,A0,DF,K0,c,d,s,r,false_or] at y;exact y
   exact YU w g ht hv hk (Ax.2 J) Bi (Ė (n:=n) w (N Ab) ht hv hk (Ax.2 J))
 rw[Aa y];by_cases C:t.name∈gF
 .rw[Ae C];let O:∀w∈gF,w∈rbW\/w∈rpW:=AR;obtain h|h:=O _ C
  .exact⟨iI w g ht hv hk h Bi (aWd (n:=n) w (N Ab) ht hv hk h),rfl⟩
  .exact⟨iI w g ht hv hk h Bi (aWe (n:=n) w (N Ab) ht hv hk h),rfl⟩
 rw[Aa C];by_cases R:t.name∈Zo;.rw[Ae R];exact⟨iI w g ht hv hk R Bi (aQX (n:=n) w (N Ab) ht hv hk R),rfl⟩
 rw[Aa R];by_cases T:t.name∈gG
 .rw[Ae T];refine⟨?_,rfl⟩;rw[BS.db];by_cases c:t.name=[108,105];.rw[Ae c];exact aWa (n:=n) w (N Ab) ht hv hk (Ax.2 c)
  .rw[Aa c];let d:t.name∈jY:=by simp only[gG,jY,A0,DF,K0] at T⊢;exact T.resolve_left c
   exact aWb (n:=n) w (N Ab) ht hv hk d
 rw[Aa T];by_cases Q:t.name∈Ww;.rw[Ae Q];exact⟨iI w g ht hv hk Q Bi (aQW (n:=n) w (N Ab) ht hv hk Q),rfl⟩
 rw[Aa Q];by_cases q:t.name∈Ll
 .rw[Ae q];refine⟨?_,rfl⟩;simp only[Ll,A0,DF,K0] at q;obtain e|e:=q
  .let K:b.MK t=b.Hq t:=by unfold BS.Hq BS.MK;rw[Ae e]
   rw[K];exact aCx (n:=n) w (N Ab) ht hv hk (Ax.2 e)
  .exact aLt (n:=n) w (N Ab) ht hv hk (Ax.2 e)
 rw[Aa q];by_cases x:t.name=a2D;.rw[Ae x];exact⟨tg (n:=n) w (N Ab) ht hv hk (Ax.2 x),rfl⟩
 rw[Aa x];by_cases v:t.name=a2R;.rw[Ae v];exact⟨aLu (n:=n) w (N Ab) ht hv hk (Ax.2 v),rfl⟩
 rw[Aa v];by_cases u:t.name=a2G;.rw[Ae u];exact⟨aCB (n:=n) w (N Ab) ht hv hk (Ax.2 u),rfl⟩
 rw[Aa u];by_cases p:t.name=[97];.rw[Ae p];exact⟨iI w g ht hv hk (Ax.2 p) Bi (p_a (n:=n) w (N Ab) ht hv hk (Ax.2 p)),rfl⟩
 rw[Aa p];by_cases j:t.name=a2P;.rw[Ae j];exact⟨iI w g ht hv hk (Ax.2 j) Bi (aLw (n:=n) w (N Ab) ht hv hk (Ax.2 j)),rfl⟩
 rw[Aa j];by_cases i:t.name=a2K;.rw[Ae i];exact⟨YU w g ht hv hk (Ax.2 i) Bi (aGu (n:=n) w (N Ab) ht hv hk (Ax.2 i)),rfl⟩
 rw[Aa i];by_cases f:t.name=a25;.rw[Ae f];exact⟨YU w g ht hv hk (Ax.2 f) Bi (aCE (n:=n) w (N Ab) ht hv hk (Ax.2 f)),rfl⟩
 rw[Aa f];let Zx:t.name∉tl:=by simp only[tl,AA,A0,DF,h0,H,G,E,B,A,z,D,y,C,R,T,Q,q,x,v,u,p,j,i,f,aLz,Ai]
 let O:∀l∈Ę++aGz++aQ2,∀w∈l,w∈tl:=Bi;let I:∀l∈Ę++aGz++aQ2,t.name∉l:=λl P hx=>Zx (O l P _ hx);exact⟨tj w g ht hv hk (λl P=>I l (AA.2 (yg (AA.2 (yg P))))) (aCC w g ht hv hk (λl P=>I l (AA.2 (yg (AA.2 (ys P))))) (aLx (n:=n) w (N Ab) ht hv hk (λl P=>I l (AA.2 (ys P))))),rfl⟩
end
def aQ5(w:RB h bi b F)(g:Gz b (n+8*(4*(o+a+8)+10)+8*a+2000) o a)(m:t.Sm)(p:AK t.Al av)(j:t.k=2):Dn h F 40 [zm (zs (bi,0)),zo (Bc t av)] (.bool (b.opens t).2) bi (b.opens t).1:=by
 let q:zz t.name<9223372036854775807:=by have:=m.name;omega
 by_cases c:t.name∈Eu
 .let e:b.opens t=b.CM t:=by rw[BS.opens];rw[Ae c]
  rw[e];let⟨s,i,f,l,d⟩:=A_ (n:=n) w g.ok (g.rm.le Ab) g.nm m p ⟨j,c⟩;exact⟨_,_,by simp[MI,(Ab:¬t.k=5),(Ab:¬t.k=4),(Ab:¬t.k=6),Aw j,Gx J8.len q,J8.w,Ah c,f],l,d⟩
 .let⟨⟨s,i,f,l,d⟩,e⟩:=aWl w g m p j c;exact e▸⟨_,_,by simp[MI,(Ab:¬t.k=5),(Ab:¬t.k=4),(Ab:¬t.k=6),Aw j,Gx J8.len q,J8.w,Ag c,f],l,d⟩
def aH6{c:BS}{v:Bool}(h:c.fs=v):({c with fs:=v}:BS)=c:=by rw[<-h]
section
variable(w:RB h bi b F)
def aH7(g:Gz b (n+4*a+5) o a)(y:t.k=5):Dn h F 40 [zm (zs (bi,0)),zo (Bc t av)] ff bi (b.Rp t):=by
 rw[BS.Rp];by_cases d:t.r=0;.rw[Ae d];exact⟨_,_,by simp[MI,Aw y,BR,d],w,.refl⟩
 rw[Aa d];let u:Gz b (n+5+4*a) o a:=g.dn Ab;let⟨h1,v,s,B,p⟩:=Ew w u;let⟨C,F2,A,j,m⟩:=wG B u.A4 t.r;let x:=j.l8.2;let q:=đ t av C;dsimp only;cases z:(b.A4.Nf t.r).fs with
 |false=>
  rw[z] at x;let⟨i,c,f⟩:=Oz j false;let e:(if t.DQ then b.A4.Nf t.r else({b.A4.Nf t.r with fs:=false}:BS))={b.A4.Nf t.r with fs:=false}:=by
   split;.exact(aH6 z).symm
   .rfl
  rw[e];exact⟨_,_,by simp[MI,Aw y,BR,d,s,A,x,i],c,(p.trans m).trans f⟩
 |true=>
  rw[z] at x;by_cases l:t.DQ;.rw[Ah l] at q;rw[Ae l];let⟨i,c,f⟩:=Oz j z8;rw[aH6 z] at c;exact⟨_,_,by simp[MI,Aw y,BR,d,s,A,x,q,i],c,(p.trans m).trans f⟩
  .rw[Ag l] at q;rw[Aa l];let⟨i,c,f⟩:=Oz j false;exact⟨_,_,by simp[MI,Aw y,BR,d,s,A,x,q,i],c,(p.trans m).trans f⟩
def aH8(g:Gz b (n+1) o a)(i:t.Sm)(j:t.k=4):Dn h F 40 [zm (zs (bi,0)),zo (Bc t av)] ff bi (b.DL t.data 0):=let⟨h1,e,d,f,c⟩:=N5 (s:=t.data) w g (by have:=i.data;omega) 0;⟨_,_,by simp[MI,(Ab:¬t.k=5),Aw j,d],f,c⟩
def aCF(g:¬t.k=2)(f:¬t.k=3)(e:¬t.k=4)(d:¬t.k=5)(c:¬t.k=6):Dn h F 40 [zm (zs (bi,0)),zo (Bc t av)] ff bi b:=⟨_,_,by simp[MI,g,f,e,d,c],w,.refl⟩
end
def fx(w:RB h bi b F)(g:Gz b n o a):Dn h F 135 [zm (zs (bi,0))] (.tuple []) bi b.c_:=by
 obtain⟨l,i,c,tt,G,w,z,rfl⟩:=w;let m:=g.rm.tm;let cR:=hK;let x:=w.t;let v:=AY.CQ x;by_cases d:b.tm=[]
 .let e:b.c_=b:=by
   let C:b.tm.dropLast=b.tm:=by rw[d];rfl
   rw[BS.c_];rw[C]
  rw[e];exact⟨_,_,by simp only[Ac,xn,By,T6,w.l6,v,show¬0<(zz b.tm:Int) by rw[d];decide],⟨l,i,c,tt,G,w,z,rfl⟩,.refl⟩
 .let hp:=Du.2 d;let⟨r,j,u⟩:=wj (k:= z0) x (n:=zz b.tm-1) Ab;rw[(Ab:(zz b.tm-1:Nat)=(zz b.tm:Int)-1)] at j;let q:b.tm.take (zz b.tm-1)=b.tm.dropLast:=(Lr ..).symm;rw[q] at u;let⟨f,p,B⟩:=y6 (b:=8) u (by rw[iM];omega);let y:=B;exact⟨_,_,by simp only[Ac,xn,abS,w.l6,v,(Ab:0<(zz b.tm:Int)),Db (zz b.tm) 1,j,p,w.st (k:=6) rfl (AY.cells y)],⟨l,i,c,f,G,w.fQ y,z,rfl⟩,Be⟩
def RB.Ey(w:RB h bi b F)(g:Gz b (n+1) o a)m:∃z c v u x,BF cx 135 [zm (zs (bi,0))] h (.tuple []) z/\A8 z yx (zm (zs (bi,6)))=zs v/\AB (xp 1 8) [.slnil,v]=zs u/\AB (xp 1 8) [u,.sl 1 [BM m]]=zs x/\
  Cv z 1 (zm (zs (bi,6))) x=zs (put z bi 6 x)/\Cv (put z bi 6 x) 1 (zm (zs (bi,4))) (.int z0 m)=zs (put (put z bi 6 x) bi 4 (.int z0 m))/\RB (put (put z bi 6 x) bi 4 (.int z0 m)) bi (b.Ey m).1 c/\Dx h F (put (put z bi 6 x) bi 4 (.int z0 m)) c:=by
 let⟨z,c,q,G,f⟩:=fx w g;let J:Gz b.c_ (n+1) o a:=g.sub (AW _) (AW _) (by rw[iM];omega);let⟨H,k,D,r,y,s,p,j,e⟩:=G.gS J.rm m;let⟨l,i,d⟩:=EW j m;exact⟨z,c,H,k,D,q,r,y,s,p,l,i,(f.trans e).trans d⟩
def aH9:Wd a2V sT1:=GG AR Bi Bi
def aCG:Wd a4h [a4h]:=GG AR Bi Bi
def aIa:Wd [116,114] [[116,114]]:=GG AR Bi Bi
def aIb:Wd a4F sTd:=GG AR Bi Bi
def aQ6(w:RB h bi b F)(g:Gz b (n+4*a+1005) o a)(ht:t.Sm)(hv:AK t.Al av):Dn h F 42 [zm (zs (bi,0)),zo (Bc t av)] (.bool (b.EP t).2) bi (b.EP t).1:=by
 have hl:t.name.length<9223372036854775807:=by have:=ht.name;omega
 rw[BS.EP];by_cases L:¬t.ok;.rw[Ae L];exact⟨_,_,by rw[Ac,LZ];simp only[By,↓reduceIte,fh L av h],w,.refl⟩
 let f:=mV (CI.1 L) av h;rw[Aa L];by_cases d:t.k=5;.rw[Ae d];let⟨h1,E,c,w1,z⟩:=aH7 (n:=n) (av:=av) w (g.dn Ab) d;exact⟨_,_,by rw[Ac,LZ];simp only[abS,↓reduceIte,f,Aw d,c],w1,z⟩
 rw[Aa d];by_cases e:t.k=4;.rw[Ae e];let⟨h1,E,c,w1,z⟩:=aH8 (n:=n) (av:=av) w (g.dn Ab) ht e;exact⟨_,_,by rw[Ac,LZ];simp only[abS,↓reduceIte,f,d,Aw e,c],w1,z⟩
 rw[Aa e];by_cases i:t.k=1;.rw[Ae i];let⟨h1,E,c,w1,z⟩:=aCF (t:=t) (av:=av) w Ab Ab Ab Ab Ab;exact⟨_,_,by rw[Ac,LZ];simp only[abS,↓reduceIte,f,d,e,Aw i,c],w1,z⟩
 rw[Aa i];by_cases K:t.st Eu;.rw[Ae K];let⟨h1,E,c,w1,z⟩:=A_ (n:=n) w g.ok (g.rm.le Ab) g.nm ht hv K;exact⟨_,_,by rw[Ac,LZ];simp only[abS,↓reduceIte,f,d,e,i,D0 K.1 J8 K.2 ht av h,c],w1,z⟩
 rw[Aa K];let B:BF cx 124 [zo (Bc t av),z4 a2w] h ff h:=by let q:=Ē (t:=t) J8 ht.name av h;rwa [Ag K] at q
 by_cases J:t.en [AE];.rw[Ae J];let l:=J.1;let⟨h1,E,c,w1,z⟩:=aGy (n:=n) w (g.dn Ab) ht hv (λhs=>absurd hs.1 Ab);exact⟨_,_,by rw[Ac,LZ];simp only[abS,↓reduceIte,f,d,e,i,B,WO J.1 Hr J.2 ht av h,c],w1,z⟩
 rw[Aa J];let G:BF cx 125 [zo (Bc t av),z4 a2z] h ff h:=by let q:=Qj (t:=t) Hr ht.name av h;rwa [Ag (show¬t.en [a2z] from J)] at q
 by_cases s:t.k=2
 .let l:¬t.k=3:=by omega
  let H:¬t.k=6:=Ab;let gf:Gz b (n+1) o a:=g.dn Ab;by_cases y:t.name∈sT1;.rw[Ae ⟨s,y⟩];let⟨h1,E,v,u,x,c,j,D,C,A,r,p,m⟩:=w.Ey gf 9;let em:AB (.Df 1) [I 9]=zs (.sl 1 [BM 9]):=rfl;exact⟨_,_,by rw[Ac,LZ];simp only[abS,↓reduceIte,f,d,e,i,B,G,l,H,D0 s aH9 y ht av h,c,j,D,em,C,A,r,BS.Ey,BS.again],p,m⟩
  rw[Aa (show¬t.st sT1 from λh=>y h.2)];let M:=Il aH9 y ht av h;by_cases Q:t.name∈[a4h];.rw[Ae ⟨s,Q⟩];let⟨h1,E,v,u,x,c,j,D,C,A,r,p,m⟩:=w.Ey gf 12;let em:AB (.Df 1) [I 12]=zs (.sl 1 [BM 12]):=rfl;exact⟨_,_,by rw[Ac,LZ];simp only[abS,↓reduceIte,f,d,e,i,B,G,l,H,M,D0 s aCG Q ht av h,c,j,D,em,C,A,r,BS.Ey,BS.again],p,m⟩
  rw[Aa (show¬t.st [a4h] from λh=>Q h.2)];let U:=Il aCG Q ht av h;by_cases P:t.name∈[[116,114]];.rw[Ae ⟨s,P⟩];let⟨h1,E,v,u,x,c,j,D,C,A,r,p,m⟩:=w.Ey gf 13;let em:AB (.Df 1) [I 13]=zs (.sl 1 [BM 13]):=rfl;exact⟨_,_,by rw[Ac,LZ];simp only[abS,↓reduceIte,f,d,e,i,B,G,l,H,M,U,D0 s aIa P ht av h,c,j,D,em,C,A,r,BS.Ey,BS.again],p,m⟩
  rw[Aa (show¬t.st [[116,114]] from λh=>P h.2)];let V:=Il aIa P ht av h;by_cases O:t.name∈sTd;.rw[Ae ⟨s,O⟩];let⟨h1,E,v,u,x,c,j,D,C,A,r,p,m⟩:=w.Ey gf 14;let em:AB (.Df 1) [I 14]=zs (.sl 1 [BM 14]):=rfl;exact⟨_,_,by rw[Ac,LZ];simp only[abS,↓reduceIte,f,d,e,i,B,G,l,H,M,U,V,D0 s aIb O ht av h,c,j,D,em,C,A,r,BS.Ey,BS.again],p,m⟩
  rw[Aa (show¬t.st sTd from λh=>O h.2),Ae s];let q6:=Il aIb O ht av h;let⟨h1,E,v,u,x,c,j,D,C,A,r,p,m⟩:=w.Ey gf 7;let em:AB (.Df 1) [I 7]=zs (.sl 1 [BM 7]):=rfl;exact⟨_,_,by rw[Ac,LZ];simp only[abS,↓reduceIte,f,d,e,i,B,G,l,H,M,U,V,q6,c,j,D,em,C,A,r,BS.Ey,BS.again],p,m⟩
 let st:∀ws,¬t.st ws:=λws h=>s h.1;rw[Aa (st _),Aa (st _),Aa (st _),Aa (st _),Aa s];by_cases l:t.k=3;.rw[Ae l];exact⟨_,_,by rw[Ac,LZ];simp only[abS,↓reduceIte,f,d,e,i,B,G,Aw l],w,.refl⟩
 rw[Aa l];let H:t.k=6:=by have:=CI.1 L;rw[DE.ok] at this;omega
 let⟨v,j,wX,wr⟩:=w.lo;have ho:=g.rm.AJ;let c:=aAW (h:=h) wX Ab AE;rw[BS.UX];by_cases N:b.Pv
 .rw[Ae N];let y:¬A7 (AS [AE]) b.AJ<0:=by rw[BS.Pv] at N;omega
  let⟨u,x,r2,hu⟩:=f85 (h:=h) wX Ab (Cc (ws:=[AE])) AR;rw[<-Ld] at hu;let⟨⟨r,p,m⟩,Z⟩:=wr hu x;let g3:Gz {b with AJ:=Dg Cl (AS [AE]) b.AJ} (n+4*a+1005) o a:=g.I0 Co;let⟨v4,u4,l4,r4,s4,w4,Y⟩:=p.lc g3;let W:Gz {b with AJ:=Dg Cl (AS [AE]) b.AJ,AX:=Et b.AX} (n+4*a+1005) o a:=g3.sub (AW _) (B8 _ _) (Af _);let⟨h5,F5,r5,w5,X⟩:=fx w4 W;let g5:Gz ({b with AJ:=Dg Cl (AS [AE]) b.AJ,AX:=Et b.AX}:BS).c_ (n+4*a+1005) o a:=W.sub (AW _) (AW _) (by rw[iM];omega);let⟨h6,F6,T,S,R⟩:=aGr w5 g5;exact⟨_,_,by rw[Ac,LZ];simp only[AE] at c r2 y;simp only[abS,↓reduceIte,f,d,e,i,B,G,l,Aw H,j,c,y,mk1,r2,r,l4,r4,s4,r5,T],S,(((Z.trans m).trans Y).trans X).trans R⟩
 .rw[Aa N];let y:A7 (AS [AE]) b.AJ<0:=by rw[BS.Pv] at N;omega
  let⟨h6,F6,T,S,R⟩:=aCu w;exact⟨_,_,by rw[Ac,LZ];simp only[AE] at c y;simp only[abS,↓reduceIte,f,d,e,i,B,G,l,Aw H,j,c,Aw y,T],S,R⟩
def aWm(w:RB h bi b F)(g:Gz b (n+8*(4*(o+a+8)+10)+8*a+2000) o a)(v:t.Sm)(z:AK t.Al av):Dn h F 40 [zm (zs (bi,0)),zo (Bc t av)] (.bool (b.L5 t).2) bi (b.L5 t).1:=by
 rw[BS.L5];by_cases p:¬t.ok;.rw[Ae p];let h0:¬(1<=t.k/\t.k<=6):=p;exact aCF w Ab Ab Ab Ab Ab
 rw[Aa p];by_cases d:t.k=5;.rw[Ae d];exact aH7 (n:=n) w (g.dn Ab) d
 rw[Aa d];by_cases e:t.k=4;.rw[Ae e];exact aH8 (n:=n) w (g.dn Ab) v e
 rw[Aa e];by_cases f:t.k=6
 .rw[Ae f];obtain⟨u,s,c,tt,G,y,hc,rfl⟩:=id w;let C:=y.t;let A:=AY.CQ C;by_cases q:0<zz b.tm;.rw[Ae q];let⟨D,r,m,x,l⟩:=aQ6 (n:=n) w (g.dn Ab) v z;refine⟨_,_,?_,x,l⟩;simp only[Ac,MI,abS,d,e,Aw f,y.l6,A,(Ab:0<(b.tm.length:Int)),m]
  .rw[Aa q];let⟨D,r,m,x,l⟩:=aCu w;exact⟨_,_,by simp only[Ac,MI,abS,d,e,Aw f,y.l6,A,(Ab:¬0<(b.tm.length:Int)),m],x,l⟩
 rw[Aa f];by_cases j:t.k=2;.rw[Ae j];exact aQ5 w g v z j
 rw[Aa j];by_cases i:t.k=3;.rw[Ae i];exact aQN w g v z i
 exact Aa i▸aCF w j i e d f
end
end Go.Am
end
open Nat renaming reduceLeDiff→zt
namespace Go.Am
open Go
set_option maxRecDepth 100000
section
variable{h h':Ak}{C wi:Nat}{b b':BS}{F D:Nat->Prop}{n o a j m:Nat}{t:DE}{E:Ad}{r:Int}
def rnO(r:Int):FuncId:=if r=1 then 34 else if r=2 then 35 else if r=3 then 36 else if r=4 then 37 else if r=5 then 38 else if r=6 then 39 else if r=7 then 40 else if r=8 then 41 else 42
def aQ7(h1:1<=r)(h2:r<=9):r=1\/r=2\/r=3\/r=4\/r=5\/r=6\/r=7\/r=8\/r=9:=Ab
section
variable(w:RB h C b F)(g:Gz b (n+8*(4*(o+a+8)+10)+8*a+2000) o a)(ht:t.Sm)(hp:t.Ho.length<=AN)(hv:AK t.Al E)
def tn(p:1<=r)(l:r<=9):
  Dn h F (rnO r) [zm (zs (C,0)),zo (Bc t E)] (.bool (b.WL r t).2) C (b.WL r t).1:=by
 let f:∀{m},m<=8*(4*(o+a+8)+10)+8*a+2000->Gz b (n+m) o a:=λhm=>g.dn Ab;let c:t.st [a2y]->Dn h F 40 [zm (zs (C,0)),zo (Bc t E)] ff C (b.Hq t):=λk=>aQ1 w (f Ab) ht hv k;obtain rfl|rfl|rfl|rfl|rfl|rfl|rfl|rfl|rfl:=aQ7 p l
 .exact aV6 w (f Ab) ht hp hv
 .exact aV5 w (f Ab) ht hv
 .exact aWh w (f Ab) ht hv c
 .exact aGy w (f Ab) ht hv c
 .exact aWi w (f Ab) ht hv c
 .exact aWj w (f Ab) ht hv c
 .exact aWm w g ht hv
 .exact aV1 w (f Ab) ht hv
 .exact aQ6 w (g.dn (n':=n+4*a+1005) Ab) ht hv
def aWn:
  Dn h F 33 [zm (zs (C,0)),zo (Bc t E)] (.bool (b.apply Q9 t).2) C (b.apply Q9 t).1:=by
 let a:=w.Cg.2.1;rw[sk];by_cases c:1<=b.mode/\b.mode<=8;.let e:U5 b.mode=b.mode:=Ae c;rw[e];let⟨j,D,q,i,f⟩:=tn w g ht hp hv c.1 (Ab:b.mode<=9);exact⟨j,D,by let z:b.mode=1\/b.mode=2\/b.mode=3\/b.mode=4\/b.mode=5\/b.mode=6\/b.mode=7\/b.mode=8:=Ab;rw[Ac,nu];obtain e|e|e|e|e|e|e|e:=z<;>rw[e] at a q⊢<;>simp[a]<;>exact(q _ _).2 (kC ⟨rfl,rfl,rfl⟩),i,f⟩
 .by_cases d:b.mode=18
  .let e:U5 b.mode=9:=by rw[U5];rw[Aa c,Ae d]
   rw[e];let⟨j,D,q,i,f⟩:=tn (r:=9) w g ht hp hv AR AR;exact⟨j,D,by rw[Ac,nu];rw[d] at a;simp[a];exact(q _ _).2 (kC ⟨rfl,rfl,rfl⟩),i,f⟩
  .let e:U5 b.mode= -1:=by rw[U5];rw[Aa c,Aa d]
   exact e▸⟨_,_,by let y:¬b.mode=1:=Ab;let x:¬b.mode=2:=Ab;let v:¬b.mode=3:=Ab;let u:¬b.mode=4:=Ab;let s:¬b.mode=5:=Ab;let p:¬b.mode=6:=Ab;let l:¬b.mode=7:=Ab;let k:¬b.mode=8:=Ab;rw[Ac,nu];simp[abS,a,y,x,v,u,s,p,l,k,d,BS.WL],w,.refl⟩
def aGA(H:zz t.Al<=1000000):
  Dn h F 9 [zm (zs (C,0)),zo (.int z0 r::Bc t E)] (.bool (b.su r t).2) C (b.su r t).1:=by
 let⟨Xa,j,m⟩:=aLc hv H;let d:=m h;simp only[Bc] at d;rw[BS.su];by_cases f:r=0;.rw[Ae f,f];let⟨a,D,q,k,i⟩:=aWn (n:=n) w g ht hp j;exact⟨a,D,by simp only[Bc] at q;rw[Ac,aAy];simp[abS,Nat.reduceLeDiff,↓reduceIte,Bc,d,q],k,i⟩
 rw[Aa f];by_cases c:1<=r/\r<=9;.let⟨a,D,q,k,i⟩:=tn (n:=n) w g ht hp j c.1 c.2;exact⟨a,D,by simp only[Bc] at q;rw[Ac,aAy];rcases aQ7 c.1 c.2 with e|e|e|e|e|e|e|e|e<;>subst e<;>simp[abS,Nat.reduceLeDiff,↓reduceIte,Bc,d]<;>exact(q _ _).2 (kC ⟨rfl,rfl,rfl⟩),k,i⟩
 .let A:¬r=1:=by omega
  let z:¬r=2:=Ab;let y:¬r=3:=Ab;let x:¬r=4:=Ab;let v:¬r=5:=Ab;let u:¬r=6:=Ab;let s:¬r=7:=Ab;let p:¬r=8:=Ab;let l:¬r=9:=Ab;let B:b.WL r t=(b,false):=by simp[wt,A,z,y,x,v,u,s,p,l]
  rw[B];exact⟨_,_,by rw[Ac,aAy];simp[abS,Nat.reduceLeDiff,↓reduceIte,Bc,d,f,A,z,y,x,v,u,s,p,l],w,.refl⟩
end
end
def ę(s:FX){av:Ad}(o:AK s.Al av){l:List QO}{v:Ad}(ho:cz l v)(hr:∀x∈l,-2147483648<=x.q.r/\x.q.r<=2147483647){c:List (Int×DE×Ad)}{v2:Ad}(hs:AY 13 (c.map hC) v2)(hp:∀p∈c,aGe p.2):Ev cx 3 [zo (P7 s av),v,v2] [] λr _=>r= .bool z8:=by
 let A:=aVL s o ho [];rw[P7] at A;let bM:av.cells=[av]:=AY.cells o;let y:=AY.CQ hs;unfold Ev;rw[aNu,P7];by_cases z:Qb l 40/\YL s;rotate_left;.rw[Ag z] at A;simp only[abS,bM,A,vZ.BG rfl rfl];exact⟨_,rfl,rfl⟩
 rw[Ah z] at A;by_cases V:zz c<=40;rotate_left;.simp only[abS,bM,A,y,(Ab:40<(c.length:Int)),vZ.BG rfl rfl];exact⟨_,rfl,rfl⟩
 simp only[abS,Nat.reduceLeDiff,↓reduceIte,AP,bM,A,y,(Ab:¬(40:Int)<(c.length:Int))];refine Bm (λk:Nat=>[ff,.int z0 k]) (λk t=>t=[]/\k<=zz c/\∀j (hj:j<zz c),j<k->c[j].2.1.Qa saB=z8) (λk=>zz c-k) 0 rfl ⟨rfl,AZ _,λj _ h=>absurd h (ě j)⟩ ?_;rintro n t ⟨rfl,hn,C⟩;rcases AQ n c.length with a|EC
 .let f:=AY.BL (k:= .i64) hs a;rcases Zb:c[n] with⟨r,p,H⟩
  let m:=hp _ (AV a);rw[Zb] at m f;let e:=f455 (sa:=saB) (λh o=>h9B h o) m.v [];cases d:p.Qa saB with
  |false=>rw[d] at e;simp only[hC,Bc] at f e;simp only[abS,Nat.reduceLeDiff,↓reduceIte,AP,y,(Ab:(n:Int)<(c.length:Int)),f,Rt,HK,Im,GD,e,vZ.BG rfl rfl];exact⟨_,rfl,rfl⟩
  |true=>
   rw[d] at e;simp only[hC,Bc] at f e;simp only[abS,Nat.reduceLeDiff,↓reduceIte,AP,y,(Ab:(n:Int)<(c.length:Int)),f,Rt,HK,Im,GD,e,BB n];refine AM.next (n+1) rfl ⟨rfl,a,λj hj h=>?_⟩ Ab;rcases AQ j n with h1|h1
   .exact C j hj h1
   .obtain rfl:j=n:=by omega
    rw[Zb];exact d
 let hq:∀x∈l,Ī x.q:=λx hx=>(z.1.2 x hx).ok (hr x hx);have ď:RG (P8 s.b l) (59+1):=X2 (j:=60) (s.ď.le (by have:=z.1.1;omega)) hq;let⟨h1,bi,wi,F,Y,K,w1⟩:=f7w s o z.2.2.Qa (by have:=z.2.1;omega) ho (by have:=z.1.1;omega) hq [];generalize P8 s.b l=S at*;let N:=ď.wz;rw[P7] at K;simp only[abS,Nat.reduceLeDiff,↓reduceIte,AP,bM,y,(Ab:¬(n:Int)<(c.length:Int)),K];refine Bm (λk:Nat=>[ff,.int z0 k]) (λk t=>k<=zz c/\∃b F Y,U7 t bi wi b F Y/\Wz b (40 -k)) (λk=>zz c-k) 0 rfl ⟨AZ _,S,F,Y,w1,N⟩ ?_;rintro k t ⟨hk,b,X,W,w,Z⟩;rcases AQ k c.length with a|a1y
 .let f:=AY.BL (k:= .i64) hs a;let d:=C k a Ab;rcases Zb:c[k] with⟨r,p,H⟩
  let m:=hp _ (AV a);rw[Zb] at m f d;let ht:=aB7 d m.r;let eR:=ć d;let B:zz p.Al<=1000000:=by have:=(D4 (p:=Gy p.Al) (by unfold DE.Qa at d;simp only[Bs] at d;exact d.2.2.2.2)).1;omega
  rw[(Ab:40 -k=(39 -k)+1)] at Z;let⟨G,U,e,D,O⟩:=aGm (r:=r) w.p Z.XW ht eR m.v B;let⟨Q,M⟩:=w.prog D O;let⟨E,T,r2,P,I⟩:=aGA (r:=r) Q Z.XW ht eR m.v B;let J:U7 E bi wi (b.su r p).1 U T:=⟨D.Dt λi hi=>I.old i (D.lt hi) (M i hi),P,λi G E=>by
   rcases I.BD i E with L|L
   .exact M i G L
   .have:=D.lt G;omega⟩
  let z3:=Z.su (r:=r) ht;let⟨u,R⟩:=f8g J z3.g.rm z3.g.ok.ok;let nx:∃b F Y,U7 (E++u) bi wi b F Y/\Wz b (40 -(k+1)):=⟨_,_,_,J.If,by rw[(Ab:40 -(k+1)=39 -k)];exact z3⟩;simp only[hC,Bc] at f e r2;generalize(b.su r p).2=rb at*;cases rb<;>simp only[abS,Nat.reduceLeDiff,↓reduceIte,AP,y,(Ab:(k:Int)<(c.length:Int)),f,Rt,HK,Im,GD,e,r2,R,BK,BB k]<;>exact yu (k+1) rfl ⟨a,nx⟩ Ab
 .simp only[abS,zt,↓reduceIte,AP,y,(Ab:¬(k:Int)<(c.length:Int)),vZ.BG rfl rfl];exact⟨_,rfl,rfl⟩
def tq:∀l,ZB [vO,.sl tOp,.sl e_] l->Ev cx 3 l [] λr _=>r= .bool z8:=by rintro _ ⟨a,_,rfl,n,b,_,rfl,m,c,_,rfl,k,rfl⟩;obtain⟨s,av,rfl,e⟩:=qt n;let⟨l,j,h⟩:=aBv m;let⟨d,f,_,i⟩:=sx k;exact ę s e j h f i
end Go.Am
