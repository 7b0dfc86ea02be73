/- Lemmas -/
import Derived.Test.YtglbboamemndeaaGreatDoorS28
set_option linter.all false
set_option maxRecDepth 100000
section
namespace Go.Am
open Go
section
variable{b b':BS}{n n' o o' a a':Nat}{nm:Aj}{l:List AZ}{t:DJ}{sp:Int}{r:Int}
structure UA(b c:BS):Prop where
 le:Le b.a c.a
 Cl:c.Cl=b.Cl
 AY:c.AY=b.AY\/c.AY=b.AY++[Ci.zero]
 AA:c.AA=b.AA\/∃i:Item,c.AA=b.AA++[i]/\i.node=b.a.len+1/\c.a.has i.node/\(c.a.nd i.node).kind=4
def vg:UA b (b.Cz t)/\(b.Cz t).AY=b.AY/\∃i:Item,(b.Cz t).AA=b.AA++[i]/\i.node=b.a.len+1/\(b.Cz t).a.has i.node/\((b.Cz t).a.nd i.node).kind=4:=by
 have hn:=XC (b:=b) (nm:=t.name) (at_:=t.As) Lt;have e:(b.Cz t).AA=b.AA++[b.Jq t.name t.As 1]:=by unfold BS.Cz BS.DY;rw[Ag Lt];show(b.E7 t.name t.As 1 _).AA++_=_;unfold BS.E7;rw[Ag Lt]
 have c:(b.Jq t.name t.As 1).node=b.a.len+1:=by unfold BS.Jq;rw[Ag Lt]
 have k:∃i:Item,(b.Cz t).AA=b.AA++[i]/\i.node=b.a.len+1/\(b.Cz t).a.has i.node/\((b.Cz t).a.nd i.node).kind=4:=⟨_,e,c,by rw[c];exact hn.1,by rw[c];exact hn.2⟩;exact⟨⟨xM,ov,.inl EA,.inr k⟩,EA,k⟩
def UA.eq{c d:BS}(h:UA b c)(h1:d.a=c.a)(h2:d.Cl=c.Cl)(f:d.AA=c.AA)(e:d.AY=c.AY):UA b d:=
 ⟨h1▸h.le,h2.trans h.Cl,by rw[e];exact h.AY,by rw[f,h1];exact h.AA⟩
def vh(hs:t.st Ga):UA b (b.CJ t).1:=by
 have d:=hs.1;have en:∀ws,¬t.en ws:=λws h=>by have:=h.1;omega
 have m:∀ws,¬t.kL ws:=λws h=>by have:=h.1;omega
 have hd:¬t.st [aQj]:=λh=>by have h1:=h.2;have h2:=hs.2;rw[AQ.1 h1] at h2;revert h2;decide
 have hx:¬t.st [aQg]:=λh=>by have h1:=h.2;have h2:=hs.2;rw[AQ.1 h1] at h2;revert h2;decide
 have j:¬t.st [aQn]:=λh=>by have h1:=h.2;have h2:=hs.2;rw[AQ.1 h1] at h2;revert h2;decide
 obtain⟨c,u,i,k,s,q,p⟩:=vg (b:=b) (t:=t);unfold BS.CJ;rw[Af (show¬¬t.ok by unfold DJ.ok;omega),Af Ac,Af hd,Af (m _),Af (show¬t.He by unfold DJ.He;omega),Af Ac,Af hx];by_cases g:t.st SO
 .rw[Ag g];show UA b (b.Cz t).Hj;unfold BS.Hj;split;.exact c
  .exact⟨c.le,c.Cl,c.AY,.inl (by show(b.Cz t).AA.take ((b.Cz t).AA.length-1)=b.AA;rw[k,Ao,AS,Lq];exact EE ..)⟩
 rw[Af g];by_cases f:t.st [aQq];.rw[Ag f];exact c.eq rfl rfl rfl rfl
 rw[Af f];by_cases e:t.st J_;.rw[Ag e];exact c.eq rfl rfl rfl rfl
 rw[Af e];by_cases Il:t.st [aQy];.rw[Ag Il];exact c.eq rfl rfl rfl rfl
 rw[Af Il,Af j,Af (en _)];have NC:t.st [A5]:=⟨d,by
  have key:∀w∈Ga,w∈SO\/w∈[aQq]\/w∈J_\/w∈[aQy]\/w∈[A5]:=AM;rcases key _ hs.2 with h|h|h|h|h
  .exact absurd ⟨d,h⟩ g
  .exact absurd ⟨d,h⟩ f
  .exact absurd ⟨d,h⟩ e
  .exact absurd ⟨d,h⟩ Il
  .exact h⟩
 rw[Ag NC];exact⟨c.le,c.Cl,.inr (by show(b.Cz t).AY++_=_;rw[u]),.inr ⟨i,k,s,q,p⟩⟩
def oW{l:List Item}{x:Item}:AW (BK x.node) (l++[x])=(l.length:Int):=by refine Jb Ax (by simp[BK]) λj hj h=>?_;simp at hj;try omega
def j2{l:List Item}{x y:Item}(h:y.node≠x.node):AW (BK x.node) (l++[x]++[y])=(l.length:Int):=by
 refine Jb (by rw[Ao,Ao,AS,AS];omega) (by simp[BK]) λj hj h2=>?_;have e:j=l.length+1:=by simp at hj;omega
 subst e;simp[BK,h]
def UB{l:List Item}{x:Item}(hl:l≠[]):Cv x.node (l++[x])=l:=by have:0<l.length:=Em.2 hl;unfold Cv;rw[oW,Af Ac,By];unfold Bv;simp
def j3{l:List Item}{x y:Item}(hl:l≠[]):∃z:Item,Cv x.node (l++[x]++[y])=l++[z]/\z.node=y.node:=by
 have:0<l.length:=Em.2 hl;by_cases h:y.node=x.node;.refine⟨x,?_,h.symm⟩;rw[<-h];exact UB (l:=l++[x]) Ax
 .refine⟨y,?_,rfl⟩;unfold Cv;rw[j2 h,Af Ac,By];unfold Bv;simp
def aA0(ok:E0 b){c:BS}(h:UA b c)(g:Er c.a 0){l:List Item}(hl:l=b.AA\/∃z:Item,l=b.AA++[z]/\z.node=b.a.len+1/\c.a.has z.node/\(c.a.nd z.node).kind=4):E0 {c with AA:=l}:=by
 have f:E0 {b with a:=c.a}:=ok.Iw g h.le;have d:E0 {b with a:=c.a,AY:=c.AY}:=by
  rcases h.AY with e|e
  .rw[e];exact f
  .rw[e];exact jH (b:={b with a:=c.a}) f
 have m:E0 {b with a:=c.a,AY:=c.AY,AA:=l}:=by
  rcases hl with e|⟨z,e,hz,h1,h2⟩
  .rw[e];exact d
  .have:=d.ze (i:=z) (k:=b.AA.length) ⟨h1,h2⟩ (λh=>by
    obtain⟨j,hj,e⟩:=A4.1 h;exact Pz (A:=b.a) (by rw[<-hz,<-e];exact(ok.op j hj).1)) (by
    show 1<=b.AA.length\/b.AA=[];cases b.AA with
    |nil=>exact .inr rfl
    |cons y l=>exact .inl Ax)
   simp only[BN,GQ] at this;rw[e];exact this
 exact m.of_eq rfl h.Cl rfl rfl
def Gz.aA1(g:Gz b (n+1005) o a)(ht:t.Sm)(hs:t.st Ga):Gz (b.FM t).1 n (o+2) (a+1):=by
 by_cases hn:b.AA=[]
 .have i5:E0 {b with AA:=b.AA++[BS.EC b.head]}:=by
   refine⟨g.ok.ok,g.ok.Cl,?_,?_,g.ok.ac,g.ok.xK⟩;.show∀i∈(b.AA++[BS.EC b.head]).tail,_;rw[hn];simp
   .show((b.AA++[BS.EC b.head]).tail.map Item.node).Nodup;rw[hn];simp
  have g1:Gz {b with AA:=b.AA++[BS.EC b.head]} (n+1004) (o+1) a:=⟨i5,(VS (n:=n+1004) g).2,by have:=g.AA;simp only[Ao,AS];omega,g.AY⟩;exact(g1.CJ ht).IH (lo:=Cv b.head (BS.CJ {b with AA:=b.AA++[BS.EC b.head]} t).1.AA) Gv
 have w:=uk (g.dn (n':=n+7) Ac) ht hs;obtain⟨b1,m⟩:=VS (g.dn (n':=n+7) Ac);have d:=vh (b:={b with AA:=b.AA++[BS.EC b.head]}) hs;have k:=(TS (n:=n) b1 m ht hs).1.ok;have f:=w.2;unfold BS.FM at f⊢;simp only at f⊢;generalize(BS.CJ {b with AA:=b.AA++[BS.EC b.head]} t).1=c at d k f⊢;have A:b.head=(BS.EC b.head).node:=rfl;have hc:Cv b.head c.AA=b.AA\/∃z:Item,Cv b.head c.AA=b.AA++[z]/\z.node=b.a.len+1/\c.a.has z.node/\(c.a.nd z.node).kind=4:=by
  rcases d.AA with e|⟨i,e,u,s,q⟩
  .left;rw[e];exact UB (x:=BS.EC b.head) hn
  .right;obtain⟨z,p,j⟩:=j3 (x:=BS.EC b.head) (y:=i) hn;refine⟨z,?_,j.trans u,by rw[j];exact s,by rw[j];exact q⟩;rw[e];exact p
 have v:UA b {c with AA:=b.AA}:=⟨d.le,d.Cl,d.AY,.inl rfl⟩;have h:=aA0 g.ok v k hc;refine⟨h,f,?_,?_⟩
 .have:=g.AA;show(Cv b.head c.AA).length<=_;rcases hc with e|⟨z,e,_⟩<;>rw[e]
  .omega
  .simp only[Ao,AS];omega
 .have:=g.AY;show c.AY.length<=_;rcases d.AY with e|e
  .rw[e];show b.AY.length<=_;omega
  .rw[e];show(b.AY++[Ci.zero]).length<=_;simp only[Ao,AS];omega
end
section
variable{b:BS}{l:List Item}{x:Item}{p q:Item->Bool}{n:Int}{nm:Aj}
def Bg(x:Item)(l:List Item):Prop:=l.head?=some x
def Bg.Jn(h:Bg x l){m:List Item}:Bg x (l++m):=by
 cases l with
 |nil=>cases h
 |cons y l=>exact h
def Bg.take(h:Bg x l){k:Nat}(hk:1<=k):Bg x (l.take k):=by
 cases l with
 |nil=>cases h
 |cons y l=>obtain⟨k,rfl⟩:∃j,k=j+1:=⟨k-1,Ac⟩;exact h
def Bg.drop(h:Bg x l){k:Nat}(hk:1<=k):Bg x (Bv l k):=by unfold Bv;exact(h.take hk).Jn
def Bg.set(h:Bg x l){k:Nat}(hk:1<=k){y:Item}:Bg x (l.set k y):=by
 cases l with
 |nil=>cases h
 |cons z l=>obtain⟨k,rfl⟩:∃j,k=j+1:=⟨k-1,Ac⟩;exact h
def Ys:∀l:List Item,(OJ p q l).getLast?=l.getLast?
 |[]=>rfl
 |[x]=>rfl
 |x::y::r=>by
  unfold OJ;split;.rfl
  .split;.rw[ĕ]
   .rw[Ys (y::r),ĕ]
def Bg.Dd(h:Bg x l):Bg x (Dd p q l):=by unfold Bg Go.Am.Dd at*;rw[List.head?_reverse,Ys,List.getLast?_reverse];exact h
def Bg.Cv(h:Bg x l):Bg x (Cv n l):=by
 unfold Go.Am.Cv;split;.exact h
 .exact h.drop Ac
def Bg.DY(h:Bg x b.AA){at_:List AZ}{sp:Int}:Bg x (b.DY nm at_ sp).AA:=by
 unfold BS.DY;split;.rename_i hs;show Bg x ((b.E7 nm at_ sp _).AA++_);unfold BS.E7;rw[Ag hs];exact h.Jn
 .exact h
def Bg.Gs(h:Bg x l):Bg x (Gs n l):=by unfold Go.Am.Gs;first|exact h.Dd|(split<;>first|exact h|exact h.Dd)
def Bg.C6(h:Bg x b.AA):Bg x (b.C6 nm).AA:=by
 unfold BS.C6;split
 .split;.exact h.Dd.Gs
  .exact h
 .exact h
def Bg.Hj(h:Bg x b.AA):Bg x b.Hj.AA:=by
 unfold BS.Hj;split;.exact h
 .exact h.take Ac
def Bg.Ke:∀{es:List Ci} {b:BS},Bg x b.AA->Bg x (BS.Ke es b).2.AA
 |[],_,h=>h
 |e::es,b,h=>Bg.Ke (es:=es) (b:=b.DY e.name e.As 1) h.DY
def Bg.Hc(h:Bg x b.AA){blk anc:Int}{far i:Nat}{l:Int}{m:Nat}(hi:1<=i):Bg x (BS.Hc blk anc far i b l m).1.AA:=by
 unfold BS.Hc;simp only
 split;.exact h.drop hi
 .split;.exact h.drop hi
  .show Bg x ((b.E7 _ _ 1 anc).AA.set i _);unfold BS.E7;split;.exact h.set hi
   .exact h.set hi
def Bg.MY{blk anc:Int}{far k:Nat}:∀{c:Nat} {s:BS×Int×Nat},Bg x s.1.AA->Bg x (BS.MY blk anc far k c s).1.AA
 |0,_,h=>h
 |c+1,s,h=>Bg.MY (c:=c) (h.Hc Ac)
def Bg.len(h:Bg x l):1<=l.length:=by
 cases l with
 |nil=>cases h
 |cons y l=>simp
def Ã{at_:List AZ}{sp p:Int}:(b.E7 nm at_ sp p).AA=b.AA:=by unfold BS.E7;split<;>rfl
def Bg.Ib{fe:Ci}{blk anc:Int}{s:BS×Int×Nat}(h:Bg x s.1.AA):Bg x (BS.Ib fe blk anc s).AA:=by unfold BS.Ib;simp only[Ã];have h1:Bg x (Go.Am.Cv fe.node s.1.AA):=h.Cv;have h2:=h1.len;exact(h1.take (by unfold Gg;omega)).Jn
def Bg.round(h:Bg x b.AA):Bg x (b.round nm).2.AA:=by
 unfold BS.round;simp only
 split;.exact h.C6
 split;.exact h
 split;.exact h
 split;.exact h.Gs
 .exact(Bg.MY (s:=(b,_,_)) h).Ib
def Bg.FA:∀{n:Nat} {b:BS},Bg x b.AA->Bg x (BS.FA n b nm).AA
 |0,_,h=>h
 |n+1,b,h=>by
  unfold BS.FA;simp only
  split;.exact Bg.FA h.round
  .exact h.round
def Bg.Dh(h:Bg x b.AA):Bg x (b.Dh nm).AA:=by
 unfold BS.Dh;split;.exact h.Hj
 .exact h.FA
def Bg.CR(h:Bg x b.AA):Bg x b.CR.AA:=by
 unfold BS.CR;split;.exact h
 .exact h.Dd.Dd
def Bg.B7(h:Bg x b.AA):Bg x b.B7.AA:=by
 unfold BS.B7;split;.exact h.Dd.Dd
 .exact h
def Bg.Fh(h:Bg x b.AA){at_:List AZ}{k:Int}:Bg x (b.Fh at_ k).AA:=by unfold BS.Fh;split<;>exact h
end
section
variable{b b':BS}{n n' o o' a a':Nat}{nm ex:Aj}{l:List AZ}{t:DJ}{sp:Int}{r:Int}{x:Item}
def Bg.Cz(h:Bg x b.AA):Bg x (b.Cz t).AA:=h.DY
def Bg.Js(h:Bg x b.AA):Bg x (b.Js t).AA:=h.Cz.Hj
def Bg.Ds(h:Bg x b.AA):Bg x (b.Ds nm ex).AA:=h.Dd.Dd
def Bg.AU(h:Bg x b.AA):Bg x b.AU.AA:=Bg.Ke h
def Bg.FY(h:Bg x b.AA):Bg x (b.FY nm l).AA:=Bg.DY (b:=b) (at_:=l) (sp:=1) h
def Bg.Df(h:Bg x b.AA):Bg x (b.Df nm l r).AA:=Bg.DY (b:=b) (at_:=l) (sp:=1) h
def Bg.Mm(h:Bg x b.AA):Bg x (b.Mm r).AA:=h
def Bg.C1(h:Bg x b.AA){p:Int}:Bg x (b.C1 nm p).AA:=by unfold BS.C1;split<;>exact h
def Bg.Hp(h:Bg x b.AA):Bg x (b.Hp t).AA:=by
 unfold BS.Hp;split;.exact h
 .exact h.Fh
def Bg.ite{c:Prop}[Decidable c]{p q:BS×Bool}(h1:Bg x p.1.AA)(h2:Bg x q.1.AA):Bg x (if c then p else q).1.AA:=by split;exact h1;exact h2
def Bg.J6{c:Prop}[Decidable c]{p q:BS}(h1:Bg x p.AA)(h2:Bg x q.AA):Bg x (if c then p else q).AA:=by split;exact h1;exact h2
def Bg.Ht{c:DJ->Bool}(h:Bg x b.AA):Bg x (b.Ht c t).1.AA:=by unfold BS.Ht;refine .ite h (.ite h (.ite h.C1 (.ite h ?_)));show Bg x (if c t then(b.QU t).Y5 else b.QU t).AA;split<;>exact h
def Bg.D7(h:Bg x b.AA):Bg x (b.D7 t).1.AA:=by unfold BS.D7;exact .ite h (.ite h (.ite h (.ite h (.ite h.C1 (.ite (Bg.Cz (t:=t) h) (Bg.Cz (t:=Ll aQg) h))))))
def Bg.D8(h:Bg x b.AA):Bg x (b.D8 t).1.AA:=by unfold BS.D8;exact .ite h (.ite h (.ite h (.ite h (.ite h.C1 (.ite h.Hp (.ite (Bg.Cz (t:=t) h) (Bg.Cz (t:=Ll aQj) h)))))))
def Bg.CJ(h:Bg x b.AA):Bg x (b.CJ t).1.AA:=by unfold BS.CJ;exact .ite h (.ite h (.ite h (.ite h (.ite h.Mm (.ite h.C1 (.ite h.Hp (.ite h.Js (.ite h.Df (.ite h.Df (.ite h.Df (.ite (Bg.Cz (t:=t) h) (.ite (Bg.Hj h) (.ite (Bg.Cz (t:=t) h) (.ite h.CR (Bg.Hj h)))))))))))))))
def Bg.D9(h:Bg x b.AA):Bg x (b.D9 t).1.AA:=by unfold BS.D9;exact .ite h (.ite h (.ite h (.ite h (.ite h.Hp (.ite (Bg.Hj h) (.ite h.CJ (.ite h.CJ (.ite h.CJ (Bg.Hj h)))))))))
def Bg.FM(h:Bg x b.AA):Bg x (b.FM t).1.AA:=by unfold BS.FM;have h1:Bg x (BS.CJ {b with AA:=b.AA++[BS.EC b.head]} t).1.AA:=Bg.CJ (b:={b with AA:=b.AA++[BS.EC b.head]}) h.Jn;exact h1.Cv
def Bg.Gk(h:Bg x b.AA):Bg x (b.Gk t).1.AA:=by unfold BS.Gk;exact .ite h (.ite h (.ite h (.ite h (.ite h.Mm (.ite h.C1 (.ite h.Hp (.ite (Bg.Cz (t:=t) h) (.ite (Bg.Cz (t:=t) h) (.ite h.FM (.ite h.CJ (Bg.Cz (t:=Ll aQk) h)))))))))))
def Bg.Jc(h:Bg x b.AA):Bg x (b.Jc t).1.AA:=by unfold BS.Jc;exact .ite h (.ite h.Mm (.ite (Bg.Hj h) (.ite (Bg.Hj h) h)))
def Bg.L9(h:Bg x b.AA):Bg x (b.L9 t).AA:=by
 unfold BS.L9;simp only
 exact .J6 h (.J6 (Bg.AU h) (Bg.AU h))
def Bg.M2(h:Bg x b.AA):Bg x b.M2.1.AA:=by unfold BS.M2;exact .ite h.Dd h
def Bg.Dv(h:Bg x b.AA):Bg x (b.Dv t).1.AA:=by unfold BS.Dv;exact .ite h (.ite h.L9 (.ite h.C1 (.ite h (.ite h.CJ (.ite h.CJ (.ite h (.ite h (.ite h (.ite h (.ite h (.ite h h.M2)))))))))))
def Bg.block(h:Bg x b.AA):Bg x (b.block t).AA:=h.B7.Cz
def Bg.JY(h:Bg x b.AA):Bg x (b.JY t).AA:=by
 unfold BS.JY;simp only
 refine Bg.Cz ?_;split;.exact h.B7.Hj
 .exact h.B7
def Bg.PK(h:Bg x b.AA):Bg x (b.PK t).AA:=by
 unfold BS.PK;simp only
 exact .J6 h (.J6 h.B7.Cz (Bg.Cz (t:=t) h.B7))
def Bg.HG(h:Bg x b.AA){ws:List Aj}:Bg x (b.HG ws).AA:=by
 unfold BS.HG;split;.exact .J6 h.Ds h
 .exact h
def Bg.Y6(h:Bg x b.AA):Bg x (b.Y6 t).AA:=(Bg.HG (b:={b with fs:=false}) h).block
def Bg.M3(h:Bg x b.AA):Bg x (b.M3 t).AA:=by
 unfold BS.M3;simp only
 have h1:Bg x (if b.has [aQi] then b.Ds aQi [] else b).AA:= .J6 h.Ds h;exact Bg.Cz (t:=t) (Bg.AU h1)
def Bg.tk(h:Bg x b.AA):Bg x (b.tk t).AA:=(Bg.AU h).FY
def Bg.QV(h:Bg x b.AA):Bg x b.QV.AA:=by
 unfold BS.QV;simp only
 exact .J6 h (Bg.Cv h.Dh)
def Bg.jO(h:Bg x b.AA):Bg x (b.jO t).AA:=h.QV.tk
def Bg.Y7(h:Bg x b.AA):Bg x (b.Y7 t).AA:=by
 unfold BS.Y7;simp only
 exact Bg.FY (.J6 (Bg.AU (Bg.Dh (Bg.AU h))) (Bg.AU h))
def Bg.BO(h:Bg x b.AA):Bg x (b.BO t).AA:=Bg.Cz (t:=t) (Bg.AU h)
def Bg.Ma(h:Bg x b.AA):Bg x (b.Ma t).AA:=by
 unfold BS.Ma;simp only
 have h1:Bg x (if(b.a.nd b.Cl).CL then b else b.B7).AA:= .J6 h h.B7;exact Bg.Cz (t:=t) h1
def Bg.empty(h:Bg x b.AA):Bg x (b.empty t).AA:=by unfold BS.empty;exact .J6 (Bg.Js (t:=t) h.B7) (.J6 (Bg.Js (t:=t) h) (.J6 (Bg.Js (t:=t) (Bg.AU h)) (Bg.Js (Bg.AU h))))
def Bg.tn(h:Bg x b.AA):Bg x (b.tn t).AA:=by unfold BS.tn;exact .J6 (Bg.block (t:=t) h) (.J6 (Bg.Df (nm:=t.name) (l:=t.As) (r:=2) h) (.J6 (Bg.Df (b:={b.B7.AU with fs:=false}) (Bg.AU h.B7)) (.J6 (Bg.Df (b:={b with fs:=false}) h) (Bg.Df h))))
def Bg.Ov(h:Bg x b.AA):Bg x (b.Ov t).AA:=Bg.Cz (t:=t) (Bg.AU h)
def Bg.M4(h:Bg x b.AA):Bg x (b.M4 t).AA:=by unfold BS.M4;exact Bg.Cz (Bg.AU (.J6 h.Hj h))
def Bg.Yf(h:Bg x b.AA):Bg x (b.Yf t).AA:=by
 unfold BS.Yf;refine Bg.Cz ?_;split;.exact h.Dd
 .exact h
def Bg.J0(h:Bg x b.AA):Bg x (b.J0 t).AA:=by
 unfold BS.J0;simp only
 exact .J6 (Bg.Hj (Bg.DY (Bg.AU h))) (Bg.DY (Bg.AU h))
def Bg.Hg(h:Bg x b.AA):Bg x (b.Hg t).AA:=by unfold BS.Hg;exact .J6 h (Bg.Cz (b:={b with a:=b.a.cut (DO b.AA 1).node,AA:=b.AA.take 1}) (t:=t) (h.take (Ab _)))
def Bg.Kt(h:Bg x b.AA):Bg x (b.Kt t).AA:=by unfold BS.Kt;exact .J6 h (.J6 h.Fh (.J6 (Bg.Fh (b:={b with fs:=false}) h) h))
def Bg.opens(h:Bg x b.AA):Bg x (b.opens t).1.AA:=by unfold BS.opens;exact .ite h.CJ (.ite h.block (.ite h.JY (.ite (Bg.block (t:=t) h) (.ite h.tk (.ite h.BO (.ite h.empty (.ite h (.ite h.tn (.ite h.Yf (.ite h.J0 (.ite h.Y6 (.ite h.M4 (.ite h.Kt (.ite h.Hg (.ite h.PK (.ite h.M3 (.ite h.jO (.ite h.Y7 (.ite h.Ma (.ite h.Ov (Bg.Cz (Bg.AU h))))))))))))))))))))))
def Bg.Gx(h:Bg x b.AA):Bg x (b.Gx t).AA:=by unfold BS.Gx;exact .J6 h.Ds h
def Bg.J1(h:Bg x b.AA):Bg x (b.J1 t).AA:=by
 unfold BS.J1;simp only
 exact .J6 h.Ds (.J6 (Bg.Ds (Bg.Cz (t:=Ll [112]) h)) h)
def Bg.MJ(h:Bg x b.AA):Bg x (b.MJ t).AA:=by unfold BS.MJ;exact .J6 h.Gx (.J6 (Bg.Cv h.Dd) h)
def Bg.Ln(h:Bg x b.AA):Bg x (b.Ln t).1.AA:=by
 unfold BS.Ln;have h1:Bg x (b.Ow t).1.AA:=by unfold BS.Ow;exact .ite h h
 have h2:Bg x b.Ku.AA:=by unfold BS.Ku;exact .J6 h.Dd.Dd h
 have c:Bg x (b.LJ t).AA:=by unfold BS.LJ;exact .J6 (Bg.Ds (nm:=t.name) (ex:=[]) h) h
 exact .ite h.CJ (.ite h1 (.ite h.Gx (.ite h.Dh (.ite h2 (.ite c (.ite h.J1 (.ite h.MJ (.ite h.empty h.C6))))))))
def Bg.Je(h:Bg x b.AA):Bg x (b.Je t).1.AA:=by unfold BS.Je;exact .ite h (.ite h.L9 (.ite h.C1 (.ite (.ite h.Dv h) (.ite h.opens (.ite h.Ln h)))))
def Bg.apply{c:DJ->Bool}(h:Bg x b.AA):Bg x (b.apply c t).1.AA:=by unfold BS.apply;exact .ite h (.ite h.Ht (.ite h.D7 (.ite h.D8 (.ite h.CJ (.ite h.D9 (.ite h.Gk (.ite h.Je (.ite h.Jc (.ite h.Dv h)))))))))
def Gz.Yt(g:Gz b (n+1005) o a)(ht:t.Sm):Gz (b.Gk t).1 n (o+2) (a+1):=by
 have g0:Gz b n (o+2) (a+1):=g.le Ac Ac Ac;have d:Gz b (n+4) o a:=g.le Ac Ac Ac;have T:Gz (if t.st Ga then b.FM t else if t.en [A5] then b.CJ t else(b.Cz (Ll aQk)).again 7).1 n (o+2) (a+1):=by
  split;.rename_i hs;exact g.aA1 ht hs
  .exact .ite (((g.le (n':=n+1004) Ac (Ab _) (Ab _)).CJ ht).le (Ab _) Ac Ac) (((d.Cz (I4 (nm:=aQk) AM)).le (Ab _) Ac Ac).eq (c:={b.Cz (Ll aQk) with mode:=7}) rfl rfl rfl rfl rfl)
 unfold BS.Gk;exact .tq g0 (.ite ((g.le (n':=n+5) Ac (Ab _) (Ab _)).Mm.le (Ab _) Ac Ac) (.ite (((g.le (n':=n+5) Ac (Ab _) (Ab _)).C1 ht.data).le (Ab _) Ac Ac) (.ite (((g.le (n':=n+1000) Ac (Ab _) (Ab _)).Hp ht).le (Ab _) Ac Ac) (.ite (((d.Cz ht).le (Ab _) Ac Ac).eq rfl rfl rfl rfl rfl) (.ite (((d.Cz ht).le (Ab _) Ac Ac).eq rfl rfl rfl rfl rfl) T)))))
def Gz.aA2{c:DJ->Bool}(g:Gz b (n+8*(4*(o+a+8)+10)+8*a+2000) o a)(ht:t.Sm):Gz (b.apply c t).1 n (o+2*a+17) (a+9):=by
 have ge:∀{m},m<=n+8*(4*(o+a+8)+10)+8*a+2000->Gz b m o a:=λh=>g.le h (Ab _) (Ab _);have g0:Gz b n (o+2*a+17) (a+9):=g.le Ac Ac Ac;unfold BS.apply;exact .ite g0 (.ite (((ge (m:=n+5) Ac).Ht ht).le (Ab _) Ac Ac)
  (.ite (((ge (m:=n+5) Ac).D7 ht).le (Ab _) Ac Ac)
  (.ite (((ge (m:=n+1000) Ac).D8 ht).le (Ab _) Ac Ac)
  (.ite (((ge (m:=n+1004) Ac).CJ ht).le (Ab _) Ac Ac)
  (.ite (((ge (m:=n+1004) Ac).D9 ht).le (Ab _) Ac Ac)
  (.ite (((ge (m:=n+1005) Ac).Yt ht).le (Ab _) Ac Ac)
  (.ite (g.Je ht)
   (.ite (((ge (m:=n+5) Ac).Jc).le (Ab _) Ac Ac)
   (.ite (((ge (m:=n+4*a+1005) Ac).Dv ht).le (Ab _) Ac Ac) g0)))))))))
end
end Go.Am
end
