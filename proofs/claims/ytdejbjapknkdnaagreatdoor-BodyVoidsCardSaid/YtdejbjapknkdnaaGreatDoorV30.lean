/- Lemmas -/
import Derived.Test.YtdejbjapknkdnaaGreatDoorV29
set_option linter.all false
noncomputable section
set_option maxRecDepth 100000
section
namespace Go.Am
open Go
section
variable{av:Aa}
def qE1:Ad:=aXt
def qE2:Ad:=aXw
def qE3:Ad:=[72,84,77,76]
def qA:Ad:=aXA
def qB:Ad:=aXo
def HI:List Ad:=[qE1,qE2,qE3]
def uA:List Ad:=[aXF,aXx,aXN,aXp,aXq,aXO,aXh,aXJ,aXf,aW9,aW2,aW6,aXG,aXs]
def cR:List Ad:=[qA,qB]
def ot{k:IntKind}{s:Ad}{b z:Nat}(hb:b<=s.length):Az (.PQ z true false true) [.str s,.int k (b:Int)]=some (.str (s.take b)):=by
 have a:Ex (b:Int) s.length=some b:=by unfold Ex;rw[if_pos (by omega)];rfl
 simp[Az,I0,DI,a]
def I7(p w:Ad):Bool:=decide (w.length<=p.length/\ET (p.take w.length)=ET w)
def WS(p w:Ad):Bool:=decide (ET p=ET w)
def aPA{v:Aa}{l:List Ad}(b:HT l v)(hn:l.length<9223372036854775807)(h:Ae){f:FuncId}{caps:List Aa}{p:Ad->Bool}(hk:f<=99999)(hp:∀a∈l,Cj cx f (.str a::caps) h (.bool (p a)) h):
  Cj cx 185 [v,.func (.func f) [] caps] h (.int .i64 (Cg p 0 l)) h:=by
 rw[Ac,yU,aD7];have hlen:(l.map B1).length=l.length:=Ao ..;simp only[Ce,Br.len b];refine BO (λn:Nat=>[.int .i64 0,.int .i64 (n:Int)]) (λn h1=>n<=l.length/\Cg p 0 l=Cg p n (l.drop n)/\h1=h) (λn=>l.length-n) 0 rfl ⟨AU _,rfl,rfl⟩ ?_;rintro n h1 ⟨Ă,ha,rfl⟩;rcases A6 n l.length with hlt|HK
 .have i1:(n:Int)<((l.map B1).length:Int):=by rw[hlen];omega
  have c:(l.map B1)[n]'(by rw[hlen];exact hlt)=B1 l[n]:=by simp
  rw[Ap hlt,Cg] at ha;simp only[Ce,eI,↓reduceIte,CD,hk,i1,Br.F0 b (show n<(l.map B1).length by rw[hlen];exact hlt),c,B1,(hp _ (Ay hlt)).call];rw[Dr];refine⟨λhe=>?_,λhe=>?_⟩;.rw[ha,if_pos he]
  .rw[if_neg (by simp[he])] at ha;simp only[Ce,CI (show n<9223372036854775807 by omega)];exact Bk.next (n+1) rfl ⟨hlt,ha,rfl⟩ (by omega)
 .have i1:¬(n:Int)<((l.map B1).length:Int):=by rw[hlen];omega
  rw[AH HK,Cg] at ha;simp only[Ce,i1,AS,AK,AD,ha]
def aAt{U:Type}{p:U->Bool}{l:List U}:decide (0<=Cg p 0 l)=l.any p:=by
 have:l.any p=(l.find? p).isSome:=by rw[LZ,aRY,NW]
 rw[this];rcases GJ (p:=p) (l:=l) (k:=0) with⟨h1,h2⟩|⟨n,a,h1,h2,h3⟩
 .rw[h1,h2];simp
 .rw[h1,h3];simp
def aPB{v:Aa}{l:List Ad}(b:HT l v)(hn:l.length<9223372036854775807)(h:Ae){f:FuncId}{caps:List Aa}{p:Ad->Bool}(hk:f<=99999)(hp:∀a∈l,Cj cx f (.str a::caps) h (.bool (p a)) h):
  Cj cx 108 [v,.func (.func f) [] caps] h (.bool (l.any p)) h:=by
 rw[Ac,xI,aDy];simp only[Ce,(aPA b hn h hk hp).call,aAt]
def aJZ(t:Dv)(ht:t.Ke.length<=AN)(w:Ad)(hw:w.length<=AN)(h:Ae):Cj cx 107 [.str w,.B4 (Ct t av)] h (.bool (I7 t.Ke w)) h:=by
 have hc:(t.Ke.take w.length).length<=AN:=by rw[Av];omega
 rw[Ac,xH,aDx,Ct];simp only[Ce];refine⟨λh=>?_,λh=>?_⟩
 .have h:w.length<=t.Ke.length:=by omega
  simp only[Ce,ot h,(f189 _ _ hc hw).AQ rfl rfl,I7,h]
 .have h:¬w.length<=t.Ke.length:=by omega
  simp[h,I7]
def Hm(t:Dv):Bool:=
 if t.k≠1 then false else if t.q=true then true else if t.hn=false then true else if t.name≠aWS then true else if t.hp=false then false
 else HI.any (WS t.Ke)||uA.any (I7 t.Ke)||(!t.hs&&cR.any (I7 t.Ke))
def f75(t:Dv)(ht:t.Ke.length<=AN)(h:Ae):Cj cx 64 [.agg (Ct t av)] h (.bool (Hm t)) h:=by
 have c:=Ef (ws:=uA) (args:=uA.map Aa.str) rfl (by decide);have g:=Ef (ws:=HI) (args:=HI.map Aa.str) rfl (by decide);generalize y:(Aa.sl 1 (uA.map B1))=I at c;generalize v:(Aa.sl 1 (HI.map B1))=H at g;simp only[uA,HI,qE1,qE2,qE3,Bd,Dz] at c g;try dsimp only at c g
 rw[<-y] at c;rw[<-v] at g;have F:∀w∈uA,w.length<=AN:=by decide+kernel
 have B:∀w∈cR,w.length<=AN:=by decide+kernel
 have E:∀w∈HI,w.length<=AN:=by decide+kernel
 have C:HT HI (.sl 1 (HI.map B1)):= .mk;have hlen:(HI.map B1).length=3:=rfl;have nD:HI.length=3:=rfl;have D:=λw hw=>aJZ (av:=av) t ht w hw h;have i:=λk=>(aPB (l:=uA) .mk (by decide) h (f:=107) (caps:=[.B4 (Ct t av)]) (p:=I7 t.Ke) (by decide) (λa ha=>aJZ (av:=av) t ht a (F a ha) h)).call (k:=k) (Q:=λx vs h1=>x= .ret/\vs=[.bool (Hm t)]/\h1=h);have u:=λk=>(D qA (B _ (by simp[cR]))).call (k:=k) (Q:=λx vs h1=>x= .ret/\vs=[.bool (Hm t)]/\h1=h);have s:=λk=>(D qB (B _ (by simp[cR]))).call (k:=k) (Q:=λx vs h1=>x= .ret/\vs=[.bool (Hm t)]/\h1=h);have A:cR.any (I7 t.Ke)=(I7 t.Ke qA||I7 t.Ke qB):=by simp[cR]
 have hq:Hm t=Hm t:=rfl;conv at hq=>rhs;unfold Hm
 rw[A] at hq;rw[Ac,yn,t64,Ct];rw[Ct] at i u s;simp only[Qd,Q2,AE,AY,Nat.reduceAdd,↓reduceIte,LC,PF,aLm];by_cases e:t.k=1;rotate_left;.rw[if_pos e] at hq;simp only[abS,e,ne_eq,hq]
 rw[if_neg (by simp[e])] at hq;simp only[abS,e,ne_eq];cases r:t.q with
 |true=>rw[if_pos r] at hq;simp only[Ce,hq]
 |false=>
  rw[if_neg (by simp[r])] at hq;simp only[Ce];cases o:t.hn with
  |false=>rw[if_pos o] at hq;simp only[abS,hq]
  |true=>
   rw[if_neg (by simp[o])] at hq;simp only[abS];by_cases d:t.name=aWS;rotate_left;.rw[if_pos d] at hq;simp only[abS,d,hq]
   rw[if_neg (by simp[d])] at hq;simp only[abS,d];cases m:t.hp with
   |false=>rw[if_pos m] at hq;simp only[abS,hq]
   |true=>
    rw[if_neg (by simp[m])] at hq;simp only[abS,g,Br.len C,hlen];refine BO (λn:Nat=>[.bool false,.int .i64 (n:Int)]) (λn h1=>n<=HI.length/\HI.any (WS t.Ke)=(HI.drop n).any (WS t.Ke)/\h1=h) (λn=>HI.length-n) 0 rfl ⟨AU _,rfl,rfl⟩ ?_;rintro n h1 ⟨Ă,ha,rfl⟩;rcases A6 n HI.length with hlt|HK
    .have i1:(n:Int)<((3:Nat):Int):=by omega
     have A:(HI.map B1)[n]'(by rw[hlen];omega)=B1 HI[n]:=by simp
     have G:decide (ET t.Ke=ET HI[n])=WS t.Ke HI[n]:=rfl;rw[Ap hlt,SH] at ha;simp only[Ce,eI,i1,Br.F0 C (show n<(HI.map B1).length by rw[hlen];omega),A,B1,(f189 _ _ ht (E _ (Ay hlt))).AQ rfl rfl,G,CI (show n<9223372036854775807 by omega)];rw[Dr];refine⟨λb=>?_,λb=>?_⟩;.rw[b,PO] at ha;rw[ha,PO,PO] at hq;rw[hq]
     .rw[b,JE] at ha;exact Bk.next (n+1) rfl ⟨hlt,ha,rfl⟩ (by omega)
    .have i1:¬(n:Int)<((3:Nat):Int):=by omega
     rw[AH HK,oT] at ha;rw[ha,JE] at hq;simp only[abS,i1];cases j:t.hs with
     |true=>rw[j] at hq;rw[e,r,o,d,m,j] at i;simp only[abS,c,i];rw[hq];simp
     |false=>
      rw[j] at hq;rw[e,r,o,d,m,j] at i u s;simp only[qA,qB] at u s hq;simp only[abS,↓reduceIte,c,i,u,s,CD,Nat.reduceLeDiff];rw[Dr,Dr];refine⟨λb=>?_,λb=>⟨λz=>?_,λz=>?_⟩⟩;.rw[hq,b];simp
      .rw[hq,z];simp
      .rw[hq,b,z];simp
end
def GR(m:Int):Bool:=decide ((1<=m/\m<=8)\/m=18)
def aJ0(m:Int):L4 cx 28 [.int .i64 m] (.bool (GR m)):=by rw[PJ,yc,t28];unfold GR;by_cases h1:1<=m<;>by_cases h2:m<=8<;>by_cases h3:m=18<;>simp[h1,h2,h3]
def aPD{t:Dv}{av:Aa}(a:Bj t.Aq av)(hl:t.Aq.length<=1000000):∃oD,Bj t.Aq oD/\∀h,Cj cx 41 [.agg (Ct t av)] h (.agg (Ct t oD)) h:=by obtain⟨u,e,hu⟩:=Br.rK (l:=([]:List A9)) (f:=A9.row) (v:= .slnil) (b:=40) (.inr ⟨rfl,rfl⟩) a (by simp;have:AN=140737488355328:=rfl;omega);refine⟨u,hu,λh=>?_⟩;have hc:u.cells=[u]:=Br.cells hu;rw[Ac,yi,t41];simp only[Ce,Nat.reduceLeDiff,↓reduceIte,Ct,e,hc,AE,AY,LC,PF]
section
variable{sa:List A9->Bool}{t:Dv}{av:Aa}{h:Ae}
def Dv.LO(sa:List A9->Bool)(t:Dv):Bool:=decide (t.name.length<=60)&&(decide (t.Ke.length<=100)&&(decide (t.sys.length<=100)&&(decide (t.data.length<=200)&&sa t.Aq)))
def aPE(k:∀{v:Aa} {l:List A9} (h:Ae),Bj l v->Cj cx 22 [v] h (.bool (sa l)) h)(j:Bj t.Aq av)(h:Ae):Cj cx 24 [.agg (Ct t av)] h (.bool (t.LO sa)) h:=by
 rw[Ac,aDn,t24];unfold Dv.LO;have b:((t.name.length:Int)<=60)=(t.name.length<=60):=propext (by omega);have d:((t.Ke.length:Int)<=100)=(t.Ke.length<=100):=propext (by omega);have f:((t.sys.length:Int)<=100)=(t.sys.length<=100):=propext (by omega);have i:((t.data.length:Int)<=200)=(t.data.length<=200):=propext (by omega);by_cases a:t.name.length<=60;rotate_left;.simp only[abS,Nat.reduceLeDiff,↓reduceIte,Ct,b,a,Wa]
 by_cases c:t.Ke.length<=100;rotate_left;.simp only[abS,Nat.reduceLeDiff,↓reduceIte,Ct,b,a,d,c,Wa]
 by_cases e:t.sys.length<=100;rotate_left;.simp only[abS,Nat.reduceLeDiff,↓reduceIte,Ct,b,a,d,c,f,e,Wa]
 by_cases g:t.data.length<=200;rotate_left;.simp only[abS,Nat.reduceLeDiff,↓reduceIte,Ct,b,a,d,c,f,e,i,g,Wa]
 .simp only[abS,Nat.reduceLeDiff,↓reduceIte,Ct,b,a,d,c,f,e,i,g,Wa,(k h j).call]
def QJ{l:List (Dv×Aa)}{v:Aa}(a:Br 12 (l.map λp=>Ct p.1 p.2) v){k:Nat}(hk:k<l.length):Az (.F0 12) [v,.int .i64 (k:Int)]=some (.B4 (Ct l[k].1 l[k].2)):=Br.Dl a hk
def aPF(c:∀{v:Aa} {l:List A9} (h:Ae),Bj l v->Cj cx 22 [v] h (.bool (sa l)) h){l:List (Dv×Aa)}{v:Aa}(b:Br 12 (l.map λp=>Ct p.1 p.2) v)(ha:∀p∈l,Bj p.1.Aq p.2){n:Int}(hn:n<=1000000)(h:Ae):Cj cx 7 [v,.int .i64 n] h (.bool (l.all (λp=>p.1.LO sa)&&decide ((l.length:Int)<=n))) h:=by
 have a:=Br.Fk b;rw[Ac,aH6,t7];refine BO (λk:Nat=>[ff,.int .i64 (k:Int)]) (λk h1=>k<=l.length/\l.all (λp=>p.1.LO sa)=(l.drop k).all (λp=>p.1.LO sa)/\h1=h) (λk=>l.length-k) 0 rfl ⟨AU _,rfl,rfl⟩ ?_;rintro k h1 ⟨hk,Ni,rfl⟩;by_cases hlt:k<l.length
 .have i1:(k:Int)<(l.length:Int):=by omega
  rw[Ap hlt,SD] at Ni;by_cases ql:(k:Int)<=n
  .have r:=aPE c (ha _ (Ay hlt)) h1;have ld:Bg h1 (some 12) (.B4 (Ct l[k].1 l[k].2))=some (.agg (Ct l[k].1 l[k].2)):=by rw[OV];rfl
   cases hs:l[k].1.LO sa with
   |true=>rw[hs] at r Ni;rw[cV] at Ni;simp only[abS,a,i1,ql,QJ b hlt,ld,r.call,CI (show k<9223372036854775807 by omega)];exact Bk.next (k+1) rfl ⟨hlt,Ni,rfl⟩ (by omega)
   |false=>rw[hs] at r Ni;rw[Ze] at Ni;simp only[abS,a,i1,ql,QJ b hlt,ld,r.call,Ni,Ze]
  .simp only[abS,a,i1,ql];have e:decide ((l.length:Int)<=n)=false:=by simp;omega
   rw[e,ù]
 .have i1:¬(k:Int)<(l.length:Int):=by omega
  rw[AH (by omega),List.all_nil] at Ni;simp only[abS,a,i1,Ni,cV]
end
section
variable{h u:Ae}{bi k:Nat}{cs:List Aa}{v:Aa}
def ou(hk:k<cs.length):cs.take k++[v]++cs.drop (k+1)=cs.set k v:=by rw[B0,if_pos hk];simp
def Y5(hl:bi<h.length):(h.set bi (.cells cs)++u)[bi]?=some (.cells cs):=by rw[Ah (by simpa using hl),AB hl]
def i7(hl:bi<h.length){x y:EE}:(h.set bi x++u).set bi y=h.set bi y++u:=by rw[aKf _ _ (by simpa using hl),Nc]
def aAu(hl:bi<h.length):Bg (h.set bi (.cells cs)++u) none (.ptr (some (bi,k)))=cs[k]?:=by simp only[Bg,Y5 hl,FQ]
def Y6(hl:bi<h.length)(c:v.cells=[v])(hk:k<cs.length):CR (h.set bi (.cells cs)++u) 1 (.ptr (some (bi,k))) v=some (h.set bi (.cells (cs.set k v))++u):=by simp only[CR,Y5 hl,c,AR];rw[if_pos ⟨trivial,by omega⟩,ou hk,i7 hl]
def aPG(hl:bi<h.length)(hk:4<cs.length)(m:Int):Cj cx 61 [.ptr (some (bi,0)),.int .i64 m] (h.set bi (.cells cs)++u) tt (h.set bi (.cells (cs.set 4 (.int .i64 m)))++u):=by have e:=Y6 (h:=h) (u:=u) (bi:=bi) (k:=4) (cs:=cs) (v:= .int .i64 m) hl rfl hk;rw[Ac,sP,t61];simp only[Ce,e]
def TW(l:List Int):(l.map CY).flatten=l.map (Aa.int .i64):=by
 induction l with
 |nil=>rfl
 |cons x l ih=>rw[Bd,CF,ih];rfl
def aPH(l:List Int)(h:Ae)(hb:l.length<=1000000000):∃v u,Cj cx 200032 [.sl 1 (l.map CY)] h v (h++u)/\((l=[]/\v= .GB 1/\u=[])\/(l≠[]/\v= .C7 h.length 0 l.length 1/\u=[.cells (l.map (Aa.int .i64))])):=by
 have hm:AN=140737488355328:=rfl;cases l with
 |nil=>refine⟨.GB 1,[],?_,.inl ⟨rfl,rfl,rfl⟩⟩;rw[A8,Ac,t200032_eq,WL];have c:KP h 1 8 (.GB 1) (.sl 1 [])=some (h,.GB 1):=rfl;simp only[Ce,Dz,show Az (.FM false .sl) [.sl 1 [],.slnil]=some (.bool false) from rfl,show Az (.GB 1) []=some (.GB 1) from rfl,c]
 |cons x l=>
  refine⟨_,_,?_,.inr ⟨by simp,rfl,rfl⟩⟩;have c:KP h 1 8 (.GB 1) (.sl 1 ((x::l).map CY))=some (h++[.cells ((x::l).map (Aa.int .i64))],.C7 h.length 0 (x::l).length 1):=by
   have RY:((x::l).map CY).length*8<=AN:=by rw[Ao];omega
   rw[<-TW];simp only[Bd] at RY⊢;simp only[KP,OC,beq_self_eq_true,BM];rw[if_pos ⟨trivial,RY⟩];simp
  rw[Ac,t200032_eq,WL];simp only[Ce,show Az (.FM false .sl) [.sl 1 ((x::l).map CY),.slnil]=some (.bool false) from rfl,show Az (.GB 1) []=some (.GB 1) from rfl,c]
end
section
variable{h h':Ae}{bi:Nat}{b b':BS}{F F':Nat->Prop}{n o a:Nat}
def aJ1(w:PB h bi b F)(g:Gz b n o a)(hne:b.tm≠[])(m:Int):FA h F 83 [.ptr (some (bi,0)),.int .i64 m] tt bi (b.EZ m).1:=by
 have ć:=g.rm.tm;have w0:=w;obtain⟨R,L,c,p,G,w,hc,rfl⟩:=w;have hl:=w.lt;have hpos:=Cq.2 hne;obtain⟨cs,hcs⟩:∃cs,cs=Qu R b L c p:=⟨_,rfl⟩;have hb:=w.hb;rw[<-hcs] at hb;have hcl:cs.length=20:=by rw[hcs];rfl
 have S:cs[6]?=some p:=by rw[hcs];rfl
 have y:p= .sl 1 (b.tm.map CY):=by
  rcases w.t with e|⟨_,e⟩
  .exact e
  .exact absurd (by simpa using e) hne
 have T:h=h.set bi (.cells cs)++[]:=by rw[A8,Tl hb]
 have lt:=Br.Fk w.t;have r:Bg h none (.ptr (some (bi,6)))=some p:=w.l6;obtain⟨l',Ē⟩:∃l',l'=b.tm.dropLast:=⟨_,rfl⟩;have M:l'.length=b.tm.length-1:=by rw[Ē];simp
 have es:Az (.PQ 1 false false true) [p,.int .i64 ((b.tm.length-1:Nat):Int)]=some (.sl 1 (l'.map CY)):=by
  have B:Ex ((b.tm.length-1:Nat):Int) (b.tm.map CY).length=some (b.tm.length-1):=by unfold Ex;rw[Ao,if_pos (by omega)];rfl
  rw[y,Ē,Wl];simp only[Az,I0,DI,B,BF,oQ,BM,Kz,Hr]
 obtain⟨v,u,J,D⟩:=aPH l' h (by omega);have x:v.cells=[v]:=by rcases D with⟨_,rfl,_⟩|⟨_,rfl,_⟩<;>rfl
 have B:h++u=h.set bi (.cells cs)++u:=by rw[Tl hb]
 have q:CR (h++u) 1 (.ptr (some (bi,6))) v=some (h.set bi (.cells (cs.set 6 v))++u):=by rw[B];exact Y6 hl x (by omega)
 have I:Cj cx 100087 [.ptr (some (bi,0))] h (.tuple []) (h.set bi (.cells (cs.set 6 v))++u):=by rw[Ac,t100087_eq,gQ];simp only[abS,r,lt,show(0:Int)<(b.tm.length:Int) by omega,NN hpos (show b.tm.length<9223372036854775807 by omega),es,J.call,q]
 have s:Bg (h.set bi (.cells (cs.set 6 v))++u) none (.ptr (some (bi,6)))=some v:=by rw[aAu hl,AB (by omega)]
 have em:Az (.Cl 1) [.int .i64 m]=some (.sl 1 [[.int .i64 m]]):=rfl;have aVy:AN=140737488355328:=rfl;obtain⟨id,j,d,O,hfz⟩:∃(id:Nat) (j d:Ae),Gt (h.set bi (.cells (cs.set 6 v))++u) 1 8 v (.sl 1 [[.int .i64 m]])=some (h.set bi (.cells (cs.set 6 v))++j,.C7 id 0 (l'.length+1) 1)/\∀ds:List Aa,Lt (h.set bi (.cells ds)++j) (.C7 id 0 (l'.length+1) 1)=some (h.set bi (.cells ds)++d,.sl 1 ((l'++[m]).map CY)):=by
  rcases D with⟨h0,rfl,rfl⟩|⟨h0,rfl,rfl⟩
  .refine⟨h.length,[.cells [.int .i64 m]],[.DD],?_,λds=>?_⟩;.rw[h0,A8];simp[Gt,GX];omega
   .rw[h0];have hg:(h.set bi (.cells ds)++[.cells [Aa.int .i64 m]])[h.length]?=some (.cells [Aa.int .i64 m]):=by rw[Bi (by simp)];simp
    simp only[Lt,hg,AY,By];rw[if_pos (by simp)];congr 2
    rw[BI _ _ (by simp)];simp
  .refine⟨h.length+1,[.DD,.cells ((l'++[m]).map (Aa.int .i64))],[.DD,.DD],?_,λds=>?_⟩
   .have hg:(h.set bi (.cells (cs.set 6 (.C7 h.length 0 l'.length 1)))++[.cells (l'.map (Aa.int .i64))])[h.length]?=some (.cells (l'.map CY).flatten):=by rw[Bi (by simp),TW];simp
    have:=OW (id:=h.length) (z:=1) (b:=8) (v:= .sl 1 [[.int .i64 m]]) (As:=l'.map CY) (r2:=[[.int .i64 m]]) (ML (f:=CY) (λa=>rfl) l') (by decide) hg .mk (by simp) (by simp;omega);rw[Ao] at this;rw[this];congr 2
    .rw[BI _ _ (by simp)];have:([m].map (Aa.int .i64))=[[Aa.int .i64 m]].flatten:=rfl;simp[TW]
    .simp
   .have hg:(h.set bi (.cells ds)++[EE.DD,.cells ((l'++[m]).map (Aa.int .i64))])[h.length+1]?=some (.cells ((l'++[m]).map CY).flatten):=by rw[Bi (by simp),TW];simp
    have:=Og (ML (f:=CY) (z:=1) (λa=>rfl) (l'++[m])) hg;rw[Ao,Ai,AR] at this;rw[this];congr 2
    rw[BI _ _ (by simp)];simp
 have Á:=Y6 (h:=h) (u:=j) (bi:=bi) (k:=6) (cs:=cs.set 6 v) (v:= .C7 id 0 (l'.length+1) 1) hl rfl (by simp;omega);rw[Nc] at Á;have K:=aPG (h:=h) (u:=j) (bi:=bi) (cs:=cs.set 6 (.C7 id 0 (l'.length+1) 1)) hl (by simp;omega) m;have fz:=hfz ((cs.set 6 (.C7 id 0 (l'.length+1) 1)).set 4 (.int .i64 m));have hfa:KQ (h.set bi (.cells ((cs.set 6 (.C7 id 0 (l'.length+1) 1)).set 4 (.int .i64 m)))++j) 6 (.ptr (some (bi,0)))=some (h.set bi (.cells ((cs.set 4 (.int .i64 m)).set 6 (.sl 1 ((l'++[m]).map CY))))++d):=by
  have A:((cs.set 6 (.C7 id 0 (l'.length+1) 1)).set 4 (.int .i64 m))[0+6]?=some (.C7 id 0 (l'.length+1) 1):=by rw[By,Al (by decide),AB (by omega)]
  unfold KQ;simp only[Y5 hl,A,fz,Ck,i7 hl];congr 3
  rw[By,List.set_comm _ _ (by decide:(4:Nat)≠6),Nc,List.set_comm _ _ (by decide:(6:Nat)≠4)]
 have H:=w0.J9 (u:=d);obtain⟨_,E,_⟩:=Gk H m;obtain⟨_,C,_⟩:=aJD E (l:=l'++[m]) (v:= .sl 1 ((l'++[m]).map CY)) .mk;have N:Am.put (Am.put (h++d) bi 4 (.int .i64 m)) bi 6 (.sl 1 ((l'++[m]).map CY))=h.set bi (.cells ((cs.set 4 (.int .i64 m)).set 6 (.sl 1 ((l'++[m]).map CY))))++d:=by
  have Q:h++d=h.set bi (.cells cs)++d:=by rw[Tl hb]
  rw[Q,Io (Y5 hl),i7 hl,Io (Y5 hl),i7 hl]
 rw[N] at C;have P:(b.EZ m).1={{b with mode:=m} with tm:=l'++[m]}:=by rw[Ē];rfl
 rw[P];refine⟨_,_,?_,C,?_⟩;.rw[Ac,zc,t83];simp only[Ce,I.call,s,em,O,Á,K.call,hfa]
 .refine⟨by simp,λi hi hF=>?_,λi hi=> .inl hi⟩;have aPI:i≠bi:=λe=>hF (.inl e);rw[Ah (by simpa using hi),Al (Dd aPI)]
end
def SK(qk:Dv->Bool)(t:Dv):Nat->BS->BS×Bool
 |0,b=>(b, !GR b.mode)
 |k+1,b=>if GR b.mode=false then(b,true) else if(b.apply qk t).2=false then((b.apply qk t).1,true) else SK qk t k (b.apply qk t).1
section
variable{h h':Ae}{bi:Nat}{b b':BS}{F:Nat->Prop}{t:Dv}{av:Aa}
def aPJ{qk:Dv->Bool}{J:Nat->BS->Prop}(w:PB h bi b F)(ht:t.Sm)(v:Bj t.Aq av)(hq:∀{oD:Aa} (h:Ae),Cj cx 64 [.agg (Ct t oD)] h (.bool (qk t)) h)
  (x:∀k c,J (k+1) c->GR c.mode=true->∃n o a,Gz c (n+8*(4*(o+a+8)+10)+8*a+2000) o a/\(c.mode=6->M3 c)/\(c.mode=18->c.tm≠[])/\((c.apply qk t).2=true->J k (c.apply qk t).1))
  (h0:J (9+b.tm.length) b) (ć:b.tm.length<=1000000000):FA h F 27 [.ptr (some (bi,0)),.agg (Ct t av)] (.bool (SK qk t (9+b.tm.length) b).2) bi (SK qk t (9+b.tm.length) b).1:=by
 obtain⟨B,l6,p⟩:=w.ltm;have lt:=Br.Fk p;have S5:t.Aq.length<=1000000:=by have:=ht.Aq.1;omega
 have PI:Ev cx 27 [.ptr (some (bi,0)),.agg (Ct t av)] h λr h'=>r= .bool (SK qk t (9+b.tm.length) b).2/\∃F',PB h' bi (SK qk t (9+b.tm.length) b).1 F'/\Ey h F h' F':=by
  unfold Ev;obtain⟨oD,JG,ro⟩:=aPD v S5;rw[yb,t27];have A:Az (.int .add) [I 9,.int .i64 (b.tm.length:Int)]=some (.int .i64 ((9+b.tm.length:Nat):Int)):=by rw[Tn (by omega) (by omega)];simp
  generalize C:9+b.tm.length=N at*;simp only[Ct] at ro;simp only[abS,Nat.reduceLeDiff,↓reduceIte,Ct,l6,lt,A];refine BO (λk:Nat=>[ff,.int .i64 (k:Int)]) (λk h1=>k<=N/\∃c i,PB h1 bi c i/\J (N-k) c/\Ey h F h1 i/\SK qk t (N-k) c=SK qk t N b) (λk=>N-k) 0 rfl ⟨AU _,b,F,w,h0,.refl,rfl⟩ ?_;rintro k h1 ⟨hk,c,i,l,i1,j,d⟩;have l1:=l.B3;have e:=aJ0 c.mode;by_cases hlt:k<N
  .have f:(k:Int)<(N:Int):=by omega
   obtain⟨r,hr⟩:∃r,N-k=r+1:=⟨N-k-1,by omega⟩;have HM:N-(k+1)=r:=by omega
   rw[hr] at i1 d;rw[SK] at d;cases ho:GR c.mode with
   |false=>rw[ho] at e d;rw[if_pos rfl] at d;simp only[abS,f,l1,e.AQ rfl rfl];exact⟨_,rfl,by rw[<-d],i,by rw[<-d];exact l,j⟩
   |true=>
    rw[ho] at e d;rw[if_neg (by simp)] at d;obtain⟨n,o,a,g,z,gf,y⟩:=x r c i1 ho;obtain⟨h2,u,r2,s,q⟩:=aF6 l g ht JG hq z (λhm h' w' m _=>aJ1 w' g (gf hm) m);simp only[Ct] at r2;cases ha:(c.apply qk t).2 with
    |false=>rw[ha] at r2 d;rw[if_pos rfl] at d;simp only[abS,f,l1,e.AQ rfl rfl,(ro h1).call,r2.call];exact⟨_,rfl,by rw[<-d],u,by rw[<-d];exact s,j.trans q⟩
    |true=>rw[ha] at r2 d;rw[if_neg (by simp)] at d;simp only[abS,f,l1,e.AQ rfl rfl,(ro h1).call,r2.call,CI (show k<9223372036854775807 by omega)];exact Bk.next (k+1) rfl ⟨hlt,(c.apply qk t).1,u,s,by rw[HM];exact y ha,j.trans q,by rw[HM];exact d⟩ (by omega)
  .have f:¬(k:Int)<(N:Int):=by omega
   have hr:N-k=0:=by omega
   rw[hr] at d;rw[SK] at d;simp only[abS,f,l1,e.AQ rfl rfl];exact⟨_,rfl,by rw[<-d],i,by rw[<-d];exact l,j⟩
 obtain⟨r,h',hr,rfl,F',hp,hx⟩:=PI.ret;exact⟨h',F',hr,hp,hx⟩
end
def jA:List Ad:=[aW4,aXv,aXV,aXg,aXR,aYI,aX4,[110,111,101,109,98,101,100]]
abbrev aJ2:Ad:=aW3
def Shp(m:Int)(l:List Item)(tm:List Int):Prop:=
 ((m=1\/m=2)/\l=[]/\tm=[])\/(m=3/\(∃h,l=[h]/\AA [JM] h=true)/\tm=[])
 \/(m=4/\(∃h d,l=[h,d]/\AA [JM] h=true/\AA [J1] d=true)/\tm=[])
 \/(m=5/\(∃h d x,l=[h,d,x]/\AA [JM] h=true/\AA [J1] d=true/\AA [aJ2] x=true)/\tm=[])
 \/(m=6/\(∃h,l=[h]/\AA [JM] h=true)/\tm=[])
 \/((m=7\/(m=18/\tm≠[]))/\∃P,DL P l tm.length)
structure DW(b:BS):Prop where
 cm:Cm b
 hd:4<=b.mode->LQ b
 sh:b.mode≠8->Shp b.mode b.Au b.tm
 ZU:b.mode=8->∃X r,b.Au=X++[r]/\AA jA r=true/\4<=b.GM/\b.GM≠8/\Shp b.GM X b.tm
def cS(m:Int)(n:Nat):Nat:=if m=1 then 6 else if m=2 then 5 else if m=3 then 4 else if m=4 then 3 else if m=5 then 4 else if m=6 then 2 else if n=0 then 1 else n+3
def LG(t:Dv)(b:BS):Nat:=if t.k=6 then(if b.mode=8 then cS b.GM b.tm.length+1 else cS b.mode b.tm.length) else(if b.mode=8 then 1 else if b.mode=18 then 2 else cS b.mode 0)
def WT(b:BS):Nat:=if b.mode=1\/b.mode=2 then 4 else if b.mode=3 then 3 else if b.mode=4\/b.mode=5\/b.mode=6 then 2 else 1
structure Tr(b c:BS):Prop where
 o:c.Au.length+WT c<=b.Au.length+WT b
 a:c.AW.length<=b.AW.length
 r:∀m,Cw b (m+5)->Cw c m
def NX(t:Dv)(b:BS)(r:BS×Bool):Prop:=GR r.1.mode=false\/(DW r.1/\(r.2=true->LG t r.1<LG t b/\Tr b r.1))
section
variable{P:List Item}{q:Int}{T:List Int}{m k j n:Nat}{b c d:BS}{nm x:Ad}{l:List Item}{at_:List A9}{t:Dv}{sp h:Int}{i:Item}
def f_{m:Int}:1<=cS m n:=by unfold cS;(repeat' split)<;>omega
def uB{m:Int}:cS m n<=n+6:=by unfold cS;(repeat' split)<;>omega
def ä:1<=LG t b:=by have:=@f_ b.tm.length b.mode;have:=@f_ 0 b.mode;unfold LG;(repeat' split)<;>omega
def jB:LG t b<=9+b.tm.length:=by have:=@uB b.tm.length b.mode;have:=@uB b.tm.length b.GM;have:=@uB 0 b.mode;unfold LG;(repeat' split)<;>omega
def NX.ite{c:Prop}[Decidable c]{x y:BS×Bool}(h1:c->NX t b x)(h2:¬c->NX t b y):NX t b (if c then x else y):=by
 split;.rename_i h;exact h1 h
 .rename_i h;exact h2 h
def NX.DC(h:DW c):NX t b (c,false):= .inr ⟨h,λe=>by cases e⟩
def IS(o:Dp P q T c)(hm:q=7\/(q=18/\T≠[])):DW c:=
 ⟨o.cm,λ_=>o.hd,λ_=> .inr (.inr (.inr (.inr (.inr ⟨by rw[o.md,o.tme];exact hm,P,by rw[o.tme];exact o.d⟩)))),λh=>by rw[o.md] at h;omega⟩
def DW.dp(o:DW b)(hm:b.mode=7\/b.mode=18):(b.mode=18->b.tm≠[])/\∃P,Dp P b.mode b.tm b:=by
 have e:b.mode≠8:=by omega
 rcases o.sh e with h|h|h|h|h|h
 .omega
 .omega
 .omega
 .omega
 .omega
 .refine⟨λh1=>?_,?_⟩
  .rcases h.1 with h2|h2
   .omega
   .exact h2.2
  .obtain⟨P,a⟩:=h.2;exact⟨P,o.cm,o.hd (by omega),a,rfl,rfl⟩
def oJ(hk:0<k)(h1:AL i=true->okI i)(h2:EN i=false):b.He i k=none:=by
 have hb:i.AX=1->i.name∉iQ:=λhs hn=>by
  have key:∀w∈iQ,Dj 1 w=true:=by decide+kernel
  have:AL i=true:=by unfold AL;rw[hs];exact key _ hn
  exact h1 this hs hn
 unfold BS.He;split
 .rename_i hs;have hn:=hb hs;have s:i.name≠AF:=λe=>by have:EN i=true:=Ch.2 ⟨hs,by simp[e]⟩;rw[this] at h2;cases h2
  have hf:Ib.find? (λr=>decide (r.1=i.name))=none:=by
   rw[Mb];intro r hr;simp only[Ci];intro e;have key:∀r∈Ib,r.1∈iQ:=by decide
   exact hn (e▸key r hr)
  rw[hf];have p:i.name≠Kq:=λe=>hn (by rw[e];decide);have o:i.name≠qp:=λe=>hn (by rw[e];decide);have g:i.name≠qq:=λe=>hn (by rw[e];decide);have f:i.name≠J1:=λe=>hn (by rw[e];decide);have a:i.name≠JM:=λe=>hn (by rw[e];decide);simp only[p,o,g,f,a,s,DU,false_or,uX,if_neg (show¬k=0 by omega)]
 .rw[if_neg (by omega)]
def NC(h0:0<k):∀{n:Nat},k<=n->(∀j,k<=j->j<n->b.He (b.Au.getD j Item.zero) j=none)->b.HU n=b.HU k
 |0,hk,_=>by omega
 |n+1,hk,hs=>by
  rcases A6 k (n+1) with h|h
  .rw[BS.HU];have e:b.DO n=b.Au.getD n Item.zero:=by unfold BS.DO;rw[if_neg (by omega)]
   rw[e,hs n (by omega) (by omega)];exact NC h0 (by omega) λj h1 h2=>hs j h1 (by omega)
  .rw[show n+1=k by omega]
def SA(h:EN i=true):b.He i k=some (b.tm.getLast?.getD 7):=by have h1:=Ch.1 h;have h2:=h1.2;simp at h2;unfold BS.He;rw[if_pos h1.1,h2];simp[Ib,Kq,qp,qq]
def VN(h:AA [Tv] i=true):b.He i k=some 7:=by have h1:=Ch.1 h;have h2:=h1.2;simp at h2;unfold BS.He;rw[if_pos h1.1,h2];simp[Ib]
def oK(h:AA [J1] i=true)(hk:0<k):b.He i k=some 4:=by have h1:=Ch.1 h;have h2:=h1.2;simp at h2;unfold BS.He;rw[if_pos h1.1,h2];simp[Ib,Kq,qp,qq,hk]
def oL(h:AA [JM] i=true):b.He i k=some (if b.head=0 then 3 else 6):=by have h1:=Ch.1 h;have h2:=h1.2;simp at h2;unfold BS.He;rw[if_pos h1.1,h2];simp[Ib,Kq,qp,qq]
def jC(h:b.tm≠[])(ht:∀m∈b.tm,m=7\/m=18):b.tm.getLast?.getD 7=7\/(b.tm.getLast?.getD 7=18/\b.tm≠[]):=by
 rw[List.getLast?_eq_some_getLast h,E5];rcases ht _ (List.getLast_mem h) with h1|h1
 .exact .inl h1
 .exact .inr ⟨h1,h⟩
def WU{k:Nat}(hk:k<l.length):l.getD k Item.zero=l[k]:=by rw[AG,An hk];rfl
def uC(d:DL P b.Au b.tm.length)(ht:∀m∈b.tm,m=7\/m=18):b.Js.mode=7\/(b.Js.mode=18/\b.tm≠[]):=by
 show b.HU b.Au.length=7\/(b.HU b.Au.length=18/\b.tm≠[]);have hl:=d.pf.len;have hlen:=d.len;have aF7:∀x∈b.Au,EN x=true->b.tm≠[]:=λx hx o e=>by have:=d.cnt;rw[e,AY,Lj] at this;exact absurd o (this x (BV.2 ⟨hx,spT o⟩))
 have skip:∀k,(hk:k<b.Au.length)->P.length<=k->EN b.Au[k]=false->b.He (b.Au.getD k Item.zero) k=none:=λk hk h1 h2=>by
  rw[WU hk];refine oJ (by omega) (λhs=>d.v' _ ?_ hs) h2;have:b.Au[k]=(b.Au.drop P.length)[k-P.length]'(by rw[A5];omega):=by rw[J6];congr 1;omega
  rw[this];exact Ay _
 rcases B8 (q:=EN) (l:=b.Au) with⟨_,h1⟩|⟨q,hq,_,h1,h2⟩
 .rw[NC (k:=P.length) (by omega) hlen (λj h3 a=>skip j a h3 (h1 _ (Ay a)))];obtain⟨B,z,g,hz⟩:=d.pf.last;have f:P.length=B.length+1:=by rw[g];simp
  have hk:B.length<b.Au.length:=by omega
  have qg:b.Au[B.length]=z:=by
   have a:(b.Au.take P.length)[B.length]'(by rw[Av];omega)=P[B.length]'(by omega):=by simp only[d.Kd]
   rw[If] at a;rw[a];simp[g]
  rw[f,BS.HU];have e:b.DO B.length=z:=by unfold BS.DO;rw[if_neg (by omega),WU hk,qg]
  rw[e];rcases hz with hz|hz
  .rw[VN hz];exact .inl rfl
  .rw[SA hz];exact jC (aF7 z (by rw[<-qg];exact Ay hk) hz) ht
 .by_cases p:P.length<=q
  .rw[NC (k:=q+1) (by omega) (by omega) (λj h3 a=>skip j a (by omega) (h2 j a (by omega))),BS.HU];have e:b.DO q=b.Au[q]:=by unfold BS.DO;rw[if_neg (by omega),WU hq]
   rw[e,SA h1];exact jC (aF7 _ (Ay hq) h1) ht
  .rw[NC (k:=P.length) (by omega) hlen (λj h3 a=>skip j a h3 (h2 j a (by omega)))];obtain⟨B,z,g,hz⟩:=d.pf.last;have f:P.length=B.length+1:=by rw[g];simp
   have hk:B.length<b.Au.length:=by omega
   have qg:b.Au[B.length]=z:=by
    have a:(b.Au.take P.length)[B.length]'(by rw[Av];omega)=P[B.length]'(by omega):=by simp only[d.Kd]
    rw[If] at a;rw[a];simp[g]
   rw[f,BS.HU];have e:b.DO B.length=z:=by unfold BS.DO;rw[if_neg (by omega),WU hk,qg]
   rw[e];rcases hz with hz|hz
   .rw[VN hz];exact .inl rfl
   .rw[SA hz];exact jC (aF7 z (by rw[<-qg];exact Ay hk) hz) ht
def gd(o:Dp P b.mode b.tm b)(hT:0<=Ax EN b.Au)(hc:c=BS.Js {b with Au:=Hd b.Au (Ax EN b.Au),AW:=EX b.AW,tm:=b.tm.dropLast}):DW c/\b.tm≠[]/\cS c.mode c.tm.length<b.tm.length+3/\c.mode≠8/\c.Au.length+1<=b.Au.length/\c.mode≠3:=by
 have I:c.a=b.a:=by rw[hc];rfl
 have cd:c.CB=b.CB:=by rw[hc];rfl
 have X:c.Au=Hd b.Au (Ax EN b.Au):=by rw[hc];rfl
 have Y:c.AW=EX b.AW:=by rw[hc];rfl
 have W:c.tm=b.tm.dropLast:=by rw[hc];rfl
 have cf:c.FJ=b.FJ:=by rw[hc];rfl
 have ch:c.head=b.head:=by rw[hc];rfl
 have ck:c.D3=b.D3:=by rw[hc];rfl
 have cg:c.KH=b.KH:=by rw[hc];rfl
 have cm:Cm c:=by
  refine⟨((o.cm.ok.Ka (MU (i:=Ax EN b.Au))).fD (l:=EX b.AW) (Ca _ _)).of_eq I cd X Y,?_,?_,by rw[ck];exact o.cm.fo,by rw[cg];exact o.cm.fr,λm hm=>o.cm.qz m ?_⟩;.rw[I,Y];exact o.cm.ac.sub (Ca _ _)
  .rw[I,cf];exact o.cm.ĉ
  .rw[W] at hm;exact(aGN _).subset hm
 have hd:LQ c:=o.hd.le (by rw[I];exact .refl) ch;have hl:=o.d.pf.len;have hlen:=o.d.len;obtain⟨g,L⟩:∃g,g=({b with Au:=Hd b.Au (Ax EN b.Au),AW:=EX b.AW,tm:=b.tm.dropLast}:BS):=⟨_,rfl⟩;rw[<-L] at hc;have hm:c.mode=g.Js.mode:=by rw[hc]
 have F:g.Au=c.Au:=by rw[hc];rfl
 have R:g.tm=c.tm:=by rw[hc];rfl
 have bh:g.head=c.head:=by rw[hc];rfl
 have bf:g.KH=c.KH:=by rw[hc];rfl
 rcases B8 (q:=EN) (l:=b.Au) with⟨h1,_⟩|⟨q,hq,h1,h2,h3⟩
 .omega
 have hne:b.tm≠[]:=λe=>by have:=o.d.cnt;rw[e,AY,Lj] at this;exact absurd h2 (this _ (BV.2 ⟨Ay hq,spT h2⟩))
 have Z:1<=b.tm.length:=Cq.2 hne;have Ą:1<=q:=by
  rcases FL q with D|D
  .exfalso;obtain⟨y,r,eP,ă⟩:=o.d.pf.aON;have:b.Au[0]'(by omega)=y:=by
    have C:(b.Au.take P.length)[0]'(by rw[Av];omega)=P[0]'(by omega):=by simp only[o.d.Kd]
    rw[If] at C;rw[C];simp[eP]
   subst D;rw[this] at h2;have U:=(Ch.1 h2).2;have M:=(Ch.1 ă).2;simp at U M;rw[U] at M;exact absurd M (by decide)
  .exact D
 have N:c.Au=b.Au.take q:=by rw[X,h1];unfold Hd;congr 1;omega
 have cl:c.tm.length=b.tm.length-1:=by rw[W,List.length_dropLast]
 have col:c.Au.length+1<=b.Au.length:=by rw[N,Av];omega
 have eT:∀{j},P.length<=j->j=q->DL P (b.Au.take q) (b.tm.length-1):=by
  intro j hj K;subst K;have e:b.Au.filter AL=(b.Au.take j).filter AL++b.Au[j]::(b.Au.drop (j+1)).filter AL:=by
   conv=>lhs;rw[<-Bl j b.Au,Ap hq]
   rw[Bu,Ea (spT h2)]
  have S:=o.d.v;have p:=o.d.cnt;have hp:=o.d.Gq;rw[e] at S p hp;refine⟨o.d.pf,by rw[Cy,BG hj];exact o.d.Kd,λi hi=>S i ?_,?_,hp.Kd⟩;.rw[IV];exact B5 _ hi
  .have O:((b.Au.drop (j+1)).filter AL).countP EN=0:=Lj.2 λi hi=>by obtain⟨k,hk,D,rfl⟩:=Ou (BV.1 hi).1;rw[h3 k hk (by omega)];simp
   rw[Jk,List.countP_cons_of_pos h2,O] at p;omega
 by_cases G:P.length<=q;.have Q:=eT G rfl;rw[<-N,<-cl] at Q;have hr:=uC (b:=g) (P:=P) (by rw[F,R];exact Q) (by rw[R];exact cm.qz);rw[<-hm,R] at hr;have DV:DW c:=IS (P:=P) ⟨cm,hd,Q,rfl,rfl⟩ hr;refine⟨DV,hne,?_,by omega,col,by omega⟩;unfold cS;(repeat' split)<;>omega
 .have SJ:b.tm.length=1:=by
   have p:=o.d.cnt;have O:((b.Au.drop P.length).filter AL).countP EN=0:=Lj.2 λi hi=>by obtain⟨k,hk,D,rfl⟩:=Ou (BV.1 hi).1;rw[h3 k hk (by omega)];simp
   rw[o.d.Ë,Jk,O] at p
   .have:P.countP EN<=1:=by
     have s:∀{i:Item} {w:Ad},AA [w] i=true->w≠AF->EN i=false:=λh hw=>YY (by simpa using Dd hw) h;cases o.d.pf with
     |body h o a b=>simp[s a (by decide),s b (by decide)]
     |Ql h o a b=>simp[s a (by decide),b]
     |head h d t a b c=>simp[s a (by decide),s b (by decide),c]
    omega
  have E:c.tm=[]:=IY.1 (by omega);have Ā:b.Au.take q=P.take q:=by have:=BQ (List.take q) o.d.Kd;rwa [Cy,BG (by omega)] at this
  have J:∀(h:q<P.length),EN P[q]=true:=λh=>by
   have C:(b.Au.take P.length)[q]'(by rw[Av];omega)=P[q]:=by simp only[o.d.Kd]
   rw[If] at C;rw[<-C];exact h2
  have f:=J (by omega);have h0:c.head≠0:=λe=>by have:=hd.has.1;omega
  have Jd:(∃h,c.Au=[h]/\AA [JM] h=true)\/(∃h d,c.Au=[h,d]/\AA [JM] h=true/\AA [J1] d=true):=by
   rw[N,Ā];have s:∀{i:Item} {w:Ad},AA [w] i=true->w≠AF->EN i=false:=λh hw=>YY (by simpa using Dd hw) h;cases o.d.pf with
   |body h o' a b'=>
    exfalso;have e:q=1:=by simp only[AE,AY] at G;omega
    subst e;simp only[Nd,aGj] at f;rw[s b' (by decide)] at f;cases f
   |Ql h o' a b'=>
    have e:q=1:=by simp only[AE,AY] at G;omega
    subst e;exact .inl ⟨h,rfl,a⟩
   |head h d t a b' c'=>
    have e:q=1\/q=2:=by simp only[AE,AY] at G;omega
    rcases e with e|e
    .subst e;simp only[Nd,aGj] at f;rw[s b' (by decide)] at f;cases f
    .subst e;exact .inr ⟨h,d,rfl,a,b'⟩
  have oU:c.KH=false:=cm.fr;rcases Jd with⟨y,u,H⟩|⟨y,B,u,H,V⟩
  .have z:c.mode=6:=by
    rw[hm];show g.HU g.Au.length=6;rw[F,u,AR,BS.HU];have e:g.DO 0=y:=by unfold BS.DO;rw[if_neg (by rw[bf];simp[oU]),F,u];rfl
    rw[e,oL H,bh];simp only
    rw[if_neg h0]
   refine⟨⟨cm,λ_=>hd,λ_=> .inr (.inr (.inr (.inr (.inl ⟨z,⟨y,u,H⟩,E⟩)))),λh=>by omega⟩,hne,?_,by omega,col,by omega⟩;rw[z];unfold cS;simp<;>omega
  .have A:c.mode=4:=by
    rw[hm];show g.HU g.Au.length=4;rw[F,u];show g.HU (1+1)=4;rw[BS.HU];have e:g.DO 1=B:=by unfold BS.DO;rw[if_neg (by simp),F,u];rfl
    rw[e,oK V (by omega)]
   refine⟨⟨cm,λ_=>hd,λ_=> .inr (.inr (.inl ⟨A,⟨y,B,u,H,V⟩,E⟩)),λh=>by omega⟩,hne,?_,by omega,col,by omega⟩;rw[A];unfold cS;simp<;>omega
end
section
variable{P:List Item}{q:Int}{T:List Int}{m k j n:Nat}{b c d:BS}{nm x:Ad}{l:List Item}{at_:List A9}{t:Dv}{sp h:Int}{i:Item}
def Cm.eq(o:Cm b)(h1:c.a=b.a)(h2:c.CB=b.CB)(h3:c.Au=b.Au)(e:c.AW=b.AW)(r:c.FJ=b.FJ)(p:c.D3=b.D3)(g:c.KH=b.KH)(f:c.tm=b.tm):Cm c:=
 ⟨o.ok.of_eq h1 h2 h3 e,by rw[h1,e];exact o.ac,by rw[h1,r];exact o.ĉ,by rw[p];exact o.fo,by rw[g];exact o.fr,by rw[f];exact o.qz⟩
def QK(cm:Cm c)(hd:4<=c.mode->LQ c)(a:c.mode≠8)(sh:Shp c.mode c.Au c.tm):DW c:=⟨cm,hd,λ_=>sh,λh=>absurd h a⟩
def DW.kp(o:DW b)(h:Kp b c)(ho:c.Au=b.Au):DW c:=by
 obtain⟨f,r2,v,e,g,u,s,r⟩:=IQ.1 h.rest;refine⟨o.cm.go h,λp=>(o.hd (by rw[<-e];exact p)).go h,λa=>?_,λa=>?_⟩;.rw[e] at a;rw[e,ho,f];exact o.sh a
 .rw[e] at a;rw[ho,f,g];exact o.ZU a
def aAv(o:Fa b):Fa b.Sv:=by have hd:=o.CB;have hk:=o.ok.Ub _ hd.1;exact o.IK (eZ o.ok hd.1 ⟨hk.k,hk.Bv,hk.elem,hk.nm,hk.dt,hk.data,λh=>absurd hd.2 h,hk.sp,hk.xe,hk.Di,hk.Tt,hk.Ol,hk.root,hk.wT⟩ rfl rfl rfl ⟨(o.ok.CB _ hd.1).1,(o.ok.CB _ hd.1).2,o.ok.Yj _ hd.1⟩ rfl rfl λa=>a) (Qo rfl rfl rfl)
def å(o:Fa b):Fa (b.RR t):=by
 have hd:=o.CB;have hx:rU {kind:=3,CB:=b.CB,name:=t.name,Ke:=t.Ke,sys:=t.sys}:=by constructor<;>simp[Di,Gu,eX]
 have Zl:=Qm o.ok hx (.inr ⟨by simp,hd⟩) rfl rfl rfl rfl (λh=>absurd h.1 (show¬(3:Int)=4 by decide));exact o.IK (O0 Zl) (Qn.trans I6)
def gj(o:Cm b):Kp b b.Sv:=⟨aAv o.ok,o.ac.le (Qo rfl rfl rfl) o.ok.ac,Qo rfl rfl rfl,rfl⟩
def æ(o:Cm b):Kp b (b.RR t):=⟨å o.ok,o.ac.le (Qn.trans I6) o.ok.ac,Qn.trans I6,rfl⟩
def U4:Fx []:=⟨by decide,λa ha=>by cases ha⟩
def uD(hn:nm.length<=1000)(hp:WT c+1<=WT b)(h1:c.a=(b.CX nm [] 1).a)(h2:c.Au=(b.CX nm [] 1).Au)(h3:c.AW=(b.CX nm [] 1).AW)(e:c.tm=(b.CX nm [] 1).tm):Tr b c:=by refine⟨?_,by rw[h3,Gi];exact Ab _,λm r=>((Qq (m:=m) (sp:=1) (nm:=nm) (r.le (by omega)) U4 hn)).eq h1 h2 h3 e⟩;rw[h2,FY,Ai,AR];omega
def Y7(ho:c.Au.length+WT c<=b.Au.length+WT b)(h1:c.a=b.a)(h2:c.Au.Sublist b.Au)(h3:c.AW.Sublist b.AW)(e:c.tm.length<=b.tm.length):Tr b c:=
 ⟨ho,h3.length_le,λm r=>(r.le (by omega)).sub h1 h2 h3 e⟩
def uE{qk:Dv->Bool}(o:DW b)(hm:b.mode=1):NX t b (b.Ls qk t):=by
 have hs:b.Au=[]/\b.tm=[]:=by rcases o.sh (by omega) with h|h|h|h|h|h<;>first|exact h.2|omega
 have e:∀c:BS,Cm c->c.Au=[]->c.tm=[]->c.mode=2->DW c:=λc cm h1 h2 h3=>QK cm (λh=>by omega) (by omega) (.inl ⟨.inr h3,h1,h2⟩);unfold BS.Ls;refine NX.ite (λ_=> .DC o) λ_=>NX.ite (λ_=> .DC o) λ_=>NX.ite (λ_=> .DC (o.kp (JQ o.cm) rfl)) λ_=>NX.ite (λ_=>?_) λ_=>?_
 .refine .inr ⟨e _ ((o.cm.go (gj o.cm)).eq rfl rfl rfl rfl rfl rfl rfl rfl) hs.1 hs.2 rfl,λ_=>⟨?_,?_⟩⟩;.unfold LG;have:(b.Sv.again 2).1.mode=2:=rfl;rw[this,hm];simp[cS]
  .refine⟨?_,Ab _,λm r=>((r.le (by omega)).IK (A':=b.Sv.a) (TA rfl rfl)).eq rfl rfl rfl rfl⟩;have:(b.Sv.again 2).1.mode=2:=rfl;have g:(b.Sv.again 2).1.Au=b.Au:=rfl;unfold WT;rw[this,hm,g];simp
 .simp only
  have f:=æ (t:=t) o.cm;refine .DC (e _ ?_ ?_ ?_ rfl)
  .split;.exact((o.cm.go f).go (gj (o.cm.go f))).eq rfl rfl rfl rfl rfl rfl rfl rfl
   .exact(o.cm.go f).eq rfl rfl rfl rfl rfl rfl rfl rfl
  .split<;>exact hs.1
  .split<;>exact hs.2
def aAw(h:nm=aWS):AA [JM] (b.IJ nm at_ 1)=true:=by rw[NU,h];decide
def ZZ(o:DW b)(hm:b.mode=2):NX t b (b.Hj t):=by
 have hs:b.Au=[]/\b.tm=[]:=by rcases o.sh (by omega) with h|h|h|h|h|h<;>first|exact h.2|omega
 have e:∀nm at_,nm=aWS->∀c:BS,c.a=(b.CX nm at_ 1).a->c.CB=(b.CX nm at_ 1).CB->c.Au=(b.CX nm at_ 1).Au->c.AW=(b.CX nm at_ 1).AW->c.FJ=(b.CX nm at_ 1).FJ->c.D3=(b.CX nm at_ 1).D3->c.KH=(b.CX nm at_ 1).KH->c.tm=(b.CX nm at_ 1).tm->c.mode=3->DW c:=by
  intro nm at_ hn c h1 h2 h3 u s r p f g;have k:=Lb (nm:=nm) (l:=at_) (sp:=1) o.cm;refine QK ((o.cm.go k).eq h1 h2 h3 u s r p f) (λh=>by omega) (by omega) (.inr (.inl ⟨g,⟨_,?_,aAw (b:=b) (at_:=at_) hn⟩,?_⟩));.rw[h3,FY,hs.1];rfl
  .rw[f,(IQ.1 k.rest).1];exact hs.2
 unfold BS.Hj;refine NX.ite (λ_=> .DC o) λ_=>NX.ite (λ_=> .DC o) λ_=>NX.ite (λ_=> .DC o) λ_=>NX.ite (λ_=> .DC o) λ_=>NX.ite (λ_=> .DC (o.kp (JQ o.cm) rfl)) λ_=>NX.ite (λh=>?_) λ_=>?_;.exact .DC (e t.name t.Aq (by simpa using h.2) _ rfl rfl rfl rfl rfl rfl rfl rfl rfl)
 .refine .inr ⟨e aWS [] rfl _ rfl rfl rfl rfl rfl rfl rfl rfl rfl,λ_=>⟨?_,?_⟩⟩;.unfold LG;have:((b.C6 (HG aWS)).again 3).1.mode=3:=rfl;rw[this,hm];simp[cS]
  .refine uD (nm:=aWS) (by decide) ?_ rfl rfl rfl rfl;have:((b.C6 (HG aWS)).again 3).1.mode=3:=rfl;unfold WT;rw[this,hm];simp
def Rm:(b.Jb t).Au=b.Au:=by unfold BS.Jb;split;rfl;exact cK
def TX(o:Cm b):Kp b (b.Jb t):=by unfold BS.Jb;split;exact .refl o;exact nW o
def Z0(o:DW b)(hm:b.mode=3):NX t b (b.Hk t):=by
 obtain⟨hs,sZ⟩:(∃h,b.Au=[h]/\AA [JM] h=true)/\b.tm=[]:=by rcases o.sh (by omega) with h|h|h|h|h|h<;>first|exact h.2|omega
 obtain⟨p,z,y⟩:=hs;have f:∀nm at_,nm=J1->∀c:BS,c.a=(b.CX nm at_ 1).a->c.CB=(b.CX nm at_ 1).CB->c.Au=(b.CX nm at_ 1).Au->c.AW=(b.CX nm at_ 1).AW->c.FJ=(b.CX nm at_ 1).FJ->c.D3=(b.CX nm at_ 1).D3->c.KH=(b.CX nm at_ 1).KH->c.tm=(b.CX nm at_ 1).tm->c.mode=4->c.head=b.MQ 1->DW c:=by
  intro nm at_ hn c h1 h2 h3 w v u s g r ZO;have k:=Lb (nm:=nm) (l:=at_) (sp:=1) o.cm;have hw:=QG (b:=b) (nm:=nm) (l:=at_);have e:c.head=b.a.len+1:=by rw[ZO];unfold BS.MQ;rw[if_pos Lm]
  refine QK ((o.cm.go k).eq h1 h2 h3 w v u s g) (λ_=>?_) (by omega) (.inr (.inr (.inl ⟨r,⟨p,b.IJ nm at_ 1,?_,y,?_⟩,?_⟩)));.exact⟨by rw[h1,e];exact hw.2.2.1,by rw[h1,e];exact hw.2.2.2,by rw[h1,e];exact hw.2.1,by rw[h1,e,hw.1];exact hn⟩
  .rw[h3,FY,z];rfl
  .rw[NU,hn];decide
  .rw[g,(IQ.1 k.rest).1];exact sZ
 unfold BS.Hk;refine NX.ite (λ_=> .DC o) λ_=>NX.ite (λ_=> .DC o) λ_=>NX.ite (λ_=> .DC o) λ_=>NX.ite (λ_=> .DC o) λ_=>NX.ite (λ_=> .DC (o.kp (JQ o.cm) rfl)) λ_=>NX.ite (λ_=> .DC (o.kp (TX o.cm) Rm)) λ_=>NX.ite (λh=>?_) λ_=>?_;.exact .DC (f t.name t.Aq (by simpa using h.2) _ rfl rfl rfl rfl rfl rfl rfl rfl rfl rfl)
 .refine .inr ⟨f J1 [] rfl _ rfl rfl rfl rfl rfl rfl rfl rfl rfl rfl,λ_=>⟨?_,?_⟩⟩;.unfold LG;have:(BS.again {b.C6 (HG aWW) with head:=b.MQ 1} 4).1.mode=4:=rfl;rw[this,hm];simp[cS]
  .refine uD (nm:=aWW) (by decide) ?_ rfl rfl rfl rfl;have:(BS.again {b.C6 (HG aWW) with head:=b.MQ 1} 4).1.mode=4:=rfl;unfold WT;rw[this,hm];simp
def ç(o:Cm b){s:Int}:Cm (b.Df nm at_ s):=(o.go (Lb (nm:=nm) (l:=at_) (sp:=1) o)).eq rfl rfl rfl rfl rfl rfl rfl rfl
def è(o:LQ b){s:Int}:LQ (b.Df nm at_ s):=o.le (c:=b.Df nm at_ s) O3 (by have:=(IQ.1 (Rj (b:=b) (nm:=nm) (l:=at_) (sp:=1))).2.2.1;exact this)
def jD{s:Int}:(b.Df nm at_ s).Au=b.Au++[b.IJ nm at_ 1]:=FY
def U5{s:Int}:(b.Df nm at_ s).tm=b.tm/\(b.Df nm at_ s).GM=b.mode:=by have:=IQ.1 (Rj (b:=b) (nm:=nm) (l:=at_) (sp:=1));exact⟨this.1,this.2.2.2.1⟩
def jE(cm:Cm b)(hd:LQ b)(h1:nm∈jA)(e:4<=b.mode)(a:b.mode≠8)(sh:Shp b.mode b.Au b.tm){s:Int}:DW (b.Df nm at_ s):=by
 refine⟨ç cm,λ_=>è hd,λh=>absurd rfl h,λ_=>⟨b.Au,b.IJ nm at_ 1,jD,?_,?_,?_,?_⟩⟩;.rw[NU];simpa using h1
 .rw[U5.2];exact e
 .rw[U5.2];exact a
 .rw[U5.1,U5.2];exact sh
def Dp.ZU(o:Dp P q T b)(hm:q=7\/(q=18/\T≠[]))(h1:nm∈jA){s:Int}:DW (b.Df nm at_ s):=
 jE o.cm o.hd h1 (by rw[o.md];omega) (by rw[o.md];omega) ((IS o hm).sh (by rw[o.md];omega))
def BS.Pk(b:BS)(t:Dv):BS:={b.C6 t with AW:=(b.C6 t).AW++[B2.zero],fs:=false,mode:=18,tm:=(b.C6 t).tm++[18]}
def uF(o:Cm b):Cm (b.Pk t):=by
 have a:=o.go (Lb (nm:=t.name) (l:=t.Aq) (sp:=1) o);refine⟨(iH a.ok).of_eq rfl rfl rfl rfl,?_,a.ĉ,a.fo,a.fr,?_⟩
 .intro e he;rcases Aj.1 he with h|h
  .exact a.ac e h
  .simp at h;subst h;exact .inl rfl
 .intro m hm;rcases Aj.1 hm with h|h
  .exact a.qz m h
  .simp at h;exact .inr h
def uG(o:LQ b):LQ (b.Pk t):=o.le (c:=b.Pk t) O3 (by have:=(IQ.1 (Rj (b:=b) (nm:=t.name) (l:=t.Aq) (sp:=1))).2.2.1;exact this)
def jF:(b.Pk t).tm=b.tm++[18]:=by have:=(IQ.1 (Rj (b:=b) (nm:=t.name) (l:=t.Aq) (sp:=1))).1;show(b.CX t.name t.Aq 1).tm++[18]=_;rw[this]
def TY:(b.Pk t).Au=b.Au++[b.IJ t.name t.Aq 1]:=FY
def jG(h:t.name=AF):EN (b.IJ t.name t.Aq 1)=true:=by rw[EN,NU,h];decide
def é{P:List Item}(p:Pf P)(hc:P.countP EN=1):DL P P 1:=by
 have e:P.filter AL=P:=GV.2 λi hi=>p.sp i hi;refine⟨p,Bf,λi hi=>?_,by rw[e];exact hc,?_⟩;.rw[e,E7] at hi;cases hi
 .rw[e];intro A x C a hx;have:=p.not (ws:=[wP]) (by decide) x (by rw[a];simp);rw[this] at hx;cases hx
def aAx(cm:Cm b)(hd:LQ b)(hn:t.name=AF)(hs:(∃h,b.Au=[h]/\AA [JM] h=true)\/(∃h d,b.Au=[h,d]/\AA [JM] h=true/\AA [J1] d=true))(ć:b.tm=[]):DW (b.Pk t):=by
 have s:(b.Pk t).tm=[18]:=by rw[jF,ć];rfl
 have g:∀{i:Item} {w:Ad},AA [w] i=true->w≠AF->EN i=false:=λh hw=>YY (by simpa using Dd hw) h;have f:=jG (b:=b) hn;have key:∀P,Pf P->P.countP EN=1->(b.Pk t).Au=P->DW (b.Pk t):=λP p hc e=>IS (P:=P) (q:=18) (T:=[18]) ⟨uF cm,uG hd,by rw[e];exact é p hc,rfl,s⟩ (.inr ⟨rfl,by simp⟩)
 rcases hs with⟨h,o,a⟩|⟨h,d,o,a,r⟩
 .refine key _ (.Ql h _ a f) ?_ (by rw[TY,o];rfl);simp[g a (by decide),f]
 .refine key _ (.head h d _ a r f) ?_ (by rw[TY,o];rfl);simp[g a (by decide),g r (by decide),f]
def Dp.Ql(o:Dp P q T b)(hn:t.name=AF):DW (b.Pk t):=by refine IS (P:=P) (q:=18) (T:=T++[18]) ⟨uF o.cm,uG o.hd,?_,rfl,by rw[jF,o.tme]⟩ (.inr ⟨rfl,by simp⟩);rw[TY,Ai,AR];exact o.d.aJA (jG hn)
def M4{Q:BS×Bool->Prop}(hk:t.ok)(hs:t.st EY)(h1:t.name∈Me->Q (b.GO t,false))(h2:t.name∈jA->∀s,(s=2\/s=3\/s=4)->Q (b.Df t.name t.Aq s,false))(h3:t.name=AF->Q (b.Pk t,false)):Q (b.Dh t):=by
 obtain⟨a,hn⟩:=hs;have a1:¬t.k=1:=by omega
 have a2:¬t.st [aWW]:=λh=>by have:=h.2;simp at this;rw[this] at hn;exact absurd hn (by decide)
 have a3:∀ws,¬t.nU ws:=λws h=>by have:=h.1;omega
 have a4:¬t.Ju:=λh=>by have:=h.1;omega
 have a5:¬t.k=4:=by omega
 have a6:¬t.st [aWS]:=λh=>by have:=h.2;simp at this;rw[this] at hn;exact absurd hn (by decide)
 unfold BS.Dh;rw[if_neg (by simpa using hk),if_neg a1,if_neg a2,if_neg (a3 _),if_neg a4,if_neg a5,if_neg a6];by_cases o:t.st Me;.rw[if_pos o];exact h1 o.2
 rw[if_neg o];by_cases g:t.st [aW4];.rw[if_pos g];exact h2 (by have:=g.2;simp at this;rw[this];decide) 2 (by omega)
 rw[if_neg g];by_cases f:t.st sNS;.rw[if_pos f];exact h2 (by have:=f.2;simp only[sNS,Aw,DY,LW] at this;rcases this with h|h<;>rw[h]<;>decide) 3 (by omega)
 rw[if_neg f];by_cases e:t.st [aXg];.rw[if_pos e];exact h2 (by have:=e.2;simp at this;rw[this];decide) 4 (by omega)
 rw[if_neg e];have p:t.name=AF:=by have b1:t.name∉Me:=λh=>o ⟨a,h⟩;have v:t.name∉[aW4]:=λh=>g ⟨a,h⟩;have r:t.name∉sNS:=λh=>f ⟨a,h⟩;have u:t.name∉[aXg]:=λh=>e ⟨a,h⟩;simp only[Me,sNS,EY,Aw,DY,LW,not_or] at b1 v r u hn;rcases hn with h|h|h|h|h|h|h|h|h|h<;>first|exact h|exact absurd h b1.1|exact absurd h b1.2.1|exact absurd h b1.2.2.1|exact absurd h b1.2.2.2.1|exact absurd h b1.2.2.2.2|exact absurd h v|exact absurd h r.1|exact absurd h r.2|exact absurd h u
 have y:¬t.st [aW3]:=λh=>by have:=h.2;rw[p] at this;exact absurd this (by decide)
 have w:¬t.en [aWW]:=λh=>by have:=h.1;omega
 rw[if_neg y,if_neg w,if_pos ⟨a,by rw[p];simp⟩];exact h3 p
def TZ(hk:t.ok)(hs:t.en [AF]):b.Dh t=(b.CN,false):=by
 obtain⟨e,hn⟩:=hs;have a:t.name=AF:=by simpa using hn
 have a1:¬t.k=1:=by omega
 have a2:∀ws,¬t.st ws:=λws h=>by have:=h.1;omega
 have a3:¬t.nU dk:=λh=>h.2 (by rw[a];decide);have a4:¬t.Ju:=λh=>by have:=h.1;omega
 have a5:¬t.k=4:=by omega
 have a6:¬t.en [aWW]:=λh=>by have:=h.2;rw[a] at this;exact absurd this (by decide)
 unfold BS.Dh;rw[if_neg (by simpa using hk),if_neg a1,if_neg (a2 _),if_neg a3,if_neg a4,if_neg a5,if_neg (a2 _),if_neg (a2 _),if_neg (a2 _),if_neg (a2 _),if_neg (a2 _),if_neg (a2 _),if_neg a6,if_neg (a2 _),if_pos ⟨e,hn⟩]
def VO(o:Dp P q T b)(hm:q=7\/(q=18/\T≠[]))(hk:t.ok)(hs:t.st EY):NX t b (b.Dh t):=
 M4 hk hs (λ_=> .DC (IS o.sd hm)) (λh s _=> .DC (o.ZU hm h)) λh=> .DC (o.Ql h)
def gl(o:Dp P b.mode b.tm b)(hm:b.mode=7\/(b.mode=18/\b.tm≠[])):DW b.CN:=by
 unfold BS.CN;split;.exact IS o hm
 .rename_i h;have h1:0<=Ax (AA [AF]) b.Au:=by omega
  rw[M0 (λ_=>QA) h1];exact(gd o h1 rfl).1
def ov{i:Item}{w:Ad}(h:AA [w] i=true)(hw:w≠AF):EN i=false:=YY (by simpa using Dd hw) h
def gm(h:∀i∈b.Au,EN i=false):b.CN=b:=by
 refine ob ?_;rcases B8 (q:=EN) (l:=b.Au) with⟨h1,_⟩|⟨k,hk,_,h2,_⟩
 .show Ax EN b.Au<0;omega
 .rw[h _ (Ay hk)] at h2;cases h2
def uH(o:DW b)(hm:b.mode=4):NX t b (b.Dh t):=by
 obtain⟨⟨e,hd,a,r,u⟩,sZ⟩:(∃h d,b.Au=[h,d]/\AA [JM] h=true/\AA [J1] d=true)/\b.tm=[]:=by rcases o.sh (by omega) with h|h|h|h|h|h<;>first|exact h.2|omega
 have p:=o.hd (by omega);have jH:b.Gs={b with Au:=[e]}:=by unfold BS.Gs;rw[a];rfl
 have f:DW {b.Gs with mode:=6}:=by rw[jH];exact QK ((o.cm.go (o9 o.cm (ol:=[e]) (by rw[a];simp))).eq rfl rfl rfl rfl rfl rfl rfl rfl) (λ_=>p.le .refl rfl) (by simp) (.inr (.inr (.inr (.inr (.inl ⟨rfl,⟨e,rfl,r⟩,sZ⟩)))))
 by_cases hk:t.ok;rotate_left;.unfold BS.Dh;rw[if_pos hk];exact .DC o
 by_cases v:t.st EY;.refine M4 hk v (λ_=> .DC (o.kp (TQ o.cm) (QH (by rw[a];simp)))) (λh s _=> .DC (jE o.cm p h (by omega) (by omega) (o.sh (by omega)))) λh=> .DC (aAx o.cm p h (.inr ⟨e,hd,a,r,u⟩) sZ)
 have g:∀ws:List Ad,(∀w∈ws,w∈EY)->¬t.st ws:=λws hw h=>v ⟨h.1,hw _ h.2⟩;unfold BS.Dh;rw[if_neg (by simpa using hk)];refine NX.ite (λ_=> .DC o) λ_=>NX.ite (λ_=> .DC o) λ_=>NX.ite (λ_=> .DC o) λ_=>NX.ite (λ_=> .DC (o.kp (TP o.cm) rfl)) λ_=>NX.ite (λ_=> .DC (o.kp (JQ o.cm) rfl)) λ_=>NX.ite (λ_=> .DC (o.kp (TX o.cm) Rm)) λ_=>?_;rw[if_neg (g _ (by decide)),if_neg (g _ (by decide)),if_neg (g _ (by decide)),if_neg (g _ (by decide))];refine NX.ite (λh=>?_) λ_=>NX.ite (λ_=> .DC f) λ_=>?_
 .have k:=Lb (nm:=t.name) (l:=t.Aq) (sp:=1) o.cm;refine .DC (QK ((o.cm.go k).eq rfl rfl rfl rfl rfl rfl rfl rfl) (λ_=>(p.go k).le .refl rfl) (by simp) (.inr (.inr (.inr (.inl ⟨rfl,⟨e,hd,b.IJ t.name t.Aq 1,?_,r,u,?_⟩,?_⟩)))));.show(b.CX t.name t.Aq 1).Au=_;rw[FY,a];rfl
  .rw[NU];simpa using h.2
  .show(b.CX t.name t.Aq 1).tm=_;rw[(IQ.1 k.rest).1];exact sZ
 .rw[if_neg (g _ (by decide))];refine NX.ite (λ_=>?_) λ_=> .inr ⟨f,λ_=>⟨?_,?_⟩⟩
  .rw[gm (λi hi=>by
    rw[a] at hi;simp at hi;rcases hi with rfl|rfl
    .exact ov r (by decide)
    .exact ov u (by decide))]
   exact .DC o
  .unfold LG;have:(b.Gs.again 6).1.mode=6:=rfl;rw[this,hm];simp[cS]
  .have y:(b.Gs.again 6).1={b with Au:=[e],mode:=6}:=by unfold BS.again;rw[jH]
   rw[y];refine Y7 ?_ rfl (by rw[a];simp) (BK _) (Ab _);unfold WT;rw[hm,a];simp
def Z3(o:DW b)(hm:b.mode=5):NX t b (b.Hl t):=by
 obtain⟨⟨f,hd,x,e,z,y,F⟩,sZ⟩:(∃h d x,b.Au=[h,d,x]/\AA [JM] h=true/\AA [J1] d=true/\AA [aJ2] x=true)/\b.tm=[]:=by rcases o.sh (by omega) with h|h|h|h|h|h<;>first|exact h.2|omega
 have p:=o.hd (by omega);have jH:b.Gs={b with Au:=[f,hd]}:=by unfold BS.Gs;rw[e];rfl
 have a:DW {b.Gs with mode:=4}:=by rw[jH];exact QK ((o.cm.go (o9 o.cm (ol:=[f,hd]) (by rw[e];simp))).eq rfl rfl rfl rfl rfl rfl rfl rfl) (λ_=>p.le .refl rfl) (by simp) (.inr (.inr (.inl ⟨rfl,⟨f,hd,rfl,z,y⟩,sZ⟩)))
 unfold BS.Hl;by_cases hk:t.ok;rotate_left;.rw[if_pos hk];exact .DC o
 rw[if_neg (by simpa using hk)];refine NX.ite (λ_=> .DC o) λg=>NX.ite (λ_=> .DC o) λB=>NX.ite (λ_=> .DC o) λA=>NX.ite (λ_=> .DC (o.kp (TX o.cm) Rm)) λD=>NX.ite (λ_=> .DC a) λ_=>NX.ite (λh=>?_) λr=>NX.ite (λh=>?_) λC=>NX.ite (λh=>?_) λ_=> .inr ⟨a,λ_=>⟨?_,?_⟩⟩;.unfold BS.Dh;have E:=h.1;rw[if_neg (by simpa using hk),if_neg g,if_neg (λh=>by have:=h.1;omega),if_neg (λh=>by have:=h.1;omega),if_pos h];exact .DC (o.kp (TP o.cm) rfl)
 .unfold BS.Dh;rw[if_neg (by simpa using hk),if_neg g,if_neg (λh=>by have:=h.1;omega),if_neg (λh=>by have:=h.1;omega),if_neg r,if_pos h];exact .DC (o.kp (JQ o.cm) rfl)
 .refine M4 hk ⟨h.1,by have key:∀w∈aAe,w∈EY:=(by decide);exact key _ h.2⟩ (λ_=> .DC (o.kp (TQ o.cm) (QH (by rw[e];simp)))) (λh s _=> .DC (jE o.cm p h (by omega) (by omega) (o.sh (by omega)))) λu=>?_;have:=h.2;rw[u] at this;exact absurd this (by decide)
 .unfold LG;have:(b.Gs.again 4).1.mode=4:=rfl;rw[this,hm];simp[cS]
 .have v:(b.Gs.again 4).1={b with Au:=[f,hd],mode:=4}:=by unfold BS.again;rw[jH]
  rw[v];refine Y7 ?_ rfl (by rw[e];simp) (BK _) (Ab _);unfold WT;rw[hm,e];simp
def oz(o:DW b)(hm:b.mode=8):NX t b (b.Ma t):=by
 obtain⟨X,r,e,A,z,p,sh⟩:=o.ZU hm;have u:X≠[]:=by
  rintro rfl;rcases sh with h|h|h|h|h|h
  .omega
  .omega
  .obtain⟨_,_,h2,_⟩:=h.2.1;cases h2
  .obtain⟨_,_,_,h2,_⟩:=h.2.1;cases h2
  .obtain⟨_,h2,_⟩:=h.2.1;cases h2
  .obtain⟨P,g⟩:=h.2;have v:=g.len;have y:=g.pf.len;rw[AY] at v;omega
 have s:=Cq.2 u;have jH:b.Gs={b with Au:=X}:=by unfold BS.Gs;rw[if_neg (by rw[e];simp;omega)];rw[e];simp
 have a:DW {b.Gs with mode:=b.GM}:=by rw[jH];exact QK ((o.cm.go (o9 o.cm (ol:=X) (by rw[e];simp))).eq rfl rfl rfl rfl rfl rfl rfl rfl) (λ_=>(o.hd (by omega)).le .refl rfl) p sh
 unfold BS.Ma;refine NX.ite (λ_=> .DC o) λ_=>NX.ite (λ_=> .DC (o.kp (TP o.cm) rfl)) λ_=>NX.ite (λh=> .inr ⟨a,λ_=>⟨?_,?_⟩⟩) λ_=>NX.ite (λ_=> .DC a) λ_=> .DC o
 .unfold LG;have f:(b.Gs.again b.GM).1.mode=b.GM:=rfl;have w:(b.Gs.again b.GM).1.tm=b.tm:=by show b.Gs.tm=_;rw[jH]
  rw[f,w,if_pos h,if_pos h,if_neg p,if_pos hm];omega
 .have f:(b.Gs.again b.GM).1={b with Au:=X,mode:=b.GM}:=by unfold BS.again;rw[jH]
  rw[f];refine Y7 ?_ rfl (by rw[e];simp) (BK _) (Ab _);unfold WT;rw[hm,e];simp only[Ai,AR];(repeat' split)<;>omega
end
section
variable{P:List Item}{q:Int}{T:List Int}{m k j n:Nat}{b c d:BS}{nm x:Ad}{l:List Item}{at_:List A9}{t:Dv}{sp h:Int}{i:Item}
def DW.U7(o:DW b)(hm:b.mode=6):M3 b:=by
 obtain⟨⟨f,e,g⟩,sZ⟩:(∃h,b.Au=[h]/\AA [JM] h=true)/\b.tm=[]:=by rcases o.sh (by omega) with h|h|h|h|h|h<;>first|exact h.2|omega
 have a:=o.hd (by omega);refine⟨a.has,a.kind,a.AX,a.name,λh=>?_⟩;rw[e] at h;simp at h;have h1:=o.cm.ok.op f (by rw[e];simp);rw[<-h,a.name] at h1;have h2:=(Ch.1 g).2;simp at h2;have h3:=h1.2.2.2;rw[h2] at h3;exact absurd h3 (by decide)
def aAy(o:Cm b)(a:M3 b):Cm {b with Au:=b.Au++[BS.EM b.head]}:=by have Zl:=o.ok.ň (i:=BS.EM b.head) (k:=b.Au.length) ⟨a.has,a.kind,a.AX,a.name⟩ a.no;rw[Bf,E7] at Zl;exact⟨Zl,o.ac,o.ĉ,o.fo,o.fr,o.qz⟩
def Y8(f:Item)(n:Int)(hn:f.node≠n)(r:List Item)(hr:∀i∈r,i.node≠n):B9 n ([f,BS.EM n]++r)=f::r:=by
 have e:Ax (Bq n) ([f,BS.EM n]++r)=1:=by have:=Hi (q:=Bq n) (a:=[f]) (i:=BS.EM n) (c:=r) (Ag rfl) (λx hx=>Ak (hr x hx));simpa using this
 unfold B9;rw[e,if_neg (by decide)];rfl
def ND{Q:BS×Bool->Prop}(o:DW b)(hm:b.mode=6)(hk:t.ok)(hs:t.st EY)
  (h1:t.name∈Me->∀c:BS,DW c->c.Au=b.Au->c.mode=6->c.tm=b.tm->c.AW=b.AW->Q (c,false))
  (h2:t.name∈jA->∀c:BS,DW c->(∃x,c.Au=b.Au++[x])->c.mode=8->c.GM=6->c.sw≠0->c.tm=b.tm->Q (c,false))
  (h3:t.name=AF->∀c:BS,DW c->(∃x,EN x=true/\c.Au=b.Au++[x])->c.mode=18->c.tm=b.tm++[18]->c.AW=b.AW++[B2.zero]->Q (c,false)):Q (b.Ii t):=by
 have I:=o.U7 hm;obtain⟨⟨h0,A,N⟩,sZ⟩:(∃h,b.Au=[h]/\AA [JM] h=true)/\b.tm=[]:=by rcases o.sh (by omega) with h|h|h|h|h|h<;>first|exact h.2|omega
 have W:=o.hd (by omega);have w:h0.node≠b.head:=λe=>I.no (by rw[A];simp[e]);obtain⟨b1,Qa⟩:∃b1:BS,b1={b with Au:=b.Au++[BS.EM b.head]}:=⟨_,rfl⟩;have key:b.Ii t=({(b1.Dh t).1 with Au:=B9 b.head (b1.Dh t).1.Au},(b1.Dh t).2):=by rw[Qa];rfl
 have p:Cm b1:=by rw[Qa];exact aAy o.cm I
 have qc:b1.Au=[h0,BS.EM b.head]:=by rw[Qa];show b.Au++[BS.EM b.head]=_;rw[A];rfl
 have G:b1.mode=6:=by rw[Qa];exact hm
 have F:b1.tm=b.tm:=by rw[Qa]
 have a1:b1.AW=b.AW:=by rw[Qa]
 have O:b1.a=b.a:=by rw[Qa]
 have Z:b1.head=b.head:=by rw[Qa]
 have z:LQ b1:=W.le (by rw[O];exact .refl) Z;have hlen:b.head≠b1.a.len+1:=by rw[O];exact UH I.has
 have v:=o.sh (by omega);rw[hm] at v;rw[key];clear key Qa;refine M4 (b:=b1) (Q:=λr=>Q ({r.1 with Au:=B9 b.head r.1.Au},r.2)) hk hs (λV=>?_) (λL s U=>?_) λK=>?_
 .have k:Kp b1 (b1.GO t):=TQ (nm:=t.name) (l:=t.Aq) p;have D:(b1.GO t).Au=[h0,BS.EM b.head]:=(QH (b:=b1) (nm:=t.name) (l:=t.Aq) (by rw[qc];simp)).trans qc;have u:B9 b.head (b1.GO t).Au=b.Au:=by rw[D,A];exact Y8 h0 b.head w [] (λi hi=>by cases hi)
  obtain⟨J,_,R,H,_⟩:=IQ.1 k.rest;have S:(b1.GO t).AW=b.AW:=by
   have Y:∀c:BS,c.Gs.AW=c.AW:=λc=>by unfold BS.Gs;split<;>rfl
   have X:(b1.C6 t).AW=b1.AW:=Gi;show(b1.C6 t).Gs.AW=_;rw[Y,X,a1]
  generalize b1.GO t=c at*;have f:=p.go k;refine h1 V _ (QK (f.go (o9 f (Eo (n:=b.head)))) (λ_=>(z.le (c:=c) k.le R).le .refl rfl) ?_ ?_) u (H.trans G) (J.trans F) S;.show c.mode≠8;rw[H,G];decide
  .show Shp c.mode (B9 b.head c.Au) c.tm;rw[H,G,u,J,F];exact v
 .have f:=ç (nm:=t.name) (at_:=t.Aq) (s:=s) p;have D:(b1.Df t.name t.Aq s).Au=[h0,BS.EM b.head]++[b1.IJ t.name t.Aq 1]:=by rw[jD,qc]
  have u:B9 b.head (b1.Df t.name t.Aq s).Au=b.Au++[b1.IJ t.name t.Aq 1]:=by rw[D,A];exact Y8 h0 b.head w _ (λi hi=>by simp only[Be] at hi;rw[hi,nS];exact Dd hlen)
  have C:=U5 (b:=b1) (nm:=t.name) (at_:=t.Aq) (s:=s);have B:=C.1.trans F;have g:=C.2.trans G;have Ua:=è (nm:=t.name) (at_:=t.Aq) (s:=s) z;have M:(b1.Df t.name t.Aq s).mode=8:=rfl;have es:(b1.Df t.name t.Aq s).sw=s:=rfl;generalize b1.Df t.name t.Aq s=c at*;refine h2 L _ ⟨f.go (o9 f (Eo (n:=b.head))),λ_=>Ua.le .refl rfl,λh=>absurd M h,λ_=>⟨b.Au,b1.IJ t.name t.Aq 1,u,?_,?_,?_,?_⟩⟩ ⟨_,u⟩ M g (by show c.sw≠0;rw[es];omega) B;.rw[NU];simpa using L
  .show 4<=c.GM;rw[g];decide
  .show c.GM≠8;rw[g];decide
  .show Shp c.GM b.Au c.tm;rw[g,B];exact v
 .have f:=uF (t:=t) p;have D:(b1.Pk t).Au=[h0,BS.EM b.head]++[b1.IJ t.name t.Aq 1]:=by rw[TY,qc]
  have u:B9 b.head (b1.Pk t).Au=b.Au++[b1.IJ t.name t.Aq 1]:=by rw[D,A];exact Y8 h0 b.head w _ (λi hi=>by simp only[Be] at hi;rw[hi,nS];exact Dd hlen)
  have C:(b1.Pk t).tm=b.tm++[18]:=by rw[jF,F]
  have y:=jG (b:=b1) K;have ea:(b1.Pk t).AW=b.AW++[B2.zero]:=by show(b1.C6 t).AW++[B2.zero]=_;have:(b1.C6 t).AW=b1.AW:=Gi;rw[this,a1]
  have Ua:=uG (t:=t) z;have E:(b1.Pk t).mode=18:=rfl;generalize b1.Pk t=c at*;refine h3 K _ (IS (P:=[h0,b1.IJ t.name t.Aq 1]) (q:=18) (T:=[18]) ⟨f.go (o9 f (Eo (n:=b.head))),Ua.le .refl rfl,?_,E,?_⟩ (.inr ⟨rfl,by simp⟩)) ⟨_,y,u⟩ E C ea;.show DL _ (B9 b.head c.Au) _;rw[u,A];exact é (.Ql h0 _ N y) (by simp[ov N (by decide),y])
  .show c.tm=_;rw[C,sZ];rfl
def aAz{h o:Item}(h1:AA [JM] h=true)(h2:AA [Tv] o=true):DL [h,o] [h,o] 0:=by
 have p:=Pf.body h o h1 h2;have e:[h,o].filter AL=[h,o]:=GV.2 λi hi=>p.sp i hi;refine⟨p,rfl,λi hi=>?_,by rw[e];simp[ov h1 (by decide),ov h2 (by decide)],?_⟩;.rw[e] at hi;cases hi
 .rw[e];intro A x C a hx;have:=p.not (ws:=[wP]) (by decide) x (by rw[a];simp);rw[this] at hx;cases hx
def jI(o:DW b)(hm:b.mode=6):NX t b (b.HH t):=by
 obtain⟨⟨h0,r,p⟩,sZ⟩:(∃h,b.Au=[h]/\AA [JM] h=true)/\b.tm=[]:=by rcases o.sh (by omega) with h|h|h|h|h|h<;>first|exact h.2|omega
 have s:=o.hd (by omega);have e:∀nm at_,nm=Tv->∀c:BS,c.a=(b.CX nm at_ 1).a->c.CB=(b.CX nm at_ 1).CB->c.Au=(b.CX nm at_ 1).Au->c.AW=(b.CX nm at_ 1).AW->c.FJ=(b.CX nm at_ 1).FJ->c.D3=(b.CX nm at_ 1).D3->c.KH=(b.CX nm at_ 1).KH->c.tm=(b.CX nm at_ 1).tm->c.mode=7->c.head=(b.CX nm at_ 1).head->DW c:=by
  intro nm at_ hn c h1 h2 h3 z y w v f u ZO;have k:=Lb (nm:=nm) (l:=at_) (sp:=1) o.cm;have A:c.tm=[]:=by rw[f,(IQ.1 k.rest).1];exact sZ
  refine IS (P:=[h0,b.IJ nm at_ 1]) (q:=7) (T:=[]) ⟨(o.cm.go k).eq h1 h2 h3 z y w v f,(s.go k).le (by rw[h1];exact .refl) ZO,?_,u,A⟩ (.inl rfl);rw[h3,FY,r];exact aAz p (by rw[NU,hn];decide)
 unfold BS.HH;by_cases hk:t.ok;rotate_left;.rw[if_pos hk];exact .DC o
 rw[if_neg (by simpa using hk)];refine NX.ite (λ_=> .DC o) λ_=>NX.ite (λ_=> .DC o) λ_=>NX.ite (λ_=> .DC o) λ_=>NX.ite (λ_=> .DC (o.kp (TP o.cm) rfl)) λ_=>NX.ite (λ_=> .DC (o.kp (JQ o.cm) rfl)) λ_=>NX.ite (λ_=> .DC (o.kp (TX o.cm) Rm)) λ_=>NX.ite (λh=>?_) λ_=>NX.ite (λ_=> .inl rfl) λ_=>NX.ite (λh=>?_) λ_=>NX.ite (λh=>?_) λ_=>?_;.exact .DC (e t.name t.Aq (by simpa using h.2) _ rfl rfl rfl rfl rfl rfl rfl rfl rfl rfl)
 .exact ND o hm hk h (λ_ c i _ _ _ _=> .DC i) (λ_ c i _ _ _ _ _=> .DC i) λ_ c i _ _ _ _=> .DC i
 .rw[TZ hk h,gm (λi hi=>by rw[r] at hi;simp at hi;rw[hi];exact ov p (by decide))]
  exact .DC o
 .refine .inr ⟨e Tv [] rfl _ rfl rfl rfl rfl rfl rfl rfl rfl rfl rfl,λ_=>?_⟩;have g:((b.C6 (HG aWX)).again 7).1.mode=7:=rfl;have k:=Lb (nm:=aWX) (l:=[]) (sp:=1) o.cm;have B:((b.C6 (HG aWX)).again 7).1.tm=b.tm:=(IQ.1 k.rest).1;refine⟨?_,uD (nm:=aWX) (by decide) ?_ rfl rfl rfl rfl⟩;.unfold LG;rw[g,B,hm,sZ];simp[cS]
  .unfold WT;rw[g,hm];simp
def gp(o:DW b):NX t b ({b with stop:=true},false):= .DC (o.kp (kpE o.cm rfl rfl rfl rfl) rfl)
def Dp.M1(o:Dp P q T b):Dp P q T (b.M1 t):=by
 unfold BS.M1;split;.exact o
 .simp only
  split;.exact o.AO.Mo
  .exact(o.AO.Mo).eq rfl rfl rfl rfl
def cT(o:Dp P b.mode b.tm b)(hm:b.mode=7\/(b.mode=18/\b.tm≠[]))(hk:t.k=6)(hne:b.tm≠[]):NX t b b.QC:=by
 unfold BS.QC;split
 .rename_i h;unfold BS.Ql at h;rw[Sg];obtain⟨c,hc⟩:∃c:BS,c=BS.Js {b with Au:=Hd b.Au (Ax EN b.Au),AW:=EX b.AW,tm:=b.tm.dropLast}:=⟨_,rfl⟩;obtain⟨h1,h2,h3,u,p,w⟩:=gd o h hc;have A:c.a=b.a:=by rw[hc];rfl
  have v:c.Au=Hd b.Au (Ax EN b.Au):=by rw[hc];rfl
  have z:c.AW=EX b.AW:=by rw[hc];rfl
  have y:c.tm=b.tm.dropLast:=by rw[hc];rfl
  have Ut:c=BS.Js {b with Au:=Hd b.Au (Ax (AA [AF]) b.Au),AW:=EX b.AW,tm:=b.tm.dropLast}:=hc;rw[<-Ut];clear hc Ut;have s:WT b=1:=by
   unfold WT;rcases hm with f|f
   .rw[f];simp
   .rw[f.1];simp
  refine .inr ⟨h1,λ_=>⟨?_,Y7 ?_ A (by rw[v];exact MU) (by rw[z];exact Ca _ _) (by rw[y];simp)⟩⟩
  .unfold LG;have hb:cS b.mode b.tm.length=b.tm.length+3:=by
    have:=Cq.2 hne;unfold cS;rcases hm with p|p
    .rw[p];simp;omega
    .rw[p.1];simp;omega
   simp only[if_pos hk,if_neg u,if_neg (show¬b.mode=8 by omega),hb];exact h3
  .have:WT c<=WT b+1:=by
    have e:=h1.sh u;rw[s];have r:c.Au≠[]:=by
     intro g;rw[v] at g;unfold Hd at g;rw[List.take_eq_nil_iff] at g;rcases g with g|g
     .omega
     .have ZO:=o.d.len;have V9:=o.d.pf.len;rw[g,AY] at ZO;omega
    unfold WT;rcases e with e|e|e|e|e|e
    .exact absurd e.2.1 r
    .exact absurd e.1 w
    .rw[e.1];simp
    .rw[e.1];simp
    .rw[e.1];simp
    .rcases e.1 with f|f
     .rw[f];simp
     .rw[f.1];simp
   show c.Au.length+WT c<=_;omega
 .exact gp (IS o hm)
def Z4(o:DW b)(hm:b.mode=18):NX t b (b.Ei t):=by
 obtain⟨hne,P,d⟩:=o.dp (.inr hm);have hne:=hne hm;have a:b.mode=7\/(b.mode=18/\b.tm≠[]):= .inr ⟨hm,hne⟩;unfold BS.Ei;by_cases hk:t.ok;rotate_left;.rw[if_pos hk];exact .DC o
 rw[if_neg (by simpa using hk)];have e:∀m,GR m=false->NX t b (b.EZ m):=λm h=> .inl h;refine NX.ite (λ_=> .DC (IS d.M1 a)) λ_=>NX.ite (λ_=> .DC (IS d.DA a)) λ_=>NX.ite (λ_=> .DC o) λ_=>NX.ite (λh=>VO d a hk h) λ_=>NX.ite (λh=>?_) λ_=>NX.ite (λ_=>e _ rfl) λ_=>NX.ite (λ_=>e _ rfl) λ_=>NX.ite (λ_=>e _ rfl) λ_=>NX.ite (λ_=>e _ rfl) λ_=>NX.ite (λh=>?_) λ_=>NX.ite (λ_=> .DC o) λ_=>?_;.rw[TZ hk h];exact .DC (gl d a)
 .have s:=Cq.2 hne;have p:(b.EZ 7).1.mode=7:=rfl;have g:(b.EZ 7).1.tm=b.tm.dropLast++[7]:=rfl;have r:(b.tm.dropLast++[(7:Int)]).length=b.tm.length:=by simp;omega
  refine .inr ⟨IS (P:=P) (q:=7) (T:=b.tm.dropLast++[7]) ⟨⟨d.cm.ok.of_eq rfl rfl rfl rfl,d.cm.ac,d.cm.ĉ,d.cm.fo,d.cm.fr,λm hm=>?_⟩,d.hd.le .refl rfl,by rw[r];exact d.d,p,g⟩ (.inl rfl),λ_=>?_⟩
  .rw[g] at hm;rcases Aj.1 hm with h1|h1
   .exact d.cm.qz m ((aGN _).subset h1)
   .simp at h1;exact .inl h1
  .refine⟨?_,Y7 ?_ rfl (BK _) (BK _) (by rw[g,r];exact Ab _)⟩;.unfold LG;rw[p,hm];simp[cS,show¬t.k=6 by omega]
   .show b.Au.length+WT (b.EZ 7).1<=_;unfold WT;rw[p,hm];simp
 .have f:t.k=6:=by have:=hk.1;have:=hk.2;omega
  exact cT d a f hne
end
section
variable{P:List Item}{q:Int}{T:List Int}{m k j n:Nat}{b c d:BS}{nm x:Ad}{l:List Item}{at_:List A9}{t:Dv}{sp h:Int}{i:Item}
structure jJ(nm:Ad):Prop where
 b:nm∉iQ
 t:nm≠AF
def Pl{ws:List Ad}(h:nm∈ws)(hw:∀w∈ws,w∉iQ/\w≠AF):jJ nm:=⟨(hw _ h).1,(hw _ h).2⟩
def Dp.C6(o:Dp P q T b)(h:jJ t.name)(hp:t.name≠wP):Dp P q T (b.C6 t):=o.Nf h.b h.t λe=>absurd e hp
def Dp.Y9(o:Dp P q T b)(h:jJ t.name):Dp P q T (b.block t):=o.block h.b h.t
def Dp.set(o:Dp P q T b)(c:BS)(h1:c.a=b.a:=by rfl)(h3:c.Au=b.Au:=by rfl)(e:c.AW=b.AW:=by rfl)(h2:c.rs=b.rs:=by rfl):Dp P q T c:=o.eq h1 h3 e h2
def Dp.Kt(o:Dp P q T b)(h:jJ t.name)(hp:t.name≠wP):Dp P q T (b.Kt t):=by
 unfold BS.Kt;simp only
 have a:=o.Cs.1;split;.rename_i h1;exact Dp.C6 (a.aBS (ws:=Da) (by decide) h1) h hp
 .exact Dp.C6 a h hp
def Dp.QD(o:Dp P q T b)(h:t.name=aXn):Dp P q T (b.QD t):=by
 have hn:jJ t.name:=⟨by rw[h];decide,by rw[h];decide⟩;unfold BS.QD;split;.exact o
 .simp only
  have e:=o.Y9 hn;split;.exact e
  .have hw:=QG (b:=b.Cs) (nm:=t.name) (l:=t.Aq);have f:b.Cs.MQ 1=b.Cs.a.len+1:=by unfold BS.MQ;rw[if_pos Lm]
   refine⟨⟨e.cm.ok.of_eq rfl rfl rfl rfl,e.cm.ac,λ_=>?_,e.cm.fo,e.cm.fr,e.cm.qz⟩,e.hd.le .refl rfl,e.d,e.md,e.tme⟩;simp only[f];exact⟨hw.2.2.1,hw.2.1,hw.1.trans h⟩
def Dp.HP(o:Dp P q T b){ws:List Ad}(hw:∀w∈ws,w∉Jh):Dp P q T (b.HP ws):=by
 unfold BS.HP;split
 .rename_i i hi;split
  .rename_i h1;obtain⟨A,C,e,_,u⟩:=TO hi;have h2:=Ch.1 h1;have g:∀x∈C,AA ws x=false/\EN x=false:=λx hx=>by
    have h3:=u x hx;unfold BS.Jg at h3;rw[KC] at h3;refine⟨h3.1,?_⟩;cases r:EN x with
    |false=>rfl
    |true=>have f:=h3.2;rw[spT r] at f;simp at f;have p:=(Ch.1 r).2;have s:=(Ch.1 f).2;simp at p;rw[p] at s;exact absurd s (by decide)
   have qm:AA [i.name] i=true:=Ch.2 ⟨h2.1,by simp⟩;have v:Ax (AA [i.name]) b.Au=(A.length:Int):=by
    rw[e];refine Hi qm λx hx=>?_;cases h3:AA [i.name] x with
    |false=>rfl
    |true=>have f:=Ch.1 h3;have p:=f.2;simp at p;have:AA ws x=true:=Ch.2 ⟨f.1,by rw[p];exact h2.2⟩;rw[(g x hx).1] at this;cases this
   have hl:=o.d.pf.len;have hpos:=iR o.d (o.d.pf.not hw) (k:=A.length) (by rw[e];simp) (by
    have:b.Au[A.length]'(by rw[e];simp)=i:=by simp[e]
    rw[this];exact h1)
   unfold BS.Dt;rw[M0 (λa ha=>by have:=(Ch.1 ha).2;simp at this;exact Ag (.inr (.inr this))) (by omega)]
   refine o.go (o9 o.cm MU) ?_;simp only
   unfold Hd;rw[v,show max 1 ((A.length:Int)).toNat=A.length by omega];refine o.d.take hpos λx hx=>?_;rw[e,QQ] at hx;rcases Aw.1 hx with rfl|hx
   .exact YY (λr=>hw _ r (by decide)) h1
   .exact(g x hx).2
  .exact o
 .exact o
def Dp.YS(o:Dp P q T b)(h:jJ t.name):Dp P q T (b.YS t):=by
 unfold BS.YS;refine Dp.Y9 ?_ h;have a:Dp P q T {b with fs:=false}:=o.set _;split;.exact a.HP (by decide)
 .exact a.HP (by decide)
def Dp.NR(o:Dp P q T b)(h:t.name=aWV):Dp P q T (b.NR t):=by
 unfold BS.NR;simp only
 have a:Dp P q T (if b.has [aWV] then b.Dt aWV [] else b):=by
  split;.rename_i h1;exact o.Dt (sc:=1) (.inl rfl) (by decide) (.inl (by decide)) h1
  .exact o
 exact(Dp.C6 a.AO ⟨by rw[h];decide,by rw[h];decide⟩ (by rw[h];decide)).set _
def Dp.Æ(o:Dp P q T b)(h:t.name∈CM):Dp P q T (b.Æ t):=o.AO.Fw h
def Dp.RS(o:Dp P q T b):Dp P q T b.RS:=by
 unfold BS.RS;simp only
 split;.exact o
 .rename_i h1;obtain⟨u,s,hname⟩:=YU h1;generalize b.AW.getD (D7 [97] b.AW).toNat B2.zero=fe at*;have g:=cJ (m:=P.length) (nm:=[97]) o.cm.ok o.cm.ac (by decide) o.d.len o.d.aFL;have f:=o.fm g;have hfe:=o.cm.ac fe u;have r:=o.cm.ok.ac fe u;have a:Dp P q T {b.Du [97] with Au:=Am.B9 fe.node (b.Du [97]).Au}:=by
   refine f.go (o9 f.cm Eo) (f.d.fm (YV f.d.len (λi hi e=>?_) f.d.aFL));have h2:=f.cm.ok.op i hi;rcases hfe with h3|h3
   .exact absurd h3 s
   .rcases r with p|p
    .exact absurd p s
    .rw[e,g.le.AX _ p.1,g.le.name _ p.1] at h2;exact HQ (by rw[<-h2.2.2.1,h3.2.2]) (by rw[<-h2.2.2.2,h3.2.1];exact h3.1)
  exact⟨⟨a.cm.ok.fD (l:=BS.JD (b.Du [97]).AW fe.node) LP,a.cm.ac.sub LP,a.cm.ĉ,a.cm.fo,a.cm.fr,a.cm.qz⟩,a.hd.le .refl rfl,a.d,a.md,a.tme⟩
def Dp.iP(o:Dp P q T b)(h:t.name∈CM):Dp P q T (b.iP t):=o.RS.Æ h
def Dp.ZT(o:Dp P q T b)(h:t.name∈CM):Dp P q T (b.ZT t):=by
 unfold BS.ZT;simp only
 split;.exact(o.AO.Du (by decide)).AO.Fw h
 .exact o.AO.Fw h
def Dp.mark(o:Dp P q T b):Dp P q T {b with AW:=b.AW++[B2.zero]}:=by
 refine⟨⟨iH o.cm.ok,λe he=>?_,o.cm.ĉ,o.cm.fo,o.cm.fr,o.cm.qz⟩,o.hd.le .refl rfl,o.d,o.md,o.tme⟩;rcases Aj.1 he with h|h
 .exact o.cm.ac e h
 .simp at h;subst h;exact .inl rfl
def Dp.BP(o:Dp P q T b)(h:jJ t.name)(hp:t.name≠wP):Dp P q T (b.BP t):=by
 unfold BS.BP;simp only
 exact((Dp.C6 o.AO h hp).mark).set _
def Dp.GO(o:Dp P q T b):Dp P q T (b.GO t):=o.sd
def Dp.empty(o:Dp P q T b):Dp P q T (b.empty t):=by
 unfold BS.empty;split;.exact(o.Cs.1.GO).set _
 .split;.exact(o.GO).set _
  .split;.exact(o.AO.GO).set _
   .exact(o.AO.GO).set _
def Dp.NS(o:Dp P q T b)(h:jJ t.name)(hp:t.name≠wP):Dp P q T (b.NS t):=by
 unfold BS.NS;split;.rename_i h1;exact Dp.C6 ((o.aBS (ws:=[aXb]) (by decide) h1).AO) h hp
 .exact Dp.C6 o.AO h hp
def Dp.YT(o:Dp P q T b)(h:jJ t.name)(hp:t.name≠wP):Dp P q T (b.YT t):=by
 unfold BS.YT;split;.exact Dp.C6 o.WR h hp
 .exact Dp.C6 o h hp
def Dp.Ku(o:Dp P q T b):Dp P q T (b.Ku t):=by
 unfold BS.Ku;simp only
 have hsp:(if t.name=aXY then(3:Int) else 2)=2\/(if t.name=aXY then(3:Int) else 2)=3:=by split<;>simp
 have a:=o.AO;have f:=a.aOP (nm:=t.name) (l:=t.Aq) hsp;split
 .have hl:=a.d.len;have h2:=a.d.pf.len;generalize(if t.name=aXY then(3:Int) else 2)=s at*;have hk:BS.LH s:=by unfold BS.LH;omega
  have e:(b.AO.CX t.name t.Aq s).Au=b.AO.Au++[b.AO.IJ t.name t.Aq s]:=by
   unfold BS.CX;rw[if_pos hk];have:(b.AO.HL t.name t.Aq s (b.AO.place 0).1).Au=b.AO.Au:=by unfold BS.HL;rw[if_pos hk]
   simp only[this]
  have hp:=tO f.cm;refine f.go hp ?_;have g:(b.AO.CX t.name t.Aq s).Gs.Au=b.AO.Au:=by unfold BS.Gs;rw[if_neg (by rw[e];simp;omega)];simp only[e,Ai,AR,Mc];rw[A0 (Ab _),Bf]
  rw[g];exact a.d
 .exact f
def Dp.La(o:Dp P q T b):Dp P q T (b.La t):=by
 unfold BS.La;split;.exact o
 .split;.exact o.GN
  .split;.exact Dp.GN (o.set _)
   .exact o
def aF8(o:Dp P 7 T b)(hn:t.name∈od):DW (b.ZU t):=by
 have e:(7:Int)=7\/((7:Int)=18/\T≠[]):= .inl rfl;have a:t.name≠aXM->t.name∈jA:=λh=>by
  simp only[od,Aw,DY,LW] at hn;rcases hn with h1|h1|h1|h1|h1
  .rw[h1];decide
  .rw[h1];decide
  .rw[h1];decide
  .rw[h1];decide
  .exact absurd h1 h
 unfold BS.ZU;split;.rename_i h;exact IS ((o.Y9 ⟨by rw[h];decide,by rw[h];decide⟩).set _) e
 .rename_i h;have a:=a h;split;.exact(o.ZU e a (s:=2)).kp (kpE (o.ZU e a (s:=2)).cm rfl rfl rfl rfl) rfl
  .split;.exact Dp.ZU (P:=P) (q:=7) (T:=T) (b:={b.Cs.AO with fs:=false}) (o.Cs.1.AO.set _) e a
   .split;.exact Dp.ZU (P:=P) (q:=7) (T:=T) (b:={b with fs:=false}) (o.set _) e a
    .exact o.ZU e a
def GS{nm:Ad}{ws:List Ad}(h:nm∉ws){w:Ad}(hw:w∈ws):nm≠w:=λe=>h (e▸hw)
def ê(o:Dp P 7 T b)(B:T=b.tm)(hk:t.ok)(h2:t.k=2):NX t b (b.opens t):=by
 have g:(7:Int)=7\/((7:Int)=18/\T≠[]):= .inl rfl;have st:∀{c},Dp P 7 T c->NX t b (c,false):=λd=> .DC (IS d g);unfold BS.opens;refine NX.ite (λh=>VO o g hk ⟨h2,h⟩) λr=>NX.ite (λh=>st (o.Y9 (Pl h (by decide)))) λp=>NX.ite (λh=>st (o.Kt (Pl h (by decide)) (λe=>absurd h (by rw[e];decide)))) λA=>NX.ite (λh=>st ((o.Y9 (Pl h (by decide))).set _)) λz=>NX.ite (λh=>st (o.Æ (by have key:∀w∈Ä,w∈CM:=(by decide);exact key _ h))) λy=>NX.ite (λh=>st (o.BP (Pl h (by decide)) (λe=>absurd h (by rw[e];decide)))) λv=>NX.ite (λh=>st o.empty) λu=>NX.ite (λh=>st o) λa=>NX.ite (λh=> .DC (aF8 o h)) λs=>NX.ite (λh=>st (o.YT (Pl h (by decide)) (λe=>absurd h (by rw[e];decide)))) λPe=>NX.ite (λh=>st o.Ku) λUZ=>NX.ite (λh=>st (o.YS (Pl h (by decide)))) λWk=>NX.ite (λh=>st (o.NS (Pl h (by decide)) (λe=>absurd h (by rw[e];decide)))) λiY=>NX.ite (λh=>st o.La) λcN=>NX.ite (λh=>?_) λtV=>NX.ite (λh=>st (o.QD h)) λoq=>NX.ite (λh=>st (o.NR h)) λq_=>NX.ite (λh=>st (o.iP (by rw[h];decide))) λoF=>NX.ite (λh=>st (o.ZT (by rw[h];decide))) λĊ=>NX.ite (λh=> .inl rfl) λċ=>NX.ite (λh=>?_) λf=>?_
 .unfold BS.J3;split;.exact st o
  .exact .inl rfl
 .left;show GR (if b.mode=9\/b.mode=11\/b.mode=13\/b.mode=14\/b.mode=15 then 17 else 16)=false;split<;>rfl
 .refine st (Dp.C6 o.AO ⟨λhb=>?_,GS r (by decide)⟩ (GS p (by decide)));simp only[iQ,Aw,DY,LW] at hb;rcases hb with h|h|h|h|h|h|h|h|h|h|h|h|h|h|h|h
  .exact GS cN (by decide) h
  .exact GS a (by decide) h
  .exact GS cN (by decide) h
  .exact tV h
  .exact ċ h
  .exact f h
  .exact GS a (by decide) h
  .exact GS a (by decide) h
  .exact GS a (by decide) h
  .exact GS a (by decide) h
  .exact GS a (by decide) h
  .exact GS a (by decide) h
  .exact GS a (by decide) h
  .exact GS a (by decide) h
  .exact GS a (by decide) h
  .exact GS a (by decide) h
def Dp.GP(o:Dp P q T b)(h1:t.name∉Jh)(h2:t.name∉FD):Dp P q T (b.GP t):=by
 unfold BS.GP;split;.rename_i h;exact o.Dt (sc:=1) (.inl rfl) h1 (.inl h2) h
 .exact o
def Dp.IP(o:Dp P q T b):Dp P q T b.IP:=by
 unfold BS.IP;split
 .rename_i h;obtain⟨h0,e⟩:=o.d.sc (.inl rfl) (o.d.pf.not (ws:=Da) (by decide)) (λi hi=>YY (by decide) hi) h;rw[M0 (λa ha=>by
   have:=(Ch.1 ha).2;have key:∀w∈Da,w∉FD:=by decide
   exact Ag (.inr (.inl (key _ this)))) h0]
  exact o.go (o9 o.cm MU) e
 .exact o
def Dp.clear(o:Dp P q T b):Dp P q T {b with AW:=EX b.AW}:=
 ⟨⟨o.cm.ok.fD (Ca _ _),o.cm.ac.sub (Ca _ _),o.cm.ĉ,o.cm.fo,o.cm.fr,o.cm.qz⟩,o.hd.le .refl rfl,o.d,o.md,o.tme⟩
def Dp.J4(o:Dp P q T b)(h1:t.name∉Jh)(h2:t.name∉FD):Dp P q T (b.J4 t):=by
 unfold BS.J4;split;.rename_i h;exact(o.Dt (sc:=1) (x:=[]) (.inl rfl) h1 (.inl h2) h).clear
 .exact o
def Dp.Kv(o:Dp P q T b)(h1:t.name∈cF):Dp P q T (b.Kv t):=by
 have hp:t.name∉Jh:=by have key:∀w∈cF,w∉Jh:=(by decide);exact key _ h1
 unfold BS.Kv;have ę:(if t.name=[112] then(3:Int) else if t.name=[108,105] then 2 else 1)=1\/(if t.name=[112] then(3:Int) else if t.name=[108,105] then 2 else 1)=2\/(if t.name=[112] then(3:Int) else if t.name=[108,105] then 2 else 1)=3:=by
  split;.simp
  .split<;>simp
 dsimp only;generalize(if t.name=[112] then(3:Int) else if t.name=[108,105] then 2 else 1)=sc at ę;by_cases h:b.Oq sc (AA [t.name])=true;.rw[if_pos h];exact o.Dt (sc:=sc) ę hp (.inr rfl) h
 .rw[if_neg h];split
  .rename_i h2;have k:=Lb (nm:=[112]) (l:=[]) (sp:=1) o.cm;have hl:=o.d.len;have lJ:=o.d.pf.len;have f:(b.C6 (HG [112])).Au=b.Au++[b.IJ [112] [] 1]:=FY;have hi:AA [t.name] (b.IJ [112] [] 1)=true:=by rw[NU,h2];decide
   have g:Ax (AA [t.name]) (b.C6 (HG [112])).Au=(b.Au.length:Int):=by rw[f,FI,if_pos hi]
   have e:((b.C6 (HG [112])).Dt t.name t.name).Au=b.Au:=by
    unfold BS.Dt;rw[M0 (λa ha=>by have:=(Ch.1 ha).2;simp at this;exact Ag (.inr (.inr this))) (by rw[g];omega),g,f]
    show Hd _ _=_;unfold Hd;rw[show max 1 ((b.Au.length:Int)).toNat=b.Au.length by omega,A0 (Ab _),Bf]
   have p:Kp b ((b.C6 (HG [112])).Dt t.name t.name):=k.trans (o9 (o.cm.go k) (C5.trans C5));exact o.go p (by rw[e];exact o.d)
  .exact o
def Dp.aBY(o:Dp P q T b){f:Int}(hf:f≠0->b.a.has f/\(b.a.nd f).AX=1/\(b.a.nd f).name=aXn):Dp P q T {b with FJ:=f}:=
 ⟨⟨o.cm.ok.of_eq rfl rfl rfl rfl,o.cm.ac,hf,o.cm.fo,o.cm.fr,o.cm.qz⟩,o.hd.le .refl rfl,o.d,o.md,o.tme⟩
def Dp.NA(o:Dp P q T b)(h:t.name=aXn):Dp P q T (b.NA t):=by
 unfold BS.NA;split;.exact o.GP (by rw[h];decide) (by rw[h];decide)
 .split
  .rename_i h1;have hf:=o.cm.ĉ h1.1;have a:=o.WR (s:=[]);have g:Dp P q T {b with Au:=Am.B9 b.FJ (DN (Cz []) C8 b.Au)}:=by
    have:=a.B9 (y:=b.FJ) (w:=aXn) (by decide) (by decide) (by decide) (λi hi e=>by have h2:=a.cm.ok.op i hi;rw[e] at h2;exact⟨by rw[<-h2.2.2.1];exact hf.2.1,by rw[<-h2.2.2.2];exact hf.2.2⟩)
    exact this
   exact g.aBY (f:=0) (λe=>absurd rfl e)
  .exact o.aBY (f:=0) (λe=>absurd rfl e)
def o_(o:Dp P 7 T b)(f:T=b.tm)(hm:b.mode=7)(hk:t.ok)(h3:t.k=3):NX t b (b.NT t):=by
 have g:(7:Int)=7\/((7:Int)=18/\T≠[]):= .inl rfl;have st:∀{c},Dp P 7 T c->NX t b (c,false):=λd=> .DC (IS d g);unfold BS.NT;refine NX.ite (λh=>?_) λe=>NX.ite (λh=>?_) λa=>NX.ite (λh=>st (o.GP ?_ ?_)) λz=>NX.ite (λh=>st (o.Du (by rw[aFJ] at h;exact h))) λy=>NX.ite (λh=>st o.IP) λv=>NX.ite (λh=>st (o.J4 ?_ ?_)) λu=>NX.ite (λh=>st (o.Kv h)) λs=>NX.ite (λh=>st (o.NA h)) λr=>NX.ite (λh=>st o.empty) λp=>st (o.Dg e (GS a (by decide)) (GS a (by decide)));.rw[TZ hk ⟨h3,by rw[h];simp⟩];exact .DC (gl (P:=P) ⟨o.cm,o.hd,by rw[<-f];exact o.d,rfl,rfl⟩ (.inl hm))
 .unfold BS.Ri;split;.exact .inl rfl
  .exact st o
 .have key:∀w∈UW,w∉Jh:=by decide
  exact key _ h
 .have key:∀w∈UW,w∉FD:=by decide
  exact key _ h
 .have key:∀w∈ZR,w∉Jh:=by decide
  exact key _ h
 .have key:∀w∈ZR,w∉FD:=by decide
  exact key _ h
def pc(o:DW b)(hm:b.mode=7):NX t b (b.M2 t):=by
 obtain⟨_,P,d⟩:=o.dp (.inl hm);have a:Dp P 7 b.tm b:=⟨d.cm,d.hd,d.d,hm,rfl⟩;have e:(7:Int)=7\/((7:Int)=18/\b.tm≠[]):= .inl rfl;unfold BS.M2;by_cases hk:t.ok;rotate_left;.rw[if_pos hk];exact .DC o
 rw[if_neg (by simpa using hk)];refine NX.ite (λ_=> .DC (IS a.M1 e)) λf=>NX.ite (λ_=> .DC (IS a.DA e)) λg=>NX.ite (λp=>?_) λr=>NX.ite (λh=>ê a rfl hk h) λ_=>NX.ite (λh=>o_ a rfl hm hk h) λ_=> .DC o;refine NX.ite (λh=>?_) λ_=>gp o;have hne:b.tm≠[]:=Cq.1 h;unfold BS.Ei;rw[if_neg (by simpa using hk),if_neg f,if_neg g,if_neg (by omega),if_neg (λh=>by have:=h.1;omega),if_neg (λh=>by have:=h.1;omega),if_neg (λh=>by have:=h.1;omega),if_neg (λh=>by have:=h.1;omega),if_neg (λh=>by have:=h.1;omega),if_neg (λh=>by have:=h.1;omega),if_neg (by omega),if_neg (by omega)];exact cT d (.inl hm) p hne
def QL{qk:Dv->Bool}(o:DW b):NX t b (b.apply qk t):=by unfold BS.apply;exact NX.ite (λ_=> .DC o) λ_=>NX.ite (λh=>uE o h) λ_=>NX.ite (λh=>ZZ o h) λ_=>NX.ite (λh=>Z0 o h) λ_=>NX.ite (λh=>uH o h) λ_=>NX.ite (λh=>Z3 o h) λ_=>NX.ite (λh=>jI o h) λ_=>NX.ite (λh=>pc o h) λ_=>NX.ite (λh=>oz o h) λ_=>NX.ite (λh=>Z4 o h) λ_=> .DC o
end
def aPL(h:Ae):∃h' bi F,Cj cx 26 [] h (.ptr (some (bi,0))) h'/\PB h' bi (Ic false) F/\Ey h (λ_=>False) h' F:=by
 obtain⟨h1,h2,h',bi,G,b,r2,a,w,x⟩:=aOD h false;refine⟨h',bi,BN bi G,?_,⟨_,_,_,_,_,w,⟨[],rfl,.inr ⟨rfl,rfl⟩⟩,rfl⟩,?_⟩;.rw[Ac,ya,t26];simp only[abS,b.call,r2.call,a.call]
 .exact x
def Gl(qk:Dv->Bool):List Dv->BS->BS×Nat
 |[],b=>(b,2)
 |t::l,b=>if(SK qk t (9+b.tm.length) b).2=false then((SK qk t (9+b.tm.length) b).1,0) else if GR (SK qk t (9+b.tm.length) b).1.mode=false then((SK qk t (9+b.tm.length) b).1,1) else Gl qk l (SK qk t (9+b.tm.length) b).1
def gq(bi:Nat)(k:Nat):Aa:= .tuple [if k=0 then .ptr none else .ptr (some (bi,0)),.bool (k==2)]
def Rn(qk:Dv->Bool)(t:Dv)(b:BS):Prop:=b.tm.length<=1000000000/\∃J:Nat->BS->Prop,J (9+b.tm.length) b/\∀k c,J (k+1) c->GR c.mode=true->∃n o a,Gz c (n+8*(4*(o+a+8)+10)+8*a+2000) o a/\(c.mode=6->M3 c)/\(c.mode=18->c.tm≠[])/\((c.apply qk t).2=true->J k (c.apply qk t).1)
def aPM{qk:Dv->Bool}{l:List (Dv×Aa)}{v:Aa}(s:Br 12 (l.map λp=>Ct p.1 p.2) v)(ha:∀p∈l,Bj p.1.Aq p.2/\p.1.Sm)(hn:l.length<9223372036854775807)(hq:∀p∈l,∀{oD:Aa} (h:Ae),Cj cx 64 [.agg (Ct p.1 oD)] h (.bool (qk p.1)) h)
  {K:List Dv->BS->Prop} (G:∀t l c,K (t::l) c->Rn qk t c/\K l (SK qk t (9+c.tm.length) c).1) (h0:K (l.map (·.1)) (Ic false)) (h:Ae):
  ∃h' bi F,Cj cx 9 [v] h (gq bi (Gl qk (l.map (·.1)) (Ic false)).2) h'/\PB h' bi (Gl qk (l.map (·.1)) (Ic false)).1 F/\Ey h (λ_=>False) h' F:=by
 obtain⟨h1,bi,F,E,w,D⟩:=aPL h;have q:=Br.Fk s;have PI:Ev cx 9 [v] h λr h'=>r=gq bi (Gl qk (l.map (·.1)) (Ic false)).2/\∃F',PB h' bi (Gl qk (l.map (·.1)) (Ic false)).1 F'/\Ey h (λ_=>False) h' F':=by
  unfold Ev;rw[aBp,t9];simp only[abS,E.call];refine BO (λk:Nat=>[.ptr none,ff,.int .i64 (k:Int)]) (λk h2=>k<=l.length/\∃c u,PB h2 bi c u/\K ((l.drop k).map (·.1)) c/\Ey h (λ_=>False) h2 u/\Gl qk ((l.drop k).map (·.1)) c=Gl qk (l.map (·.1)) (Ic false)) (λk=>l.length-k) 0 rfl ⟨AU _,Ic false,F,w,h0,D,rfl⟩ ?_;rintro k h2 ⟨hk,c,u,B,C,f,b⟩;by_cases hlt:k<l.length
  .have e:(k:Int)<(l.length:Int):=by omega
   rw[Ap hlt,Bd] at C b;obtain⟨⟨ć,J,z,H⟩,y⟩:=G _ _ _ C;have hm:=ha _ (Ay hlt);obtain⟨h3,A,d,i,x⟩:=aPJ B hm.2 hm.1 (hq _ (Ay hlt)) (λk c j o=>by obtain⟨n,o,a,g,L,gf,I⟩:=H k c j o;exact⟨n,o,a,g,L,gf,I⟩) z ć
   have ld:Bg h2 (some 12) (.B4 (Ct l[k].1 l[k].2))=some (.agg (Ct l[k].1 l[k].2)):=by rw[OV];rfl
   have l3:=i.B3;have m:=aJ0 (SK qk l[k].1 (9+c.tm.length) c).1.mode;rw[Gl] at b;cases hs:(SK qk l[k].1 (9+c.tm.length) c).2 with
   |false=>rw[hs] at d b;rw[if_pos rfl] at b;simp only[abS,q,e,QJ s hlt,ld,d.call];exact⟨_,rfl,by rw[<-b];rfl,A,by rw[<-b];exact i,f.trans x⟩
   |true=>
    rw[hs] at d b;rw[if_neg (by simp)] at b;cases ho:GR (SK qk l[k].1 (9+c.tm.length) c).1.mode with
    |false=>rw[ho] at m b;rw[if_pos rfl] at b;simp only[abS,q,e,QJ s hlt,ld,d.call,l3,m.AQ rfl rfl];exact⟨_,rfl,by rw[<-b];rfl,A,by rw[<-b];exact i,f.trans x⟩
    |true=>rw[ho] at m b;rw[if_neg (by simp)] at b;simp only[abS,q,e,QJ s hlt,ld,d.call,l3,m.AQ rfl rfl,CI (show k<9223372036854775807 by omega)];exact Bk.next (k+1) rfl ⟨hlt,_,A,i,y,f.trans x,b⟩ (by omega)
  .have e:¬(k:Int)<(l.length:Int):=by omega
   rw[AH (by omega)] at b;rw[Dz,Gl] at b;simp only[abS,q,e];exact⟨_,rfl,by rw[<-b];rfl,u,by rw[<-b];exact B,f⟩
 obtain⟨r,h',hr,rfl,F',hp,hx⟩:=PI.ret;exact⟨h',bi,F',hr,hp,hx⟩
def Zs(b:BS)(j:Nat):Prop:=Gz b (5000000*j) (1500*(70 -j)) (10*(70 -j))
def Jn(t:Dv)(j k:Nat)(c:BS):Prop:=(GR c.mode=false/\Cw c 0)\/(DW c/\LG t c<=k/\c.Au.length+WT c<=1500*(70 -(j+1))+4/\c.AW.length<=10*(70 -(j+1))/\Cw c (5000000*j+4000000+5*k))
section
variable{b c:BS}{t:Dv}{qk:Dv->Bool}{j k e:Nat}{l:List Dv}
def aF9:WT b<=4:=by unfold WT;(repeat' split)<;>omega
def DW.aPN(o:DW b):b.tm.length<=b.Au.length:=by
 have key:∀m l tm,Shp m l tm->tm.length<=l.length:=by
  intro m l tm h;rcases h with h|h|h|h|h|h
  .rw[h.2.2];simp
  .rw[h.2.2];simp
  .rw[h.2.2];simp
  .rw[h.2.2];simp
  .rw[h.2.2];simp
  .obtain⟨P,d⟩:=h.2;have h1:=d.cnt;have h2:=List.countP_le_length (p:=EN) (l:=l.filter AL);have h3:=aGM AL l;omega
 by_cases a:b.mode=8;.obtain⟨X,r,e,_,_,_,sh⟩:=o.ZU a;have:=key _ _ _ sh;rw[e,Ai,AR];omega
 .exact key _ _ _ (o.sh a)
def Jn.init(o:DW b)(z:Zs b (j+1))(hj:j+1<=70):Jn t j (9+b.tm.length) b:=by have h1:=z.Au;have h2:=o.aPN;have h3:=@aF9 b;exact .inr ⟨o,jB,by omega,z.AW,z.rm.le (by omega)⟩
def Jn.gz(h:Jn t j k c)(ho:GR c.mode=true)(hj:j+1<=70):DW c/\Gz c (5000000*j+8*(4*(1500*(70 -(j+1))+4+10*(70 -(j+1))+8)+10)+8*(10*(70 -(j+1)))+2000) (1500*(70 -(j+1))+4) (10*(70 -(j+1))):=by
 rcases h with⟨h,_⟩|⟨h1,h2,h3,d,a⟩
 .rw[h] at ho;cases ho
 .exact⟨h1,h1.cm.ok,a.le (by omega),by omega,d⟩
def Jn.step(h:Jn t j (k+1) c)(ho:GR c.mode=true)(hj:j+1<=70)(ht:t.Sm)(i:(c.apply qk t).2=true):Jn t j k (c.apply qk t).1:=by
 obtain⟨o,g⟩:=h.gz ho hj;rcases h with⟨h,_⟩|⟨h1,h2,h3,q,n⟩
 .rw[h] at ho;cases ho
 .have ga:=(g.apply (qk:=qk) (t:=t) o.U7 ht).rm;rcases QL (qk:=qk) (t:=t) o with f|⟨f,m⟩
  .exact .inl ⟨f,ga.le (by omega)⟩
  .obtain⟨p,d⟩:=m i;have ZO:=d.o;have V9:=d.a;exact .inr ⟨f,by omega,by omega,by omega,d.r _ (n.le (by omega))⟩
def Jn.Jd(h:Jn t j (k+1) c)(ho:GR c.mode=true)(hj:j+1<=70)(ht:t.Sm):(GR (c.apply qk t).1.mode=false/\Cw (c.apply qk t).1 0)\/(DW (c.apply qk t).1/\Zs (c.apply qk t).1 j):=by
 obtain⟨o,g⟩:=h.gz ho hj;have ga:=g.apply (qk:=qk) (t:=t) o.U7 ht;rcases QL (qk:=qk) (t:=t) o with a|⟨a,d⟩
 .exact .inl ⟨a,ga.rm.le (by omega)⟩
 .exact .inr ⟨a,ga.le (Ab _) (by omega) (by omega)⟩
def uI(hj:j+1<=70)(ht:t.Sm):∀{k:Nat} {c:BS},Jn t j k c->(GR c.mode=true->LG t c<=k)->(SK qk t k c).2=true/\((GR (SK qk t k c).1.mode=false/\Cw (SK qk t k c).1 0)\/(DW (SK qk t k c).1/\Zs (SK qk t k c).1 j))
 |0,c,h,_=>by
  have ho:GR c.mode=false:=by
   cases ho:GR c.mode with
   |false=>rfl
   |true=>
    rcases h with⟨h,_⟩|⟨_,h2,_⟩
    .rw[h] at ho;cases ho
    .have:=@ä c t;omega
  rw[SK];refine⟨by simp[ho],.inl ⟨ho,?_⟩⟩;rcases h with⟨_,h⟩|⟨_,_,_,_,a⟩
  .exact h
  .exact a.le (by omega)
 |k+1,c,h,_=>by
  rw[SK];cases ho:GR c.mode with
  |false=>
   rw[if_pos rfl];refine⟨rfl,.inl ⟨ho,?_⟩⟩;rcases h with⟨_,h⟩|⟨_,_,_,_,a⟩
   .exact h
   .exact a.le (by omega)
  |true=>
   rw[if_neg (by simp)];cases d:(c.apply qk t).2 with
   |false=>rw[if_pos rfl];exact⟨rfl,h.Jd ho hj ht⟩
   |true=>
    rw[if_neg (by simp)];have h1:=h.step (qk:=qk) ho hj ht d;refine uI hj ht h1 λkL=>?_;rcases h1 with⟨h2,_⟩|⟨_,h2,_⟩
    .rw[h2] at kL;cases kL
    .exact h2
def uJ(o:DW b)(z:Zs b (j+1))(hj:j+1<=70)(ht:t.Sm):Rn qk t b:=by have h2:=z.rm.tm;refine⟨by omega,Jn t j,.init o z hj,λk c h ho=>?_⟩;obtain⟨d,g⟩:=h.gz ho hj;exact⟨_,_,_,g,d.U7,λa=>(d.dp (.inr a)).1 a,λf=>h.step ho hj ht f⟩
def aAA(h:GR b.mode=false)(r:Cw b 0):Rn qk t b:=by have h2:=r.tm;exact⟨by omega,λ_ c=>GR c.mode=false,h,λk c h1 h2=>by rw[h1] at h2;cases h2⟩
def aAB(h:GR b.mode=false):SK qk t k b=(b,true):=by
 cases k with
 |zero=>rw[SK,h];rfl
 |succ k=>rw[SK,h,if_pos rfl]
def Kn(e:Nat)(l:List Dv)(b:BS):Prop:=(GR b.mode=false/\Cw b 0)\/(DW b/\Zs b (l.length+e)/\l.length+e<=70/\∀t∈l,t.Sm)
def Kn.step(h:Kn e (t::l) b):Rn qk t b/\Kn e l (SK qk t (9+b.tm.length) b).1:=by
 rcases h with⟨h1,h2⟩|⟨h1,h2,h3,d⟩
 .exact⟨aAA h1 h2,by rw[aAB h1];exact .inl ⟨h1,h2⟩⟩
 .rw[AE] at h2 h3;have f:l.length+1+e=(l.length+e)+1:=by omega
  rw[f] at h2 h3;have ht:=d t (by simp);refine⟨uJ h1 h2 h3 ht,?_⟩;rcases(uI (qk:=qk) h3 ht (Jn.init (t:=t) h1 h2 h3) (λ_=>jB)).2 with a|a
  .exact .inl a
  .exact .inr ⟨a.1,a.2,by omega,λx hx=>d x (by simp[hx])⟩
def gu:∀{l:List Dv} {b:BS},DW b->Zs b (l.length+e)->l.length+e<=70->(∀t∈l,t.Sm)->(Gl qk l b).2=1\/((Gl qk l b).2=2/\DW (Gl qk l b).1/\Zs (Gl qk l b).1 e)
 |[],b,o,z,h,_=>by rw[Gl];exact .inr ⟨rfl,o,by simpa using z⟩
 |t::l,b,o,z,h,hs=>by
  have a:(t::l).length+e=(l.length+e)+1:=by rw[AE];omega
  rw[a] at z h;have ht:=hs t (by simp);obtain⟨h1,h2⟩:=uI (qk:=qk) h ht (Jn.init (t:=t) o z h) (λ_=>jB);rw[Gl,h1,if_neg (by simp)];rcases h2 with h2|h2
  .rw[h2.1,if_pos rfl];exact .inl rfl
  .cases ho:GR (SK qk t (9+b.tm.length) b).1.mode with
   |false=>rw[if_pos rfl];exact .inl rfl
   |true=>rw[if_neg (by simp)];exact gu h2.1 h2.2 (by omega) λx hx=>hs x (by simp[hx])
end
end Go.Am
end
section
end
section
namespace Go.Am
open Go
def Is(r:J7):KE:=λx vs h=>r=(x,vs,h)
def Is.ret{C:FT}{f:FuncId}{args:List Aa}{h h':Ae}{v:Aa}(hw:W C (B7 C f args) (Is (.ret,[v],h')) h):Cj C f args h v h':=
 hw.mono λx vs h1 e=>by unfold Is at e;cases e;exact⟨rfl,rfl,rfl⟩
def Is.of{C:FT}{f:FuncId}{args:List Aa}{h h':Ae}{v:Aa}(hr:Cj C f args h v h'):W C (B7 C f args) (Is (.ret,[v],h')) h:=
 W.mono hr λx vs h1 ⟨c,b,a⟩=>by unfold Is;rw[c,b,a]
section
variable{C:FT}{fn':FuncId->List Aa->IT}
def ë{rec:IT->Ae->Option J7}(V8:∀t h r,rec t h=some r->W C t (Is r) h)(gw:∀f args h r,rec (fn' f args) h=some r->W C (B7 C f args) (Is r) h):
  ∀(t:IT) (h:Ae) (r:J7),IT.step fn' rec t h=some r->W C t (Is r) h:=by
 intro t;induction t with
 |ret x vs=>intro h r d;simp only[IT.step,Bx] at d;exact aAS d.symm
 |fail=>intro h r d;simp[IT.step] at d
 |op o args k ih=>
  intro h r d;simp only[IT.step] at d;split at d;.rename_i v e;exact aGT e (ih _ _ _ d)
  .cases d
 |cells n v k ih=>
  intro h r d;simp only[IT.step] at d;split at d;.rename_i hc;exact vH hc (ih _ _ _ d)
  .cases d
 |AJ c t e i w=>
  intro h r d;simp only[IT.step] at d;split at d;.exact vI (λ_=>i _ _ d) λh=>by cases h
  .exact vI (λh=>by cases h) λ_=>w _ _ d
  .cases d
 |load n p k ih=>
  intro h r d;simp only[IT.step] at d;split at d;.rename_i v e;exact sr e (ih _ _ _ d)
  .cases d
 |store n p v k ih=>
  intro h r d;simp only[IT.step] at d;split at d;.rename_i v e;exact vJ e (ih _ _ d)
  .cases d
 |alloc n v k ih=>
  intro h r d;simp only[IT.step,WZ] at d;by_cases hc:v.cells.length=n;.rw[if_pos hc] at d;exact vK hc (ih _ _ _ d)
  .rw[if_neg hc] at d;cases d
 |call f args k ih=>
  intro h r d;simp only[IT.step] at d;split at d;.rename_i v h1 e;exact(Is.ret (gw _ _ _ _ e)).call.2 (ih _ _ _ d)
  .cases d
 |El g args k ih=>
  intro h r d;simp only[IT.step] at d;split at d
  .rename_i f a ht;split at d;.rename_i v h1 e;exact Nv.2 ⟨(f,a),ht,(Is.ret (gw _ _ _ _ e)).call.2 (ih _ _ _ d)⟩
   .cases d
  .cases d
 |AQ f args k ih=>
  intro h r d;simp only[IT.step] at d;split at d
  .rename_i IZ;split at d
   .rename_i v h1 e;split at d;.rename_i py;have hp:L4 C f args v:=(Is.ret (gw _ _ _ _ e)).ev rfl;exact(hp.AQ IZ py).2 (ih _ _ _ d)
    .cases d
   .cases d
  .cases d
 |loop key init body k u j=>
  intro h r d;simp only[IT.step] at d;split at d;.rename_i vs h1 e;exact Qf ((u _ _ _ e).mono λx l h2 q=>by unfold Is at q;cases q;exact .inl ⟨rfl,V8 _ _ _ d⟩)
  .rename_i x vs h1 hne e;exact Qf ((u _ _ _ e).mono λx l h2 q=>by unfold Is at q;cases q;exact .inr ⟨λhx=>hne hx,j _ _ _ _ d⟩)
  .cases d
 |Gp key t k i j=>
  intro h r d;simp only[IT.step] at d;split at d;.rename_i x vs h1 e;exact td ((i _ _ e).mono λx l h2 q=>by unfold Is at q;cases q;exact j _ _ _ _ d)
  .cases d
 |same a b k ih=>
  intro h r d;simp only[IT.step] at d;split at d;.rename_i hc;exact su hc (ih _ _ d)
  .cases d
 |NY k ih=>intro h r d;simp only[IT.step] at d;exact sx (ih _ _ _ d)
 |H6 m key v k ih=>
  intro h r d;simp only[IT.step] at d;split at d;.rename_i h1 e;exact sy e (ih _ _ d)
  .cases d
 |MB z ok m key k ih=>
  intro h r d;simp only[IT.step] at d;split at d;.rename_i h1 e;exact s_ e (ih _ _ _ d)
  .cases d
 |make size bytes zero len cap k ih=>
  intro h r d;simp only[IT.step] at d;split at d;.rename_i h1 v e;exact pF e (ih _ _ _ d)
  .cases d
 |JS size bytes s x k ih=>
  intro h r d;simp only[IT.step] at d;split at d;.rename_i h1 v e;exact vL e (ih _ _ _ d)
  .cases d
 |E0 s k ih=>
  intro h r d;simp only[IT.step] at d;split at d;.rename_i h1 v e;exact Xi e (ih _ _ _ d)
  .cases d
 |VR v k ih=>
  intro h r d;simp only[IT.step] at d;split at d;.rename_i h1 v e;exact aAT e (ih _ _ _ d)
  .cases d
 |IC off p k ih=>
  intro h r d;simp only[IT.step] at d;split at d;.rename_i h1 e;exact vM e (ih _ _ d)
  .cases d
 |F8 size bytes s x k ih=>
  intro h r d;simp only[IT.step] at d;split at d;.rename_i h1 v e;exact ta e (ih _ _ _ d)
  .cases d
 |Gn size bytes s x k ih=>
  intro h r d;simp only[IT.step] at d;split at d;.rename_i v e;exact aB e (ih _ _ _ d)
  .cases d
 |mem o args k ih=>
  intro h r d;simp only[IT.step] at d;split at d;.rename_i h1 v e;exact aAU e (ih _ _ _ d)
  .cases d
 |u9 f args k ih=>
  intro h r d;simp only[IT.step] at d;split at d
  .rename_i v h1 e;split at d;.rename_i py;obtain⟨n,x,vs,h2,D,y⟩:=gw _ _ _ _ e;unfold Is at y;cases y;obtain⟨m,x',H7,h',B,A⟩:=(ih _ _ _ d).succ;refine CS ⟨max n m,x',H7,h',?_,A⟩;have a1:=IT.Ij (HZ n m) D;have a2:=IT.JT (λt h r=>IT.Ij (fn:=B7 C) (Ht n m)) _ _ _ B;simp only[IT.step];simp only[FT.run] at*;rw[a1];simp only[py,BM];exact a2
   .cases d
  .cases d
def aGa(C:FT)(fn':FuncId->List Aa->IT):Prop:=∀f args,fn' f args=B7 C f args\/∀n h r,IT.run fn' n (fn' f args) h=some r->W C (B7 C f args) (Is r) h
def jK(hs:aGa C fn'):∀(n:Nat) (t:IT) (h:Ae) (r:J7),IT.run fn' n t h=some r->W C t (Is r) h
 |0,t,h,r,a=>by simp[IT.run] at a
 |n+1,t,h,r,a=>by
  refine ë (rec:=IT.run fn' n) (jK hs n) ?_ t h r a;intro f args h r a;rcases hs f args with e|e
  .rw[e] at a;exact jK hs n _ _ _ a
  .exact e n h r a
def pd(hs:aGa cx fn'){f:FuncId}{args:List Aa}{h:Ae}(n:Nat)(hr:Yx (IT.run fn' n (B7 cx f args) h)=true):Ev cx f args h λr _=>r= .bool true:=by obtain⟨h',e⟩:=ZL hr;exact(Is.ret (jK hs n _ _ _ e)).ev rfl
def gx(v:Aa):IT:= .E0 (.str []) λu=> .VR u λ_=> .ret .ret [v]
def cU{n:Nat}{v:Aa}{h:Ae}{r:J7}(e:IT.run fn' n (gx v) h=some r):r=(.ret,[v],h++[.DD]):=by
 cases n with
 |zero=>simp[IT.run] at e
 |succ n=>
  have b:I1 h (.str [])=some (h++[.cells []],.C7 h.length 0 0 1):=rfl;have a:Lt (h++[.cells []]) (.C7 h.length 0 0 1)=some (h++[.DD],.sl 1 []):=by simp[Lt,Cv]
  simp only[IT.run,gx,IT.step,b,a,Bx] at e;exact e.symm
end
theorem aJ3{l:Ad}{ws:List Ad}(w:KI l ws)(s:Ad)(h:Ae):Cj cx 109 [.str s,.str l] h (.bool (decide (s∈ws))) (h++[.DD]):=by have a:=Ó w h;have r2:=ŭ (CO (ws:=ws)) (by have:=w.few;omega) s (h++[EE.DD]);rw[Ac,fM,t109];simp only[Ce,a.call,r2.call]
def eqB:Ad->Ad->Bool
 |[],[]=>true
 |a::s,b::t=>Nat.beq a.toNat b.toNat&&eqB s t
 |_,_=>false
theorem gy:∀{s t:Ad},eqB s t=true↔s=t
 |[],[]=>by simp[eqB]
 |[],b::t=>by simp[eqB]
 |a::s,[]=>by simp[eqB]
 |a::s,b::t=>by simp only[eqB,A4,gy (s:=s) (t:=t),Dq,Nat.beq_eq];exact⟨λ⟨h1,h2⟩=>⟨VQ.1 h1,h2⟩,λ⟨h1,h2⟩=>⟨by rw[h1],h2⟩⟩
def spN(n:Nat):Bool:=(Nat.ble 9 n&&Nat.ble n 13)||Nat.beq n 32
theorem aGc(c:UInt8):spN c.toNat=Ov c:=by unfold spN Ov;rw[LZ];simp only[Jy,A4,Nat.ble_eq,Nat.beq_eq,Ci]
def rh:Ad->Ad->List Ad
 |cur,[]=>match cur with
  |[]=>[]
  |_::_=>[cur.reverse]
 |cur,c::r=>match spN c.toNat with
  |true=>match cur with
   |[]=>rh [] r
   |_::_=>cur.reverse::rh [] r
  |false=>rh (c::cur) r
theorem jL:∀(s cur:Ad),rh cur s=wf cur.reverse s
 |[],[]=>by simp[rh,wf]
 |[],c::cur=>by simp[rh,wf]
 |c::r,cur=>by
  have h1:=aGc c;cases hc:Ov c with
  |true=>
   rw[hc] at h1;cases cur with
   |nil=>simp[rh,wf,h1,hc,jL r []]
   |cons x cur=>simp[rh,wf,h1,hc,jL r []]
  |false=>rw[hc] at h1;simp[rh,wf,h1,hc,jL r (c::cur)]
def okB(l:Ad):Bool:=Nat.ble l.length 1000000&&l.all λc=>Nat.ble (c.toNat+1) 128
theorem g_{l:Ad}(h:okB l=true):KI l (rh [] l):=by unfold okB at h;simp only[A4,Nat.ble_eq,Dc] at h;exact⟨h.1,λc hc=>by have:=h.2 c hc;omega,by rw[jL];rfl⟩
def uK(s:Ad)(l:List Ad):Bool:=l.any (eqB s)
theorem pg(s:Ad)(l:List Ad):uK s l=decide (s∈l):=by rw[LZ];simp only[uK,NW,gy,Ci];exact⟨λ⟨x,h1,h2⟩=>h2▸h1,λh=>⟨s,h,rfl⟩⟩
theorem aJ4(r:Int)(h:Ae):Cj cx 95 [.int .i32 r] h (.bool (decide (qy r))) h:=by
 have b:∀(lo hi:Int) (h:Ae),Cj cx 174 [.int .i32 lo,.int .i32 hi] h (.func (.func 230) [] [.B4 [.int .i32 lo],.B4 [.int .i32 hi]]) h:=λlo hi h=>by rw[Ac,WG,zo];simp only[abS]
 have g:∀(v:Aa) (h:Ae),v.cells=[v]->Cj cx 173 [v] h (.func (.func 229) [] [.B4 [v]]) h:=λv h d=>by rw[Ac,gB,Ś];simp only[abS,d]
 have c:=aJG (L:=[(9,10),(12,13),(32,32)]) (by decide) r h;have a:Az (.Cl 1) [.func (.func 230) [] [.B4 [.int .i32 9],.B4 [.int .i32 10]],.func (.func 230) [] [.B4 [.int .i32 12],.B4 [.int .i32 13]],.func (.func 230) [] [.B4 [.int .i32 32],.B4 [.int .i32 32]]]=some (.sl 1 ([((9:Int),(10:Int)),(12,13),(32,32)].map VL)):=rfl;have e:∀v:Aa,CD (.func (.func 229) [] [v]) [.int .i32 r]=some (229,[.int .i32 r,v]):=λ_=>rfl;have r2:=g (.sl 1 ([((9:Int),(10:Int)),(12,13),(32,32)].map VL)) h rfl;have f:decide (qy r)=([((9:Int),(10:Int)),(12,13),(32,32)].any λp=>decide (p.1<=r/\r<=p.2)):=by
  have a:qy r↔((9<=r/\r<=10)\/(12<=r/\r<=13)\/(32<=r/\r<=32)):=by unfold qy;omega
  simp only[SH,oT,SE,<-Bool.decide_or,DX];exact a
 rw[f,Ac,sR,t95];simp only[abS,(b 9 10 h).call,(b 12 13 h).call,(b 32 32 h).call,a,r2.call,e,c.call]
def ì(d:IT):List Aa->IT
 |[.str s,.str l]=>match okB l with
  |true=>gx (.bool (uK s (rh [] l)))
  |false=>d
 |_=>d
def í(d:IT):List Aa->IT
 |[.str l]=>match okB l with
  |true=>gx (.sl 1 ((rh [] l).map B1))
  |false=>d
 |_=>d
def î(d:IT):List Aa->IT
 |[.int .i32 r]=> .ret .ret [.bool (decide (qy r))]
 |_=>d
def aJ5(f:FuncId)(args:List Aa):IT:=
 match Nat.beq f 109 with
 |true=>ì (tab f args) args
 |false=>match Nat.beq f 187 with
  |true=>í (tab f args) args
  |false=>match Nat.beq f 95 with
   |true=>î (tab f args) args
   |false=>tab f args
theorem aAC:aGa cx aJ5:=by
 intro f args;unfold aJ5;split
 .rename_i hf;have hf:=NG hf;subst hf;unfold ì;split
  .rename_i s l;split;.rename_i ho;refine .inr λn h r e=>?_;rw[cU e,pg];exact Is.of (aJ3 (g_ ho) s h)
   .exact .inl (by rw[Sr])
  .exact .inl (by rw[Sr])
 .split
  .rename_i hf;have hf:=NG hf;subst hf;unfold í;split
   .rename_i l;split;.rename_i ho;refine .inr λn h r e=>?_;rw[cU e];exact Is.of (Ó (g_ ho) h)
    .exact .inl (by rw[Sr])
   .exact .inl (by rw[Sr])
  .split
   .rename_i hf;have hf:=NG hf;subst hf;unfold î;split
    .rename_i a;refine .inr λn h r e=>?_;cases n with
     |zero=>simp[IT.run] at e
     |succ n=>simp only[IT.run,IT.step,Bx] at e;rw[<-e];exact Is.of (aJ4 a h)
    .exact .inl (by rw[Sr])
   .exact .inl (by rw[Sr])
theorem uL:Ev cx 8 [] [] λr _=>r= .bool true:=pd aAC 3000 (by kernel_rfl)
theorem HW:L4 cx 8 [] tt:=uL
end Go.Am
end
