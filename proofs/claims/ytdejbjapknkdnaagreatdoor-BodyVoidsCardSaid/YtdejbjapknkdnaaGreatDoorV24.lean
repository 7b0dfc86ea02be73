/- Lemmas -/
import Derived.Test.YtdejbjapknkdnaaGreatDoorV23
set_option linter.all false
set_option maxHeartbeats 0
set_option maxRecDepth 100000
section
namespace Go.Am
open Go
section
variable{h h':Ae}{a n:Nat}{m:Option Nat}{ps:List PN}{A:Ar}{x:Int}{F:Nat->Prop}
def bW{U:Type}{p q:U->Bool}{y:U}:∀{l:List U},(∀x∈l,p x=true->q x=true)->y∈l->p y=false->q y=true->(l.filter p).length<(l.filter q).length
 |[],_,h,_,_=>by cases h
 |x::l,hi,hy,hp,hq=>by
  have le:∀{l:List U},(∀x∈l,p x=true->q x=true)->(l.filter p).length<=(l.filter q).length:=by
   intro l;induction l with
   |nil=>intro _;simp
   |cons z l ih=>
    intro hi;have:=ih λx hx=>hi x (by simp[hx]);rw[Hu,Hu];split;.rename_i hz;rw[if_pos (hi z (by simp) hz)];simp;exact this
    .split;.simp;omega
     .exact this
  have hl:=λx (hx:x∈l)=>hi x (by simp[hx]);rw[Hu,Hu];rcases Aw.1 hy with rfl|hy
  .rw[if_neg (by simp[hp]),if_pos hq];have:=le hl;simp;omega
  .have ih:=bW hl hy hp hq;split;.rename_i hz;rw[if_pos (hi x (by simp) hz)];simp;exact ih
   .split;.simp;omega
    .exact ih
def tC{r:Int->Nat}{k y:Int}(hr:∀h,A.has h->A.up h≠0->r (A.up h)<r h)(hR:Reach A k y)(hy:A.has y):r k<=r y:=by
 induction hR with
 |refl=>exact Ab _
 |@step z h1 h2 ih=>
  by_cases hz:A.has (A.up z);.have:=ih hz;have:=hr z hy h1;omega
  .cases h2 with
   |refl=>have:=hr z hy h1;omega
   |step h3 _=>exact absurd (Yk hz) h3
open Classical in
def tD{e:Int}(ok:Fl A e):∃r:Int->Nat,(∀h,A.has h->A.up h≠0->r (A.up h)<r h)/\∀h,r h<=A.n.length:=by
 obtain⟨r,hr⟩:=ok.LG;refine⟨λh=>((List.range A.n.length).filter λ(i:Nat)=>decide (Reach A ((i:Int)+1) h/\(i:Int)+1≠h)).length,λh c hu=>?_,λh=>?_⟩
 .have b:=rV ok c hu;have Ti:=b;unfold Ar.has at Ti;have d:(((A.up h).toNat-1:Nat):Int)+1=A.up h:=by omega
  refine bW (y:=(A.up h).toNat-1) (λi _ hi=>?_) (List.mem_range.2 (by omega)) ?_ ?_;.rw[Ci] at hi⊢;refine⟨.step hu hi.1,λe=>?_⟩;have h1:=tC hr hi.1 b;have h2:=hr h c hu;rw[e] at h1;omega
  .rw[d];simp
  .rw[d,Ci];exact⟨.step hu .refl,aBk ok c hu⟩
 .have:=aGM (λ(i:Nat)=>decide (Reach A ((i:Int)+1) h/\(i:Int)+1≠h)) (List.range A.n.length);rwa [List.length_range] at this
def PA.cell(w:PA h a n m ps A)(hx:A.has x){k:Nat}(hk:k<13):(ps.map PN.row).flatten[0+(x.toNat-1)*13+k]?=(pN ps x).row[k]?:=by rw[By];exact Qt (m9 ps) hk (by rw[CE,(w.pn hx).1];rfl)
open Classical in
def YE(w:PA h a n m ps A){up:Int}{r:Int->Nat}{e:Int}(ok:Fl A e)(hr:∀h,A.has h->A.up h≠0->r (A.up h)<r h)(c:up≠0):∀(fuel:Nat) (x:Int),(x=0\/(A.has x/\r x<fuel))->Md (ps.map PN.row).flatten 0 ps.length up fuel x=some (decide (Reach A up x))
 |fuel,x,hx=>by
  by_cases h0:x=0
  .subst h0;have no:¬Reach A up 0:=by
    intro hR;cases hR with
    |refl=>exact c rfl
    |step h1 _=>exact h1 (Yk (by unfold Ar.has;omega))
   rw[Ak no];cases fuel<;>rfl
  .have hx:=hx.resolve_left h0;cases fuel with
   |zero=>omega
   |succ fuel=>
    have f:Md (ps.map PN.row).flatten 0 ps.length up (fuel+1) x=if x=up then some true else if 1<=x/\x<=ps.length then
      match GG (ps.map PN.row).flatten 0 x 1,GG (ps.map PN.row).flatten 0 x 12 with
      |some p,some q=>Md (ps.map PN.row).flatten 0 ps.length up fuel (if p=0 then q else p)
      |_,_=>none
     else none:=by
     rw[Md];.rfl
     .exact λh=>h0 h
    rw[f];by_cases b:x=up;.rw[if_pos b,b,Ag .refl]
    .rw[if_neg b,if_pos (by have:=hx.1;have:=w.D_;unfold Ar.has at*;omega)];have i:GG (ps.map PN.row).flatten 0 x 1=some (A.nd x).Gq:=by unfold GG;rw[w.cell hx.1 (by decide),<-(w.pn hx.1).2.1];rfl
     have g:GG (ps.map PN.row).flatten 0 x 12=some (A.nd x).E3:=by unfold GG;rw[w.cell hx.1 (by decide),<-(w.pn hx.1).2.1];rfl
     rw[i,g];simp only
     have d:(if(A.nd x).Gq=0 then(A.nd x).E3 else(A.nd x).Gq)=A.up x:=by unfold Ar.up;by_cases h:(A.nd x).Gq=0<;>simp[h]
     rw[d];have ih:=YE w ok hr c fuel (A.up x) (by
      by_cases hu:A.up x=0;.exact .inl hu
      .exact .inr ⟨rV ok hx.1 hu,by have:=hr x hx.1 hu;omega⟩)
     rw[ih];congr 1
     rw[DX];constructor
     .intro h1;by_cases hu:A.up x=0
      .rw[hu] at h1;cases h1 with
       |refl=>exact absurd rfl c
       |step h3 _=>exact absurd (Yk (by unfold Ar.has;omega)) h3
      .exact .step hu h1
     .intro h1;cases h1 with
      |refl=>exact absurd rfl b
      |step _ h2=>exact h2
open Classical in
def aIF{up e:Int}(w:PA h a n m ps A)(ok:Fl A e)(hu:A.has up)(hx:A.has x):Cj cx 102 [Pt a 0,I up,I x] h (.bool (decide (Reach A up x))) h:=by
 obtain⟨r,hr,b⟩:=tD ok;have Rs:=w.D_;have hc:=YE w ok hr (up:=up) (by have:=hu.1;omega) (ps.length+1) x (.inr ⟨hx,by have:=b x;omega⟩);have c:D5 (.WX N9) h [Pt a 0,I up,I x]=some (h,.bool (decide (Reach A up x))):=by simp only[D5,N9,w.ha,w.hn];rw[if_pos (by rw[F_];omega),if_pos (by unfold Ar.has at hu hx;omega),hc];rfl
 rw[Ac,show B7 cx 102 [Pt a 0,I up,I x]=Oa [Pt a 0,I up,I x] from rfl,Oa];simp only[Ce,c]
structure UQ(h:Ae)(v:Aa)(l:List Int):Prop where
 len:Az (.len false) [v]=some (I (l.length:Int))
 at_:∀k (hk:k<l.length),∃p,Az (.F0 1) [v,I (k:Int)]=some p/\Bg h none p=some (I l[k])
def Kr.YF{kv:Aa}{l:List Int}(hk:Kr h kv l):UQ h kv l:=by
 refine⟨hk.len,λk hlt=>?_⟩;rcases hk with⟨rfl,rfl⟩|⟨id,cs,rfl,hc⟩
 .simp at hlt
 .refine⟨Pt id k,by have:=Gy (id:=id) (z:=1) (k:= .i64) hlt;rwa [Gm] at this,?_⟩;simp only[Bg,hc,FQ];rw[Ah (by simpa using hlt)];simp[hlt]
def Hh.YF{v:Aa}{l:List Int}(b:Hh l v):UQ h v l:=⟨Br.Fk b,λk hk=>⟨_,Br.Dl b hk,rfl⟩⟩
def aFj{v:Aa}{l:List Int}(b:UQ h v l)(hb:l.length<=1000000000)(x:Int):Cj cx 104 [v,I x] h (I (Cg (λy=>decide (x=y)) 0 l)) h:=by
 rw[Ac,xF,aDv];simp only[Ce,b.len];refine BO (λk:Nat=>[I 0,I (k:Int)]) (λk h1=>k<=l.length/\Cg (λy=>decide (x=y)) 0 l=Cg (λy=>decide (x=y)) k (l.drop k)/\h1=h) (λk=>l.length-k) 0 rfl ⟨AU _,rfl,rfl⟩ ?_;rintro k h1 ⟨hk,ha,rfl⟩;rcases A6 k l.length with hlt|HK
 .have i1:(k:Int)<(l.length:Int):=by omega
  obtain⟨p,d,c⟩:=b.at_ k hlt;rw[Ap hlt,Cg] at ha;simp only[abS,i1,d,c,CI (show k<9223372036854775807 by omega)];refine⟨λh2=>?_,λh2=>?_⟩;.rw[ha,if_pos (by simpa using h2)]
  .rw[if_neg (by simpa using h2)] at ha;exact Bk.next (k+1) rfl ⟨hlt,ha,rfl⟩ (by omega)
 .have i1:¬(k:Int)<(l.length:Int):=by omega
  rw[AH HK,Cg] at ha;simp only[abS,i1,ha]
def gX{l:List Int}{x:Int}(hx:x∈l):∃k,k<l.length/\Cg (λy=>decide (x=y)) 0 l=(k:Int)/\l[k]?=some x/\l.takeWhile (λy=>decide (y≠x))=l.take k/\l.dropWhile (λy=>decide (y≠x))=l.drop k:=by
 have key:∀(l:List Int) (s:Nat),x∈l->∃k,k<l.length/\Cg (λy=>decide (x=y)) s l=((s+k:Nat):Int)/\l[k]?=some x/\l.takeWhile (λy=>decide (y≠x))=l.take k/\l.dropWhile (λy=>decide (y≠x))=l.drop k:=by
  intro l;induction l with
  |nil=>intro s h;cases h
  |cons z l ih=>
   intro s h;by_cases e:x=z;.subst e;exact⟨0,by simp,by rw[Cg,if_pos (by simp)];simp,rfl,by simp,by simp⟩
   .have h2:x∈l:=(Aw.1 h).resolve_left e;obtain⟨k,d,c,b,i,g⟩:=ih (s+1) h2;have f:z≠x:=λj=>e j.symm;refine⟨k+1,by simp;exact d,by rw[Cg,if_neg (by simpa using e),c];congr 1;omega,by simpa using b,?_,?_⟩;.rw[List.takeWhile_cons,if_pos (by simpa using f),i];rfl
    .rw[List.dropWhile_cons,if_pos (by simpa using f),g];rfl
 obtain⟨k,d,c,b⟩:=key l 0 hx;exact⟨k,d,by simpa using c,b⟩
def TI{l:List Int}{x:Int}{k:Nat}(hn:l.Nodup)(hk:l[k]?=some x):l.take k++l.drop (k+1)=l.filter λy=>decide (y≠x):=by
 obtain⟨hlt,e⟩:=Af.1 hk;have c:l=l.take k++x::l.drop (k+1):=by conv=>lhs;rw[<-Bl k l,Ap hlt,e]
 rw[c,BU,BW] at hn;conv=>rhs;rw[c,Bu,Hu,if_neg (by simp)]
 rw[GV.2 (λy hy=>by simpa using λb:y=x=>hn.2.2 y hy x (by simp) b),GV.2 (λy hy=>by simpa using λb:y=x=>hn.2.1.1 (b▸hy))]
def aFk{id l k:Nat}(hl:0<l)(hk:k<=l):Az (.PQ 1 false false true) [.C7 id 0 l 1,I (k:Int)]=some (.C7 id 0 k 1):=by
 have b:Ex (k:Int) l=some k:=by unfold Ex;rw[if_pos (by omega)];rfl
 simp[Az,I0,DI,b];omega
def aFl{id l k:Nat}(hk:k<=l):Az (.PQ 1 false true false) [.C7 id 0 l 1,I (k:Int)]=some (if k<l then .C7 id k (l-k) 1 else .sl 1 []):=by
 have b:Ex (k:Int) l=some k:=by unfold Ex;rw[if_pos (by omega)];rfl
 simp[Az,I0,DI,b];split<;>rfl
def aIG{id k:Nat}{l:List Int}{cs:List Aa}(hc:h[id]?=some (.cells (l.map (Aa.int .i64)++cs)))(hk:k<l.length)(hb:l.length<=1000000000):
  ∃GW,Cj cx 181 [.C7 id 0 l.length 1,I (k:Int),I ((k+1:Nat):Int)] h (.C7 id 0 (l.length-1) 1) (h.set id (.cells ((l.take k++l.drop (k+1)).map (Aa.int .i64)++GW))):=by
 have Iy:=(Af.1 hc).1;have b:(l.take k++l.drop (k+1)).length=l.length-1:=by rw[Ai,Av,A5];omega
 obtain⟨Ta,p,hcl⟩:∃Ta,Gt h 1 8 (.C7 id 0 k 1) (if k+1<l.length then .C7 id (k+1) (l.length-(k+1)) 1 else .sl 1 [])=some (h.set id (.cells ((l.take k++l.drop (k+1)).map (Aa.int .i64)++Ta)),.C7 id 0 (l.length-1) 1)/\1<=Ta.length:=by
  have g:GX h 1 (if k+1<l.length then .C7 id (k+1) (l.length-(k+1)) 1 else .sl 1 [])=some ((l.drop (k+1)).map CY):=by
   by_cases Xm:k+1<l.length;rotate_left;.rw[if_neg Xm,AH (by omega)];rfl
   rw[if_pos Xm];have d:=NQ (l:=l.drop (k+1)) (cs:=cs) (Kd:=(l.take (k+1)).map (Aa.int .i64));rw[<-AT,<-Cb,Bl] at d;simp only[Ao,Av,A5] at d;rw[BG (by omega)] at d;simp only[GX,BM,hc,d];rw[if_pos (by simp;omega)]
  by_cases aIH:k+1=l.length
  .refine⟨I l[k]::cs,?_,by simp⟩;have j:l.drop (k+1)=[]:=AH (by omega);rw[j] at g⊢;have f:l.map (Aa.int .i64)++cs=(l.take k++[]).map (Aa.int .i64)++ I l[k]::cs:=by
    have:l=l.take k++[l[k]]:=by conv=>lhs;rw[<-Bl k l,Ap hk,j]
    conv=>lhs;rw[this,Cb,AT]
    rw[A8];rfl
   have o:h.set id (.cells ((l.take k++[]).map (Aa.int .i64)++ I l[k]::cs))=h:=by rw[<-f];obtain⟨lJ,u⟩:=Af.1 hc;rw[<-u,JR]
   simp only[Gt,g,Dz,BM];rw[o,show l.length-1=k by omega]
  .obtain⟨y,c,hd⟩:∃y c,l.drop (k+1)=y::c:=⟨_,_,Ap (show k+1<l.length by omega)⟩;have nD:(y::c).length=l.length-(k+1):=by rw[<-hd,A5]
   rw[hd] at g;have aII:∀l3:List Int,(l3.map CY).flatten=l3.map (Aa.int .i64):=by
    intro l3;induction l3 with
    |nil=>rfl
    |cons z l3 ih=>simp[CY,ih]
   refine⟨(l.map (Aa.int .i64)++cs).drop (l.length-1),?_,by simp;omega⟩;simp only[Gt,g,Bd,hc,BM];have t:(CY y::c.map CY).length=l.length-(k+1):=by rw[<-nD];simp
   have s:(CY y::c.map CY).flatten=(y::c).map (Aa.int .i64):=by have:=aII (y::c);simpa using this
   rw[t,s,if_pos (by simp;omega)];have r:(l.map (Aa.int .i64)++cs).take (0+k*1)=(l.take k).map (Aa.int .i64):=by rw[By,Gm,A0 (by simp;omega),Hr]
   rw[r,hd,show 0+(k+(l.length-(k+1)))*1=l.length-1 by omega,show k+(l.length-(k+1))=l.length-1 by omega];simp
 generalize ă:h.set id (.cells ((l.take k++l.drop (k+1)).map (Aa.int .i64)++Ta))=h2 at p;have LX:h2[id]?=some (.cells ((l.take k++l.drop (k+1)).map (Aa.int .i64)++Ta)):=by rw[<-ă];exact AB Iy
 have j:D5 (.ic 1 true true) h2 [.C7 id 0 (l.length-1) 1,I ((l.length-1:Nat):Int),I (l.length:Int)]=some (h2,.C7 id (l.length-1) 1 1):=by
  simp only[D5,jZ,LX];have tE:((l.take k++l.drop (k+1)).map (Aa.int .i64)++Ta).length=l.length-1+Ta.length:=by rw[Ai,Ao,b]
  have v:Ex (l.length:Int) ((((l.take k++l.drop (k+1)).map (Aa.int .i64)++Ta).length-0)/1)=some l.length:=by unfold Ex;rw[if_pos (by rw[tE];omega)];rfl
  have d:Ex ((l.length-1:Nat):Int) l.length=some (l.length-1):=by unfold Ex;rw[if_pos (by omega)];rfl
  rw[if_pos ⟨trivial,trivial,AU _⟩];simp only[DI,v,d,Ck,BF];rw[if_pos (by rw[tE];omega)];congr 3
  .omega
  .omega
 have q:D5 (.clear 1 [I 0]) h2 [.C7 id (l.length-1) 1 1]=some (h.set id (.cells ((l.take k++l.drop (k+1)).map (Aa.int .i64)++(I 0::Ta.drop 1))),.bool true):=by
  simp only[D5,W0,LX];rw[if_pos ⟨trivial,rfl,by rw[Ai,Ao,b];omega⟩];congr 2
  rw[<-ă,Nc];congr 2
  have f:(((l.take k++l.drop (k+1)).map (Aa.int .i64)++Ta).take (l.length-1))=(l.take k++l.drop (k+1)).map (Aa.int .i64):=Jz (by rw[Ao,b]);have o:(((l.take k++l.drop (k+1)).map (Aa.int .i64)++Ta).drop (l.length-1+1*1))=Ta.drop 1:=by rw[show l.length-1+1*1=((l.take k++l.drop (k+1)).map (Aa.int .i64)).length+1 by rw[Ao,b],IV];simp
  rw[f,o];simp
 refine⟨I 0::Ta.drop 1,?_⟩;have e:∀i n,Az (.len false) [.C7 i 0 n 1]=some (I (n:Int)):=λ_ _=>rfl;have f:D5 (.pC 1) h [.C7 id 0 l.length 1,I (k:Int),I ((k+1:Nat):Int),I (l.length:Int)]=some (h,.bool true):=by simp only[D5,W8];simp;omega
 rw[Ac,yS,aD5];simp only[abS,e,f,show¬(k:Int)=((k+1:Nat):Int) by omega,aFk (id:=id) (show 0<l.length by omega) (show k<=l.length by omega),aFl (id:=id) (show k+1<=l.length by omega),p,j,q]
def K_:∀{n:Nat} {l:List Int},l.Nodup->(∀x∈l,1<=x/\x<=n)->l.length<=n
 |0,l,_,h=>by
  cases l with
  |nil=>simp
  |cons x l=>have:=h x (by simp);omega
 |n+1,l,hn,h=>by
  have ih:=K_ (n:=n) (l:=l.filter λx=>decide (x≠(n:Int)+1)) (hn.filter _) (λx hx=>by
   have h1:=BV.1 hx;have h2:=h x h1.1;have h3:x≠(n:Int)+1:=by simpa using h1.2
   omega)
  have key:∀{l:List Int},l.Nodup->l.length<=(l.filter λx=>decide (x≠(n:Int)+1)).length+1:=by
   intro l hl;induction l with
   |nil=>simp
   |cons x l ih=>
    rw[BW] at hl;rw[Hu];by_cases e:x=(n:Int)+1;.rw[if_neg (by simp[e]),GV.2 (λy hy=>by simpa using λb:y=(n:Int)+1=>hl.1 (by rw[e,<-b];exact hy))];simp
    .rw[if_pos (by simpa using e)];have:=ih hl.2;simp only[AE];omega
  have:=key hn;omega
def L_{e:Int}(ok:Fl A e)(x:Int):(A.nd x).Bv.length<=A.n.length:=by
 by_cases hx:A.has x;.refine K_ (ok.Ub x hx).wT λk hk=>?_;exact(ok.Rt x hx k hk).1
 .rw[Py hx];exact AU _
def Nz.Bv{e:Int}(b:Nz A)(ok:Fl A e)(x:Int):(A.nd x).Bv.length<=1000000000:=Bn (L_ ok x) b.n
def Nz.aNK{l:List Int}(b:Nz A):Nz (A.set x {A.nd x with Bv:=l}):=b.set (b.at_ x) (b.data x)
def Nz.aNL{p:Int}(b:Nz A):Nz (A.set x {A.nd x with Gq:=p}):=b.set (b.at_ x) (b.data x)
def Nz.cut(b:Nz A):Nz (A.cut x):=by
 unfold Ar.cut;simp only;split;.exact b
 .exact Nz.aNL b.aNK
def aBF{e:Int}(w:PA h a n m ps A)(l:Nz A)(ok:Fl A e)(hx:A.has x):
  ∃h' O9,Cj cx 103 [Pt a 0,I x] h (.tuple []) h'/\PA h' a n m O9 (A.cut x)/\Ey h (λi=>i∈FH a n m ps) h' (λi=>i∈FH a n m O9):=by
 have hb:=l.Bv ok;by_cases hp:(A.nd x).Gq=0
 .have z:A.cut x=A:=by unfold Ar.cut;simp only;rw[if_pos hp]
  refine⟨h,ps,?_,by rw[z];exact w,.refl⟩;rw[Ac,fL,ō];simp only[abS,(IN w l hx).call,w.f1 hx,hp]
 .obtain⟨hq,hk⟩:=ok.Gq x hx hp;generalize d:(A.nd x).Gq=q at*;have hne:q≠x:=by rw[<-d];exact rW ok hx (by rw[d];exact hp)
  obtain⟨k,r,L,E,_,_⟩:=gX hk;have Rt:=w.Rt hq;have o:=aFj Rt.YF (hb q) x;rw[L] at o;rcases t:Rt with⟨_,M⟩|⟨id,cs,b,hc⟩
  .rw[M] at r;simp at r
  clear t;rw[b] at o;obtain⟨GW,r2⟩:=aIG hc r (hb q);rw[TI (ok.Ub q hq).wT E] at r2;have aO:(A.nd q).Bv.length-1=((A.nd q).Bv.filter λy=>decide (y≠x)).length:=by rw[<-TI (ok.Ub q hq).wT E,Ai,Av,A5];omega
  rw[aO] at r2;have ĥ:=(Af.1 hc).1;have s:=(w.pn hq).2.1;generalize c:h.set id (.cells (((A.nd q).Bv.filter λy=>decide (y≠x)).map (Aa.int .i64)++GW))=h1 at r2;have aIJ:id∈FH a n m ps:=LK (w.pn hq).2.2 (by rw[b];rfl);have aNN:id≠n:=by intro f;have:=w.nd;unfold FH at this;simp only[BW,Aw,not_or] at this;exact this.2.1 (f▸Aj.2 (.inr (Cf.2 ⟨_,(w.pn hq).2.2,by rw[b];rfl⟩)))
  have aTR:id≠a:=by intro f;have:=w.nd;unfold FH at this;simp only[BW,Aw,not_or] at this;exact this.1.2 (f▸Aj.2 (.inr (Cf.2 ⟨_,(w.pn hq).2.2,by rw[b];rfl⟩)))
  obtain⟨g,tF⟩:∃g:PN,g=⟨{A.nd q with Bv:=(A.nd q).Bv.filter λy=>decide (y≠x)},.C7 id 0 ((A.nd q).Bv.filter λy=>decide (y≠x)).length 1,(pN ps q).av,w.att hq⟩:=⟨_,rfl⟩;have aIK:g.row=(pN ps q).row.set 2 (.C7 id 0 ((A.nd q).Bv.filter λy=>decide (y≠x)).length 1):=by rw[tF];simp only[PN.row];rw[s];rfl
  have B:h1[n]?=h[n]?:=by rw[<-c,Al aNN]
  have C:=w.sto hq (k:=2) (by decide) (v:= .C7 id 0 ((A.nd q).Bv.filter λy=>decide (y≠x)).length 1) rfl aIK B;have aIL:HV g.kv=HV (pN ps q).kv:=by rw[tF,b];rfl
  have j:=w.p_ hq (p:=g) (h1:=h1) (λi _ hi=>by rw[<-c,Al];intro f;exact hi (by rw[b,f];rfl)) (by rw[tF];exact .inr ⟨id,GW,rfl,by rw[<-c];exact AB ĥ⟩) (.inl aIL)
  have aBG:=cz w hq aIL;generalize ă:h1.set n (.cells ((ps.set (q.toNat-1) g).map PN.row).flatten)=h2 at C j;generalize aTS:ps.set (q.toNat-1) g=ZP at j aBG;have u:g.x={A.nd q with Bv:=(A.nd q).Bv.filter λy=>decide (y≠x)}:=by rw[tF]
  rw[u] at j;have PR:(A.set q {A.nd q with Bv:=(A.nd q).Bv.filter λy=>decide (y≠x)}).has x:=JB.2 hx;have qx:=(j.pn PR).2.1;have SJ:(A.set q {A.nd q with Bv:=(A.nd q).Bv.filter λy=>decide (y≠x)}).nd x=A.nd x:=by rw[Ko,if_neg (λh=>hne h.1.symm)]
  obtain⟨h3,H,G,i3,J,l3⟩:=j.wr PR (k:=1) (by decide) (v:= I 0) rfl (p:=⟨{A.nd x with Gq:=0},(pN ZP x).kv,(pN ZP x).av,by have:=(pN ZP x).ok;rw[qx,SJ] at this;exact this⟩) (by simp only[PN.row];rw[qx,SJ];rfl) rfl (BQ HO.Bv SJ).symm;have z:A.cut x=(A.set q {A.nd q with Bv:=(A.nd q).Bv.filter λy=>decide (y≠x)}).set x {A.nd x with Gq:=0}:=by unfold Ar.cut;simp only;rw[d,if_neg hp,SJ]
  refine⟨h3,_,?_,by rw[z];exact G,?_⟩;.have inc:=CI (show k<9223372036854775807 by have:=hb q;omega);rw[Ac,fL,ō];simp only[abS,(IN w l hx).call,(IN w l hq).call,w.f1 hx,d,hp,w.f2 hq,b,o.call,inc,r2.call,C,H]
  .have aTT:h2.length=h.length:=by rw[<-ă,BY,<-c,BY]
   refine⟨by omega,λi hi Zh=>?_,λi hi=> .inl (by rw[i3,aBG] at hi;exact hi)⟩;have D:i≠n:=λf=>Zh (f▸by simp[FH]);have K:i≠id:=λf=>Zh (f▸aIJ);rw[J i D,<-ă,Al (Dd D),<-c,Al (Dd K)]
end
section
variable{h h':Ae}{a n:Nat}{m:Option Nat}{ps:List PN}{A:Ar}{x:Int}{F:Nat->Prop}
def nE{p:PN}(w:PA h a n m ps A)(hx:A.has x){i:Nat}(hi:i∈FH a n m (ps.set (x.toNat-1) p)):i∈FH a n m ps\/HV p.kv=some i:=by
 obtain⟨c,b⟩:=YC w hx p;unfold FH at hi⊢;rw[b,ED] at hi;simp only[Aw,Aj,Cf] at hi⊢;rcases hi with h1|h1|h1|⟨q,h1,h2⟩|⟨q,h1,h2⟩
 .exact .inl (.inl h1)
 .exact .inl (.inr (.inl h1))
 .exact .inl (.inr (.inr (.inl h1)))
 .exact .inl (.inr (.inr (.inr ⟨q,AZ h1,h2⟩)))
 .rcases h1 with rfl|h1
  .exact .inr h2
  .exact .inl (.inr (.inr (.inr ⟨q,Bc h1,h2⟩)))
def M_{kv:Aa}{l:List Int}{k:Nat}(hk:Kr h kv l)(Xm:k<=l.length)(hb:l.length<=1000000000)(y:Int):
  ∃h1,D5 .ir h [kv,I (k:Int),.sl 1 [[I y]]]=some (h1,.C7 h.length 0 (l.length+1) 1)/\h1[h.length]?=some (.cells ((l.take k++y::l.drop k).map (Aa.int .i64)))/\(∀i,i<h.length->HV kv≠some i->h1[i]?=h[i]?)/\h1.length=h.length+1:=by
 rcases hk with⟨rfl,rfl⟩|⟨id,cs,rfl,hc⟩
 .have:k=0:=by simpa using Xm
  subst this;exact⟨h++[.cells [I y]],rfl,by simp,λi hi _=>Ah hi,by simp⟩
 .have Iy:=(Af.1 hc).1;refine⟨h.set id .DD++[.cells ((l.take k++y::l.drop k).map (Aa.int .i64))],?_,by rw[Bi (by simp)];simp,λi hi hn=>?_,by simp⟩
  .simp only[D5,QS,hc];rw[if_pos (by have:AN=140737488355328:=rfl;simp;omega)];simp only[Bz];have c:(l.map (Aa.int .i64)++cs).take k=(l.take k).map (Aa.int .i64):=by rw[A0 (by simpa using Xm),Hr]
   have b:(l.map (Aa.int .i64)++cs).take l.length=l.map (Aa.int .i64):=Jz (by simp);rw[c,b];simp
  .rw[Ah (by simpa using hi),Al];intro e;exact hn (by rw[e];rfl)
def Rg{p b:Int}(hf:¬aC6 A p x b):A.Ip p x b=A:=by unfold Ar.Ip;rw[if_neg hf]
def N_{l:List Int}{b y:Int}{k:Nat}(hb:b=0->k=l.length)(h2:b≠0->l.takeWhile (λy=>decide (y≠b))=l.take k/\l.dropWhile (λy=>decide (y≠b))=l.drop k):Ny l b y=l.take k++y::l.drop k:=by
 unfold Ny;by_cases h0:b=0;.rw[if_pos h0,hb h0];simp
 .rw[if_neg h0,(h2 h0).1,(h2 h0).2]
open Classical in
def aBH{e p b:Int}(w:PA h a n m ps A)(d:Nz A)(ok:Fl A e):
  ∃er h' O9,Cj cx 63 [Pt a 0,I p,I x,I b] h (I er) h'/\PA h' a n m O9 (A.Ip p x b)/\Ey h (λi=>i∈FH a n m ps) h' (λi=>i∈FH a n m O9):=by
 by_cases qx:A.has p/\A.has x;rotate_left;.refine⟨3,h,ps,?_,by rw[Rg (λf=>qx ⟨f.hp,f.hn⟩)];exact w,.refl⟩;rw[Ac,Qs,ŋ];simp only[abS,Fy,(L8 (x:=p) (y:=x) w).call,if_neg qx,ne_eq,show¬(3:Int)=0 by decide]
 obtain⟨hp,hx⟩:=qx;by_cases hb:b≠0/\¬A.has b;.refine⟨3,h,ps,?_,by rw[Rg (λf=>hb.2 (f.hb hb.1).1)];exact w,.refl⟩;rw[Ac,Qs,ŋ];simp only[abS,Fy,(L8 (x:=p) (y:=x) w).call,if_pos (And.intro hp hx),ne_eq,CK,hb.1,(Wh (x:=b) w).call,Ak hb.2,E9]
 have T9:b=0\/(b≠0/\A.has b):=by
  by_cases h0:b=0;.exact .inl h0
  .refine .inr ⟨h0,?_⟩;by_cases h1:A.has b;.exact h1
   .exact absurd ⟨h0,h1⟩ hb
 by_cases kp:Pz (A.nd p).kind;rotate_left
 .refine⟨4,h,ps,?_,by rw[Rg (λf=>kp f.kp)];exact w,.refl⟩;unfold Pz at kp;have c:¬(A.nd p).kind=1:=λe=>kp (.inl e);have u:¬(A.nd p).kind=2:=λe=>kp (.inr (.inl e));have J:¬(A.nd p).kind=4:=λe=>kp (.inr (.inr e));rw[Ac,Qs,ŋ];rcases T9 with h0|⟨h0,RJ⟩
  .simp only[abS,Fy,(L8 (x:=p) (y:=x) w).call,if_pos (And.intro hp hx),ne_eq,CK,(IN w d hp).call,(IN w d hx).call,w.f0 hp,w.f0 hx,c,E9,h0,u,J]
  .simp only[abS,Fy,(L8 (x:=p) (y:=x) w).call,if_pos (And.intro hp hx),ne_eq,CK,(IN w d hp).call,(IN w d hx).call,w.f0 hp,w.f0 hx,c,E9,h0,(Wh (x:=b) w).call,Ag RJ,u,J]
 by_cases kn:(A.nd x).kind=1\/(A.nd x).kind=2
 .refine⟨4,h,ps,?_,by rw[Rg (λf=>by have:=f.kn;omega)];exact w,.refl⟩;rw[Ac,Qs,ŋ];rcases kp with c|c|c<;>rcases kn with u|u<;>rcases T9 with h0|⟨h0,RJ⟩
  all_goals first|(simp only[abS,Fy,(L8 (x:=p) (y:=x) w).call,if_pos (And.intro hp hx),ne_eq,CK,(IN w d hp).call,(IN w d hx).call,w.f0 hp,w.f0 hx,c,show¬(2:Int)=1 by decide,show¬(4:Int)=1 by decide,show¬(4:Int)=2 by decide,E9,h0,u];done)|simp only[abS,Fy,(L8 (x:=p) (y:=x) w).call,if_pos (And.intro hp hx),ne_eq,CK,(IN w d hp).call,(IN w d hx).call,w.f0 hp,w.f0 hx,c,show¬(2:Int)=1 by decide,show¬(4:Int)=1 by decide,show¬(4:Int)=2 by decide,E9,h0,(Wh (x:=b) w).call,Ag RJ,u]
 have l:¬(A.nd x).kind=1:=λe=>kn (.inl e);have g:¬(A.nd x).kind=2:=λe=>kn (.inr e);have s:=aIF w ok hx hp;by_cases re:Reach A x p
 .refine⟨4,h,ps,?_,by rw[Rg (λf=>f.re re)];exact w,.refl⟩;rw[Ag re] at s;rw[Ac,Qs,ŋ];rcases kp with c|c|c<;>rcases T9 with h0|⟨h0,RJ⟩
  all_goals first|(simp only[abS,Fy,(L8 (x:=p) (y:=x) w).call,if_pos (And.intro hp hx),ne_eq,CK,(IN w d hp).call,(IN w d hx).call,w.f0 hp,w.f0 hx,c,show¬(2:Int)=1 by decide,show¬(4:Int)=1 by decide,show¬(4:Int)=2 by decide,E9,h0,l,g,s.call];done)|simp only[abS,Fy,(L8 (x:=p) (y:=x) w).call,if_pos (And.intro hp hx),ne_eq,CK,(IN w d hp).call,(IN w d hx).call,w.f0 hp,w.f0 hx,c,show¬(2:Int)=1 by decide,show¬(4:Int)=1 by decide,show¬(4:Int)=2 by decide,E9,h0,(Wh (x:=b) w).call,Ag RJ,l,g,s.call]
 rw[Ak re] at s;by_cases r:b≠0/\(b=x\/(A.nd b).Gq≠p)
 .refine⟨5,h,ps,?_,by rw[Rg (λf=>by have:=f.hb r.1;rcases r.2 with h|h;exact this.2.1 h;exact h this.2.2)];exact w,.refl⟩;obtain⟨h0,r⟩:=r;have RJ:=(T9.resolve_left h0).2;rw[Ac,Qs,ŋ];by_cases q:b=x;.have aTU:=q;rcases kp with c|c|c<;>simp only[abS,Fy,(L8 (x:=p) (y:=x) w).call,if_pos (And.intro hp hx),ne_eq,CK,(IN w d hp).call,(IN w d hx).call,w.f0 hp,w.f0 hx,c,show¬(2:Int)=1 by decide,show¬(4:Int)=1 by decide,show¬(4:Int)=2 by decide,E9,l,g,s.call,q,show¬x=0 from q▸h0,Ag hx,(Wh (x:=x) w).call]
  .have r:=r.resolve_left q;rcases kp with c|c|c<;>simp only[abS,Fy,(L8 (x:=p) (y:=x) w).call,if_pos (And.intro hp hx),ne_eq,CK,(IN w d hp).call,(IN w d hx).call,w.f0 hp,w.f0 hx,c,show¬(2:Int)=1 by decide,show¬(4:Int)=1 by decide,show¬(4:Int)=2 by decide,E9,h0,(Wh (x:=b) w).call,Ag RJ,l,g,s.call,q,(IN w d RJ).call,w.f1 RJ,r]
 have fits:aC6 A p x b:=⟨hp,hx,λh0=>⟨(T9.resolve_left h0).2,λe=>r ⟨h0,.inl e⟩,by
  by_cases h1:(A.nd b).Gq=p;.exact h1
  .exact absurd ⟨h0,.inr h1⟩ r⟩,kp,⟨l,g⟩,re⟩
 have hA:A.Ip p x b=(A.cut x).Nf p x b:=by unfold Ar.Ip;rw[if_pos fits]
 obtain⟨h1,ZP,R,o,V⟩:=aBF w d ok hx;have Zl:=eY ok hx g;have L:=d.cut (x:=x);have tF:(A.cut x).has p:=OZ.2 hp;have PR:(A.cut x).has x:=OZ.2 hx;have M:x≠p:=by rintro rfl;exact re .refl
 have E:=L.Bv Zl p;obtain⟨k,Xm,D,ġ⟩:∃k,k<=((A.cut x).nd p).Bv.length/\(b=0->k=((A.cut x).nd p).Bv.length)/\(b≠0->Cg (λy=>decide (b=y)) 0 ((A.cut x).nd p).Bv=(k:Int)/\((A.cut x).nd p).Bv.takeWhile (λy=>decide (y≠b))=((A.cut x).nd p).Bv.take k/\((A.cut x).nd p).Bv.dropWhile (λy=>decide (y≠b))=((A.cut x).nd p).Bv.drop k):=by
  by_cases h0:b=0;.exact⟨_,Ab _,λ_=>rfl,λh=>absurd h0 h⟩
  .have z:=fits.hb h0;have Ŵ:((A.cut x).nd b).Gq=p:=by
    rw[Yl ok hx,if_neg z.2.1];split;.exact z.2.2
    .exact z.2.2
   have Wi:b∈((A.cut x).nd p).Bv:=by have:=(Zl.Gq b (OZ.2 z.1) (by rw[Ŵ];have:=hp.1;omega)).2;rwa [Ŵ] at this
   obtain⟨k,c,u,_,J,Y⟩:=gX Wi;exact⟨k,by omega,λh=>absurd h h0,λ_=>⟨u,J,Y⟩⟩
 have JI:=N_ (y:=x) D λh=>(ġ h).2;have Rt:=o.Rt tF;obtain⟨h2,O,LX,kL,lJ⟩:=M_ Rt Xm E x;have N:=(o.pn tF).2.1;obtain⟨t,Ą⟩:∃t:PN,t=⟨{(A.cut x).nd p with Bv:=Ny ((A.cut x).nd p).Bv b x},.C7 h1.length 0 (((A.cut x).nd p).Bv.length+1) 1,(pN ZP p).av,o.att tF⟩:=⟨_,rfl⟩;have C:t.x={(A.cut x).nd p with Bv:=Ny ((A.cut x).nd p).Bv b x}:=by rw[Ą]
 have hrow:t.row=(pN ZP p).row.set 2 (.C7 h1.length 0 (((A.cut x).nd p).Bv.length+1) 1):=by rw[Ą];simp only[PN.row];rw[N];rfl
 have aIN:n∈FH a n m ZP:=by simp[FH]
 have ql:HV (pN ZP p).kv≠some n:=by intro H;have:=o.nd;unfold FH at this;simp only[BW,Aw,not_or] at this;exact this.2.1 (Aj.2 (.inr (Cf.2 ⟨_,(o.pn tF).2.2,H⟩)))
 have K:=o.sto tF (k:=2) (by decide) (v:= .C7 h1.length 0 (((A.cut x).nd p).Bv.length+1) 1) rfl hrow (kL n (o.lt n aIN) ql);have hlen:(Ny ((A.cut x).nd p).Bv b x).length=((A.cut x).nd p).Bv.length+1:=by rw[JI,Ai,AE,Av,A5];omega
 have B:=o.p_ tF (p:=t) (h1:=h2) (λi hi hn=>kL i (o.lt i hi) hn) (by rw[Ą];refine .inr ⟨h1.length,[],by simp only[hlen],?_⟩;simp only[JI,A8];exact LX) (.inr λj hj=>by rw[Ą] at hj;cases hj;exact Ab _)
 have XK:∀i,i∈FH a n m (ZP.set (p.toNat-1) t)->i∈FH a n m ZP\/i=h1.length:=by
  intro i hi;rcases nE o tF hi with h|h
  .exact .inl h
  .rw[Ą] at h;cases h;exact .inr rfl
 generalize G:h2.set n (.cells ((ZP.set (p.toNat-1) t).map PN.row).flatten)=h3 at K B;generalize aTX:ZP.set (p.toNat-1) t=J_ at B XK;rw[C] at B;have Zk:((A.cut x).set p {(A.cut x).nd p with Bv:=Ny ((A.cut x).nd p).Bv b x}).has x:=JB.2 PR;have jP:((A.cut x).set p {(A.cut x).nd p with Bv:=Ny ((A.cut x).nd p).Bv b x}).nd x=(A.cut x).nd x:=by rw[Ko,if_neg (λh=>M h.1)]
 have qx:=(B.pn Zk).2.1;obtain⟨T,P,W,Z,X,l4⟩:=B.wr Zk (k:=1) (by decide) (v:= I p) rfl (p:=⟨{(A.cut x).nd x with Gq:=p},(pN J_ x).kv,(pN J_ x).av,by have:=(pN J_ x).ok;rw[qx,jP] at this;exact this⟩) (by simp only[PN.row];rw[qx,jP];rfl) rfl (BQ HO.Bv jP).symm;have aIO:(A.cut x).Nf p x b=((A.cut x).set p {(A.cut x).nd p with Bv:=Ny ((A.cut x).nd p).Bv b x}).set x {(A.cut x).nd x with Gq:=p}:=by unfold Ar.Nf;simp only;rw[jP]
 refine⟨0,T,_,?_,by rw[hA,aIO];exact W,?_⟩
 .rw[Ac,Qs,ŋ];by_cases h0:b=0;.rw[D h0] at O;have kl:=Rt.len;rcases kp with c|c|c<;>simp only[abS,Fy,(L8 (x:=p) (y:=x) w).call,if_pos (And.intro hp hx),ne_eq,CK,(IN w d hp).call,(IN w d hx).call,w.f0 hp,w.f0 hx,c,show¬(2:Int)=1 by decide,show¬(4:Int)=1 by decide,show¬(4:Int)=2 by decide,E9,h0,l,g,s.call,R.call,o.f2 tF,kl,GA,O,K,P]
  .have z:=fits.hb h0;have RJ:=z.1;have Q:=aFj Rt.YF E b;rw[(ġ h0).1] at Q;have kl:=Rt.len;rcases kp with c|c|c<;>simp only[abS,Fy,(L8 (x:=p) (y:=x) w).call,if_pos (And.intro hp hx),ne_eq,CK,(IN w d hp).call,(IN w d hx).call,w.f0 hp,w.f0 hx,c,show¬(2:Int)=1 by decide,show¬(4:Int)=1 by decide,show¬(4:Int)=2 by decide,E9,h0,(Wh (x:=b) w).call,Ag RJ,l,g,s.call,z.2.1,(IN w d RJ).call,w.f1 RJ,z.2.2,R.call,o.f2 tF,kl,Q.call,GA,O,K,P]
 .have wD:h3.length=h1.length+1:=by rw[<-G,BY,lJ]
  have U:Ey h1 (λi=>i∈FH a n m ZP) T (λi=>i∈FH a n m (J_.set (x.toNat-1) ⟨{(A.cut x).nd x with Gq:=p},(pN J_ x).kv,(pN J_ x).av,by have:=(pN J_ x).ok;rw[qx,jP] at this;exact this⟩)):=by
   refine⟨by omega,λi hi Zh=>?_,λi hi=>?_⟩;.have S:i≠n:=λH=>Zh (H▸aIN);rw[X i S,<-G,Al (Dd S)];exact kL i hi λH=>Zh (LK (o.pn tF).2.2 H)
   .rw[Z] at hi;rcases XK i hi with h|h
    .exact .inl h
    .exact .inr (by omega)
  exact V.trans U
end
def Qu(a:Nat)(b:BS)(o c t:Aa):List Aa:=[Pt a 0,I b.CB,o,c,I b.mode,I b.GM,t,I b.head,I b.FJ,.bool b.KH,I b.ctx.node,I b.ctx.AX,.str b.ctx.name,.bool b.ctx.Qi,.bool b.fs,.bool b.D3,.str b.mb,.bool b.skip,I b.sw,.bool b.stop]
structure BX(h:Ae)(bi a:Nat)(o c t:Aa)(G:Nat->Prop)(b:BS):Prop where
 hb:h[bi]?=some (.cells (Qu a b o c t))
 o:DK b.Au o
 t:Hh b.tm t
 w:PW h G a b.a
 nb:¬G bi
section
variable{h:Ae}{bi a:Nat}{o c t:Aa}{G F:Nat->Prop}{b:BS}{x:Int}{m:Nat}
def BX.lt(w:BX h bi a o c t G b):bi<h.length:=(Af.1 w.hb).1
def BX.Ep{h':Ae}(w:BX h bi a o c t G b)(hf:∀i,i=bi\/G i->h'[i]?=h[i]?):BX h' bi a o c t G b:=
 ⟨by rw[hf bi (.inl rfl)];exact w.hb,w.o,w.t,w.w.Ep λi hi=>hf i (.inr hi),w.nb⟩
def BX.J9(w:BX h bi a o c t G b){u:Ae}:BX (h++u) bi a o c t G b:=w.Ep λi hi=>Ah (by rcases hi with rfl|hi;exact w.lt;exact w.w.lt hi)
def BX.ld(w:BX h bi a o c t G b)(k:Nat):Bg h none (Pt bi k)=(Qu a b o c t)[k]?:=by simp only[Bg,w.hb,FQ]
def BX.l0(w:BX h bi a o c t G b):Bg h none (Pt bi 0)=some (Pt a 0):=w.ld 0
def BX.l1(w:BX h bi a o c t G b):Bg h none (Pt bi 1)=some (I b.CB):=w.ld 1
def BX.l4(w:BX h bi a o c t G b):Bg h none (Pt bi 4)=some (I b.mode):=w.ld 4
def BX.l7(w:BX h bi a o c t G b):Bg h none (Pt bi 7)=some (I b.head):=w.ld 7
def BX.l9(w:BX h bi a o c t G b):Bg h none (Pt bi 9)=some (.bool b.KH):=w.ld 9
def BX.l15(w:BX h bi a o c t G b):Bg h none (Pt bi 15)=some (.bool b.D3):=w.ld 15
def BX.l3(w:BX h bi a o c t G b):Bg h none (Pt bi 3)=some c:=w.ld 3
def BX.l6(w:BX h bi a o c t G b):Bg h none (Pt bi 6)=some t:=w.ld 6
def BX.atO(w:BX h bi a o c t G b):At h bi 2 o:=⟨_,w.hb,rfl⟩
def BX.my(w:BX h bi a o c t G b):At h bi 3 c:=⟨_,w.hb,rfl⟩
def BX.sO(w:BX h bi a o c t G b):Mn h bi 2 b.Au:=⟨o,w.atO,w.o⟩
def BX.sA(w:BX h bi a o c t G b):ky h (Pt bi 2) b.Au:=w.sO.at
def Iv(w:BX h bi a o c t G b):Cj cx 31 [Pt bi 0] h (.bool true) h:=by rw[Ac,yd,t31];simp only[abS,w.l0]
def PW.pa{A:Ar}(w:PW h G a A):∃n m ps,PA h a n m ps A:=let⟨n,m,ps,w,_⟩:=w;⟨n,m,ps,w⟩
def Wj(w:BX h bi a o c t G b)(ok:Fa b)(rm:Cw b m)(x:Int):∃K V u,Cj cx 97 [Pt bi 0,I x] h (.agg [I (b.a.nd x).kind,I (b.a.nd x).Gq,K,I (b.a.nd x).CB,I (b.a.nd x).AX,.str (b.a.nd x).name,V,.str (b.a.nd x).data,.str (b.a.nd x).Ke,.str (b.a.nd x).sys,.bool (b.a.nd x).DH,I (b.a.nd x).cont,I (b.a.nd x).E3]) (h++u)/\Hh (b.a.nd x).Bv K/\Lr (h++u) V (b.a.nd x).Aq/\Up h.length V:=by obtain⟨n,m',ps,d⟩:=w.w.pa;obtain⟨r,u,e,K,V,rfl,g,f⟩:=aFi (x:=x) d rm.WB (rm.WB.Bv ok.ok x);refine⟨K,V,u,?_,g,f⟩;rw[Ac,zj,t97];simp only[abS,w.l0,e.call]
def aFo(w:BX h bi a o c t G b)(rm:Cw b m):Cj cx 175 [Pt bi 0] h (.agg (En b.Au).row) h:=by have:=rm.Au;rw[Ac,yO,aD1];simp only[abS,KG,(Iv w).call,(f39 w.sA (by omega)).call]
def aIP(w:BX h bi a o c t G b)(ok:Fa b)(rm:Cw b m):Cj cx 176 [Pt bi 0] h (.tuple [I b.NO.1,I b.NO.2]) h:=by
 have hl:=rm.Au;obtain⟨n,m',ps,f⟩:=w.w.pa;have e:=Ů w.sA (show b.Au.length<=1000000000 by omega) Jf;have r2:=Ů w.sA (show b.Au.length<=1000000000 by omega) AF;have b1:=K4 (q:=AA [Jf]) (l:=b.Au);have j:=K4 (q:=AA [AF]) (l:=b.Au);unfold BS.NO;simp only
 generalize Ax (AA [Jf]) b.Au=d at e b1⊢;generalize Ax (AA [AF]) b.Au=g at r2 j⊢;rw[Ac,yP,aD2];simp only[Ce,e.call,r2.call];refine⟨λh1=>?_,λh1=>⟨λh2=>?_,λh2=>?_⟩⟩;.rw[if_pos h1];simp only[Ce,KG,(We w.sA g).call]
 .rw[if_neg h1,if_pos h2];simp only[Ce,KG,(We w.sA 0).call]
 .rw[if_neg h1,if_neg h2];simp only[abS,KG,(We w.sA d).call,w.l0,(aIt (x:=(DT b.Au d).node) f rm.WB).call];refine⟨λh3=>?_,λh3=>?_⟩;.rw[if_pos h3]
  .rw[if_neg h3];have i:(if d-1<0 then 0 else d-1)=max (d-1) 0:=by omega
   simp only[Ce,KG,D1 (show -9223372036854775808<=d-1 by omega) (show d-1<9223372036854775808 by omega),eF,i,(We w.sA (max (d-1) 0)).call]
def bX:Az (.Cl 1) [S Jf,S rX,S rY,S rZ,S wTr]=some (.sl 1 (JK.map B1)):=Ef (ws:=JK) rfl (by decide)
def mz{v:Aa}{ws:List Ad}(d:HT ws v)(hn:ws.length<=1000000000)(a:Item)(h:Ae):Cj cx 155 [.agg a.row,v] h (.bool (AA ws a)) h:=by rw[Ac,yF,aDT];simp only[Ce,KG,(ŭ d hn _ h).call,AA];refine⟨λh1=>by simp[h1],λh1=>by simp[h1]⟩
def O_{A:Ar}{x:Int}(hk:(A.nd x).kind=4)(ws:List Ad):AA ws ⟨0,(A.nd x).AX,(A.nd x).name,false⟩=decide (oZ ws A x):=by
 by_cases h:oZ ws A x;.rw[Ag h];unfold AA;rw[Ag];exact⟨h.2.1,h.2.2⟩
 .rw[Ak h];unfold AA;rw[Ak];exact λh2=>h ⟨hk,h2.1,h2.2⟩
def ŵ(w:BX h bi a o c t G b)(ok:Fa b)(rm:Cw b m)(x:Int):∃u,Cj cx 96 [Pt bi 0,I x] h (.tuple [I (b.place x).1,I (b.place x).2]) (h++u):=by
 have hl:=rm.Au;by_cases A:x=0/\b.Au=[]
 .refine⟨[],?_⟩;have B:b.place x=(b.CB,0):=by unfold BS.place;rw[if_pos A]
  rw[B,A8,Ac,sS,t96];simp only[abS,(Iv w).call,A.1,A.2,CK,(UO w.sA).call,Int.natCast_zero,w.l1]
 .obtain⟨t',ht⟩:∃t',t'=if x=0 then(En b.Au).node else x:=⟨_,rfl⟩
  obtain⟨Z,X,q,U,_,_⟩:=Wj w ok rm t';have C:=w.J9 (u:=q);have B:b.place x=if(b.a.nd (if b.D3=true/\oZ JK b.a t' then b.NO else(t',0)).1).cont≠0 then((b.a.nd (if b.D3=true/\oZ JK b.a t' then b.NO else(t',0)).1).cont,0) else if b.D3=true/\oZ JK b.a t' then b.NO else(t',0):=by unfold BS.place;rw[if_neg A,<-ht]
  obtain⟨pb,qv⟩:∃pb,pb=if b.D3=true/\oZ JK b.a t' then b.NO else(t',0):=⟨_,rfl⟩
  rw[<-qv] at B;obtain⟨Y,V,P,r2,_,_⟩:=Wj C ok rm pb.1;have T:=aIP C ok rm;have v:=mz (ws:=JK) CO (by decide) ⟨0,(b.a.nd t').AX,(b.a.nd t').name,false⟩ (h++q);have em:∀s n,Az (.CT [I 0,I 0,S [],ff] [(1,1),(2,1)]) [I s,.str n]=some (.agg (Item.row ⟨0,s,n,false⟩)):=λ_ _=>rfl;refine⟨q++P,?_⟩;rw[<-AT];have last:∀(y:Int×Int),y=pb->W cx (.call 97 [Pt bi 0,I y.1] λl=> .cells 13 l λd=> .op (.int .neq) [g d 11,I 0] λk=> .AJ k (.ret .ret [.tuple [g d 11,I 0]]) (.ret .ret [.tuple [I y.1,I y.2]])) (λj vs h1=>j=F6.ret/\vs=[.tuple [I (b.place x).1,I (b.place x).2]]/\h1=h++q++P) (h++q):=by
   rintro _ rfl;rw[B];simp only[Ce,r2.call];refine⟨λh1=>?_,λh1=>?_⟩;.rw[if_pos h1]
   .rw[if_neg h1]
  rw[Ac,sS,t96];have l15:=C.l15;have mid:W cx (.call 97 [Pt bi 0,I t'] λO=> .cells 13 O λp=> .Gp 200009 (.op .My [Pt bi 0] λN=> .op (.FN 15) [N] λM=> .load none M λL=> .AJ L (.op (.int .eql) [g p 0,I 4] λK=> .AJ K (.op (.CT [I 0,I 0,S [],ff] [(1,1),(2,1)]) [g p 4,g p 5] λJ=> .op (.Cl 1) [S aXa,S aXK,S aXH,S aXL,S [116,114]] λv20=> .call 155 [J,v20] λH=> .ret .normal [H]) (.ret .normal [ff])) (.ret .normal [ff])) (λx R=>match x with
    | .normal=> .Gp 100046 (.AJ (g R 0) (.call 176 [Pt bi 0] λr=> .op (.ext 0) [r] λE=> .op (.ext 1) [r] λD=> .ret .normal [E,D]) (.ret .normal [I t',I 0])) (λx f=>match x with
     | .normal=> .call 97 [Pt bi 0,g f 0] λl=> .cells 13 l λd=> .op (.int .neq) [g d 11,I 0] λk=> .AJ k (.ret .ret [.tuple [g d 11,I 0]]) (.ret .ret [.tuple [g f 0,g f 1]])
     | .exit i=> .fail
     | .ret=> .ret .ret [.tuple [g f 0,g f 1]])
    | .exit i=> .fail
    | .ret=> .ret .ret [.tuple [I t',I 0]])) (λj vs h1=>j=F6.ret/\vs=[.tuple [I (b.place x).1,I (b.place x).2]]/\h1=h++q++P) h:=by
   rw[U.call];by_cases hf:b.D3=true
   .rw[hf] at l15;by_cases z:(b.a.nd t').kind=4
    .rw[O_ z] at v;by_cases hw:oZ JK b.a t';.rw[Ag hw] at v;rw[if_pos ⟨hf,hw⟩] at qv;have:=last b.NO qv.symm;simp only[abS,l15,z,em,bX,v.call,T.call];simpa only[Ce,eI,AE,AY] using this
     .rw[Ak hw] at v;rw[if_neg (λh=>hw h.2)] at qv;have:=last (t',0) qv.symm;simp only[abS,l15,z,em,bX,v.call];simpa only[Ce,eI,AE,AY] using this
    .rw[if_neg (λh=>z h.2.1)] at qv;have:=last (t',0) qv.symm;simp only[abS,l15,z];simpa only[Ce,eI,AE,AY] using this
   .rw[if_neg (λh=>hf h.1)] at qv;have:=last (t',0) qv.symm;rw[show b.D3=false by simpa using hf] at l15;simp only[Ce,l15];simpa only[Ce,eI,AE,AY] using this
  by_cases h0:x=0
  .have hne:b.Au≠[]:=λe=>A ⟨h0,e⟩;have Q:¬((b.Au.length:Nat):Int)=0:=by have:=Cq.2 hne;omega
   rw[if_pos h0] at ht;rw[ht] at mid;simp only[abS,(Iv w).call];rw[h0] at mid⊢;simp only[abS,KG,(UO w.sA).call,Q,(aFo w rm).call] at mid⊢;exact mid
  .rw[if_neg h0] at ht;rw[ht] at mid;simp only[abS,(Iv w).call,h0,Ho] at mid⊢;exact mid
end
section
def m_{Q:KE}{h:Ae}{k:Aa->IT}:W cx (.NY k) Q h↔W cx (k (.map (some h.length))) Q (h++[.map (ft 0)]):=Sd
section
variable{v:Aa}{l:List A9}{h:Ae}
def aNT(i:Bj l v)(hb:l.length<=1000)(sp:Int):∃u,Cj cx 238 [I sp,v] h u (h++[.map (ft 11)])/\Bj (l.map (D2 sp)) u:=by
 have JG:Br 3 (l.map A9.row) v:=i;have PI:Ev cx 238 [I sp,v] h λr h'=>h'=h++[.map (ft 11)]/\Bj (l.map (D2 sp)) r:=by
  unfold Ev;rw[ag,aEF];rw[m_];simp only[Ce,Nat.reduceLeDiff,↓reduceIte,B6,Fu,rO,aHN,aHO,aHP,aHQ,aHR,aHS,aHT,aHU,aHV,aHW,aC3,JG.Fk];refine BO (λp:Nat×Aa=>[p.2,I (p.1:Int)]) (λp h1=>p.1<=l.length/\Bj ((l.take p.1).map (D2 sp)) p.2/\h1=h++[.map (ft 11)]) (λp=>l.length-p.1) (0,.slnil) rfl ⟨AU _,.nil,rfl⟩ ?_;rintro⟨n,u⟩ h1 ⟨hn,hu,rfl⟩;simp only at hn hu;rcases A6 n l.length with hlt|HK
  .have i1:(n:Int)<(l.length:Int):=by omega
   have Jp:∀{q:List Aa},q=(D2 sp l[n]).row->∃w,Az (.append 3 40) [u,.sl 3 [q]]=some w/\Bj ((l.take (n+1)).map (D2 sp)) w:=by
    rintro _ rfl;refine⟨_,Br.mG (f:=A9.row) (a:=D2 sp l[n]) (b:=40) hu ?_,?_⟩;.simp[AN];omega
    .rw[AV hlt,Cb];exact .mk
   have inc:=CI (show n<9223372036854775807 by omega);by_cases e:sp=2
   .subst e;cases c:J0 (DS l[n].name Oi) with
    |some x=>obtain⟨w,d,hw⟩:=Jp (q:=[I x.1,.str x.2,.str l[n].value]) (by simp only[D2,Nx,true_or,BM,c,A9.row]);simp only[Ce,Nat.reduceLeDiff,↓reduceIte,B6,i1,JG.Dl hlt,Fu,A9.row,(aIe _).AQ rfl rfl,AP,AK,AD,MO,c,MP,d,inc];exact Bk.next (n+1,w) rfl ⟨hlt,hw,rfl⟩ (by simp only;omega)
    |none=>obtain⟨w,d,hw⟩:=Jp (q:=[I 0,.str (DS l[n].name Oi),.str l[n].value]) (by simp only[D2,Nx,true_or,BM,c,A9.row]);simp only[Ce,Nat.reduceLeDiff,↓reduceIte,B6,i1,JG.Dl hlt,Fu,A9.row,(aIe _).AQ rfl rfl,AP,AK,AD,MO,c,MP,d,inc];exact Bk.next (n+1,w) rfl ⟨hlt,hw,rfl⟩ (by simp only;omega)
   by_cases g:sp=3
   .subst g;by_cases hd:l[n].name=aHX
    .have c:J0 aC4=none:=by decide
     obtain⟨w,d,hw⟩:=Jp (q:=[I 0,.str aC4,.str l[n].value]) (by simp only[D2,Nx,hd,or_true,BM,DU,c,A9.row,oQ,e]);simp only[Ce,Nat.reduceLeDiff,↓reduceIte,B6,i1,JG.Dl hlt,Fu,A9.row,hd,show¬(3:Int)=2 by decide,AP,AS,AK,AD,MO,c,MP,d,inc];exact Bk.next (n+1,w) rfl ⟨hlt,hw,rfl⟩ (by simp only;omega)
    .cases c:J0 l[n].name with
     |some x=>obtain⟨w,d,hw⟩:=Jp (q:=[I x.1,.str x.2,.str l[n].value]) (by simp only[D2,Nx,hd,or_true,BM,DU,c,A9.row,and_false,e]);simp only[Ce,Nat.reduceLeDiff,↓reduceIte,B6,i1,JG.Dl hlt,Fu,A9.row,hd,show¬(3:Int)=2 by decide,AP,AS,AK,AD,MO,c,MP,d,inc];exact Bk.next (n+1,w) rfl ⟨hlt,hw,rfl⟩ (by simp only;omega)
     |none=>obtain⟨w,d,hw⟩:=Jp (q:=[I 0,.str l[n].name,.str l[n].value]) (by simp only[D2,Nx,hd,or_true,BM,DU,c,A9.row,and_false,e]);simp only[Ce,Nat.reduceLeDiff,↓reduceIte,B6,i1,JG.Dl hlt,Fu,A9.row,hd,show¬(3:Int)=2 by decide,AP,AS,AK,AD,MO,c,MP,d,inc];exact Bk.next (n+1,w) rfl ⟨hlt,hw,rfl⟩ (by simp only;omega)
   .obtain⟨w,d,hw⟩:=Jp (q:=[I 0,.str l[n].name,.str l[n].value]) (by simp only[D2,e,g,or_self,DU,A9.row]);cases c:J0 l[n].name with
    |some x=>simp only[Ce,Nat.reduceLeDiff,↓reduceIte,B6,i1,JG.Dl hlt,Fu,A9.row,e,g,AP,AS,AK,AD,MO,c,MP,d,inc];exact Bk.next (n+1,w) rfl ⟨hlt,hw,rfl⟩ (by simp only;omega)
    |none=>simp only[Ce,Nat.reduceLeDiff,↓reduceIte,B6,i1,JG.Dl hlt,Fu,A9.row,e,g,AP,AS,AK,AD,MO,c,MP,d,inc];exact Bk.next (n+1,w) rfl ⟨hlt,hw,rfl⟩ (by simp only;omega)
  .have i1:¬(n:Int)<(l.length:Int):=by omega
   rw[A7 HK] at hu;simp only[Ce,Nat.reduceLeDiff,↓reduceIte,B6,i1,AS,AK,AD];exact⟨_,rfl,hu⟩
 obtain⟨r,h',hr,rfl,hu⟩:=PI.ret;exact⟨r,hr,hu⟩
end
end
def BN(bi:Nat)(G:Nat->Prop):Nat->Prop:=λi=>i=bi\/G i
section
variable{h h':Ae}{bi a:Nat}{o c t:Aa}{G G' F:Nat->Prop}{b:BS}{x:Int}{m:Nat}
def Ey.aIS(x:Ey h G h' G'):Ey h (Am.BN bi G) h' (Am.BN bi G'):=⟨x.len,λi hi hn=>x.old i hi λhg=>hn (.inr hg),λi hi=>by
 rcases hi with rfl|hi
 .exact .inl (.inl rfl)
 .rcases x.BN i hi with h|h
  .exact .inl (.inr h)
  .exact .inr h⟩
def BX.aIT{A':Ar}(w:BX h bi a o c t G b)(hp:PW h' G' a A')(x:Ey h G h' G'):BX h' bi a o c t G' {b with a:=A'}/\Ey h (BN bi G) h' (BN bi G'):=
 ⟨⟨by rw[x.old bi w.lt w.nb];exact w.hb,w.o,w.t,hp,λhg=>by rcases x.BN bi hg with h|h;exact w.nb h;have:=w.lt;omega⟩,x.aIS⟩
def BX.step{A':Ar}{R:Ae->Prop}(w:BX h bi a o c t G b)(d:∀n m ps,PA h a n m ps b.a->∃h' n' m' O9,R h'/\PA h' a n' m' O9 A'/\Ey h (λi=>i∈FH a n m ps) h' (λi=>i∈FH a n' m' O9)):
  ∃h' G',R h'/\BX h' bi a o c t G' {b with a:=A'}/\Ey h (BN bi G) h' (BN bi G'):=by
 obtain⟨n,m,ps,g,e⟩:=w.w;obtain⟨h',n',m',O9,r,w',x⟩:=d n m ps g;have k:G=λi=>i∈FH a n m ps:=funext λi=>propext (e i);obtain⟨j,f⟩:=w.aIT w'.pw (by rw[k];exact x);exact⟨h',_,r,j,f⟩
def BX.Eg(w:BX h bi a o c t G b){u:Ae}:Ey h (BN bi G) (h++u) (BN bi G):= .J9
def aIU{v:Aa}{l:List Int}{f:FuncId}{caps:List Aa}{q:Int->Bool}(g:Hh l v)(hb:l.length<=1000000000)(hf:f<=99999)(hq:∀k∈l,∀u,∃d,Cj cx f (I k::caps) (h++u) (.bool (q k)) (h++u++d)):
  ∃u,Cj cx 232 [v,.func (.func f) [] caps] h (I (Cg q 0 l)) (h++u):=by
 have JG:Br 1 (l.map CY) v:=g;have PI:Ev cx 232 [v,.func (.func f) [] caps] h λr h'=>r= I (Cg q 0 l)/\∃u,h'=h++u:=by
  unfold Ev;rw[zY,aEB];simp only[Ce,JG.Fk];refine BO (λk:Nat=>[I 0,I (k:Int)]) (λk h1=>k<=l.length/\Cg q 0 l=Cg q k (l.drop k)/\∃u,h1=h++u) (λk=>l.length-k) 0 rfl ⟨AU _,rfl,[],by simp⟩ ?_;rintro k h1 ⟨hk,ha,u,rfl⟩;rcases A6 k l.length with hlt|HK
  .have i1:(k:Int)<(l.length:Int):=by omega
   have i:Bg (h++u) none (.B4 (CY l[k]))=some (I l[k]):=rfl;obtain⟨d,e⟩:=hq _ (Ay hlt) u;rw[Ap hlt,Cg] at ha;simp only[abS,↓reduceIte,CD,i1,JG.Dl hlt,i,hf,e.call,CI (show k<9223372036854775807 by omega)];rw[Dr];refine⟨λh2=>?_,λh2=>?_⟩;.exact⟨_,rfl,by rw[ha,if_pos h2],u++d,by simp⟩
   .rw[if_neg (by simp[h2])] at ha;exact Bk.next (k+1) rfl ⟨hlt,ha,u++d,by simp⟩ (by omega)
  .have i1:¬(k:Int)<(l.length:Int):=by omega
   rw[AH HK,Cg] at ha;simp only[abS,↓reduceIte,CD,i1];exact⟨_,rfl,by rw[ha],u,rfl⟩
 obtain⟨r,h',hr,rfl,u,rfl⟩:=PI.ret;exact⟨u,hr⟩
def Ŷ{l:List Int}{q:Int->Bool}:decide (0<=Cg q 0 l)=l.any q:=by
 rcases GJ (p:=q) (l:=l) (k:=0) with⟨h1,h2⟩|⟨n,y,h1,h2,h3⟩
 .rw[h1,rj];have:=Mb.1 h2;simpa using this
 .rw[h1,rj];have e:=VP h3;have d:=Rw h3;rw[Ag (by omega),NW];exact⟨y,d,e⟩
def BX.self(w:BX h bi a o c t G b){A':Ar}(e:A'=b.a):BX h bi a o c t G {b with a:=A'}:=by subst e;exact w
open Classical in
def tG{p bf:Int}(w:BX h bi a o c t G b)(ok:Fa b)(rm:Cw b m):∃h' G',Cj cx 99 [Pt bi 0,I x,I p,I bf] h (.tuple []) h'/\BX h' bi a o c t G' {b with a:=b.a.Gr x p bf}/\Ey h (BN bi G) h' (BN bi G'):=by
 obtain⟨K1,V1,d,L,_,_⟩:=Wj w ok rm p;have H:=w.J9 (u:=d);have Y:∀v,Aa.cells (.ptr v)=[.ptr v]:=λ_=>rfl;have Jd:∀h2,(∃u,h2=h++u)->∃h' G',(∃s,Cj cx 63 [Pt a 0,I p,I x,I bf] h2 (I s) h')/\BX h' bi a o c t G' {b with a:=b.a.Ip p x bf}/\Ey h (BN bi G) h' (BN bi G'):=by
  rintro _ ⟨u,rfl⟩;have g:=w.J9 (u:=u);obtain⟨h',G',r,w',x'⟩:=g.step (A':=b.a.Ip p x bf) (R:=λh'=>∃s,Cj cx 63 [Pt a 0,I p,I x,I bf] (h++u) (I s) h') (λn m ps S=>by obtain⟨s,h',O9,r,wp,Q⟩:=aBH S rm.WB ok.ok (p:=p) (x:=x) (b:=bf);exact⟨h',n,m,O9,⟨s,r⟩,wp,Q⟩)
  exact⟨h',G',r,w',w.Eg.trans x'⟩
 by_cases A:(b.a.nd p).kind=1
 .obtain⟨K2,V2,j,r2,_,_⟩:=Wj H ok rm x;have g:=H.J9 (u:=j);by_cases D:(b.a.nd x).kind=4
  .obtain⟨W,X,J_,N⟩:=g.w.pa;obtain⟨K,P,V⟩:=aBx (x:=p) N rm.WB (rm.WB.Bv ok.ok p);obtain⟨J,U⟩:=aIU (h:=h++d++j) (f:=179) (caps:=[.B4 [Pt bi 0]]) (q:=λk=>decide ((b.a.nd k).kind=4)) V (rm.WB.Bv ok.ok p) (by decide) (λk _ u=>by have E:=g.J9 (u:=u);obtain⟨K3,Z,T,y,_,_⟩:=Wj E ok rm k;refine⟨T,?_⟩;rw[Ac,yR,aD4];simp only[Ce,y.call])
   have i:Cj cx 177 [K,.func (.func 179) [] [.B4 [Pt bi 0]]] (h++d++j) (.bool ((b.a.nd p).Bv.any λk=>decide ((b.a.nd k).kind=4))) (h++d++j++J):=by rw[Ac,yQ,aD3,<-Ŷ];simp only[Ce,U.call]
   have E:=g.J9 (u:=J);by_cases M:∃k∈(b.a.nd p).Bv,(b.a.nd k).kind=4
   .have O:((b.a.nd p).Bv.any λk=>decide ((b.a.nd k).kind=4))=true:=by simpa using M
    rw[O] at i;have z:b.a.Gr x p bf=b.a:=by unfold Ar.Gr;rw[if_pos ⟨A,D,M⟩]
    refine⟨_,G,?_,E.self z,(w.Eg.trans H.Eg).trans g.Eg⟩;rw[Ac,Yu,t99];simp only[abS,L.call,A,r2.call,D,g.l0,P.call,i.call]
   .have O:((b.a.nd p).Bv.any λk=>decide ((b.a.nd k).kind=4))=false:=by rw[aRW];intro k hk;simpa using λe=>M ⟨k,hk,e⟩
    rw[O] at i;have z:b.a.Gr x p bf=b.a.Ip p x bf:=by unfold Ar.Gr;rw[if_neg (λh=>M h.2.2)]
    obtain⟨h',G',⟨s,y⟩,C,B⟩:=Jd (h++d++j++J) ⟨d++j++J,by simp⟩;refine⟨h',G',?_,by rw[z];exact C,B⟩;rw[Ac,Yu,t99];simp only[abS,L.call,A,r2.call,D,g.l0,P.call,i.call,E.l0,y.call]
  .have z:b.a.Gr x p bf=b.a.Ip p x bf:=by unfold Ar.Gr;rw[if_neg (λh=>D h.2.1)]
   obtain⟨h',G',⟨s,y⟩,C,B⟩:=Jd (h++d++j) ⟨d++j,by simp⟩;refine⟨h',G',?_,by rw[z];exact C,B⟩;rw[Ac,Yu,t99];simp only[abS,L.call,A,r2.call,D,g.l0,y.call]
 .have z:b.a.Gr x p bf=b.a.Ip p x bf:=by unfold Ar.Gr;rw[if_neg (λh=>A h.1)]
  obtain⟨h',G',⟨s,y⟩,C,B⟩:=Jd (h++d) ⟨d,rfl⟩;refine⟨h',G',?_,by rw[z];exact C,B⟩;rw[Ac,Yu,t99];simp only[abS,L.call,A,H.l0,y.call]
def aIV(w:BX h bi a o c t G b)(ok:Fa b)(rm:Cw b m)(p:Int):∃u,Cj cx 241 [Pt bi 0,I p] h (I (b.L7 p)) (h++u):=by
 obtain⟨q,k,e,g,_,_⟩:=Wj w ok rm p;have d:=w.J9 (u:=e);unfold BS.L7;by_cases hc:(b.a.nd p).cont=0
 .refine⟨e,?_⟩;rw[if_neg (by simp[hc]),Ac,gM,ť];simp only[abS,g.call,hc,ne_eq,CK,d.l1];refine⟨λh1=>?_,λh1=>?_⟩;.rw[if_pos h1]
  .rw[if_neg h1]
 .obtain⟨n,j,f,r2,_,_⟩:=Wj d ok rm (b.a.nd p).cont;have i:=d.J9 (u:=f);refine⟨e++f,?_⟩;rw[if_pos hc,<-AT,Ac,gM,ť];simp only[abS,g.call,r2.call,hc,ne_eq,i.l1];refine⟨λh1=>?_,λh1=>?_⟩;.rw[if_pos h1]
  .rw[if_neg h1]
def gY(nm:Ad)(av:Aa)(r:List Aa):Prop:=∃n k j i g f e d jU wF,r=[n,.str nm,k,j,i,g,f,e,av,d,jU,wF]
def RP:Aa.agg Item.zero.row= .agg [I 0,I 0,S [],ff]:=rfl
variable{nm:Ad}{av:Aa}{l:List A9}{r:List Aa}{sp p:Int}
def Cw.len{k:Nat}(rm:Cw b k)(hk:3<=k):b.a.len+3<=1000000000:=by have:=rm.n;unfold Ar.len;omega
def aFp(w:BX h bi a o c t G b)(ok:Fa b)(rm:Cw b (m+3))(hr:gY nm av r)(H:Bj l av)(hl:Fx l)(hn:nm.length<=1000)(p sp:Int):
  ∃h' G',Cj cx 189 [Pt bi 0,.agg r,I sp,I p] h (.agg (b.IJ nm l sp).row) h'/\BX h' bi a o c t G' (b.HL nm l sp p)/\Ey h (BN bi G) h' (BN bi G'):=by
 obtain⟨Q,P,O,N,M,L,K,J,jU,wF,rfl⟩:=hr;by_cases hs:BS.LH sp
 .obtain⟨E,v,hu⟩:=aNT (h:=h) H hl.1 sp;have d:=w.J9 (u:=[.map (ft 11)]);obtain⟨k,r2⟩:=aIV d ok rm p;have i:=d.J9 (u:=k);have hd:=bO ok (p:=p);have j:∀y∈l.map (D2 sp),BS.LH y.AX:=by intro y hy;obtain⟨z,_,rfl⟩:=Bb.1 hy;exact xj
  obtain⟨h',G',⟨g,_⟩,D,B⟩:=i.step (A':=b.a.elem (b.L7 p) sp (BS.Nk sp nm) (l.map (D2 sp))) (R:=λh'=>Cj cx 240 [Pt a 0,I (b.L7 p),I sp,.str (BS.Nk sp nm),E] (h++[.map (ft 11)]++k) (.tuple [I (b.a.len+1),I 0]) h'/\True) (λn m ps C=>by obtain⟨h',n',m',O9,r,wp,A,_⟩:=aIE C rm.WB (rm.len (by omega)) hd hs hu (by rw[Ao];have:=hl.1;omega) j (nm:=BS.Nk sp nm);exact⟨h',n',m',O9,⟨r,trivial⟩,wp,A⟩)
  have f:=f96 (h:=h') hu (λy hy=>by obtain⟨z,hz,rfl⟩:=Bb.1 hy;rw[mh];have:=(hl.2 z hz).2;have:AN=140737488355328:=rfl;omega) (by rw[Ao];have:=hl.1;omega) sp (BS.Nk sp nm);have em:Az (.CT [I 0,I 0,S [],ff] [(0,1),(1,1),(2,1),(3,1)]) [I (b.a.len+1),I sp,.str (BS.Nk sp nm),.bool (Q6 sp (BS.Nk sp nm) (l.map (D2 sp)))]=some (.agg (b.IJ nm l sp).row):=by rw[lf];unfold BS.IJ;rw[if_pos hs]
  refine⟨h',G',?_,by unfold BS.HL;rw[if_pos hs];exact D,(w.Eg.trans d.Eg).trans B⟩;have s:¬sp<0:=by have:=hs.1;omega
  have q:¬7<sp:=by have:=hs.2;omega
  have hlen:=λ(y:Item)=>@Item.Es y;rw[Ac,gE,ŝ];by_cases h2:sp=2
  .have e:BS.Nk sp nm=DS nm Oh:=by unfold BS.Nk;rw[if_pos h2]
   rw[e] at g f em;subst h2;simp only[abS,↓reduceIte,B6,KG,(Iv w).call,s,q,Ho,v.call,Jc,CK,(aNf nm).AQ rfl rfl,d.l0,r2.call,i.l0,Dn,g.call,ne_eq,f.call,em,hlen]
  .have e:BS.Nk sp nm=nm:=by unfold BS.Nk;rw[if_neg h2]
   rw[e] at g f em;simp only[abS,↓reduceIte,B6,KG,(Iv w).call,s,q,Ho,v.call,h2,d.l0,r2.call,i.l0,Dn,g.call,ne_eq,CK,f.call,em,hlen]
 .refine⟨h,G,?_,by unfold BS.HL;rw[if_neg hs];exact w,.refl⟩;have e:b.IJ nm l sp=Item.zero:=by unfold BS.IJ;rw[if_neg hs]
  rw[e,RP,Ac,gE,ŝ];unfold BS.LH at hs;by_cases h1:sp<0;.simp only[abS,↓reduceIte,B6,(Iv w).call,h1,Jc]
  .simp only[abS,↓reduceIte,B6,(Iv w).call,h1,Ho,show 7<sp by omega,Jc]
end
section
variable{h h':Ae}{bi a:Nat}{o c t:Aa}{G G' F:Nat->Prop}{b:BS}{x:Int}{m:Nat}
def Cn{k:Nat}{v:Aa}:Ey h (BN bi G) (put h bi k v) (BN bi G):=⟨by rw[Mm];exact Ab _,λi _ hn=>CW λe=>hn (.inl e),λ_ h=> .inl h⟩
def BX.put{k:Nat}{v o' c' t':Aa}{b':BS}(w:BX h bi a o c t G b)(e:(Qu a b o c t).set k v=Qu a b' o' c' t')(ea:b'.a=b.a)(ho:DK b'.Au o')(ht:Hh b'.tm t'):BX (Am.put h bi k v) bi a o' c' t' G b':=
 ⟨by rw[Io w.hb,e];exact AB w.lt,ho,ht,by rw[ea];exact w.w.Ep λi hi=>CW λe=>w.nb (e▸hi),w.nb⟩
def BX.Pb{u:Aa}{l:List Item}(w:BX h bi a o c t G b)(hu:DK l u):BX (Am.put h bi 2 u) bi a u c t G {b with Au:=l}:=w.put rfl rfl hu w.t
def BX.TJ{u:Aa}{l:List B2}(w:BX h bi a o c t G b):BX (Am.put h bi 3 u) bi a o u t G {b with AW:=l}:=w.put rfl rfl w.o w.t
def BX.st{k:Nat}{v v0:Aa}(w:BX h bi a o c t G b)(hk:(Qu a b o c t)[k]?=some v0)(d:v.cells=[v]):CR h 1 (Pt bi k) v=some (Am.put h bi k v):=At.store (v:=v0) ⟨_,w.hb,hk⟩ d
variable{nm:Ad}{av:Aa}{l:List A9}{r:List Aa}{sp p:Int}
def aNU(w:BX h bi a o c t G b)(ok:Fa b)(rm:Cw b (m+4))(hr:gY nm av r)(A:Bj l av)(hl:Fx l)(hn:nm.length<=1000)(sp:Int):
  ∃h' o' G',Cj cx 188 [Pt bi 0,.func (.func 189) [Pt bi 0] [],.agg r,I sp] h (I (b.MQ sp)) h'/\BX h' bi a o' c t G' (b.CX nm l sp)/\Ey h (BN bi G) h' (BN bi G'):=by
 obtain⟨y,q⟩:=ŵ w ok rm 0;have v:=w.J9 (u:=y);obtain⟨h2,C,r2,n,j⟩:=aFp (m:=m+1) v ok (rm.le (by omega)) hr A hl hn (b.place 0).1 sp;have HM:=hr;obtain⟨N,M,L,K,J,H,E,D,jU,wF,rfl⟩:=hr;have ho:=rm.Au;by_cases hs:BS.LH sp
 .have f:=(VG (nm:=nm) (at_:=l) (p:=(b.place 0).1) ok hs).1;have tH:=Rc (m:=m+1) (nm:=nm) (sp:=sp) (p:=(b.place 0).1) (rm.le (by omega)) hl;have aBK:(b.IJ nm l sp).node=b.a.len+1:=by unfold BS.IJ;rw[if_pos hs]
  have Zg:¬(b.a.len+1=0):=by unfold Ar.len;omega
  have RA:(b.HL nm l sp (b.place 0).1).Au=b.Au:=by unfold BS.HL;rw[if_pos hs]
  obtain⟨h3,B,z,k,s⟩:=tG (x:=b.a.len+1) (p:=(b.place 0).1) (bf:=(b.place 0).2) n f tH;obtain⟨v4,d,g⟩:=f95 k.sO (by simp only[RA];omega) (b.IJ nm l sp);refine⟨Am.put h3 bi 2 v4,v4,B,?_,?_,((w.Eg.trans j).trans s).trans Cn⟩
  .have i:b.MQ sp=b.a.len+1:=by unfold BS.MQ;rw[if_pos hs]
   rw[Ac,gD,Ŝ,i];simp only[abS,Nat.reduceAdd,↓reduceIte,CD,KG,q.call,show(189:Nat)<=99999 by decide,r2.call,aBK,Zg,ne_eq,z.call];have e:=@Item.Wb (b.IJ nm l sp);rw[aBK] at e;rw[<-e] at d;simp only[e] at d⊢;simp only[d.call,Ce]
  .have:=k.Pb g;unfold BS.CX;rw[if_pos hs];exact this
 .refine⟨h2,o,C,?_,?_,w.Eg.trans j⟩
  .have e:b.IJ nm l sp=Item.zero:=by unfold BS.IJ;rw[if_neg hs]
   have i:b.MQ sp=0:=by unfold BS.MQ;rw[if_neg hs]
   rw[e,RP] at r2;rw[Ac,gD,Ŝ,i];simp only[abS,Nat.reduceAdd,↓reduceIte,CD,KG,q.call,show(189:Nat)<=99999 by decide,r2.call,ne_eq,CK]
  .have:b.CX nm l sp=b.HL nm l sp (b.place 0).1:=by unfold BS.CX BS.HL;rw[if_neg hs,if_neg hs]
   rw[this];exact n
def aIX(w:BX h bi a o c t G b)(ok:Fa b)(rm:Cw b (m+4))(hr:gY nm av r)(e:Bj l av)(hl:Fx l)(hn:nm.length<=1000)(sp:Int):
  ∃h' o' G',Cj cx 110 [Pt bi 0,.agg r,I sp] h (I (b.MQ sp)) h'/\BX h' bi a o' c t G' (b.CX nm l sp)/\Ey h (BN bi G) h' (BN bi G'):=by
 obtain⟨h',o',G',d,w',x'⟩:=aNU w ok rm hr e hl hn sp;refine⟨h',o',G',?_,w',x'⟩;obtain⟨s,q,n,k,j,i,g,f,jU,wF,rfl⟩:=hr;rw[Ac,xJ,aDz];simp only[abS,(Iv w).call,d.call]
def ŷ(w:BX h bi a o c t G b)(ok:Fa b)(rm:Cw b (m+4))(hr:gY nm av r)(e:Bj l av)(hl:Fx l)(hn:nm.length<=1000):
  ∃h' o' G',Cj cx 67 [Pt bi 0,.agg r] h (I (b.a.len+1)) h'/\BX h' bi a o' c t G' (b.CX nm l 1)/\Ey h (BN bi G) h' (BN bi G'):=by
 obtain⟨h',o',G',d,w',x'⟩:=aIX w ok rm hr e hl hn 1;refine⟨h',o',G',?_,w',x'⟩;have f:b.MQ 1=b.a.len+1:=by unfold BS.MQ;rw[if_pos Lm]
 rw[f] at d;obtain⟨u,s,q,n,k,j,i,g,jU,wF,rfl⟩:=hr;rw[Ac,yq,t67];simp only[Ce,d.call]
end
def Ec(l:List B2)(v:Aa):Prop:=∃fs:List C9,fs.map (·.c)=l/\EV fs v
def VH{U Z:Type}{f:U->Z}{q:Z->Bool}{l:List U}:Ax q (l.map f)=Ax (λx=>q (f x)) l:=by unfold Ax;rw[<-T6,List.findIdx?_map,Ao];rfl
def tI{U Z:Type}{f:U->Z}{l:List U}{k:Nat}:(Bs l k).map f=Bs (l.map f) k:=by unfold Bs;simp
def Ÿ{fs:List C9}:since fs=fA (fs.map (·.c)):=by unfold since fA;rw[VH];rfl
def YG{n:Int}{fs:List C9}:KY n fs=Fo n (fs.map (·.c)):=by unfold KY Fo;rw[VH];rfl
def db{nm:Ad}{fs:List C9}:RM nm fs=D7 nm (fs.map (·.c)):=by
 unfold RM D7;rw[<-T6];generalize fs.reverse=r;induction r with
 |nil=>rfl
 |cons x r ih=>simp only[Bd,wR,O1,ih,Ao]
def aIY{e:B2}{fs:List C9}:ZJ e fs=wX e (fs.map (·.c)).reverse:=by
 unfold ZJ;rw[<-T6];generalize fs.reverse=r;induction r with
 |nil=>rfl
 |cons x r ih=>simp only[Bd,Ľ,wX,ih]
def aIZ{e:B2}{fs:List C9}:Sk e fs=mR e (fs.map (·.c)).reverse:=by
 unfold Sk;rw[<-T6];generalize fs.reverse=r;induction r with
 |nil=>rfl
 |cons x r ih=>simp only[Bd,rS,mR,ih,Ao]
def P_{e:B2}{d:C9}{fs:List C9}(he:d.c=e):(Sl e fs++[d]).map (·.c)=mS e (fs.map (·.c)):=by
 unfold Sl mS;rw[aIY,aIZ,Cb,aP1,he];split;.rw[tI]
 .rfl
def dd{fs:List C9}:(fs.take (Ia fs)).map (·.c)=EX (fs.map (·.c)):=by unfold EX Ia;rw[Hr,Ÿ]
def Ź{l:List B2}{fs:List C9}(e:fs.map (·.c)=l)(h:∀x∈l,x.Aq.length<=1000):∀x∈fs,qo x:=by intro x hx;have:=h x.c (by rw[<-e];exact Bb.2 ⟨x,hx,rfl⟩);unfold qo;omega
section
variable{h h':Ae}{bi a:Nat}{o c t:Aa}{G G' F:Nat->Prop}{b:BS}{x:Int}{m:Nat}
variable{nm:Ad}{av:Aa}{l:List A9}{r:List Aa}{sp p:Int}
def aNV(w:BX h bi a o c t G b)(hc:Ec b.AW c)(ok:Fa b)(rm:Cw b (m+5))(hr:gY nm av r)(g:Bj l av)(hl:Fx l)(hn:nm.length<=1000):
  ∃h' o' c' G',Cj cx 200 [Pt bi 0,.agg r] h (I (b.a.len+1)) h'/\BX h' bi a o' c' t G' (b.Fw nm l)/\Ec (b.Fw nm l).AW c'/\Ey h (BN bi G) h' (BN bi G'):=by
 obtain⟨h1,n,q,k,i,j⟩:=ŷ (m:=m+1) w ok (rm.le (by omega)) hr g hl hn;obtain⟨fs,d,hf⟩:=hc;have ha:=rm.AW;have IZ:fs.length=b.AW.length:=by rw[<-d,Ao]
 obtain⟨u,s,lD,r2,hu⟩:=f30 (h:=h1) (id:=bi) (o:=3) (l:=fs) ⟨c,i.my,hf⟩ (by omega) (Ź d λx hx=>((rm.D0 x hx).2).1) (e:=⟨⟨b.a.len+1,nm,l⟩,av,g⟩) (by unfold qo;have:=hl.1;simp only;omega);refine⟨_,n,u,q,?_,i.TJ (u:=u),?_,j.trans Cn⟩
 .obtain⟨E,D,C,B,A,z,y,v,jU,wF,rfl⟩:=hr;have Zg:¬(b.a.len+1=0):=by unfold Ar.len;omega
  have f:Cj cx 243 [Pt bi 3,.agg [I (b.a.len+1),.str nm,av]] h1 (.tuple []) (put h1 bi 3 u):=r2;have pz:av.cells=[av]:=Br.cells g;rw[Ac,zF,aEi];simp only[abS,Nat.reduceLeDiff,↓reduceIte,B6,k.call,Zg,ne_eq,pz,f.call]
 .refine⟨_,?_,hu⟩;rw[P_ lD,d];unfold BS.Fw;simp only;rw[Gi]
end
def aI0:∀x:Fin 64,(BitVec.ofInt 8 192|||BitVec.ofInt 8 (x.val:Int)).toNat=192+x.val:=by decide
def aI1:∀x:Fin 32,(BitVec.ofInt 8 224|||BitVec.ofInt 8 (x.val:Int)).toNat=224+x.val:=by decide
def aI2:∀x:Fin 16,(BitVec.ofInt 8 240|||BitVec.ofInt 8 (x.val:Int)).toNat=240+x.val:=by decide
def aI3:∀x:Fin 64,(BitVec.ofInt 8 128|||BitVec.ofInt 8 (x.val:Int)).toNat=128+x.val:=by decide
def aI4:∀x:Fin 256,(BitVec.ofInt 8 (x.val:Int)&&& BitVec.ofInt 8 63).toNat=x.val%64:=by decide
def de{a b:Int}:Az (.int .or) [.int .u8 a,.int .u8 b]=some (.int .u8 (IntKind.u8.wrap (BitVec.ofInt 8 a|||BitVec.ofInt 8 b).toNat)):=rfl
def aFq{a b:Int}:Az (.int .and) [.int .u8 a,.int .u8 b]=some (.int .u8 (IntKind.u8.wrap (BitVec.ofInt 8 a&&& BitVec.ofInt 8 b).toNat)):=rfl
def Q_{x:Nat}(h:x<64):Az (.int .or) [.int .u8 192,.int .u8 (x:Int)]=some (.int .u8 ((192+x:Nat):Int)):=by rw[de,aI0 ⟨x,h⟩,IntKind.wrap_u8];congr 2;simp only;omega
def nF{x:Nat}(h:x<32):Az (.int .or) [.int .u8 224,.int .u8 (x:Int)]=some (.int .u8 ((224+x:Nat):Int)):=by rw[de,aI1 ⟨x,h⟩,IntKind.wrap_u8];congr 2;simp only;omega
def R_{x:Nat}(h:x<16):Az (.int .or) [.int .u8 240,.int .u8 (x:Int)]=some (.int .u8 ((240+x:Nat):Int)):=by rw[de,aI2 ⟨x,h⟩,IntKind.wrap_u8];congr 2;simp only;omega
def LL{x:Nat}(h:x<64):Az (.int .or) [.int .u8 128,.int .u8 (x:Int)]=some (.int .u8 ((128+x:Nat):Int)):=by rw[de,aI3 ⟨x,h⟩,IntKind.wrap_u8];congr 2;simp only;omega
def LM{x:Nat}(h:x<256):Az (.int .and) [.int .u8 (x:Int),.int .u8 63]=some (.int .u8 ((x%64:Nat):Int)):=by rw[aFq,aI4 ⟨x,h⟩,IntKind.wrap_u8];congr 2;simp only;omega
def WN{n:Nat}:Az (.int .shr) [.int .i32 (n:Int),.int .u64 6]=some (.int .i32 ((n/64:Nat):Int)):=by rw[show Az (.int .shr) [.int .i32 (n:Int),.int .u64 6]=some (.int .i32 ((n:Int).fdiv 64)) from rfl,QP _ (by omega)];rfl
def YH{n:Nat}:Az (.int .shr) [.int .i32 (n:Int),.int .u64 12]=some (.int .i32 ((n/4096:Nat):Int)):=by rw[show Az (.int .shr) [.int .i32 (n:Int),.int .u64 12]=some (.int .i32 ((n:Int).fdiv 4096)) from rfl,QP _ (by omega)];rfl
def S_{n:Nat}:Az (.int .shr) [.int .i32 (n:Int),.int .u64 18]=some (.int .i32 ((n/262144:Nat):Int)):=by rw[show Az (.int .shr) [.int .i32 (n:Int),.int .u64 18]=some (.int .i32 ((n:Int).fdiv 262144)) from rfl,QP _ (by omega)];rfl
def YI{k:IntKind}{n:Nat}:Az (.conv .u8) [.int k (n:Int)]=some (.int .u8 ((n%256:Nat):Int)):=by rw[Wy,IntKind.wrap_u8];congr 2
def gZ{n:Int}:Az (.conv .u32) [.int .i32 n]=some (.int .u32 (n%4294967296)):=by rw[Wy,IntKind.wrap_u32]
def ą{n:Nat}(h:n<256):((UInt8.ofNat n).toNat:Int)=(n:Int):=by rw[UInt8.toNat_ofNat'];congr 1;omega
def Ć(b:UInt8):Aa:= .int .u8 (b.toNat:Int)
def K9{h:Ae}{bs:Ad}(hb:bs≠[])(hl:bs.length<=8):Gt h 1 1 .slnil (.sl 1 (C2 bs))=some (h++[.cells (bs.map Ć)],.C7 h.length 0 bs.length 1):=by
 have IZ:∀bs:Ad,(C2 bs).flatten=bs.map Ć:=by
  intro bs;induction bs with
  |nil=>rfl
  |cons c bs ih=>show[Ć c]++(C2 bs).flatten=_;rw[ih];rfl
 cases bs with
 |nil=>exact absurd rfl hb
 |cons c bs=>
  have hm:AN=140737488355328:=rfl;have hlen:(C2 (c::bs)).length=(c::bs).length:=by simp[C2]
  have e:C2 (c::bs)=[.int .u8 c.toNat]::C2 bs:=rfl;have a:GX h 1 (.sl 1 (C2 (c::bs)))=some (C2 (c::bs)):=by simp[GX]
  unfold Gt;rw[a,e];simp only
  rw[<-e,if_pos (by rw[hlen];omega),IZ,hlen]
def aNX{h:Ae}(r:Int)(hr: -2147483648<=r/\r<=2147483647):Cj cx 111 [.slnil,.int .i32 r] h (.C7 h.length 0 (MR r).length 1) (h++[.cells ((MR r).map Ć)]):=by
 have one:∀{a:Nat} (h1:a<256),Az (.Cl 1) [.int .u8 (a:Int)]=some (.sl 1 (C2 [UInt8.ofNat a])):=by intro a h1;simp only[C2,Bd,Dz,ą h1];rfl
 have Mt:∀{a b:Nat} (h1:a<256) (h2:b<256),Az (.Cl 1) [.int .u8 (a:Int),.int .u8 (b:Int)]=some (.sl 1 (C2 [UInt8.ofNat a,UInt8.ofNat b])):=by intro a b h1 h2;simp only[C2,Bd,Dz,ą h1,ą h2];rfl
 have aH:∀{a b c:Nat} (h1:a<256) (h2:b<256) (h3:c<256),Az (.Cl 1) [.int .u8 (a:Int),.int .u8 (b:Int),.int .u8 (c:Int)]=some (.sl 1 (C2 [UInt8.ofNat a,UInt8.ofNat b,UInt8.ofNat c])):=by intro a b c h1 h2 h3;simp only[C2,Bd,Dz,ą h1,ą h2,ą h3];rfl
 have four:∀{a b c d:Nat} (h1:a<256) (h2:b<256) (h3:c<256) (f:d<256),Az (.Cl 1) [.int .u8 (a:Int),.int .u8 (b:Int),.int .u8 (c:Int),.int .u8 (d:Int)]=some (.sl 1 (C2 [UInt8.ofNat a,UInt8.ofNat b,UInt8.ofNat c,UInt8.ofNat d])):=by intro a b c d h1 h2 h3 f;simp only[C2,Bd,Dz,ą h1,ą h2,ą h3,ą f];rfl
 have bad:Az (.Cl 1) [.int .u8 239,.int .u8 191,.int .u8 189]=some (.sl 1 (C2 [239,191,189])):=rfl;rw[Ac,xK,aDA];simp only[Ce,gZ];by_cases h0:0<=r
 .obtain⟨n,rfl⟩:=T5 h0;have em:(n:Int)%4294967296=(n:Int):=by omega
  rw[em];by_cases p:n<128
  .have e:MR (n:Int)=[UInt8.ofNat n]:=by unfold MR;rw[if_pos (by omega)];rfl
   have i:n%256=n:=by omega
   rw[e];simp only[Ce,eI,show(n:Int)<=127 by omega,YI,i,one (show n<256 by omega),K9 (bs:=[UInt8.ofNat n]) (by simp) (by simp)]
  .have aFr:Cj cx 190 [.slnil,.int .i32 (n:Int)] h (.C7 h.length 0 (MR (n:Int)).length 1) (h++[.cells ((MR (n:Int)).map Ć)]):=by
    rw[Ac,gF,Ş];simp only[Ce,gZ,em];by_cases o:n<2048
    .have e:MR (n:Int)=[UInt8.ofNat (192+n/64),UInt8.ofNat (128+n%64)]:=by unfold MR;rw[if_neg (by omega),if_pos (by omega)];rfl
     rw[e];have a1:n/64%256=n/64:=by omega
     have a2:n%256%64=n%64:=by omega
     simp only[Ce,eI,show(n:Int)<=2047 by omega,WN,YI,a1,Q_ (show n/64<64 by omega),LM (show n%256<256 by omega),a2,LL (show n%64<64 by omega),Mt (show 192+n/64<256 by omega) (show 128+n%64<256 by omega),K9 (bs:=[UInt8.ofNat (192+n/64),UInt8.ofNat (128+n%64)]) (by simp) (by simp)]
    .by_cases m:n<65536/\¬(55296<=n/\n<57344)
     .have e:MR (n:Int)=[UInt8.ofNat (224+n/4096),UInt8.ofNat (128+n/64%64),UInt8.ofNat (128+n%64)]:=by unfold MR;rw[if_neg (by omega),if_neg (by omega),if_pos (by omega)];rfl
      rw[e];have a1:n/4096%256=n/4096:=by omega
      have a2:n/64%256%64=n/64%64:=by omega
      have a3:n%256%64=n%64:=by omega
      have g:=K9 (h:=h) (bs:=[UInt8.ofNat (224+n/4096),UInt8.ofNat (128+n/64%64),UInt8.ofNat (128+n%64)]) (by simp) (by simp);have t3:=aH (show 224+n/4096<256 by omega) (show 128+n/64%64<256 by omega) (show 128+n%64<256 by omega);by_cases l:n<55296;.simp only[abS,show¬(n:Int)<=2047 by omega,show(n:Int)<55296 by omega,WN,YH,YI,a1,nF (show n/4096<32 by omega),LM (show n/64%256<256 by omega),a2,LL (show n/64%64<64 by omega),LM (show n%256<256 by omega),a3,LL (show n%64<64 by omega),t3,g]
      .simp only[abS,show¬(n:Int)<=2047 by omega,show¬(n:Int)<55296 by omega,show(57343:Int)<n by omega,show(n:Int)<=65535 by omega,WN,YH,YI,a1,nF (show n/4096<32 by omega),LM (show n/64%256<256 by omega),a2,LL (show n/64%64<64 by omega),LM (show n%256<256 by omega),a3,LL (show n%64<64 by omega),t3,g]
     .by_cases k:65536<=n/\n<=1114111
      .have e:MR (n:Int)=[UInt8.ofNat (240+n/262144),UInt8.ofNat (128+n/4096%64),UInt8.ofNat (128+n/64%64),UInt8.ofNat (128+n%64)]:=by unfold MR;rw[if_neg (by omega),if_neg (by omega),if_neg (by omega),if_pos (by omega)];rfl
       rw[e];have a0:n/262144%256=n/262144:=by omega
       have a1:n/4096%256%64=n/4096%64:=by omega
       have a2:n/64%256%64=n/64%64:=by omega
       have a3:n%256%64=n%64:=by omega
       have g:=K9 (h:=h) (bs:=[UInt8.ofNat (240+n/262144),UInt8.ofNat (128+n/4096%64),UInt8.ofNat (128+n/64%64),UInt8.ofNat (128+n%64)]) (by simp) (by simp);have t4:=four (show 240+n/262144<256 by omega) (show 128+n/4096%64<256 by omega) (show 128+n/64%64<256 by omega) (show 128+n%64<256 by omega);simp only[abS,show¬(n:Int)<=2047 by omega,show¬(n:Int)<55296 by omega,show(57343:Int)<n by omega,show¬(n:Int)<=65535 by omega,show(65535:Int)<n by omega,show(n:Int)<=1114111 by omega,WN,YH,S_,YI,a0,R_ (show n/262144<16 by omega),LM (show n/4096%256<256 by omega),a1,LL (show n/4096%64<64 by omega),LM (show n/64%256<256 by omega),a2,LL (show n/64%64<64 by omega),LM (show n%256<256 by omega),a3,LL (show n%64<64 by omega),t4,g]
      .have e:MR (n:Int)=[239,191,189]:=by unfold MR;rw[if_neg (by omega),if_neg (by omega),if_neg (by omega),if_neg (by omega)]
       rw[e];have g:=K9 (h:=h) (bs:=[239,191,189]) (by simp) (by simp);by_cases j:n<65536;.simp only[abS,show¬(n:Int)<=2047 by omega,show¬(n:Int)<55296 by omega,show¬(57343:Int)<n by omega,show¬(65535:Int)<n by omega,bad,g]
       .simp only[abS,show¬(n:Int)<=2047 by omega,show¬(n:Int)<55296 by omega,show(57343:Int)<n by omega,show¬(n:Int)<=65535 by omega,show(65535:Int)<n by omega,show¬(n:Int)<=1114111 by omega,bad,g]
   simp only[abS,show¬(n:Int)<=127 by omega,aFr.call]
 .have e:MR r=[239,191,189]:=by unfold MR;rw[if_neg (by omega),if_neg (by omega),if_neg (by omega),if_neg (by omega)]
  have g:=K9 (h:=h) (bs:=[239,191,189]) (by simp) (by simp);have aFr:Cj cx 190 [.slnil,.int .i32 r] h (.C7 h.length 0 (MR r).length 1) (h++[.cells ((MR r).map Ć)]):=by rw[e,Ac,gF,Ş];simp only[abS,gZ,show¬(r%4294967296)<=2047 by omega,show¬(r%4294967296)<55296 by omega,show(57343:Int)<r%4294967296 by omega,show¬(r%4294967296)<=65535 by omega,show(65535:Int)<r%4294967296 by omega,show¬(r%4294967296)<=1114111 by omega,bad,g]
  simp only[abS,show¬(r%4294967296)<=127 by omega,aFr.call]
def nG(r:Int):(MR r).length<=4:=by unfold MR;split<;>(try split)<;>(try split)<;>(try split)<;>simp
def T_{l:List Int}{bf:Int}(hb:bf≠0->bf∈l):∃i,i<=l.length/\(bf=0->i=l.length)/\(bf≠0->Cg (λy=>decide (bf=y)) 0 l=(i:Int))/\UG l bf=if i=0 then none else l[i-1]?:=by
 by_cases h0:bf=0
 .refine⟨l.length,Ab _,λ_=>rfl,λh=>absurd h0 h,?_⟩;unfold UG;rw[if_pos h0,Rx];split;.rename_i h;rw[D4 (by omega)]
  .rfl
 .obtain⟨k,j,e,g,d,f⟩:=gX (hb h0);refine⟨k,by omega,λh=>absurd h h0,λ_=>e,?_⟩;unfold UG;rw[if_neg h0,d,Rx,Av,BG (by omega)];split;.rename_i h;subst h;simp
  .rw[Co];rw[if_pos (by omega)]
def df{s u:Ad}(h:s.length+u.length<=2000000000):Az (.str .add) [.str s,.str u]=some (.str (s++u)):=by
 have:s.length+u.length<=9223372036854775807:=by omega
 simp[Az,jX,this]
def bY:∀s:Ad,(C2 s).flatten=s.map Ć
 |[]=>rfl
 |c::s=>by show[Ć c]++(C2 s).flatten=_;rw[bY s];rfl
section
variable{h h':Ae}{bi a:Nat}{o c t:Aa}{G G' F:Nat->Prop}{b:BS}{x:Int}{m:Nat}
variable{nm:Ad}{av:Aa}{l:List A9}{r:List Aa}{sp p:Int}
def dg{k d:Int}{s:Ad}(ok:Fa b)(rm:Cw b (m+1))(hk:k=5\/k=6)(hd:b.a.has d/\(b.a.nd d).kind=1)(hs:s.length<=100000):Fa {b with a:=b.a.add {kind:=k,CB:=d,data:=s}}/\Cw {b with a:=b.a.add {kind:=k,CB:=d,data:=s}} m:=
 ⟨ok.IK (fC ok.ok (by unfold Ar.len;omega) hd hk) Qn,rm.F8 (k:=1) (LJ (AU _) hs)⟩
def aNY(w:BX h bi a o c t G b)(ok:Fa b)(rm:Cw b (m+5))(r:Int)(hr: -2147483648<=r/\r<=2147483647):
  ∃h' G',Cj cx 69 [Pt bi 0,.int .i32 r] h (.tuple []) h'/\BX h' bi a o c t G' (b.Mo r)/\Ey h (BN bi G) h' (BN bi G'):=by
 obtain⟨f,D⟩:=ŵ w ok rm 0;obtain⟨hp,hbf⟩:=Yn ok (t:=0) (.inl rfl);have w1:=w.J9 (u:=f);unfold BS.Mo;generalize(b.place 0).1=p at*;generalize(b.place 0).2=bf at*;obtain⟨K,V,d,r2,Z,_⟩:=Wj w1 ok rm p;have w2:=w1.J9 (u:=d);have x2:Ey h (BN bi G) (h++f++d) (BN bi G):=w.Eg.trans w1.Eg;unfold BS.Sp;by_cases hk:(b.a.nd p).kind=4\/(b.a.nd p).kind=2;rotate_left
 .refine⟨_,G,?_,?_,x2⟩;.have k4:¬(b.a.nd p).kind=4:=λe=>hk (.inl e);have k2:¬(b.a.nd p).kind=2:=λe=>hk (.inr e);rw[Ac,Yt,t69];simp only[abS,(Iv w).call,D.call,r2.call,ne_eq,k4,k2]
  .rw[if_neg hk];exact w2
 rw[if_pos hk];obtain⟨i,hi,H,qm,hpv⟩:=T_ (l:=(b.a.nd p).Bv) (bf:=bf) (λh=>by have:=hbf h;have h2:=(ok.ok.Gq bf this.1 (by rw[this.2];have:=hp.1;omega)).2;rwa [this.2] at h2);rw[hpv];have Xm:=rm.WB.Bv ok.ok p;have J:=aFj (h:=h++f++d) (x:=bf) Z.YF Xm;have g:=aNX (h:=h++f++d) r hr;have qb:=nG r;generalize hs:MR r=s at*;have f3:Lt (h++f++d++[.cells (s.map Ć)]) (.C7 (h++f++d).length 0 s.length 1)=some (h++f++d++[.DD],.sl 1 (C2 s)):=by have IZ:=bY s;have:=Og (h:=h++f++d++[.cells (s.map Ć)]) (id:=(h++f++d).length) (z:=1) (As:=C2 s) (by intro q hq;obtain⟨y,_,rfl⟩:=Bb.1 hq;rfl) (by rw[IZ];simp);rw[show(C2 s).length=s.length by simp[C2]] at this;rw[this];congr 2;rw[BI _ _ (Ab _),DM];rfl
 have M:Az .Zo [.sl 1 (C2 s)]=some (.str s):=by simp[Az,cW,X8]
 have A:=w2.J9 (u:=[.DD]);have x3:Ey h (BN bi G) (h++f++d++[.DD]) (BN bi G):=x2.trans w2.Eg;have U_:=ok.ok.CB p hp;have new:∀h3,(∃u,h3=h++f++d++[.DD]++u)->∃h' L G',Cj cx 113 [Pt a 0,I (b.a.nd p).CB,.str s] h3 (.tuple [I (b.a.len+1),I 0]) L/\Cj cx 99 [Pt bi 0,I (b.a.len+1),I p,I bf] L (.tuple []) h'/\BX h' bi a o c t G' {b with a:=(b.a.add {kind:=5,CB:=(b.a.nd p).CB,data:=s}).Gr (b.a.len+1) p bf}/\Ey h (BN bi G) h' (BN bi G'):=by
  rintro _ ⟨u,rfl⟩;have w4:=A.J9 (u:=u);obtain⟨L,G4,⟨C,_⟩,w5,x5⟩:=w4.step (A':=b.a.add (MX 5 (b.a.nd p).CB s).x) (R:=λh'=>Cj cx 113 [Pt a 0,I (b.a.nd p).CB,.str s] (h++f++d++[.DD]++u) (.tuple [I (b.a.len+1),I 0]) h'/\True) (λn m ps U=>by obtain⟨h',r,wp,o1,l1⟩:=aNF (s:=s) U rm.WB (by have:=rm.n;unfold Ar.len;omega) U_;exact⟨h',_,_,_,⟨r,trivial⟩,wp,U.Rf rfl o1 l1⟩)
  obtain⟨ok5,rm5⟩:=dg (m:=m) (k:=5) (s:=s) ok (rm.le (by omega)) (.inl rfl) U_ (by omega);obtain⟨h',G',B,P,N⟩:=tG (x:=b.a.len+1) (p:=p) (bf:=bf) w5 ok5 rm5;exact⟨h',L,G',C,B,P,(x3.trans A.Eg).trans (x5.trans N)⟩
 have kl:=(Z.YF (h:=h++f++d)).len;have Rs:i<=1000000000:=by omega
 by_cases hz:i=0
 .subst hz;obtain⟨h',L,G',C,B,P,N⟩:=new (h++f++d++[.DD]) ⟨[],by simp⟩;simp only[↓reduceIte];refine⟨h',G',?_,P,N⟩;rw[Ac,Yt,t69];rcases hk with hk|hk<;>by_cases h0:bf=0
  all_goals first|(rw[<-H h0] at kl;simp only[abS,(Iv w).call,D.call,r2.call,hk,ne_eq,CK,show¬(2:Int)=4 by decide,kl,BA h0,g.call,f3,M,show¬(0:Int)<((0:Nat):Int) by decide,A.l0,C.call,CK,B.call];done)|(rw[qm h0] at J;simp only[abS,(Iv w).call,D.call,r2.call,hk,ne_eq,CK,show¬(2:Int)=4 by decide,kl,h0,g.call,f3,M,show¬(0:Int)<((0:Nat):Int) by decide,A.l0,C.call,CK,B.call,J.call])
 .obtain⟨j,rfl⟩:∃j,i=j+1:=⟨i-1,by omega⟩;have hj:j<(b.a.nd p).Bv.length:=by omega
  rw[if_neg hz,Mc,An hj];simp only
  have ht:=ok.ok.Rt p hp _ (Ay hj);obtain⟨q,T,e2⟩:=(Z.YF (h:=h++f++d++[.DD])).at_ j hj;obtain⟨K7,V7,W,Y,_,_⟩:=Wj A ok rm (b.a.nd p).Bv[j];have O:=A.J9 (u:=W);obtain⟨q',S,Q⟩:=(Z.YF (h:=h++f++d++[.DD]++W)).at_ j hj;rw[T,Bx] at S;subst S;have X:Az (.int .sub) [I ((j+1:Nat):Int),I 1]=some (I (j:Int)):=by have:=NN (n:=j+1) (by omega) (by omega);simpa using this
  generalize hte:(b.a.nd p).Bv[j]=v at*;by_cases E:(b.a.nd v).kind=5
  .rw[if_pos E];have qi:=rm.data v;obtain⟨h8,G8,⟨r8,_⟩,w8,x8⟩:=O.step (A':=b.a.Tu v ((b.a.nd v).data++s)) (R:=λh'=>Cj cx 112 [Pt a 0,I v,.str ((b.a.nd v).data++s)] (h++f++d++[.DD]++W) (I 0) h'/\True) (λn m ps U=>by obtain⟨h',O9,r,wp,xp⟩:=aNG (s:=(b.a.nd v).data++s) U rm.WB ht.1 E;exact⟨h',n,m,O9,⟨r,trivial⟩,wp,xp⟩)
   refine⟨h8,G8,?_,w8,(x3.trans A.Eg).trans x8⟩;rw[Ac,Yt,t69];rcases hk with hk|hk<;>by_cases h0:bf=0
   all_goals first|(rw[<-H h0] at kl;simp only[abS,(Iv w).call,D.call,r2.call,hk,ne_eq,CK,show¬(2:Int)=4 by decide,kl,BA h0,g.call,f3,M,show(0:Int)<((j+1:Nat):Int) by omega,X,T,e2,Y.call,E,O.l0,Q,df (show(b.a.nd v).data.length+s.length<=2000000000 by omega),CK,r8.call];done)|(rw[qm h0] at J;simp only[abS,(Iv w).call,D.call,r2.call,hk,ne_eq,CK,show¬(2:Int)=4 by decide,kl,h0,g.call,f3,M,show(0:Int)<((j+1:Nat):Int) by omega,X,T,e2,Y.call,E,O.l0,Q,df (show(b.a.nd v).data.length+s.length<=2000000000 by omega),CK,r8.call,J.call])
  .rw[if_neg E];obtain⟨h',L,G',C,B,P,N⟩:=new _ ⟨W,rfl⟩;refine⟨h',G',?_,P,N⟩;rw[Ac,Yt,t69];rcases hk with hk|hk<;>by_cases h0:bf=0
   all_goals first|(rw[<-H h0] at kl;simp only[abS,(Iv w).call,D.call,r2.call,hk,ne_eq,CK,show¬(2:Int)=4 by decide,kl,BA h0,g.call,f3,M,show(0:Int)<((j+1:Nat):Int) by omega,X,T,e2,Y.call,E,O.l0,C.call,CK,B.call];done)|(rw[qm h0] at J;simp only[abS,(Iv w).call,D.call,r2.call,hk,ne_eq,CK,show¬(2:Int)=4 by decide,kl,h0,g.call,f3,M,show(0:Int)<((j+1:Nat):Int) by omega,X,T,e2,Y.call,E,O.l0,C.call,CK,B.call,J.call])
def YJ{s:Ad}{p bf x:Int}{h0 h1:Ae}(hstart:(¬x=0/\p=x/\bf=0/\h1=h0)\/(x=0/\Cj cx 96 [Pt bi 0,I 0] h0 (.tuple [I p,I bf]) h1))
  (w0:BX h0 bi a o c t G b) (i:Ey h0 (BN bi G) h1 (BN bi G)) (w:BX h1 bi a o c t G b) (ok:Fa b) (rm:Cw b (m+1)) (hs:s.length<=100000):
  ∃h' G',Cj cx 59 [Pt bi 0,.str s,I x] h0 (.tuple []) h'/\BX h' bi a o c t G' {b with a:=BS.I5 b.a s p bf}/\Ey h0 (BN bi G) h' (BN bi G'):=by
 obtain⟨K,V,q,r2,L,_⟩:=Wj w ok rm p;have d:=w.J9 (u:=q);unfold BS.I5;by_cases hk:Pz (b.a.nd p).kind
 .rw[if_pos hk];have hp:b.a.has p:=by
   by_cases hp:b.a.has p;.exact hp
   .rw[Py hp] at hk;unfold Pz at hk;simp at hk
  have U_:=ok.ok.CB p hp;obtain⟨M,N,⟨y,_⟩,H,D⟩:=d.step (A':=b.a.add (MX 6 (b.a.nd p).CB s).x) (R:=λh'=>Cj cx 98 [Pt a 0,I (b.a.nd p).CB,.str s] (h1++q) (.tuple [I (b.a.len+1),I 0]) h'/\True) (λn m ps j=>by obtain⟨h',r,wp,J,l1⟩:=aIu (s:=s) j rm.WB (by have:=rm.n;unfold Ar.len;omega) U_;exact⟨h',_,_,_,⟨r,trivial⟩,wp,j.Rf rfl J l1⟩)
  obtain⟨g,e⟩:=dg (m:=m) (k:=6) (s:=s) ok rm (.inr rfl) U_ hs;obtain⟨h',G',v,E,C⟩:=tG (x:=b.a.len+1) (p:=p) (bf:=bf) H g e;refine⟨h',G',?_,E,(i.trans w.Eg).trans (D.trans C)⟩;rw[Ac,sN,t59];rcases hstart with⟨hx,rfl,rfl,rfl⟩|⟨hx,f⟩
  .rcases hk with hk|hk|hk<;>simp only[abS,(Iv w0).call,r2.call,hk,ne_eq,CK,show¬(2:Int)=1 by decide,show¬(4:Int)=1 by decide,show¬(4:Int)=2 by decide,d.l0,y.call,v.call,hx]
  .rcases hk with hk|hk|hk<;>simp only[abS,(Iv w0).call,r2.call,hk,ne_eq,CK,show¬(2:Int)=1 by decide,show¬(4:Int)=1 by decide,show¬(4:Int)=2 by decide,d.l0,y.call,v.call,BA hx,f.call]
 .rw[if_neg hk];refine⟨_,G,?_,d,i.trans w.Eg⟩;unfold Pz at hk;have B:¬(b.a.nd p).kind=1:=by omega
  have A:¬(b.a.nd p).kind=2:=by omega
  have z:¬(b.a.nd p).kind=4:=by omega
  rw[Ac,sN,t59];rcases hstart with⟨hx,rfl,rfl,rfl⟩|⟨hx,f⟩
  .simp only[abS,(Iv w0).call,r2.call,ne_eq,B,A,z,hx]
  .simp only[abS,(Iv w0).call,r2.call,ne_eq,B,A,z,BA hx,f.call]
def aN0(w:BX h bi a o c t G b)(ok:Fa b)(rm:Cw b (m+1))(s:Ad)(hs:s.length<=100000)(x:Int):
  ∃h' G',Cj cx 59 [Pt bi 0,.str s,I x] h (.tuple []) h'/\BX h' bi a o c t G' (b.DA s x)/\Ey h (BN bi G) h' (BN bi G'):=by
 unfold BS.DA;by_cases h0:x=0;.rw[if_pos h0];obtain⟨d,e⟩:=ŵ w ok rm 0;exact YJ (p:=(b.place 0).1) (bf:=(b.place 0).2) (.inr ⟨h0,e⟩) w w.Eg (w.J9 (u:=d)) ok rm hs
 .rw[if_neg h0];exact YJ (p:=x) (bf:=0) (.inl ⟨h0,rfl,rfl,rfl⟩) w .refl w ok rm hs
def aN1(w:BX h bi a o c t G b)(ok:Fa b)(rm:Cw b (m+4))(hr:gY nm av r)(z:Bj l av)(hl:Fx l)(hn:nm.length<=1000)(st:Int):
  ∃h' o' G',Cj cx 71 [Pt bi 0,.agg r,I st] h (.tuple []) h'/\BX h' bi a o' c t G' (b.Df nm l st)/\Ey h (BN bi G) h' (BN bi G'):=by
 obtain⟨h1,e,f,y,d,j⟩:=ŷ w ok rm hr z hl hn;have u:=d.st (k:=18) (v:= I st) rfl rfl;have i:BX (put h1 bi 18 (I st)) bi a e c t f {b.CX nm l 1 with sw:=st}:=d.put rfl rfl d.o d.t;have s:=i.st (k:=5) (v:= I (b.CX nm l 1).mode) rfl rfl;have g:BX (put (put h1 bi 18 (I st)) bi 5 (I (b.CX nm l 1).mode)) bi a e c t f {b.CX nm l 1 with sw:=st,GM:=(b.CX nm l 1).mode}:=i.put rfl rfl d.o d.t;have q:=g.st (k:=4) (v:=I 8) rfl rfl;have n:BX (put (put (put h1 bi 18 (I st)) bi 5 (I (b.CX nm l 1).mode)) bi 4 (I 8)) bi a e c t f (b.Df nm l st):=g.put rfl rfl d.o d.t;refine⟨_,e,f,?_,n,((j.trans Cn).trans Cn).trans Cn⟩;obtain⟨K,J,H,E,D,C,B,A,jU,wF,rfl⟩:=hr;rw[Ac,yu,t71];simp only[Ce,(Iv w).call,y.call,d.l4,u,s,q]
def aN2(w:BX h bi a o c t G b)(rm:Cw b m):
  ∃h' o',Cj cx 198 [Pt bi 0] h (.tuple []) h'/\BX h' bi a o' c t G b.Cs/\Ey h (BN bi G) h' (BN bi G):=by
 have ho:=rm.Au;have d:=aIh w.sA (show b.Au.length<=1000000000 by omega) 3 (v:= .sl 1 ([wP].map B1)) (ws:=[wP]) CO (by decide);have em:Az (.Cl 1) [S [112]]=some (.sl 1 ([wP].map B1)):=Ef (ws:=[wP]) rfl (by decide);unfold BS.Cs;by_cases hs:Hc (AA [wP]) (Gg 3) b.Au.reverse=true;.rw[if_pos hs];rw[hs] at d;obtain⟨i,r2,dK⟩:=aFf w.sO (by omega) wP;have e:=w.Pb dK;have EC:=eS (b:=Cz wP) (a:=C8) (l:=b.Au);obtain⟨f,g,Ti⟩:=f66 e.sO (by simp only;omega) (w:= .sl 1 ([wP].map B1)) (ws:=[wP]) CO (by decide);refine⟨_,f,?_,e.Pb Ti,Cn.trans Cn⟩;rw[Ac,gG,ş];simp only[Ce,(Iv w).call,em,d.call,r2.call,g.call]
 .rw[if_neg hs];rw[show Hc (AA [wP]) (Gg 3) b.Au.reverse=false by simpa using hs] at d;refine⟨h,o,?_,w,.refl⟩;rw[Ac,gG,ş];simp only[Ce,(Iv w).call,em,d.call]
end
section
variable{h h':Ae}{bi a:Nat}{o c t:Aa}{G G' F:Nat->Prop}{b:BS}{x:Int}{m:Nat}
variable{nm:Ad}{av:Aa}{l:List A9}{r:List Aa}{sp p:Int}
def TK{U:Type}{l:List U}{n:Nat}(hn:n<l.length):(l.take (n+1)).reverse=l[n]::(l.take n).reverse:=by rw[AV hn,DZ];rfl
def aI5(w:BX h bi a o c t G b)(rm:Cw b m)(nm:Ad):
  ∃h' o',Cj cx 82 [Pt bi 0,.str nm] h (.tuple []) h'/\BX h' bi a o' c t G (b.Dg nm)/\Ey h (BN bi G) h' (BN bi G):=by
 have ho:=rm.Au;have PI:Ev cx 82 [Pt bi 0,.str nm] h λr h'=>r= .tuple []/\∃o',BX h' bi a o' c t G (b.Dg nm)/\Ey h (BN bi G) h' (BN bi G):=by
  unfold Ev;rw[zb,t82];simp only[abS,(Iv w).call,(UO w.sA).call,D1 (show -9223372036854775808<=(b.Au.length:Int)-1 by omega) (show(b.Au.length:Int)-1<9223372036854775808 by omega)];refine BO (λn:Nat=>[I ((n:Int)-1)]) (λn h1=>n<=b.Au.length/\(b.Au.reverse.find? λi=>AA [nm] i||AL i)=((b.Au.take n).reverse.find? λi=>AA [nm] i||AL i)/\h1=h) (λn=>n) b.Au.length rfl ⟨Ab _,by rw[Bf],rfl⟩ ?_;rintro n h1 ⟨hn,ha,rfl⟩;cases n with
  |zero=>
   have e:b.Dg nm=b:=by unfold BS.Dg;rw[ha];rfl
   simp only[abS,show¬(0:Int)<=((0:Nat):Int)-1 by omega];exact⟨_,rfl,rfl,o,by rw[e];exact w,.refl⟩
  |succ n=>
   have hlt:n<b.Au.length:=by omega
   have i1:((n+1:Nat):Int)-1=(n:Int):=by omega
   have j:=We w.sA (n:Int);rw[HD hlt] at j;have em:Az (.Cl 1) [.str nm]=some (.sl 1 ([nm].map B1)):=Ef (ws:=[nm]) rfl (by simp);have r2:=mz (ws:=[nm]) CO (by simp) b.Au[n] h1;rw[TK hlt,H5] at ha;generalize hi:b.Au[n]=i at*;rw[Item.row] at r2;simp only[abS,KG,i1,show(0:Int)<=(n:Int) by omega,j.call,em];have f:Cj cx 155 [.agg i.row,.sl 1 ([nm].map B1)] h1 (.bool (AA [nm] i)) h1:=r2;rw[f.call,Oe,Dr];refine⟨λh2=>?_,λh2=>?_⟩
   .obtain⟨u,s,dK⟩:=aFf w.sO (by omega) nm;have g:=w.Pb dK;have EC:=eS (b:=Cz nm) (a:=C8) (l:=b.Au);obtain⟨k,q,Ti⟩:=aIl g.sO (by simp only;omega) i.node;simp only[Ce,s.call,q.call];refine⟨_,rfl,rfl,k,?_,Cn.trans Cn⟩;have e:b.Dg nm={b with Au:=GK i.node (DN (Cz nm) C8 b.Au)}:=by unfold BS.Dg;rw[ha];simp only[h2,PO,BM]
    rw[e];exact g.Pb Ti
   .simp only[h2,JE] at ha;simp only[(Ŭ i.AX i.name).AQ rfl rfl];rw[Oe,Dr];refine⟨λh3=>?_,λh3=>?_⟩
    .have d:AL i=true:=h3;rw[d] at ha;have e:b.Dg nm=b:=by unfold BS.Dg;rw[ha];simp only[h2,Cp,DU]
     simp only[Ce];exact⟨_,rfl,rfl,o,by rw[e];exact w,.refl⟩
    .have d:AL i=false:=h3;rw[d] at ha;simp only[Ce,D1 (show -9223372036854775808<=(n:Int)-1 by omega) (show(n:Int)-1<9223372036854775808 by omega)];exact Bk.next n rfl ⟨by omega,ha,rfl⟩ (by omega)
 obtain⟨r,h',hr,rfl,o',w',x'⟩:=PI.ret;exact⟨h',o',hr,w',x'⟩
def aI6(w:BX h bi a o c t G b)(rm:Cw b m){k:Nat}(hk:k<=b.Au.length):Cj cx 220 [Pt bi 0,I (k:Int)] h (I (BS.Q8 (b.Au.take k))) h:=by
 have ho:=rm.Au;rw[Ac,zW,aEz];simp only[Ce,D1 (show -9223372036854775808<=(k:Int)-1 by omega) (show(k:Int)-1<9223372036854775808 by omega)];refine BO (λn:Nat=>[I 0,I ((n:Int)-1)]) (λn h1=>n<=k/\((b.Au.take k).reverse.find? λi=>AA [AF] i||AA [Jf] i)=((b.Au.take n).reverse.find? λi=>AA [AF] i||AA [Jf] i)/\h1=h) (λn=>n) k rfl ⟨Ab _,rfl,rfl⟩ ?_;rintro n h1 ⟨hn,ha,rfl⟩;cases n with
 |zero=>simp only[abS,show¬(0:Int)<=((0:Nat):Int)-1 by omega];unfold BS.Q8;rw[ha];rfl
 |succ n=>
  have hlt:n<b.Au.length:=by omega
  have i1:((n+1:Nat):Int)-1=(n:Int):=by omega
  have f:=We w.sA (n:Int);rw[HD hlt] at f;have e:Az (.Cl 1) [S AF]=some (.sl 1 ([AF].map B1)):=Ef (ws:=[AF]) rfl (by decide);have d:Az (.Cl 1) [S Jf]=some (.sl 1 ([Jf].map B1)):=Ef (ws:=[Jf]) rfl (by decide);have r2:=mz (ws:=[AF]) CO (by decide) b.Au[n] h1;have g:=mz (ws:=[Jf]) CO (by decide) b.Au[n] h1;rw[TK hlt,H5] at ha;simp only[abS,i1,show(0:Int)<=(n:Int) by omega,f.call,e,r2.call,d,g.call,D1 (show -9223372036854775808<=(n:Int)-1 by omega) (show(n:Int)-1<9223372036854775808 by omega)];rw[Dr];refine⟨λh2=>?_,λh2=>?_⟩;.simp only[h2,PO] at ha;unfold BS.Q8;rw[ha];simp only[h2,BM]
  .simp only[h2,JE] at ha;rw[Dr];refine⟨λh3=>?_,λh3=>?_⟩;.rw[h3] at ha;unfold BS.Q8;rw[ha];simp only[h2,Cp,DU]
   .rw[h3] at ha;exact Bk.next n rfl ⟨by omega,ha,rfl⟩ (by omega)
def tJ(r:Ad×Int):List Aa:=[.str r.1,I r.2]
def hZ{z:Nat}{As:List (List Aa)}{args:List Aa}(e:args=As.map Aa.agg)(hz:∀r∈As,r.length=z)(hl:As.length*z<=16777216):Az (.Cl z) args=some (.sl z As):=by
 subst e;have f:(As.map Aa.agg).all (λa=>a.cells.length==z)=true:=by simp[Aa.cells];exact hz
 have d:(As.map Aa.agg).map (·.cells)=As:=by rw[List.map_map];exact List.map_id _
 rw[wJ,f,d];simp[hl]
def V_{args:List Aa}(e:args=(Ib.map tJ).map Aa.agg):Az (.Cl 2) args=some (.sl 2 (Ib.map tJ)):=hZ e (λr hr=>by obtain⟨x,_,rfl⟩:=Bb.1 hr;rfl) (by decide)
def aI7:Cj cx 219 [] h (.sl 2 (Ib.map tJ)) h:=by rw[Ac,zV,aEy];simp only[abS,Nat.reduceLeDiff,↓reduceIte,B6];exact(BQ (λz=>bC z λv=>[v]=[Aa.sl 2 (Ib.map tJ)]) (V_ rfl)).mpr (by rw[LC])
def bZ{s:Ad}{i:Item}:AA [s] i=decide (i.AX=1/\i.name=s):=by unfold AA;simp
def nc{i:Item}{k:Nat}:b.He i k=match Ib.find? λr=>AA [r.1] i with
  |some r=>some r.2
  |none=>if AA [Kq] i then some (BS.Q8 (b.Au.take k)) else if AA [qp,qq] i&&decide (0<k) then some 15 else if AA [AF] i then some (b.tm.getLast?.getD 7) else if AA [J1] i&&decide (0<k) then some 4 else if AA [JM] i then some (if b.head=0 then 3 else 6) else if k=0 then some 7 else none:=by
 unfold BS.He;by_cases hs:i.AX=1
 .rw[if_pos hs];have e:(λr:Ad×Int=>AA [r.1] i)=λr=>decide (r.1=i.name):=by funext r;rw[bZ,DX];exact⟨λh=>h.2.symm,λh=>⟨hs,h.symm⟩⟩
  rw[e];cases hf:Ib.find? λr=>decide (r.1=i.name) with
  |some r=>rfl
  |none=>simp only[AA,hs,M9,Aw,DY,LW,A4,Ci]
 .rw[if_neg hs];have e:(λr:Ad×Int=>AA [r.1] i)=λ_=>false:=by funext r;rw[bZ,Ak (λh=>hs h.1)]
  rw[e];have d:Ib.find? (λ_=>false)=none:=by decide
  rw[d];simp only[AA,hs,uX,Ho,Cp,DU,Ze]
def aI8(w:BX h bi a o c t G b)(rm:Cw b m)(i:Item){k:Nat}(hk:k<=b.Au.length):Cj cx 164 [Pt bi 0,.agg i.row,I (k:Int)] h (.tuple [I ((b.He i k).getD 7),.bool (b.He i k).isSome]) h:=by
 have ho:=rm.Au;have ć:=rm.tm;have vQ:Br 2 (Ib.map tJ) (.sl 2 (Ib.map tJ)):= .mk;have C:=λws hw=>mz (ws:=ws) CO hw i h;rw[nc,Ac,yN,t164];have hlen:Ib.length=9:=rfl;have Q:=vQ.Fk;rw[hlen] at Q;simp only[Ce,↓reduceIte,KG,aI7.call,Q];refine BO (λn:Nat=>[I 0,ff,I (n:Int)]) (λn h1=>n<=9/\(Ib.find? λr=>AA [r.1] i)=((Ib.drop n).find? λr=>AA [r.1] i)/\h1=h) (λn=>9 -n) 0 rfl ⟨AU _,rfl,rfl⟩ ?_;rintro n h1 ⟨hn,ha,rfl⟩;rcases A6 n 9 with hlt|HK
 .have gS:n<Ib.length:=hlt;have em:Az (.Cl 1) [.str Ib[n].1]=some (.sl 1 ([Ib[n].1].map B1)):=Ef (ws:=[Ib[n].1]) rfl (by simp);rw[Ap gS,H5] at ha;simp only[Ce,Nat.reduceLeDiff,↓reduceIte,eI,show(n:Int)<((9:Nat):Int) by omega,vQ.Dl gS,tJ,em,(C [Ib[n].1] (by simp)).call,CI (show n<9223372036854775807 by omega)];rw[Dr];refine⟨λh2=>?_,λh2=>?_⟩;.rw[h2] at ha;rw[ha];simp
  .rw[h2] at ha;exact Bk.next (n+1) rfl ⟨hlt,ha,rfl⟩ (by omega)
 .have R:n=9:=by omega
  subst R;have ha:(Ib.find? λr=>AA [r.1] i)=none:=ha;rw[ha];have q:Az (.Cl 1) [S aXz]=some (.sl 1 ([Kq].map B1)):=Ef (ws:=[Kq]) rfl (by decide);have s:Az (.Cl 1) [S [116,100],S [116,104]]=some (.sl 1 ([qp,qq].map B1)):=Ef (ws:=[qp,qq]) rfl (by decide);have u:Az (.Cl 1) [S aWU]=some (.sl 1 ([AF].map B1)):=Ef (ws:=[AF]) rfl (by decide);have J:Az (.Cl 1) [S aWW]=some (.sl 1 ([J1].map B1)):=Ef (ws:=[J1]) rfl (by decide);have L:Az (.Cl 1) [S aWS]=some (.sl 1 ([JM].map B1)):=Ef (ws:=[JM]) rfl (by decide);have f:=C [Kq] (by decide);have d:=C [qp,qq] (by decide);have g:=C [AF] (by decide);have y:=C [J1] (by decide);have B:=C [JM] (by decide);have rs:=aI6 w rm hk;have lt:=(Hh.YF (h:=h1) w.t);have j:¬((9:Nat):Int)<((9:Nat):Int):=by decide
  have l6:=w.l6;have H:b.tm≠[]->∃p,Az (.int .sub) [I (b.tm.length:Int),I 1]=some (I ((b.tm.length-1:Nat):Int))/\Az (.F0 1) [t,I ((b.tm.length-1:Nat):Int)]=some p/\Bg h1 none p=some (I (b.tm.getLast?.getD 7)):=by intro hne;have hpos:=Cq.2 hne;obtain⟨p,E,D⟩:=lt.at_ (b.tm.length-1) (by omega);refine⟨p,NN hpos (by omega),E,?_⟩;rw[D,Rx,An (by omega)];rfl
  by_cases g1:AA [Kq] i=true;.rw[g1] at f;simp only[abS,↓reduceIte,j,q,f.call,rs.call,g1,E5,aPY]
  .have g1:AA [Kq] i=false:=by simpa using g1
   rw[g1] at f;by_cases A:0<k
   .have N:¬k=0:=by omega
    have z:¬(k:Int)=0:=by omega
    have v:(0:Int)<(k:Int):=by omega
    cases g2:AA [qp,qq] i<;>rw[g2] at d;rotate_left;.simp only[Ce,↓reduceIte,j,q,f.call,s,d.call,A,v,g1,Wa]
    cases g3:AA [AF] i<;>rw[g3] at g;rotate_left
    .by_cases ht:b.tm=[];.simp only[Ce,↓reduceIte,j,q,f.call,s,d.call,u,g.call,A,v,g1,Wa,l6,lt.len,ht,Int.natCast_zero,aAL,aRZ]
     .obtain⟨p,E,D,M⟩:=H ht;have I3:¬b.tm.length=0:=λe=>ht (IY.1 e);simp only[Ce,↓reduceIte,j,q,f.call,s,d.call,u,g.call,A,v,g1,Wa,l6,lt.len,show(0:Int)<(b.tm.length:Int) by omega,E,D,M]
    cases P:AA [J1] i<;>rw[P] at y;rotate_left;.simp only[Ce,↓reduceIte,j,q,f.call,s,d.call,u,g.call,J,y.call,A,v,g1,Wa]
    all_goals cases O:AA [JM] i<;>rw[O] at B
    all_goals first
     |simp only[Ce,↓reduceIte,j,q,f.call,s,d.call,u,g.call,J,y.call,L,B.call,A,N,z,v,g1,Wa];done
     |by_cases K:b.head=0
      .simp only[Ce,↓reduceIte,j,q,f.call,s,d.call,u,g.call,J,y.call,L,B.call,A,z,v,g1,Wa,w.l7,K]
      .simp only[Ce,↓reduceIte,j,q,f.call,s,d.call,u,g.call,J,y.call,L,B.call,A,z,v,g1,Wa,w.l7,K]
   .have N:k=0:=by omega
    subst N;have v:¬(0:Int)<((0:Nat):Int):=by decide
    have z:((0:Nat):Int)=0:=rfl;by_cases g3:AA [AF] i=true
    .rw[g3] at g;cases g2:AA [qp,qq] i<;>rw[g2] at d<;>by_cases ht:b.tm=[];all_goals first
      |simp only[Ce,↓reduceIte,j,q,f.call,s,d.call,u,g.call,z,g1,g3,Wa,l6,lt.len,ht,aAL,aRZ,Dw];done
      |obtain⟨p,E,D,M⟩:=H ht
       have I3:¬b.tm.length=0:=λe=>ht (IY.1 e);simp only[Ce,↓reduceIte,j,q,f.call,s,d.call,u,g.call,z,g1,g3,Wa,l6,lt.len,show(0:Int)<(b.tm.length:Int) by omega,E,D,M,Dw]
    .have g3:AA [AF] i=false:=by simpa using g3
     rw[g3] at g;cases g2:AA [qp,qq] i<;>rw[g2] at d<;>cases P:AA [J1] i<;>rw[P] at y<;>cases O:AA [JM] i<;>rw[O] at B<;>by_cases K:b.head=0;all_goals simp only[Ce,↓reduceIte,j,q,f.call,s,d.call,u,g.call,J,y.call,L,B.call,z,g1,g3,Wa,w.l7,K,Dw]
end
section
variable{h h':Ae}{bi a:Nat}{o c t:Aa}{G G' F:Nat->Prop}{b:BS}{x:Int}{m:Nat}
variable{nm:Ad}{av:Aa}{l:List A9}{r:List Aa}{sp p:Int}
def BX.aN4(w:BX h bi a o c t G b):Bg h (some 4) (Pt bi 10)=some (.agg b.ctx.row):=by simp only[Bg,w.hb];rfl
def BX.aI9(w:BX h bi a o c t G b)(v:Int):BX (Am.put h bi 4 (I v)) bi a o c t G {b with mode:=v}:=w.put rfl rfl w.o w.t
def Cw.mode{v:Int}(rm:Cw b m):Cw {b with mode:=v} m:=⟨rm.n,rm.at_,rm.data,rm.Au,rm.AW,rm.tm,rm.D0,rm.o7⟩
def aFs(w:BX h bi a o c t G b)(rm:Cw b m):
  ∃h',Cj cx 88 [Pt bi 0] h (.tuple []) h'/\BX h' bi a o c t G b.Js/\Ey h (BN bi G) h' (BN bi G):=by
 have ho:=rm.Au;have PI:Ev cx 88 [Pt bi 0] h λr h'=>r= .tuple []/\BX h' bi a o c t G b.Js/\Ey h (BN bi G) h' (BN bi G):=by
  unfold Ev;have g:=w.aI9 7;rw[zg,t88];simp only[abS,(Iv w).call,w.st (k:=4) (v:=I 7) rfl rfl,(UO g.sA).call,D1 (show -9223372036854775808<=(b.Au.length:Int)-1 by omega) (show(b.Au.length:Int)-1<9223372036854775808 by omega)];refine BO (λn:Nat=>[I ((n:Int)-1)]) (λn h1=>n<=b.Au.length/\b.HU b.Au.length=b.HU n/\h1=Am.put h bi 4 (I 7)) (λn=>n) b.Au.length rfl ⟨Ab _,rfl,rfl⟩ ?_;rintro n h1 ⟨hn,ha,rfl⟩;cases n with
  |zero=>
   have e:b.Js={b with mode:=7}:=by unfold BS.Js;rw[ha];rfl
   simp only[abS,show¬(0:Int)<=((0:Nat):Int)-1 by omega];exact⟨_,rfl,rfl,by rw[e];exact g,Cn⟩
  |succ n=>
   have hlt:n<b.Au.length:=by omega
   have i1:((n+1:Nat):Int)-1=(n:Int):=by omega
   have j:=We g.sA (n:Int);rw[show DT ({b with mode:=7}:BS).Au (n:Int)=b.Au[n] from HD hlt] at j;have r2:∀i:Item,Cj cx 164 [Pt bi 0,.agg i.row,I (n:Int)] (Am.put h bi 4 (I 7)) (.tuple [I ((b.He i n).getD 7),.bool (b.He i n).isSome]) (Am.put h bi 4 (I 7)):=λi=>aI8 g rm.mode i (k:=n) (by simp only;omega);have d:=r2 (b.DO n);have Jl:∀v,CR (Am.put h bi 4 (I 7)) 1 (Pt bi 4) (I v)=some (Am.put (Am.put h bi 4 (I 7)) bi 4 (I v)):=λv=>g.st (k:=4) rfl rfl;have e:b.HU (n+1)=match b.He (b.DO n) n with|some m=>m|none=>b.HU n:=rfl
   rw[e] at ha;have jW:=g.l9;have hlc:=g.aN4;have XK:=D1 (show -9223372036854775808<=(n:Int)-1 by omega) (show(n:Int)-1<9223372036854775808 by omega);cases hm:b.He (b.DO n) n with
   |none=>
    rw[hm] at d ha;by_cases h0:n=0
    .have jq:((n:Int)=0)=True:=BA (by omega);cases hf:b.KH with
     |true=>
      have f:b.DO n=b.ctx:=by unfold BS.DO;rw[if_pos ⟨h0,hf⟩]
      rw[f] at d;rw[show({b with mode:=7}:BS).KH=true from hf] at jW;simp only[Ce,KG,i1,j.call,jW,hlc,d.call,Jl,Wa,show(0:Int)<=(n:Int) by omega,jq,XK];exact Bk.next n rfl ⟨by omega,ha,rfl⟩ (by omega)
     |false=>
      have f:b.DO n=b.Au[n]:=by unfold BS.DO;rw[if_neg (by simp[hf]),AG,An hlt];rfl
      rw[f] at d;rw[show({b with mode:=7}:BS).KH=false from hf] at jW;simp only[Ce,KG,i1,j.call,jW,hlc,d.call,Jl,Wa,show(0:Int)<=(n:Int) by omega,jq,XK];exact Bk.next n rfl ⟨by omega,ha,rfl⟩ (by omega)
    .have f:b.DO n=b.Au[n]:=by unfold BS.DO;rw[if_neg (by simp[h0]),AG,An hlt];rfl
     rw[f] at d;have jq:¬(n:Int)=0:=by omega
     simp only[Ce,KG,i1,j.call,d.call,Jl,Wa,show(0:Int)<=(n:Int) by omega,jq,XK];exact Bk.next n rfl ⟨by omega,ha,rfl⟩ (by omega)
   |some v=>
    rw[hm] at d ha;have e:b.Js={b with mode:=v}:=by unfold BS.Js;rw[ha]
    have q:BX (Am.put (Am.put h bi 4 (I 7)) bi 4 (I v)) bi a o c t G b.Js:=by rw[e];exact g.aI9 v
    by_cases h0:n=0
    .have jq:((n:Int)=0)=True:=BA (by omega);cases hf:b.KH with
     |true=>
      have f:b.DO n=b.ctx:=by unfold BS.DO;rw[if_pos ⟨h0,hf⟩]
      rw[f] at d;rw[show({b with mode:=7}:BS).KH=true from hf] at jW;simp only[Ce,KG,i1,j.call,jW,hlc,d.call,Jl,Wa,show(0:Int)<=(n:Int) by omega,jq];exact⟨_,rfl,rfl,q,Cn.trans Cn⟩
     |false=>
      have f:b.DO n=b.Au[n]:=by unfold BS.DO;rw[if_neg (by simp[hf]),AG,An hlt];rfl
      rw[f] at d;rw[show({b with mode:=7}:BS).KH=false from hf] at jW;simp only[Ce,KG,i1,j.call,jW,hlc,d.call,Jl,Wa,show(0:Int)<=(n:Int) by omega,jq];exact⟨_,rfl,rfl,q,Cn.trans Cn⟩
    .have f:b.DO n=b.Au[n]:=by unfold BS.DO;rw[if_neg (by simp[h0]),AG,An hlt];rfl
     rw[f] at d;have jq:¬(n:Int)=0:=by omega
     simp only[Ce,KG,i1,j.call,d.call,Jl,Wa,show(0:Int)<=(n:Int) by omega,jq];exact⟨_,rfl,rfl,q,Cn.trans Cn⟩
 obtain⟨r,h',hr,rfl,w',x'⟩:=PI.ret;exact⟨h',hr,w',x'⟩
def ng{h0 u:Ae}{V:Aa}{L:List A9}{N:Nat}(n:N=h0.length)(i:Lr (h0++u) V L)(j:Up N V)(hb:L.length<=1000000000)(y:A9):
  ∃f d,Gt (h0++u) 3 40 V (.sl 3 [y.row])=some (h0++f,d)/\Lr (h0++f) d (L++[y])/\Up N d:=by
 subst n;have g:AN=140737488355328:=rfl;rcases i with⟨rfl,rfl⟩|⟨id,rfl,hc,hl⟩
 .refine⟨u++[.cells (([y]:List A9).map A9.row).flatten],.C7 (h0++u).length 0 1 3,by rw[<-AT];rfl,.inr ⟨(h0++u).length,rfl,by simp,by simp⟩,λid k e=>by injection e with e;rw[<-e,Ai];omega⟩
 .have Iy:h0.length<=id:=j id _ rfl;have hg:=OW (b:=40) (As:=L.map A9.row) (r2:=[y.row]) (v:= .sl 3 [y.row]) (aFh L) (by decide) hc .mk (by simp) (by rw[Ao];simp;omega);rw[Ao] at hg;have e:(h0++u).set id .DD++[.cells (L.map A9.row++[y.row]).flatten]=h0++(u.set (id-h0.length) .DD++[.cells ((L++[y]).map A9.row).flatten]):=by rw[BI _ _ Iy,AT,Cb];rfl
  rw[e] at hg;have lJ:(h0++(u.set (id-h0.length) EE.DD++[.cells ((L++[y]).map A9.row).flatten]))=(h0++u.set (id-h0.length) EE.DD)++[.cells ((L++[y]).map A9.row).flatten]:=by rw[AT]
  have wD:(h0++u.set (id-h0.length) EE.DD).length=(h0++u).length:=by simp
  refine⟨_,_,hg,.inr ⟨(h0++u).length,by simp,?_,?_⟩,λid k e=>by injection e with e;rw[<-e,Ai];omega⟩;.rw[lJ,<-wD,Bi (Ab _),DM];rfl
  .rw[lJ];simp only[Ai,BY,AE,AY];omega
def aJa(y c:A9)(h:Ae):Cj cx 245 [.agg c.row,.B4 y.row] h (.bool (decide (Fq ⟨0,y.name,y.value⟩=Fq c))) h:=by
 rw[Ac,ao,aEJ,A9.row,A9.row];simp only[Ce];refine⟨λh1=>?_,λh1=>?_⟩;.congr 2;rw[DX];simp[Fq,h1];exact rj
 .rw[Ak (λe=>h1 (by simp[Fq] at e;exact e.1.symm))]
def A9.nh{y:A9}:(⟨0,y.name,y.value⟩:A9).row=[I 0,.str y.name,.str y.value]:=rfl
def UR(k:Int×Ad):∀{l out:List A9},(Gu out l).any (λz=>decide (k=Fq z))=(out++l).any λz=>decide (k=Fq z)
 |[],out=>by simp[Gu]
 |y::l,out=>by
  rw[Gu];split
  .rename_i h;rw[UR k,List.any_append,List.any_append,SH];by_cases hk:k=Fq y;.subst hk;rw[h];rfl
   .simp[hk]
  .rw[UR k,AT];rfl
def W_(k:Int×Ad)(l:List A9):(Di l).any (λz=>decide (k=Fq z))=l.any λz=>decide (k=Fq z):=UR k
def US{l:List A9}{y:A9}:Di (l++[y])=if(Di l).any (λz=>decide (Fq y=Fq z)) then Di l else Di l++[y]:=YD
def aN5(w:BX h bi a o c t G b)(ok:Fa b)(rm:Cw b (m+1000))(hr:gY nm av r)(D:Bj l av)(hl:Fx l)(x:Int):
  ∃h' G',Cj cx 205 [Pt bi 0,.agg r,I x] h (.tuple []) h'/\BX h' bi a o c t G' (b.GN l x)/\Ey h (BN bi G) h' (BN bi G'):=by
 obtain⟨K1,V1,d,C,_,_⟩:=Wj w ok rm x;have f:=w.J9 (u:=d);obtain⟨Z,Y,X,W,U,T,S,Q,jU,wF,rfl⟩:=hr;have A:Ey h (BN bi G) (h++d) (BN bi G):=w.Eg;by_cases hk:(b.a.nd x).kind=4;rotate_left;.refine⟨h++d,G,?_,by unfold BS.GN;rw[if_neg hk];exact f,A⟩;rw[Ac,gH,Š];simp only[abS,↓reduceIte,(Iv w).call,C.call,ne_eq,hk]
 obtain⟨K2,V2,B,r2,_,g,i⟩:=Wj f ok rm x;have w2:=f.J9 (u:=B);have x2:Ey h (BN bi G) (h++d++B) (BN bi G):=A.trans f.Eg;have hx:b.a.has x:=by
  by_cases hp:b.a.has x;.exact hp
  .rw[Py hp] at hk;simp at hk
 have S5:=rm.at_ x;have vP:=hl.1;have PI:Ev cx 205 [Pt bi 0,.agg [Z,.str nm,Y,X,W,U,T,S,av,Q,jU,wF],I x] h λr h'=>r= .tuple []/\∃G',BX h' bi a o c t G' (b.GN l x)/\Ey h (BN bi G) h' (BN bi G'):=by
  unfold Ev;rw[gH,Š];have hvl:=Br.Fk D;simp only[abS,↓reduceIte,(Iv w).call,C.call,r2.call,ne_eq,hk,hvl];refine BO (λs:Aa×Nat=>[s.1,I (s.2:Int)]) (λs h1=>∃u L,h1=h++d++u/\s.2<=l.length/\Lr h1 s.1 L/\Up (h++d).length s.1/\Di L=Di ((b.a.nd x).Aq++BS.plain (l.take s.2))/\(∀y∈L,BS.LH y.AX)/\L.length<=(b.a.nd x).Aq.length+s.2) (λs=>l.length-s.2) (V2,0) rfl ⟨B,(b.a.nd x).Aq,rfl,AU _,g,i,?_,?_,by simp⟩ ?_;.simp[BS.plain]
  .exact λy hy=>(ok.ok.Ub x hx).xe y hy
  rintro⟨V,n⟩ h1 ⟨u,L,rfl,hn,g,i,v,hs,EC⟩;simp only at hn g i v EC;rcases A6 n l.length with hlt|HK
  .have H:=Br.Dl (k:= .i64) D hlt;rw[A9.row] at H;have j:=aBC g.in_ (by omega) (F:= .func (.func 245) [] [.B4 l[n].row]) (q:=λc=>decide (Fq ⟨0,l[n].name,l[n].value⟩=Fq c)) ⟨_,_,rfl,by decide,λc=>aJa l[n] c _⟩;rw[A9.row] at j;obtain⟨P,V',g1,g2,g3⟩:=ng (N:=(h++d).length) rfl g i (by omega) ⟨0,l[n].name,l[n].value⟩;rw[A9.nh] at g1;have em:Az (.Cl 3) [.agg [I 0,.str l[n].name,.str l[n].value]]=some (.sl 3 [[I 0,.str l[n].name,.str l[n].value]]):=rfl;have J:Di ((b.a.nd x).Aq++BS.plain (l.take (n+1)))=Di (L++[⟨0,l[n].name,l[n].value⟩]):=by rw[AV hlt,BS.plain,Cb,<-AT,aP1,US,US,v];rfl
   have E:Di (L++[⟨0,l[n].name,l[n].value⟩])=if L.any (λz=>decide (Fq ⟨0,l[n].name,l[n].value⟩=Fq z)) then Di L else Di L++[⟨0,l[n].name,l[n].value⟩]:=by rw[US,W_]
   simp only[abS,Nat.reduceLeDiff,↓reduceIte,B6,show(n:Int)<(l.length:Int) by omega,H,j.call,em,g1,CI (show n<9223372036854775807 by omega)];rw[Dr];refine⟨λh2=>?_,λh2=>?_⟩
   .refine Bk.next (V',n+1) rfl ⟨P,_,rfl,hlt,g2,g3,J.symm,?_,by simp;omega⟩ (by simp only;omega);intro y hy;rcases Aj.1 hy with hy|hy
    .exact hs y hy
    .simp at hy;subst hy;exact⟨by simp only;omega,by simp only;omega⟩
   .have h2:(L.any λz=>decide (Fq ⟨0,l[n].name,l[n].value⟩=Fq z))=true:=by simpa using h2
    rw[if_pos h2] at E;exact Bk.next (V,n+1) rfl ⟨u,L,rfl,hlt,g,i,by rw[J,E],hs,by simp only;omega⟩ (by simp only;omega)
  .have Rs:n=l.length:=by omega
   subst Rs;rw[Bf] at v;simp only[abS,↓reduceIte,show¬(l.length:Int)<(l.length:Int) by omega,(f.J9 (u:=u)).l0];obtain⟨h3,G3,j,O,K⟩:=(f.J9 (u:=u)).step (A':=b.a.MS x L) (R:=λh3=>Cj cx 246 [Pt a 0,I x,V] (h++d++u) (I 0) h3) λn m ps M=>by obtain⟨h',O9,f1,f2,f3⟩:=aIw M rm.WB hx hk g.in_ (by omega) hs;exact⟨h',n,m,O9,f1,f2,f3⟩
   have e:b.GN l x={b with a:=b.a.MS x L}:=by unfold BS.GN;rw[if_pos hk];unfold Ar.MS;rw[v]
   simp only[Ce,j.call];refine⟨_,rfl,rfl,G3,?_,?_⟩;.rw[e];exact O
   .exact(A.trans f.Eg).trans K
 obtain⟨r,h',hr,rfl,G',w',x'⟩:=PI.ret;exact⟨h',G',hr,w',x'⟩
end
section
variable{h h':Ae}{bi a:Nat}{o c t:Aa}{G G' F:Nat->Prop}{b b':BS}{x:Int}{m:Nat}
variable{nm:Ad}{av:Aa}{l:List A9}{r:List Aa}{sp p:Int}
def Cw.sub(rm:Cw b m)(ha:b'.a=b.a)(ho:b'.Au.Sublist b.Au)(hc:b'.AW.Sublist b.AW)(ht:b'.tm.length<=b.tm.length):Cw b' m:=
 ⟨by rw[ha];exact rm.n,by rw[ha];exact rm.at_,by rw[ha];exact rm.data,by have:=rm.Au;have:=ho.length_le;omega,by have:=rm.AW;have:=hc.length_le;omega,by have:=rm.tm;omega,λe he=>rm.D0 e (hc.subset he),λi hi=>rm.o7 i (ho.subset hi)⟩
def ź{v:Aa}{l:List Int}(d:Hh l v)(hb:l.length<=1000000000)(h:Ae):∃u,Cj cx 32 [v] h u h/\Hh l u:=by
 have JG:Br 1 (l.map CY) v:=d;have hm:AN=140737488355328:=rfl;obtain⟨u,e,hu⟩:=Br.rK (l:=([]:List Int)) (f:=CY) (v:= .sl 1 []) (b:=8) .mk JG (by simp;omega);rcases JG with rfl|⟨rfl,h0⟩
 .refine⟨u,?_,hu⟩;rw[Ac,sH,t32];simp only[Ce,show Az (.FM false .sl) [.sl 1 (l.map CY),.slnil]=some (.bool false) from rfl,show Az (.Cl 1) []=some (.sl 1 []) from rfl,e]
 .refine⟨.slnil,?_,.inr ⟨rfl,h0⟩⟩;rw[Ac,sH,t32];simp only[Ce,show Az (.FM false .sl) [.slnil,.slnil]=some (.bool true) from rfl]
def BX.aFt{u:Aa}{l:List Int}(w:BX h bi a o c t G b)(hu:Hh l u):BX (Am.put h bi 6 u) bi a o c u G {b with tm:=l}:=w.put rfl rfl w.o hu
def X_:Az (.Cl 1) [S aWU]=some (.sl 1 ([AF].map B1)):=Ef (ws:=[AF]) rfl (by decide)
def aN6(w:BX h bi a o c t G b)(hc:Ec b.AW c)(rm:Cw b m):
  ∃h' o' c' t',Cj cx 75 [Pt bi 0] h (.tuple []) h'/\BX h' bi a o' c' t' G b.CN/\Ec b.CN.AW c'/\Ey h (BN bi G) h' (BN bi G):=by
 have ho:=rm.Au;have fE:=rm.AW;have ć:=rm.tm;have A:=Ů w.sA (by omega) AF;by_cases Kb:Ax (AA [AF]) b.Au<0;.refine⟨h,o,c,t,?_,by unfold BS.CN;rw[if_pos Kb];exact w,by unfold BS.CN;rw[if_pos Kb];exact hc,.refl⟩;rw[Ac,fI,t75];simp only[abS,(Iv w).call,A.call,Kb]
 obtain⟨y,r2,dK⟩:=aNr w.sO (by omega);have H:=w.Pb dK;have l1:(DN Eh C8 b.Au).length<=b.Au.length:=eS;obtain⟨f,K,Ti⟩:=f66 H.sO (by simp only;omega) (CO (ws:=[AF])) (by decide);have E:=H.Pb Ti;obtain⟨fs,Lx,hcs⟩:=hc;have IZ:fs.length=b.AW.length:=by rw[<-Lx,Ao]
 obtain⟨d,J,C⟩:=f65 (show UC _ bi 3 fs from⟨c,E.my,hcs⟩) (by omega);have j:=E.TJ (u:=d) (l:=EX b.AW);have aY:Ec (EX b.AW) d:=⟨_,by rw[dd,Lx],C⟩;have lt:=Br.Fk w.t;have l6:=j.l6;have e:b.CN=BS.Js {b with Au:=DN C8 (AA [AF]) (DN Eh C8 b.Au),AW:=EX b.AW,tm:=b.tm.dropLast}:=by unfold BS.CN;rw[if_neg Kb]
 have sO:(DN C8 (AA [AF]) (DN Eh C8 b.Au)).Sublist b.Au:=(C5 (p:=C8) (q:=AA [AF]) (l:=DN Eh C8 b.Au)).trans C5;have D:Ey h (BN bi G) (put (put (put h bi 2 y) bi 2 f) bi 3 d) (BN bi G):=(Cn.trans Cn).trans Cn;by_cases h0:b.tm=[]
 .have v:BX (put (put (put h bi 2 y) bi 2 f) bi 3 d) bi a f d t G {b with Au:=DN C8 (AA [AF]) (DN Eh C8 b.Au),AW:=EX b.AW,tm:=b.tm.dropLast}:=by
   have:b.tm.dropLast=b.tm:=by rw[h0];rfl
   rw[this];exact j
  obtain⟨R,z,s,M⟩:=aFs v (rm.sub (b':={b with Au:=DN C8 (AA [AF]) (DN Eh C8 b.Au),AW:=EX b.AW,tm:=b.tm.dropLast}) rfl sO (Ca _ _) (by simp));refine⟨R,f,d,t,?_,by rw[e];exact s,by rw[e];exact aY,D.trans M⟩;have B:Az (.len false) [t]=some (I 0):=by rw[lt,h0];rfl
  rw[Ac,fI,t75];simp only[abS,(Iv w).call,A.call,Kb,r2.call,X_,K.call,J.call,l6,B,z.call,Wa]
 .have hpos:=Cq.2 h0;obtain⟨T,S,i⟩:=Br.Tm w.t (k:= .i64) (n:=b.tm.length-1) (by omega);rw[<-Wl] at i;obtain⟨O,z,g⟩:=ź i (by simp;omega) (put (put (put h bi 2 y) bi 2 f) bi 3 d);have s:=j.aFt g;obtain⟨Q,P,N,L⟩:=aFs s (rm.sub (b':={b with Au:=DN C8 (AA [AF]) (DN Eh C8 b.Au),AW:=EX b.AW,tm:=b.tm.dropLast}) rfl sO (Ca _ _) (by simp));refine⟨Q,f,d,O,?_,by rw[e];exact N,by rw[e];exact aY,(D.trans Cn).trans L⟩;rw[Ac,fI,t75];simp only[abS,(Iv w).call,A.call,Kb,r2.call,X_,K.call,J.call,l6,lt,show(0:Int)<(b.tm.length:Int) by omega,NN hpos (show b.tm.length<9223372036854775807 by omega),S,z.call,j.st (k:=6) (v0:=t) rfl (Br.cells g),P.call,Wa]
def aN9(w:BX h bi a o c t G b):∃h',Cj cx 78 [Pt bi 0] h (.tuple []) h'/\BX h' bi a o c t G {b with stop:=true}/\Ey h (BN bi G) h' (BN bi G):=by refine⟨_,?_,w.put (k:=19) (v:= .bool true) rfl rfl w.o w.t,Cn⟩;rw[Ac,yy,t78];simp only[Ce,(Iv w).call,w.st (k:=19) (v:=tt) rfl rfl]
def aJd(w:BX h bi a o c t G b)(rm:Cw b m):∃h' o',Cj cx 73 [Pt bi 2] h (.agg b.aDb.row) h'/\BX h' bi a o' c t G b.Gs/\Ey h (BN bi G) h' (BN bi G):=by
 have ho:=rm.Au;have ld:Bg h none (Pt bi 2)=some o:=w.ld 2;have lo:=Br.Fk w.o;unfold BS.Gs BS.aDb;by_cases h2:b.Au.length<2;.refine⟨h,o,?_,by rw[if_pos h2];exact w,.refl⟩;rw[if_pos h2,Ac,fH,t73];simp only[abS,↓reduceIte,B6,(UO w.sA).call,show(b.Au.length:Int)<2 by omega];rfl
 .obtain⟨u,e,hu⟩:=Br.Tm w.o (k:= .i64) (n:=b.Au.length-1) (by omega);refine⟨_,u,?_,by rw[if_neg h2];exact w.Pb hu,Cn⟩;rw[if_neg h2,Ac,fH,t73];simp only[abS,↓reduceIte,B6,KG,(UO w.sA).call,show¬(b.Au.length:Int)<2 by omega,(f39 w.sA (by omega)).call,ld,lo,NN (show 0<b.Au.length by omega) (show b.Au.length<9223372036854775807 by omega),e,w.st (k:=2) (v0:=o) rfl (Br.cells hu)]
end
def TL{U:Type}(enc:U->List Aa)(DV:U->Ae->Prop)(Z:U->Nat)(i:Nat)(Jd:U->Ae->Prop)(s:U):KE:=
 λx vs h1=>(x= .normal/\∃s',vs=enc s'/\DV s' h1/\Z s'<Z s)\/(x= .exit i/\∃s',vs=enc s'/\Jd s' h1)
def TL.next{U:Type}{enc:U->List Aa}{DV Jd:U->Ae->Prop}{Z:U->Nat}{i:Nat}{s:U}{vs:List Aa}{h:Ae}(s':U)(e:vs=enc s')(hi:DV s' h)(hl:Z s'<Z s):TL enc DV Z i Jd s .normal vs h:= .inl ⟨rfl,s',e,hi,hl⟩
def TL.Jd{U:Type}{enc:U->List Aa}{DV Jd:U->Ae->Prop}{Z:U->Nat}{i:Nat}{s:U}{vs:List Aa}{h:Ae}(s':U)(e:vs=enc s')(hi:Jd s' h):TL enc DV Z i Jd s (.exit i) vs h:= .inr ⟨rfl,s',e,hi⟩
def EK{C:FT}{Q:KE}{h:Ae}{U:Type}{key i:Nat}{init:List Aa}{body:List Aa->IT}{k:F6->List Aa->IT}(enc:U->List Aa)(DV:U->Ae->Prop)(Z:U->Nat)(Jd:U->Ae->Prop)(s0:U)(h0:init=enc s0)(hi:DV s0 h)
  (round:∀s h,DV s h->W C (body (enc s)) (TL enc DV Z i Jd s) h) (hk:∀s h,Jd s h->W C (k (.exit i) (enc s)) Q h):W C (.loop key init body k) Q h:=by
 refine BO enc DV Z s0 h0 hi λs h hs=>W.mono (round s h hs) ?_;rintro x vs h1 (hn|⟨rfl,s',rfl,hf⟩);.exact .inl hn
 .exact .inr ⟨by simp,hk s' h1 hf⟩
def ni{h:Ae}{id z:Nat}{As:List (List Aa)}(hr:∀r∈As,r.length=z)(hc:h[id]?=some (.cells As.flatten)){i:Nat}(hi:i<As.length):Bg h (some z) (Pt id (i*z))=some (.agg As[i]):=by
 have hl:i*z+z<=As.flatten.length:=by rw[GI hr];have:=Ee z (show i+1<=As.length by omega);rwa [BD,Ez] at this
 simp only[Bg,hc,Nw];rw[if_pos hl,I4 hr,Ap hi,CF,A0 (by rw[hr _ (Ay hi)];exact Ab _),A7 (by rw[hr _ (Ay hi)];exact Ab _)]
section
variable{h h':Ae}{bi a:Nat}{o c t:Aa}{G G' F:Nat->Prop}{b b':BS}{x:Int}{m:Nat}
variable{nm:Ad}{av:Aa}{l:List A9}{r:List Aa}{sp p:Int}
def Y_(e:C9)(h:Ae):∃r,Cj cx 145 [.agg e.row] h (.agg r) h/\gY e.c.name e.v r:=by have d:e.v.cells=[e.v]:=Br.cells e.ok;refine⟨_,?_,I 2,ff,S [],ff,S [],ff,ff,ff,S [],.int .i32 0,rfl⟩;rw[Ac,yC,aDR,C9.row];simp only[abS,Nat.reduceLeDiff,↓reduceIte,B6,d]
def cA:∀{l:List B2} {b:BS} {m:Nat},Cw b (m+4*l.length)->(∀e∈l,e.name.length<=1000/\Fx e.Aq)->Cw (BS.JL l b).2 m
 |[],b,m,r,_=>by simpa[BS.JL] using r
 |e::l,b,m,r,hl=>by have h1:=hl e (by simp);rw[BS.JL];exact cA (Qq (m:=m+4*l.length) (r.le (by simp;omega)) h1.2 h1.1) λx hx=>hl x (by simp[hx])
def iA:b.On<=b.AW.length:=by unfold BS.On;rcases B8 (q:=b.settled) (l:=b.AW) with⟨h,_⟩|⟨n,h1,h2,_⟩<;>omega
structure iB(h:Ae)(bi a:Nat)(t:Aa)(G0:Nat->Prop)(b:BS)(fs:List C9)(id m k:Nat)(h1:Ae):Prop where
 le:k<=fs.length
 low:b.On<=k
 ex:∃(o:Aa) (G:Nat->Prop) (b1:BS) (KN:List C9),BX h1 bi a o (.C7 id 0 fs.length 3) t G b1/\Fa b1/\Cw b1 (m+4*(fs.length-k))/\h1[id]?=some (.cells (KN.map C9.row).flatten)/\KN.length=fs.length/\KN.drop k=fs.drop k/\
  BS.AO b={(BS.JL (b.AW.drop k) b1).2 with AW:=(KN.take k).map (·.c)++(BS.JL (b.AW.drop k) b1).1}/\¬BN bi G id/\Ey h (BN bi G0) h1 (BN bi G)
def BX.iC(w:BX h bi a o c t G {b with AW:=b.AW}):BX h bi a o c t G b:=w
def YK{h1:Ae}{id:Nat}{v v':Aa}(ha:At h id 3 v)(hf:Lt h v=some (h1,v'))(he:h1[id]?=h[id]?):KQ h 3 (Pt id 0)=some (Am.put h1 id 3 v'):=by obtain⟨cs,hc,e⟩:=ha;rw[hc] at he;unfold KQ;simp only[hc,By,e,hf,Ck,he];rw[Io he]
def Ż{v:Aa}{l:List C9}(d:EV l v):Lt h v=some (h,v):=by rcases d with rfl|⟨rfl,_⟩<;>rfl
def aJe{v:Aa}(d:EV [] v)(h:Ae):∃u,Cj cx 144 [v] h u h/\EV [] u:=by
 have e:=mB (h:=h) (s:= .sl 3 []) (b:=48) (.inr rfl) d;rcases d with rfl|⟨rfl,h0⟩
 .refine⟨.sl 3 [],?_,.mk⟩;rw[Ac,WE,zn];simp only[Dz] at e;simp only[Ce,Dz,show Az (.FM false .sl) [.sl 3 [],.slnil]=some (.bool false) from rfl,show Az (.Cl 3) []=some (.sl 3 []) from rfl,e]
 .refine⟨.slnil,?_,.inr ⟨rfl,rfl⟩⟩;rw[Ac,WE,zn];simp only[Ce,show Az (.FM false .sl) [.slnil,.slnil]=some (.bool true) from rfl]
def iB.init(w:BX h bi a o c t G b)(ok:Fa b)(rm:Cw b (m+4*b.AW.length)){fs:List C9}(Lx:fs.map (·.c)=b.AW):
  iB h bi a t G b fs h.length m b.On (Am.put (h++[.cells (fs.map C9.row).flatten]) bi 3 (.C7 h.length 0 fs.length 3)):=by
 have IZ:b.AW.length=fs.length:=by rw[<-Lx,Ao]
 have hk:=iA (b:=b);have hne:h.length≠bi:=Nat.ne_of_gt w.lt;refine⟨by omega,Ab _,o,G,b,fs,((w.J9 (u:=[.cells (fs.map C9.row).flatten])).TJ (l:=b.AW)).iC,ok,rm.le (by omega),?_,rfl,rfl,?_,?_,w.Eg.trans Cn⟩;.rw[CW hne];simp
 .unfold BS.AO;simp only;rw[Hr,Lx]
 .rintro(rfl|hg);.exact hne rfl
  .exact absurd (w.w.lt hg) (Dw _)
def iB.step{fs:List C9}{id k:Nat}{h1:Ae}(Lx:fs.map (·.c)=b.AW)(Rb:∀e∈b.AW,e.name.length<=1000/\Fx e.Aq)(hi:h.length<=id)(hlt:k<fs.length)(i:iB h bi a t G b fs id m k h1):
  ∃(r:List Aa) (h2:Ae) (n:Int),Bg h1 none (Pt bi 3)=some (.C7 id 0 fs.length 3)/\Bg h1 (some 3) (Pt id (k*3))=some (.agg fs[k].row)/\Cj cx 145 [.agg fs[k].row] h1 (.agg r) h1/\Cj cx 67 [Pt bi 0,.agg r] h1 (I n) h2/\Bg h2 none (Pt bi 3)=some (.C7 id 0 fs.length 3)/\
   CR h2 1 (Pt id (k*3)) (I n)=some (Am.put h2 id (k*3) (I n))/\iB h bi a t G b fs id m (k+1) (Am.put h2 id (k*3) (I n)):=by
 obtain⟨J,K,b1,KN,A,Zl,f,Zx,jV,q,ż,SJ,s⟩:=i.ex;have iD:k<KN.length:=by omega
 have IZ:b.AW.length=fs.length:=by rw[<-Lx,Ao]
 have aJf:k<b.AW.length:=by omega
 have u:KN[k]=fs[k]:=by have:=BQ (λl=>l[0]?) q;simp only[Cu,Bp] at this;rw[An iD,An hlt] at this;exact C0 this
 have B:b.AW[k]=fs[k].c:=by simp only[<-Lx,Ek]
 have g:=ni (UD KN) Zx (i:=k) (by simpa using iD);rw[Ek,u] at g;have Rb:=Rb fs[k].c (by rw[<-B];exact Ay aJf);obtain⟨r,D,hr⟩:=Y_ fs[k] h1;obtain⟨h2,E,C,r2,z,d⟩:=ŷ (m:=m+4*(fs.length-(k+1))) A Zl (f.le (by omega)) hr fs[k].ok Rb.2 Rb.1;have ĥ:id<h1.length:=(Af.1 Zx).1;have LX:h2[id]?=some (.cells (KN.map C9.row).flatten):=by rw[d.old id ĥ SJ];exact Zx
 have jP:¬BN bi C id:=λhg=>by
  rcases d.BN id hg with hg|hg
  .exact SJ hg
  .omega
 have y:At h2 id (k*3) (I fs[k].c.node):=⟨_,LX,by have:=Qt (k:=0) (UD KN) (by decide) (i:=k) (r:=fs[k].row) (by rw[CE,An iD,u];rfl);rw[Bp] at this;rw[this];rfl⟩
 let w:C9:=⟨{fs[k].c with node:=b1.a.len+1},fs[k].v,fs[k].ok⟩
 have hrow:(KN.map C9.row).flatten.set (k*3) (I (b1.a.len+1))=((KN.set k w).map C9.row).flatten:=by have:=UP (As:=KN.map C9.row) (i:=k) (k:=0) (v:= I (b1.a.len+1)) (UD KN) (by simpa using iD) (by decide);rw[Bp] at this;rw[Hp,B0,if_pos (by rw[GI (UD KN),Ao];omega)];rw[AT] at this;rw[show w.row=((KN.map C9.row)[k]'(by simpa using iD)).set 0 (I (b1.a.len+1)) by rw[Ek,u];rfl];exact this
 have H:id≠bi:=λe=>jP (.inl e);refine⟨r,h2,b1.a.len+1,A.l3,g,D,r2,z.l3,y.store rfl,⟨hlt,by have:=i.low;omega,E,C,_,KN.set k w,z.Ep λj hj=>CW λe=>jP (e▸hj),Yo Zl,Qq (m:=m+4*(fs.length-(k+1))) (f.le (by omega)) Rb.2 Rb.1,?_,by rw[BY];exact jV,?_,?_,jP,⟨by rw[Mm];exact(s.trans d).len,λj hj hn=>(CW (by omega)).trans ((s.trans d).old j hj hn),(s.trans d).BN⟩⟩⟩;.rw[Io LX,AB (by have:=d.len;omega),hrow]
 .rw[aLk (T2 k)];have:=BQ (λl=>l.drop 1) q;simpa[Ed] using this
 .rw[ż,Ap aJf,B,BS.JL];simp only
  congr 1
  rw[AV (by rw[BY];exact iD),List.getElem_set_self,Cb,Z5 (Ab k),AT];rfl
def aOa(w:BX h bi a o c t G b)(hc:Ec b.AW c)(ok:Fa b)(rm:Cw b (m+4*b.AW.length)):
  ∃h' o' c' G',Cj cx 80 [Pt bi 0] h (.tuple []) h'/\BX h' bi a o' c' t G' b.AO/\Ec b.AO.AW c'/\Ey h (BN bi G) h' (BN bi G'):=by
 have ho:=rm.Au;have fE:=rm.AW;obtain⟨fs,Lx,hcs⟩:=hc;have IZ:b.AW.length=fs.length:=by rw[<-Lx,Ao]
 have PI:Ev cx 80 [Pt bi 0] h λr h'=>r= .tuple []/\∃o' c' G',BX h' bi a o' c' t G' b.AO/\Ec b.AO.AW c'/\Ey h (BN bi G) h' (BN bi G'):=by
  unfold Ev;have l3:=w.l3;have lc:=Br.Fk hcs;rw[y_,t80];simp only[abS,(Iv w).call,l3,lc];refine EK (i:=0) (λn:Nat=>[I (n:Int)]) (λn h1=>n<=fs.length/\Ax b.settled b.AW=Ax b.settled (b.AW.take n)/\h1=h) (λn=>n) (λn h1=>n=b.On/\h1=h) fs.length rfl ⟨Ab _,by rw[<-IZ,Bf],rfl⟩ ?_ ?_
  .rintro n h1 ⟨hn,ha,rfl⟩;cases n with
   |zero=>simp only[abS,show¬(0:Int)<((0:Nat):Int) by decide];refine .Jd 0 rfl ⟨?_,rfl⟩;unfold BS.On;rw[ha];rfl
   |succ n=>
    have hlt:n<b.AW.length:=by omega
    have gS:n<fs.length:=by omega
    rw[OY hlt] at ha;have i1:=NN (n:=n+1) (show 0<n+1 by omega) (show n+1<9223372036854775807 by omega);rw[Mc] at i1;have f:=Br.Dl (k:= .i64) hcs gS;have en:fs[n].c.node=b.AW[n].node:=by simp only[<-Lx,Ek]
    have g:=ZM w.sA (by omega) b.AW[n].node;have q:b.settled b.AW[n]=true->n+1=b.On:=by intro hs;rw[if_pos hs] at ha;unfold BS.On;rw[ha];omega
    rw[C9.row,en] at f;simp only[abS,show(0:Int)<((n+1:Nat):Int) by omega,l3,i1,f,g.call,ne_eq];refine⟨λh1=>⟨λh2=>?_,λh2=>?_⟩,λh1=>?_⟩
    .have hs:b.settled b.AW[n]=false:=by unfold BS.settled;rw[Ak];omega
     rw[if_neg (by rw[hs];decide)] at ha;exact .next n rfl ⟨by omega,ha,rfl⟩ (by omega)
    .exact .Jd (n+1) rfl ⟨q (by unfold BS.settled;rw[Ag];omega),rfl⟩
    .exact .Jd (n+1) rfl ⟨q (by unfold BS.settled;rw[Ag];omega),rfl⟩
  .rintro n h1 ⟨rfl,R⟩;rw[R];by_cases hne:fs=[]
   .subst hne;have ha:b.AW=[]:=Lx.symm;have q:b.On=0:=by have:=iA (b:=b);rw[ha] at this;exact Nat.le_zero.1 this
    have hb:b.AO=b:=by unfold BS.AO;rw[ha];simp only[List.drop_nil,BS.JL,List.take_nil,Bw];rw[<-ha]
    obtain⟨u,g,hu⟩:=aJe hcs h;have d:=(w.TJ (u:=u) (l:=b.AW)).iC;have f:=YK d.my (Ż hu) rfl;have C:=Br.Fk hu;have z:=d.l3;rw[AY] at C;have hz:(b.On:Int)=((0:Nat):Int):=by rw[q]
    simp only[abS,l3,g.call,w.st (k:=3) (v0:=c) rfl (Br.cells hu)];refine EK (i:=2) (λn:Nat=>[I (n:Int)]) (λn h1=>n=0/\h1=Am.put h bi 3 u) (λn=>n) (λn h1=>n=0/\h1=Am.put h bi 3 u) 0 (by rw[hz]) ⟨rfl,rfl⟩ ?_ ?_;.rintro n h1 ⟨rfl,rfl⟩;simp only[abS,z,C,show¬((0:Nat):Int)<((0:Nat):Int) by decide];exact .Jd 0 rfl ⟨rfl,rfl⟩
    .rintro n h1 ⟨rfl,rfl⟩;simp only[Ce,f];refine⟨_,rfl,rfl,o,u,G,?_,⟨[],by rw[hb,ha];rfl,hu⟩,Cn.trans Cn⟩;rw[hb];exact(d.TJ (l:=b.AW)).iC
   .have i0:=iB.init (m:=m) w ok rm Lx;have g:=aFg (h:=h) hcs hne (by omega);have w0:=w.J9 (u:=[.cells (fs.map C9.row).flatten]);simp only[abS,l3,g.call,w0.st (k:=3) (v:= .C7 h.length 0 fs.length 3) (v0:=c) rfl rfl];refine EK (i:=2) (λn:Nat=>[I (n:Int)]) (λk h1=>iB h bi a t G b fs h.length m k h1) (λk=>fs.length-k) (λk h1=>k=fs.length/\iB h bi a t G b fs h.length m k h1) b.On rfl i0 ?_ ?_
    .intro k h1 i;have EC:=i.le;have D:Az (.len false) [.C7 h.length 0 fs.length 3]=some (I (fs.length:Int)):=rfl;rcases A6 k fs.length with hlt|HK
     .obtain⟨r,h2,n,O,N,M,L,K,J,H⟩:=iB.step Lx rm.D0 (Ab _) hlt i;have f:Az (.F0 3) [.C7 h.length 0 fs.length 3,I (k:Int)]=some (Pt h.length (k*3)):=Gy hlt;simp only[abS,O,D,show(k:Int)<(fs.length:Int) by omega,f,N,M.call,Dn,L.call,K,J,CI (show k<9223372036854775807 by omega)];exact .next (k+1) rfl H (by omega)
     .obtain⟨y,B,b1,KN,d,_⟩:=i.ex;simp only[abS,d.l3,D,show¬(k:Int)<(fs.length:Int) by omega];exact .Jd k rfl ⟨by omega,i⟩
    .rintro k h1 ⟨rfl,i⟩;obtain⟨y,B,b1,KN,d,Zl,P,Zx,jV,Q,ż,SJ,s⟩:=i.ex;have hf:=Og (UD KN) Zx;rw[Ao,jV] at hf;have A:h.length≠bi:=λe=>SJ (.inl e);have f:=YK d.my hf (by rw[Al A]);have E:BX (h1.set h.length .DD) bi a y _ t B b1:=d.Ep λj hj=>Al λe=>SJ (by rw[e];exact hj);simp only[Ce,f];have hb:b.AO={b1 with AW:=KN.map (·.c)}:=by rw[ż,AH (by omega),A7 (by omega)];simp only[BS.JL,A8]
     refine⟨_,rfl,rfl,y,_,B,by rw[hb];exact E.TJ,⟨KN,by rw[hb],.mk⟩,?_⟩;refine Ey.trans ⟨by rw[BY];exact s.len,λj hj hn=>?_,s.BN⟩ Cn;rw[Al (by omega)];exact s.old j hj hn
 obtain⟨r,h',hr,rfl,o',c',G',w',Ut,x'⟩:=PI.ret;exact⟨h',o',c',G',hr,w',Ut,x'⟩
end
def Ž{id l k:Nat}(hl:0<l)(hk:k<=l):Az (.PQ 3 false false true) [.C7 id 0 l 3,I (k:Int)]=some (.C7 id 0 k 3):=by
 have d:Ex (k:Int) l=some k:=by unfold Ex;rw[if_pos (by omega)];rfl
 simp[Az,I0,DI,d];omega
def ž{id l k:Nat}(hk:k<=l):Az (.PQ 3 false true false) [.C7 id 0 l 3,I (k:Int)]=some (if k<l then .C7 id (k*3) (l-k) 3 else .sl 3 []):=by
 have d:Ex (k:Int) l=some k:=by unfold Ex;rw[if_pos (by omega)];rfl
 simp[Az,I0,DI,d];split<;>rfl
def JP{U:Type}{l:List U}{k:Nat}(hk:k<l.length):(Bs l k).length=l.length-1:=by unfold Bs;rw[Ai,Av,A5];omega
def aJg{h:Ae}{id k:Nat}{As:List (List Aa)}(hr:∀r∈As,r.length=3)(hc:h[id]?=some (.cells As.flatten))(hk:k<As.length)(hb:As.length<=1000000000):
  ∃GW,Cj cx 273 [.C7 id 0 As.length 3,I (k:Int),I ((k+1:Nat):Int)] h (.C7 id 0 (As.length-1) 3) (h.set id (.cells ((Bs As k).flatten++GW))):=by
 have Iy:=(Af.1 hc).1;have v:=JP hk;have jW:=GI hr;have u:∀r∈Bs As k,r.length=3:=λr hm=>hr r (by
  unfold Bs at hm;rcases Aj.1 hm with hm|hm
  .exact AZ hm
  .exact Bc hm)
 have vN:=GI u;rw[v] at vN;have Vl:(As.take k).flatten=As.flatten.take (k*3):=(bI hr).symm;have d:(As.drop (k+1)).flatten=As.flatten.drop ((k+1)*3):=(I4 hr).symm;obtain⟨Ta,z,hcl⟩:∃Ta,Gt h 3 48 (.C7 id 0 k 3) (if k+1<As.length then .C7 id ((k+1)*3) (As.length-(k+1)) 3 else .sl 3 [])=some (h.set id (.cells ((Bs As k).flatten++Ta)),.C7 id 0 (As.length-1) 3)/\Ta.length=3:=by
  have g:GX h 3 (if k+1<As.length then .C7 id ((k+1)*3) (As.length-(k+1)) 3 else .sl 3 [])=some (As.drop (k+1)):=by
   by_cases Xm:k+1<As.length;.rw[if_pos Xm];have q:=bJ hr (n:=As.length-(k+1)) (off:=k+1) (by omega);rw[A7 (by rw[A5];exact Ab _)] at q;simp only[GX,BM,hc,q];rw[if_pos (by rw[jW];omega)]
   .rw[if_neg Xm,AH (by omega)];rfl
  by_cases aIH:k+1=As.length
  .refine⟨As.flatten.drop (k*3),?_,by rw[A5,jW];omega⟩;have j:As.drop (k+1)=[]:=AH (by omega);rw[j] at g;have w:(Bs As k).flatten++As.flatten.drop (k*3)=As.flatten:=by unfold Bs;rw[j,A8,Vl,Bl]
   have C:h.set id (.cells ((Bs As k).flatten++As.flatten.drop (k*3)))=h:=by rw[w];obtain⟨lJ,B⟩:=Af.1 hc;rw[<-B,JR]
   simp only[Gt,g,BM];rw[C,show As.length-1=k by omega]
  .obtain⟨y,s,hd⟩:∃y s,As.drop (k+1)=y::s:=⟨_,_,Ap (show k+1<As.length by omega)⟩;have nD:(y::s).length=As.length-(k+1):=by rw[<-hd,A5]
   refine⟨As.flatten.drop ((As.length-1)*3),?_,by rw[A5,jW];omega⟩;rw[hd] at g;simp only[Gt,g,hc,BM];rw[nD,if_pos (by rw[jW];omega)];rw[<-hd,d,By,By,show k+(As.length-(k+1))=As.length-1 by omega];unfold Bs;rw[Ld,Vl,d]
 generalize ă:h.set id (.cells ((Bs As k).flatten++Ta))=h2 at z;have LX:h2[id]?=some (.cells ((Bs As k).flatten++Ta)):=by rw[<-ă];exact AB Iy
 have tE:((Bs As k).flatten++Ta).length=As.length*3:=by rw[Ai,vN,hcl];omega
 have j:D5 (.ic 3 true true) h2 [.C7 id 0 (As.length-1) 3,I ((As.length-1:Nat):Int),I (As.length:Int)]=some (h2,.C7 id ((As.length-1)*3) 1 3):=by
  simp only[D5,jZ,LX];have D:Ex (As.length:Int) ((((Bs As k).flatten++Ta).length-0)/3)=some As.length:=by unfold Ex;rw[if_pos (by rw[tE];omega)];rfl
  have q:Ex ((As.length-1:Nat):Int) As.length=some (As.length-1):=by unfold Ex;rw[if_pos (by omega)];rfl
  rw[if_pos ⟨trivial,trivial,AU _⟩];simp only[DI,D,q,Ck,BF];rw[if_pos (by rw[tE];omega)];congr 3
  .omega
  .omega
 have A:D5 (.clear 3 [I 0,S [],.slnil]) h2 [.C7 id ((As.length-1)*3) 1 3]=some (h.set id (.cells ((Bs As k).flatten++[I 0,S [],.slnil])),.bool true):=by
  simp only[D5,W0,LX];rw[if_pos ⟨trivial,rfl,by rw[tE];omega⟩];congr 2
  rw[<-ă,Nc];congr 2
  rw[Jz vN,AH (by rw[tE];omega)];simp
 refine⟨[I 0,S [],.slnil],?_⟩;have f:∀i n,Az (.len false) [.C7 i 0 n 3]=some (I (n:Int)):=λ_ _=>rfl;have w:D5 (.pC 3) h [.C7 id 0 As.length 3,I (k:Int),I ((k+1:Nat):Int),I (As.length:Int)]=some (h,.bool true):=by simp only[D5,W8];simp;omega
 rw[Ac,bp,aE2];simp only[abS,f,w,show¬(k:Int)=((k+1:Nat):Int) by omega,Ž (id:=id) (show 0<As.length by omega) (show k<=As.length by omega),ž (id:=id) (show k+1<=As.length by omega),z,j,A]
def TM{z:Nat}:∀{As:List (List Aa)} {cs Kd:List Aa},(∀r∈As,r.length=z)->Cv (Kd++(As.flatten++cs)) z Kd.length As.length=As
 |[],_,_,_=>rfl
 |x::As,cs,Kd,h=>by have hx:=h x (by simp);have:=TM (As:=As) (cs:=cs) (Kd:=Kd++x) (λr hr=>h r (by simp[hr]));simp only[AT,Ai,hx] at this;simp only[CF,AE,Cv,AT];rw[LY rfl,Jz hx,this]
def tK{h:Ae}{id z:Nat}{As:List (List Aa)}{cs:List Aa}(hr:∀r∈As,r.length=z)(hc:h[id]?=some (.cells (As.flatten++cs))):Lt h (.C7 id 0 As.length z)=some (h.set id .DD,.sl z As):=by unfold Lt;simp only[hc,By];have:=TM (cs:=cs) (Kd:=[]) hr;simp only[Bw,AY] at this;rw[if_pos (by rw[Ai,GI hr];omega),this]
def Fz(e:C9)(at_ mk:Int)(anc far:Item)(last:Int):List Aa:=
 [I e.c.node,.str e.c.name,e.v,I at_,I mk,I anc.node,I anc.AX,.str anc.name,.bool anc.Qi,I far.node,I far.AX,.str far.name,.bool far.Qi,I last]
def Nl(ai bi:Nat)(G:Nat->Prop):Nat->Prop:=λi=>i=ai\/BN bi G i
section
variable{h h':Ae}{bi a ai:Nat}{o c t:Aa}{G G' F:Nat->Prop}{b b':BS}{x:Int}{m:Nat}
variable{nm:Ad}{av:Aa}{l:List A9}{r:List Aa}{sp p:Int}{e:C9}{at_ mk last:Int}{anc far:Item}
def EL(x:Ey h (BN bi G) h' (BN bi G'))(ai:Nat):Ey h (Nl ai bi G) h' (Nl ai bi G'):=
 ⟨x.len,λi hi hn=>x.old i hi λhg=>hn (.inr hg),λi hi=>by
  rcases hi with hi|hi
  .exact .inl (.inl hi)
  .rcases x.BN i hi with h|h
   .exact .inl (.inr h)
   .exact .inr h⟩
def Qv{k:Nat}{v:Aa}:Ey h (Am.Nl ai bi G) (put h ai k v) (Am.Nl ai bi G):=⟨by rw[Mm];exact Ab _,λi _ hn=>CW λe=>hn (.inl e),λ_ h=> .inl h⟩
def J2{id k:Nat}{v:Aa}{cs:List Aa}(hc:h[id]?=some (.cells cs)):(put h id k v)[id]?=some (.cells (cs.set k v)):=by rw[Io hc,AB (Af.1 hc).1]
def down(k:Nat)(x:Int):Int:=if(k:Int)<x then x-1 else x
def dh(w:BX h bi a o c t G b)(hc:Ec b.AW c)(rm:Cw b m)(ha:h[ai]?=some (.cells (Fz e at_ mk anc far last)))(hn:¬BN bi G ai){k:Nat}(hk:k<b.AW.length)(h1:0<=at_/\at_<=1000000000)(h2:0<=mk/\mk<=1000000000):
  ∃h' c',Cj cx 248 [Pt ai 0,Pt bi 0,I (k:Int)] h (.tuple []) h'/\BX h' bi a o c' t G {b with AW:=Bs b.AW k}/\Ec (Bs b.AW k) c'/\h'[ai]?=some (.cells (Fz e (down k at_) (down k mk) anc far last))/\Ey h (Nl ai bi G) h' (Nl ai bi G):=by
 obtain⟨fs,Lx,hcs⟩:=hc;have fE:=rm.AW;have IZ:b.AW.length=fs.length:=by rw[<-Lx,Ao]
 have hne:fs≠[]:=by intro e;rw[IZ,e] at hk;exact absurd hk (Nat.not_lt_zero _)
 have lY:ai≠bi:=λe=>hn (.inl e);have Ĉ:ai<h.length:=(Af.1 ha).1;have B:=aFg (h:=h) hcs hne (by omega);have hX:(h++[EE.cells (fs.map C9.row).flatten])[h.length]?=some (.cells (fs.map C9.row).flatten):=by simp
 obtain⟨GW,r2⟩:=aJg (UD fs) hX (k:=k) (by simp;omega) (by simp;omega);rw[Ao] at r2;have e2:(h++[EE.cells (fs.map C9.row).flatten]).set h.length (.cells ((Bs (fs.map C9.row) k).flatten++GW))=h++[.cells ((Bs (fs.map C9.row) k).flatten++GW)]:=by rw[BI _ _ (Ab _),DM];rfl
 rw[e2] at r2;generalize z:h++[EE.cells ((Bs (fs.map C9.row) k).flatten++GW)]=H at r2;have T:BX H bi a o c t G b:=by rw[<-z];exact w.J9
 have vt:H[ai]?=some (.cells (Fz e at_ mk anc far last)):=by rw[<-z,Ah Ĉ];exact ha
 have P:H[h.length]?=some (.cells ((Bs (fs.map C9.row) k).flatten++GW)):=by rw[<-z];simp
 have hL:H.length=h.length+1:=by rw[<-z];simp
 have Z:Ey h (Nl ai bi G) H (Nl ai bi G):=by rw[<-z];exact EL w.Eg ai
 have s:bi≠h.length:=PM w.lt;have S5:ai≠h.length:=PM Ĉ;have A:=T.st (k:=3) (v:= .C7 h.length 0 (fs.length-1) 3) (v0:=c) rfl rfl;have w2:=T.TJ (u:= .C7 h.length 0 (fs.length-1) 3) (l:=b.AW);have Us:(put H bi 3 (.C7 h.length 0 (fs.length-1) 3))[ai]?=some (.cells (Fz e at_ mk anc far last)):=by rw[CW lY];exact vt
 have O:(put H bi 3 (.C7 h.length 0 (fs.length-1) 3))[h.length]?=some (.cells ((Bs (fs.map C9.row) k).flatten++GW)):=by rw[CW (Dd s)];exact P
 have Y:Ey h (Nl ai bi G) (put H bi 3 (.C7 h.length 0 (fs.length-1) 3)) (Nl ai bi G):=Z.trans (EL Cn ai);generalize Q:put H bi 3 (.C7 h.length 0 (fs.length-1) 3)=f at*;have hL2:f.length=h.length+1:=by rw[<-Q,Mm,hL]
 have t3:At f ai 3 (I at_):=⟨_,Us,rfl⟩;have ĳ:=J2 (k:=3) (v:= I (down k at_)) Us;have D:put f ai 3 (I (down k at_))=if(k:Int)<at_ then put f ai 3 (I (at_-1)) else f:=by
  unfold down;split;.rfl
  .exact t3.same
 have w3:BX (put f ai 3 (I (down k at_))) bi a o _ t G _:=w2.Ep λj hj=>CW λe=>hn (e▸hj);have N:(put f ai 3 (I (down k at_)))[h.length]?=_:=(CW (Dd S5)).trans O;have X:=Y.trans (Qv (k:=3) (v:= I (down k at_)));generalize hH3:put f ai 3 (I (down k at_))=d at*;have t4:At d ai 4 (I mk):=⟨_,ĳ,rfl⟩;have L:=J2 (k:=4) (v:= I (down k mk)) ĳ;have q:put d ai 4 (I (down k mk))=if(k:Int)<mk then put d ai 4 (I (mk-1)) else d:=by
  unfold down;split;.rfl
  .exact t4.same
 have S:BX (put d ai 4 (I (down k mk))) bi a o _ t G _:=w3.Ep λj hj=>CW λe=>hn (e▸hj);have M:(put d ai 4 (I (down k mk)))[h.length]?=_:=(CW (Dd S5)).trans N;have E:=X.trans (Qv (k:=4) (v:= I (down k mk)));generalize hH4:put d ai 4 (I (down k mk))=R at*;have K:∀r∈Bs (fs.map C9.row) k,r.length=3:=λr hm=>UD fs r (by
  unfold Bs at hm;rcases Aj.1 hm with hm|hm
  .exact AZ hm
  .exact Bc hm)
 have f4:=tK K M;rw[JP (by simp;omega),Ao] at f4;have C:=YK S.my f4 (by rw[Al (Dd s)]);have w5:BX (R.set h.length .DD) bi a o _ t G {b with AW:=b.AW}:=S.Ep λj hj=>Al λe=>by
  subst e;rcases hj with hj|hj
  .exact s hj.symm
  .exact absurd (w.w.lt hj) (Dw _)
 have ed:Bs (fs.map C9.row) k=(Bs fs k).map C9.row:=by unfold Bs;rw[Cb,Hr,LV]
 have ec:(Bs fs k).map (·.c)=Bs b.AW k:=by unfold Bs;rw[Cb,Hr,LV,Lx]
 refine⟨_,.sl 3 (Bs (fs.map C9.row) k),?_,w5.TJ (l:=Bs b.AW k),⟨Bs fs k,ec,by rw[ed];exact .mk⟩,?_,?_⟩
 .have i:Bg f none (Pt ai 3)=some (I at_):=t3.load;have g:Bg d none (Pt ai 4)=some (I mk):=t4.load;have inc:=CI (show k<9223372036854775807 by omega);have W:=D1 (show -9223372036854775808<=at_-1 by omega) (show at_-1<9223372036854775808 by omega);have V:=D1 (show -9223372036854775808<=mk-1 by omega) (show mk-1<9223372036854775808 by omega);rw[Ac,aw,aEM];by_cases y:(k:Int)<at_
  .rw[if_pos y] at D;have U:CR f 1 (Pt ai 3) (I (at_-1))=some d:=by rw[D];exact t3.store rfl
   by_cases n:(k:Int)<mk
   .rw[if_pos n] at q;have J:CR d 1 (Pt ai 4) (I (mk-1))=some R:=by rw[q];exact t4.store rfl
    simp only[abS,w.l3,B.call,inc,r2.call,A,i,y,W,U,g,n,V,J,C]
   .rw[if_neg n] at q;subst q;simp only[abS,w.l3,B.call,inc,r2.call,A,i,y,W,U,g,n,C]
  .rw[if_neg y] at D;subst D;by_cases n:(k:Int)<mk
   .rw[if_pos n] at q;have J:CR d 1 (Pt ai 4) (I (mk-1))=some R:=by rw[q];exact t4.store rfl
    simp only[abS,w.l3,B.call,inc,r2.call,A,i,y,g,n,V,J,C]
   .rw[if_neg n] at q;subst q;simp only[abS,w.l3,B.call,inc,r2.call,A,i,y,g,n,C]
 .rw[CW lY,Al (Dd S5),L];rfl
 .refine Ey.trans ⟨by rw[BY];exact E.len,λj hj hn=>?_,E.BN⟩ (EL Cn ai);rw[Al (by omega)];exact E.old j hj hn
end
section
variable{U:Type}{q:U->Bool}{l:List U}
def MY{p:Nat}(hp:p<l.length)(h1:q l[p]=true)(h2:∀j (hj:j<l.length),p<j->q l[j]=false):Ax q l=(p:Int):=by
 rcases B8 (q:=q) (l:=l) with⟨e,h⟩|⟨n,hn,e,h3,d⟩
 .rw[h _ (Ay hp)] at h1;exact absurd h1 (by decide)
 .rcases aR0 n p with h|h|h
  .have:=d p hp h;rw[this] at h1;exact absurd h1 (by decide)
  .rw[e,h]
  .have:=h2 n hn h;rw[this] at h3;exact absurd h3 (by decide)
def LN{p:Nat}(e:Ax q l=(p:Int)):∃hp:p<l.length,q l[p]=true/\∀j (hj:j<l.length),p<j->q l[j]=false:=by
 rcases B8 (q:=q) (l:=l) with⟨f,h⟩|⟨n,hn,f,h3,d⟩
 .omega
 .have:n=p:=by omega
  subst this;exact⟨hn,h3,λj hj h=>d j hj h⟩
def nH{k j:Nat}(hk:k<l.length):(Bs l k)[j]?=if j<k then l[j]? else l[j+1]?:=by
 unfold Bs;by_cases h:j<k;.rw[if_pos h,Ah (by rw[Av];omega),Co,if_pos h]
 .rw[if_neg h,Bi (by rw[Av];omega),Cu];congr 1
  rw[Av];omega
def Pc{k j:Nat}(hk:k<l.length)(hj:j<(Bs l k).length):(Bs l k)[j]=if h:j<k then l[j]'(by omega) else l[j+1]'(by rw[JP hk] at hj;omega):=by
 have hl:=JP hk;have:=nH (j:=j) hk;rw[An hj] at this;by_cases h:j<k;.rw[oR h];rw[if_pos h,An (by omega)] at this;exact C0 this
 .rw[dif_neg h];rw[if_neg h,An (by omega)] at this;exact C0 this
def iE{p k:Nat}(e:Ax q l=(p:Int))(hk:k<l.length)(hne:k≠p):Ax q (Bs l k)=down k p:=by
 obtain⟨hp,h1,h2⟩:=LN e;have hl:=JP hk;unfold down;by_cases d:k<p
 .rw[if_pos (by omega),show(p:Int)-1=((p-1:Nat):Int) by omega];refine MY (by omega) ?_ ?_
  .rw[Pc hk,dif_neg (by omega)];have:p-1+1=p:=by omega
   simp only[this,h1]
  .intro j hj h;rw[Pc hk,dif_neg (by omega)];exact h2 _ _ (by omega)
 .rw[if_neg (by omega)];refine MY (by omega) ?_ ?_;.rw[Pc hk,oR (by omega)];exact h1
  .intro j hj h;rw[Pc hk];split;.exact h2 _ _ h
   .exact h2 _ _ (by omega)
def nI{p k:Nat}{x:U}(e:Ax q l=(p:Int))(hne:k≠p)(hx:q x=false):Ax q (l.set k x)=(p:Int):=by
 obtain⟨hp,h1,h2⟩:=LN e;refine MY (by rw[BY];exact hp) ?_ ?_;.rw[List.getElem_set_ne hne];exact h1
 .intro j hj h;rw[List.getElem_set];split;.exact hx
  .rw[BY] at hj;exact h2 j hj h
end
def iF{l:List Item}(hn:(l.map Item.node).Nodup){i:Nat}(hi:i<l.length):Ax (Bq l[i].node) l=(i:Int):=by
 refine MY hi (by simp[Bq]) λj hj h=>?_;by_cases he:l[i].node=l[j].node
 .have h2:(l.map Item.node)[i]'(by simpa using hi)=(l.map Item.node)[j]'(by simpa using hj):=by simpa using he
  exact absurd h2 (List.pairwise_iff_getElem.1 hn i j (by simpa using hi) (by simpa using hj) h)
 .unfold Bq;simpa using λe=>he e.symm
def Ks{n:Int}{l:List B2}(h:0<=Fo n l):∃p:Nat,∃hp:p<l.length,Fo n l=(p:Int)/\n≠0/\l[p].node=n/\Ax (VF n) l=(p:Int):=by
 unfold Fo at h⊢;split at h;.omega
 .rename_i h0;rw[if_neg h0];obtain⟨p,hp⟩:∃p:Nat,Ax (VF n) l=(p:Int):=⟨_,(Iz h).symm⟩;obtain⟨h1,h2,_⟩:=LN hp;exact⟨p,h1,hp,h0,by simpa[VF] using h2,hp⟩
def nj{n:Int}{l:List B2}{k:Nat}(h:0<=Fo n l)(hk:k<l.length)(hne:l[k].node≠n):Fo n (Bs l k)=down k (Fo n l):=by obtain⟨p,hp,e,h0,h1,h2⟩:=Ks h;rw[e,<-iE h2 hk (by rintro rfl;exact hne h1)];unfold Fo;rw[if_neg h0]
def Z_{n:Int}{l:List B2}{k:Nat}{x:B2}(h:0<=Fo n l)(hk:k<l.length)(hne:l[k].node≠n)(hx:x.node≠n):Fo n (l.set k x)=Fo n l:=by obtain⟨p,hp,e,h0,h1,h2⟩:=Ks h;rw[e,<-nI (x:=x) (k:=k) h2 (by rintro rfl;exact hne h1) (by simp[VF];exact hx)];unfold Fo;rw[if_neg h0]
def nl{n:Int}{l:List B2}(hn:((l.map B2.node).filter λn=>decide (n≠0)).Nodup)(h:0<=Fo n l):Fo n (Bs l (Fo n l).toNat)<0:=by
 obtain⟨p,hp,e,h0,h1,h2⟩:=Ks h;rw[e,Bz];refine Int.not_le.1 λh3=>?_;obtain⟨g,f,i,_,d,_⟩:=Ks h3;have:l=l.take p++l[p]::l.drop (p+1):=by rw[<-Ap hp,Bl]
 rw[this,Cb,Bd,Bu,Hu,if_pos (by simpa[h1] using h0),BU,BW] at hn;have hm:=Ay f;generalize(Bs l p)[g]=y at hm d;unfold Bs at hm;rcases Aj.1 hm with hm|hm
 .exact hn.2.2 y.node (BV.2 ⟨Z9 hm,by simpa[d] using h0⟩) l[p].node (by simp) (by rw[d,h1])
 .exact hn.2.1.1 (BV.2 ⟨by rw[h1,<-d];exact Z9 hm,by simpa[h1] using h0⟩)
section
variable{h h':Ae}{bi a ai:Nat}{o c t:Aa}{G G' F:Nat->Prop}{b b':BS}{x:Int}{m:Nat}
variable{nm:Ad}{av:Aa}{l:List A9}{r:List Aa}{sp p:Int}{e:C9}{at_ mk last:Int}{anc far:Item}
def YL{blk anc:Int}{far i:Nat}{l:Int}{mk m:Nat}(r:Cw b (m+4)):Cw (BS.HF blk anc far i b l mk).1 m:=by
 unfold BS.HF;simp only
 split;.exact(r.le (by omega)).sub rfl CA (BK _) (Ab _)
 .split;.exact(r.le (by omega)).sub rfl CA CA (Ab _)
  .rename_i he _;obtain⟨p,hp,f,_,_,_⟩:=Ks (Vb.1 he);rw[f,Bz,AG,An hp,E5];have Rb:=r.D0 _ (Ay hp);have d:=Rc (m:=m+1) (nm:=b.AW[p].name) (l:=b.AW[p].Aq) (sp:=1) (p:=anc) (r.le (by omega)) Rb.2;have r2:=(d.le (m':=m) (by omega)).IK (K5 (p:=(b.IJ b.AW[p].name b.AW[p].Aq 1).node) (x:=l) (bf:=0));refine⟨r2.n,r2.at_,r2.data,by simp only[BY];exact r2.Au,by simp only[BY];exact r2.AW,r2.tm,λe he=>?_,λi hi=>?_⟩
   .rcases Dm he with he|rfl
    .exact r2.D0 e he
    .exact Rb
   .rcases Dm hi with hi|rfl
    .exact r2.o7 i hi
    .exact TB Rb.1
end
end Go.Am
end
