/- Lemmas -/
import Derived.Test.YtlcmmpgfafpoiaaGreatDoorT30
import Derived.Test.YtlcmmpgfafpoiaaGreatDoorT28
set_option linter.all false
set_option maxRecDepth 100000
section
end
section
end
section
end
section
namespace Go.Am
open Go
structure SW(h:Ah)(bi:Nat)(b:BS)(F:Nat->Prop)(si:Nat)(t:Gk)(av:Aa):Prop where
 pb:PB h bi b F
 sc:h[si]?=some (.cells (Pt bi 0::Dm t av))
 no:¬F si
section
variable{h h':Ah}{bi si:Nat}{b b':BS}{F F':Nat->Prop}{n o a:Nat}{t:Gk}{av:Aa}
def SW.after(w:SW h bi b F si t av)(p:PB h' bi b' F')(x:DB h F h' F'):SW h' bi b' F' si t av:=by
 have hl:=(Al.1 w.sc).1;refine⟨p,by rw[x.old si hl w.no];exact w.sc,λhf=>?_⟩;rcases x.Bt si hf with h1|h1
 .exact w.no h1
 .omega
def SW.dh(w:SW h bi b F si t av):A7 h none (Pt si 0)=some (Pt bi 0)/\A7 h (some 12) (Pt si 1)=some (.agg (Dm t av))/\A7 h none (Pt si 2)=some (.str t.name)/\A7 h none (Pt si 12)=some (.int .i32 t.r)/\A7 h none (Pt si 10)=some (.bool t.sc)/\A7 h none (Pt bi 1)=some (I b.CQ)/\A7 h none (Pt bi 4)=some (I b.mode)/\A7 h none (Pt bi 5)=some (I b.SN)/\A7 h none (Pt bi 7)=some (I b.head)/\A7 h none (Pt bi 8)=some (I b.MT)/\A7 h none (Pt bi 14)=some (.bool b.fs)/\A7 h none (Pt bi 18)=some (I b.sw)/\A7 h none (Pt bi 19)=some (.bool b.stop):=by refine⟨by simp only[A7,w.sc];rfl,by simp only[A7,w.sc];rfl,by simp only[A7,w.sc];rfl,by simp only[A7,w.sc];rfl,by simp only[A7,w.sc];rfl,w.pb.dh⟩
def aNY(h:Ah)(F:Nat->Prop)(si:Nat)(f:FuncId)(args:List Aa)(r:Aa)(bi:Nat)(b':BS):Prop:=∃h' F',BK cx f args h r h'/\PB h' bi b' F'/\DB h (λi=>F i\/i=si) h' (λi=>F' i\/i=si)
def DB.mj(x:DB h F h' F'):DB h (λi=>F i\/i=si) h' (λi=>F' i\/i=si):=
 ⟨x.len,λi hi hn=>x.old i hi λhf=>hn (.inl hf),λi hi=>by
  rcases hi with hi|hi
  .rcases x.Bt i hi with h1|h1
   .exact .inl (.inl h1)
   .exact .inr h1
  .exact .inl (.inr hi)⟩
def Ui.Xf{f:FuncId}{args:List Aa}{r:Aa}(d:Ui h F f args r bi b'):aNY h F si f args r bi b':=by obtain⟨h1,i,e,g,c⟩:=d;exact⟨h1,i,e,g,c.mj⟩
end
end Go.Am
end
section
end
section
namespace Go.Am
open Go
section
variable{h h':Ah}{bi si:Nat}{b b':BS}{F F':Nat->Prop}{n o a:Nat}{t:Gk}{av:Aa}
def aNZ(w:SW h bi b F si t av)(g:Gz b (n+4*a+5) o a)(ht:t.Sm):Ui h F 120 [Pt si 0] (.tuple []) bi (b.Rd t):=by
 have g1:Gz b (n+5+4*a) o a:=g.dn Ab;unfold BS.Rd;by_cases j:t.r=0;.rw[Af j];have l0:=w.dh;refine⟨_,_,?_,w.pb,.refl⟩;rw[Ae,SX];simp only[abS,l0,AM j]
 rw[Ad j];dsimp only;by_cases l:t.H7;.rw[Af l];have l0:=w.dh;obtain⟨h1,x,m,i,d⟩:=cG w.pb g1;have w1:=w.after i d;have l1:=w1.dh;obtain⟨h2,F2,r2,f,c⟩:=vQ i g1.CR ht.r;have k:=w1.after f c;have p:=k.dh;have e:=Ź t av h2;rw[As l] at e;refine⟨_,_,?_,f,d.trans c⟩;rw[Ae,SX];simp only[abS,l0,m.Ac,l1,r2.Ac,p,e.Ac,j]
 .rw[Ad l];have l0:=w.dh;obtain⟨h1,x,m,i,d⟩:=cG w.pb g1;have w1:=w.after i d;have l1:=w1.dh;obtain⟨h2,F2,r2,f,c⟩:=vQ i g1.CR ht.r;have k:=w1.after f c;have p:=k.dh;have e:=Ź t av h2;rw[Aq l] at e;obtain⟨v,s,q⟩:=aI5 f false;have u:=k.after s q;have l3:=u.dh;refine⟨_,_,?_,s,(d.trans c).trans q⟩;rw[Ae,SX];simp only[abS,l0,m.Ac,l1,r2.Ac,p,e.Ac,v,j]
end
end Go.Am
end
section
end
section
namespace Go.Am
open Go
def Fr(id:Nat)(h h':Ah):Prop:=h.length<=h'.length/\∀i,i<h.length->i≠id->h'[i]?=h[i]?
def Fr.refl{id:Nat}{h:Ah}:Fr id h h:=⟨Ag _,λ_ _ _=>rfl⟩
section
variable{h:Ah}{id:Nat}{d:An->Option Aa}{s:An}{v:Aa}
end
section
variable{h h':Ah}{bi si:Nat}{b b':BS}{F F':Nat->Prop}{n o a:Nat}{t:Gk}{av:Aa}
def QJ(bi:Nat)(t:Gk)(av:Aa):Du:= .cells (Pt bi 0::Dm t av)
def SW.new(w:PB h bi b F)(t:Gk)(av:Aa):SW (h++[QJ bi t av]) bi b F h.length t av:=
 ⟨w.Ib,by simp[QJ],λhf=>Dj _ (w.lt hf)⟩
def lA{k h2:Ah}{id:Nat}{x:Du}(Ih:(h++[x]).length<=id)(f:Fr id (h++[x]) k)(e:DB k (λi=>F i\/i=h.length) h2 (λi=>F' i\/i=h.length)):DB h F h2 F':=by
 have l1:(h++[x]).length=h.length+1:=AH;have c:=f.1;have l3:=e.len;refine⟨Ab,λi hi hn=>?_,λi hf=>?_⟩;.rw[e.old i Ab (λh=>by rcases h with h|h;exact hn h;omega),f.2 i Ab Ab,Ai hi]
 .rcases e.Bt i (.inl hf) with(h1|h1)|h1
  .exact .inl h1
  .exact .inr Ab
  .exact .inr Ab
def aEk{k:Int}(hk:t.k=k)(h:1<=k/\k<=6):t.ok:=by unfold Gk.ok;omega
end
end Go.Am
end
section
end
section
namespace Go.Am
open Go
section
variable{h h':Ah}{bi si:Nat}{b b':BS}{F F':Nat->Prop}{n o a:Nat}{t:Gk}{av:Aa}
def aEl(w:PB h bi b F)(g:Gz b n o a):Ui h F 125 [Pt bi 0] (.tuple []) bi b.pY:=by
 have ye:=g.rm.tm;obtain⟨f,d,c,tt,G,w,hc,rfl⟩:=w;have lt:=w.t.1.len;have l6:=w.l6;by_cases h0:b.tm=[]
 .have e:b.pY=b:=by
   unfold BS.pY;have:b.tm.dropLast=b.tm:=by rw[h0];rfl
   rw[this]
  refine⟨h,_,?_,⟨f,d,c,tt,G,by rw[e];exact w,by rw[e];exact hc,rfl⟩,.refl⟩;have ş:AB (.len false) [tt]=some (I 0):=by rw[lt,h0];rfl
  rw[Ae,Wg];simp only[abS,l6,ş,IU]
 .have hpos:=Dy.2 h0;obtain⟨p,m,yh⟩:=AV.Lw (w.t.1.ne h0) (k:= .i64) (n:=b.tm.length-1) Ab;rw[<-JX] at yh;obtain⟨j,l,R_⟩:=ŝ (.inl yh) D9 h;have i:=w.YP R_;refine⟨_,_,?_,⟨f,d,c,j,G,i,hc,rfl⟩,Bg⟩;rw[Ae,Wg];simp only[abS,l6,lt,(Ab:(0:Int)<(b.tm.length:Int)),Hw hpos (Ab:b.tm.length<9223372036854775807),m,l.Ac,w.st (k:=6) (v0:=tt) rfl R_.1.cells,IU]
def ml(w:PB h bi b F)(g:Gz b (n+4*a+5) o a)(ht:t.Sm)(hk:t.k=5):Ui h F 34 [Pt bi 0,.agg (Dm t av)] ff bi (b.Rd t):=by have w0:=SW.new w t av;obtain⟨h2,F2,r2,e,d⟩:=(aNZ w0 g ht).Xf (si:=h.length);have c:=vR w t av;rw[As (aEk hk AU)] at c;refine⟨h2,F2,?_,e,lA (Ag _) .refl d⟩;rw[Ae,Yt,t34];simp only[QJ,Dm,hk] at r2 c;simp only[abS,Nat.reduceLeDiff,↓reduceIte,AT,Dm,c.Ac,hk,r2.Ac]
def lB(w:PB h bi b F)(g:Gz b (n+1) o a)(ht:t.Sm)(hk:t.k=4):Ui h F 34 [Pt bi 0,.agg (Dm t av)] ff bi (b.Fe t.data 0):=by have w0:=SW.new w t av;obtain⟨h2,F2,r2,e,d⟩:=cF w0.pb g (Br ht.data AU) 0;have c:=vR w t av;rw[As (aEk hk AU)] at c;refine⟨h2,F2,?_,e,lA (id:=h.length+1) AH .refl d.mj⟩;rw[Ae,Yt,t34];simp only[QJ,Dm,hk] at r2 c;simp only[abS,Nat.reduceLeDiff,↓reduceIte,AT,Dm,c.Ac,hk,r2.Ac,(AU:¬(4:Int)=5)]
def zl(w:PB h bi b F)(hk:t.k=1):Ui h F 34 [Pt bi 0,.agg (Dm t av)] ff bi b:=by have w0:=SW.new w t av;have c:=vR w t av;rw[As (aEk hk AU)] at c;refine⟨_,F,?_,w0.pb,lA (id:=h.length+1) (x:=QJ bi t av) AH .refl (DB.refl.mj)⟩;rw[Ae,Yt,t34];simp only[QJ,Dm,hk] at c⊢;simp only[abS,Nat.reduceLeDiff,↓reduceIte,AT,Dm,c.Ac,hk,(AU:¬(1:Int)=5),(AU:¬(1:Int)=4),(AU:¬(1:Int)=6),(AU:¬(1:Int)=2),(AU:¬(1:Int)=3)]
end
section
variable{h u:Ah}{bi k:Nat}{cs:List Aa}{v:Aa}
def mm(hk:k<cs.length):cs.take k++[v]++cs.drop (k+1)=cs.set k v:=by rw[BQ,Af hk];simp
def Za(hl:bi<h.length):(h.set bi (.cells cs)++u)[bi]?=some (.cells cs):=by rw[Ai (by simpa using hl),AO hl]
def lC(hl:bi<h.length){x y:Du}:(h.set bi x++u).set bi y=h.set bi y++u:=by rw[aJx _ _ (by simpa using hl),Pg]
def ź(hl:bi<h.length):A7 (h.set bi (.cells cs)++u) none (Pt bi k)=cs[k]?:=by simp only[A7,Za hl,Ex]
def Zb(hl:bi<h.length)(hv:v.cells=[v])(hk:k<cs.length):Co (h.set bi (.cells cs)++u) 1 (Pt bi k) v=some (h.set bi (.cells (cs.set k v))++u):=by simp only[Co,Za hl,hv,A9];rw[Af ⟨trivial,Ab⟩,mm hk,lC hl]
def aN0(hl:bi<h.length)(hk:4<cs.length)(m:Int):BK cx 109 [Pt bi 0,I m] (h.set bi (.cells cs)++u) tt (h.set bi (.cells (cs.set 4 (I m)))++u):=by have e:=Zb (h:=h) (u:=u) (bi:=bi) (k:=4) (cs:=cs) (v:= I m) hl rfl hk;rw[Ae,Wf];simp only[BF,e]
def Tl(l:List Int):(l.map BH).flatten=l.map (Aa.int .i64):=by
 induction l with
 |nil=>rfl
 |cons x l ih=>rw[Bk,CK,ih];rfl
def aN1(l:List Int)(h:Ah)(hb:l.length<=1000000000):∃v u,BK cx 200118 [.sl 1 (l.map BH)] h v (h++u)/\((l=[]/\v= .E4 1/\u=[])\/(l≠[]/\v= .Cs h.length 0 l.length 1/\u=[.cells (l.map (Aa.int .i64))])):=by
 have hm:AS=140737488355328:=rfl;cases l with
 |nil=>refine⟨.E4 1,[],?_,.inl ⟨rfl,rfl,rfl⟩⟩;rw[By,Ae,OI];have c:Jj h 1 8 (.E4 1) (.sl 1 [])=some (h,.E4 1):=rfl;simp only[BF,C2,show AB (.Gd false .sl) [.sl 1 [],.slnil]=some (.bool false) from rfl,show AB (.E4 1) []=some (.E4 1) from rfl,c]
 |cons x l=>
  refine⟨_,_,?_,.inr ⟨AH,rfl,rfl⟩⟩;have c:Jj h 1 8 (.E4 1) (.sl 1 ((x::l).map BH))=some (h++[.cells ((x::l).map (Aa.int .i64))],.Cs h.length 0 (x::l).length 1):=by
   have Qh:((x::l).map BH).length*8<=AS:=by rw[Aj];omega
   rw[<-Tl];simp only[Bk] at Qh⊢;simp only[Jj,Od,beq_self_eq_true,BI];rw[Af ⟨trivial,Qh⟩];simp
  rw[Ae,OI];simp only[BF,show AB (.Gd false .sl) [.sl 1 ((x::l).map BH),.slnil]=some (.bool false) from rfl,show AB (.E4 1) []=some (.E4 1) from rfl,c]
end
section
variable{h h':Ah}{bi:Nat}{b b':BS}{F F':Nat->Prop}{n o a:Nat}
def zn(w:PB h bi b F)(g:Gz b n o a)(m:Int):Ui h F 123 [Pt bi 0,I m] tt bi (b.D2 m).1:=by
 have ye:=g.rm.tm;have w0:=w;obtain⟨T,L,c,d,G,w,hc,rfl⟩:=w;have hl:=w.lt;obtain⟨cs,hcs⟩:∃cs,cs=IL T b L c d:=⟨_,rfl⟩;have hb:=w.hb;rw[<-hcs] at hb;have hcl:cs.length=20:=by rw[hcs];rfl
 have O:cs[6]?=some d:=by rw[hcs];rfl
 have e0:h=h.set bi (.cells cs)++[]:=by rw[By,SC hb]
 have lt:=w.t.1.len;have s:A7 h none (Pt bi 6)=some d:=w.l6;obtain⟨l',p_⟩:∃l',l'=b.tm.dropLast:=⟨_,rfl⟩;have M:l'.length=b.tm.length-1:=by rw[p_];simp
 obtain⟨v,u,hv,p,H⟩:∃v u,((l'=[]/\(v= .E4 1\/v= .slnil)/\u=[])\/(l'≠[]/\v= .Cs h.length 0 l'.length 1/\u=[Du.cells (l'.map (Aa.int .i64))]))/\v.cells=[v]/\
   BK cx 100125 [Pt bi 0] h (.tuple []) (h.set bi (.cells (cs.set 6 v))++u):=by
  by_cases hne:b.tm=[]
  .have B:=w.t;rw[hne] at B;have ş:AB (.len false) [d]=some (I 0):=by rw[lt,hne];rfl
   refine⟨d,[],.inl ⟨by rw[p_,hne];rfl,?_,rfl⟩,B.1.cells,?_⟩
   .rcases B with⟨q|⟨q,_⟩,N⟩
    .rcases(show AV 1 [] d from q) with q|⟨q,_⟩
     .exact absurd q N
     .exact .inr q
    .exact .inl q
   .have es:cs.set 6 d=cs:=by obtain⟨U8,Zm⟩:=Al.1 O;rw[<-Zm,HE]
    rw[es,<-e0,Ae,OG];simp only[abS,s,ş,IU]
  .have hpos:=Dy.2 hne;have y:d= .sl 1 (b.tm.map BH):=by
    rcases(show AV 1 (b.tm.map BH) d from w.t.1.ne hne) with e|⟨_,e⟩
    .exact e
    .exact absurd (by simpa using e) hne
   have es:AB (.KK 1 false false true) [d,I ((b.tm.length-1:Nat):Int)]=some (.sl 1 (l'.map BH)):=by
    have C:E6 ((b.tm.length-1:Nat):Int) (b.tm.map BH).length=some (b.tm.length-1):=by unfold E6;rw[Aj,Af Ab];rfl
    rw[y,p_,JX];simp only[AB,JE,D3,C,B5,Zf,BI,Ky,Ft]
   obtain⟨v,u,J,hv⟩:=aN1 l' h Ab;have p:v.cells=[v]:=by rcases hv with⟨_,rfl,_⟩|⟨_,rfl,_⟩<;>rfl
   have C:h++u=h.set bi (.cells cs)++u:=by rw[SC hb]
   have x:Co (h++u) 1 (Pt bi 6) v=some (h.set bi (.cells (cs.set 6 v))++u):=by rw[C];exact Zb hl p Ab
   refine⟨v,u,hv.imp (λh=>⟨h.1,.inl h.2.1,h.2.2⟩) id,p,?_⟩;rw[Ae,OG];simp only[abS,s,lt,(Ab:(0:Int)<(b.tm.length:Int)),Hw hpos (Ab:b.tm.length<9223372036854775807),es,J.Ac,x]
 have yx:A7 (h.set bi (.cells (cs.set 6 v))++u) none (Pt bi 6)=some v:=by rw[ź hl,AO Ab]
 have em:AB (.C8 1) [I m]=some (.sl 1 [[I m]]):=rfl;have aSY:AS=140737488355328:=rfl;obtain⟨id,r,j,Q,hfz⟩:∃(id:Nat) (r j:Ah),Fw (h.set bi (.cells (cs.set 6 v))++u) 1 8 v (.sl 1 [[I m]])=some (h.set bi (.cells (cs.set 6 v))++r,.Cs id 0 (l'.length+1) 1)/\∀ds:List Aa,Kd (h.set bi (.cells ds)++r) (.Cs id 0 (l'.length+1) 1)=some (h.set bi (.cells ds)++j,.sl 1 ((l'++[m]).map BH)):=by
  rcases hv with⟨h0,qJ,rfl⟩|⟨h0,rfl,rfl⟩
  .refine⟨h.length,[.cells [I m]],[.CF],?_,λds=>?_⟩
   .rw[h0,By];rcases qJ with rfl|rfl
    .simp[Fw,Gp];omega
    .simp[Fw,Gp];omega
   .rw[h0];have hg:(h.set bi (.cells ds)++[.cells [I m]])[h.length]?=some (.cells [I m]):=by rw[Bd AH];simp
    simp only[Kd,hg,BT,BL];rw[Af AH];congr 2
    rw[BB _ _ AH];simp
  .refine⟨h.length+1,[.CF,.cells ((l'++[m]).map (Aa.int .i64))],[.CF,.CF],?_,λds=>?_⟩
   .have hg:(h.set bi (.cells (cs.set 6 (.Cs h.length 0 l'.length 1)))++[.cells (l'.map (Aa.int .i64))])[h.length]?=some (.cells (l'.map BH).flatten):=by rw[Bd AH,Tl];simp
    have:=IF (id:=h.length) (z:=1) (b:=8) (v:= .sl 1 [[I m]]) (AD:=l'.map BH) (r2:=[[I m]]) (Kq (f:=BH) (λa=>rfl) l') AU hg .mk AH D9;rw[Aj] at this;rw[this];congr 2
    .rw[BB _ _ AH];have:([m].map (Aa.int .i64))=[[I m]].flatten:=rfl;simp[Tl]
    .simp
   .have hg:(h.set bi (.cells ds)++[Du.CF,.cells ((l'++[m]).map (Aa.int .i64))])[h.length+1]?=some (.cells ((l'++[m]).map BH).flatten):=by rw[Bd AH,Tl];simp
    have:=I2 (Kq (f:=BH) (z:=1) (λa=>rfl) (l'++[m])) hg;rw[Aj,Av,A9] at this;rw[this];congr 2
    rw[BB _ _ AH];simp
 have yk:=Zb (h:=h) (u:=r) (bi:=bi) (k:=6) (cs:=cs.set 6 v) (v:= .Cs id 0 (l'.length+1) 1) hl rfl D9;rw[Pg] at yk;have K:=aN0 (h:=h) (u:=r) (bi:=bi) (cs:=cs.set 6 (.Cs id 0 (l'.length+1) 1)) hl D9 m;have fz:=hfz ((cs.set 6 (.Cs id 0 (l'.length+1) 1)).set 4 (I m));have hfa:KR (h.set bi (.cells ((cs.set 6 (.Cs id 0 (l'.length+1) 1)).set 4 (I m)))++r) 6 (Pt bi 0)=some (h.set bi (.cells ((cs.set 4 (I m)).set 6 (.sl 1 ((l'++[m]).map BH))))++j):=by
  have A:((cs.set 6 (.Cs id 0 (l'.length+1) 1)).set 4 (I m))[0+6]?=some (.Cs id 0 (l'.length+1) 1):=by rw[BL,Ap AU,AO Ab]
  unfold KR;simp only[Za hl,A,fz,Cm,lC hl];congr 3
  rw[BL,List.set_comm _ _ (AU:(4:Nat)≠6),Pg,List.set_comm _ _ (AU:(6:Nat)≠4)]
 have w1:=w0.Ib (u:=j);obtain⟨_,E,_⟩:=Y7 w1 m;obtain⟨_,D,_⟩:=aI6 E (l:=l'++[m]) (v:= .sl 1 ((l'++[m]).map BH)) .rS;have P:Am.put (Am.put (h++j) bi 4 (I m)) bi 6 (.sl 1 ((l'++[m]).map BH))=h.set bi (.cells ((cs.set 4 (I m)).set 6 (.sl 1 ((l'++[m]).map BH))))++j:=by
  have S:h++j=h.set bi (.cells cs)++j:=by rw[SC hb]
  rw[S,Hy (Za hl),lC hl,Hy (Za hl),lC hl]
 rw[P] at D;have R:(b.D2 m).1={{b with mode:=m} with tm:=l'++[m]}:=by rw[p_];rfl
 rw[R];refine⟨_,_,?_,D,?_⟩;.rw[Ae,fQ];simp only[BF,H.Ac,yx,em,Q,yk,K.Ac,hfa]
 .refine⟨AH,λi hi hF=>?_,λi hi=> .inl hi⟩;have aN2:i≠bi:=λe=>hF (.inl e);rw[Ai (by simpa using hi),Ap (DJ aN2)]
end
section
variable{h h':Ah}{bi:Nat}{b b':BS}{F:Nat->Prop}{n o a:Nat}{t:Gk}{av:Aa}
def Ż(hs:t.st MF):¬t.st [aTT]:=λhx=>absurd (Dt.1 hx.2▸hs.2:aTT∈MF) Di
def aN3(w:PB h bi b F)(g:Gz b (n+4*a+1005) o a)(ht:t.Sm)(hv:Bq t.Az av):Ui h F 36 [Pt bi 0,.agg (Dm t av)] (.bool (b.EY t).2) bi (b.EY t).1:=by
 have dh:=w.dh;unfold BS.EY BS.RL;by_cases D:¬t.ok;.rw[Af D];have f:=vR w t av;rw[Aq D] at f;refine⟨_,_,?_,w,.refl⟩;rw[Ae,Jo];simp only[abS,↓reduceIte,f.Ac]
 rw[Ad D];have f:=vR w t av;rw[As (Kb.1 D)] at f;by_cases i:t.k=5;.rw[Af i];obtain⟨h1,r,d,w1,c⟩:=ml (n:=n) (av:=av) w (g.dn Ab) ht i;refine⟨_,_,?_,w1,c⟩;rw[Ae,Jo];simp only[abS,↓reduceIte,f.Ac,AM i,d.Ac]
 rw[Ad i];by_cases j:t.k=4;.rw[Af j];obtain⟨h1,r,d,w1,c⟩:=lB (n:=n) (av:=av) w (g.dn Ab) ht j;refine⟨_,_,?_,w1,c⟩;rw[Ae,Jo];simp only[abS,↓reduceIte,f.Ac,i,AM j,d.Ac]
 rw[Ad j];by_cases l:t.k=1;.rw[Af l];obtain⟨h1,r,d,w1,c⟩:=zl (av:=av) w l;refine⟨_,_,?_,w1,c⟩;rw[Ae,Jo];simp only[abS,↓reduceIte,f.Ac,i,j,AM l,d.Ac]
 rw[Ad l];by_cases y:t.st MF;.rw[Af y];have m:=LH cH t av h;rw[As y] at m;obtain⟨h1,r,d,w1,c⟩:=aJc (n:=n) w (g.dn Ab) ht hv (λe=>absurd e (Ż y));refine⟨_,_,?_,w1,c⟩;rw[Ae,Jo];simp only[abS,↓reduceIte,f.Ac,m.Ac,i,j,l,d.Ac]
 rw[Ad y];have m:=LH cH t av h;rw[Aq y] at m;by_cases x:t.en [AK];.rw[Af x];have p:=mh Jb t av h;rw[As x] at p;obtain⟨h1,r,d,w1,c⟩:=aJc (n:=n) w (g.dn Ab) ht hv (λe=>by have h1:=e.1;have h2:=x.1;omega);refine⟨_,_,?_,w1,c⟩;rw[Ae,Jo];simp only[abS,↓reduceIte,f.Ac,m.Ac,p.Ac,i,j,l,d.Ac]
 rw[Ad x];have p:=mh Jb t av h;rw[Aq x] at p;by_cases C:t.st sT1;.rw[Af C];have q:=LH zg t av h;rw[As C] at q;obtain⟨h1,r,d,w1,c⟩:=zn w g 9;refine⟨_,_,?_,w1,c⟩;rw[Ae,Jo];simp only[abS,↓reduceIte,f.Ac,m.Ac,p.Ac,q.Ac,i,j,l,d.Ac,BS.D2,BS.again]
 rw[Ad C];have q:=LH zg t av h;rw[Aq C] at q;by_cases B:t.st [aUF];.rw[Af B];have s:=LH dv t av h;rw[As B] at s;obtain⟨h1,r,d,w1,c⟩:=zn w g 12;refine⟨_,_,?_,w1,c⟩;rw[Ae,Jo];simp only[abS,↓reduceIte,f.Ac,m.Ac,p.Ac,q.Ac,s.Ac,i,j,l,d.Ac,BS.D2,BS.again]
 rw[Ad B];have s:=LH dv t av h;rw[Aq B] at s;by_cases A:t.st [[116,114]];.rw[Af A];have u:=LH zi t av h;rw[As A] at u;obtain⟨h1,r,d,w1,c⟩:=zn w g 13;refine⟨_,_,?_,w1,c⟩;rw[Ae,Jo];simp only[abS,↓reduceIte,f.Ac,m.Ac,p.Ac,q.Ac,s.Ac,u.Ac,i,j,l,d.Ac,BS.D2,BS.again]
 rw[Ad A];have u:=LH zi t av h;rw[Aq A] at u;by_cases z:t.st sTd;.rw[Af z];have v:=LH zh t av h;rw[As z] at v;obtain⟨h1,r,d,w1,c⟩:=zn w g 14;refine⟨_,_,?_,w1,c⟩;rw[Ae,Jo];simp only[abS,↓reduceIte,f.Ac,m.Ac,p.Ac,q.Ac,s.Ac,u.Ac,v.Ac,i,j,l,d.Ac,BS.D2,BS.again]
 rw[Ad z];have v:=LH zh t av h;rw[Aq z] at v;by_cases L9:t.k=2;.rw[Af L9];obtain⟨h1,r,d,w1,c⟩:=zn w g 7;refine⟨_,_,?_,w1,c⟩;rw[Ae,Jo];simp only[abS,↓reduceIte,f.Ac,m.Ac,p.Ac,q.Ac,s.Ac,u.Ac,v.Ac,i,j,l,AM L9,d.Ac,BS.D2,BS.again]
 rw[Ad L9];by_cases MP:t.k=3;.rw[Af MP];refine⟨_,_,?_,w,.refl⟩;rw[Ae,Jo];simp only[abS,↓reduceIte,f.Ac,m.Ac,p.Ac,q.Ac,s.Ac,u.Ac,v.Ac,i,j,l,L9,AM MP]
 rw[Ad MP];by_cases Nq:b.eW;.rw[Af Nq];have mi:=aJb w g;rw[As Nq] at mi;obtain⟨_,h1,r,d,w1,c⟩:=Ÿ w g (CX (ws:=[AK])) AU;have g1:Gz {b with AW:=DA Cx (Bs [AK]) b.AW} (n+4*a+1005) o a:=g.SR DO;obtain⟨_,h2,F2,r2,K,H⟩:=ŷ w1 g1;have g2:Gz {b with AW:=DA Cx (Bs [AK]) b.AW,A5:=Ee b.A5} (n+4*a+1005) o a:=g.sub (lt:=b.tm) DO (CM _ _) (Ag _);have g3:Gz {b with AW:=DA Cx (Bs [AK]) b.AW,A5:=Ee b.A5,tm:=b.tm.dropLast} (n+4*a+1005) o a:=g.sub DO (CM _ _) AH;obtain⟨O,Q,M,J,G⟩:=aEl K g2;obtain⟨N,P,L,I,E⟩:=Ŷ J g3;refine⟨_,_,?_,I,((c.trans H).trans G).trans E⟩;rw[Ae,Jo];simp only[abS,↓reduceIte,f.Ac,m.Ac,p.Ac,q.Ac,s.Ac,u.Ac,v.Ac,mi.Ac,i,j,l,L9,MP,bT,d.Ac,r2.Ac,M.Ac,L.Ac]
 rw[Ad Nq];have mi:=aJb w g;rw[Aq Nq] at mi;obtain⟨h1,r,d,w1,c⟩:=aEb w;refine⟨_,_,?_,w1,c⟩;rw[Ae,Jo];simp only[abS,↓reduceIte,f.Ac,m.Ac,p.Ac,q.Ac,s.Ac,u.Ac,v.Ac,mi.Ac,i,j,l,L9,MP,d.Ac]
end
end Go.Am
end
section
end
section
end
section
end
section
end
section
namespace Go.Am
open Go
def aJf{t:Gk}{av:Aa}(hv:Bq t.Az av)(hl:t.Az.length<=1000000):∃cB,Bq t.Az cB/\∀h,BK cx 26 [.agg (Dm t av)] h (.agg (Dm t cB)) h:=by obtain⟨u,e,hu⟩:=AV.eM (l:=([]:List A6)) (f:=A6.row) (v:= .slnil) (b:=40) (.inr ⟨rfl,rfl⟩) hv (by simp;have:AS=140737488355328:=rfl;omega);refine⟨u,hu,λh=>?_⟩;have hc:u.cells=[u]:=AV.cells hu;rw[Ae,uB];simp only[BF,Nat.reduceLeDiff,↓reduceIte,Dm,e,hc,Bf,BT,NP,aKo]
section
variable{sa:List A6->Bool}{t:Gk}{av:Aa}{h:Ah}
def Gk.Re(sa:List A6->Bool)(t:Gk):Bool:=decide (t.name.length<=60)&&(decide (t.nj.length<=100)&&(decide (t.sys.length<=100)&&(decide (t.data.length<=200)&&sa t.Az)))
def aN4(j:∀{v:Aa} {l:List A6} (h:Ah),Bq l v->BK cx 11 [v] h (.bool (sa l)) h)(hv:Bq t.Az av)(h:Ah):BK cx 6 [.agg (Dm t av)] h (.bool (t.Re sa)) h:=by
 rw[Ae,aGs];unfold Gk.Re;have b:((t.name.length:Int)<=60)=(t.name.length<=60):=propext Ab;have d:((t.nj.length:Int)<=100)=(t.nj.length<=100):=propext Ab;have f:((t.sys.length:Int)<=100)=(t.sys.length<=100):=propext Ab;have i:((t.data.length:Int)<=200)=(t.data.length<=200):=propext Ab;by_cases a:t.name.length<=60;rotate_left;.simp only[abS,Nat.reduceLeDiff,↓reduceIte,Dm,b,a,IU]
 by_cases c:t.nj.length<=100;rotate_left;.simp only[abS,Nat.reduceLeDiff,↓reduceIte,Dm,b,a,d,c,IU]
 by_cases e:t.sys.length<=100;rotate_left;.simp only[abS,Nat.reduceLeDiff,↓reduceIte,Dm,b,a,d,c,f,e,IU]
 by_cases g:t.data.length<=200;rotate_left;.simp only[abS,Nat.reduceLeDiff,↓reduceIte,Dm,b,a,d,c,f,e,i,g,IU]
 .simp only[abS,Nat.reduceLeDiff,↓reduceIte,Dm,b,a,d,c,f,e,i,g,IU,(j h hv).Ac]
end
end Go.Am
end
section
end
section
end
section
end
section
end
section
end
section
end
section
end
section
end
section
namespace Go.Am
open Go
def Is(r:Ke):HF:=λx vs h=>r=(x,vs,h)
def Is.ret{C:F8}{f:FuncId}{args:List Aa}{h h':Ah}{v:Aa}(hw:W C (B9 C f args) (Is (.ret,[v],h')) h):BK C f args h v h':=
 hw.mono λx vs h1 e=>by unfold Is at e;cases e;exact⟨rfl,rfl,rfl⟩
def Is.of{C:F8}{f:FuncId}{args:List Aa}{h h':Ah}{v:Aa}(hr:BK C f args h v h'):W C (B9 C f args) (Is (.ret,[v],h')) h:=
 W.mono hr λx vs h1 ⟨c,b,a⟩=>by unfold Is;rw[c,b,a]
section
variable{C:F8}{fn':FuncId->List Aa->IT}
def zp{rec:IT->Ah->Option Ke}(VC:∀t h r,rec t h=some r->W C t (Is r) h)(dy:∀f args h r,rec (fn' f args) h=some r->W C (B9 C f args) (Is r) h):
  ∀(t:IT) (h:Ah) (r:Ke),IT.step fn' rec t h=some r->W C t (Is r) h:=by
 intro t;induction t with
 |ret x vs=>intro h r d;simp only[IT.step,BD] at d;exact aAn d.symm
 |fail=>intro h r d;simp[IT.step] at d
 |op o args k ih=>
  intro h r d;simp only[IT.step] at d;split at d;.rename_i v e;exact aFm e (ih _ _ _ d)
  .cases d
 |cells n v k ih=>
  intro h r d;simp only[IT.step] at d;split at d;.rename_i hc;exact wN hc (ih _ _ _ d)
  .cases d
 |Gg c t e i w=>
  intro h r d;simp only[IT.step] at d;split at d;.exact wO (λ_=>i _ _ d) λh=>by cases h
  .exact wO (λh=>by cases h) λ_=>w _ _ d
  .cases d
 |load n p k ih=>
  intro h r d;simp only[IT.step] at d;split at d;.rename_i v e;exact o_ e (ih _ _ _ d)
  .cases d
 |store n p v k ih=>
  intro h r d;simp only[IT.step] at d;split at d;.rename_i v e;exact wQ e (ih _ _ d)
  .cases d
 |alloc n v k ih=>
  intro h r d;simp only[IT.step,WN] at d;by_cases hc:v.cells.length=n;.rw[Af hc] at d;exact wR hc (ih _ _ _ d)
  .rw[Ad hc] at d;cases d
 |call f args k ih=>
  intro h r d;simp only[IT.step] at d;split at d;.rename_i v h1 e;exact(Is.ret (dy _ _ _ _ e)).Ac.2 (ih _ _ _ d)
  .cases d
 |Jc g args k ih=>
  intro h r d;simp only[IT.step] at d;split at d
  .rename_i f a ht;split at d;.rename_i v h1 e;exact M5.2 ⟨(f,a),ht,(Is.ret (dy _ _ _ _ e)).Ac.2 (ih _ _ _ d)⟩
   .cases d
  .cases d
 |B7 f args k ih=>
  intro h r d;simp only[IT.step] at d;split at d
  .rename_i Hm;split at d
   .rename_i v h1 e;split at d;.rename_i mw;have hp:JQ C f args v:=(Is.ret (dy _ _ _ _ e)).ev rfl;exact(hp.B7 Hm mw).2 (ih _ _ _ d)
    .cases d
   .cases d
  .cases d
 |loop key init body k u j=>
  intro h r d;simp only[IT.step] at d;split at d;.rename_i vs h1 e;exact PL ((u _ _ _ e).mono λx l h2 q=>by unfold Is at q;cases q;exact .inl ⟨rfl,VC _ _ _ d⟩)
  .rename_i x vs h1 hne e;exact PL ((u _ _ _ e).mono λx l h2 q=>by unfold Is at q;cases q;exact .inr ⟨λhx=>hne hx,j _ _ _ _ d⟩)
  .cases d
 |Oc key t k i j=>
  intro h r d;simp only[IT.step] at d;split at d;.rename_i x vs h1 e;exact po ((i _ _ e).mono λx l h2 q=>by unfold Is at q;cases q;exact j _ _ _ _ d)
  .cases d
 |same a b k ih=>
  intro h r d;simp only[IT.step] at d;split at d;.rename_i hc;exact pc hc (ih _ _ d)
  .cases d
 |Pm k ih=>intro h r d;simp only[IT.step] at d;exact pd (ih _ _ _ d)
 |KE m key v k ih=>
  intro h r d;simp only[IT.step] at d;split at d;.rename_i h1 e;exact pg e (ih _ _ d)
  .cases d
 |Mj z ok m key k ih=>
  intro h r d;simp only[IT.step] at d;split at d;.rename_i h1 e;exact ph e (ih _ _ _ d)
  .cases d
 |make size bytes zero len cap k ih=>
  intro h r d;simp only[IT.step] at d;split at d;.rename_i h1 v e;exact qW e (ih _ _ _ d)
  .cases d
 |Lm size bytes s x k ih=>
  intro h r d;simp only[IT.step] at d;split at d;.rename_i h1 v e;exact wS e (ih _ _ _ d)
  .cases d
 |Ff s k ih=>
  intro h r d;simp only[IT.step] at d;split at d;.rename_i h1 v e;exact Xb e (ih _ _ _ d)
  .cases d
 |Ph v k ih=>
  intro h r d;simp only[IT.step] at d;split at d;.rename_i h1 v e;exact aAo e (ih _ _ _ d)
  .cases d
 |Pn off p k ih=>
  intro h r d;simp only[IT.step] at d;split at d;.rename_i h1 e;exact wT e (ih _ _ d)
  .cases d
 |JL size bytes s x k ih=>
  intro h r d;simp only[IT.step] at d;split at d;.rename_i h1 v e;exact pj e (ih _ _ _ d)
  .cases d
 |GD size bytes s x k ih=>
  intro h r d;simp only[IT.step] at d;split at d;.rename_i v e;exact Z3 e (ih _ _ _ d)
  .cases d
 |mem o args k ih=>
  intro h r d;simp only[IT.step] at d;split at d;.rename_i h1 v e;exact aAp e (ih _ _ _ d)
  .cases d
 |wF f args k ih=>
  intro h r d;simp only[IT.step] at d;split at d
  .rename_i v h1 e;split at d;.rename_i mw;obtain⟨n,x,vs,h2,D,y⟩:=dy _ _ _ _ e;unfold Is at y;cases y;obtain⟨m,x',HS,h',B,A⟩:=(ih _ _ _ d).succ;refine C7 ⟨max n m,x',HS,h',?_,A⟩;have a1:=IT.Ig (HP n m) D;have a2:=IT.JY (λt h r=>IT.Ig (fn:=B9 C) (Ho n m)) _ _ _ B;simp only[IT.step];simp only[F8.run] at*;rw[a1];simp only[mw,BI];exact a2
   .cases d
  .cases d
def aEm(C:F8)(fn':FuncId->List Aa->IT):Prop:=∀f args,fn' f args=B9 C f args\/∀n h r,IT.run fn' n (fn' f args) h=some r->W C (B9 C f args) (Is r) h
def lD(hs:aEm C fn'):∀(n:Nat) (t:IT) (h:Ah) (r:Ke),IT.run fn' n t h=some r->W C t (Is r) h
 |0,t,h,r,a=>by simp[IT.run] at a
 |n+1,t,h,r,a=>by
  refine zp (rec:=IT.run fn' n) (lD hs n) ?_ t h r a;intro f args h r a;rcases hs f args with e|e
  .rw[e] at a;exact lD hs n _ _ _ a
  .exact e n h r a
def mn(hs:aEm cx fn'){f:FuncId}{args:List Aa}{h:Ah}(n:Nat)(hr:Yy (IT.run fn' n (B9 cx f args) h)=true):Ev cx f args h λr _=>r= .bool true:=by obtain⟨h',e⟩:=ZO hr;exact(Is.ret (lD hs n _ _ _ e)).ev rfl
def dz(v:Aa):IT:= .Ff (.str []) λu=> .Ph u λ_=> .ret .ret [v]
def cL{n:Nat}{v:Aa}{h:Ah}{r:Ke}(e:IT.run fn' n (dz v) h=some r):r=(.ret,[v],h++[.CF]):=by
 cases n with
 |zero=>simp[IT.run] at e
 |succ n=>
  have e0:IV h (.str [])=some (h++[.cells []],.Cs h.length 0 0 1):=rfl;have a:Kd (h++[.cells []]) (.Cs h.length 0 0 1)=some (h++[.CF],.sl 1 []):=by simp[Kd,Cw]
  simp only[IT.run,dz,IT.step,e0,a,BD] at e;exact e.symm
end
theorem aJg{l:An}{ws:List An}(w:WI l ws)(s:An)(h:Ah):BK cx 243 [.str s,.str l] h (.bool (decide (s∈ws))) (h++[.CF]):=by have a:=aEh w h;have r2:=ŋ (CX (ws:=ws)) (by have:=w.few;omega) s (h++[Du.CF]);rw[Ae,Wu];simp only[BF,a.Ac,r2.Ac]
def eqB:An->An->Bool
 |[],[]=>true
 |a::s,b::t=>Nat.beq a.toNat b.toNat&&eqB s t
 |_,_=>false
theorem d_:∀{s t:An},eqB s t=true↔s=t
 |[],[]=>by simp[eqB]
 |[],b::t=>by simp[eqB]
 |a::s,[]=>by simp[eqB]
 |a::s,b::t=>by simp only[eqB,Bv,d_ (s:=s) (t:=t),E5,Nat.beq_eq];exact⟨λ⟨h1,h2⟩=>⟨Vm.1 h1,h2⟩,λ⟨h1,h2⟩=>⟨by rw[h1],h2⟩⟩
def spN(n:Nat):Bool:=(Nat.ble 9 n&&Nat.ble n 13)||Nat.beq n 32
theorem aEo(c:UInt8):spN c.toNat=N5 c:=by unfold spN N5;rw[OS];simp only[OR,Bv,Nat.ble_eq,Nat.beq_eq,CL]
def oa:An->An->List An
 |cur,[]=>match cur with
  |[]=>[]
  |_::_=>[cur.reverse]
 |cur,c::r=>match spN c.toNat with
  |true=>match cur with
   |[]=>oa [] r
   |_::_=>cur.reverse::oa [] r
  |false=>oa (c::cur) r
theorem lE:∀(s cur:An),oa cur s=wf cur.reverse s
 |[],[]=>by simp[oa,wf]
 |[],c::cur=>by simp[oa,wf]
 |c::r,cur=>by
  have h1:=aEo c;cases hc:N5 c with
  |true=>
   rw[hc] at h1;cases cur with
   |nil=>simp[oa,wf,h1,hc,lE r []]
   |cons x cur=>simp[oa,wf,h1,hc,lE r []]
  |false=>rw[hc] at h1;simp[oa,wf,h1,hc,lE r (c::cur)]
def okB(l:An):Bool:=Nat.ble l.length 1000000&&l.all λc=>Nat.ble (c.toNat+1) 128
theorem ee{l:An}(h:okB l=true):WI l (oa [] l):=by unfold okB at h;simp only[Bv,Nat.ble_eq,C9] at h;exact⟨h.1,λc hc=>by have:=h.2 c hc;omega,by rw[lE];rfl⟩
def vU(s:An)(l:List An):Bool:=l.any (eqB s)
theorem mo(s:An)(l:List An):vU s l=decide (s∈l):=by rw[OS];simp only[vU,Ts,d_,CL];exact⟨λ⟨x,h1,h2⟩=>h2▸h1,λh=>⟨s,h,rfl⟩⟩
theorem aJh(r:Int)(h:Ah):BK cx 233 [.int .i32 r] h (.bool (decide (Y5 r))) h:=by
 have b:∀(lo hi:Int) (h:Ah),BK cx 361 [.int .i32 lo,.int .i32 hi] h (.func (.func 414) [] [.CJ [.int .i32 lo],.CJ [.int .i32 hi]]) h:=λlo hi h=>by rw[Ae,S1];simp only[abS]
 have e:∀(v:Aa) (h:Ah),v.cells=[v]->BK cx 360 [v] h (.func (.func 413) [] [.CJ [v]]) h:=λv h hv=>by rw[Ae,Wy];simp only[abS,hv]
 have c:=aI9 (L:=[(9,10),(12,13),(32,32)]) AU r h;have a:AB (.C8 1) [.func (.func 414) [] [.CJ [.int .i32 9],.CJ [.int .i32 10]],.func (.func 414) [] [.CJ [.int .i32 12],.CJ [.int .i32 13]],.func (.func 414) [] [.CJ [.int .i32 32],.CJ [.int .i32 32]]]=some (.sl 1 ([((9:Int),(10:Int)),(12,13),(32,32)].map Vi)):=rfl;have d:∀v:Aa,DD (.func (.func 413) [] [v]) [.int .i32 r]=some (413,[.int .i32 r,v]):=λ_=>rfl;have r2:=e (.sl 1 ([((9:Int),(10:Int)),(12,13),(32,32)].map Vi)) h rfl;have e0:decide (Y5 r)=([((9:Int),(10:Int)),(12,13),(32,32)].any λp=>decide (p.1<=r/\r<=p.2)):=by
  have a:Y5 r↔((9<=r/\r<=10)\/(12<=r/\r<=13)\/(32<=r/\r<=32)):=by unfold Y5;omega
  simp only[Nx,Uo,JI,<-Bool.decide_or,Db];exact a
 rw[e0,Ae,Ws];simp only[abS,(b 9 10 h).Ac,(b 12 13 h).Ac,(b 32 32 h).Ac,a,r2.Ac,d,c.Ac]
def zq(d:IT):List Aa->IT
 |[.str s,.str l]=>match okB l with
  |true=>dz (.bool (vU s (oa [] l)))
  |false=>d
 |_=>d
def zr(d:IT):List Aa->IT
 |[.str l]=>match okB l with
  |true=>dz (.sl 1 ((oa [] l).map CC))
  |false=>d
 |_=>d
def zt(d:IT):List Aa->IT
 |[.int .i32 r]=> .ret .ret [.bool (decide (Y5 r))]
 |_=>d
noncomputable def aJi(f:FuncId)(args:List Aa):IT:=
 match Nat.beq f 243 with
 |true=>zq (tab f args) args
 |false=>match Nat.beq f 368 with
  |true=>zr (tab f args) args
  |false=>match Nat.beq f 233 with
   |true=>zt (tab f args) args
   |false=>tab f args
theorem ż:aEm cx aJi:=by
 intro f args;unfold aJi;split
 .rename_i hf;have hf:=Nd hf;subst hf;unfold zq;split
  .rename_i s l;split;.rename_i ho;refine .inr λn h r e=>?_;rw[cL e,mo];exact Is.of (aJg (ee ho) s h)
   .exact .inl (by rw[RH])
  .exact .inl (by rw[RH])
 .split
  .rename_i hf;have hf:=Nd hf;subst hf;unfold zr;split
   .rename_i l;split;.rename_i ho;refine .inr λn h r e=>?_;rw[cL e];exact Is.of (aEh (ee ho) h)
    .exact .inl (by rw[RH])
   .exact .inl (by rw[RH])
  .split
   .rename_i hf;have hf:=Nd hf;subst hf;unfold zt;split
    .rename_i a;refine .inr λn h r e=>?_;cases n with
     |zero=>simp[IT.run] at e
     |succ n=>simp only[IT.run,IT.step,BD] at e;rw[<-e];exact Is.of (aJh a h)
    .exact .inl (by rw[RH])
   .exact .inl (by rw[RH])
theorem vV:Ev cx 7 [] [] λr _=>r= .bool true:=mn ż 3000 Dg
theorem vW:JQ cx 7 [] tt:=vV
end Go.Am
end
