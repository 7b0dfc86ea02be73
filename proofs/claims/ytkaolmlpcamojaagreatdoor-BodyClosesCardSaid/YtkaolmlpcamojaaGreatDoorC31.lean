/- Lemmas -/
import Derived.Test.YtkaolmlpcamojaaGreatDoorC30
import Derived.Test.YtkaolmlpcamojaaGreatDoorC28
set_option linter.all false
set_option maxRecDepth 100000
section
end
section
end
section
end
section
namespace Go.Am
open Go
structure SW(h:Ah)(bi:Nat)(b:BS)(F:Nat->Prop)(si:Nat)(t:GD)(av:Aa):Prop where
 pb:PB h bi b F
 sc:h[si]?=some (.cells (Pt bi 0::C7 t av))
 no:¬F si
section
variable{h h':Ah}{bi si:Nat}{b b':BS}{F F':Nat->Prop}{n o a:Nat}{t:GD}{av:Aa}
def SW.after(w:SW h bi b F si t av)(p:PB h' bi b' F')(x:DC h F h' F'):SW h' bi b' F' si t av:=by
 have hl:=(Ak.1 w.sc).1;refine⟨p,by rw[x.old si hl w.no];exact w.sc,λhf=>?_⟩;rcases x.Bu si hf with h1|h1
 .exact w.no h1
 .omega
def SW.IP(w:SW h bi b F si t av):A8 h none (Pt si 0)=some (Pt bi 0)/\A8 h (some 12) (Pt si 1)=some (.agg (C7 t av))/\A8 h none (Pt si 2)=some (.str t.name)/\A8 h none (Pt si 12)=some (.int .i32 t.r)/\A8 h none (Pt si 10)=some (.bool t.sc)/\A8 h none (Pt bi 1)=some (I b.CQ)/\A8 h none (Pt bi 4)=some (I b.mode)/\A8 h none (Pt bi 5)=some (I b.S0)/\A8 h none (Pt bi 7)=some (I b.head)/\A8 h none (Pt bi 8)=some (I b.Fk)/\A8 h none (Pt bi 14)=some (.bool b.fs)/\A8 h none (Pt bi 18)=some (I b.sw)/\A8 h none (Pt bi 19)=some (.bool b.stop):=by refine⟨by simp only[A8,w.sc];rfl,by simp only[A8,w.sc];rfl,by simp only[A8,w.sc];rfl,by simp only[A8,w.sc];rfl,by simp only[A8,w.sc];rfl,w.pb.IP⟩
def qE{s:Ai}:AD (.Dm 1) [.str s]=some (.sl 1 ([s].map Cr)):=DR (ws:=[s]) rfl AH
def mm(w:SW h bi b F si t av)(g:Gz b n o a)(s:Ai):BL cx 373 [Pt si 0,.str s] h (.bool (b.has [s])) h:=by have l0:=w.IP;have c:=Ts w.pb g 1 (Cc (ws:=[s])) AH;rw[Ae,jS];simp only[abS,l0,qE,c.Ac];rfl
def mn(w:SW h bi b F si t av)(g:Gz b n o a)(s ex:Ai):N7 h F 374 [Pt si 0,.str s,.str ex] (.tuple []) bi (b.Hc s ex):=by have l0:=w.IP;obtain⟨_,h1,l,j,f,d⟩:=Uv w.pb g ex;have w1:=w.after f d;have l1:=w1.IP;obtain⟨_,h2,F2,r2,e,c⟩:=dh f (g.LM CT) (Cc (ws:=[s])) AH;have i:=w1.after e c;have k:=i.IP;refine⟨_,_,?_,e,d.trans c⟩;rw[Ae,jT];simp only[abS,l0,j.Ac,l1,r2.Ac,qE]
def Ź(h:Ah)(F:Nat->Prop)(si:Nat)(f:FuncId)(args:List Aa)(r:Aa)(bi:Nat)(b':BS):Prop:=∃h' F',BL cx f args h r h'/\PB h' bi b' F'/\DC h (λi=>F i\/i=si) h' (λi=>F' i\/i=si)
def DC.aEm(x:DC h F h' F'):DC h (λi=>F i\/i=si) h' (λi=>F' i\/i=si):=
 ⟨x.len,λi hi hn=>x.old i hi λhf=>hn (.inl hf),λi hi=>by
  rcases hi with hi|hi
  .rcases x.Bu i hi with h1|h1
   .exact .inl (.inl h1)
   .exact .inr h1
  .exact .inl (.inr hi)⟩
def N7.QR{f:FuncId}{args:List Aa}{r:Aa}(d:N7 h F f args r bi b'):Ź h F si f args r bi b':=by obtain⟨h1,i,e,g,c⟩:=d;exact⟨h1,i,e,g,c.aEm⟩
def aEn:Vp aUp DP:=vZ C4
def qF{x:A5}{l:List A5}:BS.Qd (x::l)=if x.name=aU8 then decide (Fo x.value=aU0) else BS.Qd l:=by
 unfold BS.Qd;rw[FF];by_cases h:x.name=aU8;.simp[h]
 .simp[h]
def aOg(ht:t.Sm)(hv:Bt t.Ay av)(h:Ah):BL cx 372 [.agg (C7 t av)] h (.bool (BS.Qd t.Ay)) h:=by
 have dU:AX=140737488355328:=rfl;have DJ:AU 3 (t.Ay.map A5.row) av:=hv;have e:=AU.CN DJ;have hb:=ht.Ay.1;have hcl:Fo aU0=aU0:=PV AM;rw[Ae,jR];simp only[BD,e];refine Bi (λn:Nat=>[ff,I (n:Int)]) (λn h1=>n<=t.Ay.length/\h1=h/\BS.Qd t.Ay=BS.Qd (t.Ay.drop n)) (λn=>t.Ay.length-n) 0 rfl ⟨AV _,rfl,rfl⟩ ?_;rintro n h1 ⟨hn,rfl,ha⟩;rcases AP n t.Ay.length with hlt|Eg
 .have d:=AU.BK (k:= .i64) DJ hlt;have QV:=(ht.Ay.2 _ (AL hlt)).2;have c:=aDu t.Ay[n].value aU0 Ab AM;rw[hcl] at c;rw[AG hlt,qF] at ha;rw[A5.row] at d;simp only[abS,Nat.reduceLeDiff,↓reduceIte,(Ab:(n:Int)<(t.Ay.length:Int)),d,c.B7 rfl rfl,BM (Ab:n<9223372036854775807)];refine⟨λh2=>?_,λh2=>?_⟩;.rw[ha,Af h2]
  .rw[Ad h2] at ha;exact AK.next (n+1) rfl ⟨hlt,rfl,ha⟩ Ab
 .rw[AW Eg] at ha;simp only[abS,(Ab:¬(n:Int)<(t.Ay.length:Int)),ha];rfl
def SW.ź(w:SW h bi b F si t av)(nm:Ai):Cv h 1 (Pt si 2) (.str nm)=some (put h si 2 (.str nm))/\SW (put h si 2 (.str nm)) bi b F si {t with name:=nm} av/\DC h (λi=>F i\/i=si) (put h si 2 (.str nm)) (λi=>F i\/i=si):=by have hs:At h si 2 (.str t.name):=⟨_,w.sc,rfl⟩;refine⟨hs.store (u:= .str nm) rfl,⟨w.pb.Dj λi hi=>Cb λe=>w.no (e▸hi),?_,w.no⟩,⟨by rw[I7];exact Ag _,λi _ hn=>Cb λe=>hn (.inr e),λ_ h=> .inl h⟩⟩;rw[HB w.sc];rfl
def aOh(w:SW h bi b F si t av)(g:Gz b (n+4*a+4) o a)(ht:t.Sm)(hv:Bt t.Ay av):Ź h F si 253 [Pt si 0] (.tuple []) bi (b.empty t):=by
 have A:Gz b (n+4) o a:=g.dn Ab;have g1:Gz b (n+4+4*a) o a:=g.dn Ab;unfold BS.empty;by_cases q:t.name=[104,114];.rw[Af q];refine N7.QR ?_;have l0:=w.IP;obtain⟨h1,v,m,f,d⟩:=yz w.pb A;have w1:=w.after f d;have l1:=w1.IP;obtain⟨h2,F2,r2,e,c⟩:=v8 f A.F7 ht hv;have j:=w1.after e c;have p:=j.IP;obtain⟨s,l,k⟩:=vY e false;have r:=j.after l k;have l3:=r.IP;refine⟨_,_,?_,l,(d.trans c).trans k⟩;rw[Ae,Lf];simp only[abS,l0,m.Ac,l1,r2.Ac,p,s,AQ q]
 rw[Ad q];by_cases i:t.name∈ŵ
 .rw[Af i];refine N7.QR ?_;have l0:=w.IP;obtain⟨h1,v,m,f,d⟩:=v8 w.pb A ht hv;have w1:=w.after f d;have l1:=w1.IP;obtain⟨r2,e,c⟩:=vY f b.fs;have j:=w1.after e c;have p:=j.IP;simp only[ŵ,AS,KF,qO] at i;by_cases y:t.name=aVv
  .skip
   refine⟨_,_,?_,e,d.trans c⟩;rw[Ae,Lf];simp only[abS,l0,m.Ac,l1,r2,q,AQ y]
  by_cases z:t.name=aVk;.refine⟨_,_,?_,e,d.trans c⟩;rw[Ae,Lf];simp only[abS,l0,m.Ac,l1,r2,q,y,AQ z]
  .have E:t.name=aVw:=by simpa[y,z] using i
   refine⟨_,_,?_,e,d.trans c⟩;rw[Ae,Lf];simp only[abS,l0,m.Ac,l1,r2,q,y,z,AQ E]
 rw[Ad i];simp only[ŵ,AS,KF,qO,MN] at i;by_cases u:t.name=aVp
 .rw[Af u];refine N7.QR ?_;cases kf:b.fs with
  |true=>have l0:=w.IP;obtain⟨h1,v,m,f,d⟩:=QP w.pb g1;have w1:=w.after f d;have l1:=w1.IP;have C:=aOg ht hv h1;obtain⟨h2,F2,r2,e,c⟩:=v8 f g1.CM ht hv;have j:=w1.after e c;have p:=j.IP;obtain⟨s,l,k⟩:=vY e (BS.Qd t.Ay);have r:=j.after l k;have l3:=r.IP;rw[kf] at l0;refine⟨_,_,?_,l,(d.trans c).trans k⟩;rw[Ae,Lf];simp only[abS,l0,m.Ac,l1,C.Ac,r2.Ac,p,s,q,i.1,i.2.1,i.2.2,AQ u]
  |false=>have l0:=w.IP;obtain⟨h1,v,m,f,d⟩:=QP w.pb g1;have w1:=w.after f d;have l1:=w1.IP;obtain⟨h2,F2,r2,e,c⟩:=v8 f g1.CM ht hv;have j:=w1.after e c;have p:=j.IP;obtain⟨s,l,k⟩:=vY e false;have r:=j.after l k;have l3:=r.IP;rw[kf] at l0;refine⟨_,_,?_,l,(d.trans c).trans k⟩;rw[Ae,Lf];simp only[abS,l0,m.Ac,l1,r2.Ac,p,s,q,i.1,i.2.1,i.2.2,AQ u]
 rw[Ad u];by_cases x:t.name=aVs;.rw[Af x];have D:=w.IP;obtain⟨s0,w,B⟩:=w.ź aVC;have Gc:({t with name:=aVC}:GD).Sm:=ht.rn AM;have l0:=w.IP;obtain⟨h1,v,m,f,d⟩:=QP w.pb g1;have w1:=w.after f d;have l1:=w1.IP;obtain⟨h2,F2,r2,e,c⟩:=v8 f g1.CM Gc hv;have j:=w1.after e c;have p:=j.IP;obtain⟨s,l,k⟩:=vY e false;have r:=j.after l k;have l3:=r.IP;refine⟨_,_,?_,l,B.trans ((d.trans c).trans k).aEm⟩;rw[Ae,Lf];simp only[abS,D,q,i.1,i.2.1,i.2.2,u,AQ x,s0,l0,m.Ac,l1,r2.Ac,p,s]
 .rw[Ad x];refine N7.QR ?_;have l0:=w.IP;obtain⟨h1,v,m,f,d⟩:=QP w.pb g1;have w1:=w.after f d;have l1:=w1.IP;obtain⟨h2,F2,r2,e,c⟩:=v8 f g1.CM ht hv;have j:=w1.after e c;have p:=j.IP;obtain⟨s,l,k⟩:=vY e false;have r:=j.after l k;have l3:=r.IP;refine⟨_,_,?_,l,(d.trans c).trans k⟩;rw[Ae,Lf];simp only[abS,l0,m.Ac,l1,r2.Ac,p,s,q,i.1,i.2.1,i.2.2,u,x]
def aJk(w:SW h bi b F si t av)(g:Gz b n o a):N7 h F 269 [Pt si 0] (.tuple []) bi (b.IN t):=by
 unfold BS.IN;cases f:b.has [t.name] with
 |true=>rw[Af rfl];have l0:=w.IP;have c:=mm w g t.name;rw[f] at c;obtain⟨h1,j,i,e,d⟩:=mn w g t.name [];have w1:=w.after e d;have l1:=w1.IP;refine⟨_,_,?_,e,d⟩;rw[Ae,WG];simp only[BD,l0,c.Ac,i.Ac]
 |false=>rw[Ad AH];have l0:=w.IP;have c:=mm w g t.name;rw[f] at c;refine⟨_,_,?_,w.pb,.refl⟩;rw[Ae,WG];simp only[BD,l0,c.Ac]
def aOi(w:SW h bi b F si t av)(g:Gz b n o a):N7 h F 272 [Pt si 0] (.tuple []) bi (b.N6 t):=by
 unfold BS.N6;cases j:b.has [t.name] with
 |true=>rw[Af rfl];have l0:=w.IP;have c:=mm w g t.name;rw[j] at c;obtain⟨h1,p,l,i,e⟩:=mn w g t.name [];have w1:=w.after i e;have l1:=w1.IP;obtain⟨_,h2,F2,r2,f,d⟩:=Ŷ i g.Hc;have k:=w1.after f d;have m:=k.IP;refine⟨_,_,?_,f,e.trans d⟩;rw[Ae,WI];simp only[abS,l0,c.Ac,l.Ac,l1,r2.Ac]
 |false=>rw[Ad AH];have l0:=w.IP;have c:=mm w g t.name;rw[j] at c;refine⟨_,_,?_,w.pb,.refl⟩;rw[Ae,WI];simp only[BD,l0,c.Ac]
def aOj(w:SW h bi b F si t av)(g:Gz b n o a):N7 h F 271 [Pt si 0] (.tuple []) bi b.MF:=by
 have d:DC h F (h++[.CR]) F:=⟨AH,λi hi _=>Aj hi,λ_ hf=> .inl hf⟩;have j:=zd aEn h;have w:=w.after w.pb.HJ d;unfold BS.MF;have c:=Ts w.pb g 1 (Cc (ws:=DP)) AM;have e0:b.HD 1 (Bn DP)=b.has DP:=rfl;rw[e0] at c;cases m:b.has DP with
 |true=>rw[m] at c;rw[Af rfl];have l0:=w.IP;obtain⟨_,h1,s,q,l,f⟩:=Uv w.pb g [];have w1:=w.after l f;have l1:=w1.IP;obtain⟨_,h2,F2,r2,k,e⟩:=dh l (g.LM CT) (Cc (ws:=DP)) AM;have p:=w1.after k e;have r:=p.IP;refine⟨_,_,?_,k,d.trans (f.trans e)⟩;rw[Ae,WH];simp only[abS,j.Ac,l0,c.Ac,q.Ac,l1,r2.Ac]
 |false=>rw[m] at c;rw[Ad AH];have l0:=w.IP;refine⟨_,_,?_,w.pb,d⟩;rw[Ae,WH];simp only[abS,j.Ac,l0,c.Ac]
def aJl(w:SW h bi b F si t av)(g:Gz b n o a):N7 h F 268 [Pt si 0] (.bool (b.QN t).2) bi (b.QN t).1:=by
 unfold BS.QN;cases f:b.has [aUo] with
 |true=>rw[Af rfl];have l0:=w.IP;have c:=mm w g aUo;rw[f] at c;obtain⟨i,e,d⟩:=Zc w.pb 19;have w1:=w.after e d;have l1:=w1.IP;refine⟨_,_,?_,e,d⟩;rw[Ae,WE];simp only[abS,l0,c.Ac,i,l1]
 |false=>rw[Ad AH];have l0:=w.IP;have c:=mm w g aUo;rw[f] at c;refine⟨_,_,?_,w.pb,.refl⟩;rw[Ae,WE];simp only[abS,l0,c.Ac]
def aOk(w:SW h bi b F si t av)(g:Gz b n o a):N7 h F 274 [Pt si 0] (.tuple []) bi (b.Tr t):=by
 unfold BS.Tr;by_cases i:b.eQ;.rw[Af i];have l0:=w.IP;have e:=Ÿ w.pb g;rw[As i] at e;obtain⟨h1,A,f,c,d⟩:=aJk w g;have w1:=w.after c d;have l1:=w1.IP;refine⟨_,_,?_,c,d⟩;rw[Ae,QI];simp only[abS,l0,e.Ac,f.Ac]
 rw[Ad i];have g1:Gz {b with Fk:=0} n o a:=g.eq rfl rfl rfl rfl rfl;by_cases k:b.Fk=0;.rw[Ad (by simp[k])];have l0:=w.IP;have e:=Ÿ w.pb g;rw[Ap i] at e;obtain⟨f,c,d⟩:=vX w.pb 0;have w1:=w.after c d;have l1:=w1.IP;refine⟨_,_,?_,c,d⟩;rw[Ae,QI];simp only[abS,l0,e.Ac,f,l1,AQ k,BW]
 cases s:b.HD 1 (Br b.Fk) with
 |true=>rw[Af ⟨k,rfl⟩];have l0:=w.IP;have e:=Ÿ w.pb g;rw[Ap i] at e;obtain⟨f,c,d⟩:=vX w.pb 0;have w1:=w.after c d;have l1:=w1.IP;have j:=p8 c g1 1 b.Fk;rw[show({b with Fk:=0}:BS).HD 1 (Br b.Fk)=true from s] at j;obtain⟨_,h2,F2,r2,r,m⟩:=Uv c g1 [];have p:=w1.after r m;have x:=p.IP;obtain⟨_,y,z,v,q,l⟩:=zc r (g1.LM (lo:=Dq (C2 []) Cu b.AN) CT) b.Fk;have u:=p.after q l;have l3:=u.IP;refine⟨_,_,?_,q,(d.trans m).trans l⟩;rw[Ae,QI];simp only[abS,l0,e.Ac,f,l1,r2.Ac,x,v.Ac,k,BW,j.Ac]
 |false=>rw[Ad AH];have l0:=w.IP;have e:=Ÿ w.pb g;rw[Ap i] at e;obtain⟨f,c,d⟩:=vX w.pb 0;have w1:=w.after c d;have l1:=w1.IP;have j:=p8 c g1 1 b.Fk;rw[show({b with Fk:=0}:BS).HD 1 (Br b.Fk)=false from s] at j;refine⟨_,_,?_,c,d⟩;rw[Ae,QI];simp only[abS,l0,e.Ac,f,l1,k,BW,j.Ac]
def aOl(w:SW h bi b F si t av)(g:Gz b (n+1004) o a)(ht:t.Sm)(hv:Bt t.Ay av)(i:¬t.st [aUi]):N7 h F 246 [Pt si 0] (.bool (b.ME t).2) bi (b.ME t).1:=by have l0:=w.IP;obtain⟨h1,j,f,d,c⟩:=aOe w.pb g ht hv (λe=>absurd e i);have w1:=w.after d c;have l1:=w1.IP;refine⟨_,_,?_,d,c⟩;rw[Ae,iC];simp only[abS,l0,f.Ac]
def aOm(w:SW h bi b F si t av)(g:Gz b (n+8*(4*(o+8)+10)) o a):N7 h F 270 [Pt si 0] (.tuple []) bi (b.Fz t.name):=by have l0:=w.IP;obtain⟨h1,f,e,d,c⟩:=za w.pb g t.name;have w1:=w.after d c;have l1:=w1.IP;refine⟨_,_,?_,d,c⟩;rw[Ae,iE];simp only[abS,l0,e.Ac]
def aOn(w:SW h bi b F si t av)(g:Gz b (n+4) o a):N7 h F 273 [Pt si 0] (.tuple []) bi (b.Lg t):=by
 unfold BS.Lg;dsimp only;by_cases f:t.name=[112]
 .rw[Af f,Af f];have c:=Ts w.pb g 3 (Cc (ws:=[t.name])) AH;cases i:b.HD 3 (Bn [t.name]) with
  |true=>rw[i] at c;rw[Af rfl];have l0:=w.IP;obtain⟨h1,l,j,e,d⟩:=mn w g t.name t.name;have w1:=w.after e d;have l1:=w1.IP;refine⟨_,_,?_,e,d⟩;rw[Ae,M9];simp only[abS,l0,j.Ac,AQ f,c.Ac,qE]
  |false=>rw[i] at c;rw[Ad AH];have l0:=w.IP;have r:=aJf [112] h;obtain⟨h1,l,j,e,d⟩:=dg (t:=RY [112]) (av:= .slnil) w.pb g (L5 AM) (.inr ⟨rfl,rfl⟩);have w1:=w.after e d;have l1:=w1.IP;obtain⟨h2,F2,r2,p,m⟩:=mn w1 (g.L8 (L5 AM).Ay (L5 AM).name) t.name t.name;have q:=w1.after p m;have s:=q.IP;refine⟨_,_,?_,p,d.trans m⟩;rw[Ae,M9];simp only[abS,l0,r.Ac,j.Ac,r2.Ac,AQ f,c.Ac,qE,BW,BI]
 rw[Ad f,Ad f];by_cases k:t.name=[108,105]
 .rw[Af k];have c:=Ts w.pb g 2 (Cc (ws:=[t.name])) AH;cases i:b.HD 2 (Bn [t.name]) with
  |true=>rw[i] at c;rw[Af rfl];have l0:=w.IP;obtain⟨h1,l,j,e,d⟩:=mn w g t.name t.name;have w1:=w.after e d;have l1:=w1.IP;refine⟨_,_,?_,e,d⟩;rw[Ae,M9];simp only[abS,l0,j.Ac,f,AQ k,c.Ac,qE]
  |false=>rw[i] at c;rw[Ad AH];have l0:=w.IP;refine⟨_,_,?_,w.pb,.refl⟩;rw[Ae,M9];simp only[abS,l0,eq_false f,c.Ac,AQ k,qE,BW]
 .rw[Ad k];have c:=Ts w.pb g 1 (Cc (ws:=[t.name])) AH;cases i:b.HD 1 (Bn [t.name]) with
  |true=>rw[i] at c;rw[Af rfl];have l0:=w.IP;obtain⟨h1,l,j,e,d⟩:=mn w g t.name t.name;have w1:=w.after e d;have l1:=w1.IP;refine⟨_,_,?_,e,d⟩;rw[Ae,M9];simp only[abS,l0,j.Ac,f,k,c.Ac,qE]
  |false=>rw[i] at c;rw[Ad AH];have l0:=w.IP;refine⟨_,_,?_,w.pb,.refl⟩;rw[Ae,M9];simp only[abS,l0,f,c.Ac,k,qE,BW]
def SW.aEo(w:SW h bi b F si t av)(t':GD)(Vk:Aa):Cv h 12 (Pt si 1) (.agg (C7 t' Vk))=some (h.set si (.cells (Pt bi 0::C7 t' Vk)))/\SW (h.set si (.cells (Pt bi 0::C7 t' Vk))) bi b F si t' Vk/\DC h (λi=>F i\/i=si) (h.set si (.cells (Pt bi 0::C7 t' Vk))) (λi=>F i\/i=si):=by
 have hl:=(Ak.1 w.sc).1;refine⟨by simp only[Cv,w.sc];rfl,⟨w.pb.Dj λi hi=>?_,by rw[AO hl],w.no⟩,⟨AH,λi _ hn=>?_,λ_ h=> .inl h⟩⟩;.exact Ao λe=>w.no (by rw[show si=i from e];exact hi)
 .exact Ao λe=>hn (.inr (show i=si from e.symm))
def aOo(w:SW h bi b F si t av)(g:Gz b (n+4*a+4) o a):Ź h F si 275 [Pt si 0] (.tuple []) bi (b.empty (RY [98,114])):=by have f:=aJf [98,114] h;obtain⟨s0,w,d⟩:=w.aEo (RY [98,114]) .slnil;obtain⟨h1,j,e,i,c⟩:=aOh w g (L5 AM) (.inr ⟨rfl,rfl⟩);refine⟨h1,j,?_,i,d.trans c⟩;rw[Ae,iF];simp only[BD,f.Ac,s0,e.Ac]
end
def kr(p:Ai×Aa):Aa×Aa:=(.str p.1,p.2)
def kf(s:Ai):List (Ai×Aa)->Option Aa
 |[]=>none
 |(t,v)::l=>if s=t then some v else kf s l
def kp(s:Ai)(v:Aa):List (Ai×Aa)->List (Ai×Aa)
 |[]=>[(s,v)]
 |(t,u)::l=>if s=t then(s,v)::l else(t,u)::kp s v l
def aBw{s t:Ai}{v:Aa}:∀{l:List (Ai×Aa)},kf t (kp s v l)=if t=s then some v else kf t l
 |[]=>rfl
 |(x,u)::l=>by
  unfold kp;by_cases h:s=x;.rw[Af h];unfold kf;subst h;split<;>rfl
  .rw[Ad h];unfold kf;rw[aBw];by_cases h1:t=x;.subst h1;rw[Af rfl,Af rfl,Ad (DG h)]
   .rw[Ad h1,Ad h1]
def qG{s:Ai}:∀{l:List (Ai×Aa)},Sf s (l.map kr)=some (kf s l)
 |[]=>rfl
 |(x,u)::l=>by
  simp only[Bl,kr,Sf,kf];split;.rfl
  .exact qG
def dw{s:Ai}{v:Aa}:∀{l:List (Ai×Aa)},Ny s v (l.map kr)=some ((kp s v l).map kr)
 |[]=>rfl
 |(x,u)::l=>by
  simp only[Bl,kr,Ny,kp];split;.rfl
  .rw[show(List.map kr l)=l.map kr from rfl,dw];rfl
def KM(h:Ah)(id:Nat)(d:Ai->Option Aa):Prop:=∃l,h[id]?=some (.map (l.map kr))/\∀s,kf s l=d s
def Fr(id:Nat)(h h':Ah):Prop:=h.length<=h'.length/\∀i,i<h.length->i≠id->h'[i]?=h[i]?
def Fr.trans{id:Nat}{h h1 h2:Ah}(a:Fr id h h1)(b:Fr id h1 h2):Fr id h h2:=⟨Bs a.1 b.1,λi hi hn=>(b.2 i (Jp hi a.1) hn).trans (a.2 i hi hn)⟩
def Fr.set{id:Nat}{h:Ah}{o:DA}:Fr id h (h.set id o):=⟨AH,λi _ hn=>Ao (DG hn)⟩
def Fr.HJ{id:Nat}{h u:Ah}:Fr id h (h++u):=⟨AH,λi hi _=>Aj hi⟩
section
variable{h:Ah}{id:Nat}{d:Ai->Option Aa}{s:Ai}{v:Aa}
def KM.lt(w:KM h id d):id<h.length:=let⟨_,hl,_⟩:=w;(Ak.1 hl).1
def KM.HJ{u:Ah}(w:KM h id d):KM (h++u) id d:=let⟨l,hl,hd⟩:=w;⟨l,by rw[Aj w.lt];exact hl,hd⟩
def KM.set(w:KM h id d)(s:Ai)(v:Aa):∃h1,Q2 h (.map (some id)) (.str s) v=some h1/\KM h1 id (λt=>if t=s then some v else d t)/\Fr id h h1:=by have hlt:=w.lt;obtain⟨l,hl,hd⟩:=w;refine⟨h.set id (.map ((kp s v l).map kr)),by simp only[Q2,hl,dw,B0],⟨kp s v l,by rw[AO hlt],λt=>?_⟩,.set⟩;rw[aBw];simp only[hd]
def KM.get(w:KM h id d)(s:Ai):Pq h .nilFunc false (.map (some id)) (.str s)=some ((d s).getD .nilFunc):=by obtain⟨l,hl,hd⟩:=w;simp only[Pq,TM,hl,qG,B0,hd];cases d s<;>rfl
def lk:List (List Ai×Aa)->Ai->Option Aa
 |[],_=>none
 |(ws,v)::l,s=>if s∈ws then some v else lk l s
def KM.eq{a:Ai->Option Aa}(w:KM h id d)(e:∀s,d s=a s):KM h id a:=let⟨l,hl,hd⟩:=w;⟨l,hl,λs=>(hd s).trans (e s)⟩
def KM.push{L:List (List Ai×Aa)}(w:KM h id (λt=>if t=s then some v else lk L t)):KM h id (lk (([s],v)::L)):=w.eq λt=>by simp only[lk,BG]
def zh{l:Ai}{ws:List Ai}{L:List (List Ai×Aa)}(x:Vp l ws)(w:KM h id (lk L))(fv:Aa):∃h1,BL cx 245 [.map (some id),.str l,fv] h (.tuple []) h1/\KM h1 id (lk ((ws,fv)::L))/\Fr id h h1:=by
 have hf:=x.few;have I2:Ev cx 245 [.map (some id),.str l,fv] h λr h1=>r= .tuple []/\KM h1 id (lk ((ws,fv)::L))/\Fr id h h1:=by
  unfold Ev;rw[iB];have hv:Im ws (.sl 1 (ws.map Cr)):=Cc;have hl:(ws.map Cr).length=ws.length:=An ..;simp only[BD,(zd x h).Ac,AU.CN hv];refine DM (i:=0) (λn:Nat=>[I (n:Int)]) (λn h1=>n<=ws.length/\KM h1 id (λs=>if s∈ws.take n then some fv else lk L s)/\Fr id h h1) (λn=>ws.length-n) (λn h1=>KM h1 id (lk ((ws,fv)::L))/\Fr id h h1) 0 rfl ⟨AV _,w.HJ.eq λs=>AH,.HJ⟩ ?_ ?_
  .rintro n h1 ⟨hn,a,f1⟩;by_cases hlt:n<ws.length
   .have f:(ws.map Cr)[n]'(by rw[hl];exact hlt)=[.str ws[n]]:=by simp[Cr]
    obtain⟨h2,c,e,f2⟩:=a.set ws[n] fv;simp only[BD,lO,(Ab:(n:Int)<(ws.length:Int)),AU.Fl hv (show n<(ws.map Cr).length by rw[hl];exact hlt),f,c,BM (Ab:n<9223372036854775807)];exact .next (n+1) rfl ⟨hlt,e.eq λs=>by
     simp only[AB hlt,Ax,BG];by_cases b:s=ws[n];.simp[b]
     .simp[b],f1.trans f2⟩ Ab
   .simp only[abS,(Ab:¬(n:Int)<(ws.length:Int))];exact .HF n rfl ⟨a.eq λs=>by rw[AF Ab];rfl,f1⟩
  .rintro n h1 ⟨a,f1⟩;simp only[BD];exact⟨_,rfl,rfl,a,f1⟩
 obtain⟨r,h1,hr,rfl,a,f1⟩:=I2.ret;exact⟨h1,hr,a,f1⟩
def qf(k:Nat):Aa:= .func (.func 370) [] [.CH [.func (.func k) [] []]]
def wD(k:Nat)(h:Ah):BL cx 247 [.func (.func k) [] []] h (qf k) h:=by rw[Ae,iD];simp only[BD,qf]
def aOp{k:Nat}{x:Aa}{h':Ah}(hk:k<=99999)(r:BL cx k [x] h (.tuple []) h'):BL cx 370 [x,.CH [.func (.func k) [] []]] h ff h':=by rw[Ae,jQ];simp only[BD,Dp,By,Af hk,r.Ac]
def Pg:List (List Ai×Aa):=[([aUd],.func (.func 246) [] []),([aUo],.func (.func 268) [] []),([aUi],.func (.func 268) [] []),(OR,qf 269),(Tq,qf 270),(DP,qf 271),(ZS,qf 272),(Qc,qf 273),([aUy],qf 274),([[98,114]],qf 275)]
def aOq(h:Ah):∃h1,BL cx 122 [] h (.map (some h.length)) h1/\KM h1 h.length (lk Pg.reverse)/\Fr h.length h h1:=by
 have y:KM (h++[.map []]) h.length (lk []):=⟨[],AH,λs=>rfl⟩;have e0:Fr h.length h (h++[.map []]):= .HJ;obtain⟨h1,q,f,H⟩:=y.set aUd (.func (.func 246) [] []);replace f:=f.push;obtain⟨h2,p,e,G⟩:=f.set aUo (.func (.func 268) [] []);replace e:=e.push;obtain⟨O,o,c,F⟩:=e.set aUi (.func (.func 268) [] []);replace c:=c.push;obtain⟨N,m,x,E⟩:=zh (vZ C4:Vp aUe OR) c (qf 269);try dsimp only at m
 obtain⟨M,l,w,D⟩:=zh (vZ C4:Vp aUq Tq) x (qf 270);try dsimp only at l
 obtain⟨L,k,u,C⟩:=zh (vZ C4:Vp aUp DP) w (qf 271);try dsimp only at k
 obtain⟨K,j,t,B⟩:=zh (vZ C4:Vp aUr ZS) u (qf 272);try dsimp only at j
 obtain⟨J,i,r,A⟩:=zh (vZ C4:Vp aVj Qc) t (qf 273);try dsimp only at i
 obtain⟨I,n,b,z⟩:=r.set aUy (qf 274);replace b:=b.push;obtain⟨VU,a,MS,g⟩:=b.set [98,114] (qf 275);replace MS:=MS.push;refine⟨VU,?_,MS,(((((((((e0.trans H).trans G).trans F).trans E).trans D).trans C).trans B).trans A).trans z).trans g⟩;rw[Ae,fM];simp only[abS,Nat.reduceLeDiff,↓reduceIte,q,p,o,m.Ac,(wD 269 _).Ac,l.Ac,(wD 270 _).Ac,k.Ac,(wD 271 _).Ac,j.Ac,(wD 272 _).Ac,i.Ac,(wD 273 _).Ac,n,(wD 274 _).Ac,a,(wD 275 _).Ac]
def zi:∀{L M:List (List Ai×Aa)},lk (L++M) s=(lk L s).or (lk M s)
 |[],M=>by simp[lk]
 |(ws,v)::L,M=>by
  simp only[CC,lk];split;.rfl
  .exact zi
def dx:∀{L:List (List Ai×Aa)},(∀g∈L,s∉g.1)->lk L s=none
 |[],_=>rfl
 |(ws,v)::L,h=>by simp only[lk];rw[Ad (h (ws,v) (.head _))];exact dx λg hg=>h g (.tail _ hg)
def zj:∀{L:List (List Ai×Aa)},L.Pairwise (λa b=>∀x∈a.1,x∉b.1)->lk L.reverse s=lk L s
 |[],_=>rfl
 |(ws,v)::L,h=>by
  cases h with
  |cons h1 h2=>
   rw[Ee,zi,zj h2];simp only[lk];by_cases c:s∈ws;.rw[Af c,Af c,dx λg hg=>h1 g hg s c];rfl
   .rw[Ad c,Ad c];cases lk L s<;>rfl
def aEp:lk Pg.reverse s=lk Pg s:=zj C4
end
section
variable{h h':Ah}{bi si:Nat}{b b':BS}{F F':Nat->Prop}{n o a:Nat}{t:GD}{av:Aa}
def Nd(bi:Nat)(t:GD)(av:Aa):DA:= .cells (Pt bi 0::C7 t av)
def SW.new(w:PB h bi b F)(t:GD)(av:Aa):SW (h++[Nd bi t av]) bi b F h.length t av:=
 ⟨w.HJ,by simp[Nd],λhf=>Dr _ (w.lt hf)⟩
def SW.fr(w:SW h bi b F si t av){id:Nat}(Ie:h.length<=id)(f:Fr id h h'):SW h' bi b F si t av:=by have hl:=(Ak.1 w.sc).1;exact⟨w.pb.Dj λi hi=>f.2 i (w.pb.lt hi) (by have:=w.pb.lt hi;omega),by rw[f.2 si hl Ab];exact w.sc,w.no⟩
def lF{k h2:Ah}{id:Nat}{x:DA}(Ie:(h++[x]).length<=id)(f:Fr id (h++[x]) k)(e:DC k (λi=>F i\/i=h.length) h2 (λi=>F' i\/i=h.length)):DC h F h2 F':=by
 have l1:(h++[x]).length=h.length+1:=AH;have c:=f.1;have l3:=e.len;refine⟨Ab,λi hi hn=>?_,λi hf=>?_⟩;.rw[e.old i Ab (λh=>by rcases h with h|h;exact hn h;omega),f.2 i Ab Ab,Aj hi]
 .rcases e.Bu i (.inl hf) with(h1|h1)|h1
  .exact .inl h1
  .exact .inr Ab
  .exact .inr Ab
def aEq(h0:Ah):∃h1,BL cx 122 [] h0 (.map (some h0.length)) h1/\Fr h0.length h0 h1/\∀s,Pq h1 .nilFunc false (.map (some h0.length)) (.str s)=some ((lk Pg s).getD .nilFunc):=by obtain⟨h1,r,k,f⟩:=aOq h0;exact⟨h1,r,f,λs=>by rw[k.get,aEp]⟩
def aEr{k:Int}(hk:t.k=k)(h:1<=k/\k<=6):t.ok:=by unfold GD.ok;omega
def Ze{k:Nat}{x y:List Aa}:AD (.Ga true .fn) [.func (.func k) x y,.nilFunc]=some tt:=rfl
def wE:AD (.Ga true .fn) [.nilFunc,.nilFunc]=some ff:=rfl
def wF(w:PB h bi b F)(hk:t.k=3){k:Nat}(e:lk Pg t.name=some (qf k))(g:k<=99999)(d:∀h1,SW h1 bi b F h.length t av->Ź h1 F h.length k [Pt h.length 0] (.tuple []) bi b'):N7 h F 34 [Pt bi 0,.agg (C7 t av)] ff bi b':=by have w0:=SW.new w t av;obtain⟨h1,i,f1,g1⟩:=aEq (h++[Nd bi t av]);have w1:=w0.fr (Ag _) f1;obtain⟨h2,F2,r2,l,j⟩:=d h1 w1;have f:=ze w t av;rw[As (aEr hk AM)] at f;have c:=g1 t.name;rw[e] at c;refine⟨h2,F2,?_,l,lF (Ag _) f1 j⟩;rw[Ae,Yy,t34];simp only[Nd,C7,hk,Au,A9,BJ] at i f c;simp only[abS,Nat.reduceLeDiff,↓reduceIte,AR,C7,Ze,f.Ac,hk,(AM:¬(3:Int)=5),(AM:¬(3:Int)=4),(AM:¬(3:Int)=6),(AM:¬(3:Int)=2),i.Ac,c,Fg,qf,Dp,By,(aOp g r2).Ac]
def aEs(w:PB h bi b F)(hk:t.k=3){k:Nat}{r:Bool}(e:lk Pg t.name=some (.func (.func k) [] []))(g:k<=99999)(d:∀h1,SW h1 bi b F h.length t av->N7 h1 F k [Pt h.length 0] (.bool r) bi b'):N7 h F 34 [Pt bi 0,.agg (C7 t av)] (.bool r) bi b':=by have w0:=SW.new w t av;obtain⟨h1,i,f1,g1⟩:=aEq (h++[Nd bi t av]);have w1:=w0.fr (Ag _) f1;obtain⟨h2,F2,r2,l,j⟩:=(d h1 w1).QR (si:=h.length);have f:=ze w t av;rw[As (aEr hk AM)] at f;have c:=g1 t.name;rw[e] at c;refine⟨h2,F2,?_,l,lF (Ag _) f1 j⟩;rw[Ae,Yy,t34];simp only[Nd,C7,hk,Au,A9,BJ] at i f c;simp only[abS,Nat.reduceLeDiff,↓reduceIte,AR,C7,Ze,f.Ac,hk,(AM:¬(3:Int)=5),(AM:¬(3:Int)=4),(AM:¬(3:Int)=6),(AM:¬(3:Int)=2),i.Ac,c,Fg,Dp,By,g,r2.Ac]
def aOs(w:PB h bi b F)(g:Gz b n o a)(hk:t.k=3)(e:lk Pg t.name=none):N7 h F 34 [Pt bi 0,.agg (C7 t av)] ff bi (b.CO t.name):=by have w0:=SW.new w t av;obtain⟨h1,f,f1,g1⟩:=aEq (h++[Nd bi t av]);have w1:=w0.fr (Ag _) f1;obtain⟨h2,F2,r2,j,i⟩:=y_ w1.pb g t.name;have d:=ze w t av;rw[As (aEr hk AM)] at d;have c:=g1 t.name;rw[e] at c;refine⟨h2,F2,?_,j,lF (Ag _) f1 i.aEm⟩;rw[Ae,Yy,t34];simp only[Nd,C7,hk,Au,A9,BJ] at f d c;simp only[abS,Nat.reduceLeDiff,↓reduceIte,AR,C7,wE,d.Ac,hk,(AM:¬(3:Int)=5),(AM:¬(3:Int)=4),(AM:¬(3:Int)=6),(AM:¬(3:Int)=2),f.Ac,c,wQ,r2.Ac]
def qH(w:PB h bi b F)(g:Gz b (n+8*(4*(o+a+8)+10)+8*a+2000) o a)(ht:t.Sm)(hv:Bt t.Ay av)(hk:t.k=3):N7 h F 34 [Pt bi 0,.agg (C7 t av)] (.bool (b.Iq t).2) bi (b.Iq t).1:=by
 have ge:∀{m},m<=n+8*(4*(o+a+8)+10)+8*a+2000->Gz b m o a:=λh=>g.dn h;unfold BS.Iq;by_cases u:t.name=AZ;.rw[Af u];exact aEs w hk (by rw[u];simp only[Pg,lk];rfl) AM λh1 w1=>aOl w1 (n:=n) (ge Ab) ht hv λhx=>by have:=hx.1;omega
 rw[Ad u];by_cases s:t.name∈Qb
 .rw[Af s];have q:t.name=aUi\/t.name=aUo:=by simpa[Qb] using s
  rcases q with q|q
  .exact aEs w hk (by rw[q];simp only[Pg,lk];rfl) AM λh1 w1=>aJl w1 (n:=n) (ge Ab)
  .exact aEs w hk (by rw[q];simp only[Pg,lk];rfl) AM λh1 w1=>aJl w1 (n:=n) (ge Ab)
 rw[Ad s];have d:¬t.name=aUi/\¬t.name=aUo:=by simpa[Qb] using s
 have c:¬t.name=aUd:=u;by_cases e:t.name∈OR;.rw[Af e];exact wF w hk (by simp only[Pg,lk,BG,↓reduceIte,c,d.1,d.2,e]) AM λh1 w1=>(aJk w1 (n:=n) (ge Ab)).QR
 rw[Ad e];by_cases f:t.name∈Tq;.rw[Af f];exact wF w hk (by simp only[Pg,lk,BG,↓reduceIte,c,d.1,d.2,e,f]) AM λh1 w1=>(aOm w1 (n:=n) (ge Ab)).QR
 rw[Ad f];by_cases i:t.name∈DP;.rw[Af i];exact wF w hk (by simp only[Pg,lk,BG,↓reduceIte,c,d.1,d.2,e,f,i]) AM λh1 w1=>(aOj w1 (n:=n) (ge Ab)).QR
 rw[Ad i];by_cases j:t.name∈ZS;.rw[Af j];exact wF w hk (by simp only[Pg,lk,BG,↓reduceIte,c,d.1,d.2,e,f,i,j]) AM λh1 w1=>(aOi w1 (n:=n) (ge Ab)).QR
 rw[Ad j];by_cases l:t.name∈Qc;.rw[Af l];exact wF w hk (by simp only[Pg,lk,BG,↓reduceIte,c,d.1,d.2,e,f,i,j,l]) AM λh1 w1=>(aOn w1 (n:=n) (ge Ab)).QR
 rw[Ad l];by_cases p:t.name=aUy;.rw[Af p];exact wF w hk (by simp only[Pg,lk,BG,↓reduceIte,c,d.1,d.2,e,f,i,j,l,AQ p]) AM λh1 w1=>(aOk w1 (n:=n) (ge Ab)).QR
 rw[Ad p];by_cases r:t.name=[98,114];.rw[Af r];exact wF w hk (by simp only[Pg,lk,BG,↓reduceIte,c,d.1,d.2,e,f,i,j,l,p,AQ r]) AM λh1 w1=>(aOo w1 (n:=n) (ge Ab))
 rw[Ad r];exact aOs w (n:=n) (ge Ab) hk (by simp only[Pg,lk,BG,↓reduceIte,c,d.1,d.2,e,f,i,j,l,p,r])
end
end Go.Am
end
section
end
section
end
section
end
section
end
section
end
section
end
section
end
section
namespace Go.Am
open Go
def aJm{t:GD}{av:Aa}(hv:Bt t.Ay av)(hl:t.Ay.length<=1000000):∃Vk,Bt t.Ay Vk/\∀h,BL cx 26 [.agg (C7 t av)] h (.agg (C7 t Vk)) h:=by obtain⟨u,e,hu⟩:=AU.eF (l:=([]:List A5)) (f:=A5.row) (v:= .slnil) (b:=40) (.inr ⟨rfl,rfl⟩) hv (by simp;have:AX=140737488355328:=rfl;omega);refine⟨u,hu,λh=>?_⟩;have hc:u.cells=[u]:=AU.cells hu;rw[Ae,uJ];simp only[BD,Nat.reduceLeDiff,↓reduceIte,C7,e,hc,A9,BJ,NQ,aKy]
end Go.Am
end
section
end
section
end
section
end
section
namespace Go.Am
open Go
section
variable{P:List Item}{q:Int}{T:List Int}{m k j n:Nat}{b c d:BS}{nm x:Ai}{l:List Item}{at_:List A5}{t:GD}{sp h:Int}{i:Item}
def mo:DL []:=⟨AM,λa ha=>by cases ha⟩
end
end Go.Am
end
section
end
section
end
section
end
section
end
section
end
section
namespace Go.Am
open Go
def Is(r:Ka):HG:=λx vs h=>r=(x,vs,h)
def Is.ret{C:FY}{f:FuncId}{args:List Aa}{h h':Ah}{v:Aa}(hw:W C (B9 C f args) (Is (.ret,[v],h')) h):BL C f args h v h':=
 hw.mono λx vs h1 e=>by unfold Is at e;cases e;exact⟨rfl,rfl,rfl⟩
def Is.of{C:FY}{f:FuncId}{args:List Aa}{h h':Ah}{v:Aa}(hr:BL C f args h v h'):W C (B9 C f args) (Is (.ret,[v],h')) h:=
 W.mono hr λx vs h1 ⟨c,b,a⟩=>by unfold Is;rw[c,b,a]
section
variable{C:FY}{fn':FuncId->List Aa->IT}
def zk{rec:IT->Ah->Option Ka}(VJ:∀t h r,rec t h=some r->W C t (Is r) h)(dy:∀f args h r,rec (fn' f args) h=some r->W C (B9 C f args) (Is r) h):
  ∀(t:IT) (h:Ah) (r:Ka),IT.step fn' rec t h=some r->W C t (Is r) h:=by
 intro t;induction t with
 |ret x vs=>intro h r d;simp only[IT.step,BB] at d;exact aAm d.symm
 |fail=>intro h r d;simp[IT.step] at d
 |op o args k ih=>
  intro h r d;simp only[IT.step] at d;split at d;.rename_i v e;exact aFv e (ih _ _ _ d)
  .cases d
 |cells n v k ih=>
  intro h r d;simp only[IT.step] at d;split at d;.rename_i hc;exact xD hc (ih _ _ _ d)
  .cases d
 |Gg c t e i w=>
  intro h r d;simp only[IT.step] at d;split at d;.exact xE (λ_=>i _ _ d) λh=>by cases h
  .exact xE (λh=>by cases h) λ_=>w _ _ d
  .cases d
 |load n p k ih=>
  intro h r d;simp only[IT.step] at d;split at d;.rename_i v e;exact ov e (ih _ _ _ d)
  .cases d
 |store n p v k ih=>
  intro h r d;simp only[IT.step] at d;split at d;.rename_i v e;exact xF e (ih _ _ d)
  .cases d
 |alloc n v k ih=>
  intro h r d;simp only[IT.step,WY] at d;by_cases hc:v.cells.length=n;.rw[Af hc] at d;exact xG hc (ih _ _ _ d)
  .rw[Ad hc] at d;cases d
 |call f args k ih=>
  intro h r d;simp only[IT.step] at d;split at d;.rename_i v h1 e;exact(Is.ret (dy _ _ _ _ e)).Ac.2 (ih _ _ _ d)
  .cases d
 |Jd g args k ih=>
  intro h r d;simp only[IT.step] at d;split at d
  .rename_i f a ht;split at d;.rename_i v h1 e;exact M5.2 ⟨(f,a),ht,(Is.ret (dy _ _ _ _ e)).Ac.2 (ih _ _ _ d)⟩
   .cases d
  .cases d
 |B7 f args k ih=>
  intro h r d;simp only[IT.step] at d;split at d
  .rename_i Hp;split at d
   .rename_i v h1 e;split at d;.rename_i mz;have hp:JM C f args v:=(Is.ret (dy _ _ _ _ e)).ev rfl;exact(hp.B7 Hp mz).2 (ih _ _ _ d)
    .cases d
   .cases d
  .cases d
 |loop key init body k u j=>
  intro h r d;simp only[IT.step] at d;split at d;.rename_i vs h1 e;exact PQ ((u _ _ _ e).mono λx l h2 q=>by unfold Is at q;cases q;exact .inl ⟨rfl,VJ _ _ _ d⟩)
  .rename_i x vs h1 hne e;exact PQ ((u _ _ _ e).mono λx l h2 q=>by unfold Is at q;cases q;exact .inr ⟨λhx=>hne hx,j _ _ _ _ d⟩)
  .cases d
 |Of key t k i j=>
  intro h r d;simp only[IT.step] at d;split at d;.rename_i x vs h1 e;exact pj ((i _ _ e).mono λx l h2 q=>by unfold Is at q;cases q;exact j _ _ _ _ d)
  .cases d
 |same a b k ih=>
  intro h r d;simp only[IT.step] at d;split at d;.rename_i hc;exact oz hc (ih _ _ d)
  .cases d
 |Po k ih=>intro h r d;simp only[IT.step] at d;exact o_ (ih _ _ _ d)
 |Kz m key v k ih=>
  intro h r d;simp only[IT.step] at d;split at d;.rename_i h1 e;exact pc e (ih _ _ d)
  .cases d
 |Mf z ok m key k ih=>
  intro h r d;simp only[IT.step] at d;split at d;.rename_i h1 e;exact pd e (ih _ _ _ d)
  .cases d
 |make size bytes zero len cap k ih=>
  intro h r d;simp only[IT.step] at d;split at d;.rename_i h1 v e;exact rG e (ih _ _ _ d)
  .cases d
 |Li size bytes s x k ih=>
  intro h r d;simp only[IT.step] at d;split at d;.rename_i h1 v e;exact xH e (ih _ _ _ d)
  .cases d
 |Fa s k ih=>
  intro h r d;simp only[IT.step] at d;split at d;.rename_i h1 v e;exact Xj e (ih _ _ _ d)
  .cases d
 |Pk v k ih=>
  intro h r d;simp only[IT.step] at d;split at d;.rename_i h1 v e;exact aAn e (ih _ _ _ d)
  .cases d
 |Pp off p k ih=>
  intro h r d;simp only[IT.step] at d;split at d;.rename_i h1 e;exact xI e (ih _ _ d)
  .cases d
 |JI size bytes s x k ih=>
  intro h r d;simp only[IT.step] at d;split at d;.rename_i h1 v e;exact pg e (ih _ _ _ d)
  .cases d
 |GC size bytes s x k ih=>
  intro h r d;simp only[IT.step] at d;split at d;.rename_i v e;exact ZZ e (ih _ _ _ d)
  .cases d
 |mem o args k ih=>
  intro h r d;simp only[IT.step] at d;split at d;.rename_i h1 v e;exact aAo e (ih _ _ _ d)
  .cases d
 |wV f args k ih=>
  intro h r d;simp only[IT.step] at d;split at d
  .rename_i v h1 e;split at d;.rename_i mz;obtain⟨n,x,vs,h2,D,y⟩:=dy _ _ _ _ e;unfold Is at y;cases y;obtain⟨m,x',HZ,h',B,A⟩:=(ih _ _ _ d).succ;refine C9 ⟨max n m,x',HZ,h',?_,A⟩;have a1:=IT.Ii (HW n m) D;have a2:=IT.JS (λt h r=>IT.Ii (fn:=B9 C) (Hn n m)) _ _ _ B;simp only[IT.step];simp only[FY.run] at*;rw[a1];simp only[mz,BN];exact a2
   .cases d
  .cases d
def aEt(C:FY)(fn':FuncId->List Aa->IT):Prop:=∀f args,fn' f args=B9 C f args\/∀n h r,IT.run fn' n (fn' f args) h=some r->W C (B9 C f args) (Is r) h
def lG(hs:aEt C fn'):∀(n:Nat) (t:IT) (h:Ah) (r:Ka),IT.run fn' n t h=some r->W C t (Is r) h
 |0,t,h,r,a=>by simp[IT.run] at a
 |n+1,t,h,r,a=>by
  refine zk (rec:=IT.run fn' n) (lG hs n) ?_ t h r a;intro f args h r a;rcases hs f args with e|e
  .rw[e] at a;exact lG hs n _ _ _ a
  .exact e n h r a
def mq(hs:aEt cx fn'){f:FuncId}{args:List Aa}{h:Ah}(n:Nat)(hr:YF (IT.run fn' n (B9 cx f args) h)=true):Ev cx f args h λr _=>r= .bool true:=by obtain⟨h',e⟩:=ZM hr;exact(Is.ret (lG hs n _ _ _ e)).ev rfl
def dz(v:Aa):IT:= .Fa (.str []) λu=> .Pk u λ_=> .ret .ret [v]
def cD{n:Nat}{v:Aa}{h:Ah}{r:Ka}(e:IT.run fn' n (dz v) h=some r):r=(.ret,[v],h++[.CR]):=by
 cases n with
 |zero=>simp[IT.run] at e
 |succ n=>
  have e0:IW h (.str [])=some (h++[.cells []],.CF h.length 0 0 1):=rfl;have a:KA (h++[.cells []]) (.CF h.length 0 0 1)=some (h++[.CR],.sl 1 []):=by simp[KA,CA]
  simp only[IT.run,dz,IT.step,e0,a,BB] at e;exact e.symm
end
theorem aJn{l:Ai}{ws:List Ai}(w:Vp l ws)(s:Ai)(h:Ah):BL cx 243 [.str s,.str l] h (.bool (decide (s∈ws))) (h++[.CR]):=by have a:=zd w h;have r2:=Ŋ (Cc (ws:=ws)) (by have:=w.few;omega) s (h++[DA.CR]);rw[Ae,WC];simp only[BD,a.Ac,r2.Ac]
def eqB:Ai->Ai->Bool
 |[],[]=>true
 |a::s,b::t=>Nat.beq a.toNat b.toNat&&eqB s t
 |_,_=>false
theorem d_:∀{s t:Ai},eqB s t=true↔s=t
 |[],[]=>by simp[eqB]
 |[],b::t=>by simp[eqB]
 |a::s,[]=>by simp[eqB]
 |a::s,b::t=>by simp only[eqB,BC,d_ (s:=s) (t:=t),E2,Nat.beq_eq];exact⟨λ⟨h1,h2⟩=>⟨Vt.1 h1,h2⟩,λ⟨h1,h2⟩=>⟨by rw[h1],h2⟩⟩
def spN(n:Nat):Bool:=(Nat.ble 9 n&&Nat.ble n 13)||Nat.beq n 32
theorem aEv(c:UInt8):spN c.toNat=N8 c:=by unfold spN N8;rw[OU];simp only[OT,BC,Nat.ble_eq,Nat.beq_eq,C0]
def n_:Ai->Ai->List Ai
 |cur,[]=>match cur with
  |[]=>[]
  |_::_=>[cur.reverse]
 |cur,c::r=>match spN c.toNat with
  |true=>match cur with
   |[]=>n_ [] r
   |_::_=>cur.reverse::n_ [] r
  |false=>n_ (c::cur) r
theorem lH:∀(s cur:Ai),n_ cur s=wf cur.reverse s
 |[],[]=>by simp[n_,wf]
 |[],c::cur=>by simp[n_,wf]
 |c::r,cur=>by
  have h1:=aEv c;cases hc:N8 c with
  |true=>
   rw[hc] at h1;cases cur with
   |nil=>simp[n_,wf,h1,hc,lH r []]
   |cons x cur=>simp[n_,wf,h1,hc,lH r []]
  |false=>rw[hc] at h1;simp[n_,wf,h1,hc,lH r (c::cur)]
def okB(l:Ai):Bool:=Nat.ble l.length 1000000&&l.all λc=>Nat.ble (c.toNat+1) 128
theorem ee{l:Ai}(h:okB l=true):Vp l (n_ [] l):=by unfold okB at h;simp only[BC,Nat.ble_eq,Db] at h;exact⟨h.1,λc hc=>by have:=h.2 c hc;omega,by rw[lH];rfl⟩
def wG(s:Ai)(l:List Ai):Bool:=l.any (eqB s)
theorem mr(s:Ai)(l:List Ai):wG s l=decide (s∈l):=by rw[OU];simp only[wG,TF,d_,C0];exact⟨λ⟨x,h1,h2⟩=>h2▸h1,λh=>⟨s,h,rfl⟩⟩
theorem aJo(r:Int)(h:Ah):BL cx 233 [.int .i32 r] h (.bool (decide (Za r))) h:=by
 have b:∀(lo hi:Int) (h:Ah),BL cx 361 [.int .i32 lo,.int .i32 hi] h (.func (.func 414) [] [.CH [.int .i32 lo],.CH [.int .i32 hi]]) h:=λlo hi h=>by rw[Ae,S9];simp only[abS]
 have e:∀(v:Aa) (h:Ah),v.cells=[v]->BL cx 360 [v] h (.func (.func 413) [] [.CH [v]]) h:=λv h hv=>by rw[Ae,WL];simp only[abS,hv]
 have c:=aJc (L:=[(9,10),(12,13),(32,32)]) AM r h;have a:AD (.Dm 1) [.func (.func 414) [] [.CH [.int .i32 9],.CH [.int .i32 10]],.func (.func 414) [] [.CH [.int .i32 12],.CH [.int .i32 13]],.func (.func 414) [] [.CH [.int .i32 32],.CH [.int .i32 32]]]=some (.sl 1 ([((9:Int),(10:Int)),(12,13),(32,32)].map Vo)):=rfl;have d:∀v:Aa,Dp (.func (.func 413) [] [v]) [.int .i32 r]=some (413,[.int .i32 r,v]):=λ_=>rfl;have r2:=e (.sl 1 ([((9:Int),(10:Int)),(12,13),(32,32)].map Vo)) h rfl;have e0:decide (Za r)=([((9:Int),(10:Int)),(12,13),(32,32)].any λp=>decide (p.1<=r/\r<=p.2)):=by
  have a:Za r↔((9<=r/\r<=10)\/(12<=r/\r<=13)\/(32<=r/\r<=32)):=by unfold Za;omega
  simp only[Nx,UA,JF,<-Bool.decide_or,Dd];exact a
 rw[e0,Ae,WA];simp only[abS,(b 9 10 h).Ac,(b 12 13 h).Ac,(b 32 32 h).Ac,a,r2.Ac,d,c.Ac]
def zl(d:IT):List Aa->IT
 |[.str s,.str l]=>match okB l with
  |true=>dz (.bool (wG s (n_ [] l)))
  |false=>d
 |_=>d
def zn(d:IT):List Aa->IT
 |[.str l]=>match okB l with
  |true=>dz (.sl 1 ((n_ [] l).map Cr))
  |false=>d
 |_=>d
def zp(d:IT):List Aa->IT
 |[.int .i32 r]=> .ret .ret [.bool (decide (Za r))]
 |_=>d
noncomputable def aJp(f:FuncId)(args:List Aa):IT:=
 match Nat.beq f 243 with
 |true=>zl (tab f args) args
 |false=>match Nat.beq f 368 with
  |true=>zn (tab f args) args
  |false=>match Nat.beq f 233 with
   |true=>zp (tab f args) args
   |false=>tab f args
theorem Ż:aEt cx aJp:=by
 intro f args;unfold aJp;split
 .rename_i hf;have hf:=Nh hf;subst hf;unfold zl;split
  .rename_i s l;split;.rename_i ho;refine .inr λn h r e=>?_;rw[cD e,mr];exact Is.of (aJn (ee ho) s h)
   .exact .inl (by rw[RR])
  .exact .inl (by rw[RR])
 .split
  .rename_i hf;have hf:=Nh hf;subst hf;unfold zn;split
   .rename_i l;split;.rename_i ho;refine .inr λn h r e=>?_;rw[cD e];exact Is.of (zd (ee ho) h)
    .exact .inl (by rw[RR])
   .exact .inl (by rw[RR])
  .split
   .rename_i hf;have hf:=Nh hf;subst hf;unfold zp;split
    .rename_i a;refine .inr λn h r e=>?_;cases n with
     |zero=>simp[IT.run] at e
     |succ n=>simp only[IT.run,IT.step,BB] at e;rw[<-e];exact Is.of (aJo a h)
    .exact .inl (by rw[RR])
   .exact .inl (by rw[RR])
theorem wH:Ev cx 7 [] [] λr _=>r= .bool true:=mq Ż 3000 Dk
theorem wI:JM cx 7 [] tt:=wH
end Go.Am
end
