/- Lemmas -/
import Derived.Test.YtkaolmlpcamojaaGreatDoorH31
import Derived.Test.YtkaolmlpcamojaaGreatDoorH29
set_option linter.all false
set_option maxRecDepth 100000
section
end
section
end
section
end
section
namespace Go.Am
open Go
structure SW(h:Ai)(bi:Nat)(b:BS)(F:Nat->Prop)(si:Nat)(t:FF)(av:Aa):Prop where
 pb:PB h bi b F
 sc:h[si]?=some (.cells (Pt bi 0::Cl t av))
 no:¬F si
section
variable{h h':Ai}{bi si:Nat}{b b':BS}{F F':Nat->Prop}{n o a:Nat}{t:FF}{av:Aa}
def SW.after(w:SW h bi b F si t av)(p:PB h' bi b' F')(x:DC h F h' F'):SW h' bi b' F' si t av:=by
 have hl:=(An.1 w.sc).1;refine⟨p,by rw[x.old si hl w.no];exact w.sc,λhf=>?_⟩;rcases x.Bs si hf with h1|h1
 .exact w.no h1
 .omega
def SW.Wv(w:SW h bi b F si t av):A7 h none (Pt si 0)=some (Pt bi 0)/\A7 h (some 12) (Pt si 1)=some (.agg (Cl t av))/\A7 h none (Pt si 2)=some (.str t.name)/\A7 h none (Pt si 12)=some (.int .i32 t.r)/\A7 h none (Pt si 10)=some (.bool t.sc)/\A7 h none (Pt bi 1)=some (I b.CG)/\A7 h none (Pt bi 4)=some (I b.mode)/\A7 h none (Pt bi 5)=some (I b.Si)/\A7 h none (Pt bi 7)=some (I b.head)/\A7 h none (Pt bi 8)=some (I b.NH)/\A7 h none (Pt bi 14)=some (.bool b.fs)/\A7 h none (Pt bi 18)=some (I b.sw)/\A7 h none (Pt bi 19)=some (.bool b.stop):=by refine⟨by simp only[A7,w.sc];rfl,by simp only[A7,w.sc];rfl,by simp only[A7,w.sc];rfl,by simp only[A7,w.sc];rfl,by simp only[A7,w.sc];rfl,w.pb.Wv⟩
def Ê(i:Item):i.row=[I i.node,I i.Bb,.str i.name,.bool i.Og]:=rfl
def aKc(h:Ai)(F:Nat->Prop)(si:Nat)(f:FuncId)(args:List Aa)(r:Aa)(bi:Nat)(b':BS):Prop:=∃h' F',BG cx f args h r h'/\PB h' bi b' F'/\DC h (λi=>F i\/i=si) h' (λi=>F' i\/i=si)
def DC.aFd(x:DC h F h' F'):DC h (λi=>F i\/i=si) h' (λi=>F' i\/i=si):=
 ⟨x.len,λi hi hn=>x.old i hi λhf=>hn (.inl hf),λi hi=>by
  rcases hi with hi|hi
  .rcases x.Bs i hi with h1|h1
   .exact .inl (.inl h1)
   .exact .inr h1
  .exact .inl (.inr hi)⟩
def Rb.XL{f:FuncId}{args:List Aa}{r:Aa}(d:Rb h F f args r bi b'):aKc h F si f args r bi b':=by obtain⟨h1,i,e,g,c⟩:=d;exact⟨h1,i,e,g,c.aFd⟩
def aO5(i:Item)(s:Aj)(h:Ai):BG cx 375 [.agg i.row,.str s] h (.bool (Bw [s] i)) h:=by
 rw[Ae,kY];simp only[BE,Ê];refine⟨λh1=>?_,λh1=>?_⟩;.simp[Bw,h1]
 .simp[Bw,h1]
def aKd(w:SW h bi b F si t av):BG cx 376 [Pt si 0] h (.tuple [I (EI b.AQ 1).node,.bool b.ZB]) h:=by
 have l0:=w.Wv;have d:=aJ3 w.pb 1;have r2:=rW w.pb;have c:=aO5 (EI b.AQ 1) aVn h;rw[Ê] at d c;rw[Ae,kZ];simp only[abS,l0,d.Ab,r2.Ab,c.Ab];refine⟨λh1=>?_,λh1=>?_⟩
 .have:2<=b.AQ.length:=by omega
  simp[BS.ZB,this]
 .have:¬2<=b.AQ.length:=by omega
  simp[BS.ZB,this]
end
end Go.Am
end
section
end
section
namespace Go.Am
open Go
section
variable{h h':Ai}{bi si:Nat}{b b':BS}{F F':Nat->Prop}{n o a:Nat}{t:FF}{av:Aa}
def aO6(w:SW h bi b F si t av)(g:Gz b (n+1000) o a)(ht:t.Sm)(hv:Bi t.Av av):Rb h F 260 [Pt si 0] (.tuple []) bi (b.mO t):=by
 unfold BS.mO;by_cases j:b.gC;.rw[Af (.inl j)];have l0:=w.Wv;have d:=À w.pb g;rw[Al j] at d;refine⟨_,_,?_,w.pb,.refl⟩;rw[Ae,O5];simp only[abS,l0,d.Ab]
 by_cases p:b.AQ=[];.rw[Af (.inr p)];have l0:=w.Wv;have d:=À w.pb g;rw[Ah j] at d;have i:=rW w.pb;refine⟨_,_,?_,w.pb,.refl⟩;rw[Ae,O5];simp only[BE,ZP,l0,d.Ab,i.Ab,show((b.AQ.length:Int)=0)=True from AL (by rw[p];rfl)]
 have qw:¬(b.AQ.length:Int)=0:=λe=>p (C7 Ac);rw[Ad (by simp[j,p])];by_cases m:t.name=aVh;.rw[Af m];have l0:=w.Wv;have d:=À w.pb g;rw[Ah j] at d;have i:=rW w.pb;have f:=aJ3 w.pb 0;obtain⟨h1,y,q,l,k⟩:=h_ w.pb g ht hv (EI b.AQ 0).node;have w1:=w.after l k;have l1:=w1.Wv;refine⟨_,_,?_,l,k⟩;rw[Ae,O5];simp only[abS,l0,d.Ab,i.Ab,f.Ab,q.Ab,qw,AL m,Ê,BK]
 rw[Ad m];cases u:b.ZB with
 |true=>rw[Af rfl];have l0:=w.Wv;have d:=À w.pb g;rw[Ah j] at d;have i:=rW w.pb;have f:=aKd w;rw[u] at f;obtain⟨q,l,k⟩:=aAV w.pb false;have w1:=w.after l k;have l1:=w1.Wv;obtain⟨h2,F2,r2,s,r⟩:=h_ l (g.eq (c:={b with fs:=false}) rfl rfl rfl rfl rfl) ht hv (EI b.AQ 1).node;have v:=w1.after s r;have x:=v.Wv;refine⟨_,_,?_,s,k.trans r⟩;rw[Ae,O5];simp only[abS,l0,d.Ab,i.Ab,f.Ab,q,l1,r2.Ab,qw,m]
 |false=>rw[Ad AH];have l0:=w.Wv;have d:=À w.pb g;rw[Ah j] at d;have i:=rW w.pb;have f:=aKd w;rw[u] at f;refine⟨_,_,?_,w.pb,.refl⟩;rw[Ae,O5];simp only[abS,l0,d.Ab,i.Ab,f.Ab,qw,m]
end
end Go.Am
end
section
end
section
namespace Go.Am
open Go
def kr(p:Aj×Aa):Aa×Aa:=(.str p.1,p.2)
def kf(s:Aj):List (Aj×Aa)->Option Aa
 |[]=>none
 |(t,v)::l=>if s=t then some v else kf s l
def kp(s:Aj)(v:Aa):List (Aj×Aa)->List (Aj×Aa)
 |[]=>[(s,v)]
 |(t,u)::l=>if s=t then(s,v)::l else(t,u)::kp s v l
def aCt{s t:Aj}{v:Aa}:∀{l:List (Aj×Aa)},kf t (kp s v l)=if t=s then some v else kf t l
 |[]=>rfl
 |(x,u)::l=>by
  unfold kp;by_cases h:s=x;.rw[Af h];unfold kf;subst h;split<;>rfl
  .rw[Ad h];unfold kf;rw[aCt];by_cases h1:t=x;.subst h1;rw[Af rfl,Af rfl,Ad (Dz h)]
   .rw[Ad h1,Ad h1]
def rY{s:Aj}:∀{l:List (Aj×Aa)},SG s (l.map kr)=some (kf s l)
 |[]=>rfl
 |(x,u)::l=>by
  simp only[Bj,kr,SG,kf];split;.rfl
  .exact rY
def iy{s:Aj}{v:Aa}:∀{l:List (Aj×Aa)},NW s v (l.map kr)=some ((kp s v l).map kr)
 |[]=>rfl
 |(x,u)::l=>by
  simp only[Bj,kr,NW,kp];split;.rfl
  .rw[show(List.map kr l)=l.map kr from rfl,iy];rfl
def dS{s:Aj}:∀{l:List (Aj×Aa)} {i:Nat},kf s l=none->RK s (l.map kr) i=some none
 |[],_,_=>rfl
 |(x,u)::l,i,h=>by
  unfold kf at h;by_cases e:s=x;.rw[Af e] at h;cases h
  .rw[Ad e] at h;simp only[Bj,kr,RK,Ad e];exact dS h
def Ë{s t:Aj}{v:Aa}:∀{l:List (Aj×Aa)},kf s l=none->kf t (l++[(s,v)])=if t=s then some v else kf t l
 |[],_=>rfl
 |(x,u)::l,h=>by
  unfold kf at h;by_cases e:s=x;.rw[Af e] at h;cases h
  .rw[Ad e] at h;simp only[Cs,kf];rw[Ë h];by_cases a:t=x;.subst a;rw[Af rfl,Af rfl,Ad (Dz e)]
   .rw[Ad a,Ad a]
def KM(h:Ai)(id:Nat)(d:Aj->Option Aa):Prop:=∃l,h[id]?=some (.map (l.map kr))/\∀s,kf s l=d s
def Fr(id:Nat)(h h':Ai):Prop:=h.length<=h'.length/\∀i,i<h.length->i≠id->h'[i]?=h[i]?
def Fr.trans{id:Nat}{h h1 h2:Ai}(a:Fr id h h1)(b:Fr id h1 h2):Fr id h h2:=⟨Br a.1 b.1,λi hi hn=>(b.2 i (Jv hi a.1) hn).trans (a.2 i hi hn)⟩
def Fr.set{id:Nat}{h:Ai}{o:Dx}:Fr id h (h.set id o):=⟨AH,λi _ hn=>As (Dz hn)⟩
def Fr.HQ{id:Nat}{h u:Ai}:Fr id h (h++u):=⟨AH,λi hi _=>Ak hi⟩
section
variable{h:Ai}{id:Nat}{d:Aj->Option Aa}{s:Aj}{v:Aa}
def KM.lt(w:KM h id d):id<h.length:=let⟨_,hl,_⟩:=w;(An.1 hl).1
def KM.HQ{u:Ai}(w:KM h id d):KM (h++u) id d:=let⟨l,hl,hd⟩:=w;⟨l,by rw[Ak w.lt];exact hl,hd⟩
def KM.set(w:KM h id d)(s:Aj)(v:Aa):∃h1,Rg h (.map (some id)) (.str s) v=some h1/\KM h1 id (λt=>if t=s then some v else d t)/\Fr id h h1:=by have hlt:=w.lt;obtain⟨l,hl,hd⟩:=w;refine⟨h.set id (.map ((kp s v l).map kr)),by simp only[Rg,hl,iy,BY],⟨kp s v l,by rw[AO hlt],λt=>?_⟩,.set⟩;rw[aCt];simp only[hd]
def KM.get(w:KM h id d)(s:Aj):PM h .nilFunc false (.map (some id)) (.str s)=some ((d s).getD .nilFunc):=by obtain⟨l,hl,hd⟩:=w;simp only[PM,T1,hl,rY,BY,hd];cases d s<;>rfl
def KM.entry(w:KM h id d)(s:Aj)(hs:d s=none)(v:Aa):∃h0 h1 n v0,Ep (.eB .nilFunc) h [.map (some id),.str s]=some (h0,.tuple [v0,I n])/\Ep .OE h0 [.map (some id),I n,v]=some (h1,.bool true)/\KM h1 id (λt=>if t=s then some v else d t)/\Fr id h h1:=by
 have hlt:=w.lt;obtain⟨l,hl,hd⟩:=w;have h0:kf s l=none:=(hd s).trans hs;refine⟨h.set id (.map (l.map kr++[(.str s,.nilFunc)])),h.set id (.map ((l++[(s,v)]).map kr)),(l.map kr).length,.nilFunc,?_,?_,⟨l++[(s,v)],by rw[AO hlt],λt=>?_⟩,.set⟩;.simp only[Ep,Wy,hl,dS h0,BY]
 .simp only[Ep,SI,AO hlt,AX,Int.natCast_nonneg,BJ,Bk (Ag _),C5,GM,sF,BH _ _ (Ag _),Mb,Bu,Bj,C4,kr]
 .rw[Ë h0];simp only[hd]
def lk:List (List Aj×Aa)->Aj->Option Aa
 |[],_=>none
 |(ws,v)::l,s=>if s∈ws then some v else lk l s
def KM.eq{a:Aj->Option Aa}(w:KM h id d)(e:∀s,d s=a s):KM h id a:=let⟨l,hl,hd⟩:=w;⟨l,hl,λs=>(hd s).trans (e s)⟩
def KM.push{L:List (List Aj×Aa)}(w:KM h id (λt=>if t=s then some v else lk L t)):KM h id (lk (([s],v)::L)):=w.eq λt=>by simp only[lk,BP]
def TP{l:Aj}{ws:List Aj}{L:List (List Aj×Aa)}(x:NU l ws)(w:KM h id (lk L))(fv:Aa):∃h1,BG cx 245 [.map (some id),.str l,fv] h (.tuple []) h1/\KM h1 id (lk ((ws,fv)::L))/\Fr id h h1:=by
 have hf:=x.few;have I9:Ev cx 245 [.map (some id),.str l,fv] h λr h1=>r= .tuple []/\KM h1 id (lk ((ws,fv)::L))/\Fr id h h1:=by
  unfold Ev;rw[jN];have hv:Js ws (.sl 1 (ws.map Cu)):=C1;have hl:(ws.map Cu).length=ws.length:=Ao ..;simp only[BE,(aAW x h).Ab,AU.CN hv];refine DK (i:=0) (λn:Nat=>[I (n:Int)]) (λn h1=>n<=ws.length/\KM h1 id (λs=>if s∈ws.take n then some fv else lk L s)/\Fr id h h1) (λn=>ws.length-n) (λn h1=>KM h1 id (lk ((ws,fv)::L))/\Fr id h h1) 0 rfl ⟨AY _,w.HQ.eq λs=>AH,.HQ⟩ ?_ ?_
  .rintro n h1 ⟨hn,a,f1⟩;by_cases hlt:n<ws.length
   .have f:(ws.map Cu)[n]'(by rw[hl];exact hlt)=[.str ws[n]]:=by simp[Cu]
    obtain⟨h2,c,e,f2⟩:=a.set ws[n] fv;simp only[BE,ZP,(Ac:(n:Int)<(ws.length:Int)),AU.Ff hv (show n<(ws.map Cu).length by rw[hl];exact hlt),f,c,BN (Ac:n<9223372036854775807)];exact .next (n+1) rfl ⟨hlt,e.eq λs=>by
     simp only[AB hlt,Ay,BP];by_cases b:s=ws[n];.simp[b]
     .simp[b],f1.trans f2⟩ Ac
   .simp only[abS,(Ac:¬(n:Int)<(ws.length:Int))];exact .HN n rfl ⟨a.eq λs=>by rw[AF Ac];rfl,f1⟩
  .rintro n h1 ⟨a,f1⟩;simp only[BE];exact⟨_,rfl,rfl,a,f1⟩
 obtain⟨r,h1,hr,rfl,a,f1⟩:=I9.ret;exact⟨h1,hr,a,f1⟩
def qf(k:Nat):Aa:= .func (.func 370) [] [.CI [.func (.func k) [] []]]
def Ph(k:Nat)(h:Ai):BG cx 247 [.func (.func k) [] []] h (qf k) h:=by rw[Ae,jO];simp only[BE,qf]
def aO7{k:Nat}{x:Aa}{h':Ai}(hk:k<=99999)(r:BG cx k [x] h (.tuple []) h'):BG cx 370 [x,.CI [.func (.func k) [] []]] h ff h':=by rw[Ae,kX];simp only[BE,Dh,By,Af hk,r.Ab]
def Su:List (List Aj×Aa):=[(Hr,.func (.func 246) [] []),(U_,qf 248),(pM,qf 249),(aJW,qf 250),(aJX,qf 251),(aJY,qf 252),(V_,qf 253),(aCq,.func (.func 254) [] []),(aJZ,qf 255),(aCr,qf 256),(aJ0,qf 257),(aCs,qf 258),(aJ1,qf 259),(W_,qf 260),([aVr],qf 261),([aWn],qf 262),([aVD],qf 263),([[97]],qf 264),([aWv],qf 265),([aVB],qf 266),([aV0],qf 267)]
def aO8(h:Ai):∃h1,BG cx 121 [] h (.map (some h.length)) h1/\KM h1 h.length (lk Su.reverse)/\Fr h.length h h1:=by
 have Y:KM (h++[.map []]) h.length (lk []):=⟨[],AH,λs=>rfl⟩;have e0:Fr h.length h (h++[.map []]):= .HQ;obtain⟨h1,I,X,e1⟩:=TP (Sr CA:NU aVf Hr) Y (.func (.func 246) [] []);try dsimp only at I
 obtain⟨h2,r2,W,e2⟩:=TP (Sr CA:NU aVi U_) X (qf 248);try dsimp only at r2
 obtain⟨h3,H,V,e3⟩:=TP (Sr CA:NU aVF pM) W (qf 249);try dsimp only at H
 obtain⟨h4,G,U,e4⟩:=TP (Sr CA:NU aWc aJW) V (qf 250);try dsimp only at G
 obtain⟨h5,F,T,e5⟩:=TP (Sr CA:NU aVA aJX) U (qf 251);try dsimp only at F
 obtain⟨h6,E,S,e6⟩:=TP (Sr CA:NU aVJ aJY) T (qf 252);try dsimp only at E
 obtain⟨h7,D,R,e7⟩:=TP (Sr CA:NU aVv V_) S (qf 253);try dsimp only at D
 obtain⟨h8,C,Q,e8⟩:=TP (Sr CA:NU aVm aCq) R (.func (.func 254) [] []);try dsimp only at C
 obtain⟨h9,B,P,e9⟩:=TP (Sr CA:NU aVG aJZ) Q (qf 255);try dsimp only at B
 obtain⟨VE,rN,KG,A⟩:=TP (Sr CA:NU aWm aCr) P (qf 256);try dsimp only at rN
 obtain⟨aB,c,NT,z⟩:=TP (Sr CA:NU aWx aJ0) KG (qf 257);try dsimp only at c
 obtain⟨h12,b,OD,y⟩:=TP (Sr CA:NU aWy aCs) NT (qf 258);try dsimp only at b
 obtain⟨h13,F_,NN,x⟩:=TP (Sr CA:NU aVE aJ1) OD (qf 259);try dsimp only at F_
 obtain⟨h14,a,PI,w⟩:=TP (Sr CA:NU aWs W_) NN (qf 260);try dsimp only at a
 obtain⟨O,h15,M,K,l,t15,Sp,u⟩:=PI.entry aVr CA (qf 261);replace Sp:=Sp.push;obtain⟨h16,k,TK,t⟩:=Sp.set aWn (qf 262);replace TK:=TK.push;obtain⟨h17,j,UH,r⟩:=TK.set aVD (qf 263);replace UH:=UH.push;obtain⟨N,h18,L,J,i,t18,Wu,q⟩:=UH.entry [97] CA (qf 264);replace Wu:=Wu.push;obtain⟨h19,g,Zq,p⟩:=Wu.set aWv (qf 265);replace Zq:=Zq.push;obtain⟨Z,f,aP,o⟩:=Zq.set aVB (qf 266);replace aP:=aP.push;obtain⟨m,e,mI,n⟩:=aP.set aV0 (qf 267);replace mI:=mI.push;refine⟨m,?_,mI,((((((((((((((((((((e0.trans e1).trans e2).trans e3).trans e4).trans e5).trans e6).trans e7).trans e8).trans e9).trans A).trans z).trans y).trans x).trans w).trans u).trans t).trans r).trans q).trans p).trans o).trans n⟩;rw[Ae,hZ];simp only[abS,Nat.reduceLeDiff,↓reduceIte,I.Ab,r2.Ab,(Ph 248 _).Ab,H.Ab,(Ph 249 _).Ab,G.Ab,(Ph 250 _).Ab,F.Ab,(Ph 251 _).Ab,E.Ab,(Ph 252 _).Ab,D.Ab,(Ph 253 _).Ab,C.Ab,B.Ab,(Ph 255 _).Ab,rN.Ab,(Ph 256 _).Ab,c.Ab,(Ph 257 _).Ab,b.Ab,(Ph 258 _).Ab,F_.Ab,(Ph 259 _).Ab,a.Ab,(Ph 260 _).Ab,l,t15,(Ph 261 _).Ab,k,(Ph 262 _).Ab,j,(Ph 263 _).Ab,i,t18,(Ph 264 _).Ab,g,(Ph 265 _).Ab,f,(Ph 266 _).Ab,e,(Ph 267 _).Ab]
def Ì:∀{L M:List (List Aj×Aa)},lk (L++M) s=(lk L s).or (lk M s)
 |[],M=>by simp[lk]
 |(ws,v)::L,M=>by
  simp only[Cs,lk];split;.rfl
  .exact Ì
def iz:∀{L:List (List Aj×Aa)},(∀g∈L,s∉g.1)->lk L s=none
 |[],_=>rfl
 |(ws,v)::L,h=>by simp only[lk];rw[Ad (h (ws,v) (.head _))];exact iz λg hg=>h g (.tail _ hg)
def Í:∀{L:List (List Aj×Aa)},L.Pairwise (λa b=>∀x∈a.1,x∉b.1)->lk L.reverse s=lk L s
 |[],_=>rfl
 |(ws,v)::L,h=>by
  cases h with
  |cons h1 h2=>
   rw[Ee,Ì,Í h2];simp only[lk];by_cases c:s∈ws;.rw[Af c,Af c,iz λg hg=>h1 g hg s c];rfl
   .rw[Ad c,Ad c];cases lk L s<;>rfl
def Î:lk Su.reverse s=lk Su s:=Í CA
end
section
variable{h h':Ai}{bi si:Nat}{b b':BS}{F F':Nat->Prop}{n o a:Nat}{t:FF}{av:Aa}
def Xq(bi:Nat)(t:FF)(av:Aa):Dx:= .cells (Pt bi 0::Cl t av)
def SW.new(w:PB h bi b F)(t:FF)(av:Aa):SW (h++[Xq bi t av]) bi b F h.length t av:=
 ⟨w.HQ,by simp[Xq],λhf=>Dm _ (w.lt hf)⟩
def SW.fr(w:SW h bi b F si t av){id:Nat}(Im:h.length<=id)(f:Fr id h h'):SW h' bi b F si t av:=by have hl:=(An.1 w.sc).1;exact⟨w.pb.Dl λi hi=>f.2 i (w.pb.lt hi) (by have:=w.pb.lt hi;omega),by rw[f.2 si hl Ac];exact w.sc,w.no⟩
def aAZ{k h2:Ai}{id:Nat}{x:Dx}(Im:(h++[x]).length<=id)(f:Fr id (h++[x]) k)(e:DC k (λi=>F i\/i=h.length) h2 (λi=>F' i\/i=h.length)):DC h F h2 F':=by
 have l1:(h++[x]).length=h.length+1:=AH;have c:=f.1;have l3:=e.len;refine⟨Ac,λi hi hn=>?_,λi hf=>?_⟩;.rw[e.old i Ac (λh=>by rcases h with h|h;exact hn h;omega),f.2 i Ac Ac,Ak hi]
 .rcases e.Bs i (.inl hf) with(h1|h1)|h1
  .exact .inl h1
  .exact .inr Ac
  .exact .inr Ac
def aFe(h0:Ai):∃h1,BG cx 121 [] h0 (.map (some h0.length)) h1/\Fr h0.length h0 h1/\∀s,PM h1 .nilFunc false (.map (some h0.length)) (.str s)=some ((lk Su s).getD .nilFunc):=by obtain⟨h1,r,k,f⟩:=aO8 h0;exact⟨h1,r,f,λs=>by rw[k.get,Î]⟩
def aO9{k:Int}(hk:t.k=k)(h:1<=k/\k<=6):t.ok:=by unfold FF.ok;omega
def xZ{k:Nat}{x y:List Aa}:AD (.Gu true .fn) [.func (.func k) x y,.nilFunc]=some tt:=rfl
def aPa(w:PB h bi b F)(hk:t.k=2){k:Nat}(e:lk Su t.name=some (qf k))(g:k<=99999)(d:∀h1,SW h1 bi b F h.length t av->aKc h1 F h.length k [Pt h.length 0] (.tuple []) bi b'):Rb h F 34 [Pt bi 0,.agg (Cl t av)] ff bi b':=by have w0:=SW.new w t av;obtain⟨h1,i,f1,g1⟩:=aFe (h++[Xq bi t av]);have w1:=w0.fr (Ag _) f1;obtain⟨h2,F2,r2,l,j⟩:=d h1 w1;have f:=aQ w t av;rw[Al (aO9 hk AP)] at f;have c:=g1 t.name;rw[e] at c;refine⟨h2,F2,?_,l,aAZ (Ag _) f1 j⟩;rw[Ae,wB,t34];simp only[Xq,Cl,hk,Au,Bd,BR] at i f c;simp only[abS,Nat.reduceLeDiff,↓reduceIte,AT,Cl,xZ,f.Ab,hk,(AP:¬(2:Int)=5),(AP:¬(2:Int)=4),(AP:¬(2:Int)=6),i.Ab,c,Gg,qf,Dh,By,(aO7 g r2).Ab]
def aA0:lk Su aVh=some (qf 260):=by simp only[Su,lk];rfl
def pz(w:PB h bi b F)(g:Gz b (n+1000) o a)(ht:t.Sm)(hv:Bi t.Av av)(hs:t.st [aVh]):Rb h F 34 [Pt bi 0,.agg (Cl t av)] ff bi (b.HT t):=by
 have hn:t.name=aVh:=BP.1 hs.2;have e:b.HT t=b.mO t:=by unfold BS.HT BS.mO;rw[Af hn]
 rw[e];exact aPa w hs.1 (by rw[hn];exact aA0) AP λh1 w1=>(aO6 w1 g ht hv).XL
end
end Go.Am
end
section
end
section
end
section
end
section
end
section
end
section
end
section
end
section
namespace Go.Am
open Go
def aKe{t:FF}{av:Aa}(hv:Bi t.Av av)(hl:t.Av.length<=1000000):∃dG,Bi t.Av dG/\∀h,BG cx 26 [.agg (Cl t av)] h (.agg (Cl t dG)) h:=by obtain⟨u,e,hu⟩:=AU.fS (l:=([]:List A5)) (f:=A5.row) (v:= .slnil) (b:=40) (.inr ⟨rfl,rfl⟩) hv (by simp;have:AW=140737488355328:=rfl;omega);refine⟨u,hu,λh=>?_⟩;have hc:u.cells=[u]:=AU.cells hu;rw[Ae,wA];simp only[BE,Nat.reduceLeDiff,↓reduceIte,Cl,e,hc,Bd,BR,Oc,aLn]
section
variable{sa:List A5->Bool}{t:FF}{av:Aa}{h:Ai}
def FF.RF(sa:List A5->Bool)(t:FF):Bool:=decide (t.name.length<=60)&&(decide (t.qp.length<=100)&&(decide (t.sys.length<=100)&&(decide (t.data.length<=200)&&sa t.Av)))
def aPb(j:∀{v:Aa} {l:List A5} (h:Ai),Bi l v->BG cx 12 [v] h (.bool (sa l)) h)(hv:Bi t.Av av)(h:Ai):BG cx 6 [.agg (Cl t av)] h (.bool (t.RF sa)) h:=by
 rw[Ae,aHl];unfold FF.RF;have b:((t.name.length:Int)<=60)=(t.name.length<=60):=propext Ac;have d:((t.qp.length:Int)<=100)=(t.qp.length<=100):=propext Ac;have f:((t.sys.length:Int)<=100)=(t.sys.length<=100):=propext Ac;have i:((t.data.length:Int)<=200)=(t.data.length<=200):=propext Ac;by_cases a:t.name.length<=60;rotate_left;.simp only[abS,Nat.reduceLeDiff,↓reduceIte,Cl,b,a,Jr]
 by_cases c:t.qp.length<=100;rotate_left;.simp only[abS,Nat.reduceLeDiff,↓reduceIte,Cl,b,a,d,c,Jr]
 by_cases e:t.sys.length<=100;rotate_left;.simp only[abS,Nat.reduceLeDiff,↓reduceIte,Cl,b,a,d,c,f,e,Jr]
 by_cases g:t.data.length<=200;rotate_left;.simp only[abS,Nat.reduceLeDiff,↓reduceIte,Cl,b,a,d,c,f,e,i,g,Jr]
 .simp only[abS,Nat.reduceLeDiff,↓reduceIte,Cl,b,a,d,c,f,e,i,g,Jr,(j h hv).Ab]
end
end Go.Am
end
section
end
section
end
section
end
section
end
section
end
section
end
section
end
section
end
section
namespace Go.Am
open Go
def Is(r:Km):HO:=λx vs h=>r=(x,vs,h)
def Is.ret{C:Gb}{f:FuncId}{args:List Aa}{h h':Ai}{v:Aa}(hw:W C (Ca C f args) (Is (.ret,[v],h')) h):BG C f args h v h':=
 hw.mono λx vs h1 e=>by unfold Is at e;cases e;exact⟨rfl,rfl,rfl⟩
def Is.of{C:Gb}{f:FuncId}{args:List Aa}{h h':Ai}{v:Aa}(hr:BG C f args h v h'):W C (Ca C f args) (Is (.ret,[v],h')) h:=
 W.mono hr λx vs h1 ⟨c,b,a⟩=>by unfold Is;rw[c,b,a]
section
variable{C:Gb}{fn':FuncId->List Aa->IT}
def Ï{rec:IT->Ai->Option Km}(We:∀t h r,rec t h=some r->W C t (Is r) h)(i_:∀f args h r,rec (fn' f args) h=some r->W C (Ca C f args) (Is r) h):
  ∀(t:IT) (h:Ai) (r:Km),IT.step fn' rec t h=some r->W C t (Is r) h:=by
 intro t;induction t with
 |ret x vs=>intro h r d;simp only[IT.step,BC] at d;exact aBj d.symm
 |fail=>intro h r d;simp[IT.step] at d
 |op o args k ih=>
  intro h r d;simp only[IT.step] at d;split at d;.rename_i v e;exact aGf e (ih _ _ _ d)
  .cases d
 |cells n v k ih=>
  intro h r d;simp only[IT.step] at d;split at d;.rename_i hc;exact yU hc (ih _ _ _ d)
  .cases d
 |Gm c t e i w=>
  intro h r d;simp only[IT.step] at d;split at d;.exact yV (λ_=>i _ _ d) λh=>by cases h
  .exact yV (λh=>by cases h) λ_=>w _ _ d
  .cases d
 |load n p k ih=>
  intro h r d;simp only[IT.step] at d;split at d;.rename_i v e;exact sn e (ih _ _ _ d)
  .cases d
 |store n p v k ih=>
  intro h r d;simp only[IT.step] at d;split at d;.rename_i v e;exact yW e (ih _ _ d)
  .cases d
 |alloc n v k ih=>
  intro h r d;simp only[IT.step,Xu] at d;by_cases hc:v.cells.length=n;.rw[Af hc] at d;exact yX hc (ih _ _ _ d)
  .rw[Ad hc] at d;cases d
 |call f args k ih=>
  intro h r d;simp only[IT.step] at d;split at d;.rename_i v h1 e;exact(Is.ret (i_ _ _ _ _ e)).Ab.2 (ih _ _ _ d)
  .cases d
 |Ji g args k ih=>
  intro h r d;simp only[IT.step] at d;split at d
  .rename_i f a ht;split at d;.rename_i v h1 e;exact Nn.2 ⟨(f,a),ht,(Is.ret (i_ _ _ _ _ e)).Ab.2 (ih _ _ _ d)⟩
   .cases d
  .cases d
 |B6 f args k ih=>
  intro h r d;simp only[IT.step] at d;split at d
  .rename_i Hu;split at d
   .rename_i v h1 e;split at d;.rename_i qg;have hp:JX C f args v:=(Is.ret (i_ _ _ _ _ e)).ev rfl;exact(hp.B6 Hu qg).2 (ih _ _ _ d)
    .cases d
   .cases d
  .cases d
 |loop key init body k u j=>
  intro h r d;simp only[IT.step] at d;split at d;.rename_i vs h1 e;exact Qc ((u _ _ _ e).mono λx l h2 q=>by unfold Is at q;cases q;exact .inl ⟨rfl,We _ _ _ d⟩)
  .rename_i x vs h1 hne e;exact Qc ((u _ _ _ e).mono λx l h2 q=>by unfold Is at q;cases q;exact .inr ⟨λhx=>hne hx,j _ _ _ _ d⟩)
  .cases d
 |OF key t k i j=>
  intro h r d;simp only[IT.step] at d;split at d;.rename_i x vs h1 e;exact s_ ((i _ _ e).mono λx l h2 q=>by unfold Is at q;cases q;exact j _ _ _ _ d)
  .cases d
 |same a b k ih=>
  intro h r d;simp only[IT.step] at d;split at d;.rename_i hc;exact so hc (ih _ _ d)
  .cases d
 |PK k ih=>intro h r d;simp only[IT.step] at d;exact sq (ih _ _ _ d)
 |KS m key v k ih=>
  intro h r d;simp only[IT.step] at d;split at d;.rename_i h1 e;exact sr e (ih _ _ d)
  .cases d
 |My z ok m key k ih=>
  intro h r d;simp only[IT.step] at d;split at d;.rename_i h1 e;exact su e (ih _ _ _ d)
  .cases d
 |make size bytes zero len cap k ih=>
  intro h r d;simp only[IT.step] at d;split at d;.rename_i h1 v e;exact sZ e (ih _ _ _ d)
  .cases d
 |LD size bytes s x k ih=>
  intro h r d;simp only[IT.step] at d;split at d;.rename_i h1 v e;exact yY e (ih _ _ _ d)
  .cases d
 |Fg s k ih=>
  intro h r d;simp only[IT.step] at d;split at d;.rename_i h1 v e;exact XH e (ih _ _ _ d)
  .cases d
 |PH v k ih=>
  intro h r d;simp only[IT.step] at d;split at d;.rename_i h1 v e;exact aBk e (ih _ _ _ d)
  .cases d
 |PL off p k ih=>
  intro h r d;simp only[IT.step] at d;split at d;.rename_i h1 e;exact yZ e (ih _ _ d)
  .cases d
 |JT size bytes s x k ih=>
  intro h r d;simp only[IT.step] at d;split at d;.rename_i h1 v e;exact sx e (ih _ _ _ d)
  .cases d
 |GJ size bytes s x k ih=>
  intro h r d;simp only[IT.step] at d;split at d;.rename_i v e;exact aY e (ih _ _ _ d)
  .cases d
 |mem o args k ih=>
  intro h r d;simp only[IT.step] at d;split at d;.rename_i h1 v e;exact aBl e (ih _ _ _ d)
  .cases d
 |yM f args k ih=>
  intro h r d;simp only[IT.step] at d;split at d
  .rename_i v h1 e;split at d;.rename_i qg;obtain⟨n,x,vs,h2,D,y⟩:=i_ _ _ _ _ e;unfold Is at y;cases y;obtain⟨m,x',Ia,h',B,A⟩:=(ih _ _ _ d).succ;refine C9 ⟨max n m,x',Ia,h',?_,A⟩;have a1:=IT.Ir (H7 n m) D;have a2:=IT.J6 (λt h r=>IT.Ir (fn:=Ca C) (Hw n m)) _ _ _ B;simp only[IT.step];simp only[Gb.run] at*;rw[a1];simp only[qg,BJ];exact a2
   .cases d
  .cases d
def aFf(C:Gb)(fn':FuncId->List Aa->IT):Prop:=∀f args,fn' f args=Ca C f args\/∀n h r,IT.run fn' n (fn' f args) h=some r->W C (Ca C f args) (Is r) h
def mW(hs:aFf C fn'):∀(n:Nat) (t:IT) (h:Ai) (r:Km),IT.run fn' n t h=some r->W C t (Is r) h
 |0,t,h,r,a=>by simp[IT.run] at a
 |n+1,t,h,r,a=>by
  refine Ï (rec:=IT.run fn' n) (mW hs n) ?_ t h r a;intro f args h r a;rcases hs f args with e|e
  .rw[e] at a;exact mW hs n _ _ _ a
  .exact e n h r a
def p_(hs:aFf cx fn'){f:FuncId}{args:List Aa}{h:Ai}(n:Nat)(hr:Y3 (IT.run fn' n (Ca cx f args) h)=true):Ev cx f args h λr _=>r= .bool true:=by obtain⟨h',e⟩:=aK hr;exact(Is.ret (mW hs n _ _ _ e)).ev rfl
def ja(v:Aa):IT:= .Fg (.str []) λu=> .PH u λ_=> .ret .ret [v]
def dU{n:Nat}{v:Aa}{h:Ai}{r:Km}(e:IT.run fn' n (ja v) h=some r):r=(.ret,[v],h++[.CR]):=by
 cases n with
 |zero=>simp[IT.run] at e
 |succ n=>
  have e0:I4 h (.str [])=some (h++[.cells []],.CE h.length 0 0 1):=rfl;have a:KT (h++[.cells []]) (.CE h.length 0 0 1)=some (h++[.CR],.sl 1 []):=by simp[KT,Cz]
  simp only[IT.run,ja,IT.step,e0,a,BC] at e;exact e.symm
end
theorem aKf{l:Aj}{ws:List Aj}(w:NU l ws)(s:Aj)(h:Ai):BG cx 243 [.str s,.str l] h (.bool (decide (s∈ws))) (h++[.CR]):=by have a:=aAW w h;have r2:=ſ (C1 (ws:=ws)) (by have:=w.few;omega) s (h++[Dx.CR]);rw[Ae,Xb];simp only[BE,a.Ab,r2.Ab]
def eqB:Aj->Aj->Bool
 |[],[]=>true
 |a::s,b::t=>Nat.beq a.toNat b.toNat&&eqB s t
 |_,_=>false
theorem jb:∀{s t:Aj},eqB s t=true↔s=t
 |[],[]=>by simp[eqB]
 |[],b::t=>by simp[eqB]
 |a::s,[]=>by simp[eqB]
 |a::s,b::t=>by simp only[eqB,Bv,jb (s:=s) (t:=t),E5,Nat.beq_eq];exact⟨λ⟨h1,h2⟩=>⟨VT.1 h1,h2⟩,λ⟨h1,h2⟩=>⟨by rw[h1],h2⟩⟩
def spN(n:Nat):Bool:=(Nat.ble 9 n&&Nat.ble n 13)||Nat.beq n 32
theorem aFh(c:UInt8):spN c.toNat=Ox c:=by unfold spN Ox;rw[Pk];simp only[Pj,Bv,Nat.ble_eq,Nat.beq_eq,CO]
def q_:Aj->Aj->List Aj
 |cur,[]=>match cur with
  |[]=>[]
  |_::_=>[cur.reverse]
 |cur,c::r=>match spN c.toNat with
  |true=>match cur with
   |[]=>q_ [] r
   |_::_=>cur.reverse::q_ [] r
  |false=>q_ (c::cur) r
theorem mX:∀(s cur:Aj),q_ cur s=wf cur.reverse s
 |[],[]=>by simp[q_,wf]
 |[],c::cur=>by simp[q_,wf]
 |c::r,cur=>by
  have h1:=aFh c;cases hc:Ox c with
  |true=>
   rw[hc] at h1;cases cur with
   |nil=>simp[q_,wf,h1,hc,mX r []]
   |cons x cur=>simp[q_,wf,h1,hc,mX r []]
  |false=>rw[hc] at h1;simp[q_,wf,h1,hc,mX r (c::cur)]
def okB(l:Aj):Bool:=Nat.ble l.length 1000000&&l.all λc=>Nat.ble (c.toNat+1) 128
theorem jc{l:Aj}(h:okB l=true):NU l (q_ [] l):=by unfold okB at h;simp only[Bv,Nat.ble_eq,Db] at h;exact⟨h.1,λc hc=>by have:=h.2 c hc;omega,by rw[mX];rfl⟩
def yA(s:Aj)(l:List Aj):Bool:=l.any (eqB s)
theorem qa(s:Aj)(l:List Aj):yA s l=decide (s∈l):=by rw[Pk];simp only[yA,TV,jb,CO];exact⟨λ⟨x,h1,h2⟩=>h2▸h1,λh=>⟨s,h,rfl⟩⟩
theorem aKg(r:Int)(h:Ai):BG cx 233 [.int .i32 r] h (.bool (decide (Zz r))) h:=by
 have b:∀(lo hi:Int) (h:Ai),BG cx 361 [.int .i32 lo,.int .i32 hi] h (.func (.func 414) [] [.CI [.int .i32 lo],.CI [.int .i32 hi]]) h:=λlo hi h=>by rw[Ae,Tv];simp only[abS]
 have e:∀(v:Aa) (h:Ai),v.cells=[v]->BG cx 360 [v] h (.func (.func 413) [] [.CI [v]]) h:=λv h hv=>by rw[Ae,Xf];simp only[abS,hv]
 have c:=aJ7 (L:=[(9,10),(12,13),(32,32)]) AP r h;have a:AD (.Dk 1) [.func (.func 414) [] [.CI [.int .i32 9],.CI [.int .i32 10]],.func (.func 414) [] [.CI [.int .i32 12],.CI [.int .i32 13]],.func (.func 414) [] [.CI [.int .i32 32],.CI [.int .i32 32]]]=some (.sl 1 ([((9:Int),(10:Int)),(12,13),(32,32)].map VN)):=rfl;have d:∀v:Aa,Dh (.func (.func 413) [] [v]) [.int .i32 r]=some (413,[.int .i32 r,v]):=λ_=>rfl;have r2:=e (.sl 1 ([((9:Int),(10:Int)),(12,13),(32,32)].map VN)) h rfl;have e0:decide (Zz r)=([((9:Int),(10:Int)),(12,13),(32,32)].any λp=>decide (p.1<=r/\r<=p.2)):=by
  have a:Zz r↔((9<=r/\r<=10)\/(12<=r/\r<=13)\/(32<=r/\r<=32)):=by unfold Zz;omega
  simp only[NV,UX,JQ,<-Bool.decide_or,Dd];exact a
 rw[e0,Ae,W9];simp only[abS,(b 9 10 h).Ab,(b 12 13 h).Ab,(b 32 32 h).Ab,a,r2.Ab,d,c.Ab]
def Ð(d:IT):List Aa->IT
 |[.str s,.str l]=>match okB l with
  |true=>ja (.bool (yA s (q_ [] l)))
  |false=>d
 |_=>d
def Ñ(d:IT):List Aa->IT
 |[.str l]=>match okB l with
  |true=>ja (.sl 1 ((q_ [] l).map Cu))
  |false=>d
 |_=>d
def Ò(d:IT):List Aa->IT
 |[.int .i32 r]=> .ret .ret [.bool (decide (Zz r))]
 |_=>d
noncomputable def aKh(f:FuncId)(args:List Aa):IT:=
 match Nat.beq f 243 with
 |true=>Ð (tab f args) args
 |false=>match Nat.beq f 368 with
  |true=>Ñ (tab f args) args
  |false=>match Nat.beq f 233 with
   |true=>Ò (tab f args) args
   |false=>tab f args
theorem aA1:aFf cx aKh:=by
 intro f args;unfold aKh;split
 .rename_i hf;have hf:=Ny hf;subst hf;unfold Ð;split
  .rename_i s l;split;.rename_i ho;refine .inr λn h r e=>?_;rw[dU e,qa];exact Is.of (aKf (jc ho) s h)
   .exact .inl (by rw[Sk])
  .exact .inl (by rw[Sk])
 .split
  .rename_i hf;have hf:=Ny hf;subst hf;unfold Ñ;split
   .rename_i l;split;.rename_i ho;refine .inr λn h r e=>?_;rw[dU e];exact Is.of (aAW (jc ho) h)
    .exact .inl (by rw[Sk])
   .exact .inl (by rw[Sk])
  .split
   .rename_i hf;have hf:=Ny hf;subst hf;unfold Ò;split
    .rename_i a;refine .inr λn h r e=>?_;cases n with
     |zero=>simp[IT.run] at e
     |succ n=>simp only[IT.run,IT.step,BC] at e;rw[<-e];exact Is.of (aKg a h)
    .exact .inl (by rw[Sk])
   .exact .inl (by rw[Sk])
theorem yB:Ev cx 7 [] [] λr _=>r= .bool true:=p_ aA1 3000 Dg
theorem ZF:JX cx 7 [] tt:=yB
end Go.Am
end
