/- Lemmas -/
import Derived.Test.YtglbboamemndeaaGreatDoorS30
import Derived.Test.YtglbboamemndeaaGreatDoorS31
set_option linter.all false
set_option maxRecDepth 100000
section
namespace Go.Am
open Go
noncomputable def BS.oX(b:BS)(r:Int)(t:DJ):BS×Bool:=if r=0 then b.apply Yr t else b.fh r t
section
variable{h h':Ai}{bi:Nat}{F:Nat->Prop}{b:BS}{v av:Aa}{j n o a:Nat}{t:DJ}{r:Int}{x:Item}
def Gz.oX(g:Gz b (n+8*(4*(o+a+8)+10)+8*a+2000) o a)(ht:t.Sm):Gz (b.oX r t).1 n (o+2*a+17) (a+9):=by
 have ge:∀{m},m<=n+8*(4*(o+a+8)+10)+8*a+2000->Gz b m o a:=λh=>g.le h (Ab _) (Ab _);have g0:Gz b n (o+2*a+17) (a+9):=g.le Ac Ac Ac;unfold BS.oX BS.fh;exact .ite (g.aA2 ht) (.ite (((ge (m:=n+5) Ac).Ht ht).le (Ab _) Ac Ac)
  (.ite (((ge (m:=n+5) Ac).D7 ht).le (Ab _) Ac Ac)
  (.ite (((ge (m:=n+1000) Ac).D8 ht).le (Ab _) Ac Ac)
  (.ite (((ge (m:=n+1004) Ac).CJ ht).le (Ab _) Ac Ac)
  (.ite (((ge (m:=n+1004) Ac).D9 ht).le (Ab _) Ac Ac)
  (.ite (((ge (m:=n+1005) Ac).Yt ht).le (Ab _) Ac Ac)
  (.ite (g.Je ht)
   (.ite (((ge (m:=n+5) Ac).Jc).le (Ab _) Ac Ac)
   (.ite (((ge (m:=n+4*a+1005) Ac).Dv ht).le (Ab _) Ac Ac) g0)))))))))
def Bg.oX(h:Bg x b.AA):Bg x (b.oX r t).1.AA:=by unfold BS.oX BS.fh;exact .ite h.apply (.ite h.Ht (.ite h.D7 (.ite h.D8 (.ite h.CJ (.ite h.D9 (.ite h.Gk (.ite h.Je (.ite h.Jc (.ite h.Dv h)))))))))
structure Wz(b:BS)(j:Nat):Prop where
 le:j<=40
 g:Gz b (4000000*j) (53000+1737*(40 -j)) (500+9*(40 -j))
def Wz.kK(w:Wz b (j+1)):Gz b (4000000*j+8*(4*((53000+1737*(39 -j))+(500+9*(39 -j))+8)+10)+8*(500+9*(39 -j))+2000) (53000+1737*(39 -j)) (500+9*(39 -j)):=by have:=w.le;exact w.g.le Ac Ac Ac
def Wz.oX(w:Wz b (j+1))(ht:t.Sm):Wz (b.oX r t).1 j:=by have:=w.le;exact⟨Ac,(w.kK.oX ht).le (Ab _) Ac Ac⟩
def Fin.wz(f:Fin b (59+1)):Wz b 40:=by have h1:=f.sz.AA;have h2:=f.sz.AY;exact⟨Ab _,f.gz.le Ac Ac Ac⟩
def Ä(w:PB h bi b F)(g:Gz b (n+8*(4*(o+a+8)+10)+8*a+2000) o a)(ht:t.Sm)(hp:t.Jy.length<=AJ)(hv:A6 t.As av)(hl:t.As.length<=1000000):
  Fc h F 10 [.ptr (some (bi,0)),.agg (.int .i64 r::B1 t av)] (.bool (b.oX r t).2) bi (b.oX r t).1:=by
 unfold BS.oX;by_cases h0:r=0;.subst h0;rw[Ag rfl];exact aFh w g ht hp hv hl
 .rw[Af h0];exact aFg w g ht hp hv hl h0
end
abbrev oY:Ty:= .st [.int .i64,aFe]
def aL(p:Int×DJ×Aa):List Aa:= .int .i64 p.1::B1 p.2.1 p.2.2
def u9{v:Aa}(h:qV (.sl oY) v):∃l:List (Int×DJ×Aa),Bz 13 (l.map aL) v/\l.length<=maxLen/\∀p∈l,Á p.2:=by have h:YM (.sl oY) [v]:=h;refine Yd (f:=aL) (Q:=λp=>Á p.2) (λr h=>?_) h;obtain⟨i,g,rfl,h1,h⟩:=Ct h;obtain⟨c,e,rfl,h2,h⟩:=Ct h;obtain rfl:=NF h;obtain⟨d,rfl,_⟩:=KH h1;obtain⟨p,rfl,hp⟩:=Â c h2;exact⟨(d,p),by simp[aL],hp⟩
structure SN where
 x:Fg
 kv:Aa
 av:Aa
def SN.row(p:SN):List Aa:=[.int .i64 p.x.kind,.int .i64 p.x.GH,p.kv,.int .i64 p.x.Cl,.int .i64 p.x.Be,.str p.x.name,p.av,.str p.x.data,.str p.x.Jy,.str p.x.sys,.bool p.x.CL,.int .i64 p.x.cont,.int .i64 p.x.Dg]
def SN.z:SN:=⟨{},.slnil,.slnil⟩
def Ď(l:List SN):∀r∈l.map SN.row,r.length=13:=LZ (f:=SN.row) (λ_=>rfl) l
structure SA(h:Ai)(a n:Nat)(ss:List SN)(A:Ar):Prop where
 e:A.n=ss.map SN.x
 ha:h[a]?=some (.cells [.CT n 0 (ss.length+1) 13,.slnil])
 hn:h[n]?=some (.cells ((SN.z::ss).map SN.row).flatten)
 kd:∀s∈ss,GI s.x.Bm s.kv
 at_:∀s∈ss,F7 h s.av s.x.As
def nS(x:Int):Nat:=x.toNat*13
def pS(ss:List SN)(x:Int):SN:=(SN.z::ss).getD x.toNat SN.z
section
variable{h h':Ai}{a n:Nat}{ss:List SN}{A:Ar}{x:Int}
def SA.len(w:SA h a n ss A):A.n.length=ss.length:=by rw[w.e,Aw]
def SA.nodes(w:SA h a n ss A):Bd h none (.ptr (some (a,0)))=some (.CT n 0 (ss.length+1) 13):=by simp only[Bd,w.ha];rfl
def SA.at(w:SA h a n ss A)(hx:A.has x):x.toNat<ss.length+1/\(x.toNat:Int)=x:=by have h1:=hx.1;have h2:=hx.2;rw[w.len] at h2;omega
def SA.pn(w:SA h a n ss A)(hx:A.has x):(SN.z::ss)[x.toNat]?=some (pS ss x)/\(pS ss x).x=A.nd x/\pS ss x∈ss:=by
 have h1:=(w.at hx).1;have h2:=hx.1;have hl:x.toNat<(SN.z::ss).length:=by simpa using h1
 refine⟨by unfold pS;rw[AK,Au hl];rfl,?_⟩;obtain⟨k,hk⟩:∃k,x.toNat=k+1:=⟨x.toNat-1,Ac⟩;have pA:k<ss.length:=Ac;have b:pS ss x=ss[k]:=by unfold pS;rw[hk,Ze,AK,Au pA];rfl
 refine⟨?_,by rw[b];exact Bb _⟩;rw[b];unfold Ar.nd;rw[Ag hx,w.e,hk,Lq,AK,CA,Au pA];rfl
def SA.Yx(w:SA h a n ss A)(hx:A.has x){k:Nat}(hk:k<13):Bd h none (.ptr (some (n,nS x+k)))=(pS ss x).row[k]?:=by unfold nS;simp only[Bd,w.hn,Gq];exact PF (Ď _) hk (by rw[CA,(w.pn hx).1];rfl)
def SA.addr(w:SA h a n ss A)(hx:A.has x):Az (.FG 13) [.CT n 0 (ss.length+1) 13,.int .i64 x]=some (.ptr (some (n,nS x))):=by obtain⟨h1,h2⟩:=w.at hx;have:=Ge (k:= .i64) (id:=n) (z:=13) h1;rwa [h2] at this
def SA.f0(w:SA h a n ss A)(hx:A.has x):Bd h none (.ptr (some (n,nS x)))=some (.int .i64 (A.nd x).kind):=by have:=w.Yx hx (k:=0) AM;rw[Bp] at this;rw[this,<-(w.pn hx).2.1];rfl
def SA.f1(w:SA h a n ss A)(hx:A.has x):Bd h none (.ptr (some (n,nS x+1)))=some (.int .i64 (A.nd x).GH):=by rw[w.Yx hx AM,<-(w.pn hx).2.1];rfl
def SA.f2(w:SA h a n ss A)(hx:A.has x):Bd h none (.ptr (some (n,nS x+2)))=some (pS ss x).kv:=by rw[w.Yx hx AM];rfl
def SA.f11(w:SA h a n ss A)(hx:A.has x):Bd h none (.ptr (some (n,nS x+11)))=some (.int .i64 (A.nd x).cont):=by rw[w.Yx hx AM,<-(w.pn hx).2.1];rfl
def SA.f12(w:SA h a n ss A)(hx:A.has x):Bd h none (.ptr (some (n,nS x+12)))=some (.int .i64 (A.nd x).Dg):=by rw[w.Yx hx AM,<-(w.pn hx).2.1];rfl
def SA.MU(w:SA h a n ss A)(hx:A.has x):GI (A.nd x).Bm (pS ss x).kv:=by rw[<-(w.pn hx).2.1];exact w.kd _ (w.pn hx).2.2
def SA.att(w:SA h a n ss A)(hx:A.has x):F7 h (pS ss x).av (A.nd x).As:=by rw[<-(w.pn hx).2.1];exact w.at_ _ (w.pn hx).2.2
def PO(x:Fg)(K V:Aa):List Aa:=[.int .i64 x.kind,.int .i64 x.GH,K,.int .i64 x.Cl,.int .i64 x.Be,.str x.name,V,.str x.data,.str x.Jy,.str x.sys,.bool x.CL,.int .i64 x.cont,.int .i64 x.Dg]
def SA.ld(w:SA h a n ss A)(hx:A.has x):Bd h (some 13) (.ptr (some (n,nS x)))=some (.agg (PO (A.nd x) (pS ss x).kv (pS ss x).av)):=by
 obtain⟨h1,h2⟩:=w.at hx;have hlt:x.toNat<(SN.z::ss).length:=by simpa using h1
 have:=TL (Ď _) w.hn (i:=x.toNat) (by simpa using h1);rw[FE] at this;have e:=(w.pn hx).1;rw[Au hlt,Bx] at e;rw[e] at this;rw[<-(w.pn hx).2.1];exact this
def aFi(w:SA h a n ss A):B2 cx 90 [.ptr (some (a,0)),.int .i64 x] h (.bool (decide (A.has x))) h:=by
 have hl:=w.len;rw[Ae,Ŭ];by_cases h0:0<x
 .have e:decide (A.has x)=decide (x<((ss.length+1:Nat):Int)):=by rw[C7];unfold Ar.has;omega
  rw[e];simp only[B9,YU,h0,w.nodes,show Az (.len false) [.CT n 0 (ss.length+1) 13]=some (.int .i64 ((ss.length+1:Nat):Int)) from rfl]
 .have e:decide (A.has x)=false:=by rw[Ah];unfold Ar.has;omega
  rw[e];simp only[abS,h0]
def ď(w:SA h a n ss A)(hx:A.has x):B2 cx 92 [.ptr (some (a,0)),.int .i64 x] h (.int .i64 (A.up x)) h:=by
 rw[Ae,Ů];by_cases hp:(A.nd x).GH=0
 .have e:A.up x=(A.nd x).Dg:=by unfold Ar.up;rw[Af (by simpa using hp)]
  simp only[abS,w.nodes,w.addr hx,w.f1 hx,hp,w.f12 hx,e,Cj,Ck]
 .have e:A.up x=(A.nd x).GH:=by unfold Ar.up;rw[Ag (by simpa using hp)]
  simp only[abS,w.nodes,w.addr hx,w.f1 hx,hp,e,Cj]
def vi(y:Fg)(K V:Aa)(h:Ai):B2 cx 89 [.agg (PO y K V)] h (.bool (decide (US y))) h:=by rw[Ae,ū,PO];simp only[B9,US];refine⟨λh1=>⟨λh2=>?_,λh2=>?_⟩,λh1=>?_⟩<;>simp[*]
structure j6(h:Ai)(v:Aa)(l:List AZ):Prop where
 len:Az (.len false) [v]=some (.int .i64 (l.length:Int))
 at_:∀k (hk:k<l.length),∃id o,Az (.FG 3) [v,.int .i64 (k:Int)]=some (.ptr (some (id,o)))/\Bd h none (.ptr (some (id,o)))=some (.int .i64 l[k].Be)/\Bd h none (.ptr (some (id,o+1)))=some (.str l[k].name)/\Bd h (some 3) (.ptr (some (id,o)))=some (.agg [.int .i64 l[k].Be,.str l[k].name,.str l[k].value])
def F7.fl{v:Aa}{l:List AZ}(hv:F7 h v l):j6 h v l:=by
 rcases hv with⟨rfl,rfl⟩|⟨id,rfl,hc,_⟩
 .exact⟨rfl,λk hk=>by simp at hk⟩
 .refine⟨rfl,λk hk=>⟨id,k*3,Ge hk,?_⟩⟩;have hg:(l.map AZ.row)[k]?=some l[k].row:=by rw[CA,Au hk];rfl
  have ld:∀j,j<3->Bd h none (.ptr (some (id,k*3+j)))=l[k].row[j]?:=λj hj=>by simp only[Bd,hc,Gq];exact PF (qp l) hj hg
  have l0:=ld 0 AM;rw[Bp] at l0;have lr:=TL (qp l) hc (i:=k) (by simpa using hk);rw[FE] at lr;exact⟨l0,ld 1 AM,lr⟩
def Đ(s:Int):Nr cx 34 [.int .i64 s] (.bool (decide (BS.JP s))):=by rw[R6,ţ];unfold BS.JP;by_cases h1:0<=s<;>by_cases h2:s<=7<;>simp[h1,h2]
def aFj{v:Aa}{l:List AZ}(hv:j6 h v l)(hb:l.length<=1000000000)(hs:∀y∈l,BS.JP y.Be):B2 cx 35 [v] h tt h:=by
 rw[Ae,Ť];refine BM (λk:Nat=>[ff,.int .i64 (k:Int)]) (λk h1=>k<=l.length/\h1=h) (λk=>l.length-k) 0 rfl ⟨Bc _,rfl⟩ ?_;rintro k h1 ⟨hk,rfl⟩;have hvl:=hv.len;rcases Bl k l.length with hlt|GS
 .obtain⟨id,o,d,c,_⟩:=hv.at_ k hlt;have b:∀{Q:JE} {h:Ai} {kk:Aa->IT},W cx (.Cb 34 [.int .i64 l[k].Be] kk) Q h↔W cx (kk (.bool (decide (BS.JP l[k].Be)))) Q h:=(Đ _).Cb rfl rfl;simp only[abS,hvl,(Ac:(k:Int)<(l.length:Int)),d,c,b,Ak (hs _ (Bb hlt)),CE (Ac:k<9223372036854775807)];exact Br.next (k+1) rfl ⟨hlt,rfl⟩ Ac
 .simp only[abS,hvl,(Ac:¬(k:Int)<(l.length:Int))]
def aFk{v:Aa}{l:List AZ}(hv:j6 h v l)(hb:l.length<=1000000000):∃u,B2 cx 36 [v] h u h/\A6 (CC l) u:=by
 have hm:AJ=140737488355328:=rfl;have hvl:=hv.len;have OT:Ev cx 36 [v] h λr h'=>A6 (CC l) r/\h'=h:=by
  unfold Ev;rw[ť];refine BM (λs:Aa×Nat=>[s.1,.int .i64 (s.2:Int)]) (λs h1=>s.2<=l.length/\A6 (CC (l.take s.2)) s.1/\h1=h) (λs=>l.length-s.2) (.slnil,0) rfl ⟨Bc _,.inr ⟨rfl,rfl⟩,rfl⟩ ?_;rintro⟨u,k⟩ h1 ⟨hk,hu,rfl⟩;simp only at hk hu;rcases Bl k l.length with hlt|GS
  .have lG:=Bz.GO hu;have jw:=P9 (l:=l.take k);rw[AB] at jw;obtain⟨id,o,t,e,g,y⟩:=hv.at_ k hlt;simp only[abS,↓reduceIte,hvl,(Ac:(k:Int)<(l.length:Int))];refine E2 (i:=2) (λj:Nat=>[.bool (((CC (l.take k)).take j).any λz=>decide (Db l[k]=Db z)),.int .i64 (j:Int)]) (λj h2=>j<=(CC (l.take k)).length/\h2=h1) (λj=>(CC (l.take k)).length-j) (λj h2=>j=(CC (l.take k)).length/\h2=h1) 0 rfl ⟨Bc _,rfl⟩ ?_ ?_
   .rintro j h2 ⟨hj,rfl⟩;rcases Bl j (CC (l.take k)).length with c|B
    .have q:=Bz.DB (k:= .i64) hu c;rw[AZ.row] at q;have es:((CC (l.take k)).take (j+1)).any (λz=>decide (Db l[k]=Db z))=(((CC (l.take k)).take j).any (λz=>decide (Db l[k]=Db z))||decide (Db l[k]=Db (CC (l.take k))[j])):=by rw[AP c,fm];simp
     by_cases m:(CC (l.take k))[j].Be=l[k].Be
     .by_cases w:(CC (l.take k))[j].name=l[k].name
      .have d:decide (Db l[k]=Db (CC (l.take k))[j])=true:=by simp[Db,m,w]
       simp only[abS,lG,(Ac:(j:Int)<((CC (l.take k)).length:Int)),t,e,g,q,A3 m,Ak w,CE (Ac:j<9223372036854775807)];exact .next (j+1) (by rw[es,d,Bool.or_true]) ⟨c,rfl⟩ Ac
      .have d:decide (Db l[k]=Db (CC (l.take k))[j])=false:=by simp[Db];exact λ_ h=>w h.symm
       simp only[abS,lG,(Ac:(j:Int)<((CC (l.take k)).length:Int)),t,e,g,q,A3 m,Ah w,CE (Ac:j<9223372036854775807)];exact .next (j+1) (by rw[es,d,K4]) ⟨c,rfl⟩ Ac
     .have d:decide (Db l[k]=Db (CC (l.take k))[j])=false:=by simp[Db];exact λh=>absurd h.symm m
      simp only[abS,lG,(Ac:(j:Int)<((CC (l.take k)).length:Int)),t,e,q,m,CE (Ac:j<9223372036854775807)];exact .next (j+1) (by rw[es,d,K4]) ⟨c,rfl⟩ Ac
    .simp only[abS,lG,(Ac:¬(j:Int)<((CC (l.take k)).length:Int))];exact .IE j rfl ⟨Ac,rfl⟩
   .rintro j h2 ⟨rfl,rfl⟩;have p:CC (l.take (k+1))=if(CC (l.take k)).any (λz=>decide (Db l[k]=Db z)) then CC (l.take k) else CC (l.take k)++[l[k]]:=by rw[AP hlt];exact Ql
    have em:Az (.DX 3) [.agg [.int .i64 l[k].Be,.str l[k].name,.str l[k].value]]=some (.sl 3 [[.int .i64 l[k].Be,.str l[k].name,.str l[k].value]]):=rfl;have a1:=Bz.Xi (f:=AZ.row) (b:=40) (a:=l[k]) hu Ac;rw[AZ.row] at a1;rw[BN];cases hq:(CC (l.take k)).any (λz=>decide (Db l[k]=Db z)) with
    |true=>rw[Ag hq] at p;simp only[abS,↓reduceIte,CE (Ac:k<9223372036854775807)];exact Br.next (u,k+1) rfl ⟨hlt,by rw[p];exact hu,rfl⟩ Gw
    |false=>rw[Af (by rw[hq];decide)] at p;simp only[abS,Nat.reduceLeDiff,↓reduceIte,t,y,em,a1,CE (Ac:k<9223372036854775807)];exact Br.next (_,k+1) rfl ⟨hlt,by rw[p];exact .mk,rfl⟩ Gw
  .rw[A8 GS] at hu;simp only[abS,↓reduceIte,hvl,(Ac:¬(k:Int)<(l.length:Int))];exact⟨_,rfl,hu⟩
 obtain⟨r,h',hr,hu,rfl⟩:=OT.ret;exact⟨r,hr,hu⟩
def aFn{y:Fg}{K V:Aa}(ok:sC y)(D:GI y.Bm K)(C:j6 h V y.As):B2 cx 33 [.agg (PO y K V)] h tt h:=by
 have f:=vi y K V h;have lk:=Bz.GO D;have s:=C.len;have G:=ok.k;rw[PO] at f;rw[Ae,Ţ,PO];have F:¬y.kind<1:=Ac;have E:¬y.kind>6:=Ac;have m:¬y.kind=4->¬y.kind=1->¬y.kind=2->y.Bm=[]:=λa b c=>Hv λhn=>by rcases ok.Bm hn with h|h|h<;>contradiction
 have o:=ok.elem;have l:=ok.nm;have j:=ok.dt;have g:=ok.data;have i:=ok.CL;have B:=ok.QM;have r:=ok.MB;have ht:US y->y.kind=4:=λh=>h.1;by_cases p:US y
 .have d:=ht p;have e:y.Dg=0:=Hv λhn=>by have:=r hn;omega
  obtain⟨w,v⟩:=j Ac;have u:=g Ac Ac;have t:=i Ac;rw[Ak p] at f;simp only[d,w,v,u,t,e] at f;simp only[abS,lk,s,f.Ad,d,w,v,u,t,e,Int.reduceLT,Int.reduceEq,Int.reduceGT,AI,AR,PS,J7,Cj,Ck,DM,C0,GK,D2,AL,AN];try decide
 .rw[Ah p] at f;have z:y.cont=0:=Hv λhn=>p (B hn);have q:y.kind=1\/y.kind=2\/y.kind=3\/y.kind=4\/y.kind=5\/y.kind=6:=Ac;rcases q with d|d|d|d|d|d
  all_goals
   have e:y.kind≠2->y.Dg=0:=λh2=>Hv λhn=>h2 (r hn);rw[d] at m o l j g i e;simp only[Int.reduceEq,AL,AN,AR,AI,Cj] at m o l j g i e;simp only[d,z,e,m,o,l,j,g,i] at f;simp only[abS,lk,s,f.Ad,d,z,e,m,o,l,j,g,i,Bk,vF,aN,Int.reduceLT,Int.reduceEq,Int.reduceGT,AI,AR,PS,J7,Cj,Ck,DM,C0,GK,D2,AL,AN];try decide
def vj{l:List Int}(hn:l.Nodup){k:Nat}(hk:k<l.length):BT (λy=>decide (l[k]=y)) 0 l=(k:Int):=by
 obtain⟨j,hj,e,g,_⟩:=SB (Bb hk);rw[e];rw[Au hj,Bx] at g;have:j=k:=by
  rcases aLz j k with h|h|h
  .exact absurd g (QA.1 (vp.1 hn) j k hj hk h)
  .exact h
  .exact absurd g.symm (QA.1 (vp.1 hn) k j hk hj h)
 rw[this]
def SA.has(w:SA h a n ss A)(hx:A.has x):B2 cx 90 [.ptr (some (a,0)),.int .i64 x] h tt h:=by have:=aFi (x:=x) w;rwa [Ak hx] at this
def aFo{e:Int}(w:SA h a n ss A)(ok:Er A e)(hx:A.has x)(hb:∀y,(A.nd y).Bm.length<=1000000000):B2 cx 37 [.ptr (some (a,0)),.int .i64 x] h tt h:=by
 have lk:=Bz.GO (w.MU hx);have root:=(ok.QN x hx).root;have m0:=(ok.QN x hx).m0;have Ą:=hb x;have ld:=w.ld hx;rw[PO] at ld;rw[Ae,Ŧ];by_cases hp:(A.nd x).GH=0
 .simp only[abS,w.nodes,w.addr hx,ld,hp,Cj,Ck,DM,C0,GK,D2,AL,AN];refine BM (λk:Nat=>[ff,.int .i64 (k:Int)]) (λk h1=>k<=(A.nd x).Bm.length/\h1=h) (λk=>(A.nd x).Bm.length-k) 0 rfl ⟨Bc _,rfl⟩ ?_;rintro k h1 ⟨hk,rfl⟩;rcases Bl k (A.nd x).Bm.length with hlt|GS
  .obtain⟨hy,b⟩:=ok.MU x hx _ (Bb hlt);obtain⟨p,f,d⟩:=(GI.Rm (h:=h1) (w.MU hx)).at_ k hlt;have r2:=th (h:=h1) (w.MU hx).Rm Ą ((A.nd x).Bm[k]);rw[vj m0 hlt] at r2;simp only[abS,lk,(Ac:(k:Int)<((A.nd x).Bm.length:Int)),f,d,(w.has hy).Ad,w.nodes,w.addr hy,w.f1 hy,b,r2.Ad,Cj,Ck,CE (Ac:k<9223372036854775807)];exact Br.next (k+1) rfl ⟨hlt,rfl⟩ Ac
  .simp only[abS,lk,(Ac:¬(k:Int)<((A.nd x).Bm.length:Int))]
 .obtain⟨c,hm⟩:=ok.GH x hx hp;obtain⟨l,j⟩:=root hp;obtain⟨i,hi,m,_⟩:=SB hm;have g:=th (h:=h) (w.MU c).Rm (hb _) x;rw[m] at g;simp only[abS,w.nodes,w.addr hx,ld,hp,(w.has c).Ad,l,j,w.addr c,w.f2 c,g.Ad,(Ac:¬(i:Int)<0),Cj];refine BM (λk:Nat=>[ff,.int .i64 (k:Int)]) (λk h1=>k<=(A.nd x).Bm.length/\h1=h) (λk=>(A.nd x).Bm.length-k) 0 rfl ⟨Bc _,rfl⟩ ?_;rintro k h1 ⟨hk,rfl⟩;rcases Bl k (A.nd x).Bm.length with hlt|GS
  .obtain⟨hy,b⟩:=ok.MU x hx _ (Bb hlt);obtain⟨p,f,d⟩:=(GI.Rm (h:=h1) (w.MU hx)).at_ k hlt;have r2:=th (h:=h1) (w.MU hx).Rm Ą ((A.nd x).Bm[k]);rw[vj m0 hlt] at r2;simp only[abS,lk,(Ac:(k:Int)<((A.nd x).Bm.length:Int)),f,d,(w.has hy).Ad,w.nodes,w.addr hy,w.f1 hy,b,r2.Ad,Cj,Ck,CE (Ac:k<9223372036854775807)];exact Br.next (k+1) rfl ⟨hlt,rfl⟩ Ac
  .simp only[abS,lk,(Ac:¬(k:Int)<((A.nd x).Bm.length:Int))]
def aFp(w:SA h a n ss A)(ok:Er A 0)(hx:A.has x):B2 cx 38 [.ptr (some (a,0)),.int .i64 x] h tt h:=by
 obtain⟨c,g⟩:=ok.Cl x hx;have s:=ok.Xq x hx;have k:x≠0:=by have:=hx.1;omega
 have rt:=vi (A.nd x) (pS ss x).kv (pS ss x).av h;have ld:=w.ld hx;rw[PO] at ld rt;have q:US (A.nd x)->A.has (A.nd x).cont/\(A.nd (A.nd x).cont).kind=2/\(A.nd (A.nd x).cont).Dg=x:=λt=>ok.cont x hx (ok.Vj x hx k t);have i:(A.nd x).Dg≠0->A.has (A.nd x).Dg/\US (A.nd (A.nd x).Dg)/\(A.nd (A.nd x).Dg).cont=x:=λh0=>⟨(ok.Dg x hx h0).1,(ok.QN _ (ok.Dg x hx h0).1).QM (by rw[(ok.Dg x hx h0).2];exact k),(ok.Dg x hx h0).2⟩
 rw[Ae,ŧ];have tail:(A.nd x).Dg≠0->∃K V,B2 cx 89 [.agg (PO (A.nd (A.nd x).Dg) K V)] h tt h/\Bd h (some 13) (.ptr (some (n,nS (A.nd x).Dg)))=some (.agg (PO (A.nd (A.nd x).Dg) K V)):=λh0=>by obtain⟨h1,h2,_⟩:=i h0;have r:=vi (A.nd (A.nd x).Dg) (pS ss (A.nd x).Dg).kv (pS ss (A.nd x).Dg).av h;rw[Ak h2] at r;exact⟨_,_,r,w.ld h1⟩
 by_cases f:US (A.nd x)
 .obtain⟨e,p,o⟩:=q f;have d:¬(A.nd x).kind=1:=by rw[f.1];decide
  rw[Ak f] at rt;by_cases b:(A.nd x).Dg=0;.rw[b] at rt;simp only[abS,w.nodes,w.addr hx,ld,(w.has c).Ad,w.addr c,w.f0 c,g,d,rt.Ad,(w.has e).Ad,w.addr e,w.f0 e,p,w.f12 e,o,b,Cj,Ck,DM,C0,GK,D2,AL,AN]
  .obtain⟨h1,h2,j⟩:=i b;obtain⟨K,V,r,l⟩:=tail b;simp only[abS,w.nodes,w.addr hx,ld,(w.has c).Ad,w.addr c,w.f0 c,g,d,rt.Ad,(w.has e).Ad,w.addr e,w.f0 e,p,w.f12 e,o,b,(w.has h1).Ad,w.addr h1,l,r.Ad,w.f11 h1,j,Cj,Ck,DM,C0,GK,D2,AL,AN]
 .rw[Ah f] at rt;by_cases d:(A.nd x).kind=1
  .have m:=s d;have b:(A.nd x).Dg=0:=Hv λh0=>by have:=(ok.QN x hx).MB h0;omega
   rw[b,d,m] at rt;simp only[abS,w.nodes,w.addr hx,ld,m,(w.has hx).Ad,w.f0 hx,d,rt.Ad,b,Cj,Ck,DM,C0,GK,D2,AL,AN]
  .by_cases b:(A.nd x).Dg=0;.rw[b] at rt;simp only[abS,w.nodes,w.addr hx,ld,(w.has c).Ad,w.addr c,w.f0 c,g,d,rt.Ad,b,Cj,Ck,DM,C0,GK,D2,AL,AN]
   .obtain⟨h1,h2,j⟩:=i b;obtain⟨K,V,r,l⟩:=tail b;simp only[abS,w.nodes,w.addr hx,ld,(w.has c).Ad,w.addr c,w.f0 c,g,d,rt.Ad,b,(w.has h1).Ad,w.addr h1,l,r.Ad,w.f11 h1,j,Cj,Ck,DM,C0,GK,D2,AL,AN]
def aFq{e:Int}(w:SA h a n ss A)(ok:Er A e)(hx:A.has x)(hb:ss.length<=900000000):B2 cx 39 [.ptr (some (a,0)),.int .i64 x] h ff h:=by
 obtain⟨r,hr⟩:=ok.cO;have b:∀y,A.has y->A.up y=0\/(A.has (A.up y)/\r (A.up y)<r y):=λy hy=>by
  by_cases h0:A.up y=0;.exact .inl h0
  .exact .inr ⟨cP ok hy h0,hr y hy h0⟩
 have ln:Az (.len false) [.CT n 0 (ss.length+1) 13]=some (.int .i64 ((ss.length+1:Nat):Int)):=rfl;rw[Ae,Ũ];simp only[abS,(ď w hx).Ad];refine BM (λs:Int×Nat=>[ff,.int .i64 s.1,.int .i64 (s.2:Int)]) (λs h1=>s.2<=ss.length+1/\(s.1=0\/(A.has s.1/\r s.1<r x))/\h1=h) (λs=>ss.length+1 -s.2) (A.up x,0) rfl ⟨Bc _,b x hx,rfl⟩ ?_;rintro⟨y,k⟩ h1 ⟨hk,hy,rfl⟩;simp only at hk hy;rcases hy with rfl|⟨hy,c⟩
 .simp only[abS,↓reduceIte,Cj,Ck]
 .have d:¬y=0:=by have:=hy.1;omega
  have f:¬y=x:=λe=>by rw[e] at c;omega
  rcases Bl k (ss.length+1) with hlt|GS
  .simp only[abS,↓reduceIte,d,w.nodes,ln,(Ac:(k:Int)<((ss.length+1:Nat):Int)),f,(ď w hy).Ad,CE (Ac:k<9223372036854775807),Cj];exact Br.next (A.up y,k+1) rfl ⟨hlt,(b y hy).imp id λh=>⟨h.1,Nat.lt_trans h.2 c⟩,rfl⟩ Gw
  .simp only[abS,↓reduceIte,d,w.nodes,ln,(Ac:¬(k:Int)<((ss.length+1:Nat):Int)),Cj]
def oZ{lo:Nat}:∀{Av:List (List Aa)} {l:List Fg},Av.length=l.length->(∀k (h1:k<Av.length) (h2:k<l.length),XS h lo l[k] Av[k])->
  ∃ss:List SN,l=ss.map SN.x/\Av=ss.map SN.row/\(∀s∈ss,GI s.x.Bm s.kv)/\∀s∈ss,F7 h s.av s.x.As
 |[],[],_,_=>⟨[],rfl,rfl,Ax,Ax⟩
 |[],_::_,hl,_=>by simp at hl
 |_::_,[],hl,_=>by simp at hl
 |r::Av,y::l,hl,b=>by
  obtain⟨ss,j,i,g,f⟩:=oZ (Av:=Av) (l:=l) (by simpa using hl) λk h1 h2=>by have:=b (k+1) (by simpa using h1) (by simpa using h2);simpa using this
  obtain⟨K,V,e,d,c,_⟩:=b 0 Ax Ax;simp only[aA8] at e d c;refine⟨⟨y,K,V⟩::ss,by rw[j];rfl,by rw[i,e];rfl,λs hs=>?_,λs hs=>?_⟩
  .rcases AF.1 hs with rfl|hs
   .exact d
   .exact g s hs
  .rcases AF.1 hs with rfl|hs
   .exact c
   .exact f s hs
def aA3{lo:Nat}{v:Aa}(hv:TO h lo v A.n)(hne:A.n≠[])(hb:A.n.length<=900000000):
  ∃ss:List SN,ss.length=A.n.length/\TX h 13 168 [I 0,I 0,.slnil,I 0,I 0,S [],.slnil,S [],S [],S [],ff,I 0,I 0] (I 1) (I 1)=some (h++[.cells SN.z.row],.CT h.length 0 1 13)/\
   FN (h++[.cells SN.z.row]) 13 168 (.CT h.length 0 1 13) v=some (h++[EN.Dw,EN.cells ((SN.z::ss).map SN.row).flatten],.CT (h.length+1) 0 (ss.length+1) 13)/\
   ∀t,SA (h++[EN.Dw,EN.cells ((SN.z::ss).map SN.row).flatten]++[EN.cells [.CT (h.length+1) 0 (ss.length+1) 13,.slnil]]++t) (h.length+2) (h.length+1) ss A:=by
 have yl:AJ=140737488355328:=rfl;obtain⟨Av,e,c,j⟩:=hv;obtain⟨ss,d,i,g,f⟩:=oZ c j;have hl:ss.length=A.n.length:=by rw[d,Aw]
 refine⟨ss,hl,rfl,?_,λt=>⟨d,Ax,Ax,g,λs hs=>?_⟩⟩
 .have aAT:Av≠[]:=by rintro rfl;exact hne (Cy (by simpa using c.symm))
  have hg:=N7 (h:=h++[.cells SN.z.row]) (id:=h.length) (Av:=[SN.z.row]) (r2:=Av) (z:=13) (b:=168) (v:=v) (by simp;rfl) AM Ax e aAT (by rw[c];simp;omega);rw[AS] at hg;rw[hg,i];simp[Mc]
 .rw[AT,AT];exact(f s hs).Jn
def aFr{lo:Nat}{v:Aa}(ok:Er A 0)(hv:TO h lo v A.n)(hne:A.n≠[])(hb:A.n.length<=900000000)(hk:∀y,(A.nd y).Bm.length<=1000000000)(ha:∀y,(A.nd y).As.length<=1000000000):∃t,B2 cx 11 [v] h tt (h++t):=by
 obtain⟨ss,hl,g1,g2,g3⟩:=aA3 hv hne hb;have vc:v.cells=[v]:=by obtain⟨Av,g,_⟩:=hv;exact Bz.cells g
 obtain⟨t0,b⟩:∃t0,h++[EN.Dw,EN.cells ((SN.z::ss).map SN.row).flatten]++[EN.cells [.CT (h.length+1) 0 (ss.length+1) 13,.slnil]]=h++t0:=⟨_,AT _ _ _⟩;have w:=g3 [];rw[Bs,b] at w;have r:(h++[EN.Dw,EN.cells ((SN.z::ss).map SN.row).flatten]).length=h.length+2:=Ax;have ln:Az (.len false) [.CT (h.length+1) 0 (ss.length+1) 13]=some (.int .i64 ((ss.length+1:Nat):Int)):=rfl;refine⟨t0,?_⟩;rw[Ae,ŝ,t11];refine pP g1 ?_;simp only[abS,Nat.reduceLeDiff,↓reduceIte,Bj,g2,r,b];obtain⟨a0,ea⟩:∃a0,h.length+2=a0:=⟨_,rfl⟩;obtain⟨e,en⟩:∃e,h.length+1=e:=⟨_,rfl⟩;rw[ea,en] at w;rw[en] at ln;rw[ea];obtain⟨H,f⟩:∃H,h++t0=H:=⟨_,rfl⟩;rw[f] at w⊢;have o:=w.len;refine BM (λk:Nat=>[ff,.int .i64 (k:Int)]) (λk h1=>1<=k/\k<=ss.length+1/\h1=H) (λk=>ss.length+1 -k) 1 rfl ⟨Ab _,Ac,rfl⟩ ?_;rintro k h1 ⟨pA,WJ,rfl⟩;rcases Bl k (ss.length+1) with hlt|GS
 .have hx:A.has (k:Int):=by unfold Ar.has;omega
  have c:=ok.QN _ hx;have av:=(w.att hx).fl;have ld:=w.ld hx;have d:=aFn (h:=h1) c (w.MU hx) av;have r2:=aFj av (ha _) c.nv;obtain⟨u,i,hu⟩:=aFk av (ha _);rw[c.CC] at hu;have m:=Bz.GO hu;have l:=av.len;have rs:∀{Q:JE} {h:Ai} {kk:Aa->IT},W cx (.Cb 34 [.int .i64 (A.nd k).Be] kk) Q h↔W cx (kk tt) Q h:=λ{Q h kk}=>by have:=(Đ (A.nd k).Be).Cb (h:=h) (Q:=Q) (k:=kk) rfl rfl;rwa [Ak (show BS.JP (A.nd k).Be from c.sp)] at this
  rw[PO] at ld d;simp only[abS,w.nodes,ln,(Ac:(k:Int)<((ss.length+1:Nat):Int)),w.addr hx,ld,d.Ad,rs,r2.Ad,l,i.Ad,m,(aFo w ok hx hk).Ad,(aFp w ok hx).Ad,Cj,Ck,CE (Ac:k<9223372036854775807)];exact Br.next (k+1) rfl ⟨Ac,hlt,rfl⟩ Ac
 .simp only[abS,w.nodes,ln,(Ac:¬(k:Int)<((ss.length+1:Nat):Int))];refine BM (λk:Nat=>[ff,.int .i64 (k:Int)]) (λk h2=>1<=k/\k<=ss.length+1/\h2=h1) (λk=>ss.length+1 -k) 1 rfl ⟨Ab _,Ac,rfl⟩ ?_;rintro j h2 ⟨q,p,rfl⟩;rcases Bl j (ss.length+1) with hlt|GS
  .have hx:A.has (j:Int):=by unfold Ar.has;omega
   simp only[abS,w.nodes,ln,(Ac:(j:Int)<((ss.length+1:Nat):Int)),(aFq w ok hx Ac).Ad,CE (Ac:j<9223372036854775807)];exact Br.next (j+1) rfl ⟨Ac,hlt,rfl⟩ Ac
  .simp only[abS,w.nodes,ln,(Ac:¬(j:Int)<((ss.length+1:Nat):Int)),f]
end
def aA4{h:Ai}{bi a:Nat}{o c t:Aa}{G:Nat->Prop}{b:BS}{m:Nat}(w:BX h bi a o c t G b)(ok:Er b.a 0)(rm:Cf b m):∃v u,B2 cx 12 [.ptr (some (a,0))] h v (h++u)/\TO (h++u) h.length v b.a.n:=by obtain⟨n,m,ps,d⟩:=w.w.pa;exact aIU d rm.TD (λx=>rm.TD.Bm ok x) (by have:=rm.n;omega)
def aA5{i:Item}:Az (.geq true [.i,.i,.s,.b]) [.agg i.row,.agg i.row]=some (.bool false):=by rw[Xa];simp[Item.row,DU,LM]
def Å{l:List Item}:DO l 0=l.headD Item.zero:=by cases l<;>rfl
def fj(s:Hd){av:Aa}(hv:A6 s.As av){l:List QO}{v:Aa}(ho:oG l v)(hr:∀x∈l,-2147483648<=x.q.r/\x.q.r<=2147483647){d:List (Int×DJ×Aa)}{v2:Aa}(hs:Bz 13 (d.map aL) v2)(hp:∀p∈d,Á p.2):Ev cx 3 [.agg (SL s av),v,v2] [] λr _=>r= .bool true:=by
 have z:=aJJ s hv ho [];rw[SL] at z;have vt:av.cells=[av]:=Bz.cells hv;have A:=Bz.GO hs;unfold Ev;rw[aC1,SL];by_cases C:NG l 40/\Uw s;rotate_left;.rw[Ah C] at z;simp only[abS,Nat.reduceAdd,Nat.reduceLeDiff,Nat.reduceEqDiff,↓reduceIte,reduceCtorEq,Bj,Cc,vt,z.Ad,j1.Cb rfl rfl];exact⟨_,rfl,rfl⟩
 rw[Ak C] at z;by_cases c1:d.length<=40;rotate_left;.simp only[abS,Nat.reduceAdd,Nat.reduceLeDiff,Nat.reduceEqDiff,↓reduceIte,reduceCtorEq,Bj,Cc,vt,z.Ad,A,(Ac:(40:Int)<(d.length:Int)),j1.Cb rfl rfl];exact⟨_,rfl,rfl⟩
 have hq:∀x∈l,ĉ x.q:=λx hx=>(C.1.2 x hx).ok (hr x hx);have IE:Fin (ND s.b l) (59+1):=Yc (j:=60) (s.IE.le (by have:=C.1.1;omega)) hq;obtain⟨h1,bi,F1,P,w1,x1⟩:=aEF s hv C.2.2.OL ho (by have:=C.1.1;omega) hq [];generalize ND s.b l=Y at*;have R:=IE.wz;rw[SL] at P;simp only[abS,Nat.reduceAdd,Nat.reduceLeDiff,Nat.reduceEqDiff,↓reduceIte,reduceCtorEq,Bj,Cc,Nat.reduceLeDiff,↓reduceIte,Bj,vt,z.Ad,A,(Ac:¬(40:Int)<(d.length:Int)),P.Ad];refine BM (λk:Nat=>[ff,.int .i64 (k:Int)]) (λk h2=>k<=d.length/\∃b F,PB h2 bi b F/\Wz b (40 -k)) (λk=>d.length-k) 0 rfl ⟨Bc _,Y,F1,w1,R⟩ ?_;rintro n h2 ⟨hn,b,F2,I,z2⟩;rcases Bl n d.length with hlt|GS
 .have B:=Bz.DB (k:= .i64) hs hlt;rcases pF:d[n] with⟨r,p,Z⟩
  have f_:=hp _ (Bb hlt);rw[pF] at f_ B;have u:=aJH (sa:=saB) (λh hv=>h9B h hv) f_.v h2;cases w:p.OL saB with
  |false=>rw[w] at u;simp only[aL,B1] at B u;simp only[abS,Nat.reduceAdd,Nat.reduceLeDiff,Nat.reduceEqDiff,↓reduceIte,reduceCtorEq,Bj,Cc,Nat.reduceLeDiff,↓reduceIte,Bj,A,(Ac:(n:Int)<(d.length:Int)),B,OP,F0,Gy,Ih,u.Ad,j1.Cb rfl rfl];exact⟨_,rfl,rfl⟩
  |true=>
  rw[w] at u;have ht:=vf w f_.r;have cy:=fg w;have L:p.As.length<=1000000:=by have:=(Mi (p:=Fb p.As) (by unfold DJ.OL at w;simp only[A7] at w;exact w.2.2.2.2)).1;omega
  rw[(Ac:40 -n=(39 -n)+1)] at z2;obtain⟨N,F3,K,O,x3⟩:=Ä (r:=r) I z2.kK ht cy f_.v L;have z3:=z2.oX (r:=r) ht;have X:∀x,b.AA.head?=some x->(b.oX r p).1.AA.head?=some x:=λx hx=>Bg.oX (b:=b) hx;obtain⟨a2,o2,W,t2,G2,D,KS,rfl⟩:=id I;obtain⟨a3,o3,V,t3,G3,H,YO,rfl⟩:=id O;have m:=Sw D.sA;have E:=Sx D.sA 0;have yF:=Sx H.sA 0;rw[Å] at E yF;generalize(b.oX r p).1=b' at*;generalize(b.oX r p).2=rb at*;have nx:∃b F,PB N bi b F/\Wz b (40 -(n+1)):=⟨b',_,O,by rw[(Ac:40 -(n+1)=39 -n)];exact z3⟩;simp only[aL,B1] at B u K;cases hb:b.AA with
  |nil=>rw[hb] at m E;rw[Bk] at m;have f:B2 cx 9 [.ptr (some (bi,2)),.int .i64 0] h2 (.agg Item.zero.row) h2:=E;rw[Item.row] at f;have hlen:¬(0:Int)<((0:Nat):Int):=AM;simp only[abS,Nat.reduceAdd,Nat.reduceLeDiff,Nat.reduceEqDiff,↓reduceIte,reduceCtorEq,Bj,Cc,Nat.reduceLeDiff,↓reduceIte,Bj,A,(Ac:(n:Int)<(d.length:Int)),B,OP,F0,Gy,Ih,u.Ad,m.Ad,f.Ad,hlen,K.Ad,CE (Ac:n<9223372036854775807)];exact Br.next (n+1) rfl ⟨hlt,nx⟩ Ac
  |cons y T=>
   rw[hb] at m E;have hy:=X y (by rw[hb];rfl);have f:B2 cx 9 [.ptr (some (bi,2)),.int .i64 0] h2 (.agg y.row) h2:=E;have aFt:B2 cx 9 [.ptr (some (bi,2)),.int .i64 0] N (.agg y.row) N:=by
    cases OS:b'.AA with
    |nil=>rw[OS] at hy;cases hy
    |cons S t'=>rw[OS] at hy yF;obtain rfl:S=y:=D3 hy;exact yF
   have Q:=aA5 (i:=y);have hlen:(0:Int)<((T.length+1:Nat):Int):=Ac;rw[AG] at m;rw[Item.row] at f aFt Q;simp only[abS,Nat.reduceAdd,Nat.reduceLeDiff,Nat.reduceEqDiff,↓reduceIte,reduceCtorEq,Bj,Cc,Nat.reduceLeDiff,↓reduceIte,Bj,A,(Ac:(n:Int)<(d.length:Int)),B,OP,F0,Gy,Ih,u.Ad,m.Ad,f.Ad,hlen,K.Ad,aFt.Ad,Q,CE (Ac:n<9223372036854775807)];exact Br.next (n+1) rfl ⟨hlt,nx⟩ Ac
 .obtain⟨a,o,c,t,G,wp,hc,rfl⟩:=id I;have ok:=z2.g.ok.ok;have rm:=z2.g.rm;have M:b.a.n.length<=900000000:=by have:=rm.n;omega
  have v_:=λy=>rm.TD.Bm ok y;have bo:∀y,(b.a.nd y).As.length<=1000000000:=λy=>by have:=rm.at_ y;omega
  have hne:b.a.n≠[]:=λe=>by have h1:=z2.g.ok.Cl.1;unfold Ar.has at h1;rw[e] at h1;simp at h1;omega
  obtain⟨v1,u1,m,U⟩:=aA4 wp ok rm;obtain⟨u4,J⟩:=aFr ok U hne M v_ bo;have l0:=wp.l0;simp only[abS,Nat.reduceAdd,Nat.reduceLeDiff,Nat.reduceEqDiff,↓reduceIte,reduceCtorEq,Bj,Cc,Nat.reduceLeDiff,↓reduceIte,Bj,A,(Ac:¬(n:Int)<(d.length:Int)),l0,m.Ad,J.Ad,j1.Cb rfl rfl];exact⟨_,rfl,rfl⟩
def vA:∀l,Ve [jK,.sl tOp,.sl oY] l->Ev cx 3 l [] λr _=>r= .bool true:=by rintro _ ⟨a,_,rfl,ha,b,_,rfl,hb,c,_,rfl,hc,rfl⟩;obtain⟨s,av,rfl,hv⟩:=uM ha;obtain⟨l,ho,hr⟩:=tg hb;obtain⟨d,hs,_,hp⟩:=u9 hc;exact fj s hv ho hr hs hp
end Go.Am
end
