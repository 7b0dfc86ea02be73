/- Lemmas -/
import Derived.Test.YtefjamneieebhaaGreatDoorS27
set_option linter.unusedVariables false
set_option linter.unusedSimpArgs false
section
namespace Go.Am
open Go
set_option maxRecDepth 100000
def Rk{σ:Type}(enc:σ->List Aa)(DD:σ->Ad->Prop)(μ:σ->Nat)(i:Nat)(Hv:σ->Ad->Prop)(s:σ):Post:=
 λx vs h1=>(x= .normal/\∃s',vs=enc s'/\DD s' h1/\μ s'<μ s)\/(x= .exit i/\∃s',vs=enc s'/\Hv s' h1)
theorem Rk.next{σ:Type}{enc:σ->List Aa}{DD Hv:σ->Ad->Prop}{μ:σ->Nat}{i:Nat}{s:σ}{vs:List Aa}{h:Ad}(s':σ)(e:vs=enc s')(hi:DD s' h)(hl:μ s'<μ s):Rk enc DD μ i Hv s .normal vs h:= .inl ⟨rfl,s',e,hi,hl⟩
theorem Rk.Hv{σ:Type}{enc:σ->List Aa}{DD Hv:σ->Ad->Prop}{μ:σ->Nat}{i:Nat}{s:σ}{vs:List Aa}{h:Ad}(s':σ)(e:vs=enc s')(hi:Hv s' h):Rk enc DD μ i Hv s (.exit i) vs h:= .inr ⟨rfl,s',e,hi⟩
theorem Ei{C:FG}{Q:Post}{h:Ad}{σ:Type}{key i:Nat}{init:List Aa}{body:List Aa->IT}{k:EK->List Aa->IT}(enc:σ->List Aa)(DD:σ->Ad->Prop)(μ:σ->Nat)(Hv:σ->Ad->Prop)(s0:σ)(h0:init=enc s0)(hi:DD s0 h)
  (round:∀s h,DD s h->W C (body (enc s)) (Rk enc DD μ i Hv s) h) (hk:∀s h,Hv s h->W C (k (.exit i) (enc s)) Q h):W C (.loop key init body k) Q h:=by
 refine Bb enc DD μ s0 h0 hi λs h hs=>W.mono (round s h hs) ?_;rintro x vs h1 (hn|⟨rfl,s',rfl,hf⟩);·exact .inl hn
 .exact .inr ⟨by simp,hk s' h1 hf⟩
theorem XV{h:Ad}{id z:Nat}{Au:List (List Aa)}(hr:∀r∈Au,r.length=z)(hc:h[id]?=some (.cells Au.flatten)){i:Nat}(hi:i<Au.length):A6 h (some z) (Pt id (i*z))=some (.agg Au[i]):=by
 have hl:i*z+z<=Au.flatten.length:=by rw[Fb hr];have:=Ez z (show i+1<=Au.length by omega);rwa [BB,Ey] at this
 simp only[A6,hc,J7];rw[if_pos hl,HW hr,AG hi,C9,CT (by rw[hr _ (AI hi)];exact Ac _),Ay (by rw[hr _ (AI hi)];exact Ac _)]
section
variable{h h':Ad}{bi a:Nat}{o c t:Aa}{G G' F:Nat->Prop}{b b':BS}{x:Int}{m:Nat}
variable{nm:Ap}{av:Aa}{l:List AU}{r:List Aa}{sp p:Int}
theorem cg(e:B3)(h:Ad):∃r,BI cx 118 [.agg e.row] h (.agg r) h/\Nj e.c.name e.v r:=by have hv:e.v.cells=[e.v]:=AM.cells e.ok;refine⟨_,?_,I 2,ff,S [],ff,S [],ff,ff,ff,S [],.int .i32 0,rfl⟩;rw[Ab,mQ,aAL,B3.row];simp only[AB,Nat.reduceLeDiff,↓reduceIte,AK,Bi,hv]
theorem XW:∀{l:List Cc} {b:BS} {m:Nat},BQ b (m+4*l.length)->(∀e∈l,e.name.length<=1000/\DA e.Ax)->BQ (BS.Iv l b).2 m
 |[],b,m,r,_=>by simpa[BS.Iv] using r
 |e::l,b,m,r,hl=>by have h1:=hl e (by simp);rw[BS.Iv];exact XW (Ld (m:=m+4*l.length) (r.le (by simp;omega)) h1.2 h1.1) λx hx=>hl x (by simp[hx])
theorem Rl:b.Ka<=b.A4.length:=by unfold BS.Ka;rcases CP (q:=b.settled) (l:=b.A4) with⟨h,_⟩|⟨n,h1,h2,_⟩<;>omega
structure Zt(h:Ad)(bi a:Nat)(t:Aa)(G0:Nat->Prop)(b:BS)(fs:List B3)(id m k:Nat)(h1:Ad):Prop where
 le:k<=fs.length
 low:b.Ka<=k
 ex:∃(o:Aa) (G:Nat->Prop) (b1:BS) (GX:List B3),BX h1 bi a o (.Cl id 0 fs.length 3) t G b1/\DG b1/\BQ b1 (m+4*(fs.length-k))/\h1[id]?=some (.cells (GX.map B3.row).flatten)/\GX.length=fs.length/\GX.drop k=fs.drop k/\
  BS.Dv b={(BS.Iv (b.A4.drop k) b1).2 with A4:=(GX.take k).map (·.c)++(BS.Iv (b.A4.drop k) b1).1}/\¬own bi G id/\De h (own bi G0) h1 (own bi G)
theorem BX.Zu(w:BX h bi a o c t G {b with A4:=b.A4}):BX h bi a o c t G b:=w
theorem Ox{h1:Ad}{id:Nat}{v v':Aa}(ha:At h id 3 v)(hf:Kl h v=some (h1,v'))(he:h1[id]?=h[id]?):KS h 3 (Pt id 0)=some (Am.put h1 id 3 v'):=by obtain⟨cs,hc,e⟩:=ha;rw[hc] at he;unfold KS;simp only[hc,BJ,e,hf,Ct,he];rw[Hm he]
theorem pS{v:Aa}{l:List B3}(hv:CZ l v):Kl h v=some (h,v):=by rcases hv with rfl|⟨rfl,_⟩<;>rfl
theorem aG0{v:Aa}(hv:CZ [] v)(h:Ad):∃u,BI cx 171 [v] h u h/\CZ [] u:=by
 have e3:=Oj (h:=h) (s:= .sl 3 []) (b:=48) (.inr rfl) hv;rcases hv with rfl|⟨rfl,h0⟩
 .refine⟨.sl 3 [],?_,.mk⟩;rw[Ab,T7,zY];simp only[DP] at e3;simp only[AB,DP,show Aw (.GV false .sl) [.sl 3 [],.slnil]=some (.bool false) from rfl,show Aw (.Bx 3) []=some (.sl 3 []) from rfl,e3]
 .refine⟨.slnil,?_,.inr ⟨rfl,rfl⟩⟩;rw[Ab,T7,zY];simp only[AB,show Aw (.GV false .sl) [.slnil,.slnil]=some (.bool true) from rfl]
theorem Zt.init(w:BX h bi a o c t G b)(ok:DG b)(rm:BQ b (m+4*b.A4.length)){fs:List B3}(Gn:fs.map (·.c)=b.A4):
  Zt h bi a t G b fs h.length m b.Ka (Am.put (h++[.cells (fs.map B3.row).flatten]) bi 3 (.Cl h.length 0 fs.length 3)):=by
 have GG:b.A4.length=fs.length:=by rw[<-Gn,Ai]
 have hk:=Rl (b:=b);have hne:h.length≠bi:=Nat.ne_of_gt w.lt;refine⟨by omega,Ac _,o,G,b,fs,((w.HA (u:=[.cells (fs.map B3.row).flatten])).Kf (l:=b.A4)).Zu,ok,rm.le (by omega),?_,rfl,rfl,?_,?_,w.CN.trans Be⟩;·rw[B4 hne];simp
 .unfold BS.Dv;simp only;rw[HS,Gn]
 .rintro(rfl|hg);·exact hne rfl
  .exact absurd (w.w.lt hg) (Dd _)
theorem Zt.step{fs:List B3}{id k:Nat}{h1:Ad}(Gn:fs.map (·.c)=b.A4)(Jn:∀e∈b.A4,e.name.length<=1000/\DA e.Ax)(hi:h.length<=id)(hlt:k<fs.length)(i:Zt h bi a t G b fs id m k h1):
  ∃(r:List Aa) (h2:Ad) (n:Int),A6 h1 none (Pt bi 3)=some (.Cl id 0 fs.length 3)/\A6 h1 (some 3) (Pt id (k*3))=some (.agg fs[k].row)/\BI cx 118 [.agg fs[k].row] h1 (.agg r) h1/\BI cx 23 [Pt bi 0,.agg r] h1 (I n) h2/\A6 h2 none (Pt bi 3)=some (.Cl id 0 fs.length 3)/\
   Cv h2 1 (Pt id (k*3)) (I n)=some (Am.put h2 id (k*3) (I n))/\Zt h bi a t G b fs id m (k+1) (Am.put h2 id (k*3) (I n)):=by
 obtain⟨o1,G1,b1,GX,w1,TG,jR,O9,T3,YS,tC,LV,x1⟩:=i.ex;have Qi:k<GX.length:=by omega
 have GG:b.A4.length=fs.length:=by rw[<-Gn,Ai]
 have cj:k<b.A4.length:=by omega
 have e1:GX[k]=fs[k]:=by have:=Cd (λl=>l[0]?) YS;simp only[Cz,Bn] at this;rw[Ae Qi,Ae hlt] at this;exact C8 this
 have eb:b.A4[k]=fs[k].c:=by simp only[<-Gn,CX]
 have zd:=XV (Nc GX) O9 (i:=k) (by simpa using Qi);rw[CX,e1] at zd;have Jn:=Jn fs[k].c (by rw[<-eb];exact AI cj);obtain⟨r,r1,hr⟩:=cg fs[k] h1;obtain⟨h2,o2,G2,r2,w2,x2⟩:=qm (m:=m+4*(fs.length-(k+1))) w1 TG (jR.le (by omega)) hr fs[k].ok Jn.2 Jn.1;have q8:id<h1.length:=(Ah.1 O9).1;have HH:h2[id]?=some (.cells (GX.map B3.row).flatten):=by rw[x2.old id q8 LV];exact O9
 have Rx:¬own bi G2 id:=λhg=>by
  rcases x2.own id hg with hg|hg
  .exact LV hg
  .omega
 have at2:At h2 id (k*3) (I fs[k].c.node):=⟨_,HH,by have:=Ke (k:=0) (Nc GX) (by decide) (i:=k) (r:=fs[k].row) (by rw[Cr,Ae Qi,e1];rfl);rw[Bn] at this;rw[this];rfl⟩
 let e':B3:=⟨{fs[k].c with node:=b1.a.len+1},fs[k].v,fs[k].ok⟩
 have hrow:(GX.map B3.row).flatten.set (k*3) (I (b1.a.len+1))=((GX.set k e').map B3.row).flatten:=by have:=MA (Au:=GX.map B3.row) (i:=k) (k:=0) (v:= I (b1.a.len+1)) (Nc GX) (by simpa using Qi) (by decide);rw[Bn] at this;rw[Fh,BW,if_pos (by rw[Fb (Nc GX),Ai];omega)];rw[AD] at this;rw[show e'.row=((GX.map B3.row)[k]'(by simpa using Qi)).set 0 (I (b1.a.len+1)) by rw[CX,e1];rfl];exact this
 have hnb:id≠bi:=λe=>Rx (.inl e);refine⟨r,h2,b1.a.len+1,w1.l3,zd,r1,r2,w2.l3,at2.store rfl,⟨hlt,by have:=i.low;omega,o2,G2,_,GX.set k e',w2.CW λj hj=>B4 λe=>Rx (e▸hj),Qe TG,Ld (m:=m+4*(fs.length-(k+1))) (jR.le (by omega)) Jn.2 Jn.1,?_,by rw[Bj];exact T3,?_,?_,Rx,⟨by rw[IC];exact(x1.trans x2).len,λj hj hn=>(B4 (by omega)).trans ((x1.trans x2).old j hj hn),(x1.trans x2).own⟩⟩⟩;·rw[Hm HH,AN (by have:=x2.len;omega),hrow]
 .rw[List.drop_set_of_lt (tZ k)];have:=Cd (λl=>l.drop 1) YS;simpa[E5] using this
 .rw[tC,AG cj,eb,BS.Iv];simp only
  congr 1
  rw[Av (by rw[Bj];exact Qi),List.getElem_set_self,BH,aIp (Ac k),AD];rfl
theorem aLV(w:BX h bi a o c t G b)(hc:BO b.A4 c)(ok:DG b)(rm:BQ b (m+4*b.A4.length)):
  ∃h' o' c' G',BI cx 75 [Pt bi 0] h (.tuple []) h'/\BX h' bi a o' c' t G' b.Dv/\BO b.Dv.A4 c'/\De h (own bi G) h' (own bi G'):=by
 have ho:=rm.AO;have Ry:=rm.A4;obtain⟨fs,Gn,hcs⟩:=hc;have GG:b.A4.length=fs.length:=by rw[<-Gn,Ai]
 have Ik:Ev cx 75 [Pt bi 0] h λr h'=>r= .tuple []/\∃o' c' G',BX h' bi a o' c' t G' b.Dv/\BO b.Dv.A4 c'/\De h (own bi G) h' (own bi G'):=by
  unfold Ev;have l3:=w.l3;have lc:=AM.Cp hcs;rw[aAq,t75];simp only[AB,Bi,(Ho w).call,l3,lc];refine Ei (i:=0) (λn:Nat=>[I (n:Int)]) (λn h1=>n<=fs.length/\AJ b.settled b.A4=AJ b.settled (b.A4.take n)/\h1=h) (λn=>n) (λn h1=>n=b.Ka/\h1=h) fs.length rfl ⟨Ac _,by rw[<-GG,Bu],rfl⟩ ?_ ?_
  .rintro n h1 ⟨hn,ha,rfl⟩;cases n with
   |zero=>simp only[AB,Bi,show¬(0:Int)<((0:Nat):Int) by decide];refine .Hv 0 rfl ⟨?_,rfl⟩;unfold BS.Ka;rw[ha];rfl
   |succ n=>
    have hlt:n<b.A4.length:=by omega
    have Rg:n<fs.length:=by omega
    rw[F8 hlt] at ha;have i1:=Hl (n:=n+1) (show 0<n+1 by omega) (show n+1<9223372036854775807 by omega);rw[GF] at i1;have e1:=AM.Bz (k:= .i64) hcs Rg;have en:fs[n].c.node=b.A4[n].node:=by simp only[<-Gn,CX]
    have r1:=WT w.sA (by omega) b.A4[n].node;have hK:b.settled b.A4[n]=true->n+1=b.Ka:=by intro hs;rw[if_pos hs] at ha;unfold BS.Ka;rw[ha];omega
    rw[B3.row,en] at e1;simp only[AB,Bi,show(0:Int)<((n+1:Nat):Int) by omega,l3,i1,e1,r1.call,ne_eq];refine⟨λh1=>⟨λh2=>?_,λh2=>?_⟩,λh1=>?_⟩
    .have hs:b.settled b.A4[n]=false:=by unfold BS.settled;rw[AA];omega
     rw[if_neg (by rw[hs];decide)] at ha;exact .next n rfl ⟨by omega,ha,rfl⟩ (by omega)
    .exact .Hv (n+1) rfl ⟨hK (by unfold BS.settled;rw[Az];omega),rfl⟩
    .exact .Hv (n+1) rfl ⟨hK (by unfold BS.settled;rw[Az];omega),rfl⟩
  .rintro n h1 ⟨rfl,eh⟩;rw[eh];by_cases hne:fs=[]
   .subst hne;have ha:b.A4=[]:=Gn.symm;have hK:b.Ka=0:=by have:=Rl (b:=b);rw[ha] at this;exact Nat.le_zero.1 this
    have hb:b.Dv=b:=by unfold BS.Dv;rw[ha];simp only[List.drop_nil,BS.Iv,List.take_nil,BG];rw[<-ha]
    obtain⟨u,r1,hu⟩:=aG0 hcs h;have w1:=(w.Kf (u:=u) (l:=b.A4)).Zu;have e1:=Ox w1.pL (pS hu) rfl;have lu:=AM.Cp hu;have l3':=w1.l3;rw[BT] at lu;have hz:(b.Ka:Int)=((0:Nat):Int):=by rw[hK]
    simp only[AB,Bi,l3,r1.call,w.st (k:=3) (v0:=c) rfl (AM.cells hu)];refine Ei (i:=2) (λn:Nat=>[I (n:Int)]) (λn h1=>n=0/\h1=Am.put h bi 3 u) (λn=>n) (λn h1=>n=0/\h1=Am.put h bi 3 u) 0 (by rw[hz]) ⟨rfl,rfl⟩ ?_ ?_;·rintro n h1 ⟨rfl,rfl⟩;simp only[AB,Bi,l3',lu,show¬((0:Nat):Int)<((0:Nat):Int) by decide];exact .Hv 0 rfl ⟨rfl,rfl⟩
    .rintro n h1 ⟨rfl,rfl⟩;simp only[AB,e1];refine⟨_,rfl,rfl,o,u,G,?_,⟨[],by rw[hb,ha];rfl,hu⟩,Be.trans Be⟩;rw[hb];exact(w1.Kf (l:=b.A4)).Zu
   .have i0:=Zt.init (m:=m) w ok rm Gn;have r1:=aB3 (h:=h) hcs hne (by omega);have w0:=w.HA (u:=[.cells (fs.map B3.row).flatten]);simp only[AB,Bi,l3,r1.call,w0.st (k:=3) (v:= .Cl h.length 0 fs.length 3) (v0:=c) rfl rfl];refine Ei (i:=2) (λn:Nat=>[I (n:Int)]) (λk h1=>Zt h bi a t G b fs h.length m k h1) (λk=>fs.length-k) (λk h1=>k=fs.length/\Zt h bi a t G b fs h.length m k h1) b.Ka rfl i0 ?_ ?_
    .intro k h1 i;have DV:=i.le;have lm:Aw (.len false) [.Cl h.length 0 fs.length 3]=some (I (fs.length:Int)):=rfl;rcases AT k fs.length with hlt|D1
     .obtain⟨r,h2,n,s1,s2,s3,s4,s5,s6,s7⟩:=Zt.step Gn rm.Dk (Ac _) hlt i;have e1:Aw (.Fj 3) [.Cl h.length 0 fs.length 3,I (k:Int)]=some (Pt h.length (k*3)):=EX hlt;simp only[AB,Bi,s1,lm,show(k:Int)<(fs.length:Int) by omega,e1,s2,s3.call,By,s4.call,s5,s6,BF (show k<9223372036854775807 by omega)];exact .next (k+1) rfl s7 (by omega)
     .obtain⟨o1,G1,b1,GX,w1,_⟩:=i.ex;simp only[AB,Bi,w1.l3,lm,show¬(k:Int)<(fs.length:Int) by omega];exact .Hv k rfl ⟨by omega,i⟩
    .rintro k h1 ⟨rfl,i⟩;obtain⟨o1,G1,b1,GX,w1,TG,jR,O9,T3,YS,tC,LV,x1⟩:=i.ex;have hf:=JH (Nc GX) O9;rw[Ai,T3] at hf;have hnb:h.length≠bi:=λe=>LV (.inl e);have e1:=Ox w1.pL hf (by rw[Aj hnb]);have w2:BX (h1.set h.length .CG) bi a o1 _ t G1 b1:=w1.CW λj hj=>Aj λe=>LV (by rw[e];exact hj);simp only[AB,e1];have hb:b.Dv={b1 with A4:=GX.map (·.c)}:=by rw[tC,A3 (by omega),Ay (by omega)];simp only[BS.Iv,BC]
     refine⟨_,rfl,rfl,o1,_,G1,by rw[hb];exact w2.Kf,⟨GX,by rw[hb],.mk⟩,?_⟩;refine De.trans ⟨by rw[Bj];exact x1.len,λj hj hn=>?_,x1.own⟩ Be;rw[Aj (by omega)];exact x1.old j hj hn
 obtain⟨r,h',hr,rfl,o',c',G',w',JU,x'⟩:=Ik.ret;exact⟨h',o',c',G',hr,w',JU,x'⟩
end
theorem qq{id l k:Nat}(hl:0<l)(hk:k<=l):Aw (.Hq 3 false false true) [.Cl id 0 l 3,I (k:Int)]=some (.Cl id 0 k 3):=by
 have e1:EJ (k:Int) l=some k:=by unfold EJ;rw[if_pos (by omega)];rfl
 simp[Aw,I5,DI,e1];omega
theorem qt{id l k:Nat}(hk:k<=l):Aw (.Hq 3 false true false) [.Cl id 0 l 3,I (k:Int)]=some (if k<l then .Cl id (k*3) (l-k) 3 else .sl 3 []):=by
 have e1:EJ (k:Int) l=some k:=by unfold EJ;rw[if_pos (by omega)];rfl
 simp[Aw,I5,DI,e1];split<;>rfl
theorem Gm{α:Type}{l:List α}{k:Nat}(hk:k<l.length):(A7 l k).length=l.length-1:=by unfold A7;rw[As,Al,A8];omega
theorem aG1{h:Ad}{id k:Nat}{Au:List (List Aa)}(hr:∀r∈Au,r.length=3)(hc:h[id]?=some (.cells Au.flatten))(hk:k<Au.length)(hb:Au.length<=1000000000):
  ∃Gc,BI cx 209 [.Cl id 0 Au.length 3,I (k:Int),I ((k+1:Nat):Int)] h (.Cl id 0 (Au.length-1) 3) (h.set id (.cells ((A7 Au k).flatten++Gc))):=by
 have Ht:=(Ah.1 hc).1;have hll:=Gm hk;have Qr:=Fb hr;have hrd:∀r∈A7 Au k,r.length=3:=λr hm=>hr r (by
  unfold A7 at hm;rcases Ao.1 hm with hm|hm
  .exact Bf hm
  .exact Bv hm)
 have lB:=Fb hrd;rw[hll] at lB;have SL:(Au.take k).flatten=Au.flatten.take (k*3):=(XC hr).symm;have zb:(Au.drop (k+1)).flatten=Au.flatten.drop ((k+1)*3):=(HW hr).symm;obtain⟨QJ,eg,hcl⟩:∃QJ,Fk h 3 48 (.Cl id 0 k 3) (if k+1<Au.length then .Cl id ((k+1)*3) (Au.length-(k+1)) 3 else .sl 3 [])=some (h.set id (.cells ((A7 Au k).flatten++QJ)),.Cl id 0 (Au.length-1) 3)/\QJ.length=3:=by
  have er:Ge h 3 (if k+1<Au.length then .Cl id ((k+1)*3) (Au.length-(k+1)) 3 else .sl 3 [])=some (Au.drop (k+1)):=by
   by_cases OH:k+1<Au.length;·rw[if_pos OH];have e2:=XD hr (n:=Au.length-(k+1)) (off:=k+1) (by omega);rw[Ay (by rw[A8];exact Ac _)] at e2;simp only[Ge,BK,hc,e2];rw[if_pos (by rw[Qr];omega)]
   .rw[if_neg OH,A3 (by omega)];rfl
  by_cases bj:k+1=Au.length
  .refine⟨Au.flatten.drop (k*3),?_,by rw[A8,Qr];omega⟩;have ed:Au.drop (k+1)=[]:=A3 (by omega);rw[ed] at er;have e3:(A7 Au k).flatten++Au.flatten.drop (k*3)=Au.flatten:=by unfold A7;rw[ed,BC,SL,CK]
   have e4:h.set id (.cells ((A7 Au k).flatten++Au.flatten.drop (k*3)))=h:=by rw[e3];obtain⟨Xv,e5⟩:=Ah.1 hc;rw[<-e5,RC]
   simp only[Fk,er,BK];rw[e4,show Au.length-1=k by omega]
  .obtain⟨y,l2,hd⟩:∃y l2,Au.drop (k+1)=y::l2:=⟨_,_,AG (show k+1<Au.length by omega)⟩;have pJ:(y::l2).length=Au.length-(k+1):=by rw[<-hd,A8]
   refine⟨Au.flatten.drop ((Au.length-1)*3),?_,by rw[A8,Qr];omega⟩;rw[hd] at er;simp only[Fk,er,hc,BK];rw[pJ,if_pos (by rw[Qr];omega)];rw[<-hd,zb,BJ,BJ,show k+(Au.length-(k+1))=Au.length-1 by omega];unfold A7;rw[Wq,SL,zb]
 generalize v_:h.set id (.cells ((A7 Au k).flatten++QJ))=h2 at eg;have HH:h2[id]?=some (.cells ((A7 Au k).flatten++QJ)):=by rw[<-v_];exact AN Ht
 have jM:((A7 Au k).flatten++QJ).length=Au.length*3:=by rw[As,lB,hcl];omega
 have ed:Ep (.qG 3 true true) h2 [.Cl id 0 (Au.length-1) 3,I ((Au.length-1:Nat):Int),I (Au.length:Int)]=some (h2,.Cl id ((Au.length-1)*3) 1 3):=by
  simp only[Ep,ZW,HH];have e1:EJ (Au.length:Int) ((((A7 Au k).flatten++QJ).length-0)/3)=some Au.length:=by unfold EJ;rw[if_pos (by rw[jM];omega)];rfl
  have e2:EJ ((Au.length-1:Nat):Int) Au.length=some (Au.length-1):=by unfold EJ;rw[if_pos (by omega)];rfl
  rw[if_pos ⟨trivial,trivial,AR _⟩];simp only[DI,e1,e2,Ct,BR];rw[if_pos (by rw[jM];omega)];congr 3
  .omega
  .omega
 have ec:Ep (.clear 3 [I 0,S [],.slnil]) h2 [.Cl id ((Au.length-1)*3) 1 3]=some (h.set id (.cells ((A7 Au k).flatten++[I 0,S [],.slnil])),.bool true):=by
  simp only[Ep,Um,HH];rw[if_pos ⟨trivial,rfl,by rw[jM];omega⟩];congr 2
  rw[<-v_,List.set_set];congr 2
  rw[KI lB,A3 (by rw[jM];omega)];simp
 refine⟨[I 0,S [],.slnil],?_⟩;have elen:∀i n,Aw (.len false) [.Cl i 0 n 3]=some (I (n:Int)):=λ_ _=>rfl;have e3:Ep (.eQ 3) h [.Cl id 0 Au.length 3,I (k:Int),I ((k+1:Nat):Int),I (Au.length:Int)]=some (h,.bool true):=by simp only[Ep,Un];simp;omega
 rw[Ab,nV,aBh];simp only[AB,Bi,elen,e3,show¬(k:Int)=((k+1:Nat):Int) by omega,qq (id:=id) (show 0<Au.length by omega) (show k<=Au.length by omega),qt (id:=id) (show k+1<=Au.length by omega),eg,ed,ec]
theorem Rm{z:Nat}:∀{Au:List (List Aa)} {cs pre:List Aa},(∀r∈Au,r.length=z)->Cj (pre++(Au.flatten++cs)) z pre.length Au.length=Au
 |[],_,_,_=>rfl
 |x::Au,cs,pre,h=>by have hx:=h x (by simp);have:=Rm (Au:=Au) (cs:=cs) (pre:=pre++x) (λr hr=>h r (by simp[hr]));simp only[AD,As,hx] at this;simp only[C9,Bd,Cj,AD];rw[NR rfl,KI hx,this]
theorem jS{h:Ad}{id z:Nat}{Au:List (List Aa)}{cs:List Aa}(hr:∀r∈Au,r.length=z)(hc:h[id]?=some (.cells (Au.flatten++cs))):Kl h (.Cl id 0 Au.length z)=some (h.set id .CG,.sl z Au):=by unfold Kl;simp only[hc,BJ];have:=Rm (cs:=cs) (pre:=[]) hr;simp only[BG,BT] at this;rw[if_pos (by rw[As,Fb hr];omega),this]
def E4(e:B3)(at_ mk:Int)(anc far:Item)(last:Int):List Aa:=
 [I e.c.node,.str e.c.name,e.v,I at_,I mk,I anc.node,I anc.AZ,.str anc.name,.bool anc.NA,I far.node,I far.AZ,.str far.name,.bool far.NA,I last]
def Lu(ai bi:Nat)(G:Nat->Prop):Nat->Prop:=λi=>i=ai\/own bi G i
section
variable{h h':Ad}{bi a ai:Nat}{o c t:Aa}{G G' F:Nat->Prop}{b b':BS}{x:Int}{m:Nat}
variable{nm:Ap}{av:Aa}{l:List AU}{r:List Aa}{sp p:Int}{e:B3}{at_ mk last:Int}{anc far:Item}
theorem Ej(x:De h (own bi G) h' (own bi G'))(ai:Nat):De h (Lu ai bi G) h' (Lu ai bi G'):=
 ⟨x.len,λi hi hn=>x.old i hi λhg=>hn (.inr hg),λi hi=>by
  rcases hi with hi|hi
  .exact .inl (.inl hi)
  .rcases x.own i hi with h|h
   .exact .inl (.inr h)
   .exact .inr h⟩
theorem Oy{k:Nat}{v:Aa}:De h (Am.Lu ai bi G) (put h ai k v) (Am.Lu ai bi G):=⟨by rw[IC];exact Ac _,λi _ hn=>B4 λe=>hn (.inl e),λ_ h=> .inl h⟩
theorem Hg{id k:Nat}{v:Aa}{cs:List Aa}(hc:h[id]?=some (.cells cs)):(put h id k v)[id]?=some (.cells (cs.set k v)):=by rw[Hm hc,AN (Ah.1 hc).1]
def down(k:Nat)(x:Int):Int:=if(k:Int)<x then x-1 else x
set_option maxHeartbeats 1000000 in
theorem pT(w:BX h bi a o c t G b)(hc:BO b.A4 c)(rm:BQ b m)(ha:h[ai]?=some (.cells (E4 e at_ mk anc far last)))(hn:¬own bi G ai){k:Nat}(hk:k<b.A4.length)(h1:0<=at_/\at_<=1000000000)(h2:0<=mk/\mk<=1000000000):
  ∃h' c',BI cx 112 [Pt ai 0,Pt bi 0,I (k:Int)] h (.tuple []) h'/\BX h' bi a o c' t G {b with A4:=A7 b.A4 k}/\BO (A7 b.A4 k) c'/\h'[ai]?=some (.cells (E4 e (down k at_) (down k mk) anc far last))/\De h (Lu ai bi G) h' (Lu ai bi G):=by
 obtain⟨fs,Gn,hcs⟩:=hc;have Ry:=rm.A4;have GG:b.A4.length=fs.length:=by rw[<-Gn,Ai]
 have hne:fs≠[]:=by intro e;rw[GG,e] at hk;exact absurd hk (Nat.not_lt_zero _)
 have Wm:ai≠bi:=λe=>hn (.inl e);have hai:ai<h.length:=(Ah.1 ha).1;have r1:=aB3 (h:=h) hcs hne (by omega);have hX:(h++[Dc.cells (fs.map B3.row).flatten])[h.length]?=some (.cells (fs.map B3.row).flatten):=by simp
 obtain⟨Gc,r2⟩:=aG1 (Nc fs) hX (k:=k) (by simp;omega) (by simp;omega);rw[Ai] at r2;have e2:(h++[Dc.cells (fs.map B3.row).flatten]).set h.length (.cells ((A7 (fs.map B3.row) k).flatten++Gc))=h++[.cells ((A7 (fs.map B3.row) k).flatten++Gc)]:=by rw[B2 _ _ (Ac _),DC];rfl
 rw[e2] at r2;generalize hH:h++[Dc.cells ((A7 (fs.map B3.row) k).flatten++Gc)]=H at r2;have w1:BX H bi a o c t G b:=by rw[<-hH];exact w.HA
 have WG:H[ai]?=some (.cells (E4 e at_ mk anc far last)):=by rw[<-hH,Af hai];exact ha
 have hX1:H[h.length]?=some (.cells ((A7 (fs.map B3.row) k).flatten++Gc)):=by rw[<-hH];simp
 have hL:H.length=h.length+1:=by rw[<-hH];simp
 have x1:De h (Lu ai bi G) H (Lu ai bi G):=by rw[<-hH];exact Ej w.CN ai
 have hbl:bi≠h.length:=di w.lt;have hal:ai≠h.length:=di hai;have s1:=w1.st (k:=3) (v:= .Cl h.length 0 (fs.length-1) 3) (v0:=c) rfl rfl;have w2:=w1.Kf (u:= .Cl h.length 0 (fs.length-1) 3) (l:=b.A4);have NH:(put H bi 3 (.Cl h.length 0 (fs.length-1) 3))[ai]?=some (.cells (E4 e at_ mk anc far last)):=by rw[B4 Wm];exact WG
 have hX2:(put H bi 3 (.Cl h.length 0 (fs.length-1) 3))[h.length]?=some (.cells ((A7 (fs.map B3.row) k).flatten++Gc)):=by rw[B4 (DQ hbl)];exact hX1
 have x2:De h (Lu ai bi G) (put H bi 3 (.Cl h.length 0 (fs.length-1) 3)) (Lu ai bi G):=x1.trans (Ej Be ai);generalize hH2:put H bi 3 (.Cl h.length 0 (fs.length-1) 3)=H2 at*;have hL2:H2.length=h.length+1:=by rw[<-hH2,IC,hL]
 have t3:At H2 ai 3 (I at_):=⟨_,NH,rfl⟩;have gF:=Hg (k:=3) (v:= I (down k at_)) NH;have e3:put H2 ai 3 (I (down k at_))=if(k:Int)<at_ then put H2 ai 3 (I (at_-1)) else H2:=by
  unfold down;split;·rfl
  .exact t3.same
 have w3:BX (put H2 ai 3 (I (down k at_))) bi a o _ t G _:=w2.CW λj hj=>B4 λe=>hn (e▸hj);have hX3:(put H2 ai 3 (I (down k at_)))[h.length]?=_:=(B4 (DQ hal)).trans hX2;have x3:=x2.trans (Oy (k:=3) (v:= I (down k at_)));generalize hH3:put H2 ai 3 (I (down k at_))=H3 at*;have t4:At H3 ai 4 (I mk):=⟨_,gF,rfl⟩;have ha4:=Hg (k:=4) (v:= I (down k mk)) gF;have e4:put H3 ai 4 (I (down k mk))=if(k:Int)<mk then put H3 ai 4 (I (mk-1)) else H3:=by
  unfold down;split;·rfl
  .exact t4.same
 have w4:BX (put H3 ai 4 (I (down k mk))) bi a o _ t G _:=w3.CW λj hj=>B4 λe=>hn (e▸hj);have hX4:(put H3 ai 4 (I (down k mk)))[h.length]?=_:=(B4 (DQ hal)).trans hX3;have x4:=x3.trans (Oy (k:=4) (v:= I (down k mk)));generalize hH4:put H3 ai 4 (I (down k mk))=H4 at*;have hrd:∀r∈A7 (fs.map B3.row) k,r.length=3:=λr hm=>Nc fs r (by
  unfold A7 at hm;rcases Ao.1 hm with hm|hm
  .exact Bf hm
  .exact Bv hm)
 have f4:=jS hrd hX4;rw[Gm (by simp;omega),Ai] at f4;have e5:=Ox w4.pL f4 (by rw[Aj (DQ hbl)]);have w5:BX (H4.set h.length .CG) bi a o _ t G {b with A4:=b.A4}:=w4.CW λj hj=>Aj λe=>by
  subst e;rcases hj with hj|hj
  .exact hbl hj.symm
  .exact absurd (w.w.lt hj) (Dd _)
 have ed:A7 (fs.map B3.row) k=(A7 fs k).map B3.row:=by unfold A7;rw[BH,HS,NP]
 have ec:(A7 fs k).map (·.c)=A7 b.A4 k:=by unfold A7;rw[BH,HS,NP,Gn]
 refine⟨_,.sl 3 (A7 (fs.map B3.row) k),?_,w5.Kf (l:=A7 b.A4 k),⟨A7 fs k,ec,by rw[ed];exact .mk⟩,?_,?_⟩
 .have ld3:A6 H2 none (Pt ai 3)=some (I at_):=t3.load;have ld4:A6 H3 none (Pt ai 4)=some (I mk):=t4.load;have inc:=BF (show k<9223372036854775807 by omega);have d3:=CJ (show -9223372036854775808<=at_-1 by omega) (show at_-1<9223372036854775808 by omega);have d4:=CJ (show -9223372036854775808<=mk-1 by omega) (show mk-1<9223372036854775808 by omega);rw[Ab,mL,aAG];by_cases c3:(k:Int)<at_
  .rw[if_pos c3] at e3;have s3:Cv H2 1 (Pt ai 3) (I (at_-1))=some H3:=by rw[e3];exact t3.store rfl
   by_cases c4:(k:Int)<mk
   .rw[if_pos c4] at e4;have s4:Cv H3 1 (Pt ai 4) (I (mk-1))=some H4:=by rw[e4];exact t4.store rfl
    simp only[AB,Bi,w.l3,r1.call,inc,r2.call,s1,ld3,c3,d3,s3,ld4,c4,d4,s4,e5]
   .rw[if_neg c4] at e4;subst e4;simp only[AB,Bi,w.l3,r1.call,inc,r2.call,s1,ld3,c3,d3,s3,ld4,c4,e5]
  .rw[if_neg c3] at e3;subst e3;by_cases c4:(k:Int)<mk
   .rw[if_pos c4] at e4;have s4:Cv H3 1 (Pt ai 4) (I (mk-1))=some H4:=by rw[e4];exact t4.store rfl
    simp only[AB,Bi,w.l3,r1.call,inc,r2.call,s1,ld3,c3,ld4,c4,d4,s4,e5]
   .rw[if_neg c4] at e4;subst e4;simp only[AB,Bi,w.l3,r1.call,inc,r2.call,s1,ld3,c3,ld4,c4,e5]
 .rw[B4 Wm,Aj (DQ hal),ha4];rfl
 .refine De.trans ⟨by rw[Bj];exact x4.len,λj hj hn=>?_,x4.own⟩ (Ej Be ai);rw[Aj (by omega)];exact x4.old j hj hn
end
section
variable{α:Type}{q:α->Bool}{l:List α}
theorem Li{p:Nat}(hp:p<l.length)(h1:q l[p]=true)(h2:∀j (hj:j<l.length),p<j->q l[j]=false):AJ q l=(p:Int):=by
 rcases CP (q:=q) (l:=l) with⟨e,h⟩|⟨n,hn,e,h3,h4⟩
 .rw[h _ (AI hp)] at h1;exact absurd h1 (by decide)
 .rcases Nat.lt_trichotomy n p with h|h|h
  .have:=h4 p hp h;rw[this] at h1;exact absurd h1 (by decide)
  .rw[e,h]
  .have:=h2 n hn h;rw[this] at h3;exact absurd h3 (by decide)
theorem HQ{p:Nat}(e:AJ q l=(p:Int)):∃hp:p<l.length,q l[p]=true/\∀j (hj:j<l.length),p<j->q l[j]=false:=by
 rcases CP (q:=q) (l:=l) with⟨e1,h⟩|⟨n,hn,e1,h3,h4⟩
 .omega
 .have:n=p:=by omega
  subst this;exact⟨hn,h3,λj hj h=>h4 j hj h⟩
theorem dJ{k j:Nat}(hk:k<l.length):(A7 l k)[j]?=if j<k then l[j]? else l[j+1]?:=by
 unfold A7;by_cases h:j<k;·rw[if_pos h,Af (by rw[Al];omega),Cf,if_pos h]
 .rw[if_neg h,Bg (by rw[Al];omega),Cz];congr 1
  rw[Al];omega
theorem Nk{k j:Nat}(hk:k<l.length)(hj:j<(A7 l k).length):(A7 l k)[j]=if h:j<k then l[j]'(by omega) else l[j+1]'(by rw[Gm hk] at hj;omega):=by
 have hl:=Gm hk;have:=dJ (j:=j) hk;rw[Ae hj] at this;by_cases h:j<k;·rw[dif_pos h];rw[if_pos h,Ae (by omega)] at this;exact C8 this
 .rw[dif_neg h];rw[if_neg h,Ae (by omega)] at this;exact C8 this
theorem Zv{p k:Nat}(e:AJ q l=(p:Int))(hk:k<l.length)(hne:k≠p):AJ q (A7 l k)=down k p:=by
 obtain⟨hp,h1,h2⟩:=HQ e;have hl:=Gm hk;unfold down;by_cases hkp:k<p
 .rw[if_pos (by omega),show(p:Int)-1=((p-1:Nat):Int) by omega];refine Li (by omega) ?_ ?_
  .rw[Nk hk,dif_neg (by omega)];have:p-1+1=p:=by omega
   simp only[this,h1]
  .intro j hj h;rw[Nk hk,dif_neg (by omega)];exact h2 _ _ (by omega)
 .rw[if_neg (by omega)];refine Li (by omega) ?_ ?_;·rw[Nk hk,dif_pos (by omega)];exact h1
  .intro j hj h;rw[Nk hk];split;·exact h2 _ _ h
   .exact h2 _ _ (by omega)
theorem dK{p k:Nat}{x:α}(e:AJ q l=(p:Int))(hne:k≠p)(hx:q x=false):AJ q (l.set k x)=(p:Int):=by
 obtain⟨hp,h1,h2⟩:=HQ e;refine Li (by rw[Bj];exact hp) ?_ ?_;·rw[List.getElem_set_ne hne];exact h1
 .intro j hj h;rw[List.getElem_set];split;·exact hx
  .rw[Bj] at hj;exact h2 j hj h
end
theorem Zw{l:List Item}(hn:(l.map Item.node).Nodup){i:Nat}(hi:i<l.length):AJ (Bm l[i].node) l=(i:Int):=by
 refine Li hi (by simp[Bm]) λj hj h=>?_;by_cases he:l[i].node=l[j].node
 .have h2:(l.map Item.node)[i]'(by simpa using hi)=(l.map Item.node)[j]'(by simpa using hj):=by simpa using he
  exact absurd h2 (List.pairwise_iff_getElem.1 hn i j (by simpa using hi) (by simpa using hj) h)
 .unfold Bm;simpa using λe=>he e.symm
theorem GD{n:Int}{l:List Cc}(h:0<=EE n l):∃p:Nat,∃hp:p<l.length,EE n l=(p:Int)/\n≠0/\l[p].node=n/\AJ (Vv n) l=(p:Int):=by
 unfold EE at h⊢;split at h;·omega
 .rename_i h0;rw[if_neg h0];obtain⟨p,hp⟩:∃p:Nat,AJ (Vv n) l=(p:Int):=⟨_,(Nr h).symm⟩;obtain⟨h1,h2,_⟩:=HQ hp;exact⟨p,h1,hp,h0,by simpa[Vv] using h2,hp⟩
theorem XX{n:Int}{l:List Cc}{k:Nat}(h:0<=EE n l)(hk:k<l.length)(hne:l[k].node≠n):EE n (A7 l k)=down k (EE n l):=by obtain⟨p,hp,e,h0,h1,h2⟩:=GD h;rw[e,<-Zv h2 hk (by rintro rfl;exact hne h1)];unfold EE;rw[if_neg h0]
theorem dL{n:Int}{l:List Cc}{k:Nat}{x:Cc}(h:0<=EE n l)(hk:k<l.length)(hne:l[k].node≠n)(hx:x.node≠n):EE n (l.set k x)=EE n l:=by obtain⟨p,hp,e,h0,h1,h2⟩:=GD h;rw[e,<-dK (x:=x) (k:=k) h2 (by rintro rfl;exact hne h1) (by simp[Vv];exact hx)];unfold EE;rw[if_neg h0]
theorem tD{n:Int}{l:List Cc}(hn:((l.map Cc.node).filter λn=>decide (n≠0)).Nodup)(h:0<=EE n l):EE n (A7 l (EE n l).toNat)<0:=by
 obtain⟨p,hp,e,h0,h1,h2⟩:=GD h;rw[e,AQ];refine Int.not_le.1 λh3=>?_;obtain⟨p2,hp2,e2,_,h4,_⟩:=GD h3;have:l=l.take p++l[p]::l.drop (p+1):=by rw[<-AG hp,CK]
 rw[this,BH,Bl,EA,JP,if_pos (by simpa[h1] using h0),B7,BV] at hn;have hm:=AI hp2;generalize(A7 l p)[p2]=y at hm h4;unfold A7 at hm;rcases Ao.1 hm with hm|hm
 .exact hn.2.2 y.node (DU.2 ⟨aIq hm,by simpa[h4] using h0⟩) l[p].node (by simp) (by rw[h4,h1])
 .exact hn.2.1.1 (DU.2 ⟨by rw[h1,<-h4];exact aIq hm,by simpa[h1] using h0⟩)
section
variable{h h':Ad}{bi a ai:Nat}{o c t:Aa}{G G' F:Nat->Prop}{b b':BS}{x:Int}{m:Nat}
variable{nm:Ap}{av:Aa}{l:List AU}{r:List Aa}{sp p:Int}{e:B3}{at_ mk last:Int}{anc far:Item}
theorem Nl{blk anc:Int}{far i:Nat}{l:Int}{mk m:Nat}(r:BQ b (m+4)):BQ (BS.EL blk anc far i b l mk).1 m:=by
 unfold BS.EL;simp only
 split;·exact(r.le (by omega)).sub rfl CV (AX _) (Ac _)
 .split;·exact(r.le (by omega)).sub rfl CV CV (Ac _)
  .rename_i he _;obtain⟨p,hp,e1,_,_,_⟩:=GD (L6.1 he);rw[e1,AQ,AE,Ae hp,Ib];have Jn:=r.Dk _ (AI hp);have r1:=H7 (m:=m+1) (nm:=b.A4[p].name) (l:=b.A4[p].Ax) (sp:=1) (p:=anc) (r.le (by omega)) Jn.2;have r2:=(r1.le (m':=m) (by omega)).Jm (IZ (p:=(b.FA b.A4[p].name b.A4[p].Ax 1).node) (x:=l) (bf:=0));refine⟨r2.n,r2.at_,r2.data,by simp only[Bj];exact r2.AO,by simp only[Bj];exact r2.A4,r2.tm,λe he=>?_,λi hi=>?_⟩
   .rcases Dh he with he|rfl
    .exact r2.Dk e he
    .exact Jn
   .rcases Dh hi with hi|rfl
    .exact r2.Wn i hi
    .exact Mz Jn.1
end
theorem Sq{A:Ar}{x p bf:Int}(h:(A.nd p).kind=4):A.DZ x p bf=A.Fe p x bf:=by unfold Ar.DZ;rw[if_neg (by rw[h];intro h;exact absurd h.1 (by decide))]
section
variable{h h':Ad}{bi a ai:Nat}{o c t:Aa}{G G' F:Nat->Prop}{b b':BS}{x:Int}{m:Nat}
variable{nm:Ap}{av:Aa}{l:List AU}{r:List Aa}{sp p:Int}{e:B3}{at_ mk last:Int}{anc far:Item}
theorem BO.at(hc:BO b.A4 c)(w:BX h bi a o c t G b)(rm:BQ b m)(n:Int):BI cx 37 [Pt bi 3,I n] h (I (EE n b.A4)) h:=by obtain⟨fs,Gn,hv⟩:=hc;have ha:=rm.A4;have:=f41 w.pL hv (by rw[<-Gn,Ai] at ha;omega) n;rwa [VW,Gn] at this
structure dM(h:Ad)(bi a ai:Nat)(t:Aa)(G0:Nat->Prop)(fe:B3)(anc far:Item)(k N m:Nat)(s0:BS×Int×Nat)(n:Nat)(h1:Ad)(o c:Aa)(G:Nat->Prop)(s:BS×Int×Nat):Prop where
 le:n<=N
 w:BX h1 bi a o c t G s.1
 hc:BO s.1.A4 c
 ok:DG s.1
 rm:BQ s.1 (m+4*n)
 last:s.1.a.has s.2.1
 st:h1[ai]?=some (.cells (E4 fe (EE fe.c.node s.1.A4) (s.2.2:Int) anc far s.2.1))
 hn:¬own bi G ai
 x:De h (Lu ai bi G0) h1 (Lu ai bi G)
 TZ:0<=EE fe.c.node s.1.A4
 wh:s.2.2<=1000000000
 AO:s.1.AO.take (k+n+1)=s0.1.AO.take (k+n+1)
 len:k+n+1<=s.1.AO.length
 eq:BS.Jl far.node anc.node (k+1+N) k N s0=BS.Jl far.node anc.node (k+1+N) k n s
 fe:s.1.a.has fe.c.node
theorem XY{blk anc:Int}{far i:Nat}{l:Int}{mk:Nat}(hi:i<b.AO.length):(BS.EL blk anc far i b l mk).1.AO.take i=b.AO.take i/\i<=(BS.EL blk anc far i b l mk).1.AO.length:=by
 have h1:(A7 b.AO i).take i=b.AO.take i/\i<=(A7 b.AO i).length:=by refine⟨?_,by rw[Gm hi];omega⟩;unfold A7;rw[CT (by rw[Al];omega),GR,Nat.min_self]
 unfold BS.EL;simp only
 split;·exact h1
 .split;·exact h1
  .have MH:∀nm l p,(b.D8 nm l 1 p).AO=b.AO:=λnm l p=>by unfold BS.D8;rw[if_pos IQ]
   simp only[MH];exact⟨aIp (Ac i),by rw[Bj];omega⟩
theorem dM.step{h1 h2:Ad}{o1 c1 o2 c2:Aa}{G1 G2:Nat->Prop}{fe:B3}{k N n:Nat}{s0 s s':BS×Int×Nat}(i:dM h bi a ai t G fe anc far k N m s0 (n+1) h1 o1 c1 G1 s)(e:s'=BS.EL far.node anc.node (k+1+N) (k+(n+1)) s.1 s.2.1 s.2.2)
  (w:BX h2 bi a o2 c2 t G2 s'.1) (hc:BO s'.1.A4 c2) (st:h2[ai]?=some (.cells (E4 fe (EE fe.c.node s'.1.A4) (s'.2.2:Int) anc far s'.2.1))) (hn:¬own bi G2 ai) (x:De h1 (Lu ai bi G1) h2 (Lu ai bi G2)) (TZ:0<=EE fe.c.node s'.1.A4) (mk:s'.2.2<=1000000000):
  dM h bi a ai t G fe anc far k N m s0 n h2 o2 c2 G2 s':=by
 obtain⟨ok',last',le'⟩:=VA (blk:=far.node) (anc:=anc.node) (far:=k+1+N) (i:=k+(n+1)) (m:=s.2.2) i.ok i.last;have hl:=i.len;obtain⟨op1,op2⟩:=XY (blk:=far.node) (anc:=anc.node) (far:=k+1+N) (i:=k+(n+1)) (l:=s.2.1) (mk:=s.2.2) (b:=s.1) (by omega);have rm':=Nl (blk:=far.node) (anc:=anc.node) (far:=k+1+N) (i:=k+(n+1)) (l:=s.2.1) (mk:=s.2.2) (m:=m+4*n) (i.rm.le (by omega));have MH:=i.AO;have eq':BS.Jl far.node anc.node (k+1+N) k (n+1) s=BS.Jl far.node anc.node (k+1+N) k n (BS.EL far.node anc.node (k+1+N) (k+(n+1)) s.1 s.2.1 s.2.2):=rfl;have eq0:=i.eq.trans eq';rw[<-e] at ok' last' le' op1 op2 rm' eq0;refine⟨by have:=i.le;omega,w,hc,ok',rm',last',st,hn,i.x.trans x,TZ,mk,?_,by omega,eq0,le'.has _ i.fe⟩;have:=Cd (λl=>l.take (k+(n+1))) MH;simp only[GR] at this;rw[show k+n+1=k+(n+1) by omega,op1];rwa [Cm (by omega)] at this
theorem aG7{fe:B3}{k N:Nat}{s0:BS×Int×Nat}(i0:dM h bi a ai t G fe anc far k N m s0 N h o c G s0)(Wt:1<=k)(OH:AJ (Bm fe.c.node) s0.1.AO=(k:Int))(hN:k+1+N<s0.1.AO.length):
  ∃h' o' c' G' s',BI cx 117 [Pt bi 0,Pt ai 0,I (k:Int),I ((k+1+N:Nat):Int)] h (.tuple []) h'/\s'=BS.Jl far.node anc.node (k+1+N) k N s0/\dM h bi a ai t G fe anc far k N m s0 0 h' o' c' G' s':=by
 have ho:=i0.rm.AO;have Ik:Ev cx 117 [Pt bi 0,Pt ai 0,I (k:Int),I ((k+1+N:Nat):Int)] h λr h'=>r= .tuple []/\∃o' c' G' s',s'=BS.Jl far.node anc.node (k+1+N) k N s0/\dM h bi a ai t G fe anc far k N m s0 0 h' o' c' G' s':=by
  unfold Ev;rw[mP,aAK];have i1:=CJ (a:=((k+1+N:Nat):Int)) (b:=1) (by omega) (by omega);rw[show((k+1+N:Nat):Int)-1=((k+N:Nat):Int) by omega] at i1;simp only[AB,i1];refine Bb (λn:Nat=>[I ((N-n:Nat):Int),I ((k+n:Nat):Int)]) (λn h1=>∃o c G1 s,dM h bi a ai t G fe anc far k N m s0 n h1 o c G1 s) (λn=>n) N (by rw[DC];rfl) ⟨o,c,_,s0,i0⟩ ?_;rintro n h1 ⟨o1,c1,G1,s,i⟩;cases n with
  |zero=>simp only[AB,↓reduceIte,Bi,show¬(k:Int)<(k:Int) by omega];exact⟨_,rfl,rfl,o1,c1,G1,s,i.eq.symm,i⟩
  |succ n=>
   have hnN:=i.le;have hlen:=i.len;have XZ:k+(n+1)<s.1.AO.length:=by omega
   have hwo:=i.rm.AO;have hwa:=i.rm.A4;have Wm:ai≠bi:=λe=>i.hn (.inl e);have hai:ai<h1.length:=(Ah.1 i.st).1;have r1:=f113 i.w.sA ((k+(n+1):Nat):Int);rw[He XZ] at r1;have hxn:=Zw i.ok.dx XZ;have hxf:s.1.AO[k+(n+1)].node≠fe.c.node:=by have h2:=Cd (λl=>l[k+(n+1)]?) i.AO;simp only[Cf] at h2;rw[if_pos (by omega),if_pos (by omega),Ae XZ,Ae (by omega)] at h2;obtain⟨_,_,h3⟩:=HQ OH;have h4:=h3 (k+(n+1)) (by omega) (by omega);rw[C8 h2];intro h5;unfold Bm at h4;rw[h5] at h4;simp at h4
   have Uf:s.1.AO.getD (k+(n+1)) Item.zero=s.1.AO[k+(n+1)]:=by rw[AE,Ae XZ];rfl
   generalize s.1.AO[k+(n+1)]=x at*;have r2:=i.hc.at i.w i.rm x.node;obtain⟨q,hq,sU,hq0,hq2,hq3⟩:=GD i.TZ;have inc:Aw (.int .add) [I ((N-(n+1):Nat):Int),I 1]=some (I ((N-n:Nat):Int)):=by have:=BF (n:=N-(n+1)) (by omega);rwa [show N-(n+1)+1=N-n by omega] at this
   have dec:Aw (.int .sub) [I ((k+(n+1):Nat):Int),I 1]=some (I ((k+n:Nat):Int)):=by have:=Hl (n:=k+(n+1)) (by omega) (by omega);rwa [show k+(n+1)-1=k+n by omega] at this
   have uN:(k:Int)<((k+(n+1):Nat):Int):=by omega
   have hrm:∀l:List Item,l=s.1.AO->CF x.node l=A7 l (k+(n+1)):=by intro l e;subst e;unfold CF;rw[hxn,if_neg (by omega),AQ]
   by_cases he:EE x.node s.1.A4<0
   .obtain⟨u,r3,hu⟩:=aB1 i.w.sO (by omega) x.node;rw[hrm _ rfl] at hu;have w2:=i.w.Ia hu;have es:({s.1 with AO:=A7 s.1.AO (k+(n+1))},s.2.1,s.2.2)=BS.EL far.node anc.node (k+1+N) (k+(n+1)) s.1 s.2.1 s.2.2:=by unfold BS.EL;simp only[Uf];rw[if_pos he]
    have i2:=i.step es w2 i.hc ((B4 Wm).trans i.st) i.hn (Ej Be ai) i.TZ i.wh;by_cases L8:(3:Int)<((N-n:Nat):Int);·simp only[AB,↓reduceIte,Bi,EB,uN,r1.call,inc,r2.call,L8,he,show¬(0:Int)<=EE x.node s.1.A4 by omega,r3.call,dec];exact AF.next n rfl ⟨_,_,_,_,i2⟩ (by omega)
    .simp only[AB,↓reduceIte,Bi,EB,uN,r1.call,inc,r2.call,L8,he,r3.call,dec];exact AF.next n rfl ⟨_,_,_,_,i2⟩ (by omega)
   .obtain⟨p,hp,ep,Mo,WW,hp3⟩:=GD (L6.1 he);have D1:(0:Int)<=(p:Int):=by omega
    rw[ep] at r2;have yv:s.1.A4[p].node≠fe.c.node:=by rw[WW];exact hxf
    have ept:(EE x.node s.1.A4).toNat=p:=by rw[ep,AQ]
    by_cases L8:(3:Int)<((N-n:Nat):Int)
    .obtain⟨h2,c2,r3,w2,HH,wj,x2⟩:=pT i.w i.hc i.rm i.st i.hn hp ⟨i.TZ,by omega⟩ ⟨by omega,by have:=i.wh;omega⟩;have S9:BQ {s.1 with A4:=A7 s.1.A4 p} (m+4*(n+1)):=i.rm.sub rfl (AX _) CV (Ac _);have r4:=BO.at (b:={s.1 with A4:=A7 s.1.A4 p}) HH w2 S9 x.node;have lG:EE x.node (A7 s.1.A4 p)<0:=by have:=tD (n:=x.node) i.ok.sC (L6.1 he);rwa [ept] at this
     obtain⟨u,r5,hu⟩:=aB1 w2.sO (by simp only;omega) x.node;rw[hrm _ rfl] at hu;have w3:=w2.Ia hu;have cm:(((if p<s.2.2 then s.2.2 -1 else s.2.2:Nat)):Int)=down p (s.2.2:Int):=by unfold down;split<;>split<;>omega
     have es:({s.1 with A4:=A7 s.1.A4 p,AO:=A7 s.1.AO (k+(n+1))},s.2.1,if p<s.2.2 then s.2.2 -1 else s.2.2)=BS.EL far.node anc.node (k+1+N) (k+(n+1)) s.1 s.2.1 s.2.2:=by unfold BS.EL;simp only[Uf];rw[if_neg he,if_pos (show k+(n+1)+3<k+1+N by omega),ept]
     have aG8:=XX i.TZ hp yv;have hd0:0<=down p (EE fe.c.node s.1.A4):=by unfold down;split<;>omega
     have i2:=i.step es w3 HH (by rw[B4 Wm,wj];simp only;rw[aG8,cm]) i.hn (x2.trans (Ej Be ai)) (by simp only;rw[aG8];exact hd0) (by have:=i.wh;simp only;split<;>omega);simp only[AB,↓reduceIte,Bi,EB,uN,r1.call,inc,r2.call,L8,D1,r3.call,r4.call,lG,r5.call,dec];exact AF.next n rfl ⟨_,_,_,_,i2⟩ (by omega)
    .obtain⟨fs,Gn,hv⟩:=i.hc;have GG:s.1.A4.length=fs.length:=by rw[<-Gn,Ai]
     have aCg:p<fs.length:=by omega
     have efp:fs[p].c=s.1.A4[p]:=by simp only[<-Gn,CX]
     have l3:=i.w.l3;have e1:=AM.Bz (k:= .i64) hv aCg;have l5:A6 h1 none (Pt ai 5)=some (I anc.node):=At.load ⟨_,i.st,rfl⟩;obtain⟨r,r3,hr⟩:=cg fs[p] h1;have Jn:=i.rm.Dk _ (AI hp);rw[<-efp] at Jn;obtain⟨h2,G2,r4,w2,x2⟩:=br (m:=m+4*n) i.w i.ok (i.rm.le (by omega)) hr fs[p].ok Jn.2 Jn.1 anc.node 1;obtain⟨bt,f,le2⟩:=Mw (nm:=fs[p].c.name) (at_:=fs[p].c.Ax) (p:=anc.node) i.ok IQ;have S9:=H7 (m:=m+4*n+1) (nm:=fs[p].c.name) (l:=fs[p].c.Ax) (sp:=1) (p:=anc.node) (i.rm.le (by omega)) Jn.2;have MH:(s.1.D8 fs[p].c.name fs[p].c.Ax 1 anc.node).AO=s.1.AO:=by unfold BS.D8;rw[if_pos IQ]
     have Ry:(s.1.D8 fs[p].c.name fs[p].c.Ax 1 anc.node).A4=s.1.A4:=by unfold BS.D8;rw[if_pos IQ]
     have es0:BS.EL far.node anc.node (k+1+N) (k+(n+1)) s.1 s.2.1 s.2.2=({s.1.D8 fs[p].c.name fs[p].c.Ax 1 anc.node with a:=(s.1.D8 fs[p].c.name fs[p].c.Ax 1 anc.node).a.Fe (s.1.FA fs[p].c.name fs[p].c.Ax 1).node s.2.1 0,AO:=(s.1.D8 fs[p].c.name fs[p].c.Ax 1 anc.node).AO.set (k+(n+1)) (s.1.FA fs[p].c.name fs[p].c.Ax 1),A4:=(s.1.D8 fs[p].c.name fs[p].c.Ax 1 anc.node).A4.set p {fs[p].c with node:=(s.1.FA fs[p].c.name fs[p].c.Ax 1).node}},(s.1.FA fs[p].c.name fs[p].c.Ax 1).node,if s.2.1=far.node then p+1 else s.2.2):=by unfold BS.EL;simp only[Uf];rw[if_neg he,if_neg (by omega),ept,AE,Ae hp,Ib,<-efp]
     have uB:=Mx i.ok f;have hna:=O1 i.ok f;have hnf:(s.1.FA fs[p].c.name fs[p].c.Ax 1).node≠fe.c.node:=λe2=>f.new (by rw[e2];exact i.fe);have aL3:=le2.has _ i.last;have aCh:(s.1.FA fs[p].c.name fs[p].c.Ax 1).name.length<=1000:=Mz Jn.1;generalize s.1.FA fs[p].c.name fs[p].c.Ax 1=nw at*;generalize s.1.D8 fs[p].c.name fs[p].c.Ax 1 anc.node=b2 at*;have Rx:¬own bi G2 ai:=λhg=>by
      rcases x2.own ai hg with hg|hg
      .exact i.hn hg
      .omega
     have wj:h2[ai]?=_:=(x2.old ai hai i.hn).trans i.st;obtain⟨u1,t1,r5,NG⟩:=aK8 w2.sO (by have:=S9.AO;omega) x.node nw;have qu:On x.node nw b2.AO=b2.AO.set (k+(n+1)) nw:=by unfold On;rw[MH,hxn,if_neg (by omega),AQ]
     rw[qu] at NG;have w3:=(w2.Ia NG).HA (u:=t1);have x3:De h1 (Lu ai bi G1) (put h2 bi 2 u1++t1) (Lu ai bi G2):=(Ej x2 ai).trans (Ej (Be.trans (w2.Ia NG).CN) ai);have ai2:ai<h2.length:=by have:=x2.len;omega
     have st3:(put h2 bi 2 u1++t1)[ai]?=_:=(Af (by rw[IC];exact ai2)).trans ((B4 Wm).trans wj);have ai3:ai<(put h2 bi 2 u1++t1).length:=by rw[As,IC];omega
     generalize put h2 bi 2 u1++t1=h3 at*;have aL4:=(Jn.2).1;obtain⟨u2,t2,e2,he2,r6,Il⟩:=f208 (h:=h3) (id:=bi) (o:=3) (l:=fs) ⟨c1,w3.pL,hv⟩ (by omega) x.node (e:=⟨{fs[p].c with node:=nw.node},fs[p].v,fs[p].ok⟩) (by unfold WQ;simp only;omega);have hei:Gz x.node fs=(p:Int):=by rw[VW,Gn,ep]
     rw[hei,if_neg (by omega),AQ] at Il;have w4:=(w3.Kf (u:=u2) (l:=b2.A4.set p {fs[p].c with node:=nw.node})).HA (u:=t2);have hc4:BO (b2.A4.set p {fs[p].c with node:=nw.node}) u2:=⟨_,by rw[Fh,Gn,he2,Ry],Il⟩;have x4:=x3.trans (Ej ((Be (k:=3) (v:=u2)).trans (BX.CN (u:=t2) (w3.Kf (u:=u2) (l:=b2.A4.set p {fs[p].c with node:=nw.node})))) ai);have st4:(put h3 bi 3 u2++t2)[ai]?=_:=(Af (by rw[IC];exact ai3)).trans ((B4 Wm).trans st3);generalize put h3 bi 3 u2++t2=h4 at*;have wk:=bt.iS (i:=nw) (k:=k+(n+1)) ⟨f.has,f.kind,f.AZ,f.name⟩ (by rw[MH];exact uB);have uL:=wk.iT (e:={fs[p].c with node:=nw.node}) (k:=p) ⟨f.has,f.kind⟩ (by simp only[Ry];exact hna);have rm4:BQ {b2 with AO:=b2.AO.set (k+(n+1)) nw,A4:=b2.A4.set p {fs[p].c with node:=nw.node}} (m+4*n+1):=by
      refine⟨S9.n,S9.at_,S9.data,by simp only[Bj];exact S9.AO,by simp only[Bj];exact S9.A4,S9.tm,λe he=>?_,λi hi=>?_⟩
      .rcases Dh he with he|rfl
       .exact S9.Dk e he
       .exact Jn
      .rcases Dh hi with hi|rfl
       .exact S9.Wn i hi
       .exact aCh
     have l13:A6 h4 none (Pt ai 13)=some (I s.2.1):=At.load ⟨_,st4,rfl⟩;have l9:A6 h4 none (Pt ai 9)=some (I far.node):=At.load ⟨_,st4,rfl⟩;have t4:At h4 ai 4 (I (s.2.2:Int)):=⟨_,st4,rfl⟩;obtain⟨Sr,TJ⟩:∃Sr:Nat,Sr=if s.2.1=far.node then p+1 else s.2.2:=⟨_,rfl⟩
     have e5:put h4 ai 4 (I (Sr:Int))=if s.2.1=far.node then put h4 ai 4 (I ((p+1:Nat):Int)) else h4:=by
      rw[TJ];split;·rfl
      .exact t4.same
     have st5:=Hg (k:=4) (v:= I (Sr:Int)) st4;have w5:BX (put h4 ai 4 (I (Sr:Int))) bi a u1 u2 t G2 {b2 with AO:=b2.AO.set (k+(n+1)) nw,A4:=b2.A4.set p {fs[p].c with node:=nw.node}}:=w4.CW λj hj=>B4 λe=>Rx (e▸hj);have x5:=x4.trans (Oy (k:=4) (v:= I (Sr:Int)));have ai5:ai<(put h4 ai 4 (I (Sr:Int))).length:=by have:=x5.len;omega
     have t5:A6 (put h4 ai 4 (I (Sr:Int))) none (Pt ai 13)=some (I s.2.1):=At.load ⟨_,st5,rfl⟩;generalize hh5:put h4 ai 4 (I (Sr:Int))=h5 at*;obtain⟨h6,G6,r7,w6,x6⟩:=dD (x:=s.2.1) (p:=nw.node) (bf:=0) w5 uL rm4;rw[Sq (by exact f.kind)] at w6;have hn6:¬own bi G6 ai:=λhg=>by
      rcases x6.own ai hg with hg|hg
      .exact Rx hg
      .omega
     have st6:h6[ai]?=_:=(x6.old ai ai5 Rx).trans st5;have t6:At h6 ai 13 (I s.2.1):=⟨_,st6,rfl⟩;have st7:=Hg (k:=13) (v:= I nw.node) st6;have w7:BX (put h6 ai 13 (I nw.node)) bi a u1 u2 t G6 _:=w6.CW λj hj=>B4 λe=>hn6 (e▸hj);have x7:=(x5.trans (Ej x6 ai)).trans (Oy (k:=13) (v:= I nw.node));have VZ:EE fe.c.node (b2.A4.set p {fs[p].c with node:=nw.node})=EE fe.c.node s.1.A4:=by rw[Ry];exact dL i.TZ hp yv hnf
     rw[<-TJ] at es0;have i2:=i.step es0.symm w7 hc4 (by simp only;rw[st7,VZ];rfl) hn6 x7 (by simp only;rw[VZ];exact i.TZ) (by simp only;rw[TJ];have:=i.wh;split<;>omega);have tE:fs[p].v.cells=[fs[p].v]:=AM.cells fs[p].ok;have incp:=BF (show p<9223372036854775807 by omega);have r6':BI cx 214 [Pt bi 3,I x.node,.agg [I nw.node,.str fs[p].c.name,fs[p].v]] h3 (.bool (decide (0<=Gz x.node fs))) h4:=r6;rw[B3.row] at e1 r3;by_cases Qr:s.2.1=far.node
     .rw[if_pos Qr] at e5;have s5:Cv h4 1 (Pt ai 4) (I ((p+1:Nat):Int))=some h5:=by rw[e5];exact t4.store rfl
      simp only[AB,Nat.reduceLeDiff,↓reduceIte,AK,Bi,EB,uN,r1.call,inc,r2.call,L8,D1,show¬(p:Int)<0 by omega,l3,e1,l5,r3.call,By,r4.call,r5.call,tE,r6'.call,l13,l9,AW Qr,incp,s5,t5,r7.call,t6.store (u:= I nw.node) rfl,dec];exact AF.next n rfl ⟨_,_,_,_,i2⟩ (by omega)
     .rw[if_neg Qr] at e5;subst e5;simp only[AB,Nat.reduceLeDiff,↓reduceIte,AK,Bi,EB,uN,r1.call,inc,r2.call,L8,D1,show¬(p:Int)<0 by omega,l3,e1,l5,r3.call,By,r4.call,r5.call,tE,r6'.call,l13,l9,Qr,r7.call,t6.store (u:= I nw.node) rfl,dec];exact AF.next n rfl ⟨_,_,_,_,i2⟩ (by omega)
 obtain⟨r,h',hr,rfl,o',c',G',s',e',i'⟩:=Ik.ret;exact⟨h',o',c',G',s',hr,e',i'⟩
end
section
variable{h h':Ad}{bi a ai:Nat}{o c t:Aa}{G G' F:Nat->Prop}{b b':BS}{x:Int}{m:Nat}
variable{nm:Ap}{av:Aa}{l:List AU}{r:List Aa}{sp p:Int}{e:B3}{at_ mk last:Int}{anc far:Item}
theorem BO.find(hc:BO b.A4 c)(w:BX h bi a o c t G b)(rm:BQ b m)(nm:Ap):BI cx 110 [Pt bi 3,.str nm] h (I (FI nm b.A4)) h:=by obtain⟨fs,Gn,hv⟩:=hc;have ha:=rm.A4;have:=aLb w.pL hv (by rw[<-Gn,Ai] at ha;omega) nm;rwa [pO,Gn] at this
theorem V0(hai:h.length<=ai)(x:De h (Lu ai bi G) h' (Lu ai bi G')):De h (own bi G) h' (own bi G'):=
 ⟨x.len,λi hi hn=>x.old i hi λhg=>by
  rcases hg with rfl|hg
  .omega
  .exact hn hg,λi hi=>by
  rcases x.own i (.inr hi) with(rfl|h)|h
  .exact .inr hai
  .exact .inl h
  .exact .inr h⟩
theorem Rn{nm:Ap}{l:List Cc}(h:0<=FI nm l):∃p:Nat,∃hp:p<l.length,FI nm l=(p:Int):=by
 have key:∀r:List Cc,Ov nm r<r.length:=by
  intro r;induction r with
  |nil=>show(-1:Int)<0;decide
  |cons x r ih=>rw[Ov];simp only[Bd];split<;>(try split)<;>omega
 have:=key l.reverse;rw[Ws] at this;refine⟨(FI nm l).toNat,?_,by omega⟩;unfold FI at h⊢;omega
theorem pU{l:List Cc}{f:Nat}(hn:((l.map Cc.node).filter λn=>decide (n≠0)).Nodup)(hf:f<l.length)(h0:l[f].node≠0):EE l[f].node l=(f:Int):=by
 unfold EE;rw[if_neg h0];refine Li hf (by simp[Vv]) λj hj h=>?_;by_cases he:l[j].node=l[f].node
 .exfalso;have:l=l.take j++l[j]::l.drop (j+1):=by rw[<-AG hj,CK]
  rw[this,BH,Bl,EA,JP,if_pos (by simpa[he] using h0),B7] at hn;have hm:l[f]∈l.take j:=List.mem_take_iff_getElem.2 ⟨f,by omega,rfl⟩;exact hn.2.2 l[f].node (DU.2 ⟨aIq hm,by simpa using h0⟩) l[j].node (by simp) he.symm
 .simp[Vv,he]
theorem dN{v:Dc}:De h (Am.Lu ai bi G) (h.set ai v) (Am.Lu ai bi G):=⟨by rw[Bj];exact Ac _,λi _ hn=>Aj λe=>hn (.inl e.symm),λ_ h=> .inl h⟩
theorem aCj(hc:h[ai]?=some (.cells (E4 e at_ mk anc far last)))(i:Item):Cv h 4 (Pt ai 5) (.agg i.row)=some (h.set ai (.cells (E4 e at_ mk i far last))):=by simp only[Cv,hc];rfl
theorem aCk(hc:h[ai]?=some (.cells (E4 e at_ mk anc far last)))(i:Item):Cv h 4 (Pt ai 9) (.agg i.row)=some (h.set ai (.cells (E4 e at_ mk anc i last))):=by simp only[Cv,hc];rfl
theorem aCl(hc:h[ai]?=some (.cells (E4 e at_ mk anc far last))):A6 h (some 3) (Pt ai 0)=some (.agg e.row):=by simp only[A6,hc];rfl
theorem PI{A:Ar}{n x:Int}{l:List Int}:BS.Ci A n (l++[x])=(BS.Ci A n l).Fe n x 0:=by unfold BS.Ci;rw[List.foldl_append];rfl
theorem aL6(w:BX h bi a o c t G b)(hc:BO b.A4 c)(ok:DG b)(rm:BQ b (m+4*b.AO.length+10))(nm:Ap):
  ∃h' o' c' G',BI cx 39 [Pt bi 0,.str nm] h (.bool (b.round nm).1) h'/\BX h' bi a o' c' t G' (b.round nm).2/\BO (b.round nm).2.A4 c'/\De h (own bi G) h' (own bi G'):=by
 have ho:=rm.AO;have Ry:=rm.A4;have r1:=hc.find w rm nm;by_cases hf:FI nm b.A4<0
 .obtain⟨h2,o2,r2,w2,x2⟩:=aGQ w rm nm;have e:b.round nm=(false,b.C0 nm):=by unfold BS.round;simp only;rw[if_pos hf]
  have ea:(b.C0 nm).A4=b.A4:=by
   unfold BS.C0;split;·split<;>rfl
   .rfl
  rw[e];refine⟨h2,o2,c,G,?_,w2,by rw[ea];exact hc,x2⟩;rw[Ab,Qf,vf];simp only[AB,Nat.reduceLeDiff,↓reduceIte,AK,Bi,r1.call,hf,r2.call]
 obtain⟨f,GG,ef⟩:=Rn (L6.1 hf);have eK:¬(f:Int)<0:=by omega
 rw[ef] at r1;have JU:=hc;obtain⟨fs,Gn,hv⟩:=JU;have aL7:b.A4.length=fs.length:=by rw[<-Gn,Ai]
 have efp:fs[f].c=b.A4[f]:=by simp only[<-Gn,CX]
 have l3:=w.l3;have e1:=AM.Bz (k:= .i64) hv (show f<fs.length by omega);generalize hfe:fs[f]=fe at*;have Uf:b.A4.getD f Cc.zero=fe.c:=by rw[AE,Ae GG];exact efp.symm
 have tE:fe.v.cells=[fe.v]:=AM.cells fe.ok;have w1:=w.HA (u:=[.cells (E4 fe (f:Int) (f:Int) Item.zero Item.zero 0)]);have st1:(h++[Dc.cells (E4 fe (f:Int) (f:Int) Item.zero Item.zero 0)])[h.length]?=some (.cells (E4 fe (f:Int) (f:Int) Item.zero Item.zero 0)):=by simp
 have x1:De h (own bi G) (h++[Dc.cells (E4 fe (f:Int) (f:Int) Item.zero Item.zero 0)]) (own bi G):=w.CN;have LV:¬own bi G h.length:=by
  rintro(e|hg);·exact absurd w.lt (by omega)
  .exact absurd (w.w.lt hg) (Dd _)
 obtain⟨H1,hH1⟩:∃H1,H1=h++[Dc.cells (E4 fe (f:Int) (f:Int) Item.zero Item.zero 0)]:=⟨_,rfl⟩;rw[<-hH1] at w1 st1 x1;have l0:A6 H1 none (Pt h.length 0)=some (I fe.c.node):=At.load ⟨_,st1,rfl⟩;have r2:=WT w1.sA (by omega) fe.c.node;have hal:E4 fe (f:Int) (f:Int) Item.zero Item.zero 0=[I fe.c.node,.str fe.c.name,fe.v,I (f:Int),I (f:Int),I 0,I 0,S [],ff,I 0,I 0,S [],ff,I 0]:=rfl;rw[hal] at hH1;rw[B3.row] at e1;by_cases hk:AJ (Bm fe.c.node) b.AO<0
 .obtain⟨h2,c2,r3,w2,HH,_,x2⟩:=pT w1 hc rm st1 LV GG ⟨by omega,by omega⟩ ⟨by omega,by omega⟩;have e:b.round nm=(false,{b with A4:=A7 b.A4 f}):=by unfold BS.round;simp only;rw[if_neg hf,ef,AQ,Uf,if_pos hk]
  rw[e];refine⟨h2,o,c2,G,?_,w2,HH,V0 (Ac _) ((Ej x1 h.length).trans x2)⟩;rw[Ab,Qf,vf];simp only[AB,Nat.reduceLeDiff,↓reduceIte,AK,Bi,r1.call,eK,l3,e1,<-hH1,l0,r2.call,hk,r3.call]
 obtain⟨k,ek⟩:∃k:Nat,AJ (Bm fe.c.node) b.AO=(k:Int):=⟨_,(Nr (L6.1 hk)).symm⟩;obtain⟨OH,hkq,_⟩:=HQ ek;have cY:¬(k:Int)<0:=by omega
 rw[ek] at r2;by_cases hkz:k=0
 .have e:b.round nm=(false,b):=by unfold BS.round;simp only;rw[if_neg hf,ef,AQ,Uf,if_neg hk,if_pos (.inl (by rw[ek,hkz];rfl))]
  rw[e];refine⟨H1,o,c,G,?_,w1,hc,x1⟩;rw[Ab,Qf,vf];simp only[AB,Nat.reduceLeDiff,↓reduceIte,AK,Bi,r1.call,eK,l3,e1,<-hH1,l0,r2.call,cY,AW (show(k:Int)=0 by omega)]
 have dO:¬(k:Int)=0:=by omega
 have r3:=aK1 w1.sA (by omega) 1 fe.c.node;by_cases Ph:I2 (Bm fe.c.node) (II 1) b.AO.reverse=false
 .have e:b.round nm=(false,b):=by unfold BS.round;simp only;rw[if_neg hf,ef,AQ,Uf,if_neg hk,if_pos (.inr Ph)]
  rw[e];refine⟨H1,o,c,G,?_,w1,hc,x1⟩;rw[Ph] at r3;rw[Ab,Qf,vf];simp only[AB,Nat.reduceLeDiff,↓reduceIte,AK,Bi,r1.call,eK,l3,e1,<-hH1,l0,r2.call,cY,dO,r3.call]
 have aCm:I2 (Bm fe.c.node) (II 1) b.AO.reverse=true:=by simpa using Ph
 rw[aCm] at r3;have r4:=aK2 w1.sA (by omega) fe.c.node;have ze:¬(AJ (Bm fe.c.node) b.AO=0\/I2 (Bm fe.c.node) (II 1) b.AO.reverse=false):=by rw[ek];rintro(h|h);exact dO h;exact Ph h
 by_cases hfa:Dz fe.c.node b.AO<0
 .have e:b.round nm=(false,{b with AO:=Ga fe.c.node b.AO,A4:=A7 b.A4 f}):=by unfold BS.round;simp only;rw[if_neg hf,ef,AQ,Uf,if_neg hk,if_neg ze,if_pos hfa]
  obtain⟨u,r5,hu⟩:=aF5 w1.sO (by omega) fe.c.node;have w2:=w1.Ia hu;have wj:(put H1 bi 2 u)[h.length]?=_:=(B4 (λe=>LV (.inl e))).trans st1;obtain⟨h3,c3,r6,w3,L8,_,x3⟩:=pT w2 hc ((rm.le (m':=0) (by omega)).sub rfl HO (AX _) (Ac _)) wj LV GG ⟨by omega,by omega⟩ ⟨by omega,by omega⟩;rw[e];refine⟨h3,u,c3,G,?_,w3,L8,V0 (Ac _) ((Ej (x1.trans Be) h.length).trans x3)⟩;rw[Ab,Qf,vf];simp only[AB,Nat.reduceLeDiff,↓reduceIte,AK,Bi,r1.call,eK,l3,e1,<-hH1,l0,r2.call,cY,dO,r3.call,r4.call,hfa,r5.call,r6.call]
 obtain⟨N,hN,eN⟩:∃N:Nat,k+1+N<b.AO.length/\Dz fe.c.node b.AO=((k+1+N:Nat):Int):=by
  have jT:=hfa;rw[HL,if_neg hk,ek,AQ] at jT⊢;unfold Em at jT⊢;split at jT;·rename_i j hj;have:=(Hz.1 hj).1;rw[A8] at this;exact⟨j,by omega,by omega⟩
  .omega
 obtain⟨fb,sQ⟩:∃fb,fb=b.AO[k+1+N]:=⟨_,rfl⟩;obtain⟨an,qe⟩:∃an,an=b.AO[k-1]'(by omega):=⟨_,rfl⟩;have wV:b.AO.getD (k+1+N) Item.zero=fb:=by rw[AE,Ae hN,sQ];rfl
 have A_:b.AO.getD (k-1) Item.zero=an:=by rw[AE,Ae (by omega),qe];rfl
 have e:b.round nm=(true,BS.FM fe.c fb.node an.node (BS.Jl fb.node an.node (k+1+N) k N (b,fb.node,f))):=by
  unfold BS.round;simp only
  rw[if_neg hf,ef,AQ,Uf,if_neg hk,if_neg ze,if_neg hfa,ek,eN,AQ,AQ,wV,A_,show k+1+N-1 -k=N by omega]
 have tF:=ok.op fb (by rw[sQ];exact AI _);have aCn:b.AO[k].node=fe.c.node:=by simpa[Bm] using hkq
 have qv:b.a.has fe.c.node:=by rw[<-aCn];exact(ok.op _ (AI _)).1
 have qw:b.A4[f].node≠0:=by rw[<-efp];have:=qv.1;omega
 have VZ:=pU ok.sC GG qw;rw[<-efp] at VZ;have Jn:=rm.Dk _ (AI GG);rw[<-efp] at Jn;have Tw:=Hl (n:=k) (by omega) (by omega);have r5:=f113 w1.sA ((k-1:Nat):Int);rw[He (by omega),<-qe] at r5;have r6:=f113 w1.sA ((k+1+N:Nat):Int);rw[He hN,<-sQ] at r6;have s5:=aCj st1 an;have T3:h.length<H1.length:=(Ah.1 st1).1;have hbn:h.length≠bi:=λe=>LV (.inl e);have wj:(H1.set h.length (.cells (E4 fe f f an Item.zero 0)))[h.length]?=_:=AN T3;have w2:BX (H1.set h.length (.cells (E4 fe f f an Item.zero 0))) bi a o c t G b:=w1.CW λj hj=>Aj λe=>LV (by rw[e];exact hj);have x2:=(Ej x1 h.length).trans (dN (v:= .cells (E4 fe f f an Item.zero 0)));generalize H1.set h.length (.cells (E4 fe f f an Item.zero 0))=H2 at*;have s6:=aCk wj fb;have Xv:h.length<H2.length:=(Ah.1 wj).1;have st3:(H2.set h.length (.cells (E4 fe f f an fb 0)))[h.length]?=_:=AN Xv;have w3:BX (H2.set h.length (.cells (E4 fe f f an fb 0))) bi a o c t G b:=w2.CW λj hj=>Aj λe=>LV (by rw[e];exact hj);have x3:=x2.trans (dN (v:= .cells (E4 fe f f an fb 0)));generalize H2.set h.length (.cells (E4 fe f f an fb 0))=H3 at*;have l9:A6 H3 none (Pt h.length 9)=some (I fb.node):=At.load ⟨_,st3,rfl⟩;have t13:At H3 h.length 13 (I 0):=⟨_,st3,rfl⟩;have s7:=t13.store (u:= I fb.node) rfl;have st4:=Hg (k:=13) (v:= I fb.node) st3;have w4:BX (put H3 h.length 13 (I fb.node)) bi a o c t G b:=w3.CW λj hj=>B4 λe=>LV (by rw[<-e];exact hj);have x4:=x3.trans (Oy (k:=13) (v:= I fb.node));generalize put H3 h.length 13 (I fb.node)=H4 at*;have i0:dM H4 bi a h.length t G fe an fb k N (m+10) (b,fb.node,f) N H4 o c G (b,fb.node,f):=
  ⟨Ac _,w4,hc,ok,rm.le (by omega),tF.1,by rw[VZ];exact st4,LV,.refl,by rw[VZ];omega,by show f<=1000000000;omega,rfl,by simp only;omega,rfl,qv⟩
 have le0:=(T6 (blk:=fb.node) (anc:=an.node) (far:=k+1+N) (k:=k) (c:=N) (s:=(b,fb.node,f)) ok tF.1).2.2;obtain⟨h5,o5,c5,G5,s',r7,es,i⟩:=aG7 i0 (by omega) ek hN;rw[<-es] at le0 e;obtain⟨q,hq,sU,hq0,hq2,hq3⟩:=GD i.TZ;have ist:=i.st;rw[sU] at ist;have uo:=i.wh;have Wm:h.length≠bi:=hbn;have l5:A6 h5 none (Pt h.length 5)=some (I an.node):=At.load ⟨_,ist,rfl⟩;obtain⟨u6,r8⟩:=bq i.w i.ok i.rm an.node;have w6:=i.w.HA (u:=u6);have w6':=i.w.CN (u:=u6);have hl5:h.length<h5.length:=(Ah.1 ist).1;have st6:(h5++u6)[h.length]?=_:=(Af hl5).trans ist;have l13:A6 (h5++u6) none (Pt h.length 13)=some (I s'.2.1):=At.load ⟨_,st6,rfl⟩;have hl6:h.length<(h5++u6).length:=by rw[As];omega
 obtain⟨h7,G7,r9,w7,x7⟩:=dD (x:=s'.2.1) (p:=(s'.1.place an.node).1) (bf:=(s'.1.place an.node).2) w6 i.ok i.rm;have hn7:¬own bi G7 h.length:=λhg=>by
  rcases x7.own h.length hg with hg|hg
  .exact i.hn hg
  .omega
 have st7:h7[h.length]?=_:=(x7.old h.length hl6 i.hn).trans st6;have l3b:A6 h7 (some 3) (Pt h.length 0)=some (.agg fe.row):=aCl st7;have l9b:A6 h7 none (Pt h.length 9)=some (I fb.node):=At.load ⟨_,st7,rfl⟩;obtain⟨r,ZO,hr⟩:=cg fe h7;have le7:Le s'.1.a (s'.1.a.DZ s'.2.1 (s'.1.place an.node).1 (s'.1.place an.node).2):=H6;have ok7:=i.ok.Jm (Nf (n:=s'.2.1) (p:=(s'.1.place an.node).1) (b:=(s'.1.place an.node).2) i.ok.ok) le7;have rm7:=i.rm.Jm (I0 (x:=s'.2.1) (p:=(s'.1.place an.node).1) (bf:=(s'.1.place an.node).2));obtain⟨b2,MJ⟩:∃b2,b2={s'.1 with a:=s'.1.a.DZ s'.2.1 (s'.1.place an.node).1 (s'.1.place an.node).2}:=⟨_,rfl⟩;have Wh:b2.AO=s'.1.AO:=by rw[MJ]
 have HH:b2.A4=s'.1.A4:=by rw[MJ]
 have le2:Le s'.1.a b2.a:=by rw[MJ];exact le7
 rw[<-MJ] at w7 ok7 rm7;obtain⟨h8,G8,wm,w8,x8⟩:=br (m:=m+7) w7 ok7 (rm7.le (by omega)) hr fe.ok Jn.2 Jn.1 fb.node 1;obtain⟨dz,fr,le8⟩:=Mw (nm:=fe.c.name) (at_:=fe.c.Ax) (p:=fb.node) ok7 IQ;have qx:=H7 (m:=m+7) (nm:=fe.c.name) (l:=fe.c.Ax) (sp:=1) (p:=fb.node) (rm7.le (by omega)) Jn.2;obtain⟨nw,hnw⟩:∃nw,nw=b2.FA fe.c.name fe.c.Ax 1:=⟨_,rfl⟩;obtain⟨b3,uH⟩:∃b3,b3=b2.D8 fe.c.name fe.c.Ax 1 fb.node:=⟨_,rfl⟩;have ho3:b3.AO=s'.1.AO:=by rw[uH,<-Wh];unfold BS.D8;rw[if_pos IQ]
 have L8:b3.A4=s'.1.A4:=by rw[uH,<-HH];unfold BS.D8;rw[if_pos IQ]
 rw[<-hnw] at wm fr;rw[<-uH] at w8 dz fr le8 qx;have hl7:h.length<h7.length:=(Ah.1 st7).1;have hn8:¬own bi G8 h.length:=λhg=>by
  rcases x8.own h.length hg with hg|hg
  .exact hn7 hg
  .omega
 have st8:h8[h.length]?=_:=(x8.old h.length hl7 hn7).trans st7;have l9c:A6 h8 none (Pt h.length 9)=some (I fb.node):=At.load ⟨_,st8,rfl⟩;obtain⟨kv,r12,pK⟩:∃v,BI cx 119 [Pt a 0,I fb.node] h8 v h8/\Dg (b3.a.nd fb.node).AY v:=by obtain⟨n',m',ps,wa⟩:=w8.w.pa;exact vp wa qx.Wo (qx.Wo.AY dz.ok fb.node)
 have aHe:(b3.a.nd fb.node).AY.length<=1000000000:=qx.Wo.AY dz.ok fb.node;have Xl:nw.row=[I nw.node,I nw.AZ,.str nw.name,.bool nw.NA]:=rfl;rw[B3.row] at ZO l3b;have Ik:Ev cx 39 [Pt bi 0,.str nm] h λr h'=>r= .bool true/\∃o' c' G',BX h' bi a o' c' t G' (BS.FM fe.c fb.node an.node s')/\BO (BS.FM fe.c fb.node an.node s').A4 c'/\De h (own bi G) h' (own bi G'):=by
  unfold Ev;rw[Qf,vf];simp only[AB,Nat.reduceLeDiff,↓reduceIte,AK,Bi,r1.call,eK,l3,e1,<-hH1,l0,r2.call,cY,dO,r3.call,r4.call,eN,show¬((k+1+N:Nat):Int)<0 by omega,Tw,r5.call,r6.call,s5,s6,l9,s7];simp only[AB,Bi,r7.call,l5,r8.call];simp only[AB,Bi,l13,r9.call];simp only[AB,l3b,l9b];simp only[AB,↓reduceIte,Bi,EB,ZO.call,By,wm.call,l9b];simp only[AB,w8.l0,l9c,r12.call,AM.Cp pK];have wq:De h (Lu h.length bi G) h8 (Lu h.length bi G8):=(((x4.trans i.x).trans (Ej w6' h.length)).trans (Ej x7 h.length)).trans (Ej x8 h.length);refine Ei (i:=0) (λj:Nat=>[I (j:Int)]) (λj h9=>j<=(b3.a.nd fb.node).AY.length/\∃G9,BX h9 bi a o5 c5 t G9 {b3 with a:=BS.Ci b3.a nw.node ((b3.a.nd fb.node).AY.take j)}/\DG {b3 with a:=BS.Ci b3.a nw.node ((b3.a.nd fb.node).AY.take j)}/\BQ {b3 with a:=BS.Ci b3.a nw.node ((b3.a.nd fb.node).AY.take j)} (m+7)/\De h8 (own bi G8) h9 (own bi G9)) (λj=>(b3.a.nd fb.node).AY.length-j)
   (λj h9=>j=(b3.a.nd fb.node).AY.length/\∃G9,BX h9 bi a o5 c5 t G9 {b3 with a:=BS.Ci b3.a nw.node ((b3.a.nd fb.node).AY.take j)}/\DG {b3 with a:=BS.Ci b3.a nw.node ((b3.a.nd fb.node).AY.take j)}/\BQ {b3 with a:=BS.Ci b3.a nw.node ((b3.a.nd fb.node).AY.take j)} (m+7)/\De h8 (own bi G8) h9 (own bi G9)) 0 rfl ⟨AR _,G8,w8,dz,qx,.refl⟩ ?_ ?_
  .rintro j h9 ⟨hj,G9,w9,jU,pV,x9⟩;rcases AT j (b3.a.nd fb.node).AY.length with hlt|D1
   .have e9:=AM.Bz (k:= .i64) pK hlt;obtain⟨VQ,G10,cq,Ss,pW⟩:=dD (x:=(b3.a.nd fb.node).AY[j]) (p:=nw.node) (bf:=0) w9 jU pV;have lej:=(LI (n:=nw.node) (l:=(b3.a.nd fb.node).AY.take j) dz.ok).2;rw[Sq (by show((BS.Ci b3.a nw.node ((b3.a.nd fb.node).AY.take j)).nd nw.node).kind=4;rw[lej.kind _ fr.has];exact fr.kind)] at Ss;have hs:BS.Ci b3.a nw.node ((b3.a.nd fb.node).AY.take (j+1))=(BS.Ci b3.a nw.node ((b3.a.nd fb.node).AY.take j)).Fe nw.node (b3.a.nd fb.node).AY[j] 0:=by rw[Av hlt,PI]
    rw[Cb] at e9;simp only[AB,Bi,show(j:Int)<((b3.a.nd fb.node).AY.length:Int) by omega,e9,cq.call,BF (show j<9223372036854775807 by omega)];refine .next (j+1) rfl ⟨hlt,G10,by rw[hs];exact Ss,?_,?_,x9.trans pW⟩ (by omega)
    .have:=jU.Jm (OX (p:=nw.node) (n:=(b3.a.nd fb.node).AY[j]) (b:=0) jU.ok) Nd;rw[hs];exact this
    .have:=pV.Jm (IZ (p:=nw.node) (x:=(b3.a.nd fb.node).AY[j]) (bf:=0));rw[hs];exact this
   .simp only[AB,Bi,show¬(j:Int)<((b3.a.nd fb.node).AY.length:Int) by omega];exact .Hv j rfl ⟨by omega,G9,w9,jU,pV,x9⟩
  .rintro j h9 ⟨rfl,G9,w9,jU,pV,x9⟩;rw[Bu] at w9 jU pV;have hl8:h.length<h8.length:=(Ah.1 st8).1;have hn9:¬own bi G9 h.length:=λhg=>by
    rcases x9.own h.length hg with hg|hg
    .exact hn8 hg
    .omega
   have st9:h9[h.length]?=_:=(x9.old h.length hl8 hn8).trans st8;have l9d:A6 h9 none (Pt h.length 9)=some (I fb.node):=At.load ⟨_,st9,rfl⟩;have le9:=(LI (n:=nw.node) (l:=(b3.a.nd fb.node).AY) dz.ok).2;have lef:Le b.a (BS.Ci b3.a nw.node (b3.a.nd fb.node).AY):=((le0.trans le2).trans le8).trans le9;obtain⟨VQ,G10,cq,Ss,pW⟩:=dD (x:=nw.node) (p:=fb.node) (bf:=0) w9 jU pV;rw[Sq (by show((BS.Ci b3.a nw.node (b3.a.nd fb.node).AY).nd fb.node).kind=4;rw[lef.kind _ tF.1];exact tF.2.1)] at Ss;have ZN:h.length<h9.length:=(Ah.1 st9).1;have aMc:¬own bi G10 h.length:=λhg=>by
    rcases pW.own h.length hg with hg|hg
    .exact hn9 hg
    .omega
   have aHf:VQ[h.length]?=_:=(pW.old h.length ZN hn9).trans st9;have l3c:A6 VQ none (Pt h.length 3)=some (I (q:Int)):=At.load ⟨_,aHf,rfl⟩;have aMd:=pV.Jm (IZ (p:=fb.node) (x:=nw.node) (bf:=0));have qy:BO ({b3 with a:=(BS.Ci b3.a nw.node (b3.a.nd fb.node).AY).Fe fb.node nw.node 0}:BS).A4 c5:=by simp only;rw[L8];exact i.hc
   have hqa:=i.rm.A4;obtain⟨ZL,U7,qz,q_,tG,rh,x11⟩:=pT Ss qy aMd aHf aMc (k:=q) (by simp only;rw[L8];exact hq) ⟨by omega,by omega⟩ ⟨by omega,by omega⟩;simp only at q_ tG;have l1:A6 ZL none (Pt h.length 1)=some (.str fe.c.name):=At.load ⟨_,rh,rfl⟩;have l2:A6 ZL none (Pt h.length 2)=some fe.v:=At.load ⟨_,rh,rfl⟩;have l4:A6 ZL none (Pt h.length 4)=some (I (down q (s'.2.2:Int))):=At.load ⟨_,rh,rfl⟩;obtain⟨fs2,aCr,UI⟩:=tG;have aRa:b3.A4.length=s'.1.A4.length:=by rw[L8]
   have aRb:fs2.length<=900000000:=by have h1:=Cd List.length aCr;rw[Ai,Gm (by rw[L8];exact hq)] at h1;omega
   have aL4:=Jn.2.1;obtain⟨u1,e2,he2,r15,NG⟩:=aLj (h:=ZL) (id:=bi) (o:=3) (l:=fs2) ⟨U7,q_.pL,UI⟩ (by omega) (e:=⟨{fe.c with node:=nw.node},fe.v,fe.ok⟩) (by unfold WQ;simp only;omega) (down q (s'.2.2:Int));have aMf:BI cx 120 [Pt bi 3,.agg [I nw.node,.str fe.c.name,fe.v],I (down q (s'.2.2:Int))] ZL (.tuple []) (put ZL bi 3 u1):=r15;obtain⟨Sr,TJ⟩:∃Sr:Nat,Sr=if q<s'.2.2 then s'.2.2 -1 else s'.2.2:=⟨_,rfl⟩
   have cm:down q (s'.2.2:Int)=(Sr:Int):=by rw[TJ];unfold down;split<;>split<;>omega
   have w12:=q_.Kf (u:=u1) (l:=(A7 b3.A4 q).take (Ck Sr (A7 b3.A4 q).length)++{fe.c with node:=nw.node}::(A7 b3.A4 q).drop (Ck Sr (A7 b3.A4 q).length));have rj:BO ((A7 b3.A4 q).take (Ck Sr (A7 b3.A4 q).length)++{fe.c with node:=nw.node}::(A7 b3.A4 q).drop (Ck Sr (A7 b3.A4 q).length)) u1:=by refine⟨_,?_,NG⟩;rw[cm,BH,Bl,HS,NP,aCr,he2,<-aCr,Ai]
   have hob:=i.rm.AO;obtain⟨u2,wv,Il⟩:=aB1 w12.sO (by simp only;rw[ho3];omega) fe.c.node;have w13:=w12.Ia Il;have eI:(CF fe.c.node b3.AO).length<=s'.1.AO.length:=by rw[<-ho3];exact Kb.length_le
   have aMg:(put (put ZL bi 3 u1) bi 2 u2)[h.length]?=_:=(B4 Wm).trans ((B4 Wm).trans rh);have l9e:A6 (put (put ZL bi 3 u1) bi 2 u2) none (Pt h.length 9)=some (I fb.node):=At.load ⟨_,aMg,rfl⟩;have r17:=WT w13.sA (by simp only;omega) fb.node;have hli: -1<=AJ (Bm fb.node) (CF fe.c.node b3.AO)/\AJ (Bm fb.node) (CF fe.c.node b3.AO)<=(CF fe.c.node b3.AO).length:=by rcases CP (q:=Bm fb.node) (l:=CF fe.c.node b3.AO) with⟨h,_⟩|⟨n,h1,h2,_⟩<;>omega
   have add:=OT (a:=AJ (Bm fb.node) (CF fe.c.node b3.AO)) (b:=1) (by omega) (by omega);obtain⟨u3,r18,qp⟩:=aK6 w13.sO (by simp only;omega) nw (AJ (Bm fb.node) (CF fe.c.node b3.AO)+1);have w14:=w13.Ia qp;simp only[AB,Nat.reduceLeDiff,↓reduceIte,AK,Bi,EB,l9d,cq.call,l3c,qz.call,l1,l2,tE,l4,aMf.call,wv.call,l9e,r17.call,add,r18.call];have hE:BS.FM fe.c fb.node an.node s'={b3 with a:=(BS.Ci b3.a nw.node (b3.a.nd fb.node).AY).Fe fb.node nw.node 0,A4:=(A7 b3.A4 q).take (Ck Sr (A7 b3.A4 q).length)++{fe.c with node:=nw.node}::(A7 b3.A4 q).drop (Ck Sr (A7 b3.A4 q).length),AO:=(CF fe.c.node b3.AO).take (En (AJ (Bm fb.node) (CF fe.c.node b3.AO)+1) (CF fe.c.node b3.AO).length)++nw::(CF fe.c.node b3.AO).drop (En (AJ (Bm fb.node) (CF fe.c.node b3.AO)+1) (CF fe.c.node b3.AO).length)}:=by
    have wZ:EE fe.c.node b3.A4=(q:Int):=by rw[L8];exact sU
    unfold BS.FM;simp only
    rw[<-MJ,<-uH,<-hnw,wZ,AQ,<-TJ]
   rw[hE];refine⟨_,rfl,rfl,u3,u1,G10,w14,rj,V0 (Ac _) ?_⟩;exact((((wq.trans (Ej (x9.trans pW) h.length)).trans x11).trans (Ej Be h.length)).trans (Ej Be h.length)).trans (Ej Be h.length)
 obtain⟨r,h',hr,rfl,o',c',G',w',JU,x'⟩:=Ik.ret;rw[e];exact⟨h',o',c',G',hr,w',JU,x'⟩
end
section
variable{h h':Ad}{bi a ai:Nat}{o c t:Aa}{G G' F:Nat->Prop}{b b':BS}{x:Int}{m:Nat}
variable{nm:Ap}{av:Aa}{l:List AU}{r:List Aa}{sp p:Int}{e:B3}{at_ mk last:Int}{anc far:Item}
theorem tH{blk anc:Int}{far i:Nat}{l:Int}{mk:Nat}:(BS.EL blk anc far i b l mk).1.AO.length<=b.AO.length:=by
 have h1:(A7 b.AO i).length<=b.AO.length:=CV.length_le;unfold BS.EL;simp only
 split;·exact h1
 .split;·exact h1
  .have MH:∀nm l p,(b.D8 nm l 1 p).AO=b.AO:=λnm l p=>by unfold BS.D8;rw[if_pos IQ]
   simp only[MH,Bj];exact Ac _
theorem X0{blk anc:Int}{far k m:Nat}:∀{c:Nat} {s:BS×Int×Nat},BQ s.1 (m+4*c)->BQ (BS.Jl blk anc far k c s).1 m/\(BS.Jl blk anc far k c s).1.AO.length<=s.1.AO.length
 |0,s,r=>⟨r.le (by omega),Ac _⟩
 |c+1,s,r=>by have r1:=Nl (blk:=blk) (anc:=anc) (far:=far) (i:=k+(c+1)) (l:=s.2.1) (mk:=s.2.2) (m:=m+4*c) (r.le (by omega));have h:=X0 (blk:=blk) (anc:=anc) (far:=far) (k:=k) (m:=m) (c:=c) (s:=BS.EL blk anc far (k+(c+1)) s.1 s.2.1 s.2.2) r1;exact⟨h.1,Bt h.2 tH⟩
theorem dP{fe:Cc}{blk anc:Int}{s:BS×Int×Nat}(r:BQ s.1 (m+4))(Jn:fe.name.length<=1000/\DA fe.Ax):BQ (BS.FM fe blk anc s) m/\(BS.FM fe blk anc s).AO.length<=s.1.AO.length+1:=by
 unfold BS.FM;simp only
 generalize XL:s.1.place anc=pb;have r1:=r.Jm (I0 (x:=s.2.1) (p:=pb.1) (bf:=pb.2));generalize MJ:({s.1 with a:=s.1.a.DZ s.2.1 pb.1 pb.2}:BS)=b2 at r1;have Wh:b2.AO=s.1.AO:=by rw[<-MJ]
 have r3:=H7 (m:=m+1) (nm:=fe.name) (l:=fe.Ax) (sp:=1) (p:=blk) (r1.le (by omega)) Jn.2;have MH:(b2.D8 fe.name fe.Ax 1 blk).AO=b2.AO:=by unfold BS.D8;rw[if_pos IQ]
 have hnw:(b2.FA fe.name fe.Ax 1).name.length<=1000:=Mz Jn.1;generalize b2.D8 fe.name fe.Ax 1 blk=b3 at*;generalize b2.FA fe.name fe.Ax 1=n at*;have r4:=r3.Jm ((PF (n:=n.node) (l:=(b3.a.nd blk).AY)).trans (IZ (p:=blk) (x:=n.node) (bf:=0)));have L7:∀{α:Type} (l:List α) (k:Nat) (y:α),(l.take k++y::l.drop k).length=l.length+1/\∀z∈l.take k++y::l.drop k,z∈l\/z=y:=λl k y=>⟨by rw[As,Bd,Al,A8];omega,λz hz=>by
  rcases Ao.1 hz with hz|hz
  .exact .inl (Bf hz)
  .rcases AL.1 hz with rfl|hz
   .exact .inr rfl
   .exact .inl (Bv hz)⟩
 have hr:=Kb (n:=fe.node) (l:=b3.AO);have hd:=CV (l:=b3.A4) (k:=(EE fe.node b3.A4).toNat);have r5:=r4.le (m':=m) (by omega);refine⟨⟨r5.n,r5.at_,r5.data,?_,?_,r5.tm,λe he=>?_,λi hi=>?_⟩,?_⟩;·simp only[(L7 _ _ _).1];have:=hr.length_le;have:=r3.AO;omega
 .simp only[(L7 _ _ _).1];have:=hd.length_le;have:=r3.A4;omega
 .rcases(L7 _ _ _).2 e he with he|rfl
  .exact r3.Dk e (hd.subset he)
  .exact Jn
 .rcases(L7 _ _ _).2 i hi with hi|rfl
  .exact r3.Wn i (hr.subset hi)
  .exact hnw
 .simp only[(L7 _ _ _).1];have h1:=hr.length_le;have h2:=Cd List.length (MH.trans Wh);omega
theorem Nn(r:BQ b (m+4*b.AO.length+10))(nm:Ap):BQ (b.round nm).2 m/\(b.round nm).2.AO.length<=b.AO.length+1:=by
 have r0:BQ b m:=r.le (by omega);unfold BS.round;simp only
 split
 .have key:(b.C0 nm).a=b.a/\List.Sublist (b.C0 nm).AO b.AO/\(b.C0 nm).A4=b.A4/\(b.C0 nm).tm=b.tm:=by
   unfold BS.C0;split
   .split;·exact⟨rfl,HO.trans EF,rfl,rfl⟩
    .exact⟨rfl,AX _,rfl,rfl⟩
   .exact⟨rfl,AX _,rfl,rfl⟩
  exact⟨r0.sub key.1 key.2.1 (by rw[key.2.2.1];exact AX _) (by rw[key.2.2.2];exact Ac _),Bt key.2.1.length_le (Gd _)⟩
 .rename_i hf;obtain⟨f,GG,ef⟩:=Rn (L6.1 hf);have Uf:b.A4.getD (FI nm b.A4).toNat Cc.zero=b.A4[f]:=by rw[ef,AQ,AE,Ae GG];rfl
  have Jn:=r.Dk _ (AI GG);rw[Uf];split;·exact⟨r0.sub rfl (AX _) CV (Ac _),Gd _⟩
  .split;·exact⟨r0,Gd _⟩
   .split;·exact⟨r0.sub rfl HO CV (Ac _),Bt HO.length_le (Gd _)⟩
    .rename_i hk _ hfa;have hlt:(Dz b.A4[f].node b.AO).toNat-1 -(AJ (Bm b.A4[f].node) b.AO).toNat<=b.AO.length:=by
      rw[HL];split;·omega
      .unfold Em;split;·rename_i j hj;have:=(Hz.1 hj).1;rw[A8] at this;omega
       .omega
     have h1:=X0 (blk:=(b.AO.getD (Dz b.A4[f].node b.AO).toNat Item.zero).node) (anc:=(b.AO.getD ((AJ (Bm b.A4[f].node) b.AO).toNat-1) Item.zero).node) (far:=(Dz b.A4[f].node b.AO).toNat) (k:=(AJ (Bm b.A4[f].node) b.AO).toNat) (m:=m+4) (c:=(Dz b.A4[f].node b.AO).toNat-1 -(AJ (Bm b.A4[f].node) b.AO).toNat) (s:=(b,(b.AO.getD (Dz b.A4[f].node b.AO).toNat Item.zero).node,(FI nm b.A4).toNat)) (r.le (by omega));have h2:=dP (fe:=b.A4[f]) (blk:=(b.AO.getD (Dz b.A4[f].node b.AO).toNat Item.zero).node) (anc:=(b.AO.getD ((AJ (Bm b.A4[f].node) b.AO).toNat-1) Item.zero).node) h1.1 Jn;exact⟨h2.1,Bt h2.2 (Nat.succ_le_succ h1.2)⟩
theorem Tb:∀{n:Nat} {b:BS} {k:Nat},b.AO.length<=k->BQ b (m+n*(4*(k+n)+10))->BQ (BS.DL n b nm) m/\(BS.DL n b nm).AO.length<=k+n
 |0,b,k,hk,r=>⟨r.le (by omega),hk⟩
 |n+1,b,k,hk,r=>by
  have e:(n+1)*(4*(k+(n+1))+10)=n*(4*(k+1+n)+10)+(4*(k+(n+1))+10):=by rw[BB,Ey,show k+(n+1)=k+1+n by omega]
  rw[e] at r;have h1:=Nn (m:=m+n*(4*(k+1+n)+10)) (r.le (by omega)) nm;unfold BS.DL;simp only
  split;·have h2:=Tb (n:=n) (k:=k+1) (by omega) h1.1;exact⟨h2.1,by omega⟩
  .exact⟨h1.1.le (by omega),by omega⟩
theorem aHh(w:BX h bi a o c t G b)(hc:BO b.A4 c)(ok:DG b)(rm:BQ b (m+8*(4*(b.AO.length+8)+10)))(nm:Ap):
  ∃h' o' c' G',BI cx 12 [Pt bi 0,.str nm] h (.tuple []) h'/\BX h' bi a o' c' t G' (b.FB nm)/\BO (b.FB nm).A4 c'/\De h (own bi G) h' (own bi G'):=by
 have ho:=rm.AO;have r1:=qk w rm;have em:Aw (.Bx 1) [.str nm]=some (.sl 1 ([nm].map CH)):=DE (ws:=[nm]) rfl (by simp);have r2:BI cx 36 [.agg (D7 b.AO).row,.sl 1 ([nm].map CH)] h (.bool (Bp [nm] (D7 b.AO))) h:=jN (ws:=[nm]) CQ (by simp) _ h;have r3:=hc.at w rm (D7 b.AO).node;have hpa:b.Qd.A4=b.A4:=by unfold BS.Qd;split<;>rfl
 by_cases h1:Bp [nm] (D7 b.AO)=true/\EE (D7 b.AO).node b.A4<0
 .obtain⟨h2,o2,r4,w2,x2⟩:=aGZ w rm;have e:b.FB nm=b.Qd:=by unfold BS.FB;rw[if_pos h1]
  rw[e];refine⟨h2,o2,c,G,?_,w2,by rw[hpa];exact hc,x2⟩;rw[h1.1] at r2;rw[Ab,iZ,t12];simp only[AB,Bi,EB,(Ho w).call,r1.call,em,r2.call,r3.call,h1.2,r4.call]
 have e:b.FB nm=BS.DL 8 b nm:=by unfold BS.FB;rw[if_neg h1]
 rw[e];have Ik:Ev cx 12 [Pt bi 0,.str nm] h λr h'=>r= .tuple []/\∃o' c' G',BX h' bi a o' c' t G' (BS.DL 8 b nm)/\BO (BS.DL 8 b nm).A4 c'/\De h (own bi G) h' (own bi G'):=by
  unfold Ev;rw[iZ,t12];have Hv:∀(Q:Post) (k:EK->List Aa->IT),(∀x vs h1,(x= .exit 0\/x= .ret)->(∃o' c' G',BX h1 bi a o' c' t G' (BS.DL 8 b nm)/\BO (BS.DL 8 b nm).A4 c'/\De h (own bi G) h1 (own bi G'))->W cx (k x vs) Q h1)->
    W cx (.loop 5 [I 0] (λc13=> .op (.int .lss) [g c13 0,I 8] λv14=> .AH v14 (.call 39 [Pt bi 0,.str nm] λv15=> .op (.un .not) [v15] λv16=> .AH v16 (.ret .ret [g c13 0]) (.op (.int .add) [g c13 0,I 1] λv17=> .ret .normal [v17])) (.ret (.exit 0) [g c13 0])) k) Q h:=by
   intro Q k hk;refine Bb (λn:Nat=>[I ((8 -n:Nat):Int)]) (λn h1=>n<=8/\∃o1 c1 G1 b1,BX h1 bi a o1 c1 t G1 b1/\BO b1.A4 c1/\DG b1/\BQ b1 (m+n*(4*(b.AO.length+8)+10))/\b1.AO.length<=b.AO.length+(8 -n)/\BS.DL 8 b nm=BS.DL n b1 nm/\De h (own bi G) h1 (own bi G1)) (λn=>n) 8 rfl ⟨Ac _,o,c,G,b,w,hc,ok,rm,by omega,rfl,.refl⟩ ?_;rintro n h1 ⟨hn,o1,c1,G1,b1,w1,O9,TG,jR,T3,e1,x1⟩;cases n with
   |zero=>simp only[AB,Bi,show¬((8 -0:Nat):Int)<8 by decide];exact hk _ _ _ (.inl rfl) ⟨o1,c1,G1,by rw[e1];exact w1,by rw[e1];exact O9,x1⟩
   |succ n=>
    have hsp:(n+1)*(4*(b.AO.length+8)+10)=n*(4*(b.AO.length+8)+10)+(4*(b.AO.length+8)+10):=by rw[BB,Ey]
    rw[hsp] at jR;have tI:BQ b1 (m+n*(4*(b.AO.length+8)+10)+4*b1.AO.length+10):=jR.le (by omega);obtain⟨h2,o2,c2,G2,r5,w2,HH,x2⟩:=aL6 w1 O9 TG tI nm;obtain⟨S9,Xv⟩:=Nn tI nm;have bt:=(VB (nm:=nm) TG).1;have hlt:((8 -(n+1):Nat):Int)<8:=by omega
    have inc:Aw (.int .add) [I ((8 -(n+1):Nat):Int),I 1]=some (I ((8 -n:Nat):Int)):=by have:=BF (n:=8 -(n+1)) (by omega);rwa [show 8 -(n+1)+1=8 -n by omega] at this
    have er:BS.DL (n+1) b1 nm=if(b1.round nm).1 then BS.DL n (b1.round nm).2 nm else(b1.round nm).2:=rfl
    cases hr:(b1.round nm).1 with
    |true=>rw[hr] at r5 er;simp only[AB,Bi,hlt,r5.call,inc];exact AF.next n rfl ⟨by omega,o2,c2,G2,_,w2,HH,bt,S9,by omega,e1.trans er,x1.trans x2⟩ (by omega)
    |false=>rw[hr] at r5 er;simp only[AB,Bi,hlt,r5.call];exact hk _ _ _ (.inr rfl) ⟨o2,c2,G2,by rw[e1,er];exact w2,by rw[e1,er];exact HH,x1.trans x2⟩
  by_cases h2:Bp [nm] (D7 b.AO)=true
  .have h3:¬EE (D7 b.AO).node b.A4<0:=λh=>h1 ⟨h2,h⟩;rw[h2] at r2;simp only[AB,Bi,EB,(Ho w).call,r1.call,em,r2.call,r3.call,h3];refine Hv _ _ ?_;rintro x vs h1 (rfl|rfl) ⟨o',c',G',a1,a2,a3⟩;·simp only[AB];exact⟨_,rfl,rfl,o',c',G',a1,a2,a3⟩
   .simp only[AB];exact⟨_,rfl,rfl,o',c',G',a1,a2,a3⟩
  .have h2:Bp [nm] (D7 b.AO)=false:=by simpa using h2
   rw[h2] at r2;simp only[AB,Bi,EB,(Ho w).call,r1.call,em,r2.call];refine Hv _ _ ?_;rintro x vs h1 (rfl|rfl) ⟨o',c',G',a1,a2,a3⟩;·simp only[AB];exact⟨_,rfl,rfl,o',c',G',a1,a2,a3⟩
   .simp only[AB];exact⟨_,rfl,rfl,o',c',G',a1,a2,a3⟩
 obtain⟨r,h',hr,rfl,o',c',G',w',JU,x'⟩:=Ik.ret;exact⟨h',o',c',G',hr,w',JU,x'⟩
end
structure ZP where
 k:Int
 name:Ap
 Ax:List AU
 AZ:Int
 a:Int
 b:Bool
 s:Ap
 r:Int
 n:Int
def MB(h:Int):Item:=⟨h,0,[],false⟩
noncomputable def TK(b:BS)(q:ZP):BS×Item:=
 if q.k=1 then(b.Ex q.name q.Ax 1,MB (b.a.len+1))
 else if q.k=2 then(b.Ex q.name q.Ax q.AZ,MB (b.Ow q.AZ))
 else if q.k=3 then(b.Jd q.name q.Ax,MB (b.a.len+1))
 else if q.k=4 then(b.iK q.r,Item.zero)
 else if q.k=5 then(b.JY q.s q.a,Item.zero)
 else if q.k=6 then(b.OY q.name q.Ax q.n,Item.zero)
 else if q.k=7 then(b.IL,Item.zero)
 else if q.k=8 then(b.Dv,Item.zero)
 else if q.k=9 then(b.C0 q.name,Item.zero)
 else if q.k=10 then(b.FB q.name,Item.zero)
 else if q.k=11 then(b.HN,Item.zero)
 else if q.k=12 then(b.GB q.Ax q.a,Item.zero)
 else if q.k=13 then(b.C5,Item.zero)
 else if q.k=14 then({b with stop:=true},Item.zero)
 else if q.k=15 then({b with Eh:=q.b},Item.zero)
 else if q.k=16 then({b with tm:=b.tm++[q.n]},Item.zero)
 else if q.k=17 then({b with A4:=b.A4++[Cc.zero]},Item.zero)
 else if q.k=18 then(b.Qd,b.iL)
 else if q.k=19 then({b with head:=q.a},Item.zero)
 else if q.k=20 then({b with mode:=q.n},Item.zero)
 else if q.k=21 then({b with A4:=Fz b.A4},Item.zero)
 else if q.k=22 then({b with AO:=Dr CC (Bp [q.name]) b.AO},Item.zero)
 else if q.k=23 then({b with L0:=q.a},Item.zero)
 else if q.k=24 then(b.D8 q.name q.Ax q.AZ q.a,b.FA q.name q.Ax q.AZ)
 else(b,Item.zero)
structure uO(q:ZP):Prop where
 name:q.name.length<=1000
 Ax:DA q.Ax
 s:q.s.length<=1000
 r: -2147483648<=q.r/\q.r<=2147483647
section
variable{b:BS}{q:ZP}{m j:Nat}
theorem aCu(o:DG b){nm:Ap}{l:List AU}{sp p:Int}:DG (b.D8 nm l sp p):=by
 by_cases hs:BS.Hn sp;·exact(Mw o hs).1
 .unfold BS.D8;rw[if_neg hs];exact o
theorem rl(o:DG b):DG {b with A4:=b.A4++[Cc.zero]}:=by have:=o.R_ (e:=Cc.zero) (k:=b.A4.length) (.inl rfl) (.inl rfl);rw[Bu,Fm] at this;exact this
theorem ite_all{α:Type}{P:α->Prop}{c:Prop}[Decidable c]{x y:α}(h1:P x)(h2:P y):P (if c then x else y):=by split;exact h1;exact h2
theorem doB_case{P:BS×Item->Prop}(h1:P (b.Ex q.name q.Ax 1,MB (b.a.len+1)))(h2:P (b.Ex q.name q.Ax q.AZ,MB (b.Ow q.AZ)))(h3:P (b.Jd q.name q.Ax,MB (b.a.len+1)))(h4:P (b.iK q.r,Item.zero))(h5:P (b.JY q.s q.a,Item.zero))(h6:P (b.OY q.name q.Ax q.n,Item.zero))(h7:P (b.IL,Item.zero))(h8:P (b.Dv,Item.zero))(h9:P (b.C0 q.name,Item.zero))(VQ:P (b.FB q.name,Item.zero))(ZL:P (b.HN,Item.zero))(h12:P (b.GB q.Ax q.a,Item.zero))(h13:P (b.C5,Item.zero))(h14:P ({b with stop:=true},Item.zero))(h15:P ({b with Eh:=q.b},Item.zero))(h16:P ({b with tm:=b.tm++[q.n]},Item.zero))(h17:P ({b with A4:=b.A4++[Cc.zero]},Item.zero))(h18:P (b.Qd,b.iL))(h19:P ({b with head:=q.a},Item.zero))(h20:P ({b with mode:=q.n},Item.zero))(h21:P ({b with A4:=Fz b.A4},Item.zero))(h22:P ({b with AO:=Dr CC (Bp [q.name]) b.AO},Item.zero))(h23:P ({b with L0:=q.a},Item.zero))(h24:P (b.D8 q.name q.Ax q.AZ q.a,b.FA q.name q.Ax q.AZ))(h0:P (b,Item.zero)):P (TK b q):=by unfold TK;exact ite_all h1 (ite_all h2 (ite_all h3 (ite_all h4 (ite_all h5 (ite_all h6 (ite_all h7 (ite_all h8 (ite_all h9 (ite_all VQ (ite_all ZL (ite_all h12 (ite_all h13 (ite_all h14 (ite_all h15 (ite_all h16 (ite_all h17 (ite_all h18 (ite_all h19 (ite_all h20 (ite_all h21 (ite_all h22 (ite_all h23 (ite_all h24 (h0))))))))))))))))))))))))
theorem aCv(o:DG b):DG (TK b q).1:=doB_case (P:=λr=>DG r.1) (Qe (nm:=q.name) (at_:=q.Ax) (sp:=1) o) (Qe o) (sF o) (js o) (iV o) (iW o) (sH o) (iX o) (XK o) (sJ o) (Re o) (yO o) (Vz o) (o.of_eq rfl rfl rfl rfl) (o.of_eq rfl rfl rfl rfl) (o.of_eq rfl rfl rfl rfl) (rl o) (yP o) (o.of_eq rfl rfl rfl rfl) (o.of_eq rfl rfl rfl rfl) (o.iQ (EV _ _)) (o.YW EF) (o.of_eq rfl rfl rfl rfl) (aCu o) o
theorem BQ.pX{k m:Nat}{h:Int}{x:Eg}(r:BQ b (m+k))(h1:x.Ax.length<=(b.a.nd h).Ax.length+k\/x.Ax.length<=1000)(h2:x.data.length<=(b.a.nd h).data.length+k\/x.data.length<=100000):BQ {b with a:=b.a.set h x} m:=by
 have hn:(b.a.set h x).n.length=b.a.n.length:=by have:=je (A:=b.a) (h:=h) (x:=x);unfold Ar.len at this;omega
 have r0:=r.le (m':=m) (by omega);have rn:=r.n;refine⟨by simp only;rw[hn];exact r0.n,λy=>?_,λy=>?_,r0.AO,r0.A4,r0.tm,r0.Dk,r0.Wn⟩
 .simp only;rw[IK];split;·rename_i hh;have:=r.at_ h;omega
  .exact r0.at_ y
 .simp only;rw[IK];split;·have:=r.data h;omega
  .exact r0.data y
theorem dQ{m:Nat}{s:Ap}{p bf:Int}(r:BQ b (m+5))(hs:s.length<=4):BQ {b with a:=BS.Ku b.a s p bf} m:=by
 have Mh:∀d,BQ {b with a:=(b.a.add {kind:=5,Cy:=d,data:=s}).DZ (b.a.len+1) p bf} m:=λd=>((r.le (m':=m+1) (by omega)).FE (My (AR _) (by simp only;omega))).Jm I0
 have r0:=r.le (m':=m) (by omega);unfold BS.Ku;split
 .split
  .split;·exact BQ.pX (k:=5) r (.inl (by simp only;omega)) (.inl (by simp only[As];omega))
   .exact Mh _
  .exact Mh _
 .exact r0
theorem Oz{m:Nat}{s:Ap}{p bf:Int}(r:BQ b (m+5))(hs:s.length<=100000):BQ {b with a:=BS.Eo b.a s p bf} m:=by
 unfold BS.Eo;split;·exact((r.le (m':=m+1) (by omega)).FE (My (AR _) hs)).Jm I0
 .exact r.le (by omega)
end
section
variable{b:BS}{q:ZP}{m j:Nat}{nm:Ap}
theorem jV{l:List AU}{x:Int}(r:BQ b (m+1000))(hl:l.length<=1000):BQ (b.GB l x) m:=by
 unfold BS.GB;split;·refine BQ.pX (k:=1000) r (.inl ?_) (.inl (by simp only;omega));have:=OW (l:=(b.a.nd x).Ax++BS.plain l);rw[As,BS.plain,Ai] at this;unfold BS.plain;simp only;omega
 .exact r.le (by omega)
theorem X1:∀{l:List Cc} {b:BS},(BS.Iv l b).2.AO.length<=b.AO.length+l.length/\(BS.Iv l b).2.A4=b.A4/\(BS.Iv l b).1.length=l.length/\∀e∈(BS.Iv l b).1,∃e'∈l,e.name=e'.name/\e.Ax=e'.Ax
 |[],b=>⟨by simp[BS.Iv],rfl,rfl,λe he=>by simp[BS.Iv] at he⟩
 |e::l,b=>by
  obtain⟨h1,h2,h3,h4⟩:=X1 (l:=l) (b:=b.Ex e.name e.Ax 1);have h5:(b.Ex e.name e.Ax 1).AO.length<=b.AO.length+1:=by
   unfold BS.Ex;rw[if_pos IQ];simp only
   have:(b.D8 e.name e.Ax 1 (b.place 0).1).AO=b.AO:=by unfold BS.D8;rw[if_pos IQ]
   rw[As,Br];first|(rw[this];exact Ac _)|exact Ac _
  rw[BS.Iv];refine⟨by simp only[Bd];omega,by simp only;rw[h2,FC],by simp only[Bd,h3],λe1 he=>?_⟩;rcases AL.1 he with rfl|he
  .exact⟨e,by simp,rfl,rfl⟩
  .obtain⟨e',h6,h7⟩:=h4 e1 he;exact⟨e',by simp[h6],h7⟩
theorem Zx(r:BQ b (m+4*b.A4.length)):BQ b.Dv m/\b.Dv.AO.length<=b.AO.length+b.A4.length/\b.Dv.A4.length=b.A4.length:=by
 have hk:=Rl (b:=b);have r1:=XW (l:=b.A4.drop b.Ka) (b:=b) (m:=m) (r.le (by rw[A8];omega)) λe he=>r.Dk e (Bv he);obtain⟨h1,h2,h3,h4⟩:=X1 (l:=b.A4.drop b.Ka) (b:=b);rw[A8] at h1 h3;have hl:b.Dv.A4.length=b.A4.length:=by unfold BS.Dv;simp only[As,Al,h3];omega
 refine⟨⟨r1.n,r1.at_,r1.data,r1.AO,?_,r1.tm,λe he=>?_,r1.Wn⟩,by unfold BS.Dv;simp only;omega,hl⟩;·rw[hl];have:=r.A4;omega
 .unfold BS.Dv at he;simp only at he;rcases Ao.1 he with he|he
  .exact r.Dk e (Bf he)
  .obtain⟨e',h5,h6,h7⟩:=h4 e he;rw[h6,h7];exact r.Dk e' (Bv h5)
theorem dR{blk anc:Int}{far k:Nat}:∀{c:Nat} {s:BS×Int×Nat},(BS.Jl blk anc far k c s).1.A4.length<=s.1.A4.length
 |0,s=>Ac _
 |c+1,s=>by
  refine Bt (dR (c:=c)) ?_;unfold BS.EL;simp only
  split;·exact Ac _
  .split;·exact CV.length_le
   .have:∀nm l p,(s.1.D8 nm l 1 p).A4=s.1.A4:=λnm l p=>by unfold BS.D8;rw[if_pos IQ]
    simp only[this,Bj];exact Ac _
theorem tJ:(b.round nm).2.A4.length<=b.A4.length+1:=by
 unfold BS.round;simp only
 split
 .have:(b.C0 nm).A4=b.A4:=by
   unfold BS.C0;split;·split<;>rfl
   .rfl
  rw[this];omega
 .split;·exact Bt CV.length_le (Gd _)
  .split;·exact Gd _
   .split;·exact Bt CV.length_le (Gd _)
    .unfold BS.FM;simp only
     generalize hs:BS.Jl _ _ _ _ _ _=s;have h1:s.1.A4.length<=b.A4.length:=by rw[<-hs];exact dR
     have:∀(b2:BS) nm l p,(b2.D8 nm l 1 p).A4=b2.A4:=λb2 nm l p=>by unfold BS.D8;rw[if_pos IQ]
     simp only[this,As,Bd,Al,A8];have h2:∀k,(A7 s.1.A4 k).length<=s.1.A4.length:=λk=>CV.length_le;refine Bt (m:=(A7 s.1.A4 (EE (b.A4.getD (FI nm b.A4).toNat Cc.zero).node s.1.A4).toNat).length+1) ?_ (Nat.succ_le_succ (Bt (h2 _) h1));omega
theorem V4:∀{n:Nat} {b:BS},(BS.DL n b nm).A4.length<=b.A4.length+n
 |0,b=>Ac _
 |n+1,b=>by
  have h:=tJ (b:=b) (nm:=nm);unfold BS.DL;simp only
  split;·have:=V4 (n:=n) (b:=(b.round nm).2);omega
  .omega
structure Sz(b:BS)(j:Nat):Prop where
 rm:BQ b (5000000*j)
 AO:b.AO.length+1200*j<=125000
 A4:b.A4.length+10*j<=1100
theorem Sz.of{b':BS}(h:Sz b (j+1))(r:BQ b' (5000000*j))(h1:b'.AO.length<=b.AO.length+1200)(h2:b'.A4.length<=b.A4.length+10):Sz b' j:=⟨r,by have:=h.AO;omega,by have:=h.A4;omega⟩
theorem Sz.V5{k:Nat}(h:Sz b (j+1))(hk:k<=5000000:=by omega):BQ b (5000000*j+k):=h.rm.le (by omega)
theorem Sz.NL{b':BS}(h:Sz b (j+1))(ha:b'.a=b.a)(ho:b'.AO.Sublist b.AO)(hc:b'.A4.Sublist b.A4)(ht:b'.tm.length<=b.tm.length):Sz b' j:=
 h.of ((h.rm.le (by omega)).sub ha ho hc ht) (by have:=ho.length_le;omega) (by have:=hc.length_le;omega)
theorem Sz.Qd(h:Sz b (j+1)):Sz b.Qd j:=by
 unfold BS.Qd;split;·exact h.NL rfl (AX _) (AX _) (Ac _)
 .exact h.NL rfl (EV _ _) (AX _) (Ac _)
theorem Ro{l:List AU}{sp:Int}:(b.Ex nm l sp).AO.length<=b.AO.length+1200:=by
 unfold BS.Ex;split
 .rename_i hs;have:(b.D8 nm l sp (b.place 0).1).AO=b.AO:=by unfold BS.D8;rw[if_pos hs]
  have:=Cd List.length this;simp only[As,Br];omega
 .omega
theorem jW{l:List AU}:(b.Jd nm l).A4.length<=b.A4.length+10:=by
 unfold BS.Jd;simp only
 obtain⟨l',h1,h2⟩:=Vy (l:=(b.Ex nm l 1).A4) (e:=⟨b.a.len+1,nm,l⟩);rw[h2,As,Br];have:=h1.length_le;rw[FC] at this;omega
theorem aCw(h:Sz b (j+1))(hq:uO q):Sz (TK b q).1 j:=doB_case (P:=λr=>Sz r.1 j)
 (h.of (Ld (sp:=1) h.V5 hq.Ax hq.name) Ro (by rw[FC];omega))
 (h.of (Ld h.V5 hq.Ax hq.name) Ro (by rw[FC];omega))
 (h.of (cT h.V5 hq.Ax hq.name) Ro jW)
 (h.of (dQ h.V5 (VY _)) (Ic _ _) (Ic _ _))
 (by
  dsimp only;unfold BS.JY;split;·exact h.of (Oz h.V5 (by have:=hq.s;omega)) (Ic _ _) (Ic _ _)
  .exact h.of (Oz h.V5 (by have:=hq.s;omega)) (Ic _ _) (Ic _ _))
 (h.of ((Ld h.V5 hq.Ax hq.name).eq rfl rfl rfl rfl) Ro (by show(b.Ex q.name q.Ax 1).A4.length<=_;rw[FC];omega))
 (by
  dsimp only;unfold BS.IL;split;·exact h.NL rfl (EF.trans EF) (AX _) (Ac _)
  .exact h.NL rfl (AX _) (AX _) (Ac _))
 (by dsimp only;have h1:=Zx (m:=5000000*j) (h.rm.le (by have:=h.A4;omega));exact h.of h1.1 (by have:=h.A4;have:=h1.2.1;omega) (by rw[h1.2.2];omega))
 (by
  dsimp only;unfold BS.C0;split
  .split;·exact h.NL rfl (HO.trans EF) (AX _) (Ac _)
   .exact h.NL rfl (AX _) (AX _) (Ac _)
  .exact h.NL rfl (AX _) (AX _) (Ac _))
 (by
  dsimp only;unfold BS.FB;split;·exact h.Qd
  .have h1:=Tb (n:=8) (b:=b) (k:=b.AO.length) (nm:=q.name) (m:=5000000*j) (Ac _) (h.rm.le (by have:=h.AO;omega));exact h.of h1.1 (by have:=h1.2;omega) (by have:=V4 (n:=8) (b:=b) (nm:=q.name);omega))
 (h.NL rfl (AX _) (AX _) (Ac _))
 (by
  dsimp only;have e:(b.GB q.Ax q.a).AO=b.AO/\(b.GB q.Ax q.a).A4=b.A4:=by unfold BS.GB;split<;>exact⟨rfl,rfl⟩
  exact h.of (jV (m:=5000000*j) (h.rm.le (by omega)) hq.Ax.1) (by rw[e.1];omega) (by rw[e.2];omega))
 (by
  dsimp only;unfold BS.C5;split;·exact h.NL rfl (AX _) (AX _) (Ac _)
  .exact h.NL rfl (show(Dr CC (Bp [A5]) (Dr Cs CC b.AO)).Sublist b.AO from EF.trans EF) (EV _ _) (show b.tm.dropLast.length<=b.tm.length by simp))
 (h.NL rfl (AX _) (AX _) (Ac _))
 (h.NL rfl (AX _) (AX _) (Ac _))
 (by dsimp only;have r:=h.rm.le (m':=5000000*j+1) (by omega);have r0:=r.le (m':=5000000*j) (by omega);exact h.of ⟨r0.n,r0.at_,r0.data,r0.AO,r0.A4,by have:=r.tm;simp only[As,Br];omega,r0.Dk,r0.Wn⟩ (Ic _ _) (Ic _ _))
 (by
  dsimp only;refine h.of ((h.rm.le (m':=5000000*j+1) (by omega)).ve (e:=Cc.zero) (by simp) (λe he=>?_) ⟨by decide,by decide,λa ha=>by cases ha⟩) (Ic _ _) (by simp);rcases Ao.1 he with he|he
  .exact .inl he
  .exact .inr (by simpa using he))
 (h.Qd)
 (h.NL rfl (AX _) (AX _) (Ac _))
 (h.NL rfl (AX _) (AX _) (Ac _))
 (h.NL rfl (AX _) (EV _ _) (Ac _))
 (h.NL rfl EF (AX _) (Ac _))
 (h.NL rfl (AX _) (AX _) (Ac _))
 (by
  dsimp only;have e:(b.D8 q.name q.Ax q.AZ q.a).AO=b.AO/\(b.D8 q.name q.Ax q.AZ q.a).A4=b.A4:=by unfold BS.D8;split<;>exact⟨rfl,rfl⟩
  exact h.of (H7 (m:=5000000*j) (h.rm.le (by omega)) hq.Ax) (by rw[e.1];omega) (by rw[e.2];omega))
 (h.NL rfl (AX _) (AX _) (Ac _))
end
def Kx(q:ZP)(av:Aa):List Aa:=[I q.k,.str q.name,av,I q.AZ,I q.a,.bool q.b,.str q.s,.int .i32 q.r,I q.n]
section
variable{h h':Ad}{bi a:Nat}{o c t:Aa}{G G' F:Nat->Prop}{b:BS}{x:Int}{m j:Nat}{q:ZP}
variable{nm:Ap}{av:Aa}{l:List AU}{r:List Aa}{sp p:Int}
theorem TL(hv:Bw q.Ax av)(hl:q.Ax.length<=1000)(h:Ad):∃r jX,BI cx 71 [.agg (Kx q av)] h (.agg r) h/\Nj q.name jX r/\Bw q.Ax jX:=by have bF:AS=140737488355328:=rfl;obtain⟨u,e,hu⟩:=AM.Gj (b:=40) hv (by omega);have hc:u.cells=[u]:=AM.cells hu;refine⟨_,u,?_,⟨I 2,ff,S [],ff,S [],ff,ff,ff,S [],.int .i32 0,rfl⟩,hu⟩;rw[Ab,aAo,t71,Kx];simp only[AB,Nat.reduceLeDiff,↓reduceIte,AK,Bi,e,hc]
theorem rp(i:Item)(h:Ad):BI cx 16 [.agg i.row] h (.agg i.row) h:=by rw[Ab,W_,t16,Item.row];simp only[AB,Nat.reduceLeDiff,↓reduceIte,AK,Bi]
set_option maxHeartbeats 4000000 in
theorem aMi(w:BX h bi a o c t G b)(hc:BO b.A4 c)(ok:DG b)(sz:Sz b (j+1))(hq:uO q)(hv:Bw q.Ax av):
  ∃h' o' c' t' G',BI cx 30 [Pt bi 0,.agg (Kx q av)] h (.agg (TK b q).2.row) h'/\BX h' bi a o' c' t' G' (TK b q).1/\BO (TK b q).1.A4 c'/\De h (own bi G) h' (own bi G'):=by
 unfold TK Kx;by_cases k1:q.k=1;·rw[if_pos k1];dsimp only;obtain⟨r,jX,r1,hr,Du⟩:=TL (q:=q) hv hq.Ax.1 h;rw[Kx] at r1;obtain⟨h',o',G',r2,w',x'⟩:=qm (m:=5000000*j) w ok sz.V5 hr Du hq.Ax hq.name;refine⟨h',o',c,t,G',?_,w',by rw[FC];exact hc,x'⟩;rw[Ab,E1,S6];simp only[AB,Nat.reduceLeDiff,↓reduceIte,AK,Bi,AW k1,r1.call,r2.call];try rfl
 rw[if_neg k1];by_cases k2:q.k=2;·rw[if_pos k2];dsimp only;obtain⟨r,jX,r1,hr,Du⟩:=TL (q:=q) hv hq.Ax.1 h;rw[Kx] at r1;obtain⟨h',o',G',r2,w',x'⟩:=aGH (m:=5000000*j) w ok sz.V5 hr Du hq.Ax hq.name q.AZ;refine⟨h',o',c,t,G',?_,w',by rw[FC];exact hc,x'⟩;rw[Ab,E1,S6];simp only[AB,Nat.reduceLeDiff,↓reduceIte,AK,Bi,k1,AW k2,r1.call,r2.call];try rfl
 rw[if_neg k2];by_cases k3:q.k=3;·rw[if_pos k3];dsimp only;obtain⟨r,jX,r1,hr,Du⟩:=TL (q:=q) hv hq.Ax.1 h;rw[Kx] at r1;obtain⟨h',o',c',G',r2,w',JU,x'⟩:=aLI (m:=5000000*j) w hc ok sz.V5 hr Du hq.Ax hq.name;refine⟨h',o',c',t,G',?_,w',JU,x'⟩;rw[Ab,E1,S6];simp only[AB,Nat.reduceLeDiff,↓reduceIte,AK,Bi,k1,k2,AW k3,r1.call,r2.call];try rfl
 rw[if_neg k3];by_cases k4:q.k=4;·rw[if_pos k4];dsimp only;obtain⟨h',G',r2,w',x'⟩:=aLK (m:=5000000*j) w ok sz.V5 q.r hq.r;refine⟨h',o,c,t,G',?_,w',hc,x'⟩;rw[Ab,E1,S6];simp only[AB,↓reduceIte,AK,Bi,k1,k2,k3,AW k4,r2.call];try rfl
 rw[if_neg k4];by_cases k5:q.k=5;·rw[if_pos k5];dsimp only;obtain⟨h',G',r2,w',x'⟩:=aLN (m:=5000000*j) w ok sz.V5 q.s (by have:=hq.s;omega) q.a;refine⟨h',o,c,t,G',?_,w',hc,x'⟩;rw[Ab,E1,S6];simp only[AB,↓reduceIte,AK,Bi,k1,k2,k3,k4,AW k5,r2.call];try rfl
 rw[if_neg k5];by_cases k6:q.k=6;·rw[if_pos k6];dsimp only;obtain⟨r,jX,r1,hr,Du⟩:=TL (q:=q) hv hq.Ax.1 h;rw[Kx] at r1;obtain⟨h',o',G',r2,w',x'⟩:=aLO (m:=5000000*j) w ok sz.V5 hr Du hq.Ax hq.name q.n;refine⟨h',o',c,t,G',?_,w',by show BO (b.Ex q.name q.Ax 1).A4 c;rw[FC];exact hc,x'⟩;rw[Ab,E1,S6];simp only[AB,↓reduceIte,AK,Bi,k1,k2,k3,k4,k5,AW k6,r1.call,r2.call];try rfl
 rw[if_neg k6];by_cases k7:q.k=7;·rw[if_pos k7];dsimp only;obtain⟨h',o',r2,w',x'⟩:=aLP w sz.rm;refine⟨h',o',c,t,G,?_,w',by have e:b.IL.A4=b.A4:=(by unfold BS.IL;split<;>rfl);rw[e];exact hc,x'⟩;rw[Ab,E1,S6];simp only[AB,↓reduceIte,AK,Bi,k1,k2,k3,k4,k5,k6,AW k7,r2.call];try rfl
 rw[if_neg k7];by_cases k8:q.k=8;·rw[if_pos k8];dsimp only;obtain⟨h',o',c',G',r2,w',JU,x'⟩:=aLV (m:=5000000*j) w hc ok (sz.rm.le (by have:=sz.A4;omega));refine⟨h',o',c',t,G',?_,w',JU,x'⟩;rw[Ab,E1,S6];simp only[AB,↓reduceIte,AK,Bi,k1,k2,k3,k4,k5,k6,k7,AW k8,r2.call];try rfl
 rw[if_neg k8];by_cases k9:q.k=9;·rw[if_pos k9];dsimp only;obtain⟨h',o',r2,w',x'⟩:=aGQ w sz.rm q.name;refine⟨h',o',c,t,G,?_,w',by have e:(b.C0 q.name).A4=b.A4:=(by unfold BS.C0;split;split<;>rfl;rfl);rw[e];exact hc,x'⟩;rw[Ab,E1,S6];simp only[AB,↓reduceIte,AK,Bi,k1,k2,k3,k4,k5,k6,k7,k8,AW k9,r2.call];try rfl
 rw[if_neg k9];by_cases NM:q.k=10;·rw[if_pos NM];dsimp only;obtain⟨h',o',c',G',r2,w',JU,x'⟩:=aHh (m:=5000000*j) w hc ok (sz.rm.le (by have:=sz.AO;omega)) q.name;refine⟨h',o',c',t,G',?_,w',JU,x'⟩;rw[Ab,E1,S6];simp only[AB,↓reduceIte,AK,Bi,k1,k2,k3,k4,k5,k6,k7,k8,k9,AW NM,r2.call];try rfl
 rw[if_neg NM];by_cases OA:q.k=11;·rw[if_pos OA];dsimp only;obtain⟨h',r2,w',x'⟩:=qo w sz.rm;refine⟨h',o,c,t,G,?_,w',hc,x'⟩;rw[Ab,E1,S6];simp only[AB,↓reduceIte,AK,Bi,k1,k2,k3,k4,k5,k6,k7,k8,k9,NM,AW OA,r2.call];try rfl
 rw[if_neg OA];by_cases Pd:q.k=12;·rw[if_pos Pd];dsimp only;obtain⟨r,jX,r1,hr,Du⟩:=TL (q:=q) hv hq.Ax.1 h;rw[Kx] at r1;obtain⟨h',G',r2,w',x'⟩:=aLQ (m:=5000000*j) w ok sz.V5 hr Du hq.Ax q.a;refine⟨h',o,c,t,G',?_,w',by have e:(b.GB q.Ax q.a).A4=b.A4:=(by unfold BS.GB;split<;>rfl);rw[e];exact hc,x'⟩;rw[Ab,E1,S6];simp only[AB,↓reduceIte,AK,Bi,k1,k2,k3,k4,k5,k6,k7,k8,k9,NM,OA,AW Pd,r1.call,r2.call];try rfl
 rw[if_neg Pd];by_cases Qj:q.k=13;·rw[if_pos Qj];dsimp only;obtain⟨h',o',c',t',r2,w',JU,x'⟩:=aLR w hc sz.rm;refine⟨h',o',c',t',G,?_,w',JU,x'⟩;rw[Ab,E1,S6];simp only[AB,↓reduceIte,AK,Bi,k1,k2,k3,k4,k5,k6,k7,k8,k9,NM,OA,Pd,AW Qj,r2.call];try rfl
 rw[if_neg Qj];by_cases Pe:q.k=14;·rw[if_pos Pe];dsimp only;obtain⟨h',r2,w',x'⟩:=aLT w;refine⟨h',o,c,t,G,?_,w',hc,x'⟩;rw[Ab,E1,S6];simp only[AB,↓reduceIte,AK,Bi,k1,k2,k3,k4,k5,k6,k7,k8,k9,NM,OA,Pd,Qj,AW Pe,r2.call];try rfl
 rw[if_neg Pe];by_cases Qk:q.k=15;·rw[if_pos Qk];dsimp only;have w':BX (put h bi 15 (.bool q.b)) bi a o c t G {b with Eh:=q.b}:=w.put rfl rfl w.o w.t;refine⟨put h bi 15 (.bool q.b),o,c,t,G,?_,w',hc,Be⟩;rw[Ab,E1,S6];simp only[AB,↓reduceIte,AK,Bi,k1,k2,k3,k4,k5,k6,k7,k8,k9,NM,OA,Pd,Qj,Pe,AW Qk,w.st (k:=15) (v:= .bool q.b) rfl rfl];try rfl
 rw[if_neg Qk];by_cases Rp:q.k=16;·rw[if_pos Rp];dsimp only;have htm:=sz.rm.tm;have bF:AS=140737488355328:=rfl;obtain⟨u,e1,hu⟩:=AM.Gj (b:=8) w.t (by omega);have e2:=AM.Jb (b:=8) (a:=q.n) hu (by omega);have em:Aw (.Bx 1) [I q.n]=some (.sl 1 [Cb q.n]):=rfl;have Il:Dg (b.tm++[q.n]) (.sl 1 ((b.tm++[q.n]).map Cb)):= .mk;have w':=w.jQ Il;refine⟨put h bi 6 (.sl 1 ((b.tm++[q.n]).map Cb)),o,c,_,G,?_,w',hc,Be⟩;rw[Ab,E1,S6];simp only[AB,↓reduceIte,AK,Bi,k1,k2,k3,k4,k5,k6,k7,k8,k9,NM,OA,Pd,Qj,Pe,Qk,AW Rp,w.l6,e1,em,e2,w.st (k:=6) (v0:=t) rfl (AM.cells Il)];try rfl
 rw[if_neg Rp];by_cases Su:q.k=17;·rw[if_pos Su];dsimp only;have Ry:=sz.rm.A4;obtain⟨fs,Gn,UI⟩:=hc;obtain⟨u,r2,hu⟩:=f63 (h:=h) (id:=bi) (o:=3) (l:=fs) ⟨c,w.pL,UI⟩ (by rw[<-Gn,Ai] at Ry;omega);have w':=w.Kf (u:=u) (l:=b.A4++[Cc.zero]);have JU:BO (b.A4++[Cc.zero]) u:=⟨_,by rw[BH,Gn];rfl,hu⟩;refine⟨put h bi 3 u,o,u,t,G,?_,w',JU,Be⟩;rw[Ab,E1,S6];simp only[AB,↓reduceIte,AK,Bi,k1,k2,k3,k4,k5,k6,k7,k8,k9,NM,OA,Pd,Qj,Pe,Qk,Rp,AW Su,r2.call];try rfl
 rw[if_neg Su];by_cases TM:q.k=18;·rw[if_pos TM];dsimp only;obtain⟨h',o',r2,w',x'⟩:=aGZ w sz.rm;have r3:=rp b.iL h';refine⟨h',o',c,t,G,?_,w',by have e:b.Qd.A4=b.A4:=(by unfold BS.Qd;split<;>rfl);rw[e];exact hc,x'⟩;rw[Ab,E1,S6];simp only[AB,↓reduceIte,AK,Bi,EB,k1,k2,k3,k4,k5,k6,k7,k8,k9,NM,OA,Pd,Qj,Pe,Qk,Rp,Su,AW TM,r2.call,r3.call];try rfl
 rw[if_neg TM];by_cases V6:q.k=19;·rw[if_pos V6];dsimp only;have w':BX (put h bi 7 (I q.a)) bi a o c t G {b with head:=q.a}:=w.put rfl rfl w.o w.t;refine⟨put h bi 7 (I q.a),o,c,t,G,?_,w',hc,Be⟩;rw[Ab,E1,S6];simp only[AB,↓reduceIte,AK,Bi,k1,k2,k3,k4,k5,k6,k7,k8,k9,NM,OA,Pd,Qj,Pe,Qk,Rp,Su,TM,AW V6,w.st (k:=7) (v:= I q.a) rfl rfl];try rfl
 rw[if_neg V6];by_cases dS:q.k=20;·rw[if_pos dS];dsimp only;have w':=w.dH q.n;refine⟨put h bi 4 (I q.n),o,c,t,G,?_,w',hc,Be⟩;rw[Ab,E1,S6];simp only[AB,↓reduceIte,AK,Bi,k1,k2,k3,k4,k5,k6,k7,k8,k9,NM,OA,Pd,Qj,Pe,Qk,Rp,Su,TM,V6,AW dS,w.st (k:=4) (v:= I q.n) rfl rfl];try rfl
 rw[if_neg dS];by_cases jY:q.k=21;·rw[if_pos jY];dsimp only;have Ry:=sz.rm.A4;obtain⟨fs,Gn,UI⟩:=hc;obtain⟨u,r2,hu⟩:=f65 (h:=h) (id:=bi) (o:=3) (l:=fs) ⟨c,w.pL,UI⟩ (by rw[<-Gn,Ai] at Ry;omega);have w':=w.Kf (u:=u) (l:=Fz b.A4);have JU:BO (Fz b.A4) u:=⟨_,by rw[Ud,Gn],hu⟩;refine⟨put h bi 3 u,o,u,t,G,?_,w',JU,Be⟩;rw[Ab,E1,S6];simp only[AB,↓reduceIte,AK,Bi,k1,k2,k3,k4,k5,k6,k7,k8,k9,NM,OA,Pd,Qj,Pe,Qk,Rp,Su,TM,V6,dS,AW jY,r2.call];try rfl
 rw[if_neg jY];by_cases tK:q.k=22;·rw[if_pos tK];dsimp only;have ho:=sz.rm.AO;have em:Aw (.Bx 1) [.str q.name]=some (.sl 1 ([q.name].map CH)):=DE (ws:=[q.name]) rfl (by simp);obtain⟨u,r2,hu⟩:=f66 w.sO (by omega) (CQ (ws:=[q.name])) (by simp);have w':=w.Ia hu;refine⟨put h bi 2 u,u,c,t,G,?_,w',hc,Be⟩;rw[Ab,E1,S6];simp only[AB,↓reduceIte,AK,Bi,k1,k2,k3,k4,k5,k6,k7,k8,k9,NM,OA,Pd,Qj,Pe,Qk,Rp,Su,TM,V6,dS,jY,AW tK,em,r2.call];try rfl
 rw[if_neg tK];by_cases cr:q.k=23;·rw[if_pos cr];dsimp only;have w':BX (put h bi 8 (I q.a)) bi a o c t G {b with L0:=q.a}:=w.put rfl rfl w.o w.t;refine⟨put h bi 8 (I q.a),o,c,t,G,?_,w',hc,Be⟩;rw[Ab,E1,S6];simp only[AB,↓reduceIte,AK,Bi,k1,k2,k3,k4,k5,k6,k7,k8,k9,NM,OA,Pd,Qj,Pe,Qk,Rp,Su,TM,V6,dS,jY,tK,AW cr,w.st (k:=8) (v:= I q.a) rfl rfl];try rfl
 rw[if_neg cr];by_cases rq:q.k=24;·rw[if_pos rq];dsimp only;obtain⟨r,jX,r1,hr,Du⟩:=TL (q:=q) hv hq.Ax.1 h;rw[Kx] at r1;obtain⟨h',G',r2,w',x'⟩:=br (m:=5000000*j) w ok sz.V5 hr Du hq.Ax hq.name q.a q.AZ;have r3:=rp (b.FA q.name q.Ax q.AZ) h';refine⟨h',o,c,t,G',?_,w',by have e:(b.D8 q.name q.Ax q.AZ q.a).A4=b.A4:=(by unfold BS.D8;split<;>rfl);rw[e];exact hc,x'⟩;rw[Ab,E1,S6];simp only[AB,↓reduceIte,AK,Bi,EB,k1,k2,k3,k4,k5,k6,k7,k8,k9,NM,OA,Pd,Qj,Pe,Qk,Rp,Su,TM,V6,dS,jY,tK,cr,AW rq,r1.call,r2.call,r3.call];try rfl
 rw[if_neg rq];refine⟨h,o,c,t,G,?_,w,hc,.refl⟩;rw[Ab,E1,S6];simp only[AB,↓reduceIte,AK,Bi,k1,k2,k3,k4,k5,k6,k7,k8,k9,NM,OA,Pd,Qj,Pe,Qk,Rp,Su,TM,V6,dS,jY,tK,cr,rq];try rfl
end
end Go.Am
end
