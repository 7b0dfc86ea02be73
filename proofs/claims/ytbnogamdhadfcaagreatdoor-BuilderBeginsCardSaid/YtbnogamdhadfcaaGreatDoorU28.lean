/- Lemmas -/
import Derived.Test.YtbnogamdhadfcaaGreatDoorU27
set_option linter.unusedVariables false
set_option linter.unusedSimpArgs false
section
namespace Go.Am
open Go
set_option maxRecDepth 100000
def Re{σ:Type}(enc:σ->List Aa)(DD:σ->Ae->Prop)(μ:σ->Nat)(i:Nat)(Hy:σ->Ae->Prop)(s:σ):Post:=
 λx vs h1=>(x= .normal/\∃s',vs=enc s'/\DD s' h1/\μ s'<μ s)\/(x= .exit i/\∃s',vs=enc s'/\Hy s' h1)
theorem Re.next{σ:Type}{enc:σ->List Aa}{DD Hy:σ->Ae->Prop}{μ:σ->Nat}{i:Nat}{s:σ}{vs:List Aa}{h:Ae}(s':σ)(e:vs=enc s')(hi:DD s' h)(hl:μ s'<μ s):Re enc DD μ i Hy s .normal vs h:= .inl ⟨rfl,s',e,hi,hl⟩
theorem Re.Hy{σ:Type}{enc:σ->List Aa}{DD Hy:σ->Ae->Prop}{μ:σ->Nat}{i:Nat}{s:σ}{vs:List Aa}{h:Ae}(s':σ)(e:vs=enc s')(hi:Hy s' h):Re enc DD μ i Hy s (.exit i) vs h:= .inr ⟨rfl,s',e,hi⟩
theorem Ej{C:FI}{Q:Post}{h:Ae}{σ:Type}{key i:Nat}{init:List Aa}{body:List Aa->IT}{k:EL->List Aa->IT}(enc:σ->List Aa)(DD:σ->Ae->Prop)(μ:σ->Nat)(Hy:σ->Ae->Prop)(s0:σ)(h0:init=enc s0)(hi:DD s0 h)
  (round:∀s h,DD s h->W C (body (enc s)) (Re enc DD μ i Hy s) h) (hk:∀s h,Hy s h->W C (k (.exit i) (enc s)) Q h):W C (.loop key init body k) Q h:=by
 refine A9 enc DD μ s0 h0 hi λs h hs=>W.mono (round s h hs) ?_;rintro x vs h1 (hn|⟨rfl,s',rfl,hf⟩);·exact .inl hn
 .exact .inr ⟨by simp,hk s' h1 hf⟩
theorem XP{h:Ae}{id z:Nat}{Au:List (List Aa)}(hr:∀r∈Au,r.length=z)(hc:h[id]?=some (.cells Au.flatten)){i:Nat}(hi:i<Au.length):Bb h (some z) (Pt id (i*z))=some (.agg Au[i]):=by
 have hl:i*z+z<=Au.flatten.length:=by rw[Fe hr];have:=Ez z (show i+1<=Au.length by omega);rwa [BA,Ey] at this
 simp only[Bb,hc,J7];rw[if_pos hl,HW hr,AG hi,Db,CU (by rw[hr _ (AJ hi)];exact Ac _),Ay (by rw[hr _ (AJ hi)];exact Ac _)]
section
variable{h h':Ae}{bi a:Nat}{o c t:Aa}{G G' F:Nat->Prop}{b b':BS}{x:Int}{m:Nat}
variable{nm:As}{av:Aa}{l:List AW}{r:List Aa}{sp p:Int}
theorem bg(e:B3)(h:Ae):∃r,BE cx 146 [.agg e.row] h (.agg r) h/\M8 e.c.name e.v r:=by have hv:e.v.cells=[e.v]:=AL.cells e.ok;refine⟨_,?_,I 2,ff,S [],ff,S [],ff,ff,ff,S [],.int .i32 0,rfl⟩;rw[Ab,mS,t146,B3.row];simp only[Az,Nat.reduceLeDiff,↓reduceIte,AI,Bi,hv]
theorem XQ:∀{l:List Cd} {b:BS} {m:Nat},BQ b (m+4*l.length)->(∀e∈l,e.name.length<=1000/\DL e.Ax)->BQ (BS.Iv l b).2 m
 |[],b,m,r,_=>by simpa[BS.Iv] using r
 |e::l,b,m,r,hl=>by have h1:=hl e (by simp);rw[BS.Iv];exact XQ (Lh (m:=m+4*l.length) (r.le (by simp;omega)) h1.2 h1.1) λx hx=>hl x (by simp[hx])
theorem Rf:b.Ka<=b.A4.length:=by unfold BS.Ka;rcases CQ (q:=b.settled) (l:=b.A4) with⟨h,_⟩|⟨n,h1,h2,_⟩<;>omega
structure Zl(h:Ae)(bi a:Nat)(t:Aa)(G0:Nat->Prop)(b:BS)(fs:List B3)(id m k:Nat)(h1:Ae):Prop where
 le:k<=fs.length
 low:b.Ka<=k
 ex:∃(o:Aa) (G:Nat->Prop) (b1:BS) (GZ:List B3),BX h1 bi a o (.Cm id 0 fs.length 3) t G b1/\DG b1/\BQ b1 (m+4*(fs.length-k))/\h1[id]?=some (.cells (GZ.map B3.row).flatten)/\GZ.length=fs.length/\GZ.drop k=fs.drop k/\
  BS.Dv b={(BS.Iv (b.A4.drop k) b1).2 with A4:=(GZ.take k).map (·.c)++(BS.Iv (b.A4.drop k) b1).1}/\¬own bi G id/\Df h (own bi G0) h1 (own bi G)
theorem BX.Zm(w:BX h bi a o c t G {b with A4:=b.A4}):BX h bi a o c t G b:=w
theorem Ok{h1:Ae}{id:Nat}{v v':Aa}(ha:At h id 3 v)(hf:Kn h v=some (h1,v'))(he:h1[id]?=h[id]?):KV h 3 (Pt id 0)=some (Am.put h1 id 3 v'):=by obtain⟨cs,hc,e⟩:=ha;rw[hc] at he;unfold KV;simp only[hc,BJ,e,hf,Cs,he];rw[Hn he]
theorem pG{v:Aa}{l:List B3}(hv:C0 l v):Kn h v=some (h,v):=by rcases hv with rfl|⟨rfl,_⟩<;>rfl
theorem aHa{v:Aa}(hv:C0 [] v)(h:Ae):∃u,BE cx 145 [v] h u h/\C0 [] u:=by
 have e3:=N9 (h:=h) (s:= .sl 3 []) (b:=48) (.inr rfl) hv;rcases hv with rfl|⟨rfl,h0⟩
 .refine⟨.sl 3 [],?_,.mk⟩;rw[Ab,T3,zK];simp only[DQ] at e3;simp only[Az,DQ,show Aw (.GL false .sl) [.sl 3 [],.slnil]=some (.bool false) from rfl,show Aw (.By 3) []=some (.sl 3 []) from rfl,e3]
 .refine⟨.slnil,?_,.inr ⟨rfl,rfl⟩⟩;rw[Ab,T3,zK];simp only[Az,show Aw (.GL false .sl) [.slnil,.slnil]=some (.bool true) from rfl]
theorem Zl.init(w:BX h bi a o c t G b)(ok:DG b)(rm:BQ b (m+4*b.A4.length)){fs:List B3}(Gr:fs.map (·.c)=b.A4):
  Zl h bi a t G b fs h.length m b.Ka (Am.put (h++[.cells (fs.map B3.row).flatten]) bi 3 (.Cm h.length 0 fs.length 3)):=by
 have GI:b.A4.length=fs.length:=by rw[<-Gr,Ai]
 have hk:=Rf (b:=b);have hne:h.length≠bi:=Nat.ne_of_gt w.lt;refine⟨by omega,Ac _,o,G,b,fs,((w.HB (u:=[.cells (fs.map B3.row).flatten])).Kf (l:=b.A4)).Zm,ok,rm.le (by omega),?_,rfl,rfl,?_,?_,w.CN.trans Bd⟩;·rw[B4 hne];simp
 .unfold BS.Dv;simp only;rw[HS,Gr]
 .rintro(rfl|hg);·exact hne rfl
  .exact absurd (w.w.lt hg) (C8 _)
theorem Zl.step{fs:List B3}{id k:Nat}{h1:Ae}(Gr:fs.map (·.c)=b.A4)(Jm:∀e∈b.A4,e.name.length<=1000/\DL e.Ax)(hi:h.length<=id)(hlt:k<fs.length)(i:Zl h bi a t G b fs id m k h1):
  ∃(r:List Aa) (h2:Ae) (n:Int),Bb h1 none (Pt bi 3)=some (.Cm id 0 fs.length 3)/\Bb h1 (some 3) (Pt id (k*3))=some (.agg fs[k].row)/\BE cx 146 [.agg fs[k].row] h1 (.agg r) h1/\BE cx 29 [Pt bi 0,.agg r] h1 (I n) h2/\Bb h2 none (Pt bi 3)=some (.Cm id 0 fs.length 3)/\
   Cv h2 1 (Pt id (k*3)) (I n)=some (Am.put h2 id (k*3) (I n))/\Zl h bi a t G b fs id m (k+1) (Am.put h2 id (k*3) (I n)):=by
 obtain⟨o1,G1,b1,GZ,w1,TA,jJ,Ql,TX,YM,sQ,LU,x1⟩:=i.ex;have Qf:k<GZ.length:=by omega
 have GI:b.A4.length=fs.length:=by rw[<-Gr,Ai]
 have bh:k<b.A4.length:=by omega
 have e1:GZ[k]=fs[k]:=by have:=Ce (λl=>l[0]?) YM;simp only[Cz,Bn] at this;rw[Af Qf,Af hlt] at this;exact EC this
 have eb:b.A4[k]=fs[k].c:=by simp only[<-Gr,CY]
 have zj:=XP (M2 GZ) Ql (i:=k) (by simpa using Qf);rw[CY,e1] at zj;have Jm:=Jm fs[k].c (by rw[<-eb];exact AJ bh);obtain⟨r,r1,hr⟩:=bg fs[k] h1;obtain⟨h2,o2,G2,r2,w2,x2⟩:=qo (m:=m+4*(fs.length-(k+1))) w1 TA (jJ.le (by omega)) hr fs[k].ok Jm.2 Jm.1;have qS:id<h1.length:=(Ah.1 Ql).1;have HV:h2[id]?=some (.cells (GZ.map B3.row).flatten):=by rw[x2.old id qS LU];exact Ql
 have Rq:¬own bi G2 id:=λhg=>by
  rcases x2.own id hg with hg|hg
  .exact LU hg
  .omega
 have at2:At h2 id (k*3) (I fs[k].c.node):=⟨_,HV,by have:=Ke (k:=0) (M2 GZ) (by decide) (i:=k) (r:=fs[k].row) (by rw[Cp,Af Qf,e1];rfl);rw[Bn] at this;rw[this];rfl⟩
 let e':B3:=⟨{fs[k].c with node:=b1.a.len+1},fs[k].v,fs[k].ok⟩
 have hrow:(GZ.map B3.row).flatten.set (k*3) (I (b1.a.len+1))=((GZ.set k e').map B3.row).flatten:=by have:=Mt (Au:=GZ.map B3.row) (i:=k) (k:=0) (v:= I (b1.a.len+1)) (M2 GZ) (by simpa using Qf) (by decide);rw[Bn] at this;rw[Fk,BY,if_pos (by rw[Fe (M2 GZ),Ai];omega)];rw[AB] at this;rw[show e'.row=((GZ.map B3.row)[k]'(by simpa using Qf)).set 0 (I (b1.a.len+1)) by rw[CY,e1];rfl];exact this
 have hnb:id≠bi:=λe=>Rq (.inl e);refine⟨r,h2,b1.a.len+1,w1.l3,zj,r1,r2,w2.l3,at2.store rfl,⟨hlt,by have:=i.low;omega,o2,G2,_,GZ.set k e',w2.CP λj hj=>B4 λe=>Rq (e▸hj),Qa TA,Lh (m:=m+4*(fs.length-(k+1))) (jJ.le (by omega)) Jm.2 Jm.1,?_,by rw[Bj];exact TX,?_,?_,Rq,⟨by rw[IB];exact(x1.trans x2).len,λj hj hn=>(B4 (by omega)).trans ((x1.trans x2).old j hj hn),(x1.trans x2).own⟩⟩⟩;·rw[Hn HV,AN (by have:=x2.len;omega),hrow]
 .rw[List.drop_set_of_lt (tN k)];have:=Ce (λl=>l.drop 1) YM;simpa[E7] using this
 .rw[sQ,AG bh,eb,BS.Iv];simp only
  congr 1
  rw[Av (by rw[Bj];exact Qf),List.getElem_set_self,BI,aIj (Ac k),AB];rfl
theorem aLT(w:BX h bi a o c t G b)(hc:BO b.A4 c)(ok:DG b)(rm:BQ b (m+4*b.A4.length)):
  ∃h' o' c' G',BE cx 62 [Pt bi 0] h (.tuple []) h'/\BX h' bi a o' c' t G' b.Dv/\BO b.Dv.A4 c'/\Df h (own bi G) h' (own bi G'):=by
 have ho:=rm.AR;have Rs:=rm.A4;obtain⟨fs,Gr,hcs⟩:=hc;have GI:b.A4.length=fs.length:=by rw[<-Gr,Ai]
 have Ik:Ev cx 62 [Pt bi 0] h λr h'=>r= .tuple []/\∃o' c' G',BX h' bi a o' c' t G' b.Dv/\BO b.Dv.A4 c'/\Df h (own bi G) h' (own bi G'):=by
  unfold Ev;have l3:=w.l3;have lc:=AL.Cq hcs;rw[aAp,t62];simp only[Az,Bi,(HC w).call,l3,lc];refine Ej (i:=0) (λn:Nat=>[I (n:Int)]) (λn h1=>n<=fs.length/\AK b.settled b.A4=AK b.settled (b.A4.take n)/\h1=h) (λn=>n) (λn h1=>n=b.Ka/\h1=h) fs.length rfl ⟨Ac _,by rw[<-GI,Bu],rfl⟩ ?_ ?_
  .rintro n h1 ⟨hn,ha,rfl⟩;cases n with
   |zero=>simp only[Az,Bi,show¬(0:Int)<((0:Nat):Int) by decide];refine .Hy 0 rfl ⟨?_,rfl⟩;unfold BS.Ka;rw[ha];rfl
   |succ n=>
    have hlt:n<b.A4.length:=by omega
    have Ra:n<fs.length:=by omega
    rw[Gb hlt] at ha;have i1:=Hm (n:=n+1) (show 0<n+1 by omega) (show n+1<9223372036854775807 by omega);rw[GH] at i1;have e1:=AL.Bz (k:= .i64) hcs Ra;have en:fs[n].c.node=b.A4[n].node:=by simp only[<-Gr,CY]
    have r1:=WM w.sA (by omega) b.A4[n].node;have hK:b.settled b.A4[n]=true->n+1=b.Ka:=by intro hs;rw[if_pos hs] at ha;unfold BS.Ka;rw[ha];omega
    rw[B3.row,en] at e1;simp only[Az,Bi,show(0:Int)<((n+1:Nat):Int) by omega,l3,i1,e1,r1.call,ne_eq];refine⟨λh1=>⟨λh2=>?_,λh2=>?_⟩,λh1=>?_⟩
    .have hs:b.settled b.A4[n]=false:=by unfold BS.settled;rw[AA];omega
     rw[if_neg (by rw[hs];decide)] at ha;exact .next n rfl ⟨by omega,ha,rfl⟩ (by omega)
    .exact .Hy (n+1) rfl ⟨hK (by unfold BS.settled;rw[AD];omega),rfl⟩
    .exact .Hy (n+1) rfl ⟨hK (by unfold BS.settled;rw[AD];omega),rfl⟩
  .rintro n h1 ⟨rfl,eh⟩;rw[eh];by_cases hne:fs=[]
   .subst hne;have ha:b.A4=[]:=Gr.symm;have hK:b.Ka=0:=by have:=Rf (b:=b);rw[ha] at this;exact Nat.le_zero.1 this
    have hb:b.Dv=b:=by unfold BS.Dv;rw[ha];simp only[List.drop_nil,BS.Iv,List.take_nil,BH];rw[<-ha]
    obtain⟨u,r1,hu⟩:=aHa hcs h;have w1:=(w.Kf (u:=u) (l:=b.A4)).Zm;have e1:=Ok w1.pB (pG hu) rfl;have lu:=AL.Cq hu;have l3':=w1.l3;rw[BT] at lu;have hz:(b.Ka:Int)=((0:Nat):Int):=by rw[hK]
    simp only[Az,Bi,l3,r1.call,w.st (k:=3) (v0:=c) rfl (AL.cells hu)];refine Ej (i:=2) (λn:Nat=>[I (n:Int)]) (λn h1=>n=0/\h1=Am.put h bi 3 u) (λn=>n) (λn h1=>n=0/\h1=Am.put h bi 3 u) 0 (by rw[hz]) ⟨rfl,rfl⟩ ?_ ?_;·rintro n h1 ⟨rfl,rfl⟩;simp only[Az,Bi,l3',lu,show¬((0:Nat):Int)<((0:Nat):Int) by decide];exact .Hy 0 rfl ⟨rfl,rfl⟩
    .rintro n h1 ⟨rfl,rfl⟩;simp only[Az,e1];refine⟨_,rfl,rfl,o,u,G,?_,⟨[],by rw[hb,ha];rfl,hu⟩,Bd.trans Bd⟩;rw[hb];exact(w1.Kf (l:=b.A4)).Zm
   .have i0:=Zl.init (m:=m) w ok rm Gr;have r1:=aBY (h:=h) hcs hne (by omega);have w0:=w.HB (u:=[.cells (fs.map B3.row).flatten]);simp only[Az,Bi,l3,r1.call,w0.st (k:=3) (v:= .Cm h.length 0 fs.length 3) (v0:=c) rfl rfl];refine Ej (i:=2) (λn:Nat=>[I (n:Int)]) (λk h1=>Zl h bi a t G b fs h.length m k h1) (λk=>fs.length-k) (λk h1=>k=fs.length/\Zl h bi a t G b fs h.length m k h1) b.Ka rfl i0 ?_ ?_
    .intro k h1 i;have DW:=i.le;have lm:Aw (.len false) [.Cm h.length 0 fs.length 3]=some (I (fs.length:Int)):=rfl;rcases AT k fs.length with hlt|D2
     .obtain⟨r,h2,n,s1,s2,s3,s4,s5,s6,s7⟩:=Zl.step Gr rm.Dl (Ac _) hlt i;have e1:Aw (.Fm 3) [.Cm h.length 0 fs.length 3,I (k:Int)]=some (Pt h.length (k*3)):=EZ hlt;simp only[Az,Bi,s1,lm,show(k:Int)<(fs.length:Int) by omega,e1,s2,s3.call,Bv,s4.call,s5,s6,BG (show k<9223372036854775807 by omega)];exact .next (k+1) rfl s7 (by omega)
     .obtain⟨o1,G1,b1,GZ,w1,_⟩:=i.ex;simp only[Az,Bi,w1.l3,lm,show¬(k:Int)<(fs.length:Int) by omega];exact .Hy k rfl ⟨by omega,i⟩
    .rintro k h1 ⟨rfl,i⟩;obtain⟨o1,G1,b1,GZ,w1,TA,jJ,Ql,TX,YM,sQ,LU,x1⟩:=i.ex;have hf:=JF (M2 GZ) Ql;rw[Ai,TX] at hf;have hnb:h.length≠bi:=λe=>LU (.inl e);have e1:=Ok w1.pB hf (by rw[Aj hnb]);have w2:BX (h1.set h.length .CG) bi a o1 _ t G1 b1:=w1.CP λj hj=>Aj λe=>LU (by rw[e];exact hj);simp only[Az,e1];have hb:b.Dv={b1 with A4:=GZ.map (·.c)}:=by rw[sQ,A3 (by omega),Ay (by omega)];simp only[BS.Iv,BB]
     refine⟨_,rfl,rfl,o1,_,G1,by rw[hb];exact w2.Kf,⟨GZ,by rw[hb],.mk⟩,?_⟩;refine Df.trans ⟨by rw[Bj];exact x1.len,λj hj hn=>?_,x1.own⟩ Bd;rw[Aj (by omega)];exact x1.old j hj hn
 obtain⟨r,h',hr,rfl,o',c',G',w',J4,x'⟩:=Ik.ret;exact⟨h',o',c',G',hr,w',J4,x'⟩
end
theorem qu{id l k:Nat}(hl:0<l)(hk:k<=l):Aw (.Hs 3 false false true) [.Cm id 0 l 3,I (k:Int)]=some (.Cm id 0 k 3):=by
 have e1:EK (k:Int) l=some k:=by unfold EK;rw[if_pos (by omega)];rfl
 simp[Aw,I4,DH,e1];omega
theorem qv{id l k:Nat}(hk:k<=l):Aw (.Hs 3 false true false) [.Cm id 0 l 3,I (k:Int)]=some (if k<l then .Cm id (k*3) (l-k) 3 else .sl 3 []):=by
 have e1:EK (k:Int) l=some k:=by unfold EK;rw[if_pos (by omega)];rfl
 simp[Aw,I4,DH,e1];split<;>rfl
theorem Gq{α:Type}{l:List α}{k:Nat}(hk:k<l.length):(A6 l k).length=l.length-1:=by unfold A6;rw[Aq,Al,A7];omega
theorem aHb{h:Ae}{id k:Nat}{Au:List (List Aa)}(hr:∀r∈Au,r.length=3)(hc:h[id]?=some (.cells Au.flatten))(hk:k<Au.length)(hb:Au.length<=1000000000):
  ∃Gf,BE cx 245 [.Cm id 0 Au.length 3,I (k:Int),I ((k+1:Nat):Int)] h (.Cm id 0 (Au.length-1) 3) (h.set id (.cells ((A6 Au k).flatten++Gf))):=by
 have Hj:=(Ah.1 hc).1;have hll:=Gq hk;have Qm:=Fe hr;have hrd:∀r∈A6 Au k,r.length=3:=λr hm=>hr r (by
  unfold A6 at hm;rcases Ao.1 hm with hm|hm
  .exact Bf hm
  .exact Bw hm)
 have kP:=Fe hrd;rw[hll] at kP;have SE:(Au.take k).flatten=Au.flatten.take (k*3):=(Xw hr).symm;have zh:(Au.drop (k+1)).flatten=Au.flatten.drop ((k+1)*3):=(HW hr).symm;obtain⟨QE,eg,hcl⟩:∃QE,Fo h 3 48 (.Cm id 0 k 3) (if k+1<Au.length then .Cm id ((k+1)*3) (Au.length-(k+1)) 3 else .sl 3 [])=some (h.set id (.cells ((A6 Au k).flatten++QE)),.Cm id 0 (Au.length-1) 3)/\QE.length=3:=by
  have er:Gi h 3 (if k+1<Au.length then .Cm id ((k+1)*3) (Au.length-(k+1)) 3 else .sl 3 [])=some (Au.drop (k+1)):=by
   by_cases Oz:k+1<Au.length;·rw[if_pos Oz];have e2:=Xx hr (n:=Au.length-(k+1)) (off:=k+1) (by omega);rw[Ay (by rw[A7];exact Ac _)] at e2;simp only[Gi,BN,hc,e2];rw[if_pos (by rw[Qm];omega)]
   .rw[if_neg Oz,A3 (by omega)];rfl
  by_cases aq:k+1=Au.length
  .refine⟨Au.flatten.drop (k*3),?_,by rw[A7,Qm];omega⟩;have ed:Au.drop (k+1)=[]:=A3 (by omega);rw[ed] at er;have e3:(A6 Au k).flatten++Au.flatten.drop (k*3)=Au.flatten:=by unfold A6;rw[ed,BB,SE,CK]
   have e4:h.set id (.cells ((A6 Au k).flatten++Au.flatten.drop (k*3)))=h:=by rw[e3];obtain⟨Xp,e5⟩:=Ah.1 hc;rw[<-e5,Ru]
   simp only[Fo,er,BN];rw[e4,show Au.length-1=k by omega]
  .obtain⟨y,l2,hd⟩:∃y l2,Au.drop (k+1)=y::l2:=⟨_,_,AG (show k+1<Au.length by omega)⟩;have o9:(y::l2).length=Au.length-(k+1):=by rw[<-hd,A7]
   refine⟨Au.flatten.drop ((Au.length-1)*3),?_,by rw[A7,Qm];omega⟩;rw[hd] at er;simp only[Fo,er,hc,BN];rw[o9,if_pos (by rw[Qm];omega)];rw[<-hd,zh,BJ,BJ,show k+(Au.length-(k+1))=Au.length-1 by omega];unfold A6;rw[Wm,SE,zh]
 generalize wm:h.set id (.cells ((A6 Au k).flatten++QE))=h2 at eg;have HV:h2[id]?=some (.cells ((A6 Au k).flatten++QE)):=by rw[<-wm];exact AN Hj
 have jE:((A6 Au k).flatten++QE).length=Au.length*3:=by rw[Aq,kP,hcl];omega
 have ed:Ep (.pZ 3 true true) h2 [.Cm id 0 (Au.length-1) 3,I ((Au.length-1:Nat):Int),I (Au.length:Int)]=some (h2,.Cm id ((Au.length-1)*3) 1 3):=by
  simp only[Ep,ZO,HV];have e1:EK (Au.length:Int) ((((A6 Au k).flatten++QE).length-0)/3)=some Au.length:=by unfold EK;rw[if_pos (by rw[jE];omega)];rfl
  have e2:EK ((Au.length-1:Nat):Int) Au.length=some (Au.length-1):=by unfold EK;rw[if_pos (by omega)];rfl
  rw[if_pos ⟨trivial,trivial,AO _⟩];simp only[DH,e1,e2,Cs,BR];rw[if_pos (by rw[jE];omega)];congr 3
  .omega
  .omega
 have ec:Ep (.clear 3 [I 0,S [],.slnil]) h2 [.Cm id ((Au.length-1)*3) 1 3]=some (h.set id (.cells ((A6 Au k).flatten++[I 0,S [],.slnil])),.bool true):=by
  simp only[Ep,Ug,HV];rw[if_pos ⟨trivial,rfl,by rw[jE];omega⟩];congr 2
  rw[<-wm,List.set_set];congr 2
  rw[KJ kP,A3 (by rw[jE];omega)];simp
 refine⟨[I 0,S [],.slnil],?_⟩;have elen:∀i n,Aw (.len false) [.Cm i 0 n 3]=some (I (n:Int)):=λ_ _=>rfl;have e3:Ep (.eD 3) h [.Cm id 0 Au.length 3,I (k:Int),I ((k+1:Nat):Int),I (Au.length:Int)]=some (h,.bool true):=by simp only[Ep,Uh];simp;omega
 rw[Ab,oI,aBx];simp only[Az,Bi,elen,e3,show¬(k:Int)=((k+1:Nat):Int) by omega,qu (id:=id) (show 0<Au.length by omega) (show k<=Au.length by omega),qv (id:=id) (show k+1<=Au.length by omega),eg,ed,ec]
theorem Rg{z:Nat}:∀{Au:List (List Aa)} {cs pre:List Aa},(∀r∈Au,r.length=z)->Ck (pre++(Au.flatten++cs)) z pre.length Au.length=Au
 |[],_,_,_=>rfl
 |x::Au,cs,pre,h=>by have hx:=h x (by simp);have:=Rg (Au:=Au) (cs:=cs) (pre:=pre++x) (λr hr=>h r (by simp[hr]));simp only[AB,Aq,hx] at this;simp only[Db,Bc,Ck,AB];rw[NG rfl,KJ hx,this]
theorem jK{h:Ae}{id z:Nat}{Au:List (List Aa)}{cs:List Aa}(hr:∀r∈Au,r.length=z)(hc:h[id]?=some (.cells (Au.flatten++cs))):Kn h (.Cm id 0 Au.length z)=some (h.set id .CG,.sl z Au):=by unfold Kn;simp only[hc,BJ];have:=Rg (cs:=cs) (pre:=[]) hr;simp only[BH,BT] at this;rw[if_pos (by rw[Aq,Fe hr];omega),this]
def E6(e:B3)(at_ mk:Int)(anc far:Item)(last:Int):List Aa:=
 [I e.c.node,.str e.c.name,e.v,I at_,I mk,I anc.node,I anc.AX,.str anc.name,.bool anc.No,I far.node,I far.AX,.str far.name,.bool far.No,I last]
def Lq(ai bi:Nat)(G:Nat->Prop):Nat->Prop:=λi=>i=ai\/own bi G i
section
variable{h h':Ae}{bi a ai:Nat}{o c t:Aa}{G G' F:Nat->Prop}{b b':BS}{x:Int}{m:Nat}
variable{nm:As}{av:Aa}{l:List AW}{r:List Aa}{sp p:Int}{e:B3}{at_ mk last:Int}{anc far:Item}
theorem Ek(x:Df h (own bi G) h' (own bi G'))(ai:Nat):Df h (Lq ai bi G) h' (Lq ai bi G'):=
 ⟨x.len,λi hi hn=>x.old i hi λhg=>hn (.inr hg),λi hi=>by
  rcases hi with hi|hi
  .exact .inl (.inl hi)
  .rcases x.own i hi with h|h
   .exact .inl (.inr h)
   .exact .inr h⟩
theorem Ol{k:Nat}{v:Aa}:Df h (Am.Lq ai bi G) (put h ai k v) (Am.Lq ai bi G):=⟨by rw[IB];exact Ac _,λi _ hn=>B4 λe=>hn (.inl e),λ_ h=> .inl h⟩
theorem Hh{id k:Nat}{v:Aa}{cs:List Aa}(hc:h[id]?=some (.cells cs)):(put h id k v)[id]?=some (.cells (cs.set k v)):=by rw[Hn hc,AN (Ah.1 hc).1]
def down(k:Nat)(x:Int):Int:=if(k:Int)<x then x-1 else x
set_option maxHeartbeats 1000000 in
theorem pH(w:BX h bi a o c t G b)(hc:BO b.A4 c)(rm:BQ b m)(ha:h[ai]?=some (.cells (E6 e at_ mk anc far last)))(hn:¬own bi G ai){k:Nat}(hk:k<b.A4.length)(h1:0<=at_/\at_<=1000000000)(h2:0<=mk/\mk<=1000000000):
  ∃h' c',BE cx 173 [Pt ai 0,Pt bi 0,I (k:Int)] h (.tuple []) h'/\BX h' bi a o c' t G {b with A4:=A6 b.A4 k}/\BO (A6 b.A4 k) c'/\h'[ai]?=some (.cells (E6 e (down k at_) (down k mk) anc far last))/\Df h (Lq ai bi G) h' (Lq ai bi G):=by
 obtain⟨fs,Gr,hcs⟩:=hc;have Rs:=rm.A4;have GI:b.A4.length=fs.length:=by rw[<-Gr,Ai]
 have hne:fs≠[]:=by intro e;rw[GI,e] at hk;exact absurd hk (Nat.not_lt_zero _)
 have Wj:ai≠bi:=λe=>hn (.inl e);have hai:ai<h.length:=(Ah.1 ha).1;have r1:=aBY (h:=h) hcs hne (by omega);have hX:(h++[De.cells (fs.map B3.row).flatten])[h.length]?=some (.cells (fs.map B3.row).flatten):=by simp
 obtain⟨Gf,r2⟩:=aHb (M2 fs) hX (k:=k) (by simp;omega) (by simp;omega);rw[Ai] at r2;have e2:(h++[De.cells (fs.map B3.row).flatten]).set h.length (.cells ((A6 (fs.map B3.row) k).flatten++Gf))=h++[.cells ((A6 (fs.map B3.row) k).flatten++Gf)]:=by rw[B2 _ _ (Ac _),DB];rfl
 rw[e2] at r2;generalize hH:h++[De.cells ((A6 (fs.map B3.row) k).flatten++Gf)]=H at r2;have w1:BX H bi a o c t G b:=by rw[<-hH];exact w.HB
 have WB:H[ai]?=some (.cells (E6 e at_ mk anc far last)):=by rw[<-hH,Ad hai];exact ha
 have hX1:H[h.length]?=some (.cells ((A6 (fs.map B3.row) k).flatten++Gf)):=by rw[<-hH];simp
 have hL:H.length=h.length+1:=by rw[<-hH];simp
 have x1:Df h (Lq ai bi G) H (Lq ai bi G):=by rw[<-hH];exact Ek w.CN ai
 have hbl:bi≠h.length:=cy w.lt;have hal:ai≠h.length:=cy hai;have s1:=w1.st (k:=3) (v:= .Cm h.length 0 (fs.length-1) 3) (v0:=c) rfl rfl;have w2:=w1.Kf (u:= .Cm h.length 0 (fs.length-1) 3) (l:=b.A4);have Nv:(put H bi 3 (.Cm h.length 0 (fs.length-1) 3))[ai]?=some (.cells (E6 e at_ mk anc far last)):=by rw[B4 Wj];exact WB
 have hX2:(put H bi 3 (.Cm h.length 0 (fs.length-1) 3))[h.length]?=some (.cells ((A6 (fs.map B3.row) k).flatten++Gf)):=by rw[B4 (DR hbl)];exact hX1
 have x2:Df h (Lq ai bi G) (put H bi 3 (.Cm h.length 0 (fs.length-1) 3)) (Lq ai bi G):=x1.trans (Ek Bd ai);generalize hH2:put H bi 3 (.Cm h.length 0 (fs.length-1) 3)=H2 at*;have hL2:H2.length=h.length+1:=by rw[<-hH2,IB,hL]
 have t3:At H2 ai 3 (I at_):=⟨_,Nv,rfl⟩;have fV:=Hh (k:=3) (v:= I (down k at_)) Nv;have e3:put H2 ai 3 (I (down k at_))=if(k:Int)<at_ then put H2 ai 3 (I (at_-1)) else H2:=by
  unfold down;split;·rfl
  .exact t3.same
 have w3:BX (put H2 ai 3 (I (down k at_))) bi a o _ t G _:=w2.CP λj hj=>B4 λe=>hn (e▸hj);have hX3:(put H2 ai 3 (I (down k at_)))[h.length]?=_:=(B4 (DR hal)).trans hX2;have x3:=x2.trans (Ol (k:=3) (v:= I (down k at_)));generalize hH3:put H2 ai 3 (I (down k at_))=H3 at*;have t4:At H3 ai 4 (I mk):=⟨_,fV,rfl⟩;have ha4:=Hh (k:=4) (v:= I (down k mk)) fV;have e4:put H3 ai 4 (I (down k mk))=if(k:Int)<mk then put H3 ai 4 (I (mk-1)) else H3:=by
  unfold down;split;·rfl
  .exact t4.same
 have w4:BX (put H3 ai 4 (I (down k mk))) bi a o _ t G _:=w3.CP λj hj=>B4 λe=>hn (e▸hj);have hX4:(put H3 ai 4 (I (down k mk)))[h.length]?=_:=(B4 (DR hal)).trans hX3;have x4:=x3.trans (Ol (k:=4) (v:= I (down k mk)));generalize hH4:put H3 ai 4 (I (down k mk))=H4 at*;have hrd:∀r∈A6 (fs.map B3.row) k,r.length=3:=λr hm=>M2 fs r (by
  unfold A6 at hm;rcases Ao.1 hm with hm|hm
  .exact Bf hm
  .exact Bw hm)
 have f4:=jK hrd hX4;rw[Gq (by simp;omega),Ai] at f4;have e5:=Ok w4.pB f4 (by rw[Aj (DR hbl)]);have w5:BX (H4.set h.length .CG) bi a o _ t G {b with A4:=b.A4}:=w4.CP λj hj=>Aj λe=>by
  subst e;rcases hj with hj|hj
  .exact hbl hj.symm
  .exact absurd (w.w.lt hj) (C8 _)
 have ed:A6 (fs.map B3.row) k=(A6 fs k).map B3.row:=by unfold A6;rw[BI,HS,ND]
 have ec:(A6 fs k).map (·.c)=A6 b.A4 k:=by unfold A6;rw[BI,HS,ND,Gr]
 refine⟨_,.sl 3 (A6 (fs.map B3.row) k),?_,w5.Kf (l:=A6 b.A4 k),⟨A6 fs k,ec,by rw[ed];exact .mk⟩,?_,?_⟩
 .have ld3:Bb H2 none (Pt ai 3)=some (I at_):=t3.load;have ld4:Bb H3 none (Pt ai 4)=some (I mk):=t4.load;have inc:=BG (show k<9223372036854775807 by omega);have d3:=CJ (show -9223372036854775808<=at_-1 by omega) (show at_-1<9223372036854775808 by omega);have d4:=CJ (show -9223372036854775808<=mk-1 by omega) (show mk-1<9223372036854775808 by omega);rw[Ab,nC,aA3];by_cases c3:(k:Int)<at_
  .rw[if_pos c3] at e3;have s3:Cv H2 1 (Pt ai 3) (I (at_-1))=some H3:=by rw[e3];exact t3.store rfl
   by_cases c4:(k:Int)<mk
   .rw[if_pos c4] at e4;have s4:Cv H3 1 (Pt ai 4) (I (mk-1))=some H4:=by rw[e4];exact t4.store rfl
    simp only[Az,Bi,w.l3,r1.call,inc,r2.call,s1,ld3,c3,d3,s3,ld4,c4,d4,s4,e5]
   .rw[if_neg c4] at e4;subst e4;simp only[Az,Bi,w.l3,r1.call,inc,r2.call,s1,ld3,c3,d3,s3,ld4,c4,e5]
  .rw[if_neg c3] at e3;subst e3;by_cases c4:(k:Int)<mk
   .rw[if_pos c4] at e4;have s4:Cv H3 1 (Pt ai 4) (I (mk-1))=some H4:=by rw[e4];exact t4.store rfl
    simp only[Az,Bi,w.l3,r1.call,inc,r2.call,s1,ld3,c3,ld4,c4,d4,s4,e5]
   .rw[if_neg c4] at e4;subst e4;simp only[Az,Bi,w.l3,r1.call,inc,r2.call,s1,ld3,c3,ld4,c4,e5]
 .rw[B4 Wj,Aj (DR hal),ha4];rfl
 .refine Df.trans ⟨by rw[Bj];exact x4.len,λj hj hn=>?_,x4.own⟩ (Ek Bd ai);rw[Aj (by omega)];exact x4.old j hj hn
end
section
variable{α:Type}{q:α->Bool}{l:List α}
theorem Ll{p:Nat}(hp:p<l.length)(h1:q l[p]=true)(h2:∀j (hj:j<l.length),p<j->q l[j]=false):AK q l=(p:Int):=by
 rcases CQ (q:=q) (l:=l) with⟨e,h⟩|⟨n,hn,e,h3,h4⟩
 .rw[h _ (AJ hp)] at h1;exact absurd h1 (by decide)
 .rcases Nat.lt_trichotomy n p with h|h|h
  .have:=h4 p hp h;rw[this] at h1;exact absurd h1 (by decide)
  .rw[e,h]
  .have:=h2 n hn h;rw[this] at h3;exact absurd h3 (by decide)
theorem HR{p:Nat}(e:AK q l=(p:Int)):∃hp:p<l.length,q l[p]=true/\∀j (hj:j<l.length),p<j->q l[j]=false:=by
 rcases CQ (q:=q) (l:=l) with⟨e1,h⟩|⟨n,hn,e1,h3,h4⟩
 .omega
 .have:n=p:=by omega
  subst this;exact⟨hn,h3,λj hj h=>h4 j hj h⟩
theorem dB{k j:Nat}(hk:k<l.length):(A6 l k)[j]?=if j<k then l[j]? else l[j+1]?:=by
 unfold A6;by_cases h:j<k;·rw[if_pos h,Ad (by rw[Al];omega),Cg,if_pos h]
 .rw[if_neg h,Bg (by rw[Al];omega),Cz];congr 1
  rw[Al];omega
theorem M9{k j:Nat}(hk:k<l.length)(hj:j<(A6 l k).length):(A6 l k)[j]=if h:j<k then l[j]'(by omega) else l[j+1]'(by rw[Gq hk] at hj;omega):=by
 have hl:=Gq hk;have:=dB (j:=j) hk;rw[Af hj] at this;by_cases h:j<k;·rw[dif_pos h];rw[if_pos h,Af (by omega)] at this;exact EC this
 .rw[dif_neg h];rw[if_neg h,Af (by omega)] at this;exact EC this
theorem Zn{p k:Nat}(e:AK q l=(p:Int))(hk:k<l.length)(hne:k≠p):AK q (A6 l k)=down k p:=by
 obtain⟨hp,h1,h2⟩:=HR e;have hl:=Gq hk;unfold down;by_cases hkp:k<p
 .rw[if_pos (by omega),show(p:Int)-1=((p-1:Nat):Int) by omega];refine Ll (by omega) ?_ ?_
  .rw[M9 hk,dif_neg (by omega)];have:p-1+1=p:=by omega
   simp only[this,h1]
  .intro j hj h;rw[M9 hk,dif_neg (by omega)];exact h2 _ _ (by omega)
 .rw[if_neg (by omega)];refine Ll (by omega) ?_ ?_;·rw[M9 hk,dif_pos (by omega)];exact h1
  .intro j hj h;rw[M9 hk];split;·exact h2 _ _ h
   .exact h2 _ _ (by omega)
theorem dC{p k:Nat}{x:α}(e:AK q l=(p:Int))(hne:k≠p)(hx:q x=false):AK q (l.set k x)=(p:Int):=by
 obtain⟨hp,h1,h2⟩:=HR e;refine Ll (by rw[Bj];exact hp) ?_ ?_;·rw[List.getElem_set_ne hne];exact h1
 .intro j hj h;rw[List.getElem_set];split;·exact hx
  .rw[Bj] at hj;exact h2 j hj h
end
theorem Zo{l:List Item}(hn:(l.map Item.node).Nodup){i:Nat}(hi:i<l.length):AK (Bm l[i].node) l=(i:Int):=by
 refine Ll hi (by simp[Bm]) λj hj h=>?_;by_cases he:l[i].node=l[j].node
 .have h2:(l.map Item.node)[i]'(by simpa using hi)=(l.map Item.node)[j]'(by simpa using hj):=by simpa using he
  exact absurd h2 (List.pairwise_iff_getElem.1 hn i j (by simpa using hi) (by simpa using hj) h)
 .unfold Bm;simpa using λe=>he e.symm
theorem GG{n:Int}{l:List Cd}(h:0<=EE n l):∃p:Nat,∃hp:p<l.length,EE n l=(p:Int)/\n≠0/\l[p].node=n/\AK (Vo n) l=(p:Int):=by
 unfold EE at h⊢;split at h;·omega
 .rename_i h0;rw[if_neg h0];obtain⟨p,hp⟩:∃p:Nat,AK (Vo n) l=(p:Int):=⟨_,(Nd h).symm⟩;obtain⟨h1,h2,_⟩:=HR hp;exact⟨p,h1,hp,h0,by simpa[Vo] using h2,hp⟩
theorem XR{n:Int}{l:List Cd}{k:Nat}(h:0<=EE n l)(hk:k<l.length)(hne:l[k].node≠n):EE n (A6 l k)=down k (EE n l):=by obtain⟨p,hp,e,h0,h1,h2⟩:=GG h;rw[e,<-Zn h2 hk (by rintro rfl;exact hne h1)];unfold EE;rw[if_neg h0]
theorem dD{n:Int}{l:List Cd}{k:Nat}{x:Cd}(h:0<=EE n l)(hk:k<l.length)(hne:l[k].node≠n)(hx:x.node≠n):EE n (l.set k x)=EE n l:=by obtain⟨p,hp,e,h0,h1,h2⟩:=GG h;rw[e,<-dC (x:=x) (k:=k) h2 (by rintro rfl;exact hne h1) (by simp[Vo];exact hx)];unfold EE;rw[if_neg h0]
theorem sR{n:Int}{l:List Cd}(hn:((l.map Cd.node).filter λn=>decide (n≠0)).Nodup)(h:0<=EE n l):EE n (A6 l (EE n l).toNat)<0:=by
 obtain⟨p,hp,e,h0,h1,h2⟩:=GG h;rw[e,AQ];refine Int.not_le.1 λh3=>?_;obtain⟨p2,hp2,e2,_,h4,_⟩:=GG h3;have:l=l.take p++l[p]::l.drop (p+1):=by rw[<-AG hp,CK]
 rw[this,BI,Bl,EA,JO,if_pos (by simpa[h1] using h0),B7,BW] at hn;have hm:=AJ hp2;generalize(A6 l p)[p2]=y at hm h4;unfold A6 at hm;rcases Ao.1 hm with hm|hm
 .exact hn.2.2 y.node (DV.2 ⟨aIk hm,by simpa[h4] using h0⟩) l[p].node (by simp) (by rw[h4,h1])
 .exact hn.2.1.1 (DV.2 ⟨by rw[h1,<-h4];exact aIk hm,by simpa[h1] using h0⟩)
section
variable{h h':Ae}{bi a ai:Nat}{o c t:Aa}{G G' F:Nat->Prop}{b b':BS}{x:Int}{m:Nat}
variable{nm:As}{av:Aa}{l:List AW}{r:List Aa}{sp p:Int}{e:B3}{at_ mk last:Int}{anc far:Item}
theorem Na{blk anc:Int}{far i:Nat}{l:Int}{mk m:Nat}(r:BQ b (m+4)):BQ (BS.EM blk anc far i b l mk).1 m:=by
 unfold BS.EM;simp only
 split;·exact(r.le (by omega)).sub rfl CX (AY _) (Ac _)
 .split;·exact(r.le (by omega)).sub rfl CX CX (Ac _)
  .rename_i he _;obtain⟨p,hp,e1,_,_,_⟩:=GG (L1.1 he);rw[e1,AQ,AE,Af hp,Ib];have Jm:=r.Dl _ (AJ hp);have r1:=H7 (m:=m+1) (nm:=b.A4[p].name) (l:=b.A4[p].Ax) (sp:=1) (p:=anc) (r.le (by omega)) Jm.2;have r2:=(r1.le (m':=m) (by omega)).Jl (IY (p:=(b.FE b.A4[p].name b.A4[p].Ax 1).node) (x:=l) (bf:=0));refine⟨r2.n,r2.at_,r2.data,by simp only[Bj];exact r2.AR,by simp only[Bj];exact r2.A4,r2.tm,λe he=>?_,λi hi=>?_⟩
   .rcases Di he with he|rfl
    .exact r2.Dl e he
    .exact Jm
   .rcases Di hi with hi|rfl
    .exact r2.Wk i hi
    .exact Ms Jm.1
end
theorem Si{A:Ar}{x p bf:Int}(h:(A.nd p).kind=4):A.D0 x p bf=A.Fg p x bf:=by unfold Ar.D0;rw[if_neg (by rw[h];intro h;exact absurd h.1 (by decide))]
section
variable{h h':Ae}{bi a ai:Nat}{o c t:Aa}{G G' F:Nat->Prop}{b b':BS}{x:Int}{m:Nat}
variable{nm:As}{av:Aa}{l:List AW}{r:List Aa}{sp p:Int}{e:B3}{at_ mk last:Int}{anc far:Item}
theorem BO.at(hc:BO b.A4 c)(w:BX h bi a o c t G b)(rm:BQ b m)(n:Int):BE cx 92 [Pt bi 3,I n] h (I (EE n b.A4)) h:=by obtain⟨fs,Gr,hv⟩:=hc;have ha:=rm.A4;have:=f41 w.pB hv (by rw[<-Gr,Ai] at ha;omega) n;rwa [VQ,Gr] at this
structure dE(h:Ae)(bi a ai:Nat)(t:Aa)(G0:Nat->Prop)(fe:B3)(anc far:Item)(k N m:Nat)(s0:BS×Int×Nat)(n:Nat)(h1:Ae)(o c:Aa)(G:Nat->Prop)(s:BS×Int×Nat):Prop where
 le:n<=N
 w:BX h1 bi a o c t G s.1
 hc:BO s.1.A4 c
 ok:DG s.1
 rm:BQ s.1 (m+4*n)
 last:s.1.a.has s.2.1
 st:h1[ai]?=some (.cells (E6 fe (EE fe.c.node s.1.A4) (s.2.2:Int) anc far s.2.1))
 hn:¬own bi G ai
 x:Df h (Lq ai bi G0) h1 (Lq ai bi G)
 TT:0<=EE fe.c.node s.1.A4
 w_:s.2.2<=1000000000
 AR:s.1.AR.take (k+n+1)=s0.1.AR.take (k+n+1)
 len:k+n+1<=s.1.AR.length
 eq:BS.Jk far.node anc.node (k+1+N) k N s0=BS.Jk far.node anc.node (k+1+N) k n s
 fe:s.1.a.has fe.c.node
theorem XS{blk anc:Int}{far i:Nat}{l:Int}{mk:Nat}(hi:i<b.AR.length):(BS.EM blk anc far i b l mk).1.AR.take i=b.AR.take i/\i<=(BS.EM blk anc far i b l mk).1.AR.length:=by
 have h1:(A6 b.AR i).take i=b.AR.take i/\i<=(A6 b.AR i).length:=by refine⟨?_,by rw[Gq hi];omega⟩;unfold A6;rw[CU (by rw[Al];omega),GV,Nat.min_self]
 unfold BS.EM;simp only
 split;·exact h1
 .split;·exact h1
  .have MA:∀nm l p,(b.D9 nm l 1 p).AR=b.AR:=λnm l p=>by unfold BS.D9;rw[if_pos IP]
   simp only[MA];exact⟨aIj (Ac i),by rw[Bj];omega⟩
theorem dE.step{h1 h2:Ae}{o1 c1 o2 c2:Aa}{G1 G2:Nat->Prop}{fe:B3}{k N n:Nat}{s0 s s':BS×Int×Nat}(i:dE h bi a ai t G fe anc far k N m s0 (n+1) h1 o1 c1 G1 s)(e:s'=BS.EM far.node anc.node (k+1+N) (k+(n+1)) s.1 s.2.1 s.2.2)
  (w:BX h2 bi a o2 c2 t G2 s'.1) (hc:BO s'.1.A4 c2) (st:h2[ai]?=some (.cells (E6 fe (EE fe.c.node s'.1.A4) (s'.2.2:Int) anc far s'.2.1))) (hn:¬own bi G2 ai) (x:Df h1 (Lq ai bi G1) h2 (Lq ai bi G2)) (TT:0<=EE fe.c.node s'.1.A4) (mk:s'.2.2<=1000000000):
  dE h bi a ai t G fe anc far k N m s0 n h2 o2 c2 G2 s':=by
 obtain⟨ok',last',le'⟩:=Vt (blk:=far.node) (anc:=anc.node) (far:=k+1+N) (i:=k+(n+1)) (m:=s.2.2) i.ok i.last;have hl:=i.len;obtain⟨op1,op2⟩:=XS (blk:=far.node) (anc:=anc.node) (far:=k+1+N) (i:=k+(n+1)) (l:=s.2.1) (mk:=s.2.2) (b:=s.1) (by omega);have rm':=Na (blk:=far.node) (anc:=anc.node) (far:=k+1+N) (i:=k+(n+1)) (l:=s.2.1) (mk:=s.2.2) (m:=m+4*n) (i.rm.le (by omega));have MA:=i.AR;have eq':BS.Jk far.node anc.node (k+1+N) k (n+1) s=BS.Jk far.node anc.node (k+1+N) k n (BS.EM far.node anc.node (k+1+N) (k+(n+1)) s.1 s.2.1 s.2.2):=rfl;have eq0:=i.eq.trans eq';rw[<-e] at ok' last' le' op1 op2 rm' eq0;refine⟨by have:=i.le;omega,w,hc,ok',rm',last',st,hn,i.x.trans x,TT,mk,?_,by omega,eq0,le'.has _ i.fe⟩;have:=Ce (λl=>l.take (k+(n+1))) MA;simp only[GV] at this;rw[show k+n+1=k+(n+1) by omega,op1];rwa [Cn (by omega)] at this
theorem aHh{fe:B3}{k N:Nat}{s0:BS×Int×Nat}(i0:dE h bi a ai t G fe anc far k N m s0 N h o c G s0)(Uv:1<=k)(Oz:AK (Bm fe.c.node) s0.1.AR=(k:Int))(hN:k+1+N<s0.1.AR.length):
  ∃h' o' c' G' s',BE cx 176 [Pt bi 0,Pt ai 0,I (k:Int),I ((k+1+N:Nat):Int)] h (.tuple []) h'/\s'=BS.Jk far.node anc.node (k+1+N) k N s0/\dE h bi a ai t G fe anc far k N m s0 0 h' o' c' G' s':=by
 have ho:=i0.rm.AR;have Ik:Ev cx 176 [Pt bi 0,Pt ai 0,I (k:Int),I ((k+1+N:Nat):Int)] h λr h'=>r= .tuple []/\∃o' c' G' s',s'=BS.Jk far.node anc.node (k+1+N) k N s0/\dE h bi a ai t G fe anc far k N m s0 0 h' o' c' G' s':=by
  unfold Ev;rw[nF,aA6];have i1:=CJ (a:=((k+1+N:Nat):Int)) (b:=1) (by omega) (by omega);rw[show((k+1+N:Nat):Int)-1=((k+N:Nat):Int) by omega] at i1;simp only[Az,i1];refine A9 (λn:Nat=>[I ((N-n:Nat):Int),I ((k+n:Nat):Int)]) (λn h1=>∃o c G1 s,dE h bi a ai t G fe anc far k N m s0 n h1 o c G1 s) (λn=>n) N (by rw[DB];rfl) ⟨o,c,_,s0,i0⟩ ?_;rintro n h1 ⟨o1,c1,G1,s,i⟩;cases n with
  |zero=>simp only[Az,↓reduceIte,Bi,show¬(k:Int)<(k:Int) by omega];exact⟨_,rfl,rfl,o1,c1,G1,s,i.eq.symm,i⟩
  |succ n=>
   have hnN:=i.le;have hlen:=i.len;have XT:k+(n+1)<s.1.AR.length:=by omega
   have hwo:=i.rm.AR;have hwa:=i.rm.A4;have Wj:ai≠bi:=λe=>i.hn (.inl e);have hai:ai<h1.length:=(Ah.1 i.st).1;have r1:=VF i.w.sA ((k+(n+1):Nat):Int);rw[Hg XT] at r1;have hxn:=Zo i.ok.dh XT;have hxf:s.1.AR[k+(n+1)].node≠fe.c.node:=by have h2:=Ce (λl=>l[k+(n+1)]?) i.AR;simp only[Cg] at h2;rw[if_pos (by omega),if_pos (by omega),Af XT,Af (by omega)] at h2;obtain⟨_,_,h3⟩:=HR Oz;have h4:=h3 (k+(n+1)) (by omega) (by omega);rw[EC h2];intro h5;unfold Bm at h4;rw[h5] at h4;simp at h4
   have Ua:s.1.AR.getD (k+(n+1)) Item.zero=s.1.AR[k+(n+1)]:=by rw[AE,Af XT];rfl
   generalize s.1.AR[k+(n+1)]=x at*;have r2:=i.hc.at i.w i.rm x.node;obtain⟨q,hq,sJ,hq0,hq2,hq3⟩:=GG i.TT;have inc:Aw (.int .add) [I ((N-(n+1):Nat):Int),I 1]=some (I ((N-n:Nat):Int)):=by have:=BG (n:=N-(n+1)) (by omega);rwa [show N-(n+1)+1=N-n by omega] at this
   have dec:Aw (.int .sub) [I ((k+(n+1):Nat):Int),I 1]=some (I ((k+n:Nat):Int)):=by have:=Hm (n:=k+(n+1)) (by omega) (by omega);rwa [show k+(n+1)-1=k+n by omega] at this
   have uA:(k:Int)<((k+(n+1):Nat):Int):=by omega
   have hrm:∀l:List Item,l=s.1.AR->CF x.node l=A6 l (k+(n+1)):=by intro l e;subst e;unfold CF;rw[hxn,if_neg (by omega),AQ]
   by_cases he:EE x.node s.1.A4<0
   .obtain⟨u,r3,hu⟩:=aBW i.w.sO (by omega) x.node;rw[hrm _ rfl] at hu;have w2:=i.w.Ia hu;have es:({s.1 with AR:=A6 s.1.AR (k+(n+1))},s.2.1,s.2.2)=BS.EM far.node anc.node (k+1+N) (k+(n+1)) s.1 s.2.1 s.2.2:=by unfold BS.EM;simp only[Ua];rw[if_pos he]
    have i2:=i.step es w2 i.hc ((B4 Wj).trans i.st) i.hn (Ek Bd ai) i.TT i.w_;by_cases L3:(3:Int)<((N-n:Nat):Int);·simp only[Az,↓reduceIte,Bi,EB,uA,r1.call,inc,r2.call,L3,he,show¬(0:Int)<=EE x.node s.1.A4 by omega,r3.call,dec];exact AF.next n rfl ⟨_,_,_,_,i2⟩ (by omega)
    .simp only[Az,↓reduceIte,Bi,EB,uA,r1.call,inc,r2.call,L3,he,r3.call,dec];exact AF.next n rfl ⟨_,_,_,_,i2⟩ (by omega)
   .obtain⟨p,hp,ep,Mi,WQ,hp3⟩:=GG (L1.1 he);have D2:(0:Int)<=(p:Int):=by omega
    rw[ep] at r2;have za:s.1.A4[p].node≠fe.c.node:=by rw[WQ];exact hxf
    have ept:(EE x.node s.1.A4).toNat=p:=by rw[ep,AQ]
    by_cases L3:(3:Int)<((N-n:Nat):Int)
    .obtain⟨h2,c2,r3,w2,HV,xa,x2⟩:=pH i.w i.hc i.rm i.st i.hn hp ⟨i.TT,by omega⟩ ⟨by omega,by have:=i.w_;omega⟩;have S2:BQ {s.1 with A4:=A6 s.1.A4 p} (m+4*(n+1)):=i.rm.sub rfl (AY _) CX (Ac _);have r4:=BO.at (b:={s.1 with A4:=A6 s.1.A4 p}) HV w2 S2 x.node;have kV:EE x.node (A6 s.1.A4 p)<0:=by have:=sR (n:=x.node) i.ok.rR (L1.1 he);rwa [ept] at this
     obtain⟨u,r5,hu⟩:=aBW w2.sO (by simp only;omega) x.node;rw[hrm _ rfl] at hu;have w3:=w2.Ia hu;have bj:(((if p<s.2.2 then s.2.2 -1 else s.2.2:Nat)):Int)=down p (s.2.2:Int):=by unfold down;split<;>split<;>omega
     have es:({s.1 with A4:=A6 s.1.A4 p,AR:=A6 s.1.AR (k+(n+1))},s.2.1,if p<s.2.2 then s.2.2 -1 else s.2.2)=BS.EM far.node anc.node (k+1+N) (k+(n+1)) s.1 s.2.1 s.2.2:=by unfold BS.EM;simp only[Ua];rw[if_neg he,if_pos (show k+(n+1)+3<k+1+N by omega),ept]
     have aHi:=XR i.TT hp za;have hd0:0<=down p (EE fe.c.node s.1.A4):=by unfold down;split<;>omega
     have i2:=i.step es w3 HV (by rw[B4 Wj,xa];simp only;rw[aHi,bj]) i.hn (x2.trans (Ek Bd ai)) (by simp only;rw[aHi];exact hd0) (by have:=i.w_;simp only;split<;>omega);simp only[Az,↓reduceIte,Bi,EB,uA,r1.call,inc,r2.call,L3,D2,r3.call,r4.call,kV,r5.call,dec];exact AF.next n rfl ⟨_,_,_,_,i2⟩ (by omega)
    .obtain⟨fs,Gr,hv⟩:=i.hc;have GI:s.1.A4.length=fs.length:=by rw[<-Gr,Ai]
     have aCb:p<fs.length:=by omega
     have efp:fs[p].c=s.1.A4[p]:=by simp only[<-Gr,CY]
     have l3:=i.w.l3;have e1:=AL.Bz (k:= .i64) hv aCb;have l5:Bb h1 none (Pt ai 5)=some (I anc.node):=At.load ⟨_,i.st,rfl⟩;obtain⟨r,r3,hr⟩:=bg fs[p] h1;have Jm:=i.rm.Dl _ (AJ hp);rw[<-efp] at Jm;obtain⟨h2,G2,r4,w2,x2⟩:=az (m:=m+4*n) i.w i.ok (i.rm.le (by omega)) hr fs[p].ok Jm.2 Jm.1 anc.node 1;obtain⟨a_,f,le2⟩:=Mp (nm:=fs[p].c.name) (at_:=fs[p].c.Ax) (p:=anc.node) i.ok IP;have S2:=H7 (m:=m+4*n+1) (nm:=fs[p].c.name) (l:=fs[p].c.Ax) (sp:=1) (p:=anc.node) (i.rm.le (by omega)) Jm.2;have MA:(s.1.D9 fs[p].c.name fs[p].c.Ax 1 anc.node).AR=s.1.AR:=by unfold BS.D9;rw[if_pos IP]
     have Rs:(s.1.D9 fs[p].c.name fs[p].c.Ax 1 anc.node).A4=s.1.A4:=by unfold BS.D9;rw[if_pos IP]
     have es0:BS.EM far.node anc.node (k+1+N) (k+(n+1)) s.1 s.2.1 s.2.2=({s.1.D9 fs[p].c.name fs[p].c.Ax 1 anc.node with a:=(s.1.D9 fs[p].c.name fs[p].c.Ax 1 anc.node).a.Fg (s.1.FE fs[p].c.name fs[p].c.Ax 1).node s.2.1 0,AR:=(s.1.D9 fs[p].c.name fs[p].c.Ax 1 anc.node).AR.set (k+(n+1)) (s.1.FE fs[p].c.name fs[p].c.Ax 1),A4:=(s.1.D9 fs[p].c.name fs[p].c.Ax 1 anc.node).A4.set p {fs[p].c with node:=(s.1.FE fs[p].c.name fs[p].c.Ax 1).node}},(s.1.FE fs[p].c.name fs[p].c.Ax 1).node,if s.2.1=far.node then p+1 else s.2.2):=by unfold BS.EM;simp only[Ua];rw[if_neg he,if_neg (by omega),ept,AE,Af hp,Ib,<-efp]
     have tP:=Mq i.ok f;have hna:=OR i.ok f;have hnf:(s.1.FE fs[p].c.name fs[p].c.Ax 1).node≠fe.c.node:=λe2=>f.new (by rw[e2];exact i.fe);have aL1:=le2.has _ i.last;have aCc:(s.1.FE fs[p].c.name fs[p].c.Ax 1).name.length<=1000:=Ms Jm.1;generalize s.1.FE fs[p].c.name fs[p].c.Ax 1=nw at*;generalize s.1.D9 fs[p].c.name fs[p].c.Ax 1 anc.node=b2 at*;have Rq:¬own bi G2 ai:=λhg=>by
      rcases x2.own ai hg with hg|hg
      .exact i.hn hg
      .omega
     have xa:h2[ai]?=_:=(x2.old ai hai i.hn).trans i.st;obtain⟨u1,t1,r5,Nu⟩:=aK4 w2.sO (by have:=S2.AR;omega) x.node nw;have qw:Od x.node nw b2.AR=b2.AR.set (k+(n+1)) nw:=by unfold Od;rw[MA,hxn,if_neg (by omega),AQ]
     rw[qw] at Nu;have w3:=(w2.Ia Nu).HB (u:=t1);have x3:Df h1 (Lq ai bi G1) (put h2 bi 2 u1++t1) (Lq ai bi G2):=(Ek x2 ai).trans (Ek (Bd.trans (w2.Ia Nu).CN) ai);have ai2:ai<h2.length:=by have:=x2.len;omega
     have st3:(put h2 bi 2 u1++t1)[ai]?=_:=(Ad (by rw[IB];exact ai2)).trans ((B4 Wj).trans xa);have ai3:ai<(put h2 bi 2 u1++t1).length:=by rw[Aq,IB];omega
     generalize put h2 bi 2 u1++t1=h3 at*;have aL2:=(Jm.2).1;obtain⟨u2,t2,e2,he2,r6,Il⟩:=aLh (h:=h3) (id:=bi) (o:=3) (l:=fs) ⟨c1,w3.pB,hv⟩ (by omega) x.node (e:=⟨{fs[p].c with node:=nw.node},fs[p].v,fs[p].ok⟩) (by unfold WK;simp only;omega);have hei:GC x.node fs=(p:Int):=by rw[VQ,Gr,ep]
     rw[hei,if_neg (by omega),AQ] at Il;have w4:=(w3.Kf (u:=u2) (l:=b2.A4.set p {fs[p].c with node:=nw.node})).HB (u:=t2);have hc4:BO (b2.A4.set p {fs[p].c with node:=nw.node}) u2:=⟨_,by rw[Fk,Gr,he2,Rs],Il⟩;have x4:=x3.trans (Ek ((Bd (k:=3) (v:=u2)).trans (BX.CN (u:=t2) (w3.Kf (u:=u2) (l:=b2.A4.set p {fs[p].c with node:=nw.node})))) ai);have st4:(put h3 bi 3 u2++t2)[ai]?=_:=(Ad (by rw[IB];exact ai3)).trans ((B4 Wj).trans st3);generalize put h3 bi 3 u2++t2=h4 at*;have xb:=a_.iI (i:=nw) (k:=k+(n+1)) ⟨f.has,f.kind,f.AX,f.name⟩ (by rw[MA];exact tP);have tZ:=xb.iJ (e:={fs[p].c with node:=nw.node}) (k:=p) ⟨f.has,f.kind⟩ (by simp only[Rs];exact hna);have rm4:BQ {b2 with AR:=b2.AR.set (k+(n+1)) nw,A4:=b2.A4.set p {fs[p].c with node:=nw.node}} (m+4*n+1):=by
      refine⟨S2.n,S2.at_,S2.data,by simp only[Bj];exact S2.AR,by simp only[Bj];exact S2.A4,S2.tm,λe he=>?_,λi hi=>?_⟩
      .rcases Di he with he|rfl
       .exact S2.Dl e he
       .exact Jm
      .rcases Di hi with hi|rfl
       .exact S2.Wk i hi
       .exact aCc
     have l13:Bb h4 none (Pt ai 13)=some (I s.2.1):=At.load ⟨_,st4,rfl⟩;have l9:Bb h4 none (Pt ai 9)=some (I far.node):=At.load ⟨_,st4,rfl⟩;have t4:At h4 ai 4 (I (s.2.2:Int)):=⟨_,st4,rfl⟩;obtain⟨Sj,TD⟩:∃Sj:Nat,Sj=if s.2.1=far.node then p+1 else s.2.2:=⟨_,rfl⟩
     have e5:put h4 ai 4 (I (Sj:Int))=if s.2.1=far.node then put h4 ai 4 (I ((p+1:Nat):Int)) else h4:=by
      rw[TD];split;·rfl
      .exact t4.same
     have st5:=Hh (k:=4) (v:= I (Sj:Int)) st4;have w5:BX (put h4 ai 4 (I (Sj:Int))) bi a u1 u2 t G2 {b2 with AR:=b2.AR.set (k+(n+1)) nw,A4:=b2.A4.set p {fs[p].c with node:=nw.node}}:=w4.CP λj hj=>B4 λe=>Rq (e▸hj);have x5:=x4.trans (Ol (k:=4) (v:= I (Sj:Int)));have ai5:ai<(put h4 ai 4 (I (Sj:Int))).length:=by have:=x5.len;omega
     have t5:Bb (put h4 ai 4 (I (Sj:Int))) none (Pt ai 13)=some (I s.2.1):=At.load ⟨_,st5,rfl⟩;generalize hh5:put h4 ai 4 (I (Sj:Int))=h5 at*;obtain⟨h6,G6,r7,w6,x6⟩:=cV (x:=s.2.1) (p:=nw.node) (bf:=0) w5 tZ rm4;rw[Si (by exact f.kind)] at w6;have hn6:¬own bi G6 ai:=λhg=>by
      rcases x6.own ai hg with hg|hg
      .exact Rq hg
      .omega
     have st6:h6[ai]?=_:=(x6.old ai ai5 Rq).trans st5;have t6:At h6 ai 13 (I s.2.1):=⟨_,st6,rfl⟩;have st7:=Hh (k:=13) (v:= I nw.node) st6;have w7:BX (put h6 ai 13 (I nw.node)) bi a u1 u2 t G6 _:=w6.CP λj hj=>B4 λe=>hn6 (e▸hj);have x7:=(x5.trans (Ek x6 ai)).trans (Ol (k:=13) (v:= I nw.node));have VT:EE fe.c.node (b2.A4.set p {fs[p].c with node:=nw.node})=EE fe.c.node s.1.A4:=by rw[Rs];exact dD i.TT hp za hnf
     rw[<-TD] at es0;have i2:=i.step es0.symm w7 hc4 (by simp only;rw[st7,VT];rfl) hn6 x7 (by simp only;rw[VT];exact i.TT) (by simp only;rw[TD];have:=i.w_;split<;>omega);have sS:fs[p].v.cells=[fs[p].v]:=AL.cells fs[p].ok;have incp:=BG (show p<9223372036854775807 by omega);have r6':BE cx 248 [Pt bi 3,I x.node,.agg [I nw.node,.str fs[p].c.name,fs[p].v]] h3 (.bool (decide (0<=GC x.node fs))) h4:=r6;rw[B3.row] at e1 r3;by_cases Qm:s.2.1=far.node
     .rw[if_pos Qm] at e5;have s5:Cv h4 1 (Pt ai 4) (I ((p+1:Nat):Int))=some h5:=by rw[e5];exact t4.store rfl
      simp only[Az,Nat.reduceLeDiff,↓reduceIte,AI,Bi,EB,uA,r1.call,inc,r2.call,L3,D2,show¬(p:Int)<0 by omega,l3,e1,l5,r3.call,Bv,r4.call,r5.call,sS,r6'.call,l13,l9,AV Qm,incp,s5,t5,r7.call,t6.store (u:= I nw.node) rfl,dec];exact AF.next n rfl ⟨_,_,_,_,i2⟩ (by omega)
     .rw[if_neg Qm] at e5;subst e5;simp only[Az,Nat.reduceLeDiff,↓reduceIte,AI,Bi,EB,uA,r1.call,inc,r2.call,L3,D2,show¬(p:Int)<0 by omega,l3,e1,l5,r3.call,Bv,r4.call,r5.call,sS,r6'.call,l13,l9,Qm,r7.call,t6.store (u:= I nw.node) rfl,dec];exact AF.next n rfl ⟨_,_,_,_,i2⟩ (by omega)
 obtain⟨r,h',hr,rfl,o',c',G',s',e',i'⟩:=Ik.ret;exact⟨h',o',c',G',s',hr,e',i'⟩
end
section
variable{h h':Ae}{bi a ai:Nat}{o c t:Aa}{G G' F:Nat->Prop}{b b':BS}{x:Int}{m:Nat}
variable{nm:As}{av:Aa}{l:List AW}{r:List Aa}{sp p:Int}{e:B3}{at_ mk last:Int}{anc far:Item}
theorem BO.find(hc:BO b.A4 c)(w:BX h bi a o c t G b)(rm:BQ b m)(nm:As):BE cx 172 [Pt bi 3,.str nm] h (I (FL nm b.A4)) h:=by obtain⟨fs,Gr,hv⟩:=hc;have ha:=rm.A4;have:=aK6 w.pB hv (by rw[<-Gr,Ai] at ha;omega) nm;rwa [pD,Gr] at this
theorem VU(hai:h.length<=ai)(x:Df h (Lq ai bi G) h' (Lq ai bi G')):Df h (own bi G) h' (own bi G'):=
 ⟨x.len,λi hi hn=>x.old i hi λhg=>by
  rcases hg with rfl|hg
  .omega
  .exact hn hg,λi hi=>by
  rcases x.own i (.inr hi) with(rfl|h)|h
  .exact .inr hai
  .exact .inl h
  .exact .inr h⟩
theorem Rh{nm:As}{l:List Cd}(h:0<=FL nm l):∃p:Nat,∃hp:p<l.length,FL nm l=(p:Int):=by
 have key:∀r:List Cd,Oi nm r<r.length:=by
  intro r;induction r with
  |nil=>show(-1:Int)<0;decide
  |cons x r ih=>rw[Oi];simp only[Bc];split<;>(try split)<;>omega
 have:=key l.reverse;rw[Wo] at this;refine⟨(FL nm l).toNat,?_,by omega⟩;unfold FL at h⊢;omega
theorem pI{l:List Cd}{f:Nat}(hn:((l.map Cd.node).filter λn=>decide (n≠0)).Nodup)(hf:f<l.length)(h0:l[f].node≠0):EE l[f].node l=(f:Int):=by
 unfold EE;rw[if_neg h0];refine Ll hf (by simp[Vo]) λj hj h=>?_;by_cases he:l[j].node=l[f].node
 .exfalso;have:l=l.take j++l[j]::l.drop (j+1):=by rw[<-AG hj,CK]
  rw[this,BI,Bl,EA,JO,if_pos (by simpa[he] using h0),B7] at hn;have hm:l[f]∈l.take j:=List.mem_take_iff_getElem.2 ⟨f,by omega,rfl⟩;exact hn.2.2 l[f].node (DV.2 ⟨aIk hm,by simpa using h0⟩) l[j].node (by simp) he.symm
 .simp[Vo,he]
theorem dF{v:De}:Df h (Am.Lq ai bi G) (h.set ai v) (Am.Lq ai bi G):=⟨by rw[Bj];exact Ac _,λi _ hn=>Aj λe=>hn (.inl e.symm),λ_ h=> .inl h⟩
theorem aCe(hc:h[ai]?=some (.cells (E6 e at_ mk anc far last)))(i:Item):Cv h 4 (Pt ai 5) (.agg i.row)=some (h.set ai (.cells (E6 e at_ mk i far last))):=by simp only[Cv,hc];rfl
theorem aCf(hc:h[ai]?=some (.cells (E6 e at_ mk anc far last)))(i:Item):Cv h 4 (Pt ai 9) (.agg i.row)=some (h.set ai (.cells (E6 e at_ mk anc i last))):=by simp only[Cv,hc];rfl
theorem aCg(hc:h[ai]?=some (.cells (E6 e at_ mk anc far last))):Bb h (some 3) (Pt ai 0)=some (.agg e.row):=by simp only[Bb,hc];rfl
theorem Py{A:Ar}{n x:Int}{l:List Int}:BS.Cj A n (l++[x])=(BS.Cj A n l).Fg n x 0:=by unfold BS.Cj;rw[List.foldl_append];rfl
theorem aL4(w:BX h bi a o c t G b)(hc:BO b.A4 c)(ok:DG b)(rm:BQ b (m+4*b.AR.length+10))(nm:As):
  ∃h' o' c' G',BE cx 93 [Pt bi 0,.str nm] h (.bool (b.round nm).1) h'/\BX h' bi a o' c' t G' (b.round nm).2/\BO (b.round nm).2.A4 c'/\Df h (own bi G) h' (own bi G'):=by
 have ho:=rm.AR;have Rs:=rm.A4;have r1:=hc.find w rm nm;by_cases hf:FL nm b.A4<0
 .obtain⟨h2,o2,r2,w2,x2⟩:=aG0 w rm nm;have e:b.round nm=(false,b.C1 nm):=by unfold BS.round;simp only;rw[if_pos hf]
  have ea:(b.C1 nm).A4=b.A4:=by
   unfold BS.C1;split;·split<;>rfl
   .rfl
  rw[e];refine⟨h2,o2,c,G,?_,w2,by rw[ea];exact hc,x2⟩;rw[Ab,Qc,vo];simp only[Az,Nat.reduceLeDiff,↓reduceIte,AI,Bi,r1.call,hf,r2.call]
 obtain⟨f,GI,ef⟩:=Rh (L1.1 hf);have dX:¬(f:Int)<0:=by omega
 rw[ef] at r1;have J4:=hc;obtain⟨fs,Gr,hv⟩:=J4;have aL5:b.A4.length=fs.length:=by rw[<-Gr,Ai]
 have efp:fs[f].c=b.A4[f]:=by simp only[<-Gr,CY]
 have l3:=w.l3;have e1:=AL.Bz (k:= .i64) hv (show f<fs.length by omega);generalize hfe:fs[f]=fe at*;have Ua:b.A4.getD f Cd.zero=fe.c:=by rw[AE,Af GI];exact efp.symm
 have sS:fe.v.cells=[fe.v]:=AL.cells fe.ok;have w1:=w.HB (u:=[.cells (E6 fe (f:Int) (f:Int) Item.zero Item.zero 0)]);have st1:(h++[De.cells (E6 fe (f:Int) (f:Int) Item.zero Item.zero 0)])[h.length]?=some (.cells (E6 fe (f:Int) (f:Int) Item.zero Item.zero 0)):=by simp
 have x1:Df h (own bi G) (h++[De.cells (E6 fe (f:Int) (f:Int) Item.zero Item.zero 0)]) (own bi G):=w.CN;have LU:¬own bi G h.length:=by
  rintro(e|hg);·exact absurd w.lt (by omega)
  .exact absurd (w.w.lt hg) (C8 _)
 obtain⟨H1,hH1⟩:∃H1,H1=h++[De.cells (E6 fe (f:Int) (f:Int) Item.zero Item.zero 0)]:=⟨_,rfl⟩;rw[<-hH1] at w1 st1 x1;have l0:Bb H1 none (Pt h.length 0)=some (I fe.c.node):=At.load ⟨_,st1,rfl⟩;have r2:=WM w1.sA (by omega) fe.c.node;have hal:E6 fe (f:Int) (f:Int) Item.zero Item.zero 0=[I fe.c.node,.str fe.c.name,fe.v,I (f:Int),I (f:Int),I 0,I 0,S [],ff,I 0,I 0,S [],ff,I 0]:=rfl;rw[hal] at hH1;rw[B3.row] at e1;by_cases hk:AK (Bm fe.c.node) b.AR<0
 .obtain⟨h2,c2,r3,w2,HV,_,x2⟩:=pH w1 hc rm st1 LU GI ⟨by omega,by omega⟩ ⟨by omega,by omega⟩;have e:b.round nm=(false,{b with A4:=A6 b.A4 f}):=by unfold BS.round;simp only;rw[if_neg hf,ef,AQ,Ua,if_pos hk]
  rw[e];refine⟨h2,o,c2,G,?_,w2,HV,VU (Ac _) ((Ek x1 h.length).trans x2)⟩;rw[Ab,Qc,vo];simp only[Az,Nat.reduceLeDiff,↓reduceIte,AI,Bi,r1.call,dX,l3,e1,<-hH1,l0,r2.call,hk,r3.call]
 obtain⟨k,ek⟩:∃k:Nat,AK (Bm fe.c.node) b.AR=(k:Int):=⟨_,(Nd (L1.1 hk)).symm⟩;obtain⟨Oz,hkq,_⟩:=HR ek;have cQ:¬(k:Int)<0:=by omega
 rw[ek] at r2;by_cases hkz:k=0
 .have e:b.round nm=(false,b):=by unfold BS.round;simp only;rw[if_neg hf,ef,AQ,Ua,if_neg hk,if_pos (.inl (by rw[ek,hkz];rfl))]
  rw[e];refine⟨H1,o,c,G,?_,w1,hc,x1⟩;rw[Ab,Qc,vo];simp only[Az,Nat.reduceLeDiff,↓reduceIte,AI,Bi,r1.call,dX,l3,e1,<-hH1,l0,r2.call,cQ,AV (show(k:Int)=0 by omega)]
 have dG:¬(k:Int)=0:=by omega
 have r3:=aKT w1.sA (by omega) 1 fe.c.node;by_cases O8:I1 (Bm fe.c.node) (IH 1) b.AR.reverse=false
 .have e:b.round nm=(false,b):=by unfold BS.round;simp only;rw[if_neg hf,ef,AQ,Ua,if_neg hk,if_pos (.inr O8)]
  rw[e];refine⟨H1,o,c,G,?_,w1,hc,x1⟩;rw[O8] at r3;rw[Ab,Qc,vo];simp only[Az,Nat.reduceLeDiff,↓reduceIte,AI,Bi,r1.call,dX,l3,e1,<-hH1,l0,r2.call,cQ,dG,r3.call]
 have aCh:I1 (Bm fe.c.node) (IH 1) b.AR.reverse=true:=by simpa using O8
 rw[aCh] at r3;have r4:=aKW w1.sA (by omega) fe.c.node;have zk:¬(AK (Bm fe.c.node) b.AR=0\/I1 (Bm fe.c.node) (IH 1) b.AR.reverse=false):=by rw[ek];rintro(h|h);exact dG h;exact O8 h
 by_cases hfa:Dz fe.c.node b.AR<0
 .have e:b.round nm=(false,{b with AR:=Gd fe.c.node b.AR,A4:=A6 b.A4 f}):=by unfold BS.round;simp only;rw[if_neg hf,ef,AQ,Ua,if_neg hk,if_neg zk,if_pos hfa]
  obtain⟨u,r5,hu⟩:=aGe w1.sO (by omega) fe.c.node;have w2:=w1.Ia hu;have xa:(put H1 bi 2 u)[h.length]?=_:=(B4 (λe=>LU (.inl e))).trans st1;obtain⟨h3,c3,r6,w3,L3,_,x3⟩:=pH w2 hc ((rm.le (m':=0) (by omega)).sub rfl HP (AY _) (Ac _)) xa LU GI ⟨by omega,by omega⟩ ⟨by omega,by omega⟩;rw[e];refine⟨h3,u,c3,G,?_,w3,L3,VU (Ac _) ((Ek (x1.trans Bd) h.length).trans x3)⟩;rw[Ab,Qc,vo];simp only[Az,Nat.reduceLeDiff,↓reduceIte,AI,Bi,r1.call,dX,l3,e1,<-hH1,l0,r2.call,cQ,dG,r3.call,r4.call,hfa,r5.call,r6.call]
 obtain⟨N,hN,eN⟩:∃N:Nat,k+1+N<b.AR.length/\Dz fe.c.node b.AR=((k+1+N:Nat):Int):=by
  have jL:=hfa;rw[HM,if_neg hk,ek,AQ] at jL⊢;unfold Em at jL⊢;split at jL;·rename_i j hj;have:=(HD.1 hj).1;rw[A7] at this;exact⟨j,by omega,by omega⟩
  .omega
 obtain⟨fb,sF⟩:∃fb,fb=b.AR[k+1+N]:=⟨_,rfl⟩;obtain⟨an,qh⟩:∃an,an=b.AR[k-1]'(by omega):=⟨_,rfl⟩;have wE:b.AR.getD (k+1+N) Item.zero=fb:=by rw[AE,Af hN,sF];rfl
 have F_:b.AR.getD (k-1) Item.zero=an:=by rw[AE,Af (by omega),qh];rfl
 have e:b.round nm=(true,BS.FO fe.c fb.node an.node (BS.Jk fb.node an.node (k+1+N) k N (b,fb.node,f))):=by
  unfold BS.round;simp only
  rw[if_neg hf,ef,AQ,Ua,if_neg hk,if_neg zk,if_neg hfa,ek,eN,AQ,AQ,wE,F_,show k+1+N-1 -k=N by omega]
 have sT:=ok.op fb (by rw[sF];exact AJ _);have aCi:b.AR[k].node=fe.c.node:=by simpa[Bm] using hkq
 have qx:b.a.has fe.c.node:=by rw[<-aCi];exact(ok.op _ (AJ _)).1
 have qy:b.A4[f].node≠0:=by rw[<-efp];have:=qx.1;omega
 have VT:=pI ok.rR GI qy;rw[<-efp] at VT;have Jm:=rm.Dl _ (AJ GI);rw[<-efp] at Jm;have Tn:=Hm (n:=k) (by omega) (by omega);have r5:=VF w1.sA ((k-1:Nat):Int);rw[Hg (by omega),<-qh] at r5;have r6:=VF w1.sA ((k+1+N:Nat):Int);rw[Hg hN,<-sF] at r6;have s5:=aCe st1 an;have TX:h.length<H1.length:=(Ah.1 st1).1;have hbn:h.length≠bi:=λe=>LU (.inl e);have xa:(H1.set h.length (.cells (E6 fe f f an Item.zero 0)))[h.length]?=_:=AN TX;have w2:BX (H1.set h.length (.cells (E6 fe f f an Item.zero 0))) bi a o c t G b:=w1.CP λj hj=>Aj λe=>LU (by rw[e];exact hj);have x2:=(Ek x1 h.length).trans (dF (v:= .cells (E6 fe f f an Item.zero 0)));generalize H1.set h.length (.cells (E6 fe f f an Item.zero 0))=H2 at*;have s6:=aCf xa fb;have Xp:h.length<H2.length:=(Ah.1 xa).1;have st3:(H2.set h.length (.cells (E6 fe f f an fb 0)))[h.length]?=_:=AN Xp;have w3:BX (H2.set h.length (.cells (E6 fe f f an fb 0))) bi a o c t G b:=w2.CP λj hj=>Aj λe=>LU (by rw[e];exact hj);have x3:=x2.trans (dF (v:= .cells (E6 fe f f an fb 0)));generalize H2.set h.length (.cells (E6 fe f f an fb 0))=H3 at*;have l9:Bb H3 none (Pt h.length 9)=some (I fb.node):=At.load ⟨_,st3,rfl⟩;have t13:At H3 h.length 13 (I 0):=⟨_,st3,rfl⟩;have s7:=t13.store (u:= I fb.node) rfl;have st4:=Hh (k:=13) (v:= I fb.node) st3;have w4:BX (put H3 h.length 13 (I fb.node)) bi a o c t G b:=w3.CP λj hj=>B4 λe=>LU (by rw[<-e];exact hj);have x4:=x3.trans (Ol (k:=13) (v:= I fb.node));generalize put H3 h.length 13 (I fb.node)=H4 at*;have i0:dE H4 bi a h.length t G fe an fb k N (m+10) (b,fb.node,f) N H4 o c G (b,fb.node,f):=
  ⟨Ac _,w4,hc,ok,rm.le (by omega),sT.1,by rw[VT];exact st4,LU,.refl,by rw[VT];omega,by show f<=1000000000;omega,rfl,by simp only;omega,rfl,qx⟩
 have le0:=(T0 (blk:=fb.node) (anc:=an.node) (far:=k+1+N) (k:=k) (c:=N) (s:=(b,fb.node,f)) ok sT.1).2.2;obtain⟨h5,o5,c5,G5,s',r7,es,i⟩:=aHh i0 (by omega) ek hN;rw[<-es] at le0 e;obtain⟨q,hq,sJ,hq0,hq2,hq3⟩:=GG i.TT;have ist:=i.st;rw[sJ] at ist;have uw:=i.w_;have Wj:h.length≠bi:=hbn;have l5:Bb h5 none (Pt h.length 5)=some (I an.node):=At.load ⟨_,ist,rfl⟩;obtain⟨u6,r8⟩:=qm i.w i.ok i.rm an.node;have w6:=i.w.HB (u:=u6);have w6':=i.w.CN (u:=u6);have hl5:h.length<h5.length:=(Ah.1 ist).1;have st6:(h5++u6)[h.length]?=_:=(Ad hl5).trans ist;have l13:Bb (h5++u6) none (Pt h.length 13)=some (I s'.2.1):=At.load ⟨_,st6,rfl⟩;have hl6:h.length<(h5++u6).length:=by rw[Aq];omega
 obtain⟨h7,G7,r9,w7,x7⟩:=cV (x:=s'.2.1) (p:=(s'.1.place an.node).1) (bf:=(s'.1.place an.node).2) w6 i.ok i.rm;have hn7:¬own bi G7 h.length:=λhg=>by
  rcases x7.own h.length hg with hg|hg
  .exact i.hn hg
  .omega
 have st7:h7[h.length]?=_:=(x7.old h.length hl6 i.hn).trans st6;have l3b:Bb h7 (some 3) (Pt h.length 0)=some (.agg fe.row):=aCg st7;have l9b:Bb h7 none (Pt h.length 9)=some (I fb.node):=At.load ⟨_,st7,rfl⟩;obtain⟨r,pJ,hr⟩:=bg fe h7;have le7:Le s'.1.a (s'.1.a.D0 s'.2.1 (s'.1.place an.node).1 (s'.1.place an.node).2):=H6;have ok7:=i.ok.Jl (M4 (n:=s'.2.1) (p:=(s'.1.place an.node).1) (b:=(s'.1.place an.node).2) i.ok.ok) le7;have rm7:=i.rm.Jl (IZ (x:=s'.2.1) (p:=(s'.1.place an.node).1) (bf:=(s'.1.place an.node).2));obtain⟨b2,MC⟩:∃b2,b2={s'.1 with a:=s'.1.a.D0 s'.2.1 (s'.1.place an.node).1 (s'.1.place an.node).2}:=⟨_,rfl⟩;have Wf:b2.AR=s'.1.AR:=by rw[MC]
 have HV:b2.A4=s'.1.A4:=by rw[MC]
 have le2:Le s'.1.a b2.a:=by rw[MC];exact le7
 rw[<-MC] at w7 ok7 rm7;obtain⟨h8,G8,r11,w8,x8⟩:=az (m:=m+7) w7 ok7 (rm7.le (by omega)) hr fe.ok Jm.2 Jm.1 fb.node 1;obtain⟨dk,fr,le8⟩:=Mp (nm:=fe.c.name) (at_:=fe.c.Ax) (p:=fb.node) ok7 IP;have qz:=H7 (m:=m+7) (nm:=fe.c.name) (l:=fe.c.Ax) (sp:=1) (p:=fb.node) (rm7.le (by omega)) Jm.2;obtain⟨nw,hnw⟩:∃nw,nw=b2.FE fe.c.name fe.c.Ax 1:=⟨_,rfl⟩;obtain⟨b3,tV⟩:∃b3,b3=b2.D9 fe.c.name fe.c.Ax 1 fb.node:=⟨_,rfl⟩;have ho3:b3.AR=s'.1.AR:=by rw[tV,<-Wf];unfold BS.D9;rw[if_pos IP]
 have L3:b3.A4=s'.1.A4:=by rw[tV,<-HV];unfold BS.D9;rw[if_pos IP]
 rw[<-hnw] at r11 fr;rw[<-tV] at w8 dk fr le8 qz;have hl7:h.length<h7.length:=(Ah.1 st7).1;have hn8:¬own bi G8 h.length:=λhg=>by
  rcases x8.own h.length hg with hg|hg
  .exact hn7 hg
  .omega
 have st8:h8[h.length]?=_:=(x8.old h.length hl7 hn7).trans st7;have l9c:Bb h8 none (Pt h.length 9)=some (I fb.node):=At.load ⟨_,st8,rfl⟩;obtain⟨kv,r12,pA⟩:∃v,BE cx 113 [Pt a 0,I fb.node] h8 v h8/\Dh (b3.a.nd fb.node).AZ v:=by obtain⟨n',m',ps,wa⟩:=w8.w.pa;exact vy wa qz.Tq (qz.Tq.AZ dk.ok fb.node)
 have aHp:(b3.a.nd fb.node).AZ.length<=1000000000:=qz.Tq.AZ dk.ok fb.node;have Xf:nw.row=[I nw.node,I nw.AX,.str nw.name,.bool nw.No]:=rfl;rw[B3.row] at pJ l3b;have Ik:Ev cx 93 [Pt bi 0,.str nm] h λr h'=>r= .bool true/\∃o' c' G',BX h' bi a o' c' t G' (BS.FO fe.c fb.node an.node s')/\BO (BS.FO fe.c fb.node an.node s').A4 c'/\Df h (own bi G) h' (own bi G'):=by
  unfold Ev;rw[Qc,vo];simp only[Az,Nat.reduceLeDiff,↓reduceIte,AI,Bi,r1.call,dX,l3,e1,<-hH1,l0,r2.call,cQ,dG,r3.call,r4.call,eN,show¬((k+1+N:Nat):Int)<0 by omega,Tn,r5.call,r6.call,s5,s6,l9,s7];simp only[Az,Bi,r7.call,l5,r8.call];simp only[Az,Bi,l13,r9.call];simp only[Az,l3b,l9b];simp only[Az,↓reduceIte,Bi,EB,pJ.call,Bv,r11.call,l9b];simp only[Az,w8.l0,l9c,r12.call,AL.Cq pA];have xc:Df h (Lq h.length bi G) h8 (Lq h.length bi G8):=(((x4.trans i.x).trans (Ek w6' h.length)).trans (Ek x7 h.length)).trans (Ek x8 h.length);refine Ej (i:=0) (λj:Nat=>[I (j:Int)]) (λj h9=>j<=(b3.a.nd fb.node).AZ.length/\∃G9,BX h9 bi a o5 c5 t G9 {b3 with a:=BS.Cj b3.a nw.node ((b3.a.nd fb.node).AZ.take j)}/\DG {b3 with a:=BS.Cj b3.a nw.node ((b3.a.nd fb.node).AZ.take j)}/\BQ {b3 with a:=BS.Cj b3.a nw.node ((b3.a.nd fb.node).AZ.take j)} (m+7)/\Df h8 (own bi G8) h9 (own bi G9)) (λj=>(b3.a.nd fb.node).AZ.length-j)
   (λj h9=>j=(b3.a.nd fb.node).AZ.length/\∃G9,BX h9 bi a o5 c5 t G9 {b3 with a:=BS.Cj b3.a nw.node ((b3.a.nd fb.node).AZ.take j)}/\DG {b3 with a:=BS.Cj b3.a nw.node ((b3.a.nd fb.node).AZ.take j)}/\BQ {b3 with a:=BS.Cj b3.a nw.node ((b3.a.nd fb.node).AZ.take j)} (m+7)/\Df h8 (own bi G8) h9 (own bi G9)) 0 rfl ⟨AO _,G8,w8,dk,qz,.refl⟩ ?_ ?_
  .rintro j h9 ⟨hj,G9,w9,jM,pK,x9⟩;rcases AT j (b3.a.nd fb.node).AZ.length with hlt|D2
   .have e9:=AL.Bz (k:= .i64) pA hlt;obtain⟨VK,G10,xd,Sk,pL⟩:=cV (x:=(b3.a.nd fb.node).AZ[j]) (p:=nw.node) (bf:=0) w9 jM pK;have lej:=(LD (n:=nw.node) (l:=(b3.a.nd fb.node).AZ.take j) dk.ok).2;rw[Si (by show((BS.Cj b3.a nw.node ((b3.a.nd fb.node).AZ.take j)).nd nw.node).kind=4;rw[lej.kind _ fr.has];exact fr.kind)] at Sk;have hs:BS.Cj b3.a nw.node ((b3.a.nd fb.node).AZ.take (j+1))=(BS.Cj b3.a nw.node ((b3.a.nd fb.node).AZ.take j)).Fg nw.node (b3.a.nd fb.node).AZ[j] 0:=by rw[Av hlt,Py]
    rw[Cc] at e9;simp only[Az,Bi,show(j:Int)<((b3.a.nd fb.node).AZ.length:Int) by omega,e9,xd.call,BG (show j<9223372036854775807 by omega)];refine .next (j+1) rfl ⟨hlt,G10,by rw[hs];exact Sk,?_,?_,x9.trans pL⟩ (by omega)
    .have:=jM.Jl (ON (p:=nw.node) (n:=(b3.a.nd fb.node).AZ[j]) (b:=0) jM.ok) M3;rw[hs];exact this
    .have:=pK.Jl (IY (p:=nw.node) (x:=(b3.a.nd fb.node).AZ[j]) (bf:=0));rw[hs];exact this
   .simp only[Az,Bi,show¬(j:Int)<((b3.a.nd fb.node).AZ.length:Int) by omega];exact .Hy j rfl ⟨by omega,G9,w9,jM,pK,x9⟩
  .rintro j h9 ⟨rfl,G9,w9,jM,pK,x9⟩;rw[Bu] at w9 jM pK;have hl8:h.length<h8.length:=(Ah.1 st8).1;have hn9:¬own bi G9 h.length:=λhg=>by
    rcases x9.own h.length hg with hg|hg
    .exact hn8 hg
    .omega
   have st9:h9[h.length]?=_:=(x9.old h.length hl8 hn8).trans st8;have l9d:Bb h9 none (Pt h.length 9)=some (I fb.node):=At.load ⟨_,st9,rfl⟩;have le9:=(LD (n:=nw.node) (l:=(b3.a.nd fb.node).AZ) dk.ok).2;have lef:Le b.a (BS.Cj b3.a nw.node (b3.a.nd fb.node).AZ):=((le0.trans le2).trans le8).trans le9;obtain⟨VK,G10,xd,Sk,pL⟩:=cV (x:=nw.node) (p:=fb.node) (bf:=0) w9 jM pK;rw[Si (by show((BS.Cj b3.a nw.node (b3.a.nd fb.node).AZ).nd fb.node).kind=4;rw[lef.kind _ sT.1];exact sT.2.1)] at Sk;have ZJ:h.length<h9.length:=(Ah.1 st9).1;have aMb:¬own bi G10 h.length:=λhg=>by
    rcases pL.own h.length hg with hg|hg
    .exact hn9 hg
    .omega
   have aHq:VK[h.length]?=_:=(pL.old h.length ZJ hn9).trans st9;have l3c:Bb VK none (Pt h.length 3)=some (I (q:Int)):=At.load ⟨_,aHq,rfl⟩;have aMc:=pK.Jl (IY (p:=fb.node) (x:=nw.node) (bf:=0));have q_:BO ({b3 with a:=(BS.Cj b3.a nw.node (b3.a.nd fb.node).AZ).Fg fb.node nw.node 0}:BS).A4 c5:=by simp only;rw[L3];exact i.hc
   have hqa:=i.rm.A4;obtain⟨ZH,U0,r14,rh,sU,rj,x11⟩:=pH Sk q_ aMc aHq aMb (k:=q) (by simp only;rw[L3];exact hq) ⟨by omega,by omega⟩ ⟨by omega,by omega⟩;simp only at rh sU;have l1:Bb ZH none (Pt h.length 1)=some (.str fe.c.name):=At.load ⟨_,rj,rfl⟩;have l2:Bb ZH none (Pt h.length 2)=some fe.v:=At.load ⟨_,rj,rfl⟩;have l4:Bb ZH none (Pt h.length 4)=some (I (down q (s'.2.2:Int))):=At.load ⟨_,rj,rfl⟩;obtain⟨fs2,aCm,UC⟩:=sU;have aQ6:b3.A4.length=s'.1.A4.length:=by rw[L3]
   have aQ7:fs2.length<=900000000:=by have h1:=Ce List.length aCm;rw[Ai,Gq (by rw[L3];exact hq)] at h1;omega
   have aL2:=Jm.2.1;obtain⟨u1,e2,he2,r15,Nu⟩:=aLg (h:=ZH) (id:=bi) (o:=3) (l:=fs2) ⟨U0,rh.pB,UC⟩ (by omega) (e:=⟨{fe.c with node:=nw.node},fe.v,fe.ok⟩) (by unfold WK;simp only;omega) (down q (s'.2.2:Int));have aMe:BE cx 177 [Pt bi 3,.agg [I nw.node,.str fe.c.name,fe.v],I (down q (s'.2.2:Int))] ZH (.tuple []) (put ZH bi 3 u1):=r15;obtain⟨Sj,TD⟩:∃Sj:Nat,Sj=if q<s'.2.2 then s'.2.2 -1 else s'.2.2:=⟨_,rfl⟩
   have bj:down q (s'.2.2:Int)=(Sj:Int):=by rw[TD];unfold down;split<;>split<;>omega
   have w12:=rh.Kf (u:=u1) (l:=(A6 b3.A4 q).take (Cl Sj (A6 b3.A4 q).length)++{fe.c with node:=nw.node}::(A6 b3.A4 q).drop (Cl Sj (A6 b3.A4 q).length));have rl:BO ((A6 b3.A4 q).take (Cl Sj (A6 b3.A4 q).length)++{fe.c with node:=nw.node}::(A6 b3.A4 q).drop (Cl Sj (A6 b3.A4 q).length)) u1:=by refine⟨_,?_,Nu⟩;rw[bj,BI,Bl,HS,ND,aCm,he2,<-aCm,Ai]
   have hob:=i.rm.AR;obtain⟨u2,r16,Il⟩:=aBW w12.sO (by simp only;rw[ho3];omega) fe.c.node;have w13:=w12.Ia Il;have dV:(CF fe.c.node b3.AR).length<=s'.1.AR.length:=by rw[<-ho3];exact Kb.length_le
   have aMf:(put (put ZH bi 3 u1) bi 2 u2)[h.length]?=_:=(B4 Wj).trans ((B4 Wj).trans rj);have l9e:Bb (put (put ZH bi 3 u1) bi 2 u2) none (Pt h.length 9)=some (I fb.node):=At.load ⟨_,aMf,rfl⟩;have r17:=WM w13.sA (by simp only;omega) fb.node;have hli: -1<=AK (Bm fb.node) (CF fe.c.node b3.AR)/\AK (Bm fb.node) (CF fe.c.node b3.AR)<=(CF fe.c.node b3.AR).length:=by rcases CQ (q:=Bm fb.node) (l:=CF fe.c.node b3.AR) with⟨h,_⟩|⟨n,h1,h2,_⟩<;>omega
   have add:=OJ (a:=AK (Bm fb.node) (CF fe.c.node b3.AR)) (b:=1) (by omega) (by omega);obtain⟨u3,r18,qt⟩:=aK3 w13.sO (by simp only;omega) nw (AK (Bm fb.node) (CF fe.c.node b3.AR)+1);have w14:=w13.Ia qt;simp only[Az,Nat.reduceLeDiff,↓reduceIte,AI,Bi,EB,l9d,xd.call,l3c,r14.call,l1,l2,sS,l4,aMe.call,r16.call,l9e,r17.call,add,r18.call];have hE:BS.FO fe.c fb.node an.node s'={b3 with a:=(BS.Cj b3.a nw.node (b3.a.nd fb.node).AZ).Fg fb.node nw.node 0,A4:=(A6 b3.A4 q).take (Cl Sj (A6 b3.A4 q).length)++{fe.c with node:=nw.node}::(A6 b3.A4 q).drop (Cl Sj (A6 b3.A4 q).length),AR:=(CF fe.c.node b3.AR).take (En (AK (Bm fb.node) (CF fe.c.node b3.AR)+1) (CF fe.c.node b3.AR).length)++nw::(CF fe.c.node b3.AR).drop (En (AK (Bm fb.node) (CF fe.c.node b3.AR)+1) (CF fe.c.node b3.AR).length)}:=by
    have wK:EE fe.c.node b3.A4=(q:Int):=by rw[L3];exact sJ
    unfold BS.FO;simp only
    rw[<-MC,<-tV,<-hnw,wK,AQ,<-TD]
   rw[hE];refine⟨_,rfl,rfl,u3,u1,G10,w14,rl,VU (Ac _) ?_⟩;exact((((xc.trans (Ek (x9.trans pL) h.length)).trans x11).trans (Ek Bd h.length)).trans (Ek Bd h.length)).trans (Ek Bd h.length)
 obtain⟨r,h',hr,rfl,o',c',G',w',J4,x'⟩:=Ik.ret;rw[e];exact⟨h',o',c',G',hr,w',J4,x'⟩
end
section
variable{h h':Ae}{bi a ai:Nat}{o c t:Aa}{G G' F:Nat->Prop}{b b':BS}{x:Int}{m:Nat}
variable{nm:As}{av:Aa}{l:List AW}{r:List Aa}{sp p:Int}{e:B3}{at_ mk last:Int}{anc far:Item}
theorem sV{blk anc:Int}{far i:Nat}{l:Int}{mk:Nat}:(BS.EM blk anc far i b l mk).1.AR.length<=b.AR.length:=by
 have h1:(A6 b.AR i).length<=b.AR.length:=CX.length_le;unfold BS.EM;simp only
 split;·exact h1
 .split;·exact h1
  .have MA:∀nm l p,(b.D9 nm l 1 p).AR=b.AR:=λnm l p=>by unfold BS.D9;rw[if_pos IP]
   simp only[MA,Bj];exact Ac _
theorem XU{blk anc:Int}{far k m:Nat}:∀{c:Nat} {s:BS×Int×Nat},BQ s.1 (m+4*c)->BQ (BS.Jk blk anc far k c s).1 m/\(BS.Jk blk anc far k c s).1.AR.length<=s.1.AR.length
 |0,s,r=>⟨r.le (by omega),Ac _⟩
 |c+1,s,r=>by have r1:=Na (blk:=blk) (anc:=anc) (far:=far) (i:=k+(c+1)) (l:=s.2.1) (mk:=s.2.2) (m:=m+4*c) (r.le (by omega));have h:=XU (blk:=blk) (anc:=anc) (far:=far) (k:=k) (m:=m) (c:=c) (s:=BS.EM blk anc far (k+(c+1)) s.1 s.2.1 s.2.2) r1;exact⟨h.1,Bt h.2 sV⟩
theorem dH{fe:Cd}{blk anc:Int}{s:BS×Int×Nat}(r:BQ s.1 (m+4))(Jm:fe.name.length<=1000/\DL fe.Ax):BQ (BS.FO fe blk anc s) m/\(BS.FO fe blk anc s).AR.length<=s.1.AR.length+1:=by
 unfold BS.FO;simp only
 generalize XF:s.1.place anc=pb;have r1:=r.Jl (IZ (x:=s.2.1) (p:=pb.1) (bf:=pb.2));generalize MC:({s.1 with a:=s.1.a.D0 s.2.1 pb.1 pb.2}:BS)=b2 at r1;have Wf:b2.AR=s.1.AR:=by rw[<-MC]
 have r3:=H7 (m:=m+1) (nm:=fe.name) (l:=fe.Ax) (sp:=1) (p:=blk) (r1.le (by omega)) Jm.2;have MA:(b2.D9 fe.name fe.Ax 1 blk).AR=b2.AR:=by unfold BS.D9;rw[if_pos IP]
 have hnw:(b2.FE fe.name fe.Ax 1).name.length<=1000:=Ms Jm.1;generalize b2.D9 fe.name fe.Ax 1 blk=b3 at*;generalize b2.FE fe.name fe.Ax 1=n at*;have r4:=r3.Jl ((Pv (n:=n.node) (l:=(b3.a.nd blk).AZ)).trans (IY (p:=blk) (x:=n.node) (bf:=0)));have L2:∀{α:Type} (l:List α) (k:Nat) (y:α),(l.take k++y::l.drop k).length=l.length+1/\∀z∈l.take k++y::l.drop k,z∈l\/z=y:=λl k y=>⟨by rw[Aq,Bc,Al,A7];omega,λz hz=>by
  rcases Ao.1 hz with hz|hz
  .exact .inl (Bf hz)
  .rcases AM.1 hz with rfl|hz
   .exact .inr rfl
   .exact .inl (Bw hz)⟩
 have hr:=Kb (n:=fe.node) (l:=b3.AR);have hd:=CX (l:=b3.A4) (k:=(EE fe.node b3.A4).toNat);have r5:=r4.le (m':=m) (by omega);refine⟨⟨r5.n,r5.at_,r5.data,?_,?_,r5.tm,λe he=>?_,λi hi=>?_⟩,?_⟩;·simp only[(L2 _ _ _).1];have:=hr.length_le;have:=r3.AR;omega
 .simp only[(L2 _ _ _).1];have:=hd.length_le;have:=r3.A4;omega
 .rcases(L2 _ _ _).2 e he with he|rfl
  .exact r3.Dl e (hd.subset he)
  .exact Jm
 .rcases(L2 _ _ _).2 i hi with hi|rfl
  .exact r3.Wk i (hr.subset hi)
  .exact hnw
 .simp only[(L2 _ _ _).1];have h1:=hr.length_le;have h2:=Ce List.length (MA.trans Wf);omega
theorem Nb(r:BQ b (m+4*b.AR.length+10))(nm:As):BQ (b.round nm).2 m/\(b.round nm).2.AR.length<=b.AR.length+1:=by
 have r0:BQ b m:=r.le (by omega);unfold BS.round;simp only
 split
 .have key:(b.C1 nm).a=b.a/\List.Sublist (b.C1 nm).AR b.AR/\(b.C1 nm).A4=b.A4/\(b.C1 nm).tm=b.tm:=by
   unfold BS.C1;split
   .split;·exact⟨rfl,HP.trans EF,rfl,rfl⟩
    .exact⟨rfl,AY _,rfl,rfl⟩
   .exact⟨rfl,AY _,rfl,rfl⟩
  exact⟨r0.sub key.1 key.2.1 (by rw[key.2.2.1];exact AY _) (by rw[key.2.2.2];exact Ac _),Bt key.2.1.length_le (Gg _)⟩
 .rename_i hf;obtain⟨f,GI,ef⟩:=Rh (L1.1 hf);have Ua:b.A4.getD (FL nm b.A4).toNat Cd.zero=b.A4[f]:=by rw[ef,AQ,AE,Af GI];rfl
  have Jm:=r.Dl _ (AJ GI);rw[Ua];split;·exact⟨r0.sub rfl (AY _) CX (Ac _),Gg _⟩
  .split;·exact⟨r0,Gg _⟩
   .split;·exact⟨r0.sub rfl HP CX (Ac _),Bt HP.length_le (Gg _)⟩
    .rename_i hk _ hfa;have hlt:(Dz b.A4[f].node b.AR).toNat-1 -(AK (Bm b.A4[f].node) b.AR).toNat<=b.AR.length:=by
      rw[HM];split;·omega
      .unfold Em;split;·rename_i j hj;have:=(HD.1 hj).1;rw[A7] at this;omega
       .omega
     have h1:=XU (blk:=(b.AR.getD (Dz b.A4[f].node b.AR).toNat Item.zero).node) (anc:=(b.AR.getD ((AK (Bm b.A4[f].node) b.AR).toNat-1) Item.zero).node) (far:=(Dz b.A4[f].node b.AR).toNat) (k:=(AK (Bm b.A4[f].node) b.AR).toNat) (m:=m+4) (c:=(Dz b.A4[f].node b.AR).toNat-1 -(AK (Bm b.A4[f].node) b.AR).toNat) (s:=(b,(b.AR.getD (Dz b.A4[f].node b.AR).toNat Item.zero).node,(FL nm b.A4).toNat)) (r.le (by omega));have h2:=dH (fe:=b.A4[f]) (blk:=(b.AR.getD (Dz b.A4[f].node b.AR).toNat Item.zero).node) (anc:=(b.AR.getD ((AK (Bm b.A4[f].node) b.AR).toNat-1) Item.zero).node) h1.1 Jm;exact⟨h2.1,Bt h2.2 (Nat.succ_le_succ h1.2)⟩
theorem S4:∀{n:Nat} {b:BS} {k:Nat},b.AR.length<=k->BQ b (m+n*(4*(k+n)+10))->BQ (BS.DK n b nm) m/\(BS.DK n b nm).AR.length<=k+n
 |0,b,k,hk,r=>⟨r.le (by omega),hk⟩
 |n+1,b,k,hk,r=>by
  have e:(n+1)*(4*(k+(n+1))+10)=n*(4*(k+1+n)+10)+(4*(k+(n+1))+10):=by rw[BA,Ey,show k+(n+1)=k+1+n by omega]
  rw[e] at r;have h1:=Nb (m:=m+n*(4*(k+1+n)+10)) (r.le (by omega)) nm;unfold BS.DK;simp only
  split;·have h2:=S4 (n:=n) (k:=k+1) (by omega) h1.1;exact⟨h2.1,by omega⟩
  .exact⟨h1.1.le (by omega),by omega⟩
theorem aMg(w:BX h bi a o c t G b)(hc:BO b.A4 c)(ok:DG b)(rm:BQ b (m+8*(4*(b.AR.length+8)+10)))(nm:As):
  ∃h' o' c' G',BE cx 33 [Pt bi 0,.str nm] h (.tuple []) h'/\BX h' bi a o' c' t G' (b.Hp nm)/\BO (b.Hp nm).A4 c'/\Df h (own bi G) h' (own bi G'):=by
 have ho:=rm.AR;have r1:=aGL w rm;have em:Aw (.By 1) [.str nm]=some (.sl 1 ([nm].map CH)):=DE (ws:=[nm]) rfl (by simp);have r2:BE cx 50 [.agg (EU b.AR).row,.sl 1 ([nm].map CH)] h (.bool (Bp [nm] (EU b.AR))) h:=jF (ws:=[nm]) CR (by simp) _ h;have r3:=hc.at w rm (EU b.AR).node;have hpa:b.P9.A4=b.A4:=by unfold BS.P9;split<;>rfl
 by_cases h1:Bp [nm] (EU b.AR)=true/\EE (EU b.AR).node b.A4<0
 .obtain⟨h2,o2,r4,w2,x2⟩:=aG9 w rm;have e:b.Hp nm=b.P9:=by unfold BS.Hp;rw[if_pos h1]
  rw[e];refine⟨h2,o2,c,G,?_,w2,by rw[hpa];exact hc,x2⟩;rw[h1.1] at r2;rw[Ab,iQ,t33];simp only[Az,Bi,EB,(HC w).call,r1.call,em,r2.call,r3.call,h1.2,r4.call]
 have e:b.Hp nm=BS.DK 8 b nm:=by unfold BS.Hp;rw[if_neg h1]
 rw[e];have Ik:Ev cx 33 [Pt bi 0,.str nm] h λr h'=>r= .tuple []/\∃o' c' G',BX h' bi a o' c' t G' (BS.DK 8 b nm)/\BO (BS.DK 8 b nm).A4 c'/\Df h (own bi G) h' (own bi G'):=by
  unfold Ev;rw[iQ,t33];have Hy:∀(Q:Post) (k:EL->List Aa->IT),(∀x vs h1,(x= .exit 0\/x= .ret)->(∃o' c' G',BX h1 bi a o' c' t G' (BS.DK 8 b nm)/\BO (BS.DK 8 b nm).A4 c'/\Df h (own bi G) h1 (own bi G'))->W cx (k x vs) Q h1)->
    W cx (.loop 5 [I 0] (λc13=> .op (.int .lss) [g c13 0,I 8] λv14=> .AH v14 (.call 93 [Pt bi 0,.str nm] λv15=> .op (.un .not) [v15] λv16=> .AH v16 (.ret .ret [g c13 0]) (.op (.int .add) [g c13 0,I 1] λv17=> .ret .normal [v17])) (.ret (.exit 0) [g c13 0])) k) Q h:=by
   intro Q k hk;refine A9 (λn:Nat=>[I ((8 -n:Nat):Int)]) (λn h1=>n<=8/\∃o1 c1 G1 b1,BX h1 bi a o1 c1 t G1 b1/\BO b1.A4 c1/\DG b1/\BQ b1 (m+n*(4*(b.AR.length+8)+10))/\b1.AR.length<=b.AR.length+(8 -n)/\BS.DK 8 b nm=BS.DK n b1 nm/\Df h (own bi G) h1 (own bi G1)) (λn=>n) 8 rfl ⟨Ac _,o,c,G,b,w,hc,ok,rm,by omega,rfl,.refl⟩ ?_;rintro n h1 ⟨hn,o1,c1,G1,b1,w1,Ql,TA,jJ,TX,e1,x1⟩;cases n with
   |zero=>simp only[Az,Bi,show¬((8 -0:Nat):Int)<8 by decide];exact hk _ _ _ (.inl rfl) ⟨o1,c1,G1,by rw[e1];exact w1,by rw[e1];exact Ql,x1⟩
   |succ n=>
    have hsp:(n+1)*(4*(b.AR.length+8)+10)=n*(4*(b.AR.length+8)+10)+(4*(b.AR.length+8)+10):=by rw[BA,Ey]
    rw[hsp] at jJ;have sW:BQ b1 (m+n*(4*(b.AR.length+8)+10)+4*b1.AR.length+10):=jJ.le (by omega);obtain⟨h2,o2,c2,G2,r5,w2,HV,x2⟩:=aL4 w1 Ql TA sW nm;obtain⟨S2,Xp⟩:=Nb sW nm;have a_:=(Vu (nm:=nm) TA).1;have hlt:((8 -(n+1):Nat):Int)<8:=by omega
    have inc:Aw (.int .add) [I ((8 -(n+1):Nat):Int),I 1]=some (I ((8 -n:Nat):Int)):=by have:=BG (n:=8 -(n+1)) (by omega);rwa [show 8 -(n+1)+1=8 -n by omega] at this
    have er:BS.DK (n+1) b1 nm=if(b1.round nm).1 then BS.DK n (b1.round nm).2 nm else(b1.round nm).2:=rfl
    cases hr:(b1.round nm).1 with
    |true=>rw[hr] at r5 er;simp only[Az,Bi,hlt,r5.call,inc];exact AF.next n rfl ⟨by omega,o2,c2,G2,_,w2,HV,a_,S2,by omega,e1.trans er,x1.trans x2⟩ (by omega)
    |false=>rw[hr] at r5 er;simp only[Az,Bi,hlt,r5.call];exact hk _ _ _ (.inr rfl) ⟨o2,c2,G2,by rw[e1,er];exact w2,by rw[e1,er];exact HV,x1.trans x2⟩
  by_cases h2:Bp [nm] (EU b.AR)=true
  .have h3:¬EE (EU b.AR).node b.A4<0:=λh=>h1 ⟨h2,h⟩;rw[h2] at r2;simp only[Az,Bi,EB,(HC w).call,r1.call,em,r2.call,r3.call,h3];refine Hy _ _ ?_;rintro x vs h1 (rfl|rfl) ⟨o',c',G',a1,a2,a3⟩;·simp only[Az];exact⟨_,rfl,rfl,o',c',G',a1,a2,a3⟩
   .simp only[Az];exact⟨_,rfl,rfl,o',c',G',a1,a2,a3⟩
  .have h2:Bp [nm] (EU b.AR)=false:=by simpa using h2
   rw[h2] at r2;simp only[Az,Bi,EB,(HC w).call,r1.call,em,r2.call];refine Hy _ _ ?_;rintro x vs h1 (rfl|rfl) ⟨o',c',G',a1,a2,a3⟩;·simp only[Az];exact⟨_,rfl,rfl,o',c',G',a1,a2,a3⟩
   .simp only[Az];exact⟨_,rfl,rfl,o',c',G',a1,a2,a3⟩
 obtain⟨r,h',hr,rfl,o',c',G',w',J4,x'⟩:=Ik.ret;exact⟨h',o',c',G',hr,w',J4,x'⟩
end
structure dI where
 k:Int
 name:As
 Ax:List AW
 AX:Int
 a:Int
 b:Bool
 s:As
 r:Int
 n:Int
def Mu(h:Int):Item:=⟨h,0,[],false⟩
noncomputable def VV(b:BS)(q:dI):BS×Item:=
 if q.k=1 then(b.Ex q.name q.Ax 1,Mu (b.a.len+1))
 else if q.k=2 then(b.Ex q.name q.Ax q.AX,Mu (b.Oj q.AX))
 else if q.k=3 then(b.Jc q.name q.Ax,Mu (b.a.len+1))
 else if q.k=4 then(b.iA q.r,Item.zero)
 else if q.k=5 then(b.JW q.s q.a,Item.zero)
 else if q.k=6 then(b.OO q.name q.Ax q.n,Item.zero)
 else if q.k=7 then(b.IK,Item.zero)
 else if q.k=8 then(b.Dv,Item.zero)
 else if q.k=9 then(b.C1 q.name,Item.zero)
 else if q.k=10 then(b.Hp q.name,Item.zero)
 else if q.k=11 then(b.HO,Item.zero)
 else if q.k=12 then(b.GF q.Ax q.a,Item.zero)
 else if q.k=13 then(b.C7,Item.zero)
 else if q.k=14 then({b with stop:=true},Item.zero)
 else if q.k=15 then({b with Ei:=q.b},Item.zero)
 else if q.k=16 then({b with tm:=b.tm++[q.n]},Item.zero)
 else if q.k=17 then({b with A4:=b.A4++[Cd.zero]},Item.zero)
 else if q.k=18 then(b.P9,b.iB)
 else if q.k=19 then({b with head:=q.a},Item.zero)
 else if q.k=20 then({b with mode:=q.n},Item.zero)
 else if q.k=21 then({b with A4:=FD b.A4},Item.zero)
 else if q.k=22 then({b with AR:=Dr CC (Bp [q.name]) b.AR},Item.zero)
 else if q.k=23 then({b with Kv:=q.a},Item.zero)
 else if q.k=24 then(b.D9 q.name q.Ax q.AX q.a,b.FE q.name q.Ax q.AX)
 else(b,Item.zero)
structure bk(q:dI):Prop where
 name:q.name.length<=1000
 Ax:DL q.Ax
 s:q.s.length<=1000
 r: -2147483648<=q.r/\q.r<=2147483647
section
variable{b:BS}{q:dI}{m j:Nat}
theorem aCo(o:DG b){nm:As}{l:List AW}{sp p:Int}:DG (b.D9 nm l sp p):=by
 by_cases hs:BS.Ho sp;·exact(Mp o hs).1
 .unfold BS.D9;rw[if_neg hs];exact o
theorem rp(o:DG b):DG {b with A4:=b.A4++[Cd.zero]}:=by have:=o.W_ (e:=Cd.zero) (k:=b.A4.length) (.inl rfl) (.inl rfl);rw[Bu,Fs] at this;exact this
theorem D5{α:Type}{P:α->Prop}{c:Prop}[Decidable c]{x y:α}(h1:P x)(h2:P y):P (if c then x else y):=by split;exact h1;exact h2
theorem VW{P:BS×Item->Prop}(h1:P (b.Ex q.name q.Ax 1,Mu (b.a.len+1)))(h2:P (b.Ex q.name q.Ax q.AX,Mu (b.Oj q.AX)))(h3:P (b.Jc q.name q.Ax,Mu (b.a.len+1)))(h4:P (b.iA q.r,Item.zero))(h5:P (b.JW q.s q.a,Item.zero))(h6:P (b.OO q.name q.Ax q.n,Item.zero))(h7:P (b.IK,Item.zero))(h8:P (b.Dv,Item.zero))(h9:P (b.C1 q.name,Item.zero))(VK:P (b.Hp q.name,Item.zero))(ZH:P (b.HO,Item.zero))(h12:P (b.GF q.Ax q.a,Item.zero))(h13:P (b.C7,Item.zero))(h14:P ({b with stop:=true},Item.zero))(h15:P ({b with Ei:=q.b},Item.zero))(h16:P ({b with tm:=b.tm++[q.n]},Item.zero))(h17:P ({b with A4:=b.A4++[Cd.zero]},Item.zero))(h18:P (b.P9,b.iB))(h19:P ({b with head:=q.a},Item.zero))(h20:P ({b with mode:=q.n},Item.zero))(h21:P ({b with A4:=FD b.A4},Item.zero))(h22:P ({b with AR:=Dr CC (Bp [q.name]) b.AR},Item.zero))(h23:P ({b with Kv:=q.a},Item.zero))(h24:P (b.D9 q.name q.Ax q.AX q.a,b.FE q.name q.Ax q.AX))(h0:P (b,Item.zero)):P (VV b q):=by unfold VV;exact D5 h1 (D5 h2 (D5 h3 (D5 h4 (D5 h5 (D5 h6 (D5 h7 (D5 h8 (D5 h9 (D5 VK (D5 ZH (D5 h12 (D5 h13 (D5 h14 (D5 h15 (D5 h16 (D5 h17 (D5 h18 (D5 h19 (D5 h20 (D5 h21 (D5 h22 (D5 h23 (D5 h24 (h0))))))))))))))))))))))))
theorem aCp(o:DG b):DG (VV b q).1:=VW (P:=λr=>DG r.1) (Qa (nm:=q.name) (at_:=q.Ax) (sp:=1) o) (Qa o) (rU o) (jk o) (iL o) (iM o) (rW o) (iN o) (XE o) (rY o) (Q8 o) (xZ o) (Vs o) (o.of_eq rfl rfl rfl rfl) (o.of_eq rfl rfl rfl rfl) (o.of_eq rfl rfl rfl rfl) (rp o) (yA o) (o.of_eq rfl rfl rfl rfl) (o.of_eq rfl rfl rfl rfl) (o.iG (EX _ _)) (o.YQ EF) (o.of_eq rfl rfl rfl rfl) (aCo o) o
theorem BQ.pM{k m:Nat}{h:Int}{x:Eh}(r:BQ b (m+k))(h1:x.Ax.length<=(b.a.nd h).Ax.length+k\/x.Ax.length<=1000)(h2:x.data.length<=(b.a.nd h).data.length+k\/x.data.length<=100000):BQ {b with a:=b.a.set h x} m:=by
 have hn:(b.a.set h x).n.length=b.a.n.length:=by have:=iy (A:=b.a) (h:=h) (x:=x);unfold Ar.len at this;omega
 have r0:=r.le (m':=m) (by omega);have rn:=r.n;refine⟨by simp only;rw[hn];exact r0.n,λy=>?_,λy=>?_,r0.AR,r0.A4,r0.tm,r0.Dl,r0.Wk⟩
 .simp only;rw[IJ];split;·rename_i hh;have:=r.at_ h;omega
  .exact r0.at_ y
 .simp only;rw[IJ];split;·have:=r.data h;omega
  .exact r0.data y
theorem dJ{m:Nat}{s:As}{p bf:Int}(r:BQ b (m+5))(hs:s.length<=4):BQ {b with a:=BS.Kw b.a s p bf} m:=by
 have Mb:∀d,BQ {b with a:=(b.a.add {kind:=5,Cy:=d,data:=s}).D0 (b.a.len+1) p bf} m:=λd=>((r.le (m':=m+1) (by omega)).Ft (Mr (AO _) (by simp only;omega))).Jl IZ
 have r0:=r.le (m':=m) (by omega);unfold BS.Kw;split
 .split
  .split;·exact BQ.pM (k:=5) r (.inl (by simp only;omega)) (.inl (by simp only[Aq];omega))
   .exact Mb _
  .exact Mb _
 .exact r0
theorem Om{m:Nat}{s:As}{p bf:Int}(r:BQ b (m+5))(hs:s.length<=100000):BQ {b with a:=BS.Eo b.a s p bf} m:=by
 unfold BS.Eo;split;·exact((r.le (m':=m+1) (by omega)).Ft (Mr (AO _) hs)).Jl IZ
 .exact r.le (by omega)
end
section
variable{b:BS}{q:dI}{m j:Nat}{nm:As}
theorem jN{l:List AW}{x:Int}(r:BQ b (m+1000))(hl:l.length<=1000):BQ (b.GF l x) m:=by
 unfold BS.GF;split;·refine BQ.pM (k:=1000) r (.inl ?_) (.inl (by simp only;omega));have:=OM (l:=(b.a.nd x).Ax++BS.plain l);rw[Aq,BS.plain,Ai] at this;unfold BS.plain;simp only;omega
 .exact r.le (by omega)
theorem XV:∀{l:List Cd} {b:BS},(BS.Iv l b).2.AR.length<=b.AR.length+l.length/\(BS.Iv l b).2.A4=b.A4/\(BS.Iv l b).1.length=l.length/\∀e∈(BS.Iv l b).1,∃e'∈l,e.name=e'.name/\e.Ax=e'.Ax
 |[],b=>⟨by simp[BS.Iv],rfl,rfl,λe he=>by simp[BS.Iv] at he⟩
 |e::l,b=>by
  obtain⟨h1,h2,h3,h4⟩:=XV (l:=l) (b:=b.Ex e.name e.Ax 1);have h5:(b.Ex e.name e.Ax 1).AR.length<=b.AR.length+1:=by
   unfold BS.Ex;rw[if_pos IP];simp only
   have:(b.D9 e.name e.Ax 1 (b.place 0).1).AR=b.AR:=by unfold BS.D9;rw[if_pos IP]
   rw[Aq,Bs];first|(rw[this];exact Ac _)|exact Ac _
  rw[BS.Iv];refine⟨by simp only[Bc];omega,by simp only;rw[h2,FF],by simp only[Bc,h3],λe1 he=>?_⟩;rcases AM.1 he with rfl|he
  .exact⟨e,by simp,rfl,rfl⟩
  .obtain⟨e',h6,h7⟩:=h4 e1 he;exact⟨e',by simp[h6],h7⟩
theorem Zp(r:BQ b (m+4*b.A4.length)):BQ b.Dv m/\b.Dv.AR.length<=b.AR.length+b.A4.length/\b.Dv.A4.length=b.A4.length:=by
 have hk:=Rf (b:=b);have r1:=XQ (l:=b.A4.drop b.Ka) (b:=b) (m:=m) (r.le (by rw[A7];omega)) λe he=>r.Dl e (Bw he);obtain⟨h1,h2,h3,h4⟩:=XV (l:=b.A4.drop b.Ka) (b:=b);rw[A7] at h1 h3;have hl:b.Dv.A4.length=b.A4.length:=by unfold BS.Dv;simp only[Aq,Al,h3];omega
 refine⟨⟨r1.n,r1.at_,r1.data,r1.AR,?_,r1.tm,λe he=>?_,r1.Wk⟩,by unfold BS.Dv;simp only;omega,hl⟩;·rw[hl];have:=r.A4;omega
 .unfold BS.Dv at he;simp only at he;rcases Ao.1 he with he|he
  .exact r.Dl e (Bf he)
  .obtain⟨e',h5,h6,h7⟩:=h4 e he;rw[h6,h7];exact r.Dl e' (Bw h5)
theorem dK{blk anc:Int}{far k:Nat}:∀{c:Nat} {s:BS×Int×Nat},(BS.Jk blk anc far k c s).1.A4.length<=s.1.A4.length
 |0,s=>Ac _
 |c+1,s=>by
  refine Bt (dK (c:=c)) ?_;unfold BS.EM;simp only
  split;·exact Ac _
  .split;·exact CX.length_le
   .have:∀nm l p,(s.1.D9 nm l 1 p).A4=s.1.A4:=λnm l p=>by unfold BS.D9;rw[if_pos IP]
    simp only[this,Bj];exact Ac _
theorem sX:(b.round nm).2.A4.length<=b.A4.length+1:=by
 unfold BS.round;simp only
 split
 .have:(b.C1 nm).A4=b.A4:=by
   unfold BS.C1;split;·split<;>rfl
   .rfl
  rw[this];omega
 .split;·exact Bt CX.length_le (Gg _)
  .split;·exact Gg _
   .split;·exact Bt CX.length_le (Gg _)
    .unfold BS.FO;simp only
     generalize hs:BS.Jk _ _ _ _ _ _=s;have h1:s.1.A4.length<=b.A4.length:=by rw[<-hs];exact dK
     have:∀(b2:BS) nm l p,(b2.D9 nm l 1 p).A4=b2.A4:=λb2 nm l p=>by unfold BS.D9;rw[if_pos IP]
     simp only[this,Aq,Bc,Al,A7];have h2:∀k,(A6 s.1.A4 k).length<=s.1.A4.length:=λk=>CX.length_le;refine Bt (m:=(A6 s.1.A4 (EE (b.A4.getD (FL nm b.A4).toNat Cd.zero).node s.1.A4).toNat).length+1) ?_ (Nat.succ_le_succ (Bt (h2 _) h1));omega
theorem VX:∀{n:Nat} {b:BS},(BS.DK n b nm).A4.length<=b.A4.length+n
 |0,b=>Ac _
 |n+1,b=>by
  have h:=sX (b:=b) (nm:=nm);unfold BS.DK;simp only
  split;·have:=VX (n:=n) (b:=(b.round nm).2);omega
  .omega
structure Sz(b:BS)(j:Nat):Prop where
 rm:BQ b (5000000*j)
 AR:b.AR.length+1200*j<=125000
 A4:b.A4.length+10*j<=1100
theorem Sz.of{b':BS}(h:Sz b (j+1))(r:BQ b' (5000000*j))(h1:b'.AR.length<=b.AR.length+1200)(h2:b'.A4.length<=b.A4.length+10):Sz b' j:=⟨r,by have:=h.AR;omega,by have:=h.A4;omega⟩
theorem Sz.VY{k:Nat}(h:Sz b (j+1))(hk:k<=5000000:=by omega):BQ b (5000000*j+k):=h.rm.le (by omega)
theorem Sz.Nz{b':BS}(h:Sz b (j+1))(ha:b'.a=b.a)(ho:b'.AR.Sublist b.AR)(hc:b'.A4.Sublist b.A4)(ht:b'.tm.length<=b.tm.length):Sz b' j:=
 h.of ((h.rm.le (by omega)).sub ha ho hc ht) (by have:=ho.length_le;omega) (by have:=hc.length_le;omega)
theorem Sz.P9(h:Sz b (j+1)):Sz b.P9 j:=by
 unfold BS.P9;split;·exact h.Nz rfl (AY _) (AY _) (Ac _)
 .exact h.Nz rfl (EX _ _) (AY _) (Ac _)
theorem Ri{l:List AW}{sp:Int}:(b.Ex nm l sp).AR.length<=b.AR.length+1200:=by
 unfold BS.Ex;split
 .rename_i hs;have:(b.D9 nm l sp (b.place 0).1).AR=b.AR:=by unfold BS.D9;rw[if_pos hs]
  have:=Ce List.length this;simp only[Aq,Bs];omega
 .omega
theorem jO{l:List AW}:(b.Jc nm l).A4.length<=b.A4.length+10:=by
 unfold BS.Jc;simp only
 obtain⟨l',h1,h2⟩:=Vr (l:=(b.Ex nm l 1).A4) (e:=⟨b.a.len+1,nm,l⟩);rw[h2,Aq,Bs];have:=h1.length_le;rw[FF] at this;omega
theorem aCq(h:Sz b (j+1))(hq:bk q):Sz (VV b q).1 j:=VW (P:=λr=>Sz r.1 j)
 (h.of (Lh (sp:=1) h.VY hq.Ax hq.name) Ri (by rw[FF];omega))
 (h.of (Lh h.VY hq.Ax hq.name) Ri (by rw[FF];omega))
 (h.of (cL h.VY hq.Ax hq.name) Ri jO)
 (h.of (dJ h.VY (VS _)) (Ic _ _) (Ic _ _))
 (by
  dsimp only;unfold BS.JW;split;·exact h.of (Om h.VY (by have:=hq.s;omega)) (Ic _ _) (Ic _ _)
  .exact h.of (Om h.VY (by have:=hq.s;omega)) (Ic _ _) (Ic _ _))
 (h.of ((Lh h.VY hq.Ax hq.name).eq rfl rfl rfl rfl) Ri (by show(b.Ex q.name q.Ax 1).A4.length<=_;rw[FF];omega))
 (by
  dsimp only;unfold BS.IK;split;·exact h.Nz rfl (EF.trans EF) (AY _) (Ac _)
  .exact h.Nz rfl (AY _) (AY _) (Ac _))
 (by dsimp only;have h1:=Zp (m:=5000000*j) (h.rm.le (by have:=h.A4;omega));exact h.of h1.1 (by have:=h.A4;have:=h1.2.1;omega) (by rw[h1.2.2];omega))
 (by
  dsimp only;unfold BS.C1;split
  .split;·exact h.Nz rfl (HP.trans EF) (AY _) (Ac _)
   .exact h.Nz rfl (AY _) (AY _) (Ac _)
  .exact h.Nz rfl (AY _) (AY _) (Ac _))
 (by
  dsimp only;unfold BS.Hp;split;·exact h.P9
  .have h1:=S4 (n:=8) (b:=b) (k:=b.AR.length) (nm:=q.name) (m:=5000000*j) (Ac _) (h.rm.le (by have:=h.AR;omega));exact h.of h1.1 (by have:=h1.2;omega) (by have:=VX (n:=8) (b:=b) (nm:=q.name);omega))
 (h.Nz rfl (AY _) (AY _) (Ac _))
 (by
  dsimp only;have e:(b.GF q.Ax q.a).AR=b.AR/\(b.GF q.Ax q.a).A4=b.A4:=by unfold BS.GF;split<;>exact⟨rfl,rfl⟩
  exact h.of (jN (m:=5000000*j) (h.rm.le (by omega)) hq.Ax.1) (by rw[e.1];omega) (by rw[e.2];omega))
 (by
  dsimp only;unfold BS.C7;split;·exact h.Nz rfl (AY _) (AY _) (Ac _)
  .exact h.Nz rfl (show(Dr CC (Bp [A5]) (Dr Cr CC b.AR)).Sublist b.AR from EF.trans EF) (EX _ _) (show b.tm.dropLast.length<=b.tm.length by simp))
 (h.Nz rfl (AY _) (AY _) (Ac _))
 (h.Nz rfl (AY _) (AY _) (Ac _))
 (by dsimp only;have r:=h.rm.le (m':=5000000*j+1) (by omega);have r0:=r.le (m':=5000000*j) (by omega);exact h.of ⟨r0.n,r0.at_,r0.data,r0.AR,r0.A4,by have:=r.tm;simp only[Aq,Bs];omega,r0.Dl,r0.Wk⟩ (Ic _ _) (Ic _ _))
 (by
  dsimp only;refine h.of ((h.rm.le (m':=5000000*j+1) (by omega)).vi (e:=Cd.zero) (by simp) (λe he=>?_) ⟨by decide,by decide,λa ha=>by cases ha⟩) (Ic _ _) (by simp);rcases Ao.1 he with he|he
  .exact .inl he
  .exact .inr (by simpa using he))
 (h.P9)
 (h.Nz rfl (AY _) (AY _) (Ac _))
 (h.Nz rfl (AY _) (AY _) (Ac _))
 (h.Nz rfl (AY _) (EX _ _) (Ac _))
 (h.Nz rfl EF (AY _) (Ac _))
 (h.Nz rfl (AY _) (AY _) (Ac _))
 (by
  dsimp only;have e:(b.D9 q.name q.Ax q.AX q.a).AR=b.AR/\(b.D9 q.name q.Ax q.AX q.a).A4=b.A4:=by unfold BS.D9;split<;>exact⟨rfl,rfl⟩
  exact h.of (H7 (m:=5000000*j) (h.rm.le (by omega)) hq.Ax) (by rw[e.1];omega) (by rw[e.2];omega))
 (h.Nz rfl (AY _) (AY _) (Ac _))
end
def Kz(q:dI)(av:Aa):List Aa:=[I q.k,.str q.name,av,I q.AX,I q.a,.bool q.b,.str q.s,.int .i32 q.r,I q.n]
section
variable{h h':Ae}{bi a:Nat}{o c t:Aa}{G G' F:Nat->Prop}{b:BS}{x:Int}{m j:Nat}{q:dI}
variable{nm:As}{av:Aa}{l:List AW}{r:List Aa}{sp p:Int}
theorem TE(hv:Bx q.Ax av)(hl:q.Ax.length<=1000)(h:Ae):∃r jP,BE cx 57 [.agg (Kz q av)] h (.agg r) h/\M8 q.name jP r/\Bx q.Ax jP:=by have aX:AS=140737488355328:=rfl;obtain⟨u,e,hu⟩:=AL.Gm (b:=40) hv (by omega);have hc:u.cells=[u]:=AL.cells hu;refine⟨_,u,?_,⟨I 2,ff,S [],ff,S [],ff,ff,ff,S [],.int .i32 0,rfl⟩,hu⟩;rw[Ab,aAn,t57,Kz];simp only[Az,Nat.reduceLeDiff,↓reduceIte,AI,Bi,e,hc]
theorem aCr(i:Item)(h:Ae):BE cx 11 [.agg i.row] h (.agg i.row) h:=by rw[Ab,Z_,t11,Item.row];simp only[Az,Nat.reduceLeDiff,↓reduceIte,AI,Bi]
set_option maxHeartbeats 4000000 in
theorem aMi(w:BX h bi a o c t G b)(hc:BO b.A4 c)(ok:DG b)(sz:Sz b (j+1))(hq:bk q)(hv:Bx q.Ax av):
  ∃h' o' c' t' G',BE cx 23 [Pt bi 0,.agg (Kz q av)] h (.agg (VV b q).2.row) h'/\BX h' bi a o' c' t' G' (VV b q).1/\BO (VV b q).1.A4 c'/\Df h (own bi G) h' (own bi G'):=by
 unfold VV Kz;by_cases k1:q.k=1;·rw[if_pos k1];dsimp only;obtain⟨r,jP,r1,hr,Du⟩:=TE (q:=q) hv hq.Ax.1 h;rw[Kz] at r1;obtain⟨h',o',G',r2,w',x'⟩:=qo (m:=5000000*j) w ok sz.VY hr Du hq.Ax hq.name;refine⟨h',o',c,t,G',?_,w',by rw[FF];exact hc,x'⟩;rw[Ab,E3,SZ];simp only[Az,Nat.reduceLeDiff,↓reduceIte,AI,Bi,AV k1,r1.call,r2.call];try rfl
 rw[if_neg k1];by_cases k2:q.k=2;·rw[if_pos k2];dsimp only;obtain⟨r,jP,r1,hr,Du⟩:=TE (q:=q) hv hq.Ax.1 h;rw[Kz] at r1;obtain⟨h',o',G',r2,w',x'⟩:=aGR (m:=5000000*j) w ok sz.VY hr Du hq.Ax hq.name q.AX;refine⟨h',o',c,t,G',?_,w',by rw[FF];exact hc,x'⟩;rw[Ab,E3,SZ];simp only[Az,Nat.reduceLeDiff,↓reduceIte,AI,Bi,k1,AV k2,r1.call,r2.call];try rfl
 rw[if_neg k2];by_cases k3:q.k=3;·rw[if_pos k3];dsimp only;obtain⟨r,jP,r1,hr,Du⟩:=TE (q:=q) hv hq.Ax.1 h;rw[Kz] at r1;obtain⟨h',o',c',G',r2,w',J4,x'⟩:=aLG (m:=5000000*j) w hc ok sz.VY hr Du hq.Ax hq.name;refine⟨h',o',c',t,G',?_,w',J4,x'⟩;rw[Ab,E3,SZ];simp only[Az,Nat.reduceLeDiff,↓reduceIte,AI,Bi,k1,k2,AV k3,r1.call,r2.call];try rfl
 rw[if_neg k3];by_cases k4:q.k=4;·rw[if_pos k4];dsimp only;obtain⟨h',G',r2,w',x'⟩:=aLI (m:=5000000*j) w ok sz.VY q.r hq.r;refine⟨h',o,c,t,G',?_,w',hc,x'⟩;rw[Ab,E3,SZ];simp only[Az,↓reduceIte,AI,Bi,k1,k2,k3,AV k4,r2.call];try rfl
 rw[if_neg k4];by_cases k5:q.k=5;·rw[if_pos k5];dsimp only;obtain⟨h',G',r2,w',x'⟩:=aLL (m:=5000000*j) w ok sz.VY q.s (by have:=hq.s;omega) q.a;refine⟨h',o,c,t,G',?_,w',hc,x'⟩;rw[Ab,E3,SZ];simp only[Az,↓reduceIte,AI,Bi,k1,k2,k3,k4,AV k5,r2.call];try rfl
 rw[if_neg k5];by_cases k6:q.k=6;·rw[if_pos k6];dsimp only;obtain⟨r,jP,r1,hr,Du⟩:=TE (q:=q) hv hq.Ax.1 h;rw[Kz] at r1;obtain⟨h',o',G',r2,w',x'⟩:=aLM (m:=5000000*j) w ok sz.VY hr Du hq.Ax hq.name q.n;refine⟨h',o',c,t,G',?_,w',by show BO (b.Ex q.name q.Ax 1).A4 c;rw[FF];exact hc,x'⟩;rw[Ab,E3,SZ];simp only[Az,↓reduceIte,AI,Bi,k1,k2,k3,k4,k5,AV k6,r1.call,r2.call];try rfl
 rw[if_neg k6];by_cases k7:q.k=7;·rw[if_pos k7];dsimp only;obtain⟨h',o',r2,w',x'⟩:=aLN w sz.rm;refine⟨h',o',c,t,G,?_,w',by have e:b.IK.A4=b.A4:=(by unfold BS.IK;split<;>rfl);rw[e];exact hc,x'⟩;rw[Ab,E3,SZ];simp only[Az,↓reduceIte,AI,Bi,k1,k2,k3,k4,k5,k6,AV k7,r2.call];try rfl
 rw[if_neg k7];by_cases k8:q.k=8;·rw[if_pos k8];dsimp only;obtain⟨h',o',c',G',r2,w',J4,x'⟩:=aLT (m:=5000000*j) w hc ok (sz.rm.le (by have:=sz.A4;omega));refine⟨h',o',c',t,G',?_,w',J4,x'⟩;rw[Ab,E3,SZ];simp only[Az,↓reduceIte,AI,Bi,k1,k2,k3,k4,k5,k6,k7,AV k8,r2.call];try rfl
 rw[if_neg k8];by_cases k9:q.k=9;·rw[if_pos k9];dsimp only;obtain⟨h',o',r2,w',x'⟩:=aG0 w sz.rm q.name;refine⟨h',o',c,t,G,?_,w',by have e:(b.C1 q.name).A4=b.A4:=(by unfold BS.C1;split;split<;>rfl;rfl);rw[e];exact hc,x'⟩;rw[Ab,E3,SZ];simp only[Az,↓reduceIte,AI,Bi,k1,k2,k3,k4,k5,k6,k7,k8,AV k9,r2.call];try rfl
 rw[if_neg k9];by_cases NA:q.k=10;·rw[if_pos NA];dsimp only;obtain⟨h',o',c',G',r2,w',J4,x'⟩:=aMg (m:=5000000*j) w hc ok (sz.rm.le (by have:=sz.AR;omega)) q.name;refine⟨h',o',c',t,G',?_,w',J4,x'⟩;rw[Ab,E3,SZ];simp only[Az,↓reduceIte,AI,Bi,k1,k2,k3,k4,k5,k6,k7,k8,k9,AV NA,r2.call];try rfl
 rw[if_neg NA];by_cases On:q.k=11;·rw[if_pos On];dsimp only;obtain⟨h',r2,w',x'⟩:=qq w sz.rm;refine⟨h',o,c,t,G,?_,w',hc,x'⟩;rw[Ab,E3,SZ];simp only[Az,↓reduceIte,AI,Bi,k1,k2,k3,k4,k5,k6,k7,k8,k9,NA,AV On,r2.call];try rfl
 rw[if_neg On];by_cases O3:q.k=12;·rw[if_pos O3];dsimp only;obtain⟨r,jP,r1,hr,Du⟩:=TE (q:=q) hv hq.Ax.1 h;rw[Kz] at r1;obtain⟨h',G',r2,w',x'⟩:=aLO (m:=5000000*j) w ok sz.VY hr Du hq.Ax q.a;refine⟨h',o,c,t,G',?_,w',by have e:(b.GF q.Ax q.a).A4=b.A4:=(by unfold BS.GF;split<;>rfl);rw[e];exact hc,x'⟩;rw[Ab,E3,SZ];simp only[Az,↓reduceIte,AI,Bi,k1,k2,k3,k4,k5,k6,k7,k8,k9,NA,On,AV O3,r1.call,r2.call];try rfl
 rw[if_neg O3];by_cases Qg:q.k=13;·rw[if_pos Qg];dsimp only;obtain⟨h',o',c',t',r2,w',J4,x'⟩:=aLP w hc sz.rm;refine⟨h',o',c',t',G,?_,w',J4,x'⟩;rw[Ab,E3,SZ];simp only[Az,↓reduceIte,AI,Bi,k1,k2,k3,k4,k5,k6,k7,k8,k9,NA,On,O3,AV Qg,r2.call];try rfl
 rw[if_neg Qg];by_cases Rj:q.k=14;·rw[if_pos Rj];dsimp only;obtain⟨h',r2,w',x'⟩:=aLR w;refine⟨h',o,c,t,G,?_,w',hc,x'⟩;rw[Ab,E3,SZ];simp only[Az,↓reduceIte,AI,Bi,k1,k2,k3,k4,k5,k6,k7,k8,k9,NA,On,O3,Qg,AV Rj,r2.call];try rfl
 rw[if_neg Rj];by_cases Sl:q.k=15;·rw[if_pos Sl];dsimp only;have w':BX (put h bi 15 (.bool q.b)) bi a o c t G {b with Ei:=q.b}:=w.put rfl rfl w.o w.t;refine⟨put h bi 15 (.bool q.b),o,c,t,G,?_,w',hc,Bd⟩;rw[Ab,E3,SZ];simp only[Az,↓reduceIte,AI,Bi,k1,k2,k3,k4,k5,k6,k7,k8,k9,NA,On,O3,Qg,Rj,AV Sl,w.st (k:=15) (v:= .bool q.b) rfl rfl];try rfl
 rw[if_neg Sl];by_cases TF:q.k=16;·rw[if_pos TF];dsimp only;have htm:=sz.rm.tm;have aX:AS=140737488355328:=rfl;obtain⟨u,e1,hu⟩:=AL.Gm (b:=8) w.t (by omega);have e2:=AL.Ja (b:=8) (a:=q.n) hu (by omega);have em:Aw (.By 1) [I q.n]=some (.sl 1 [Cc q.n]):=rfl;have Il:Dh (b.tm++[q.n]) (.sl 1 ((b.tm++[q.n]).map Cc)):= .mk;have w':=w.jI Il;refine⟨put h bi 6 (.sl 1 ((b.tm++[q.n]).map Cc)),o,c,_,G,?_,w',hc,Bd⟩;rw[Ab,E3,SZ];simp only[Az,↓reduceIte,AI,Bi,k1,k2,k3,k4,k5,k6,k7,k8,k9,NA,On,O3,Qg,Rj,Sl,AV TF,w.l6,e1,em,e2,w.st (k:=6) (v0:=t) rfl (AL.cells Il)];try rfl
 rw[if_neg TF];by_cases VZ:q.k=17;·rw[if_pos VZ];dsimp only;have Rs:=sz.rm.A4;obtain⟨fs,Gr,UC⟩:=hc;obtain⟨u,r2,hu⟩:=f63 (h:=h) (id:=bi) (o:=3) (l:=fs) ⟨c,w.pB,UC⟩ (by rw[<-Gr,Ai] at Rs;omega);have w':=w.Kf (u:=u) (l:=b.A4++[Cd.zero]);have J4:BO (b.A4++[Cd.zero]) u:=⟨_,by rw[BI,Gr];rfl,hu⟩;refine⟨put h bi 3 u,o,u,t,G,?_,w',J4,Bd⟩;rw[Ab,E3,SZ];simp only[Az,↓reduceIte,AI,Bi,k1,k2,k3,k4,k5,k6,k7,k8,k9,NA,On,O3,Qg,Rj,Sl,TF,AV VZ,r2.call];try rfl
 rw[if_neg VZ];by_cases WR:q.k=18;·rw[if_pos WR];dsimp only;obtain⟨h',o',r2,w',x'⟩:=aG9 w sz.rm;have r3:=aCr b.iB h';refine⟨h',o',c,t,G,?_,w',by have e:b.P9.A4=b.A4:=(by unfold BS.P9;split<;>rfl);rw[e];exact hc,x'⟩;rw[Ab,E3,SZ];simp only[Az,↓reduceIte,AI,Bi,EB,k1,k2,k3,k4,k5,k6,k7,k8,k9,NA,On,O3,Qg,Rj,Sl,TF,VZ,AV WR,r2.call,r3.call];try rfl
 rw[if_neg WR];by_cases Zq:q.k=19;·rw[if_pos Zq];dsimp only;have w':BX (put h bi 7 (I q.a)) bi a o c t G {b with head:=q.a}:=w.put rfl rfl w.o w.t;refine⟨put h bi 7 (I q.a),o,c,t,G,?_,w',hc,Bd⟩;rw[Ab,E3,SZ];simp only[Az,↓reduceIte,AI,Bi,k1,k2,k3,k4,k5,k6,k7,k8,k9,NA,On,O3,Qg,Rj,Sl,TF,VZ,WR,AV Zq,w.st (k:=7) (v:= I q.a) rfl rfl];try rfl
 rw[if_neg Zq];by_cases dL:q.k=20;·rw[if_pos dL];dsimp only;have w':=w.cZ q.n;refine⟨put h bi 4 (I q.n),o,c,t,G,?_,w',hc,Bd⟩;rw[Ab,E3,SZ];simp only[Az,↓reduceIte,AI,Bi,k1,k2,k3,k4,k5,k6,k7,k8,k9,NA,On,O3,Qg,Rj,Sl,TF,VZ,WR,Zq,AV dL,w.st (k:=4) (v:= I q.n) rfl rfl];try rfl
 rw[if_neg dL];by_cases jQ:q.k=21;·rw[if_pos jQ];dsimp only;have Rs:=sz.rm.A4;obtain⟨fs,Gr,UC⟩:=hc;obtain⟨u,r2,hu⟩:=f65 (h:=h) (id:=bi) (o:=3) (l:=fs) ⟨c,w.pB,UC⟩ (by rw[<-Gr,Ai] at Rs;omega);have w':=w.Kf (u:=u) (l:=FD b.A4);have J4:BO (FD b.A4) u:=⟨_,by rw[T8,Gr],hu⟩;refine⟨put h bi 3 u,o,u,t,G,?_,w',J4,Bd⟩;rw[Ab,E3,SZ];simp only[Az,↓reduceIte,AI,Bi,k1,k2,k3,k4,k5,k6,k7,k8,k9,NA,On,O3,Qg,Rj,Sl,TF,VZ,WR,Zq,dL,AV jQ,r2.call];try rfl
 rw[if_neg jQ];by_cases sY:q.k=22;·rw[if_pos sY];dsimp only;have ho:=sz.rm.AR;have em:Aw (.By 1) [.str q.name]=some (.sl 1 ([q.name].map CH)):=DE (ws:=[q.name]) rfl (by simp);obtain⟨u,r2,hu⟩:=f66 w.sO (by omega) (CR (ws:=[q.name])) (by simp);have w':=w.Ia hu;refine⟨put h bi 2 u,u,c,t,G,?_,w',hc,Bd⟩;rw[Ab,E3,SZ];simp only[Az,↓reduceIte,AI,Bi,k1,k2,k3,k4,k5,k6,k7,k8,k9,NA,On,O3,Qg,Rj,Sl,TF,VZ,WR,Zq,dL,jQ,AV sY,em,r2.call];try rfl
 rw[if_neg sY];by_cases bl:q.k=23;·rw[if_pos bl];dsimp only;have w':BX (put h bi 8 (I q.a)) bi a o c t G {b with Kv:=q.a}:=w.put rfl rfl w.o w.t;refine⟨put h bi 8 (I q.a),o,c,t,G,?_,w',hc,Bd⟩;rw[Ab,E3,SZ];simp only[Az,↓reduceIte,AI,Bi,k1,k2,k3,k4,k5,k6,k7,k8,k9,NA,On,O3,Qg,Rj,Sl,TF,VZ,WR,Zq,dL,jQ,sY,AV bl,w.st (k:=8) (v:= I q.a) rfl rfl];try rfl
 rw[if_neg bl];by_cases rq:q.k=24;·rw[if_pos rq];dsimp only;obtain⟨r,jP,r1,hr,Du⟩:=TE (q:=q) hv hq.Ax.1 h;rw[Kz] at r1;obtain⟨h',G',r2,w',x'⟩:=az (m:=5000000*j) w ok sz.VY hr Du hq.Ax hq.name q.a q.AX;have r3:=aCr (b.FE q.name q.Ax q.AX) h';refine⟨h',o,c,t,G',?_,w',by have e:(b.D9 q.name q.Ax q.AX q.a).A4=b.A4:=(by unfold BS.D9;split<;>rfl);rw[e];exact hc,x'⟩;rw[Ab,E3,SZ];simp only[Az,↓reduceIte,AI,Bi,EB,k1,k2,k3,k4,k5,k6,k7,k8,k9,NA,On,O3,Qg,Rj,Sl,TF,VZ,WR,Zq,dL,jQ,sY,bl,AV rq,r1.call,r2.call,r3.call];try rfl
 rw[if_neg rq];refine⟨h,o,c,t,G,?_,w,hc,.refl⟩;rw[Ab,E3,SZ];simp only[Az,↓reduceIte,AI,Bi,k1,k2,k3,k4,k5,k6,k7,k8,k9,NA,On,O3,Qg,Rj,Sl,TF,VZ,WR,Zq,dL,jQ,sY,bl,rq];try rfl
end
end Go.Am
end
