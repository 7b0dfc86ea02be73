/- Lemmas -/
import Derived.Test.YtbnogamdhadfcaaGreatDoorT27
set_option linter.unusedVariables false
set_option linter.unusedSimpArgs false
section
namespace Go.Am
open Go
set_option maxRecDepth 100000
def Rf{σ:Type}(enc:σ->List Aa)(DD:σ->Ag->Prop)(μ:σ->Nat)(i:Nat)(GM:σ->Ag->Prop)(s:σ):Post:=
 λx vs h1=>(x= .normal/\∃s',vs=enc s'/\DD s' h1/\μ s'<μ s)\/(x= .exit i/\∃s',vs=enc s'/\GM s' h1)
theorem Rf.next{σ:Type}{enc:σ->List Aa}{DD GM:σ->Ag->Prop}{μ:σ->Nat}{i:Nat}{s:σ}{vs:List Aa}{h:Ag}(s':σ)(e:vs=enc s')(hi:DD s' h)(hl:μ s'<μ s):Rf enc DD μ i GM s .normal vs h:= .inl ⟨rfl,s',e,hi,hl⟩
theorem Rf.GM{σ:Type}{enc:σ->List Aa}{DD GM:σ->Ag->Prop}{μ:σ->Nat}{i:Nat}{s:σ}{vs:List Aa}{h:Ag}(s':σ)(e:vs=enc s')(hi:GM s' h):Rf enc DD μ i GM s (.exit i) vs h:= .inr ⟨rfl,s',e,hi⟩
theorem Db{C:FJ}{Q:Post}{h:Ag}{σ:Type}{key i:Nat}{init:List Aa}{body:List Aa->IT}{k:EN->List Aa->IT}(enc:σ->List Aa)(DD:σ->Ag->Prop)(μ:σ->Nat)(GM:σ->Ag->Prop)(s0:σ)(h0:init=enc s0)(hi:DD s0 h)
  (round:∀s h,DD s h->W C (body (enc s)) (Rf enc DD μ i GM s) h) (hk:∀s h,GM s h->W C (k (.exit i) (enc s)) Q h):W C (.loop key init body k) Q h:=by
 refine Bd enc DD μ s0 h0 hi λs h hs=>W.mono (round s h hs) ?_;rintro x vs h1 (hn|⟨rfl,s',rfl,hf⟩);·exact .inl hn
 .exact .inr ⟨by simp,hk s' h1 hf⟩
theorem XR{h:Ag}{id z:Nat}{Au:List (List Aa)}(hr:∀r∈Au,r.length=z)(hc:h[id]?=some (.cells Au.flatten)){i:Nat}(hi:i<Au.length):A9 h (some z) (Pt id (i*z))=some (.agg Au[i]):=by
 have hl:i*z+z<=Au.flatten.length:=by rw[D0 hr];have:=EA z (show i+1<=Au.length by omega);rwa [BC,Ez] at this
 simp only[A9,hc,Kb];rw[if_pos hl,H6 hr,AH hi,Dc,CV (by rw[hr _ (AI hi)];exact Ac _),Az (by rw[hr _ (AI hi)];exact Ac _)]
section
variable{h h':Ag}{bi a:Nat}{o c t:Aa}{G G' F:Nat->Prop}{b b':BS}{x:Int}{m:Nat}
variable{nm:As}{av:Aa}{l:List AU}{r:List Aa}{sp p:Int}
theorem bk(e:B0)(h:Ag):∃r,BI cx 146 [.agg e.row] h (.agg r) h/\Na e.c.name e.v r:=by have hv:e.v.cells=[e.v]:=AM.cells e.ok;refine⟨_,?_,I 2,ff,S [],ff,S [],ff,ff,ff,S [],.int .i32 0,rfl⟩;rw[Ab,mS,t146,B0.row];simp only[AA,Nat.reduceLeDiff,↓reduceIte,AK,Bi,hv]
theorem XS:∀{l:List Ce} {b:BS} {m:Nat},BR b (m+4*l.length)->(∀e∈l,e.name.length<=1000/\DH e.Ay)->BR (BS.Iw l b).2 m
 |[],b,m,r,_=>by simpa[BS.Iw] using r
 |e::l,b,m,r,hl=>by have h1:=hl e (by simp);rw[BS.Iw];exact XS (Li (m:=m+4*l.length) (r.le (by simp;omega)) h1.2 h1.1) λx hx=>hl x (by simp[hx])
theorem Rg:b.Kf<=b.A3.length:=by unfold BS.Kf;rcases CR (q:=b.settled) (l:=b.A3) with⟨h,_⟩|⟨n,h1,h2,_⟩<;>omega
structure Zn(h:Ag)(bi a:Nat)(t:Aa)(G0:Nat->Prop)(b:BS)(fs:List B0)(id m k:Nat)(h1:Ag):Prop where
 le:k<=fs.length
 low:b.Kf<=k
 ex:∃(o:Aa) (G:Nat->Prop) (b1:BS) (Hc:List B0),BX h1 bi a o (.Ck id 0 fs.length 3) t G b1/\DG b1/\BR b1 (m+4*(fs.length-k))/\h1[id]?=some (.cells (Hc.map B0.row).flatten)/\Hc.length=fs.length/\Hc.drop k=fs.drop k/\
  BS.Dv b={(BS.Iw (b.A3.drop k) b1).2 with A3:=(Hc.take k).map (·.c)++(BS.Iw (b.A3.drop k) b1).1}/\¬own bi G id/\Dh h (own bi G0) h1 (own bi G)
theorem BX.Zo(w:BX h bi a o c t G {b with A3:=b.A3}):BX h bi a o c t G b:=w
theorem On{h1:Ag}{id:Nat}{v v':Aa}(ha:At h id 3 v)(hf:Kp h v=some (h1,v'))(he:h1[id]?=h[id]?):KX h 3 (Pt id 0)=some (Am.put h1 id 3 v'):=by obtain⟨cs,hc,e⟩:=ha;rw[hc] at he;unfold KX;simp only[hc,BJ,e,hf,Ct,he];rw[Hp he]
theorem pH{v:Aa}{l:List B0}(hv:C0 l v):Kp h v=some (h,v):=by rcases hv with rfl|⟨rfl,_⟩<;>rfl
theorem aG5{v:Aa}(hv:C0 [] v)(h:Ag):∃u,BI cx 145 [v] h u h/\C0 [] u:=by
 have e3:=Oc (h:=h) (s:= .sl 3 []) (b:=48) (.inr rfl) hv;rcases hv with rfl|⟨rfl,h0⟩
 .refine⟨.sl 3 [],?_,.mk⟩;rw[Ab,T5,zM];simp only[DR] at e3;simp only[AA,DR,show Aw (.Gp false .sl) [.sl 3 [],.slnil]=some (.bool false) from rfl,show Aw (.By 3) []=some (.sl 3 []) from rfl,e3]
 .refine⟨.slnil,?_,.inr ⟨rfl,rfl⟩⟩;rw[Ab,T5,zM];simp only[AA,show Aw (.Gp false .sl) [.slnil,.slnil]=some (.bool true) from rfl]
theorem Zn.init(w:BX h bi a o c t G b)(ok:DG b)(rm:BR b (m+4*b.A3.length)){fs:List B0}(F0:fs.map (·.c)=b.A3):
  Zn h bi a t G b fs h.length m b.Kf (Am.put (h++[.cells (fs.map B0.row).flatten]) bi 3 (.Ck h.length 0 fs.length 3)):=by
 have Gv:b.A3.length=fs.length:=by rw[<-F0,Ah]
 have hk:=Rg (b:=b);have hne:h.length≠bi:=Nat.ne_of_gt w.lt;refine⟨by omega,Ac _,o,G,b,fs,((w.HB (u:=[.cells (fs.map B0.row).flatten])).Ki (l:=b.A3)).Zo,ok,rm.le (by omega),?_,rfl,rfl,?_,?_,w.CP.trans Bg⟩;·rw[B4 hne];simp
 .unfold BS.Dv;simp only;rw[HV,F0]
 .rintro(rfl|hg);·exact hne rfl
  .exact absurd (w.w.lt hg) (Dg _)
theorem Zn.step{fs:List B0}{id k:Nat}{h1:Ag}(F0:fs.map (·.c)=b.A3)(Jr:∀e∈b.A3,e.name.length<=1000/\DH e.Ay)(hi:h.length<=id)(hlt:k<fs.length)(i:Zn h bi a t G b fs id m k h1):
  ∃(r:List Aa) (h2:Ag) (n:Int),A9 h1 none (Pt bi 3)=some (.Ck id 0 fs.length 3)/\A9 h1 (some 3) (Pt id (k*3))=some (.agg fs[k].row)/\BI cx 146 [.agg fs[k].row] h1 (.agg r) h1/\BI cx 29 [Pt bi 0,.agg r] h1 (I n) h2/\A9 h2 none (Pt bi 3)=some (.Ck id 0 fs.length 3)/\
   Cd h2 1 (Pt id (k*3)) (I n)=some (Am.put h2 id (k*3) (I n))/\Zn h bi a t G b fs id m (k+1) (Am.put h2 id (k*3) (I n)):=by
 obtain⟨o1,G1,b1,Hc,w1,TD,jH,Qk,TZ,YO,sS,LR,x1⟩:=i.ex;have Qe:k<Hc.length:=by omega
 have Gv:b.A3.length=fs.length:=by rw[<-F0,Ah]
 have bl:k<b.A3.length:=by omega
 have e1:Hc[k]=fs[k]:=by have:=Cf (λl=>l[0]?) YO;simp only[CA,Bn] at this;rw[Ai Qe,Ai hlt] at this;exact ED this
 have eb:b.A3[k]=fs[k].c:=by simp only[<-F0,CN]
 have zg:=XR (LW Hc) Qk (i:=k) (by simpa using Qe);rw[CN,e1] at zg;have Jr:=Jr fs[k].c (by rw[<-eb];exact AI bl);obtain⟨r,r1,hr⟩:=bk fs[k] h1;obtain⟨h2,o2,G2,r2,w2,x2⟩:=qt (m:=m+4*(fs.length-(k+1))) w1 TD (jH.le (by omega)) hr fs[k].ok Jr.2 Jr.1;have qT:id<h1.length:=(Ae.1 Qk).1;have HZ:h2[id]?=some (.cells (Hc.map B0.row).flatten):=by rw[x2.old id qT LR];exact Qk
 have Rs:¬own bi G2 id:=λhg=>by
  rcases x2.own id hg with hg|hg
  .exact LR hg
  .omega
 have at2:At h2 id (k*3) (I fs[k].c.node):=⟨_,HZ,by have:=IA (k:=0) (LW Hc) (by decide) (i:=k) (r:=fs[k].row) (by rw[Cc,Ai Qe,e1];rfl);rw[Bn] at this;rw[this];rfl⟩
 let e':B0:=⟨{fs[k].c with node:=b1.a.len+1},fs[k].v,fs[k].ok⟩
 have hrow:(Hc.map B0.row).flatten.set (k*3) (I (b1.a.len+1))=((Hc.set k e').map B0.row).flatten:=by have:=Mw (Au:=Hc.map B0.row) (i:=k) (k:=0) (v:= I (b1.a.len+1)) (LW Hc) (by simpa using Qe) (by decide);rw[Bn] at this;rw[Fj,BZ,if_pos (by rw[D0 (LW Hc),Ah];omega)];rw[Ax] at this;rw[show e'.row=((Hc.map B0.row)[k]'(by simpa using Qe)).set 0 (I (b1.a.len+1)) by rw[CN,e1];rfl];exact this
 have hnb:id≠bi:=λe=>Rs (.inl e);refine⟨r,h2,b1.a.len+1,w1.l3,zg,r1,r2,w2.l3,at2.store rfl,⟨hlt,by have:=i.low;omega,o2,G2,_,Hc.set k e',w2.Cv λj hj=>B4 λe=>Rs (e▸hj),Qb TD,Li (m:=m+4*(fs.length-(k+1))) (jH.le (by omega)) Jr.2 Jr.1,?_,by rw[Be];exact TZ,?_,?_,Rs,⟨by rw[IE];exact(x1.trans x2).len,λj hj hn=>(B4 (by omega)).trans ((x1.trans x2).old j hj hn),(x1.trans x2).own⟩⟩⟩;·rw[Hp HZ,AG (by have:=x2.len;omega),hrow]
 .rw[List.drop_set_of_lt (tO k)];have:=Cf (λl=>l.drop 1) YO;simpa[E9] using this
 .rw[sS,AH bl,eb,BS.Iw];simp only
  congr 1
  rw[Av (by rw[Be];exact Qe),List.getElem_set_self,BE,aId (Ac k),Ax];rfl
theorem aLM(w:BX h bi a o c t G b)(hc:BN b.A3 c)(ok:DG b)(rm:BR b (m+4*b.A3.length)):
  ∃h' o' c' G',BI cx 62 [Pt bi 0] h (.tuple []) h'/\BX h' bi a o' c' t G' b.Dv/\BN b.Dv.A3 c'/\Dh h (own bi G) h' (own bi G'):=by
 have ho:=rm.AR;have Q8:=rm.A3;obtain⟨fs,F0,hcs⟩:=hc;have Gv:b.A3.length=fs.length:=by rw[<-F0,Ah]
 have H5:Ev cx 62 [Pt bi 0] h λr h'=>r= .tuple []/\∃o' c' G',BX h' bi a o' c' t G' b.Dv/\BN b.Dv.A3 c'/\Dh h (own bi G) h' (own bi G'):=by
  unfold Ev;have l3:=w.l3;have lc:=AM.Cp hcs;rw[aAm,t62];simp only[AA,Bi,(Hs w).call,l3,lc];refine Db (i:=0) (λn:Nat=>[I (n:Int)]) (λn h1=>n<=fs.length/\AL b.settled b.A3=AL b.settled (b.A3.take n)/\h1=h) (λn=>n) (λn h1=>n=b.Kf/\h1=h) fs.length rfl ⟨Ac _,by rw[<-Gv,Bu],rfl⟩ ?_ ?_
  .rintro n h1 ⟨hn,ha,rfl⟩;cases n with
   |zero=>simp only[AA,Bi,show¬(0:Int)<((0:Nat):Int) by decide];refine .GM 0 rfl ⟨?_,rfl⟩;unfold BS.Kf;rw[ha];rfl
   |succ n=>
    have hlt:n<b.A3.length:=by omega
    have Ra:n<fs.length:=by omega
    rw[Gb hlt] at ha;have i1:=Ho (n:=n+1) (show 0<n+1 by omega) (show n+1<9223372036854775807 by omega);rw[GJ] at i1;have e1:=AM.BA (k:= .i64) hcs Ra;have en:fs[n].c.node=b.A3[n].node:=by simp only[<-F0,CN]
    have r1:=WN w.sA (by omega) b.A3[n].node;have hK:b.settled b.A3[n]=true->n+1=b.Kf:=by intro hs;rw[if_pos hs] at ha;unfold BS.Kf;rw[ha];omega
    rw[B0.row,en] at e1;simp only[AA,Bi,show(0:Int)<((n+1:Nat):Int) by omega,l3,i1,e1,r1.call,ne_eq];refine⟨λh1=>⟨λh2=>?_,λh2=>?_⟩,λh1=>?_⟩
    .have hs:b.settled b.A3[n]=false:=by unfold BS.settled;rw[AB];omega
     rw[if_neg (by rw[hs];decide)] at ha;exact .next n rfl ⟨by omega,ha,rfl⟩ (by omega)
    .exact .GM (n+1) rfl ⟨hK (by unfold BS.settled;rw[AD];omega),rfl⟩
    .exact .GM (n+1) rfl ⟨hK (by unfold BS.settled;rw[AD];omega),rfl⟩
  .rintro n h1 ⟨rfl,eh⟩;rw[eh];by_cases hne:fs=[]
   .subst hne;have ha:b.A3=[]:=F0.symm;have hK:b.Kf=0:=by have:=Rg (b:=b);rw[ha] at this;exact Nat.le_zero.1 this
    have hb:b.Dv=b:=by unfold BS.Dv;rw[ha];simp only[List.drop_nil,BS.Iw,List.take_nil,BD];rw[<-ha]
    obtain⟨u,r1,hu⟩:=aG5 hcs h;have w1:=(w.Ki (u:=u) (l:=b.A3)).Zo;have e1:=On w1.pC (pH hu) rfl;have lu:=AM.Cp hu;have l3':=w1.l3;rw[BU] at lu;have hz:(b.Kf:Int)=((0:Nat):Int):=by rw[hK]
    simp only[AA,Bi,l3,r1.call,w.st (k:=3) (v0:=c) rfl (AM.cells hu)];refine Db (i:=2) (λn:Nat=>[I (n:Int)]) (λn h1=>n=0/\h1=Am.put h bi 3 u) (λn=>n) (λn h1=>n=0/\h1=Am.put h bi 3 u) 0 (by rw[hz]) ⟨rfl,rfl⟩ ?_ ?_;·rintro n h1 ⟨rfl,rfl⟩;simp only[AA,Bi,l3',lu,show¬((0:Nat):Int)<((0:Nat):Int) by decide];exact .GM 0 rfl ⟨rfl,rfl⟩
    .rintro n h1 ⟨rfl,rfl⟩;simp only[AA,e1];refine⟨_,rfl,rfl,o,u,G,?_,⟨[],by rw[hb,ha];rfl,hu⟩,Bg.trans Bg⟩;rw[hb];exact(w1.Ki (l:=b.A3)).Zo
   .have i0:=Zn.init (m:=m) w ok rm F0;have r1:=aBU (h:=h) hcs hne (by omega);have w0:=w.HB (u:=[.cells (fs.map B0.row).flatten]);simp only[AA,Bi,l3,r1.call,w0.st (k:=3) (v:= .Ck h.length 0 fs.length 3) (v0:=c) rfl rfl];refine Db (i:=2) (λn:Nat=>[I (n:Int)]) (λk h1=>Zn h bi a t G b fs h.length m k h1) (λk=>fs.length-k) (λk h1=>k=fs.length/\Zn h bi a t G b fs h.length m k h1) b.Kf rfl i0 ?_ ?_
    .intro k h1 i;have DY:=i.le;have lm:Aw (.len false) [.Ck h.length 0 fs.length 3]=some (I (fs.length:Int)):=rfl;rcases AN k fs.length with hlt|DT
     .obtain⟨r,h2,n,s1,s2,s3,s4,s5,s6,s7⟩:=Zn.step F0 rm.Dj (Ac _) hlt i;have e1:Aw (.EE 3) [.Ck h.length 0 fs.length 3,I (k:Int)]=some (Pt h.length (k*3)):=DO hlt;simp only[AA,Bi,s1,lm,show(k:Int)<(fs.length:Int) by omega,e1,s2,s3.call,Bx,s4.call,s5,s6,BB (show k<9223372036854775807 by omega)];exact .next (k+1) rfl s7 (by omega)
     .obtain⟨o1,G1,b1,Hc,w1,_⟩:=i.ex;simp only[AA,Bi,w1.l3,lm,show¬(k:Int)<(fs.length:Int) by omega];exact .GM k rfl ⟨by omega,i⟩
    .rintro k h1 ⟨rfl,i⟩;obtain⟨o1,G1,b1,Hc,w1,TD,jH,Qk,TZ,YO,sS,LR,x1⟩:=i.ex;have hf:=JJ (LW Hc) Qk;rw[Ah,TZ] at hf;have hnb:h.length≠bi:=λe=>LR (.inl e);have e1:=On w1.pC hf (by rw[Af hnb]);have w2:BX (h1.set h.length .CH) bi a o1 _ t G1 b1:=w1.Cv λj hj=>Af λe=>LR (by rw[e];exact hj);simp only[AA,e1];have hb:b.Dv={b1 with A3:=Hc.map (·.c)}:=by rw[sS,AY (by omega),Az (by omega)];simp only[BS.Iw,Bv]
     refine⟨_,rfl,rfl,o1,_,G1,by rw[hb];exact w2.Ki,⟨Hc,by rw[hb],.mk⟩,?_⟩;refine Dh.trans ⟨by rw[Be];exact x1.len,λj hj hn=>?_,x1.own⟩ Bg;rw[Af (by omega)];exact x1.old j hj hn
 obtain⟨r,h',hr,rfl,o',c',G',w',Km,x'⟩:=H5.ret;exact⟨h',o',c',G',hr,w',Km,x'⟩
end
theorem qy{id l k:Nat}(hl:0<l)(hk:k<=l):Aw (.Hv 3 false false true) [.Ck id 0 l 3,I (k:Int)]=some (.Ck id 0 k 3):=by
 have e1:EM (k:Int) l=some k:=by unfold EM;rw[if_pos (by omega)];rfl
 simp[Aw,Ja,DJ,e1];omega
theorem qz{id l k:Nat}(hk:k<=l):Aw (.Hv 3 false true false) [.Ck id 0 l 3,I (k:Int)]=some (if k<l then .Ck id (k*3) (l-k) 3 else .sl 3 []):=by
 have e1:EM (k:Int) l=some k:=by unfold EM;rw[if_pos (by omega)];rfl
 simp[Aw,Ja,DJ,e1];split<;>rfl
theorem Gn{α:Type}{l:List α}{k:Nat}(hk:k<l.length):(A7 l k).length=l.length-1:=by unfold A7;rw[Ao,Al,A8];omega
theorem aG6{h:Ag}{id k:Nat}{Au:List (List Aa)}(hr:∀r∈Au,r.length=3)(hc:h[id]?=some (.cells Au.flatten))(hk:k<Au.length)(hb:Au.length<=1000000000):
  ∃FI,BI cx 245 [.Ck id 0 Au.length 3,I (k:Int),I ((k+1:Nat):Int)] h (.Ck id 0 (Au.length-1) 3) (h.set id (.cells ((A7 Au k).flatten++FI))):=by
 have Ha:=(Ae.1 hc).1;have hll:=Gn hk;have Ql:=D0 hr;have hrd:∀r∈A7 Au k,r.length=3:=λr hm=>hr r (by
  unfold A7 at hm;rcases Ap.1 hm with hm|hm
  .exact Bj hm
  .exact Bw hm)
 have kP:=D0 hrd;rw[hll] at kP;have SI:(Au.take k).flatten=Au.flatten.take (k*3):=(Xy hr).symm;have ze:(Au.drop (k+1)).flatten=Au.flatten.drop ((k+1)*3):=(H6 hr).symm;obtain⟨QD,eg,hcl⟩:∃QD,Fl h 3 48 (.Ck id 0 k 3) (if k+1<Au.length then .Ck id ((k+1)*3) (Au.length-(k+1)) 3 else .sl 3 [])=some (h.set id (.cells ((A7 Au k).flatten++QD)),.Ck id 0 (Au.length-1) 3)/\QD.length=3:=by
  have er:Ft h 3 (if k+1<Au.length then .Ck id ((k+1)*3) (Au.length-(k+1)) 3 else .sl 3 [])=some (Au.drop (k+1)):=by
   by_cases OE:k+1<Au.length;·rw[if_pos OE];have e2:=Xz hr (n:=Au.length-(k+1)) (off:=k+1) (by omega);rw[Az (by rw[A8];exact Ac _)] at e2;simp only[Ft,BO,hc,e2];rw[if_pos (by rw[Ql];omega)]
   .rw[if_neg OE,AY (by omega)];rfl
  by_cases aw:k+1=Au.length
  .refine⟨Au.flatten.drop (k*3),?_,by rw[A8,Ql];omega⟩;have ed:Au.drop (k+1)=[]:=AY (by omega);rw[ed] at er;have e3:(A7 Au k).flatten++Au.flatten.drop (k*3)=Au.flatten:=by unfold A7;rw[ed,Bv,SI,CL]
   have e4:h.set id (.cells ((A7 Au k).flatten++Au.flatten.drop (k*3)))=h:=by rw[e3];obtain⟨Xr,e5⟩:=Ae.1 hc;rw[<-e5,Rv]
   simp only[Fl,er,BO];rw[e4,show Au.length-1=k by omega]
  .obtain⟨y,l2,hd⟩:∃y l2,Au.drop (k+1)=y::l2:=⟨_,_,AH (show k+1<Au.length by omega)⟩;have pA:(y::l2).length=Au.length-(k+1):=by rw[<-hd,A8]
   refine⟨Au.flatten.drop ((Au.length-1)*3),?_,by rw[A8,Ql];omega⟩;rw[hd] at er;simp only[Fl,er,hc,BO];rw[pA,if_pos (by rw[Ql];omega)];rw[<-hd,ze,BJ,BJ,show k+(Au.length-(k+1))=Au.length-1 by omega];unfold A7;rw[Wo,SI,ze]
 generalize wj:h.set id (.cells ((A7 Au k).flatten++QD))=h2 at eg;have HZ:h2[id]?=some (.cells ((A7 Au k).flatten++QD)):=by rw[<-wj];exact AG Ha
 have jC:((A7 Au k).flatten++QD).length=Au.length*3:=by rw[Ao,kP,hcl];omega
 have ed:Ed (.p8 3 true true) h2 [.Ck id 0 (Au.length-1) 3,I ((Au.length-1:Nat):Int),I (Au.length:Int)]=some (h2,.Ck id ((Au.length-1)*3) 1 3):=by
  simp only[Ed,ZO,HZ];have e1:EM (Au.length:Int) ((((A7 Au k).flatten++QD).length-0)/3)=some Au.length:=by unfold EM;rw[if_pos (by rw[jC];omega)];rfl
  have e2:EM ((Au.length-1:Nat):Int) Au.length=some (Au.length-1):=by unfold EM;rw[if_pos (by omega)];rfl
  rw[if_pos ⟨trivial,trivial,AO _⟩];simp only[DJ,e1,e2,Ct,BT];rw[if_pos (by rw[jC];omega)];congr 3
  .omega
  .omega
 have ec:Ed (.clear 3 [I 0,S [],.slnil]) h2 [.Ck id ((Au.length-1)*3) 1 3]=some (h.set id (.cells ((A7 Au k).flatten++[I 0,S [],.slnil])),.bool true):=by
  simp only[Ed,Uh,HZ];rw[if_pos ⟨trivial,rfl,by rw[jC];omega⟩];congr 2
  rw[<-wj,List.set_set];congr 2
  rw[KM kP,AY (by rw[jC];omega)];simp
 refine⟨[I 0,S [],.slnil],?_⟩;have elen:∀i n,Aw (.len false) [.Ck i 0 n 3]=some (I (n:Int)):=λ_ _=>rfl;have e3:Ed (.eB 3) h [.Ck id 0 Au.length 3,I (k:Int),I ((k+1:Nat):Int),I (Au.length:Int)]=some (h,.bool true):=by simp only[Ed,Ui];simp;omega
 rw[Ab,oI,aBv];simp only[AA,Bi,elen,e3,show¬(k:Int)=((k+1:Nat):Int) by omega,qy (id:=id) (show 0<Au.length by omega) (show k<=Au.length by omega),qz (id:=id) (show k+1<=Au.length by omega),eg,ed,ec]
theorem Rh{z:Nat}:∀{Au:List (List Aa)} {cs pre:List Aa},(∀r∈Au,r.length=z)->Cm (pre++(Au.flatten++cs)) z pre.length Au.length=Au
 |[],_,_,_=>rfl
 |x::Au,cs,pre,h=>by have hx:=h x (by simp);have:=Rh (Au:=Au) (cs:=cs) (pre:=pre++x) (λr hr=>h r (by simp[hr]));simp only[Ax,Ao,hx] at this;simp only[Dc,Bf,Cm,Ax];rw[NI rfl,KM hx,this]
theorem jI{h:Ag}{id z:Nat}{Au:List (List Aa)}{cs:List Aa}(hr:∀r∈Au,r.length=z)(hc:h[id]?=some (.cells (Au.flatten++cs))):Kp h (.Ck id 0 Au.length z)=some (h.set id .CH,.sl z Au):=by unfold Kp;simp only[hc,BJ];have:=Rh (cs:=cs) (pre:=[]) hr;simp only[BD,BU] at this;rw[if_pos (by rw[Ao,D0 hr];omega),this]
def E8(e:B0)(at_ mk:Int)(anc far:Item)(last:Int):List Aa:=
 [I e.c.node,.str e.c.name,e.v,I at_,I mk,I anc.node,I anc.A0,.str anc.name,.bool anc.Nt,I far.node,I far.A0,.str far.name,.bool far.Nt,I last]
def Lt(ai bi:Nat)(G:Nat->Prop):Nat->Prop:=λi=>i=ai\/own bi G i
section
variable{h h':Ag}{bi a ai:Nat}{o c t:Aa}{G G' F:Nat->Prop}{b b':BS}{x:Int}{m:Nat}
variable{nm:As}{av:Aa}{l:List AU}{r:List Aa}{sp p:Int}{e:B0}{at_ mk last:Int}{anc far:Item}
theorem En(x:Dh h (own bi G) h' (own bi G'))(ai:Nat):Dh h (Lt ai bi G) h' (Lt ai bi G'):=
 ⟨x.len,λi hi hn=>x.old i hi λhg=>hn (.inr hg),λi hi=>by
  rcases hi with hi|hi
  .exact .inl (.inl hi)
  .rcases x.own i hi with h|h
   .exact .inl (.inr h)
   .exact .inr h⟩
theorem Oo{k:Nat}{v:Aa}:Dh h (Am.Lt ai bi G) (put h ai k v) (Am.Lt ai bi G):=⟨by rw[IE];exact Ac _,λi _ hn=>B4 λe=>hn (.inl e),λ_ h=> .inl h⟩
theorem Hk{id k:Nat}{v:Aa}{cs:List Aa}(hc:h[id]?=some (.cells cs)):(put h id k v)[id]?=some (.cells (cs.set k v)):=by rw[Hp hc,AG (Ae.1 hc).1]
def down(k:Nat)(x:Int):Int:=if(k:Int)<x then x-1 else x
set_option maxHeartbeats 1000000 in
theorem pI(w:BX h bi a o c t G b)(hc:BN b.A3 c)(rm:BR b m)(ha:h[ai]?=some (.cells (E8 e at_ mk anc far last)))(hn:¬own bi G ai){k:Nat}(hk:k<b.A3.length)(h1:0<=at_/\at_<=1000000000)(h2:0<=mk/\mk<=1000000000):
  ∃h' c',BI cx 173 [Pt ai 0,Pt bi 0,I (k:Int)] h (.tuple []) h'/\BX h' bi a o c' t G {b with A3:=A7 b.A3 k}/\BN (A7 b.A3 k) c'/\h'[ai]?=some (.cells (E8 e (down k at_) (down k mk) anc far last))/\Dh h (Lt ai bi G) h' (Lt ai bi G):=by
 obtain⟨fs,F0,hcs⟩:=hc;have Q8:=rm.A3;have Gv:b.A3.length=fs.length:=by rw[<-F0,Ah]
 have hne:fs≠[]:=by intro e;rw[Gv,e] at hk;exact absurd hk (Nat.not_lt_zero _)
 have Wk:ai≠bi:=λe=>hn (.inl e);have hai:ai<h.length:=(Ae.1 ha).1;have r1:=aBU (h:=h) hcs hne (by omega);have hX:(h++[C6.cells (fs.map B0.row).flatten])[h.length]?=some (.cells (fs.map B0.row).flatten):=by simp
 obtain⟨FI,r2⟩:=aG6 (LW fs) hX (k:=k) (by simp;omega) (by simp;omega);rw[Ah] at r2;have e2:(h++[C6.cells (fs.map B0.row).flatten]).set h.length (.cells ((A7 (fs.map B0.row) k).flatten++FI))=h++[.cells ((A7 (fs.map B0.row) k).flatten++FI)]:=by rw[BP _ _ (Ac _),CY];rfl
 rw[e2] at r2;generalize hH:h++[C6.cells ((A7 (fs.map B0.row) k).flatten++FI)]=H at r2;have w1:BX H bi a o c t G b:=by rw[<-hH];exact w.HB
 have WD:H[ai]?=some (.cells (E8 e at_ mk anc far last)):=by rw[<-hH,Ad hai];exact ha
 have hX1:H[h.length]?=some (.cells ((A7 (fs.map B0.row) k).flatten++FI)):=by rw[<-hH];simp
 have hL:H.length=h.length+1:=by rw[<-hH];simp
 have x1:Dh h (Lt ai bi G) H (Lt ai bi G):=by rw[<-hH];exact En w.CP ai
 have hbl:bi≠h.length:=db w.lt;have hal:ai≠h.length:=db hai;have s1:=w1.st (k:=3) (v:= .Ck h.length 0 (fs.length-1) 3) (v0:=c) rfl rfl;have w2:=w1.Ki (u:= .Ck h.length 0 (fs.length-1) 3) (l:=b.A3);have Nz:(put H bi 3 (.Ck h.length 0 (fs.length-1) 3))[ai]?=some (.cells (E8 e at_ mk anc far last)):=by rw[B4 Wk];exact WD
 have hX2:(put H bi 3 (.Ck h.length 0 (fs.length-1) 3))[h.length]?=some (.cells ((A7 (fs.map B0.row) k).flatten++FI)):=by rw[B4 (DS hbl)];exact hX1
 have x2:Dh h (Lt ai bi G) (put H bi 3 (.Ck h.length 0 (fs.length-1) 3)) (Lt ai bi G):=x1.trans (En Bg ai);generalize hH2:put H bi 3 (.Ck h.length 0 (fs.length-1) 3)=H2 at*;have hL2:H2.length=h.length+1:=by rw[<-hH2,IE,hL]
 have t3:At H2 ai 3 (I at_):=⟨_,Nz,rfl⟩;have fQ:=Hk (k:=3) (v:= I (down k at_)) Nz;have e3:put H2 ai 3 (I (down k at_))=if(k:Int)<at_ then put H2 ai 3 (I (at_-1)) else H2:=by
  unfold down;split;·rfl
  .exact t3.same
 have w3:BX (put H2 ai 3 (I (down k at_))) bi a o _ t G _:=w2.Cv λj hj=>B4 λe=>hn (e▸hj);have hX3:(put H2 ai 3 (I (down k at_)))[h.length]?=_:=(B4 (DS hal)).trans hX2;have x3:=x2.trans (Oo (k:=3) (v:= I (down k at_)));generalize hH3:put H2 ai 3 (I (down k at_))=H3 at*;have t4:At H3 ai 4 (I mk):=⟨_,fQ,rfl⟩;have ha4:=Hk (k:=4) (v:= I (down k mk)) fQ;have e4:put H3 ai 4 (I (down k mk))=if(k:Int)<mk then put H3 ai 4 (I (mk-1)) else H3:=by
  unfold down;split;·rfl
  .exact t4.same
 have w4:BX (put H3 ai 4 (I (down k mk))) bi a o _ t G _:=w3.Cv λj hj=>B4 λe=>hn (e▸hj);have hX4:(put H3 ai 4 (I (down k mk)))[h.length]?=_:=(B4 (DS hal)).trans hX3;have x4:=x3.trans (Oo (k:=4) (v:= I (down k mk)));generalize hH4:put H3 ai 4 (I (down k mk))=H4 at*;have hrd:∀r∈A7 (fs.map B0.row) k,r.length=3:=λr hm=>LW fs r (by
  unfold A7 at hm;rcases Ap.1 hm with hm|hm
  .exact Bj hm
  .exact Bw hm)
 have f4:=jI hrd hX4;rw[Gn (by simp;omega),Ah] at f4;have e5:=On w4.pC f4 (by rw[Af (DS hbl)]);have w5:BX (H4.set h.length .CH) bi a o _ t G {b with A3:=b.A3}:=w4.Cv λj hj=>Af λe=>by
  subst e;rcases hj with hj|hj
  .exact hbl hj.symm
  .exact absurd (w.w.lt hj) (Dg _)
 have ed:A7 (fs.map B0.row) k=(A7 fs k).map B0.row:=by unfold A7;rw[BE,HV,NG]
 have ec:(A7 fs k).map (·.c)=A7 b.A3 k:=by unfold A7;rw[BE,HV,NG,F0]
 refine⟨_,.sl 3 (A7 (fs.map B0.row) k),?_,w5.Ki (l:=A7 b.A3 k),⟨A7 fs k,ec,by rw[ed];exact .mk⟩,?_,?_⟩
 .have ld3:A9 H2 none (Pt ai 3)=some (I at_):=t3.load;have ld4:A9 H3 none (Pt ai 4)=some (I mk):=t4.load;have inc:=BB (show k<9223372036854775807 by omega);have d3:=CK (show -9223372036854775808<=at_-1 by omega) (show at_-1<9223372036854775808 by omega);have d4:=CK (show -9223372036854775808<=mk-1 by omega) (show mk-1<9223372036854775808 by omega);rw[Ab,nC,aA1];by_cases c3:(k:Int)<at_
  .rw[if_pos c3] at e3;have s3:Cd H2 1 (Pt ai 3) (I (at_-1))=some H3:=by rw[e3];exact t3.store rfl
   by_cases c4:(k:Int)<mk
   .rw[if_pos c4] at e4;have s4:Cd H3 1 (Pt ai 4) (I (mk-1))=some H4:=by rw[e4];exact t4.store rfl
    simp only[AA,Bi,w.l3,r1.call,inc,r2.call,s1,ld3,c3,d3,s3,ld4,c4,d4,s4,e5]
   .rw[if_neg c4] at e4;subst e4;simp only[AA,Bi,w.l3,r1.call,inc,r2.call,s1,ld3,c3,d3,s3,ld4,c4,e5]
  .rw[if_neg c3] at e3;subst e3;by_cases c4:(k:Int)<mk
   .rw[if_pos c4] at e4;have s4:Cd H3 1 (Pt ai 4) (I (mk-1))=some H4:=by rw[e4];exact t4.store rfl
    simp only[AA,Bi,w.l3,r1.call,inc,r2.call,s1,ld3,c3,ld4,c4,d4,s4,e5]
   .rw[if_neg c4] at e4;subst e4;simp only[AA,Bi,w.l3,r1.call,inc,r2.call,s1,ld3,c3,ld4,c4,e5]
 .rw[B4 Wk,Af (DS hal),ha4];rfl
 .refine Dh.trans ⟨by rw[Be];exact x4.len,λj hj hn=>?_,x4.own⟩ (En Bg ai);rw[Af (by omega)];exact x4.old j hj hn
end
section
variable{α:Type}{q:α->Bool}{l:List α}
theorem Lo{p:Nat}(hp:p<l.length)(h1:q l[p]=true)(h2:∀j (hj:j<l.length),p<j->q l[j]=false):AL q l=(p:Int):=by
 rcases CR (q:=q) (l:=l) with⟨e,h⟩|⟨n,hn,e,h3,h4⟩
 .rw[h _ (AI hp)] at h1;exact absurd h1 (by decide)
 .rcases Nat.lt_trichotomy n p with h|h|h
  .have:=h4 p hp h;rw[this] at h1;exact absurd h1 (by decide)
  .rw[e,h]
  .have:=h2 n hn h;rw[this] at h3;exact absurd h3 (by decide)
theorem HT{p:Nat}(e:AL q l=(p:Int)):∃hp:p<l.length,q l[p]=true/\∀j (hj:j<l.length),p<j->q l[j]=false:=by
 rcases CR (q:=q) (l:=l) with⟨e1,h⟩|⟨n,hn,e1,h3,h4⟩
 .omega
 .have:n=p:=by omega
  subst this;exact⟨hn,h3,λj hj h=>h4 j hj h⟩
theorem cZ{k j:Nat}(hk:k<l.length):(A7 l k)[j]?=if j<k then l[j]? else l[j+1]?:=by
 unfold A7;by_cases h:j<k;·rw[if_pos h,Ad (by rw[Al];omega),Ch,if_pos h]
 .rw[if_neg h,A5 (by rw[Al];omega),CA];congr 1
  rw[Al];omega
theorem Nb{k j:Nat}(hk:k<l.length)(hj:j<(A7 l k).length):(A7 l k)[j]=if h:j<k then l[j]'(by omega) else l[j+1]'(by rw[Gn hk] at hj;omega):=by
 have hl:=Gn hk;have:=cZ (j:=j) hk;rw[Ai hj] at this;by_cases h:j<k;·rw[dif_pos h];rw[if_pos h,Ai (by omega)] at this;exact ED this
 .rw[dif_neg h];rw[if_neg h,Ai (by omega)] at this;exact ED this
theorem Zp{p k:Nat}(e:AL q l=(p:Int))(hk:k<l.length)(hne:k≠p):AL q (A7 l k)=down k p:=by
 obtain⟨hp,h1,h2⟩:=HT e;have hl:=Gn hk;unfold down;by_cases hkp:k<p
 .rw[if_pos (by omega),show(p:Int)-1=((p-1:Nat):Int) by omega];refine Lo (by omega) ?_ ?_
  .rw[Nb hk,dif_neg (by omega)];have:p-1+1=p:=by omega
   simp only[this,h1]
  .intro j hj h;rw[Nb hk,dif_neg (by omega)];exact h2 _ _ (by omega)
 .rw[if_neg (by omega)];refine Lo (by omega) ?_ ?_;·rw[Nb hk,dif_pos (by omega)];exact h1
  .intro j hj h;rw[Nb hk];split;·exact h2 _ _ h
   .exact h2 _ _ (by omega)
theorem dA{p k:Nat}{x:α}(e:AL q l=(p:Int))(hne:k≠p)(hx:q x=false):AL q (l.set k x)=(p:Int):=by
 obtain⟨hp,h1,h2⟩:=HT e;refine Lo (by rw[Be];exact hp) ?_ ?_;·rw[List.getElem_set_ne hne];exact h1
 .intro j hj h;rw[List.getElem_set];split;·exact hx
  .rw[Be] at hj;exact h2 j hj h
end
theorem Zq{l:List Item}(hn:(l.map Item.node).Nodup){i:Nat}(hi:i<l.length):AL (Bp l[i].node) l=(i:Int):=by
 refine Lo hi (by simp[Bp]) λj hj h=>?_;by_cases he:l[i].node=l[j].node
 .have h2:(l.map Item.node)[i]'(by simpa using hi)=(l.map Item.node)[j]'(by simpa using hj):=by simpa using he
  exact absurd h2 (List.pairwise_iff_getElem.1 hn i j (by simpa using hi) (by simpa using hj) h)
 .unfold Bp;simpa using λe=>he e.symm
theorem GH{n:Int}{l:List Ce}(h:0<=EG n l):∃p:Nat,∃hp:p<l.length,EG n l=(p:Int)/\n≠0/\l[p].node=n/\AL (Vp n) l=(p:Int):=by
 unfold EG at h⊢;split at h;·omega
 .rename_i h0;rw[if_neg h0];obtain⟨p,hp⟩:∃p:Nat,AL (Vp n) l=(p:Int):=⟨_,(Nj h).symm⟩;obtain⟨h1,h2,_⟩:=HT hp;exact⟨p,h1,hp,h0,by simpa[Vp] using h2,hp⟩
theorem XT{n:Int}{l:List Ce}{k:Nat}(h:0<=EG n l)(hk:k<l.length)(hne:l[k].node≠n):EG n (A7 l k)=down k (EG n l):=by obtain⟨p,hp,e,h0,h1,h2⟩:=GH h;rw[e,<-Zp h2 hk (by rintro rfl;exact hne h1)];unfold EG;rw[if_neg h0]
theorem dB{n:Int}{l:List Ce}{k:Nat}{x:Ce}(h:0<=EG n l)(hk:k<l.length)(hne:l[k].node≠n)(hx:x.node≠n):EG n (l.set k x)=EG n l:=by obtain⟨p,hp,e,h0,h1,h2⟩:=GH h;rw[e,<-dA (x:=x) (k:=k) h2 (by rintro rfl;exact hne h1) (by simp[Vp];exact hx)];unfold EG;rw[if_neg h0]
theorem sT{n:Int}{l:List Ce}(hn:((l.map Ce.node).filter λn=>decide (n≠0)).Nodup)(h:0<=EG n l):EG n (A7 l (EG n l).toNat)<0:=by
 obtain⟨p,hp,e,h0,h1,h2⟩:=GH h;rw[e,AS];refine Int.not_le.1 λh3=>?_;obtain⟨p2,hp2,e2,_,h4,_⟩:=GH h3;have:l=l.take p++l[p]::l.drop (p+1):=by rw[<-AH hp,CL]
 rw[this,BE,Bm,EB,JT,if_pos (by simpa[h1] using h0),B8,BY] at hn;have hm:=AI hp2;generalize(A7 l p)[p2]=y at hm h4;unfold A7 at hm;rcases Ap.1 hm with hm|hm
 .exact hn.2.2 y.node (DX.2 ⟨aIe hm,by simpa[h4] using h0⟩) l[p].node (by simp) (by rw[h4,h1])
 .exact hn.2.1.1 (DX.2 ⟨by rw[h1,<-h4];exact aIe hm,by simpa[h1] using h0⟩)
section
variable{h h':Ag}{bi a ai:Nat}{o c t:Aa}{G G' F:Nat->Prop}{b b':BS}{x:Int}{m:Nat}
variable{nm:As}{av:Aa}{l:List AU}{r:List Aa}{sp p:Int}{e:B0}{at_ mk last:Int}{anc far:Item}
theorem Nc{blk anc:Int}{far i:Nat}{l:Int}{mk m:Nat}(r:BR b (m+4)):BR (BS.EO blk anc far i b l mk).1 m:=by
 unfold BS.EO;simp only
 split;·exact(r.le (by omega)).sub rfl CX (AX _) (Ac _)
 .split;·exact(r.le (by omega)).sub rfl CX CX (Ac _)
  .rename_i he _;obtain⟨p,hp,e1,_,_,_⟩:=GH (L0.1 he);rw[e1,AS,AE,Ai hp,Ih];have Jr:=r.Dj _ (AI hp);have r1:=Ic (m:=m+1) (nm:=b.A3[p].name) (l:=b.A3[p].Ay) (sp:=1) (p:=anc) (r.le (by omega)) Jr.2;have r2:=(r1.le (m':=m) (by omega)).Jq (I3 (p:=(b.FE b.A3[p].name b.A3[p].Ay 1).node) (x:=l) (bf:=0));refine⟨r2.n,r2.at_,r2.data,by simp only[Be];exact r2.AR,by simp only[Be];exact r2.A3,r2.tm,λe he=>?_,λi hi=>?_⟩
   .rcases Dk he with he|rfl
    .exact r2.Dj e he
    .exact Jr
   .rcases Dk hi with hi|rfl
    .exact r2.Wl i hi
    .exact Mv Jr.1
end
theorem Sk{A:Ar}{x p bf:Int}(h:(A.nd p).kind=4):A.D3 x p bf=A.Fg p x bf:=by unfold Ar.D3;rw[if_neg (by rw[h];intro h;exact absurd h.1 (by decide))]
section
variable{h h':Ag}{bi a ai:Nat}{o c t:Aa}{G G' F:Nat->Prop}{b b':BS}{x:Int}{m:Nat}
variable{nm:As}{av:Aa}{l:List AU}{r:List Aa}{sp p:Int}{e:B0}{at_ mk last:Int}{anc far:Item}
theorem BN.at(hc:BN b.A3 c)(w:BX h bi a o c t G b)(rm:BR b m)(n:Int):BI cx 92 [Pt bi 3,I n] h (I (EG n b.A3)) h:=by obtain⟨fs,F0,hv⟩:=hc;have ha:=rm.A3;have:=f41 w.pC hv (by rw[<-F0,Ah] at ha;omega) n;rwa [VS,F0] at this
structure dC(h:Ag)(bi a ai:Nat)(t:Aa)(G0:Nat->Prop)(fe:B0)(anc far:Item)(k N m:Nat)(s0:BS×Int×Nat)(n:Nat)(h1:Ag)(o c:Aa)(G:Nat->Prop)(s:BS×Int×Nat):Prop where
 le:n<=N
 w:BX h1 bi a o c t G s.1
 hc:BN s.1.A3 c
 ok:DG s.1
 rm:BR s.1 (m+4*n)
 last:s.1.a.has s.2.1
 st:h1[ai]?=some (.cells (E8 fe (EG fe.c.node s.1.A3) (s.2.2:Int) anc far s.2.1))
 hn:¬own bi G ai
 x:Dh h (Lt ai bi G0) h1 (Lt ai bi G)
 TV:0<=EG fe.c.node s.1.A3
 wz:s.2.2<=1000000000
 AR:s.1.AR.take (k+n+1)=s0.1.AR.take (k+n+1)
 len:k+n+1<=s.1.AR.length
 eq:BS.Jp far.node anc.node (k+1+N) k N s0=BS.Jp far.node anc.node (k+1+N) k n s
 fe:s.1.a.has fe.c.node
theorem XU{blk anc:Int}{far i:Nat}{l:Int}{mk:Nat}(hi:i<b.AR.length):(BS.EO blk anc far i b l mk).1.AR.take i=b.AR.take i/\i<=(BS.EO blk anc far i b l mk).1.AR.length:=by
 have h1:(A7 b.AR i).take i=b.AR.take i/\i<=(A7 b.AR i).length:=by refine⟨?_,by rw[Gn hi];omega⟩;unfold A7;rw[CV (by rw[Al];omega),GX,Nat.min_self]
 unfold BS.EO;simp only
 split;·exact h1
 .split;·exact h1
  .have MD:∀nm l p,(b.Ee nm l 1 p).AR=b.AR:=λnm l p=>by unfold BS.Ee;rw[if_pos IV]
   simp only[MD];exact⟨aId (Ac i),by rw[Be];omega⟩
theorem dC.step{h1 h2:Ag}{o1 c1 o2 c2:Aa}{G1 G2:Nat->Prop}{fe:B0}{k N n:Nat}{s0 s s':BS×Int×Nat}(i:dC h bi a ai t G fe anc far k N m s0 (n+1) h1 o1 c1 G1 s)(e:s'=BS.EO far.node anc.node (k+1+N) (k+(n+1)) s.1 s.2.1 s.2.2)
  (w:BX h2 bi a o2 c2 t G2 s'.1) (hc:BN s'.1.A3 c2) (st:h2[ai]?=some (.cells (E8 fe (EG fe.c.node s'.1.A3) (s'.2.2:Int) anc far s'.2.1))) (hn:¬own bi G2 ai) (x:Dh h1 (Lt ai bi G1) h2 (Lt ai bi G2)) (TV:0<=EG fe.c.node s'.1.A3) (mk:s'.2.2<=1000000000):
  dC h bi a ai t G fe anc far k N m s0 n h2 o2 c2 G2 s':=by
 obtain⟨ok',last',le'⟩:=Vu (blk:=far.node) (anc:=anc.node) (far:=k+1+N) (i:=k+(n+1)) (m:=s.2.2) i.ok i.last;have hl:=i.len;obtain⟨op1,op2⟩:=XU (blk:=far.node) (anc:=anc.node) (far:=k+1+N) (i:=k+(n+1)) (l:=s.2.1) (mk:=s.2.2) (b:=s.1) (by omega);have rm':=Nc (blk:=far.node) (anc:=anc.node) (far:=k+1+N) (i:=k+(n+1)) (l:=s.2.1) (mk:=s.2.2) (m:=m+4*n) (i.rm.le (by omega));have MD:=i.AR;have eq':BS.Jp far.node anc.node (k+1+N) k (n+1) s=BS.Jp far.node anc.node (k+1+N) k n (BS.EO far.node anc.node (k+1+N) (k+(n+1)) s.1 s.2.1 s.2.2):=rfl;have eq0:=i.eq.trans eq';rw[<-e] at ok' last' le' op1 op2 rm' eq0;refine⟨by have:=i.le;omega,w,hc,ok',rm',last',st,hn,i.x.trans x,TV,mk,?_,by omega,eq0,le'.has _ i.fe⟩;have:=Cf (λl=>l.take (k+(n+1))) MD;simp only[GX] at this;rw[show k+n+1=k+(n+1) by omega,op1];rwa [Co (by omega)] at this
theorem aHc{fe:B0}{k N:Nat}{s0:BS×Int×Nat}(i0:dC h bi a ai t G fe anc far k N m s0 N h o c G s0)(Wr:1<=k)(OE:AL (Bp fe.c.node) s0.1.AR=(k:Int))(hN:k+1+N<s0.1.AR.length):
  ∃h' o' c' G' s',BI cx 176 [Pt bi 0,Pt ai 0,I (k:Int),I ((k+1+N:Nat):Int)] h (.tuple []) h'/\s'=BS.Jp far.node anc.node (k+1+N) k N s0/\dC h bi a ai t G fe anc far k N m s0 0 h' o' c' G' s':=by
 have ho:=i0.rm.AR;have H5:Ev cx 176 [Pt bi 0,Pt ai 0,I (k:Int),I ((k+1+N:Nat):Int)] h λr h'=>r= .tuple []/\∃o' c' G' s',s'=BS.Jp far.node anc.node (k+1+N) k N s0/\dC h bi a ai t G fe anc far k N m s0 0 h' o' c' G' s':=by
  unfold Ev;rw[nF,aA4];have i1:=CK (a:=((k+1+N:Nat):Int)) (b:=1) (by omega) (by omega);rw[show((k+1+N:Nat):Int)-1=((k+N:Nat):Int) by omega] at i1;simp only[AA,i1];refine Bd (λn:Nat=>[I ((N-n:Nat):Int),I ((k+n:Nat):Int)]) (λn h1=>∃o c G1 s,dC h bi a ai t G fe anc far k N m s0 n h1 o c G1 s) (λn=>n) N (by rw[CY];rfl) ⟨o,c,_,s0,i0⟩ ?_;rintro n h1 ⟨o1,c1,G1,s,i⟩;cases n with
  |zero=>simp only[AA,↓reduceIte,Bi,show¬(k:Int)<(k:Int) by omega];exact⟨_,rfl,rfl,o1,c1,G1,s,i.eq.symm,i⟩
  |succ n=>
   have hnN:=i.le;have hlen:=i.len;have XV:k+(n+1)<s.1.AR.length:=by omega
   have hwo:=i.rm.AR;have hwa:=i.rm.A3;have Wk:ai≠bi:=λe=>i.hn (.inl e);have hai:ai<h1.length:=(Ae.1 i.st).1;have r1:=VH i.w.sA ((k+(n+1):Nat):Int);rw[Hj XV] at r1;have hxn:=Zq i.ok.dr XV;have hxf:s.1.AR[k+(n+1)].node≠fe.c.node:=by have h2:=Cf (λl=>l[k+(n+1)]?) i.AR;simp only[Ch] at h2;rw[if_pos (by omega),if_pos (by omega),Ai XV,Ai (by omega)] at h2;obtain⟨_,_,h3⟩:=HT OE;have h4:=h3 (k+(n+1)) (by omega) (by omega);rw[ED h2];intro h5;unfold Bp at h4;rw[h5] at h4;simp at h4
   have Ub:s.1.AR.getD (k+(n+1)) Item.zero=s.1.AR[k+(n+1)]:=by rw[AE,Ai XV];rfl
   generalize s.1.AR[k+(n+1)]=x at*;have r2:=i.hc.at i.w i.rm x.node;obtain⟨q,hq,sM,hq0,hq2,hq3⟩:=GH i.TV;have inc:Aw (.int .add) [I ((N-(n+1):Nat):Int),I 1]=some (I ((N-n:Nat):Int)):=by have:=BB (n:=N-(n+1)) (by omega);rwa [show N-(n+1)+1=N-n by omega] at this
   have dec:Aw (.int .sub) [I ((k+(n+1):Nat):Int),I 1]=some (I ((k+n:Nat):Int)):=by have:=Ho (n:=k+(n+1)) (by omega) (by omega);rwa [show k+(n+1)-1=k+n by omega] at this
   have uB:(k:Int)<((k+(n+1):Nat):Int):=by omega
   have hrm:∀l:List Item,l=s.1.AR->CG x.node l=A7 l (k+(n+1)):=by intro l e;subst e;unfold CG;rw[hxn,if_neg (by omega),AS]
   by_cases he:EG x.node s.1.A3<0
   .obtain⟨u,r3,hu⟩:=aBS i.w.sO (by omega) x.node;rw[hrm _ rfl] at hu;have w2:=i.w.Ig hu;have es:({s.1 with AR:=A7 s.1.AR (k+(n+1))},s.2.1,s.2.2)=BS.EO far.node anc.node (k+1+N) (k+(n+1)) s.1 s.2.1 s.2.2:=by unfold BS.EO;simp only[Ub];rw[if_pos he]
    have i2:=i.step es w2 i.hc ((B4 Wk).trans i.st) i.hn (En Bg ai) i.TV i.wz;by_cases L2:(3:Int)<((N-n:Nat):Int);·simp only[AA,↓reduceIte,Bi,EC,uB,r1.call,inc,r2.call,L2,he,show¬(0:Int)<=EG x.node s.1.A3 by omega,r3.call,dec];exact AF.next n rfl ⟨_,_,_,_,i2⟩ (by omega)
    .simp only[AA,↓reduceIte,Bi,EC,uB,r1.call,inc,r2.call,L2,he,r3.call,dec];exact AF.next n rfl ⟨_,_,_,_,i2⟩ (by omega)
   .obtain⟨p,hp,ep,Mj,WR,hp3⟩:=GH (L0.1 he);have DT:(0:Int)<=(p:Int):=by omega
    rw[ep] at r2;have yy:s.1.A3[p].node≠fe.c.node:=by rw[WR];exact hxf
    have ept:(EG x.node s.1.A3).toNat=p:=by rw[ep,AS]
    by_cases L2:(3:Int)<((N-n:Nat):Int)
    .obtain⟨h2,c2,r3,w2,HZ,w_,x2⟩:=pI i.w i.hc i.rm i.st i.hn hp ⟨i.TV,by omega⟩ ⟨by omega,by have:=i.wz;omega⟩;have S6:BR {s.1 with A3:=A7 s.1.A3 p} (m+4*(n+1)):=i.rm.sub rfl (AX _) CX (Ac _);have r4:=BN.at (b:={s.1 with A3:=A7 s.1.A3 p}) HZ w2 S6 x.node;have kU:EG x.node (A7 s.1.A3 p)<0:=by have:=sT (n:=x.node) i.ok.rU (L0.1 he);rwa [ept] at this
     obtain⟨u,r5,hu⟩:=aBS w2.sO (by simp only;omega) x.node;rw[hrm _ rfl] at hu;have w3:=w2.Ig hu;have bm:(((if p<s.2.2 then s.2.2 -1 else s.2.2:Nat)):Int)=down p (s.2.2:Int):=by unfold down;split<;>split<;>omega
     have es:({s.1 with A3:=A7 s.1.A3 p,AR:=A7 s.1.AR (k+(n+1))},s.2.1,if p<s.2.2 then s.2.2 -1 else s.2.2)=BS.EO far.node anc.node (k+1+N) (k+(n+1)) s.1 s.2.1 s.2.2:=by unfold BS.EO;simp only[Ub];rw[if_neg he,if_pos (show k+(n+1)+3<k+1+N by omega),ept]
     have aHd:=XT i.TV hp yy;have hd0:0<=down p (EG fe.c.node s.1.A3):=by unfold down;split<;>omega
     have i2:=i.step es w3 HZ (by rw[B4 Wk,w_];simp only;rw[aHd,bm]) i.hn (x2.trans (En Bg ai)) (by simp only;rw[aHd];exact hd0) (by have:=i.wz;simp only;split<;>omega);simp only[AA,↓reduceIte,Bi,EC,uB,r1.call,inc,r2.call,L2,DT,r3.call,r4.call,kU,r5.call,dec];exact AF.next n rfl ⟨_,_,_,_,i2⟩ (by omega)
    .obtain⟨fs,F0,hv⟩:=i.hc;have Gv:s.1.A3.length=fs.length:=by rw[<-F0,Ah]
     have aB5:p<fs.length:=by omega
     have efp:fs[p].c=s.1.A3[p]:=by simp only[<-F0,CN]
     have l3:=i.w.l3;have e1:=AM.BA (k:= .i64) hv aB5;have l5:A9 h1 none (Pt ai 5)=some (I anc.node):=At.load ⟨_,i.st,rfl⟩;obtain⟨r,r3,hr⟩:=bk fs[p] h1;have Jr:=i.rm.Dj _ (AI hp);rw[<-efp] at Jr;obtain⟨h2,G2,r4,w2,x2⟩:=bb (m:=m+4*n) i.w i.ok (i.rm.le (by omega)) hr fs[p].ok Jr.2 Jr.1 anc.node 1;obtain⟨bc,f,le2⟩:=Ms (nm:=fs[p].c.name) (at_:=fs[p].c.Ay) (p:=anc.node) i.ok IV;have S6:=Ic (m:=m+4*n+1) (nm:=fs[p].c.name) (l:=fs[p].c.Ay) (sp:=1) (p:=anc.node) (i.rm.le (by omega)) Jr.2;have MD:(s.1.Ee fs[p].c.name fs[p].c.Ay 1 anc.node).AR=s.1.AR:=by unfold BS.Ee;rw[if_pos IV]
     have Q8:(s.1.Ee fs[p].c.name fs[p].c.Ay 1 anc.node).A3=s.1.A3:=by unfold BS.Ee;rw[if_pos IV]
     have es0:BS.EO far.node anc.node (k+1+N) (k+(n+1)) s.1 s.2.1 s.2.2=({s.1.Ee fs[p].c.name fs[p].c.Ay 1 anc.node with a:=(s.1.Ee fs[p].c.name fs[p].c.Ay 1 anc.node).a.Fg (s.1.FE fs[p].c.name fs[p].c.Ay 1).node s.2.1 0,AR:=(s.1.Ee fs[p].c.name fs[p].c.Ay 1 anc.node).AR.set (k+(n+1)) (s.1.FE fs[p].c.name fs[p].c.Ay 1),A3:=(s.1.Ee fs[p].c.name fs[p].c.Ay 1 anc.node).A3.set p {fs[p].c with node:=(s.1.FE fs[p].c.name fs[p].c.Ay 1).node}},(s.1.FE fs[p].c.name fs[p].c.Ay 1).node,if s.2.1=far.node then p+1 else s.2.2):=by unfold BS.EO;simp only[Ub];rw[if_neg he,if_neg (by omega),ept,AE,Ai hp,Ih,<-efp]
     have tQ:=Mt i.ok f;have hna:=OX i.ok f;have hnf:(s.1.FE fs[p].c.name fs[p].c.Ay 1).node≠fe.c.node:=λe2=>f.new (by rw[e2];exact i.fe);have aLU:=le2.has _ i.last;have aB6:(s.1.FE fs[p].c.name fs[p].c.Ay 1).name.length<=1000:=Mv Jr.1;generalize s.1.FE fs[p].c.name fs[p].c.Ay 1=nw at*;generalize s.1.Ee fs[p].c.name fs[p].c.Ay 1 anc.node=b2 at*;have Rs:¬own bi G2 ai:=λhg=>by
      rcases x2.own ai hg with hg|hg
      .exact i.hn hg
      .omega
     have w_:h2[ai]?=_:=(x2.old ai hai i.hn).trans i.st;obtain⟨u1,t1,r5,Ny⟩:=aKX w2.sO (by have:=S6.AR;omega) x.node nw;have jJ:Og x.node nw b2.AR=b2.AR.set (k+(n+1)) nw:=by unfold Og;rw[MD,hxn,if_neg (by omega),AS]
     rw[jJ] at Ny;have w3:=(w2.Ig Ny).HB (u:=t1);have x3:Dh h1 (Lt ai bi G1) (put h2 bi 2 u1++t1) (Lt ai bi G2):=(En x2 ai).trans (En (Bg.trans (w2.Ig Ny).CP) ai);have ai2:ai<h2.length:=by have:=x2.len;omega
     have st3:(put h2 bi 2 u1++t1)[ai]?=_:=(Ad (by rw[IE];exact ai2)).trans ((B4 Wk).trans w_);have ai3:ai<(put h2 bi 2 u1++t1).length:=by rw[Ao,IE];omega
     generalize put h2 bi 2 u1++t1=h3 at*;have aLV:=(Jr.2).1;obtain⟨u2,t2,e2,he2,r6,HU⟩:=aLa (h:=h3) (id:=bi) (o:=3) (l:=fs) ⟨c1,w3.pC,hv⟩ (by omega) x.node (e:=⟨{fs[p].c with node:=nw.node},fs[p].v,fs[p].ok⟩) (by unfold WL;simp only;omega);have hei:GC x.node fs=(p:Int):=by rw[VS,F0,ep]
     rw[hei,if_neg (by omega),AS] at HU;have w4:=(w3.Ki (u:=u2) (l:=b2.A3.set p {fs[p].c with node:=nw.node})).HB (u:=t2);have hc4:BN (b2.A3.set p {fs[p].c with node:=nw.node}) u2:=⟨_,by rw[Fj,F0,he2,Q8],HU⟩;have x4:=x3.trans (En ((Bg (k:=3) (v:=u2)).trans (BX.CP (u:=t2) (w3.Ki (u:=u2) (l:=b2.A3.set p {fs[p].c with node:=nw.node})))) ai);have st4:(put h3 bi 3 u2++t2)[ai]?=_:=(Ad (by rw[IE];exact ai3)).trans ((B4 Wk).trans st3);generalize put h3 bi 3 u2++t2=h4 at*;have xa:=bc.iE (i:=nw) (k:=k+(n+1)) ⟨f.has,f.kind,f.A0,f.name⟩ (by rw[MD];exact tQ);have uA:=xa.iF (e:={fs[p].c with node:=nw.node}) (k:=p) ⟨f.has,f.kind⟩ (by simp only[Q8];exact hna);have rm4:BR {b2 with AR:=b2.AR.set (k+(n+1)) nw,A3:=b2.A3.set p {fs[p].c with node:=nw.node}} (m+4*n+1):=by
      refine⟨S6.n,S6.at_,S6.data,by simp only[Be];exact S6.AR,by simp only[Be];exact S6.A3,S6.tm,λe he=>?_,λi hi=>?_⟩
      .rcases Dk he with he|rfl
       .exact S6.Dj e he
       .exact Jr
      .rcases Dk hi with hi|rfl
       .exact S6.Wl i hi
       .exact aB6
     have l13:A9 h4 none (Pt ai 13)=some (I s.2.1):=At.load ⟨_,st4,rfl⟩;have l9:A9 h4 none (Pt ai 9)=some (I far.node):=At.load ⟨_,st4,rfl⟩;have t4:At h4 ai 4 (I (s.2.2:Int)):=⟨_,st4,rfl⟩;obtain⟨Sl,TG⟩:∃Sl:Nat,Sl=if s.2.1=far.node then p+1 else s.2.2:=⟨_,rfl⟩
     have e5:put h4 ai 4 (I (Sl:Int))=if s.2.1=far.node then put h4 ai 4 (I ((p+1:Nat):Int)) else h4:=by
      rw[TG];split;·rfl
      .exact t4.same
     have st5:=Hk (k:=4) (v:= I (Sl:Int)) st4;have w5:BX (put h4 ai 4 (I (Sl:Int))) bi a u1 u2 t G2 {b2 with AR:=b2.AR.set (k+(n+1)) nw,A3:=b2.A3.set p {fs[p].c with node:=nw.node}}:=w4.Cv λj hj=>B4 λe=>Rs (e▸hj);have x5:=x4.trans (Oo (k:=4) (v:= I (Sl:Int)));have ai5:ai<(put h4 ai 4 (I (Sl:Int))).length:=by have:=x5.len;omega
     have t5:A9 (put h4 ai 4 (I (Sl:Int))) none (Pt ai 13)=some (I s.2.1):=At.load ⟨_,st5,rfl⟩;generalize hh5:put h4 ai 4 (I (Sl:Int))=h5 at*;obtain⟨h6,G6,r7,w6,x6⟩:=cT (x:=s.2.1) (p:=nw.node) (bf:=0) w5 uA rm4;rw[Sk (by exact f.kind)] at w6;have hn6:¬own bi G6 ai:=λhg=>by
      rcases x6.own ai hg with hg|hg
      .exact Rs hg
      .omega
     have st6:h6[ai]?=_:=(x6.old ai ai5 Rs).trans st5;have t6:At h6 ai 13 (I s.2.1):=⟨_,st6,rfl⟩;have st7:=Hk (k:=13) (v:= I nw.node) st6;have w7:BX (put h6 ai 13 (I nw.node)) bi a u1 u2 t G6 _:=w6.Cv λj hj=>B4 λe=>hn6 (e▸hj);have x7:=(x5.trans (En x6 ai)).trans (Oo (k:=13) (v:= I nw.node));have VV:EG fe.c.node (b2.A3.set p {fs[p].c with node:=nw.node})=EG fe.c.node s.1.A3:=by rw[Q8];exact dB i.TV hp yy hnf
     rw[<-TG] at es0;have i2:=i.step es0.symm w7 hc4 (by simp only;rw[st7,VV];rfl) hn6 x7 (by simp only;rw[VV];exact i.TV) (by simp only;rw[TG];have:=i.wz;split<;>omega);have sU:fs[p].v.cells=[fs[p].v]:=AM.cells fs[p].ok;have incp:=BB (show p<9223372036854775807 by omega);have r6':BI cx 248 [Pt bi 3,I x.node,.agg [I nw.node,.str fs[p].c.name,fs[p].v]] h3 (.bool (decide (0<=GC x.node fs))) h4:=r6;rw[B0.row] at e1 r3;by_cases Ql:s.2.1=far.node
     .rw[if_pos Ql] at e5;have s5:Cd h4 1 (Pt ai 4) (I ((p+1:Nat):Int))=some h5:=by rw[e5];exact t4.store rfl
      simp only[AA,Nat.reduceLeDiff,↓reduceIte,AK,Bi,EC,uB,r1.call,inc,r2.call,L2,DT,show¬(p:Int)<0 by omega,l3,e1,l5,r3.call,Bx,r4.call,r5.call,sU,r6'.call,l13,l9,AW Ql,incp,s5,t5,r7.call,t6.store (u:= I nw.node) rfl,dec];exact AF.next n rfl ⟨_,_,_,_,i2⟩ (by omega)
     .rw[if_neg Ql] at e5;subst e5;simp only[AA,Nat.reduceLeDiff,↓reduceIte,AK,Bi,EC,uB,r1.call,inc,r2.call,L2,DT,show¬(p:Int)<0 by omega,l3,e1,l5,r3.call,Bx,r4.call,r5.call,sU,r6'.call,l13,l9,Ql,r7.call,t6.store (u:= I nw.node) rfl,dec];exact AF.next n rfl ⟨_,_,_,_,i2⟩ (by omega)
 obtain⟨r,h',hr,rfl,o',c',G',s',e',i'⟩:=H5.ret;exact⟨h',o',c',G',s',hr,e',i'⟩
end
section
variable{h h':Ag}{bi a ai:Nat}{o c t:Aa}{G G' F:Nat->Prop}{b b':BS}{x:Int}{m:Nat}
variable{nm:As}{av:Aa}{l:List AU}{r:List Aa}{sp p:Int}{e:B0}{at_ mk last:Int}{anc far:Item}
theorem BN.find(hc:BN b.A3 c)(w:BX h bi a o c t G b)(rm:BR b m)(nm:As):BI cx 172 [Pt bi 3,.str nm] h (I (FL nm b.A3)) h:=by obtain⟨fs,F0,hv⟩:=hc;have ha:=rm.A3;have:=aKZ w.pC hv (by rw[<-F0,Ah] at ha;omega) nm;rwa [pE,F0] at this
theorem VW(hai:h.length<=ai)(x:Dh h (Lt ai bi G) h' (Lt ai bi G')):Dh h (own bi G) h' (own bi G'):=
 ⟨x.len,λi hi hn=>x.old i hi λhg=>by
  rcases hg with rfl|hg
  .omega
  .exact hn hg,λi hi=>by
  rcases x.own i (.inr hi) with(rfl|h)|h
  .exact .inr hai
  .exact .inl h
  .exact .inr h⟩
theorem Ri{nm:As}{l:List Ce}(h:0<=FL nm l):∃p:Nat,∃hp:p<l.length,FL nm l=(p:Int):=by
 have key:∀r:List Ce,Ol nm r<r.length:=by
  intro r;induction r with
  |nil=>show(-1:Int)<0;decide
  |cons x r ih=>rw[Ol];simp only[Bf];split<;>(try split)<;>omega
 have:=key l.reverse;rw[Wq] at this;refine⟨(FL nm l).toNat,?_,by omega⟩;unfold FL at h⊢;omega
theorem pJ{l:List Ce}{f:Nat}(hn:((l.map Ce.node).filter λn=>decide (n≠0)).Nodup)(hf:f<l.length)(h0:l[f].node≠0):EG l[f].node l=(f:Int):=by
 unfold EG;rw[if_neg h0];refine Lo hf (by simp[Vp]) λj hj h=>?_;by_cases he:l[j].node=l[f].node
 .exfalso;have:l=l.take j++l[j]::l.drop (j+1):=by rw[<-AH hj,CL]
  rw[this,BE,Bm,EB,JT,if_pos (by simpa[he] using h0),B8] at hn;have hm:l[f]∈l.take j:=List.mem_take_iff_getElem.2 ⟨f,by omega,rfl⟩;exact hn.2.2 l[f].node (DX.2 ⟨aIe hm,by simpa using h0⟩) l[j].node (by simp) he.symm
 .simp[Vp,he]
theorem dD{v:C6}:Dh h (Am.Lt ai bi G) (h.set ai v) (Am.Lt ai bi G):=⟨by rw[Be];exact Ac _,λi _ hn=>Af λe=>hn (.inl e.symm),λ_ h=> .inl h⟩
theorem aB8(hc:h[ai]?=some (.cells (E8 e at_ mk anc far last)))(i:Item):Cd h 4 (Pt ai 5) (.agg i.row)=some (h.set ai (.cells (E8 e at_ mk i far last))):=by simp only[Cd,hc];rfl
theorem aB9(hc:h[ai]?=some (.cells (E8 e at_ mk anc far last)))(i:Item):Cd h 4 (Pt ai 9) (.agg i.row)=some (h.set ai (.cells (E8 e at_ mk anc i last))):=by simp only[Cd,hc];rfl
theorem aCa(hc:h[ai]?=some (.cells (E8 e at_ mk anc far last))):A9 h (some 3) (Pt ai 0)=some (.agg e.row):=by simp only[A9,hc];rfl
theorem PD{A:Ar}{n x:Int}{l:List Int}:BS.Cl A n (l++[x])=(BS.Cl A n l).Fg n x 0:=by unfold BS.Cl;rw[List.foldl_append];rfl
theorem aLX(w:BX h bi a o c t G b)(hc:BN b.A3 c)(ok:DG b)(rm:BR b (m+4*b.AR.length+10))(nm:As):
  ∃h' o' c' G',BI cx 93 [Pt bi 0,.str nm] h (.bool (b.round nm).1) h'/\BX h' bi a o' c' t G' (b.round nm).2/\BN (b.round nm).2.A3 c'/\Dh h (own bi G) h' (own bi G'):=by
 have ho:=rm.AR;have Q8:=rm.A3;have r1:=hc.find w rm nm;by_cases hf:FL nm b.A3<0
 .obtain⟨h2,o2,r2,w2,x2⟩:=aGV w rm nm;have e:b.round nm=(false,b.C1 nm):=by unfold BS.round;simp only;rw[if_pos hf]
  have ea:(b.C1 nm).A3=b.A3:=by
   unfold BS.C1;split;·split<;>rfl
   .rfl
  rw[e];refine⟨h2,o2,c,G,?_,w2,by rw[ea];exact hc,x2⟩;rw[Ab,Qc,vo];simp only[AA,Nat.reduceLeDiff,↓reduceIte,AK,Bi,r1.call,hf,r2.call]
 obtain⟨f,Gv,ef⟩:=Ri (L0.1 hf);have dV:¬(f:Int)<0:=by omega
 rw[ef] at r1;have Km:=hc;obtain⟨fs,F0,hv⟩:=Km;have aLY:b.A3.length=fs.length:=by rw[<-F0,Ah]
 have efp:fs[f].c=b.A3[f]:=by simp only[<-F0,CN]
 have l3:=w.l3;have e1:=AM.BA (k:= .i64) hv (show f<fs.length by omega);generalize hfe:fs[f]=fe at*;have Ub:b.A3.getD f Ce.zero=fe.c:=by rw[AE,Ai Gv];exact efp.symm
 have sU:fe.v.cells=[fe.v]:=AM.cells fe.ok;have w1:=w.HB (u:=[.cells (E8 fe (f:Int) (f:Int) Item.zero Item.zero 0)]);have st1:(h++[C6.cells (E8 fe (f:Int) (f:Int) Item.zero Item.zero 0)])[h.length]?=some (.cells (E8 fe (f:Int) (f:Int) Item.zero Item.zero 0)):=by simp
 have x1:Dh h (own bi G) (h++[C6.cells (E8 fe (f:Int) (f:Int) Item.zero Item.zero 0)]) (own bi G):=w.CP;have LR:¬own bi G h.length:=by
  rintro(e|hg);·exact absurd w.lt (by omega)
  .exact absurd (w.w.lt hg) (Dg _)
 obtain⟨H1,hH1⟩:∃H1,H1=h++[C6.cells (E8 fe (f:Int) (f:Int) Item.zero Item.zero 0)]:=⟨_,rfl⟩;rw[<-hH1] at w1 st1 x1;have l0:A9 H1 none (Pt h.length 0)=some (I fe.c.node):=At.load ⟨_,st1,rfl⟩;have r2:=WN w1.sA (by omega) fe.c.node;have hal:E8 fe (f:Int) (f:Int) Item.zero Item.zero 0=[I fe.c.node,.str fe.c.name,fe.v,I (f:Int),I (f:Int),I 0,I 0,S [],ff,I 0,I 0,S [],ff,I 0]:=rfl;rw[hal] at hH1;rw[B0.row] at e1;by_cases hk:AL (Bp fe.c.node) b.AR<0
 .obtain⟨h2,c2,r3,w2,HZ,_,x2⟩:=pI w1 hc rm st1 LR Gv ⟨by omega,by omega⟩ ⟨by omega,by omega⟩;have e:b.round nm=(false,{b with A3:=A7 b.A3 f}):=by unfold BS.round;simp only;rw[if_neg hf,ef,AS,Ub,if_pos hk]
  rw[e];refine⟨h2,o,c2,G,?_,w2,HZ,VW (Ac _) ((En x1 h.length).trans x2)⟩;rw[Ab,Qc,vo];simp only[AA,Nat.reduceLeDiff,↓reduceIte,AK,Bi,r1.call,dV,l3,e1,<-hH1,l0,r2.call,hk,r3.call]
 obtain⟨k,ek⟩:∃k:Nat,AL (Bp fe.c.node) b.AR=(k:Int):=⟨_,(Nj (L0.1 hk)).symm⟩;obtain⟨OE,hkq,_⟩:=HT ek;have cO:¬(k:Int)<0:=by omega
 rw[ek] at r2;by_cases hkz:k=0
 .have e:b.round nm=(false,b):=by unfold BS.round;simp only;rw[if_neg hf,ef,AS,Ub,if_neg hk,if_pos (.inl (by rw[ek,hkz];rfl))]
  rw[e];refine⟨H1,o,c,G,?_,w1,hc,x1⟩;rw[Ab,Qc,vo];simp only[AA,Nat.reduceLeDiff,↓reduceIte,AK,Bi,r1.call,dV,l3,e1,<-hH1,l0,r2.call,cO,AW (show(k:Int)=0 by omega)]
 have dE:¬(k:Int)=0:=by omega
 have r3:=aKM w1.sA (by omega) 1 fe.c.node;by_cases Pd:I6 (Bp fe.c.node) (IL 1) b.AR.reverse=false
 .have e:b.round nm=(false,b):=by unfold BS.round;simp only;rw[if_neg hf,ef,AS,Ub,if_neg hk,if_pos (.inr Pd)]
  rw[e];refine⟨H1,o,c,G,?_,w1,hc,x1⟩;rw[Pd] at r3;rw[Ab,Qc,vo];simp only[AA,Nat.reduceLeDiff,↓reduceIte,AK,Bi,r1.call,dV,l3,e1,<-hH1,l0,r2.call,cO,dE,r3.call]
 have aCb:I6 (Bp fe.c.node) (IL 1) b.AR.reverse=true:=by simpa using Pd
 rw[aCb] at r3;have r4:=aKP w1.sA (by omega) fe.c.node;have zh:¬(AL (Bp fe.c.node) b.AR=0\/I6 (Bp fe.c.node) (IL 1) b.AR.reverse=false):=by rw[ek];rintro(h|h);exact dE h;exact Pd h
 by_cases hfa:DA fe.c.node b.AR<0
 .have e:b.round nm=(false,{b with AR:=Gd fe.c.node b.AR,A3:=A7 b.A3 f}):=by unfold BS.round;simp only;rw[if_neg hf,ef,AS,Ub,if_neg hk,if_neg zh,if_pos hfa]
  obtain⟨u,r5,hu⟩:=aF8 w1.sO (by omega) fe.c.node;have w2:=w1.Ig hu;have w_:(put H1 bi 2 u)[h.length]?=_:=(B4 (λe=>LR (.inl e))).trans st1;obtain⟨h3,c3,r6,w3,L2,_,x3⟩:=pI w2 hc ((rm.le (m':=0) (by omega)).sub rfl HQ (AX _) (Ac _)) w_ LR Gv ⟨by omega,by omega⟩ ⟨by omega,by omega⟩;rw[e];refine⟨h3,u,c3,G,?_,w3,L2,VW (Ac _) ((En (x1.trans Bg) h.length).trans x3)⟩;rw[Ab,Qc,vo];simp only[AA,Nat.reduceLeDiff,↓reduceIte,AK,Bi,r1.call,dV,l3,e1,<-hH1,l0,r2.call,cO,dE,r3.call,r4.call,hfa,r5.call,r6.call]
 obtain⟨N,hN,eN⟩:∃N:Nat,k+1+N<b.AR.length/\DA fe.c.node b.AR=((k+1+N:Nat):Int):=by
  have jK:=hfa;rw[HN,if_neg hk,ek,AS] at jK⊢;unfold Ep at jK⊢;split at jK;·rename_i j hj;have:=(HE.1 hj).1;rw[A8] at this;exact⟨j,by omega,by omega⟩
  .omega
 obtain⟨fb,sI⟩:∃fb,fb=b.AR[k+1+N]:=⟨_,rfl⟩;obtain⟨an,qk⟩:∃an,an=b.AR[k-1]'(by omega):=⟨_,rfl⟩;have wG:b.AR.getD (k+1+N) Item.zero=fb:=by rw[AE,Ai hN,sI];rfl
 have C_:b.AR.getD (k-1) Item.zero=an:=by rw[AE,Ai (by omega),qk];rfl
 have e:b.round nm=(true,BS.FO fe.c fb.node an.node (BS.Jp fb.node an.node (k+1+N) k N (b,fb.node,f))):=by
  unfold BS.round;simp only
  rw[if_neg hf,ef,AS,Ub,if_neg hk,if_neg zh,if_neg hfa,ek,eN,AS,AS,wG,C_,show k+1+N-1 -k=N by omega]
 have sV:=ok.op fb (by rw[sI];exact AI _);have aCc:b.AR[k].node=fe.c.node:=by simpa[Bp] using hkq
 have q_:b.a.has fe.c.node:=by rw[<-aCc];exact(ok.op _ (AI _)).1
 have rh:b.A3[f].node≠0:=by rw[<-efp];have:=q_.1;omega
 have VV:=pJ ok.rU Gv rh;rw[<-efp] at VV;have Jr:=rm.Dj _ (AI Gv);rw[<-efp] at Jr;have Tr:=Ho (n:=k) (by omega) (by omega);have r5:=VH w1.sA ((k-1:Nat):Int);rw[Hj (by omega),<-qk] at r5;have r6:=VH w1.sA ((k+1+N:Nat):Int);rw[Hj hN,<-sI] at r6;have s5:=aB8 st1 an;have TZ:h.length<H1.length:=(Ae.1 st1).1;have hbn:h.length≠bi:=λe=>LR (.inl e);have w_:(H1.set h.length (.cells (E8 fe f f an Item.zero 0)))[h.length]?=_:=AG TZ;have w2:BX (H1.set h.length (.cells (E8 fe f f an Item.zero 0))) bi a o c t G b:=w1.Cv λj hj=>Af λe=>LR (by rw[e];exact hj);have x2:=(En x1 h.length).trans (dD (v:= .cells (E8 fe f f an Item.zero 0)));generalize H1.set h.length (.cells (E8 fe f f an Item.zero 0))=H2 at*;have s6:=aB9 w_ fb;have Xr:h.length<H2.length:=(Ae.1 w_).1;have st3:(H2.set h.length (.cells (E8 fe f f an fb 0)))[h.length]?=_:=AG Xr;have w3:BX (H2.set h.length (.cells (E8 fe f f an fb 0))) bi a o c t G b:=w2.Cv λj hj=>Af λe=>LR (by rw[e];exact hj);have x3:=x2.trans (dD (v:= .cells (E8 fe f f an fb 0)));generalize H2.set h.length (.cells (E8 fe f f an fb 0))=H3 at*;have l9:A9 H3 none (Pt h.length 9)=some (I fb.node):=At.load ⟨_,st3,rfl⟩;have t13:At H3 h.length 13 (I 0):=⟨_,st3,rfl⟩;have s7:=t13.store (u:= I fb.node) rfl;have st4:=Hk (k:=13) (v:= I fb.node) st3;have w4:BX (put H3 h.length 13 (I fb.node)) bi a o c t G b:=w3.Cv λj hj=>B4 λe=>LR (by rw[<-e];exact hj);have x4:=x3.trans (Oo (k:=13) (v:= I fb.node));generalize put H3 h.length 13 (I fb.node)=H4 at*;have i0:dC H4 bi a h.length t G fe an fb k N (m+10) (b,fb.node,f) N H4 o c G (b,fb.node,f):=
  ⟨Ac _,w4,hc,ok,rm.le (by omega),sV.1,by rw[VV];exact st4,LR,.refl,by rw[VV];omega,by show f<=1000000000;omega,rfl,by simp only;omega,rfl,q_⟩
 have le0:=(T2 (blk:=fb.node) (anc:=an.node) (far:=k+1+N) (k:=k) (c:=N) (s:=(b,fb.node,f)) ok sV.1).2.2;obtain⟨h5,o5,c5,G5,s',r7,es,i⟩:=aHc i0 (by omega) ek hN;rw[<-es] at le0 e;obtain⟨q,hq,sM,hq0,hq2,hq3⟩:=GH i.TV;have ist:=i.st;rw[sM] at ist;have ux:=i.wz;have Wk:h.length≠bi:=hbn;have l5:A9 h5 none (Pt h.length 5)=some (I an.node):=At.load ⟨_,ist,rfl⟩;obtain⟨u6,r8⟩:=qp i.w i.ok i.rm an.node;have w6:=i.w.HB (u:=u6);have w6':=i.w.CP (u:=u6);have hl5:h.length<h5.length:=(Ae.1 ist).1;have st6:(h5++u6)[h.length]?=_:=(Ad hl5).trans ist;have l13:A9 (h5++u6) none (Pt h.length 13)=some (I s'.2.1):=At.load ⟨_,st6,rfl⟩;have hl6:h.length<(h5++u6).length:=by rw[Ao];omega
 obtain⟨h7,G7,r9,w7,x7⟩:=cT (x:=s'.2.1) (p:=(s'.1.place an.node).1) (bf:=(s'.1.place an.node).2) w6 i.ok i.rm;have hn7:¬own bi G7 h.length:=λhg=>by
  rcases x7.own h.length hg with hg|hg
  .exact i.hn hg
  .omega
 have st7:h7[h.length]?=_:=(x7.old h.length hl6 i.hn).trans st6;have l3b:A9 h7 (some 3) (Pt h.length 0)=some (.agg fe.row):=aCa st7;have l9b:A9 h7 none (Pt h.length 9)=some (I fb.node):=At.load ⟨_,st7,rfl⟩;obtain⟨r,pK,hr⟩:=bk fe h7;have le7:Le s'.1.a (s'.1.a.D3 s'.2.1 (s'.1.place an.node).1 (s'.1.place an.node).2):=Ib;have ok7:=i.ok.Jq (M6 (n:=s'.2.1) (p:=(s'.1.place an.node).1) (b:=(s'.1.place an.node).2) i.ok.ok) le7;have rm7:=i.rm.Jq (I4 (x:=s'.2.1) (p:=(s'.1.place an.node).1) (bf:=(s'.1.place an.node).2));obtain⟨b2,MF⟩:∃b2,b2={s'.1 with a:=s'.1.a.D3 s'.2.1 (s'.1.place an.node).1 (s'.1.place an.node).2}:=⟨_,rfl⟩;have Wf:b2.AR=s'.1.AR:=by rw[MF]
 have HZ:b2.A3=s'.1.A3:=by rw[MF]
 have le2:Le s'.1.a b2.a:=by rw[MF];exact le7
 rw[<-MF] at w7 ok7 rm7;obtain⟨h8,G8,r11,w8,x8⟩:=bb (m:=m+7) w7 ok7 (rm7.le (by omega)) hr fe.ok Jr.2 Jr.1 fb.node 1;obtain⟨dw,fr,le8⟩:=Ms (nm:=fe.c.name) (at_:=fe.c.Ay) (p:=fb.node) ok7 IV;have rj:=Ic (m:=m+7) (nm:=fe.c.name) (l:=fe.c.Ay) (sp:=1) (p:=fb.node) (rm7.le (by omega)) Jr.2;obtain⟨nw,hnw⟩:∃nw,nw=b2.FE fe.c.name fe.c.Ay 1:=⟨_,rfl⟩;obtain⟨b3,tW⟩:∃b3,b3=b2.Ee fe.c.name fe.c.Ay 1 fb.node:=⟨_,rfl⟩;have ho3:b3.AR=s'.1.AR:=by rw[tW,<-Wf];unfold BS.Ee;rw[if_pos IV]
 have L2:b3.A3=s'.1.A3:=by rw[tW,<-HZ];unfold BS.Ee;rw[if_pos IV]
 rw[<-hnw] at r11 fr;rw[<-tW] at w8 dw fr le8 rj;have hl7:h.length<h7.length:=(Ae.1 st7).1;have hn8:¬own bi G8 h.length:=λhg=>by
  rcases x8.own h.length hg with hg|hg
  .exact hn7 hg
  .omega
 have st8:h8[h.length]?=_:=(x8.old h.length hl7 hn7).trans st7;have l9c:A9 h8 none (Pt h.length 9)=some (I fb.node):=At.load ⟨_,st8,rfl⟩;obtain⟨kv,r12,pB⟩:∃v,BI cx 113 [Pt a 0,I fb.node] h8 v h8/\Df (b3.a.nd fb.node).AZ v:=by obtain⟨n',m',ps,wa⟩:=w8.w.pa;exact vw wa rj.Wm (rj.Wm.AZ dw.ok fb.node)
 have aHk:(b3.a.nd fb.node).AZ.length<=1000000000:=rj.Wm.AZ dw.ok fb.node;have Xg:nw.row=[I nw.node,I nw.A0,.str nw.name,.bool nw.Nt]:=rfl;rw[B0.row] at pK l3b;have H5:Ev cx 93 [Pt bi 0,.str nm] h λr h'=>r= .bool true/\∃o' c' G',BX h' bi a o' c' t G' (BS.FO fe.c fb.node an.node s')/\BN (BS.FO fe.c fb.node an.node s').A3 c'/\Dh h (own bi G) h' (own bi G'):=by
  unfold Ev;rw[Qc,vo];simp only[AA,Nat.reduceLeDiff,↓reduceIte,AK,Bi,r1.call,dV,l3,e1,<-hH1,l0,r2.call,cO,dE,r3.call,r4.call,eN,show¬((k+1+N:Nat):Int)<0 by omega,Tr,r5.call,r6.call,s5,s6,l9,s7];simp only[AA,Bi,r7.call,l5,r8.call];simp only[AA,Bi,l13,r9.call];simp only[AA,l3b,l9b];simp only[AA,↓reduceIte,Bi,EC,pK.call,Bx,r11.call,l9b];simp only[AA,w8.l0,l9c,r12.call,AM.Cp pB];have xb:Dh h (Lt h.length bi G) h8 (Lt h.length bi G8):=(((x4.trans i.x).trans (En w6' h.length)).trans (En x7 h.length)).trans (En x8 h.length);refine Db (i:=0) (λj:Nat=>[I (j:Int)]) (λj h9=>j<=(b3.a.nd fb.node).AZ.length/\∃G9,BX h9 bi a o5 c5 t G9 {b3 with a:=BS.Cl b3.a nw.node ((b3.a.nd fb.node).AZ.take j)}/\DG {b3 with a:=BS.Cl b3.a nw.node ((b3.a.nd fb.node).AZ.take j)}/\BR {b3 with a:=BS.Cl b3.a nw.node ((b3.a.nd fb.node).AZ.take j)} (m+7)/\Dh h8 (own bi G8) h9 (own bi G9)) (λj=>(b3.a.nd fb.node).AZ.length-j)
   (λj h9=>j=(b3.a.nd fb.node).AZ.length/\∃G9,BX h9 bi a o5 c5 t G9 {b3 with a:=BS.Cl b3.a nw.node ((b3.a.nd fb.node).AZ.take j)}/\DG {b3 with a:=BS.Cl b3.a nw.node ((b3.a.nd fb.node).AZ.take j)}/\BR {b3 with a:=BS.Cl b3.a nw.node ((b3.a.nd fb.node).AZ.take j)} (m+7)/\Dh h8 (own bi G8) h9 (own bi G9)) 0 rfl ⟨AO _,G8,w8,dw,rj,.refl⟩ ?_ ?_
  .rintro j h9 ⟨hj,G9,w9,jL,pL,x9⟩;rcases AN j (b3.a.nd fb.node).AZ.length with hlt|DT
   .have e9:=AM.BA (k:= .i64) pB hlt;obtain⟨VM,G10,xc,Sm,pM⟩:=cT (x:=(b3.a.nd fb.node).AZ[j]) (p:=nw.node) (bf:=0) w9 jL pL;have lej:=(LH (n:=nw.node) (l:=(b3.a.nd fb.node).AZ.take j) dw.ok).2;rw[Sk (by show((BS.Cl b3.a nw.node ((b3.a.nd fb.node).AZ.take j)).nd nw.node).kind=4;rw[lej.kind _ fr.has];exact fr.kind)] at Sm;have hs:BS.Cl b3.a nw.node ((b3.a.nd fb.node).AZ.take (j+1))=(BS.Cl b3.a nw.node ((b3.a.nd fb.node).AZ.take j)).Fg nw.node (b3.a.nd fb.node).AZ[j] 0:=by rw[Av hlt,PD]
    rw[B6] at e9;simp only[AA,Bi,show(j:Int)<((b3.a.nd fb.node).AZ.length:Int) by omega,e9,xc.call,BB (show j<9223372036854775807 by omega)];refine .next (j+1) rfl ⟨hlt,G10,by rw[hs];exact Sm,?_,?_,x9.trans pM⟩ (by omega)
    .have:=jL.Jq (OT (p:=nw.node) (n:=(b3.a.nd fb.node).AZ[j]) (b:=0) jL.ok) M5;rw[hs];exact this
    .have:=pL.Jq (I3 (p:=nw.node) (x:=(b3.a.nd fb.node).AZ[j]) (bf:=0));rw[hs];exact this
   .simp only[AA,Bi,show¬(j:Int)<((b3.a.nd fb.node).AZ.length:Int) by omega];exact .GM j rfl ⟨by omega,G9,w9,jL,pL,x9⟩
  .rintro j h9 ⟨rfl,G9,w9,jL,pL,x9⟩;rw[Bu] at w9 jL pL;have hl8:h.length<h8.length:=(Ae.1 st8).1;have hn9:¬own bi G9 h.length:=λhg=>by
    rcases x9.own h.length hg with hg|hg
    .exact hn8 hg
    .omega
   have st9:h9[h.length]?=_:=(x9.old h.length hl8 hn8).trans st8;have l9d:A9 h9 none (Pt h.length 9)=some (I fb.node):=At.load ⟨_,st9,rfl⟩;have le9:=(LH (n:=nw.node) (l:=(b3.a.nd fb.node).AZ) dw.ok).2;have lef:Le b.a (BS.Cl b3.a nw.node (b3.a.nd fb.node).AZ):=((le0.trans le2).trans le8).trans le9;obtain⟨VM,G10,xc,Sm,pM⟩:=cT (x:=nw.node) (p:=fb.node) (bf:=0) w9 jL pL;rw[Sk (by show((BS.Cl b3.a nw.node (b3.a.nd fb.node).AZ).nd fb.node).kind=4;rw[lef.kind _ sV.1];exact sV.2.1)] at Sm;have ZL:h.length<h9.length:=(Ae.1 st9).1;have aL4:¬own bi G10 h.length:=λhg=>by
    rcases pM.own h.length hg with hg|hg
    .exact hn9 hg
    .omega
   have aHl:VM[h.length]?=_:=(pM.old h.length ZL hn9).trans st9;have l3c:A9 VM none (Pt h.length 3)=some (I (q:Int)):=At.load ⟨_,aHl,rfl⟩;have aL5:=pL.Jq (I3 (p:=fb.node) (x:=nw.node) (bf:=0));have rl:BN ({b3 with a:=(BS.Cl b3.a nw.node (b3.a.nd fb.node).AZ).Fg fb.node nw.node 0}:BS).A3 c5:=by simp only;rw[L2];exact i.hc
   have hqa:=i.rm.A3;obtain⟨ZI,U1,r14,rp,sW,rq,x11⟩:=pI Sm rl aL5 aHl aL4 (k:=q) (by simp only;rw[L2];exact hq) ⟨by omega,by omega⟩ ⟨by omega,by omega⟩;simp only at rp sW;have l1:A9 ZI none (Pt h.length 1)=some (.str fe.c.name):=At.load ⟨_,rq,rfl⟩;have l2:A9 ZI none (Pt h.length 2)=some fe.v:=At.load ⟨_,rq,rfl⟩;have l4:A9 ZI none (Pt h.length 4)=some (I (down q (s'.2.2:Int))):=At.load ⟨_,rq,rfl⟩;obtain⟨fs2,aCg,UD⟩:=sW;have aQZ:b3.A3.length=s'.1.A3.length:=by rw[L2]
   have aQ0:fs2.length<=900000000:=by have h1:=Cf List.length aCg;rw[Ah,Gn (by rw[L2];exact hq)] at h1;omega
   have aLV:=Jr.2.1;obtain⟨u1,e2,he2,r15,Ny⟩:=aK9 (h:=ZI) (id:=bi) (o:=3) (l:=fs2) ⟨U1,rp.pC,UD⟩ (by omega) (e:=⟨{fe.c with node:=nw.node},fe.v,fe.ok⟩) (by unfold WL;simp only;omega) (down q (s'.2.2:Int));have aL7:BI cx 177 [Pt bi 3,.agg [I nw.node,.str fe.c.name,fe.v],I (down q (s'.2.2:Int))] ZI (.tuple []) (put ZI bi 3 u1):=r15;obtain⟨Sl,TG⟩:∃Sl:Nat,Sl=if q<s'.2.2 then s'.2.2 -1 else s'.2.2:=⟨_,rfl⟩
   have bm:down q (s'.2.2:Int)=(Sl:Int):=by rw[TG];unfold down;split<;>split<;>omega
   have w12:=rp.Ki (u:=u1) (l:=(A7 b3.A3 q).take (Cn Sl (A7 b3.A3 q).length)++{fe.c with node:=nw.node}::(A7 b3.A3 q).drop (Cn Sl (A7 b3.A3 q).length));have r_:BN ((A7 b3.A3 q).take (Cn Sl (A7 b3.A3 q).length)++{fe.c with node:=nw.node}::(A7 b3.A3 q).drop (Cn Sl (A7 b3.A3 q).length)) u1:=by refine⟨_,?_,Ny⟩;rw[bm,BE,Bm,HV,NG,aCg,he2,<-aCg,Ah]
   have hob:=i.rm.AR;obtain⟨u2,r16,HU⟩:=aBS w12.sO (by simp only;rw[ho3];omega) fe.c.node;have w13:=w12.Ig HU;have dT:(CG fe.c.node b3.AR).length<=s'.1.AR.length:=by rw[<-ho3];exact Kg.length_le
   have aL8:(put (put ZI bi 3 u1) bi 2 u2)[h.length]?=_:=(B4 Wk).trans ((B4 Wk).trans rq);have l9e:A9 (put (put ZI bi 3 u1) bi 2 u2) none (Pt h.length 9)=some (I fb.node):=At.load ⟨_,aL8,rfl⟩;have r17:=WN w13.sA (by simp only;omega) fb.node;have hli: -1<=AL (Bp fb.node) (CG fe.c.node b3.AR)/\AL (Bp fb.node) (CG fe.c.node b3.AR)<=(CG fe.c.node b3.AR).length:=by rcases CR (q:=Bp fb.node) (l:=CG fe.c.node b3.AR) with⟨h,_⟩|⟨n,h1,h2,_⟩<;>omega
   have add:=OP (a:=AL (Bp fb.node) (CG fe.c.node b3.AR)) (b:=1) (by omega) (by omega);obtain⟨u3,r18,qx⟩:=aKW w13.sO (by simp only;omega) nw (AL (Bp fb.node) (CG fe.c.node b3.AR)+1);have w14:=w13.Ig qx;simp only[AA,Nat.reduceLeDiff,↓reduceIte,AK,Bi,EC,l9d,xc.call,l3c,r14.call,l1,l2,sU,l4,aL7.call,r16.call,l9e,r17.call,add,r18.call];have hE:BS.FO fe.c fb.node an.node s'={b3 with a:=(BS.Cl b3.a nw.node (b3.a.nd fb.node).AZ).Fg fb.node nw.node 0,A3:=(A7 b3.A3 q).take (Cn Sl (A7 b3.A3 q).length)++{fe.c with node:=nw.node}::(A7 b3.A3 q).drop (Cn Sl (A7 b3.A3 q).length),AR:=(CG fe.c.node b3.AR).take (Er (AL (Bp fb.node) (CG fe.c.node b3.AR)+1) (CG fe.c.node b3.AR).length)++nw::(CG fe.c.node b3.AR).drop (Er (AL (Bp fb.node) (CG fe.c.node b3.AR)+1) (CG fe.c.node b3.AR).length)}:=by
    have wL:EG fe.c.node b3.A3=(q:Int):=by rw[L2];exact sM
    unfold BS.FO;simp only
    rw[<-MF,<-tW,<-hnw,wL,AS,<-TG]
   rw[hE];refine⟨_,rfl,rfl,u3,u1,G10,w14,r_,VW (Ac _) ?_⟩;exact((((xb.trans (En (x9.trans pM) h.length)).trans x11).trans (En Bg h.length)).trans (En Bg h.length)).trans (En Bg h.length)
 obtain⟨r,h',hr,rfl,o',c',G',w',Km,x'⟩:=H5.ret;rw[e];exact⟨h',o',c',G',hr,w',Km,x'⟩
end
section
variable{h h':Ag}{bi a ai:Nat}{o c t:Aa}{G G' F:Nat->Prop}{b b':BS}{x:Int}{m:Nat}
variable{nm:As}{av:Aa}{l:List AU}{r:List Aa}{sp p:Int}{e:B0}{at_ mk last:Int}{anc far:Item}
theorem sX{blk anc:Int}{far i:Nat}{l:Int}{mk:Nat}:(BS.EO blk anc far i b l mk).1.AR.length<=b.AR.length:=by
 have h1:(A7 b.AR i).length<=b.AR.length:=CX.length_le;unfold BS.EO;simp only
 split;·exact h1
 .split;·exact h1
  .have MD:∀nm l p,(b.Ee nm l 1 p).AR=b.AR:=λnm l p=>by unfold BS.Ee;rw[if_pos IV]
   simp only[MD,Be];exact Ac _
theorem XW{blk anc:Int}{far k m:Nat}:∀{c:Nat} {s:BS×Int×Nat},BR s.1 (m+4*c)->BR (BS.Jp blk anc far k c s).1 m/\(BS.Jp blk anc far k c s).1.AR.length<=s.1.AR.length
 |0,s,r=>⟨r.le (by omega),Ac _⟩
 |c+1,s,r=>by have r1:=Nc (blk:=blk) (anc:=anc) (far:=far) (i:=k+(c+1)) (l:=s.2.1) (mk:=s.2.2) (m:=m+4*c) (r.le (by omega));have h:=XW (blk:=blk) (anc:=anc) (far:=far) (k:=k) (m:=m) (c:=c) (s:=BS.EO blk anc far (k+(c+1)) s.1 s.2.1 s.2.2) r1;exact⟨h.1,Bt h.2 sX⟩
theorem dF{fe:Ce}{blk anc:Int}{s:BS×Int×Nat}(r:BR s.1 (m+4))(Jr:fe.name.length<=1000/\DH fe.Ay):BR (BS.FO fe blk anc s) m/\(BS.FO fe blk anc s).AR.length<=s.1.AR.length+1:=by
 unfold BS.FO;simp only
 generalize XH:s.1.place anc=pb;have r1:=r.Jq (I4 (x:=s.2.1) (p:=pb.1) (bf:=pb.2));generalize MF:({s.1 with a:=s.1.a.D3 s.2.1 pb.1 pb.2}:BS)=b2 at r1;have Wf:b2.AR=s.1.AR:=by rw[<-MF]
 have r3:=Ic (m:=m+1) (nm:=fe.name) (l:=fe.Ay) (sp:=1) (p:=blk) (r1.le (by omega)) Jr.2;have MD:(b2.Ee fe.name fe.Ay 1 blk).AR=b2.AR:=by unfold BS.Ee;rw[if_pos IV]
 have hnw:(b2.FE fe.name fe.Ay 1).name.length<=1000:=Mv Jr.1;generalize b2.Ee fe.name fe.Ay 1 blk=b3 at*;generalize b2.FE fe.name fe.Ay 1=n at*;have r4:=r3.Jq ((Pz (n:=n.node) (l:=(b3.a.nd blk).AZ)).trans (I3 (p:=blk) (x:=n.node) (bf:=0)));have L1:∀{α:Type} (l:List α) (k:Nat) (y:α),(l.take k++y::l.drop k).length=l.length+1/\∀z∈l.take k++y::l.drop k,z∈l\/z=y:=λl k y=>⟨by rw[Ao,Bf,Al,A8];omega,λz hz=>by
  rcases Ap.1 hz with hz|hz
  .exact .inl (Bj hz)
  .rcases AP.1 hz with rfl|hz
   .exact .inr rfl
   .exact .inl (Bw hz)⟩
 have hr:=Kg (n:=fe.node) (l:=b3.AR);have hd:=CX (l:=b3.A3) (k:=(EG fe.node b3.A3).toNat);have r5:=r4.le (m':=m) (by omega);refine⟨⟨r5.n,r5.at_,r5.data,?_,?_,r5.tm,λe he=>?_,λi hi=>?_⟩,?_⟩;·simp only[(L1 _ _ _).1];have:=hr.length_le;have:=r3.AR;omega
 .simp only[(L1 _ _ _).1];have:=hd.length_le;have:=r3.A3;omega
 .rcases(L1 _ _ _).2 e he with he|rfl
  .exact r3.Dj e (hd.subset he)
  .exact Jr
 .rcases(L1 _ _ _).2 i hi with hi|rfl
  .exact r3.Wl i (hr.subset hi)
  .exact hnw
 .simp only[(L1 _ _ _).1];have h1:=hr.length_le;have h2:=Cf List.length (MD.trans Wf);omega
theorem Nd(r:BR b (m+4*b.AR.length+10))(nm:As):BR (b.round nm).2 m/\(b.round nm).2.AR.length<=b.AR.length+1:=by
 have r0:BR b m:=r.le (by omega);unfold BS.round;simp only
 split
 .have key:(b.C1 nm).a=b.a/\List.Sublist (b.C1 nm).AR b.AR/\(b.C1 nm).A3=b.A3/\(b.C1 nm).tm=b.tm:=by
   unfold BS.C1;split
   .split;·exact⟨rfl,HQ.trans EH,rfl,rfl⟩
    .exact⟨rfl,AX _,rfl,rfl⟩
   .exact⟨rfl,AX _,rfl,rfl⟩
  exact⟨r0.sub key.1 key.2.1 (by rw[key.2.2.1];exact AX _) (by rw[key.2.2.2];exact Ac _),Bt key.2.1.length_le (Gf _)⟩
 .rename_i hf;obtain⟨f,Gv,ef⟩:=Ri (L0.1 hf);have Ub:b.A3.getD (FL nm b.A3).toNat Ce.zero=b.A3[f]:=by rw[ef,AS,AE,Ai Gv];rfl
  have Jr:=r.Dj _ (AI Gv);rw[Ub];split;·exact⟨r0.sub rfl (AX _) CX (Ac _),Gf _⟩
  .split;·exact⟨r0,Gf _⟩
   .split;·exact⟨r0.sub rfl HQ CX (Ac _),Bt HQ.length_le (Gf _)⟩
    .rename_i hk _ hfa;have hlt:(DA b.A3[f].node b.AR).toNat-1 -(AL (Bp b.A3[f].node) b.AR).toNat<=b.AR.length:=by
      rw[HN];split;·omega
      .unfold Ep;split;·rename_i j hj;have:=(HE.1 hj).1;rw[A8] at this;omega
       .omega
     have h1:=XW (blk:=(b.AR.getD (DA b.A3[f].node b.AR).toNat Item.zero).node) (anc:=(b.AR.getD ((AL (Bp b.A3[f].node) b.AR).toNat-1) Item.zero).node) (far:=(DA b.A3[f].node b.AR).toNat) (k:=(AL (Bp b.A3[f].node) b.AR).toNat) (m:=m+4) (c:=(DA b.A3[f].node b.AR).toNat-1 -(AL (Bp b.A3[f].node) b.AR).toNat) (s:=(b,(b.AR.getD (DA b.A3[f].node b.AR).toNat Item.zero).node,(FL nm b.A3).toNat)) (r.le (by omega));have h2:=dF (fe:=b.A3[f]) (blk:=(b.AR.getD (DA b.A3[f].node b.AR).toNat Item.zero).node) (anc:=(b.AR.getD ((AL (Bp b.A3[f].node) b.AR).toNat-1) Item.zero).node) h1.1 Jr;exact⟨h2.1,Bt h2.2 (Nat.succ_le_succ h1.2)⟩
theorem S8:∀{n:Nat} {b:BS} {k:Nat},b.AR.length<=k->BR b (m+n*(4*(k+n)+10))->BR (BS.DM n b nm) m/\(BS.DM n b nm).AR.length<=k+n
 |0,b,k,hk,r=>⟨r.le (by omega),hk⟩
 |n+1,b,k,hk,r=>by
  have e:(n+1)*(4*(k+(n+1))+10)=n*(4*(k+1+n)+10)+(4*(k+(n+1))+10):=by rw[BC,Ez,show k+(n+1)=k+1+n by omega]
  rw[e] at r;have h1:=Nd (m:=m+n*(4*(k+1+n)+10)) (r.le (by omega)) nm;unfold BS.DM;simp only
  split;·have h2:=S8 (n:=n) (k:=k+1) (by omega) h1.1;exact⟨h2.1,by omega⟩
  .exact⟨h1.1.le (by omega),by omega⟩
theorem aL9(w:BX h bi a o c t G b)(hc:BN b.A3 c)(ok:DG b)(rm:BR b (m+8*(4*(b.AR.length+8)+10)))(nm:As):
  ∃h' o' c' G',BI cx 33 [Pt bi 0,.str nm] h (.tuple []) h'/\BX h' bi a o' c' t G' (b.Hr nm)/\BN (b.Hr nm).A3 c'/\Dh h (own bi G) h' (own bi G'):=by
 have ho:=rm.AR;have r1:=aGG w rm;have em:Aw (.By 1) [.str nm]=some (.sl 1 ([nm].map CI)):=DE (ws:=[nm]) rfl (by simp);have r2:BI cx 50 [.agg (EW b.AR).row,.sl 1 ([nm].map CI)] h (.bool (Bq [nm] (EW b.AR))) h:=jD (ws:=[nm]) CS (by simp) _ h;have r3:=hc.at w rm (EW b.AR).node;have hpa:b.Qa.A3=b.A3:=by unfold BS.Qa;split<;>rfl
 by_cases h1:Bq [nm] (EW b.AR)=true/\EG (EW b.AR).node b.A3<0
 .obtain⟨h2,o2,r4,w2,x2⟩:=aG4 w rm;have e:b.Hr nm=b.Qa:=by unfold BS.Hr;rw[if_pos h1]
  rw[e];refine⟨h2,o2,c,G,?_,w2,by rw[hpa];exact hc,x2⟩;rw[h1.1] at r2;rw[Ab,iM,t33];simp only[AA,Bi,EC,(Hs w).call,r1.call,em,r2.call,r3.call,h1.2,r4.call]
 have e:b.Hr nm=BS.DM 8 b nm:=by unfold BS.Hr;rw[if_neg h1]
 rw[e];have H5:Ev cx 33 [Pt bi 0,.str nm] h λr h'=>r= .tuple []/\∃o' c' G',BX h' bi a o' c' t G' (BS.DM 8 b nm)/\BN (BS.DM 8 b nm).A3 c'/\Dh h (own bi G) h' (own bi G'):=by
  unfold Ev;rw[iM,t33];have GM:∀(Q:Post) (k:EN->List Aa->IT),(∀x vs h1,(x= .exit 0\/x= .ret)->(∃o' c' G',BX h1 bi a o' c' t G' (BS.DM 8 b nm)/\BN (BS.DM 8 b nm).A3 c'/\Dh h (own bi G) h1 (own bi G'))->W cx (k x vs) Q h1)->
    W cx (.loop 5 [I 0] (λc13=> .op (.int .lss) [g c13 0,I 8] λv14=> .AJ v14 (.call 93 [Pt bi 0,.str nm] λv15=> .op (.un .not) [v15] λv16=> .AJ v16 (.ret .ret [g c13 0]) (.op (.int .add) [g c13 0,I 1] λv17=> .ret .normal [v17])) (.ret (.exit 0) [g c13 0])) k) Q h:=by
   intro Q k hk;refine Bd (λn:Nat=>[I ((8 -n:Nat):Int)]) (λn h1=>n<=8/\∃o1 c1 G1 b1,BX h1 bi a o1 c1 t G1 b1/\BN b1.A3 c1/\DG b1/\BR b1 (m+n*(4*(b.AR.length+8)+10))/\b1.AR.length<=b.AR.length+(8 -n)/\BS.DM 8 b nm=BS.DM n b1 nm/\Dh h (own bi G) h1 (own bi G1)) (λn=>n) 8 rfl ⟨Ac _,o,c,G,b,w,hc,ok,rm,by omega,rfl,.refl⟩ ?_;rintro n h1 ⟨hn,o1,c1,G1,b1,w1,Qk,TD,jH,TZ,e1,x1⟩;cases n with
   |zero=>simp only[AA,Bi,show¬((8 -0:Nat):Int)<8 by decide];exact hk _ _ _ (.inl rfl) ⟨o1,c1,G1,by rw[e1];exact w1,by rw[e1];exact Qk,x1⟩
   |succ n=>
    have hsp:(n+1)*(4*(b.AR.length+8)+10)=n*(4*(b.AR.length+8)+10)+(4*(b.AR.length+8)+10):=by rw[BC,Ez]
    rw[hsp] at jH;have sY:BR b1 (m+n*(4*(b.AR.length+8)+10)+4*b1.AR.length+10):=jH.le (by omega);obtain⟨h2,o2,c2,G2,r5,w2,HZ,x2⟩:=aLX w1 Qk TD sY nm;obtain⟨S6,Xr⟩:=Nd sY nm;have bc:=(Vv (nm:=nm) TD).1;have hlt:((8 -(n+1):Nat):Int)<8:=by omega
    have inc:Aw (.int .add) [I ((8 -(n+1):Nat):Int),I 1]=some (I ((8 -n:Nat):Int)):=by have:=BB (n:=8 -(n+1)) (by omega);rwa [show 8 -(n+1)+1=8 -n by omega] at this
    have er:BS.DM (n+1) b1 nm=if(b1.round nm).1 then BS.DM n (b1.round nm).2 nm else(b1.round nm).2:=rfl
    cases hr:(b1.round nm).1 with
    |true=>rw[hr] at r5 er;simp only[AA,Bi,hlt,r5.call,inc];exact AF.next n rfl ⟨by omega,o2,c2,G2,_,w2,HZ,bc,S6,by omega,e1.trans er,x1.trans x2⟩ (by omega)
    |false=>rw[hr] at r5 er;simp only[AA,Bi,hlt,r5.call];exact hk _ _ _ (.inr rfl) ⟨o2,c2,G2,by rw[e1,er];exact w2,by rw[e1,er];exact HZ,x1.trans x2⟩
  by_cases h2:Bq [nm] (EW b.AR)=true
  .have h3:¬EG (EW b.AR).node b.A3<0:=λh=>h1 ⟨h2,h⟩;rw[h2] at r2;simp only[AA,Bi,EC,(Hs w).call,r1.call,em,r2.call,r3.call,h3];refine GM _ _ ?_;rintro x vs h1 (rfl|rfl) ⟨o',c',G',a1,a2,a3⟩;·simp only[AA];exact⟨_,rfl,rfl,o',c',G',a1,a2,a3⟩
   .simp only[AA];exact⟨_,rfl,rfl,o',c',G',a1,a2,a3⟩
  .have h2:Bq [nm] (EW b.AR)=false:=by simpa using h2
   rw[h2] at r2;simp only[AA,Bi,EC,(Hs w).call,r1.call,em,r2.call];refine GM _ _ ?_;rintro x vs h1 (rfl|rfl) ⟨o',c',G',a1,a2,a3⟩;·simp only[AA];exact⟨_,rfl,rfl,o',c',G',a1,a2,a3⟩
   .simp only[AA];exact⟨_,rfl,rfl,o',c',G',a1,a2,a3⟩
 obtain⟨r,h',hr,rfl,o',c',G',w',Km,x'⟩:=H5.ret;exact⟨h',o',c',G',hr,w',Km,x'⟩
end
structure dG where
 k:Int
 name:As
 Ay:List AU
 A0:Int
 a:Int
 b:Bool
 s:As
 r:Int
 n:Int
def Mx(h:Int):Item:=⟨h,0,[],false⟩
noncomputable def VX(b:BS)(q:dG):BS×Item:=
 if q.k=1 then(b.Ey q.name q.Ay 1,Mx (b.a.len+1))
 else if q.k=2 then(b.Ey q.name q.Ay q.A0,Mx (b.Om q.A0))
 else if q.k=3 then(b.Ji q.name q.Ay,Mx (b.a.len+1))
 else if q.k=4 then(b.gY q.r,Item.zero)
 else if q.k=5 then(b.J2 q.s q.a,Item.zero)
 else if q.k=6 then(b.OU q.name q.Ay q.n,Item.zero)
 else if q.k=7 then(b.IP,Item.zero)
 else if q.k=8 then(b.Dv,Item.zero)
 else if q.k=9 then(b.C1 q.name,Item.zero)
 else if q.k=10 then(b.Hr q.name,Item.zero)
 else if q.k=11 then(b.HP,Item.zero)
 else if q.k=12 then(b.GF q.Ay q.a,Item.zero)
 else if q.k=13 then(b.C8,Item.zero)
 else if q.k=14 then({b with stop:=true},Item.zero)
 else if q.k=15 then({b with Eb:=q.b},Item.zero)
 else if q.k=16 then({b with tm:=b.tm++[q.n]},Item.zero)
 else if q.k=17 then({b with A3:=b.A3++[Ce.zero]},Item.zero)
 else if q.k=18 then(b.Qa,b.gZ)
 else if q.k=19 then({b with head:=q.a},Item.zero)
 else if q.k=20 then({b with mode:=q.n},Item.zero)
 else if q.k=21 then({b with A3:=FD b.A3},Item.zero)
 else if q.k=22 then({b with AR:=Ds CD (Bq [q.name]) b.AR},Item.zero)
 else if q.k=23 then({b with Mr:=q.a},Item.zero)
 else if q.k=24 then(b.Ee q.name q.Ay q.A0 q.a,b.FE q.name q.Ay q.A0)
 else(b,Item.zero)
structure bn(q:dG):Prop where
 name:q.name.length<=1000
 Ay:DH q.Ay
 s:q.s.length<=1000
 r: -2147483648<=q.r/\q.r<=2147483647
section
variable{b:BS}{q:dG}{m j:Nat}
theorem aCi(o:DG b){nm:As}{l:List AU}{sp p:Int}:DG (b.Ee nm l sp p):=by
 by_cases hs:BS.Hq sp;·exact(Ms o hs).1
 .unfold BS.Ee;rw[if_neg hs];exact o
theorem sa(o:DG b):DG {b with A3:=b.A3++[Ce.zero]}:=by have:=o.T_ (e:=Ce.zero) (k:=b.A3.length) (.inl rfl) (.inl rfl);rw[Bu,Fo] at this;exact this
theorem D7{α:Type}{P:α->Prop}{c:Prop}[Decidable c]{x y:α}(h1:P x)(h2:P y):P (if c then x else y):=by split;exact h1;exact h2
theorem VY{P:BS×Item->Prop}(h1:P (b.Ey q.name q.Ay 1,Mx (b.a.len+1)))(h2:P (b.Ey q.name q.Ay q.A0,Mx (b.Om q.A0)))(h3:P (b.Ji q.name q.Ay,Mx (b.a.len+1)))(h4:P (b.gY q.r,Item.zero))(h5:P (b.J2 q.s q.a,Item.zero))(h6:P (b.OU q.name q.Ay q.n,Item.zero))(h7:P (b.IP,Item.zero))(h8:P (b.Dv,Item.zero))(h9:P (b.C1 q.name,Item.zero))(VM:P (b.Hr q.name,Item.zero))(ZI:P (b.HP,Item.zero))(h12:P (b.GF q.Ay q.a,Item.zero))(h13:P (b.C8,Item.zero))(h14:P ({b with stop:=true},Item.zero))(h15:P ({b with Eb:=q.b},Item.zero))(h16:P ({b with tm:=b.tm++[q.n]},Item.zero))(h17:P ({b with A3:=b.A3++[Ce.zero]},Item.zero))(h18:P (b.Qa,b.gZ))(h19:P ({b with head:=q.a},Item.zero))(h20:P ({b with mode:=q.n},Item.zero))(h21:P ({b with A3:=FD b.A3},Item.zero))(h22:P ({b with AR:=Ds CD (Bq [q.name]) b.AR},Item.zero))(h23:P ({b with Mr:=q.a},Item.zero))(h24:P (b.Ee q.name q.Ay q.A0 q.a,b.FE q.name q.Ay q.A0))(h0:P (b,Item.zero)):P (VX b q):=by unfold VX;exact D7 h1 (D7 h2 (D7 h3 (D7 h4 (D7 h5 (D7 h6 (D7 h7 (D7 h8 (D7 h9 (D7 VM (D7 ZI (D7 h12 (D7 h13 (D7 h14 (D7 h15 (D7 h16 (D7 h17 (D7 h18 (D7 h19 (D7 h20 (D7 h21 (D7 h22 (D7 h23 (D7 h24 (h0))))))))))))))))))))))))
theorem aCj(o:DG b):DG (VX b q).1:=VY (P:=λr=>DG r.1) (Qb (nm:=q.name) (at_:=q.Ay) (sp:=1) o) (Qb o) (rX o) (jr o) (iH o) (iI o) (rZ o) (iJ o) (XG o) (sC o) (Q7 o) (yA o) (Vt o) (o.of_eq rfl rfl rfl rfl) (o.of_eq rfl rfl rfl rfl) (o.of_eq rfl rfl rfl rfl) (sa o) (yB o) (o.of_eq rfl rfl rfl rfl) (o.of_eq rfl rfl rfl rfl) (o.iC (EZ _ _)) (o.YT EH) (o.of_eq rfl rfl rfl rfl) (aCi o) o
theorem BR.pO{k m:Nat}{h:Int}{x:Em}(r:BR b (m+k))(h1:x.Ay.length<=(b.a.nd h).Ay.length+k\/x.Ay.length<=1000)(h2:x.data.length<=(b.a.nd h).data.length+k\/x.data.length<=100000):BR {b with a:=b.a.set h x} m:=by
 have hn:(b.a.set h x).n.length=b.a.n.length:=by have:=jd (A:=b.a) (h:=h) (x:=x);unfold Ar.len at this;omega
 have r0:=r.le (m':=m) (by omega);have rn:=r.n;refine⟨by simp only;rw[hn];exact r0.n,λy=>?_,λy=>?_,r0.AR,r0.A3,r0.tm,r0.Dj,r0.Wl⟩
 .simp only;rw[IN];split;·rename_i hh;have:=r.at_ h;omega
  .exact r0.at_ y
 .simp only;rw[IN];split;·have:=r.data h;omega
  .exact r0.data y
theorem dH{m:Nat}{s:As}{p bf:Int}(r:BR b (m+5))(hs:s.length<=4):BR {b with a:=BS.Kx b.a s p bf} m:=by
 have Mb:∀d,BR {b with a:=(b.a.add {kind:=5,Cz:=d,data:=s}).D3 (b.a.len+1) p bf} m:=λd=>((r.le (m':=m+1) (by omega)).Fs (Mu (AO _) (by simp only;omega))).Jq I4
 have r0:=r.le (m':=m) (by omega);unfold BS.Kx;split
 .split
  .split;·exact BR.pO (k:=5) r (.inl (by simp only;omega)) (.inl (by simp only[Ao];omega))
   .exact Mb _
  .exact Mb _
 .exact r0
theorem Oq{m:Nat}{s:As}{p bf:Int}(r:BR b (m+5))(hs:s.length<=100000):BR {b with a:=BS.Es b.a s p bf} m:=by
 unfold BS.Es;split;·exact((r.le (m':=m+1) (by omega)).Fs (Mu (AO _) hs)).Jq I4
 .exact r.le (by omega)
end
section
variable{b:BS}{q:dG}{m j:Nat}{nm:As}
theorem jM{l:List AU}{x:Int}(r:BR b (m+1000))(hl:l.length<=1000):BR (b.GF l x) m:=by
 unfold BS.GF;split;·refine BR.pO (k:=1000) r (.inl ?_) (.inl (by simp only;omega));have:=OS (l:=(b.a.nd x).Ay++BS.plain l);rw[Ao,BS.plain,Ah] at this;unfold BS.plain;simp only;omega
 .exact r.le (by omega)
theorem XX:∀{l:List Ce} {b:BS},(BS.Iw l b).2.AR.length<=b.AR.length+l.length/\(BS.Iw l b).2.A3=b.A3/\(BS.Iw l b).1.length=l.length/\∀e∈(BS.Iw l b).1,∃e'∈l,e.name=e'.name/\e.Ay=e'.Ay
 |[],b=>⟨by simp[BS.Iw],rfl,rfl,λe he=>by simp[BS.Iw] at he⟩
 |e::l,b=>by
  obtain⟨h1,h2,h3,h4⟩:=XX (l:=l) (b:=b.Ey e.name e.Ay 1);have h5:(b.Ey e.name e.Ay 1).AR.length<=b.AR.length+1:=by
   unfold BS.Ey;rw[if_pos IV];simp only
   have:(b.Ee e.name e.Ay 1 (b.place 0).1).AR=b.AR:=by unfold BS.Ee;rw[if_pos IV]
   rw[Ao,Bc];first|(rw[this];exact Ac _)|exact Ac _
  rw[BS.Iw];refine⟨by simp only[Bf];omega,by simp only;rw[h2,FF],by simp only[Bf,h3],λe1 he=>?_⟩;rcases AP.1 he with rfl|he
  .exact⟨e,by simp,rfl,rfl⟩
  .obtain⟨e',h6,h7⟩:=h4 e1 he;exact⟨e',by simp[h6],h7⟩
theorem Zr(r:BR b (m+4*b.A3.length)):BR b.Dv m/\b.Dv.AR.length<=b.AR.length+b.A3.length/\b.Dv.A3.length=b.A3.length:=by
 have hk:=Rg (b:=b);have r1:=XS (l:=b.A3.drop b.Kf) (b:=b) (m:=m) (r.le (by rw[A8];omega)) λe he=>r.Dj e (Bw he);obtain⟨h1,h2,h3,h4⟩:=XX (l:=b.A3.drop b.Kf) (b:=b);rw[A8] at h1 h3;have hl:b.Dv.A3.length=b.A3.length:=by unfold BS.Dv;simp only[Ao,Al,h3];omega
 refine⟨⟨r1.n,r1.at_,r1.data,r1.AR,?_,r1.tm,λe he=>?_,r1.Wl⟩,by unfold BS.Dv;simp only;omega,hl⟩;·rw[hl];have:=r.A3;omega
 .unfold BS.Dv at he;simp only at he;rcases Ap.1 he with he|he
  .exact r.Dj e (Bj he)
  .obtain⟨e',h5,h6,h7⟩:=h4 e he;rw[h6,h7];exact r.Dj e' (Bw h5)
theorem dI{blk anc:Int}{far k:Nat}:∀{c:Nat} {s:BS×Int×Nat},(BS.Jp blk anc far k c s).1.A3.length<=s.1.A3.length
 |0,s=>Ac _
 |c+1,s=>by
  refine Bt (dI (c:=c)) ?_;unfold BS.EO;simp only
  split;·exact Ac _
  .split;·exact CX.length_le
   .have:∀nm l p,(s.1.Ee nm l 1 p).A3=s.1.A3:=λnm l p=>by unfold BS.Ee;rw[if_pos IV]
    simp only[this,Be];exact Ac _
theorem sZ:(b.round nm).2.A3.length<=b.A3.length+1:=by
 unfold BS.round;simp only
 split
 .have:(b.C1 nm).A3=b.A3:=by
   unfold BS.C1;split;·split<;>rfl
   .rfl
  rw[this];omega
 .split;·exact Bt CX.length_le (Gf _)
  .split;·exact Gf _
   .split;·exact Bt CX.length_le (Gf _)
    .unfold BS.FO;simp only
     generalize hs:BS.Jp _ _ _ _ _ _=s;have h1:s.1.A3.length<=b.A3.length:=by rw[<-hs];exact dI
     have:∀(b2:BS) nm l p,(b2.Ee nm l 1 p).A3=b2.A3:=λb2 nm l p=>by unfold BS.Ee;rw[if_pos IV]
     simp only[this,Ao,Bf,Al,A8];have h2:∀k,(A7 s.1.A3 k).length<=s.1.A3.length:=λk=>CX.length_le;refine Bt (m:=(A7 s.1.A3 (EG (b.A3.getD (FL nm b.A3).toNat Ce.zero).node s.1.A3).toNat).length+1) ?_ (Nat.succ_le_succ (Bt (h2 _) h1));omega
theorem VZ:∀{n:Nat} {b:BS},(BS.DM n b nm).A3.length<=b.A3.length+n
 |0,b=>Ac _
 |n+1,b=>by
  have h:=sZ (b:=b) (nm:=nm);unfold BS.DM;simp only
  split;·have:=VZ (n:=n) (b:=(b.round nm).2);omega
  .omega
structure Sz(b:BS)(j:Nat):Prop where
 rm:BR b (5000000*j)
 AR:b.AR.length+1200*j<=125000
 A3:b.A3.length+10*j<=1100
theorem Sz.of{b':BS}(h:Sz b (j+1))(r:BR b' (5000000*j))(h1:b'.AR.length<=b.AR.length+1200)(h2:b'.A3.length<=b.A3.length+10):Sz b' j:=⟨r,by have:=h.AR;omega,by have:=h.A3;omega⟩
theorem Sz.V0{k:Nat}(h:Sz b (j+1))(hk:k<=5000000:=by omega):BR b (5000000*j+k):=h.rm.le (by omega)
theorem Sz.NC{b':BS}(h:Sz b (j+1))(ha:b'.a=b.a)(ho:b'.AR.Sublist b.AR)(hc:b'.A3.Sublist b.A3)(ht:b'.tm.length<=b.tm.length):Sz b' j:=
 h.of ((h.rm.le (by omega)).sub ha ho hc ht) (by have:=ho.length_le;omega) (by have:=hc.length_le;omega)
theorem Sz.Qa(h:Sz b (j+1)):Sz b.Qa j:=by
 unfold BS.Qa;split;·exact h.NC rfl (AX _) (AX _) (Ac _)
 .exact h.NC rfl (EZ _ _) (AX _) (Ac _)
theorem Rj{l:List AU}{sp:Int}:(b.Ey nm l sp).AR.length<=b.AR.length+1200:=by
 unfold BS.Ey;split
 .rename_i hs;have:(b.Ee nm l sp (b.place 0).1).AR=b.AR:=by unfold BS.Ee;rw[if_pos hs]
  have:=Cf List.length this;simp only[Ao,Bc];omega
 .omega
theorem jN{l:List AU}:(b.Ji nm l).A3.length<=b.A3.length+10:=by
 unfold BS.Ji;simp only
 obtain⟨l',h1,h2⟩:=Vs (l:=(b.Ey nm l 1).A3) (e:=⟨b.a.len+1,nm,l⟩);rw[h2,Ao,Bc];have:=h1.length_le;rw[FF] at this;omega
theorem aCk(h:Sz b (j+1))(hq:bn q):Sz (VX b q).1 j:=VY (P:=λr=>Sz r.1 j)
 (h.of (Li (sp:=1) h.V0 hq.Ay hq.name) Rj (by rw[FF];omega))
 (h.of (Li h.V0 hq.Ay hq.name) Rj (by rw[FF];omega))
 (h.of (cJ h.V0 hq.Ay hq.name) Rj jN)
 (h.of (dH h.V0 (VU _)) (Ii _ _) (Ii _ _))
 (by
  dsimp only;unfold BS.J2;split;·exact h.of (Oq h.V0 (by have:=hq.s;omega)) (Ii _ _) (Ii _ _)
  .exact h.of (Oq h.V0 (by have:=hq.s;omega)) (Ii _ _) (Ii _ _))
 (h.of ((Li h.V0 hq.Ay hq.name).eq rfl rfl rfl rfl) Rj (by show(b.Ey q.name q.Ay 1).A3.length<=_;rw[FF];omega))
 (by
  dsimp only;unfold BS.IP;split;·exact h.NC rfl (EH.trans EH) (AX _) (Ac _)
  .exact h.NC rfl (AX _) (AX _) (Ac _))
 (by dsimp only;have h1:=Zr (m:=5000000*j) (h.rm.le (by have:=h.A3;omega));exact h.of h1.1 (by have:=h.A3;have:=h1.2.1;omega) (by rw[h1.2.2];omega))
 (by
  dsimp only;unfold BS.C1;split
  .split;·exact h.NC rfl (HQ.trans EH) (AX _) (Ac _)
   .exact h.NC rfl (AX _) (AX _) (Ac _)
  .exact h.NC rfl (AX _) (AX _) (Ac _))
 (by
  dsimp only;unfold BS.Hr;split;·exact h.Qa
  .have h1:=S8 (n:=8) (b:=b) (k:=b.AR.length) (nm:=q.name) (m:=5000000*j) (Ac _) (h.rm.le (by have:=h.AR;omega));exact h.of h1.1 (by have:=h1.2;omega) (by have:=VZ (n:=8) (b:=b) (nm:=q.name);omega))
 (h.NC rfl (AX _) (AX _) (Ac _))
 (by
  dsimp only;have e:(b.GF q.Ay q.a).AR=b.AR/\(b.GF q.Ay q.a).A3=b.A3:=by unfold BS.GF;split<;>exact⟨rfl,rfl⟩
  exact h.of (jM (m:=5000000*j) (h.rm.le (by omega)) hq.Ay.1) (by rw[e.1];omega) (by rw[e.2];omega))
 (by
  dsimp only;unfold BS.C8;split;·exact h.NC rfl (AX _) (AX _) (Ac _)
  .exact h.NC rfl (show(Ds CD (Bq [A6]) (Ds Cs CD b.AR)).Sublist b.AR from EH.trans EH) (EZ _ _) (show b.tm.dropLast.length<=b.tm.length by simp))
 (h.NC rfl (AX _) (AX _) (Ac _))
 (h.NC rfl (AX _) (AX _) (Ac _))
 (by dsimp only;have r:=h.rm.le (m':=5000000*j+1) (by omega);have r0:=r.le (m':=5000000*j) (by omega);exact h.of ⟨r0.n,r0.at_,r0.data,r0.AR,r0.A3,by have:=r.tm;simp only[Ao,Bc];omega,r0.Dj,r0.Wl⟩ (Ii _ _) (Ii _ _))
 (by
  dsimp only;refine h.of ((h.rm.le (m':=5000000*j+1) (by omega)).vj (e:=Ce.zero) (by simp) (λe he=>?_) ⟨by decide,by decide,λa ha=>by cases ha⟩) (Ii _ _) (by simp);rcases Ap.1 he with he|he
  .exact .inl he
  .exact .inr (by simpa using he))
 (h.Qa)
 (h.NC rfl (AX _) (AX _) (Ac _))
 (h.NC rfl (AX _) (AX _) (Ac _))
 (h.NC rfl (AX _) (EZ _ _) (Ac _))
 (h.NC rfl EH (AX _) (Ac _))
 (h.NC rfl (AX _) (AX _) (Ac _))
 (by
  dsimp only;have e:(b.Ee q.name q.Ay q.A0 q.a).AR=b.AR/\(b.Ee q.name q.Ay q.A0 q.a).A3=b.A3:=by unfold BS.Ee;split<;>exact⟨rfl,rfl⟩
  exact h.of (Ic (m:=5000000*j) (h.rm.le (by omega)) hq.Ay) (by rw[e.1];omega) (by rw[e.2];omega))
 (h.NC rfl (AX _) (AX _) (Ac _))
end
def KA(q:dG)(av:Aa):List Aa:=[I q.k,.str q.name,av,I q.A0,I q.a,.bool q.b,.str q.s,.int .i32 q.r,I q.n]
section
variable{h h':Ag}{bi a:Nat}{o c t:Aa}{G G' F:Nat->Prop}{b:BS}{x:Int}{m j:Nat}{q:dG}
variable{nm:As}{av:Aa}{l:List AU}{r:List Aa}{sp p:Int}
theorem TH(hv:Bz q.Ay av)(hl:q.Ay.length<=1000)(h:Ag):∃r jO,BI cx 57 [.agg (KA q av)] h (.agg r) h/\Na q.name jO r/\Bz q.Ay jO:=by have ZJ:AT=140737488355328:=rfl;obtain⟨u,e,hu⟩:=AM.Gk (b:=40) hv (by omega);have hc:u.cells=[u]:=AM.cells hu;refine⟨_,u,?_,⟨I 2,ff,S [],ff,S [],ff,ff,ff,S [],.int .i32 0,rfl⟩,hu⟩;rw[Ab,aAk,t57,KA];simp only[AA,Nat.reduceLeDiff,↓reduceIte,AK,Bi,e,hc]
theorem aHo(i:Item)(h:Ag):BI cx 11 [.agg i.row] h (.agg i.row) h:=by rw[Ab,W_,t11,Item.row];simp only[AA,Nat.reduceLeDiff,↓reduceIte,AK,Bi]
set_option maxHeartbeats 4000000 in
theorem aMb(w:BX h bi a o c t G b)(hc:BN b.A3 c)(ok:DG b)(sz:Sz b (j+1))(hq:bn q)(hv:Bz q.Ay av):
  ∃h' o' c' t' G',BI cx 23 [Pt bi 0,.agg (KA q av)] h (.agg (VX b q).2.row) h'/\BX h' bi a o' c' t' G' (VX b q).1/\BN (VX b q).1.A3 c'/\Dh h (own bi G) h' (own bi G'):=by
 unfold VX KA;by_cases k1:q.k=1;·rw[if_pos k1];dsimp only;obtain⟨r,jO,r1,hr,Du⟩:=TH (q:=q) hv hq.Ay.1 h;rw[KA] at r1;obtain⟨h',o',G',r2,w',x'⟩:=qt (m:=5000000*j) w ok sz.V0 hr Du hq.Ay hq.name;refine⟨h',o',c,t,G',?_,w',by rw[FF];exact hc,x'⟩;rw[Ab,E5,S3];simp only[AA,Nat.reduceLeDiff,↓reduceIte,AK,Bi,AW k1,r1.call,r2.call];try rfl
 rw[if_neg k1];by_cases k2:q.k=2;·rw[if_pos k2];dsimp only;obtain⟨r,jO,r1,hr,Du⟩:=TH (q:=q) hv hq.Ay.1 h;rw[KA] at r1;obtain⟨h',o',G',r2,w',x'⟩:=aGM (m:=5000000*j) w ok sz.V0 hr Du hq.Ay hq.name q.A0;refine⟨h',o',c,t,G',?_,w',by rw[FF];exact hc,x'⟩;rw[Ab,E5,S3];simp only[AA,Nat.reduceLeDiff,↓reduceIte,AK,Bi,k1,AW k2,r1.call,r2.call];try rfl
 rw[if_neg k2];by_cases k3:q.k=3;·rw[if_pos k3];dsimp only;obtain⟨r,jO,r1,hr,Du⟩:=TH (q:=q) hv hq.Ay.1 h;rw[KA] at r1;obtain⟨h',o',c',G',r2,w',Km,x'⟩:=aLz (m:=5000000*j) w hc ok sz.V0 hr Du hq.Ay hq.name;refine⟨h',o',c',t,G',?_,w',Km,x'⟩;rw[Ab,E5,S3];simp only[AA,Nat.reduceLeDiff,↓reduceIte,AK,Bi,k1,k2,AW k3,r1.call,r2.call];try rfl
 rw[if_neg k3];by_cases k4:q.k=4;·rw[if_pos k4];dsimp only;obtain⟨h',G',r2,w',x'⟩:=aLB (m:=5000000*j) w ok sz.V0 q.r hq.r;refine⟨h',o,c,t,G',?_,w',hc,x'⟩;rw[Ab,E5,S3];simp only[AA,↓reduceIte,AK,Bi,k1,k2,k3,AW k4,r2.call];try rfl
 rw[if_neg k4];by_cases k5:q.k=5;·rw[if_pos k5];dsimp only;obtain⟨h',G',r2,w',x'⟩:=aLE (m:=5000000*j) w ok sz.V0 q.s (by have:=hq.s;omega) q.a;refine⟨h',o,c,t,G',?_,w',hc,x'⟩;rw[Ab,E5,S3];simp only[AA,↓reduceIte,AK,Bi,k1,k2,k3,k4,AW k5,r2.call];try rfl
 rw[if_neg k5];by_cases k6:q.k=6;·rw[if_pos k6];dsimp only;obtain⟨r,jO,r1,hr,Du⟩:=TH (q:=q) hv hq.Ay.1 h;rw[KA] at r1;obtain⟨h',o',G',r2,w',x'⟩:=aLF (m:=5000000*j) w ok sz.V0 hr Du hq.Ay hq.name q.n;refine⟨h',o',c,t,G',?_,w',by show BN (b.Ey q.name q.Ay 1).A3 c;rw[FF];exact hc,x'⟩;rw[Ab,E5,S3];simp only[AA,↓reduceIte,AK,Bi,k1,k2,k3,k4,k5,AW k6,r1.call,r2.call];try rfl
 rw[if_neg k6];by_cases k7:q.k=7;·rw[if_pos k7];dsimp only;obtain⟨h',o',r2,w',x'⟩:=aLG w sz.rm;refine⟨h',o',c,t,G,?_,w',by have e:b.IP.A3=b.A3:=(by unfold BS.IP;split<;>rfl);rw[e];exact hc,x'⟩;rw[Ab,E5,S3];simp only[AA,↓reduceIte,AK,Bi,k1,k2,k3,k4,k5,k6,AW k7,r2.call];try rfl
 rw[if_neg k7];by_cases k8:q.k=8;·rw[if_pos k8];dsimp only;obtain⟨h',o',c',G',r2,w',Km,x'⟩:=aLM (m:=5000000*j) w hc ok (sz.rm.le (by have:=sz.A3;omega));refine⟨h',o',c',t,G',?_,w',Km,x'⟩;rw[Ab,E5,S3];simp only[AA,↓reduceIte,AK,Bi,k1,k2,k3,k4,k5,k6,k7,AW k8,r2.call];try rfl
 rw[if_neg k8];by_cases k9:q.k=9;·rw[if_pos k9];dsimp only;obtain⟨h',o',r2,w',x'⟩:=aGV w sz.rm q.name;refine⟨h',o',c,t,G,?_,w',by have e:(b.C1 q.name).A3=b.A3:=(by unfold BS.C1;split;split<;>rfl;rfl);rw[e];exact hc,x'⟩;rw[Ab,E5,S3];simp only[AA,↓reduceIte,AK,Bi,k1,k2,k3,k4,k5,k6,k7,k8,AW k9,r2.call];try rfl
 rw[if_neg k9];by_cases ND:q.k=10;·rw[if_pos ND];dsimp only;obtain⟨h',o',c',G',r2,w',Km,x'⟩:=aL9 (m:=5000000*j) w hc ok (sz.rm.le (by have:=sz.AR;omega)) q.name;refine⟨h',o',c',t,G',?_,w',Km,x'⟩;rw[Ab,E5,S3];simp only[AA,↓reduceIte,AK,Bi,k1,k2,k3,k4,k5,k6,k7,k8,k9,AW ND,r2.call];try rfl
 rw[if_neg ND];by_cases Ot:q.k=11;·rw[if_pos Ot];dsimp only;obtain⟨h',r2,w',x'⟩:=qw w sz.rm;refine⟨h',o,c,t,G,?_,w',hc,x'⟩;rw[Ab,E5,S3];simp only[AA,↓reduceIte,AK,Bi,k1,k2,k3,k4,k5,k6,k7,k8,k9,ND,AW Ot,r2.call];try rfl
 rw[if_neg Ot];by_cases O9:q.k=12;·rw[if_pos O9];dsimp only;obtain⟨r,jO,r1,hr,Du⟩:=TH (q:=q) hv hq.Ay.1 h;rw[KA] at r1;obtain⟨h',G',r2,w',x'⟩:=aLH (m:=5000000*j) w ok sz.V0 hr Du hq.Ay q.a;refine⟨h',o,c,t,G',?_,w',by have e:(b.GF q.Ay q.a).A3=b.A3:=(by unfold BS.GF;split<;>rfl);rw[e];exact hc,x'⟩;rw[Ab,E5,S3];simp only[AA,↓reduceIte,AK,Bi,k1,k2,k3,k4,k5,k6,k7,k8,k9,ND,Ot,AW O9,r1.call,r2.call];try rfl
 rw[if_neg O9];by_cases Qf:q.k=13;·rw[if_pos Qf];dsimp only;obtain⟨h',o',c',t',r2,w',Km,x'⟩:=aLI w hc sz.rm;refine⟨h',o',c',t',G,?_,w',Km,x'⟩;rw[Ab,E5,S3];simp only[AA,↓reduceIte,AK,Bi,k1,k2,k3,k4,k5,k6,k7,k8,k9,ND,Ot,O9,AW Qf,r2.call];try rfl
 rw[if_neg Qf];by_cases Rk:q.k=14;·rw[if_pos Rk];dsimp only;obtain⟨h',r2,w',x'⟩:=aLK w;refine⟨h',o,c,t,G,?_,w',hc,x'⟩;rw[Ab,E5,S3];simp only[AA,↓reduceIte,AK,Bi,k1,k2,k3,k4,k5,k6,k7,k8,k9,ND,Ot,O9,Qf,AW Rk,r2.call];try rfl
 rw[if_neg Rk];by_cases Sn:q.k=15;·rw[if_pos Sn];dsimp only;have w':BX (put h bi 15 (.bool q.b)) bi a o c t G {b with Eb:=q.b}:=w.put rfl rfl w.o w.t;refine⟨put h bi 15 (.bool q.b),o,c,t,G,?_,w',hc,Bg⟩;rw[Ab,E5,S3];simp only[AA,↓reduceIte,AK,Bi,k1,k2,k3,k4,k5,k6,k7,k8,k9,ND,Ot,O9,Qf,Rk,AW Sn,w.st (k:=15) (v:= .bool q.b) rfl rfl];try rfl
 rw[if_neg Sn];by_cases TI:q.k=16;·rw[if_pos TI];dsimp only;have wv:=sz.rm.tm;have ZJ:AT=140737488355328:=rfl;obtain⟨u,e1,hu⟩:=AM.Gk (b:=8) w.t (by omega);have e2:=AM.Jg (b:=8) (a:=q.n) hu (by omega);have em:Aw (.By 1) [I q.n]=some (.sl 1 [B6 q.n]):=rfl;have HU:Df (b.tm++[q.n]) (.sl 1 ((b.tm++[q.n]).map B6)):= .mk;have w':=w.jG HU;refine⟨put h bi 6 (.sl 1 ((b.tm++[q.n]).map B6)),o,c,_,G,?_,w',hc,Bg⟩;rw[Ab,E5,S3];simp only[AA,↓reduceIte,AK,Bi,k1,k2,k3,k4,k5,k6,k7,k8,k9,ND,Ot,O9,Qf,Rk,Sn,AW TI,w.l6,e1,em,e2,w.st (k:=6) (v0:=t) rfl (AM.cells HU)];try rfl
 rw[if_neg TI];by_cases V4:q.k=17;·rw[if_pos V4];dsimp only;have Q8:=sz.rm.A3;obtain⟨fs,F0,UD⟩:=hc;obtain⟨u,r2,hu⟩:=f63 (h:=h) (id:=bi) (o:=3) (l:=fs) ⟨c,w.pC,UD⟩ (by rw[<-F0,Ah] at Q8;omega);have w':=w.Ki (u:=u) (l:=b.A3++[Ce.zero]);have Km:BN (b.A3++[Ce.zero]) u:=⟨_,by rw[BE,F0];rfl,hu⟩;refine⟨put h bi 3 u,o,u,t,G,?_,w',Km,Bg⟩;rw[Ab,E5,S3];simp only[AA,↓reduceIte,AK,Bi,k1,k2,k3,k4,k5,k6,k7,k8,k9,ND,Ot,O9,Qf,Rk,Sn,TI,AW V4,r2.call];try rfl
 rw[if_neg V4];by_cases WS:q.k=18;·rw[if_pos WS];dsimp only;obtain⟨h',o',r2,w',x'⟩:=aG4 w sz.rm;have r3:=aHo b.gZ h';refine⟨h',o',c,t,G,?_,w',by have e:b.Qa.A3=b.A3:=(by unfold BS.Qa;split<;>rfl);rw[e];exact hc,x'⟩;rw[Ab,E5,S3];simp only[AA,↓reduceIte,AK,Bi,EC,k1,k2,k3,k4,k5,k6,k7,k8,k9,ND,Ot,O9,Qf,Rk,Sn,TI,V4,AW WS,r2.call,r3.call];try rfl
 rw[if_neg WS];by_cases Zs:q.k=19;·rw[if_pos Zs];dsimp only;have w':BX (put h bi 7 (I q.a)) bi a o c t G {b with head:=q.a}:=w.put rfl rfl w.o w.t;refine⟨put h bi 7 (I q.a),o,c,t,G,?_,w',hc,Bg⟩;rw[Ab,E5,S3];simp only[AA,↓reduceIte,AK,Bi,k1,k2,k3,k4,k5,k6,k7,k8,k9,ND,Ot,O9,Qf,Rk,Sn,TI,V4,WS,AW Zs,w.st (k:=7) (v:= I q.a) rfl rfl];try rfl
 rw[if_neg Zs];by_cases dJ:q.k=20;·rw[if_pos dJ];dsimp only;have w':=w.cX q.n;refine⟨put h bi 4 (I q.n),o,c,t,G,?_,w',hc,Bg⟩;rw[Ab,E5,S3];simp only[AA,↓reduceIte,AK,Bi,k1,k2,k3,k4,k5,k6,k7,k8,k9,ND,Ot,O9,Qf,Rk,Sn,TI,V4,WS,Zs,AW dJ,w.st (k:=4) (v:= I q.n) rfl rfl];try rfl
 rw[if_neg dJ];by_cases jP:q.k=21;·rw[if_pos jP];dsimp only;have Q8:=sz.rm.A3;obtain⟨fs,F0,UD⟩:=hc;obtain⟨u,r2,hu⟩:=f65 (h:=h) (id:=bi) (o:=3) (l:=fs) ⟨c,w.pC,UD⟩ (by rw[<-F0,Ah] at Q8;omega);have w':=w.Ki (u:=u) (l:=FD b.A3);have Km:BN (FD b.A3) u:=⟨_,by rw[T9,F0],hu⟩;refine⟨put h bi 3 u,o,u,t,G,?_,w',Km,Bg⟩;rw[Ab,E5,S3];simp only[AA,↓reduceIte,AK,Bi,k1,k2,k3,k4,k5,k6,k7,k8,k9,ND,Ot,O9,Qf,Rk,Sn,TI,V4,WS,Zs,dJ,AW jP,r2.call];try rfl
 rw[if_neg jP];by_cases tC:q.k=22;·rw[if_pos tC];dsimp only;have ho:=sz.rm.AR;have em:Aw (.By 1) [.str q.name]=some (.sl 1 ([q.name].map CI)):=DE (ws:=[q.name]) rfl (by simp);obtain⟨u,r2,hu⟩:=f66 w.sO (by omega) (CS (ws:=[q.name])) (by simp);have w':=w.Ig hu;refine⟨put h bi 2 u,u,c,t,G,?_,w',hc,Bg⟩;rw[Ab,E5,S3];simp only[AA,↓reduceIte,AK,Bi,k1,k2,k3,k4,k5,k6,k7,k8,k9,ND,Ot,O9,Qf,Rk,Sn,TI,V4,WS,Zs,dJ,jP,AW tC,em,r2.call];try rfl
 rw[if_neg tC];by_cases bo:q.k=23;·rw[if_pos bo];dsimp only;have w':BX (put h bi 8 (I q.a)) bi a o c t G {b with Mr:=q.a}:=w.put rfl rfl w.o w.t;refine⟨put h bi 8 (I q.a),o,c,t,G,?_,w',hc,Bg⟩;rw[Ab,E5,S3];simp only[AA,↓reduceIte,AK,Bi,k1,k2,k3,k4,k5,k6,k7,k8,k9,ND,Ot,O9,Qf,Rk,Sn,TI,V4,WS,Zs,dJ,jP,tC,AW bo,w.st (k:=8) (v:= I q.a) rfl rfl];try rfl
 rw[if_neg bo];by_cases sc:q.k=24;·rw[if_pos sc];dsimp only;obtain⟨r,jO,r1,hr,Du⟩:=TH (q:=q) hv hq.Ay.1 h;rw[KA] at r1;obtain⟨h',G',r2,w',x'⟩:=bb (m:=5000000*j) w ok sz.V0 hr Du hq.Ay hq.name q.a q.A0;have r3:=aHo (b.FE q.name q.Ay q.A0) h';refine⟨h',o,c,t,G',?_,w',by have e:(b.Ee q.name q.Ay q.A0 q.a).A3=b.A3:=(by unfold BS.Ee;split<;>rfl);rw[e];exact hc,x'⟩;rw[Ab,E5,S3];simp only[AA,↓reduceIte,AK,Bi,EC,k1,k2,k3,k4,k5,k6,k7,k8,k9,ND,Ot,O9,Qf,Rk,Sn,TI,V4,WS,Zs,dJ,jP,tC,bo,AW sc,r1.call,r2.call,r3.call];try rfl
 rw[if_neg sc];refine⟨h,o,c,t,G,?_,w,hc,.refl⟩;rw[Ab,E5,S3];simp only[AA,↓reduceIte,AK,Bi,k1,k2,k3,k4,k5,k6,k7,k8,k9,ND,Ot,O9,Qf,Rk,Sn,TI,V4,WS,Zs,dJ,jP,tC,bo,sc];try rfl
end
end Go.Am
end
