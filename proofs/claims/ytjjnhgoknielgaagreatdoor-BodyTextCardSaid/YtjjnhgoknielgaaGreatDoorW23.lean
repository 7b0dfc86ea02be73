/- Lemmas -/
import Derived.Test.YtjjnhgoknielgaaGreatDoorW19
import Derived.Test.YtjjnhgoknielgaaGreatDoorW20
import Derived.Test.YtjjnhgoknielgaaGreatDoorW21
import Derived.Test.YtjjnhgoknielgaaGreatDoorW22
import Derived.Test.YtjjnhgoknielgaaGreatDoorW18
set_option linter.all false
set_option maxRecDepth 100000
section
namespace Go.Am
open Go
abbrev Ď:=List Ab->Option IT
def pW(g:IT):Ď:=λl=>match l with
 |[]=>some (g)
 |_=>none
def Ds(g:Ab->IT):Ď:=λl=>match l with
 |[a0]=>some (g a0)
 |_=>none
def C4(g:Ab->Ab->IT):Ď:=λl=>match l with
 |[a0,a1]=>some (g a0 a1)
 |_=>none
def J7(g:Ab->Ab->Ab->IT):Ď:=λl=>match l with
 |[a0,a1,a2]=>some (g a0 a1 a2)
 |_=>none
def wC(g:Ab->Ab->Ab->Ab->IT):Ď:=λl=>match l with
 |[a0,a1,a2,a3]=>some (g a0 a1 a2 a3)
 |_=>none
def aBB(g:Ab->Ab->Ab->Ab->Ab->IT):Ď:=λl=>match l with
 |[a0,a1,a2,a3,a4]=>some (g a0 a1 a2 a3 a4)
 |_=>none
def Y7(f:Nat)(g:Ď):Prop:=∀l t,g l=some t->t=Cf cx f l
def Vf{f:Nat}{g:IT}(h:Cf cx f []=g):Y7 f (pW g):=by
 intro l t ht;unfold pW at ht;split at ht;.cases ht;exact(h).symm
 .cases ht
def BL{f:Nat}{g:Ab->IT}(h:∀a0,Cf cx f [a0]=g a0):Y7 f (Ds g):=by
 intro l t ht;unfold Ds at ht;split at ht;.cases ht;exact(h _).symm
 .cases ht
def BC{f:Nat}{g:Ab->Ab->IT}(h:∀a0 a1,Cf cx f [a0,a1]=g a0 a1):Y7 f (C4 g):=by
 intro l t ht;unfold C4 at ht;split at ht;.cases ht;exact(h _ _).symm
 .cases ht
def ES{f:Nat}{g:Ab->Ab->Ab->IT}(h:∀a0 a1 a2,Cf cx f [a0,a1,a2]=g a0 a1 a2):Y7 f (J7 g):=by
 intro l t ht;unfold J7 at ht;split at ht;.cases ht;exact(h _ _ _).symm
 .cases ht
def Y8{f:Nat}{g:Ab->Ab->Ab->Ab->IT}(h:∀a0 a1 a2 a3,Cf cx f [a0,a1,a2,a3]=g a0 a1 a2 a3):Y7 f (wC g):=by
 intro l t ht;unfold wC at ht;split at ht;.cases ht;exact(h _ _ _ _).symm
 .cases ht
def ď{f:Nat}{g:Ab->Ab->Ab->Ab->Ab->IT}(h:∀a0 a1 a2 a3 a4,Cf cx f [a0,a1,a2,a3,a4]=g a0 a1 a2 a3 a4):Y7 f (aBB g):=by
 intro l t ht;unfold aBB at ht;split at ht;.cases ht;exact(h _ _ _ _ _).symm
 .cases ht
def aDd:List (Nat×Ď):=[(7,Ds t7),(9,Ds t9),(12,C4 t12),(13,C4 t13),(16,C4 t16),(17,Ds t17),(18,Ds t18),(19,pW t19),(20,C4 t20),(21,Ds t21),(22,C4 t22),(23,Ds t23),(24,C4 t24),(25,C4 t25),(26,Ds t26),(30,pW t30),(31,C4 t31),(32,C4 t32),(33,C4 t33),(34,Ds t34),(35,Ds t35),(38,C4 t38),(39,C4 t39),(40,pW t40),(45,C4 t45),(46,C4 t46),(47,C4 Ŷ),(48,C4 mV),(49,C4 xy),(50,C4 aw),(51,C4 t51),(52,C4 t52),(53,C4 t53),(61,Ds t61),(62,J7 t62),(63,J7 t63),(64,C4 t64),(65,aBB t65),(66,wC t66),(67,Ds t67),(68,C4 t68),(69,C4 t69),(70,C4 t70),(71,Ds t71),(72,C4 t72),(73,C4 t73),(74,J7 t74),(75,C4 t75),(76,Ds t76),(77,Ds t77),(78,Ds t78),(79,Ds t79),(80,J7 t80),(81,Ds t81),(82,Ds t82),(83,pW t83),(84,Ds t84),(85,pW t85),(86,C4 t86),(87,C4 t87),(88,Ds t88),(89,C4 t89),(90,Ds t90),(91,Ds t91),(92,Ds t92),(101,Ds aA8),(102,Ds aE8),(103,C4 aA9),(104,C4 aE9),(105,J7 aFa),(106,wC tn),(107,C4 aFb),(108,J7 aBa),(110,C4 aBb),(111,C4 aFc),(113,C4 aFd),(114,C4 aFe),(115,C4 aFf),(116,C4 aBc),(117,J7 aFg),(118,C4 aFh),(119,J7 aFi),(120,J7 aFj),(121,Ds aFk),(122,Ds aFl),(123,J7 aFm),(124,C4 aFn),(125,Ds aFo),(126,C4 aFp),(127,C4 t127),(128,J7 aFq),(129,Ds aFr),(130,Ds aFs),(131,Ds aFt),(132,Ds ć),(133,Ds aFu),(134,Ds aFv),(135,Ds aFw),(136,Ds aX),(137,Ds aFx),(138,Ds wA),(139,Ds tq),(140,Ds tr),(141,Ds aFy),(142,Ds aBd),(143,Ds wB),(144,Ds Ĉ),(145,Ds tw),(146,Ds t146),(147,Ds aBe),(148,Ds t148),(149,Ds aBf),(150,Ds pT),(151,C4 aFz),(152,Ds ĉ),(153,Ds aFA),(154,Ds aBg),(155,Ds aBh),(156,Ds aFB),(157,C4 aBi),(158,Ds aBj),(159,Ds aBk),(160,Ds pU),(161,Ds tz),(162,Ds aFC),(163,C4 aFD),(164,C4 t164),(165,C4 aFE),(166,C4 aBl),(167,C4 aFF),(168,J7 aFG),(169,Ds aFH),(170,C4 aFI),(171,C4 aFJ),(172,Ds aFK),(173,J7 aFL),(178,Ds aBm),(179,C4 Ċ),(180,Ds aFM),(181,Ds aFN),(182,C4 aFO),(183,C4 aFP),(185,J7 aFQ),(188,Ds aFR),(189,C4 aFS),(190,C4 aFT),(191,Ds aFU),(192,wC aBn),(193,wC aBo),(194,C4 aBp),(195,C4 aFV),(196,C4 aFW),(197,Ds aFX),(198,Ds aFY),(199,J7 aFZ),(200,C4 aF0),(201,C4 aF1),(202,Ds aBq),(203,Ds aF2),(204,C4 aF3),(205,Ds aF4),(206,C4 aF5),(207,J7 aF6),(208,C4 aF7),(209,J7 aBr),(210,Ds aF8),(211,C4 aF9),(212,C4 aGa),(213,C4 aBs),(214,C4 aGb),(215,C4 aGc),(216,C4 pV),(217,J7 aGd),(218,J7 aGe),(219,C4 aGf),(220,Ds aGg),(221,C4 aGh),(222,C4 aGi),(223,pW aGj),(224,C4 aGk),(232,C4 aGl),(233,J7 aBt),(234,C4 aBu),(235,C4 aGm),(238,Ds aGn),(239,C4 aGo),(240,Ds aGp),(241,C4 aGq),(242,Ds aGr),(243,aBB aBv),(244,C4 aBw),(245,J7 aGs),(246,C4 aGt),(247,C4 aBx),(248,C4 aGu),(249,J7 aGv),(250,C4 aGw),(251,J7 aGx),(252,C4 aGy),(253,wC aGz),(254,J7 aGA),(255,J7 aGB),(256,J7 aGC),(257,C4 aGD),(258,C4 aGE),(271,C4 aJ6),(273,Ds aGF),(274,C4 aGG),(275,Ds aGH),(276,Ds aGI),(277,Ds aGJ),(278,C4 ċ),(279,C4 Č),(280,Ds aGK),(281,C4 aGL),(282,Ds aGM),(283,J7 aGN),(284,J7 aBz),(285,J7 aBA),(286,Ds č),(287,J7 aGO),(297,C4 aGP),(298,C4 aGQ),(299,C4 aGR),(300,C4 aGS),(301,Ds aGT),(302,Ds aGU),(303,Ds aGV),(304,C4 aGW),(316,C4 aGX),(100035,Ds Xh),(100091,Ds jZ),(200078,Ds Xi)]
def Đ:List (Nat×Ď)->Prop
 |[]=>True
 |(f,g)::l=>Y7 f g/\Đ l
def đ:Đ aDd:=
 ⟨BL aDa,BL aDb,BC vQ,BC vR,BC aE3,BL aE4,BL aE5,Vf ä,BC å,BL æ,BC ç,BL vS,BC vT,BC è,BL é,Vf ê,BC ë,BC vU,BC iQ,BL ì,BL vV,BC vW,BC í,Vf î,BC SO,BC Q1,BC PQ,BC Jn,BC Nr,BC LI,BC LJ,BC Ve,BC Kq,BL ï,ES vX,ES ð,BC vY,ď ñ,Y8 Q2,BL ò,BC ó,BC ô,BC õ,BL ö,BC Y5,BC ø,ES ù,BC ú,BL iR,BL û,BL vZ,BL iS,ES ü,BL iT,BL ý,Vf þ,BL ÿ,Vf Ā,BC ā,BC Ă,BL ă,BC Ą,BL ą,BL v8,BL Ć,BL iU,BL ax,BC iV,BC ay,ES az,Y8 T3,BC a_,ES iW,BC iX,BC ba,BC bb,BC bc,BC bd,BC iY,ES be,BC bg,ES bj,ES bk,BL bl,BL bm,ES bn,BC bp,BL bq,BC br,BC iZ,ES bu,BL bw,BL bx,BL bz,BL Xa,BL b_,BL cj,BL cp,BL MX,BL cq,BL RK,BL T4,BL T5,BL cr,BL jA,BL RL,BL Xb,BL T6,BL jB,BL jC,BL jD,BL jE,BL PR,BC cu,BL Xc,BL cw,BL jF,BL jG,BL cy,BC jH,BL jI,BL jJ,BL PS,BL T7,BL cz,BC c_,BC da,BC db,BC jK,BC de,ES df,BL dg,BC dh,BC di,BL dj,ES dk,BL jL,BC Xd,BL dm,BL dr,BC du,BC dv,ES dw,BL dx,BC dy,BC dz,BL d_,Y8 jM,Y8 jN,BC jO,BC ee,BC ej,BL ew,BL ey,ES ez,BC e_,BC fc,BL jP,BL fg,BC fh,BL fj,BC fk,ES fq,BC fw,ES jQ,BL fx,BC fy,BC f_,BC jR,BC gd,BC gj,BC PT,ES gl,ES gm,BC gp,BL gq,BC gu,BC gw,Vf gx,BC gy,BC g_,ES jS,BC jT,BC h_,BL ic,BC ij,BL ir,BC iu,BL iv,ď jU,BC jV,ES iw,BC ix,BC jW,BC iy,ES iz,BC i_,ES ja,BC jb,Y8 jc,ES jd,ES je,ES jf,BC jg,BC jh,BC aBy,BL ji,BC jj,BL jk,BL jl,BL jm,BC Xe,BC Xf,BL jn,BC jo,BL jq,ES jr,ES jX,ES jY,BL Xg,ES js,BC jt,BC ju,BC jv,BC jw,BL jx,BL jy,BL jz,BC j_,BC kb,BL SP,BL Y6,BL SQ,trivial⟩
def aBC(f:Nat):List (Nat×Ď)->List Ab->Option IT
 |[],_=>none
 |(k,g)::l,args=>if Nat.beq k f then g args else aBC f l args
def ke{f:Nat}{args:List Ab}{t:IT}:∀{l:List (Nat×Ď)},Đ l->aBC f l args=some t->t=Cf cx f args
 |[],_,h=>by cases h
 |(k,g)::l,ha,h=>by
  simp only[aBC] at h;split at h;.rename_i hk;have hk:k=f:=Od hk;subst hk;exact ha.1 _ _ h
  .exact ke ha.2 h
noncomputable def tab(f:FuncId)(args:List Ab):IT:=match aBC f aDd args with
 |some t=>t
 |none=>Cf cx f args
def SR:tab=Cf cx:=by
 funext f args;unfold tab;split;.rename_i t h;exact ke đ h
 .rfl
def Y9:Option KE->Bool
 |some (.ret,[.bool true],_)=>true
 |_=>false
def aY{r:Option KE}(h:Y9 r=true):∃h',r=some (.ret,[.bool true],h'):=by
 unfold Y9 at h;split at h;.exact⟨_,rfl⟩
 .cases h
end Go.Am
end
section
namespace Go.Am
open Go
section
def aOR(s:Ah):NL cx 220 [.str s] (.bool (decide (s∈Fu))):=by rw[RU,gq];rw[show aGg (.str s)=sw s (.ret .ret [tt]) (.ret .ret [ff]) Fu from rfl,Í];exact⟨λh=>by simp[h],λh=>by simp[h]⟩
section
variable{Q:Lt}{h:Ai}{k:Ab->IT}{s:Ah}
@[simp] theorem Ē:W cx (.Bz 220 [.str s] k) Q h↔W cx (k (.bool (decide (s∈Fu)))) Q h:=(aOR s).Bz rfl rfl
end
def aOS(s:Ah):NL cx 198 [.str s] (.bool (decide (s∈RC\/s∈Fu))):=by rw[RU,ey];rw[show aFY (.str s)=sw s (.ret .ret [tt]) (.Bz 220 [.str s] λv=> .ret .ret [v]) RC from rfl,Í];exact⟨λh=>by simp[h],λh=>by simp[h]⟩
def aOT(n:Int)(s:Ah):NL cx 222 [I n,.str s] (.bool (decide (n=3/\s∈PE))):=by
 rw[RU,gw,aGi];by_cases h:n=3;.simp[h,PE];by_cases h1:s=[109,105]<;>by_cases h2:s=[109,110]<;>by_cases h3:s=[109,111]<;>by_cases a:s=[109,115]<;>simp[h1,h2,h3,a]
 .simp[h]
section
variable{Q:Lt}{h:Ai}{k:Ab->IT}{s:Ah}{n:Int}
@[simp] theorem ē:W cx (.Bz 198 [.str s] k) Q h↔W cx (k (.bool (decide (s∈RC\/s∈Fu)))) Q h:=(aOS s).Bz rfl rfl
@[simp] theorem aJ7:W cx (.Bz 222 [I n,.str s] k) Q h↔W cx (k (.bool (decide (n=3/\s∈PE)))) Q h:=(aOT n s).Bz rfl rfl
end
def aBD(n:Int)(s:Ah):NL cx 167 [I n,.str s] (.bool (D5 n s)):=by
 rw[RU,de];rw[show aFF (I n) (.str s)= .op (.int .eql) [I n,I 3] λv=> .A0 v (.op (.str .eql) [.str s,S aX5] λv=> .A0 v (.ret .ret [tt]) (.Bz 222 [I n,.str s] λv=> .ret .ret [v]))
  (.op (.int .eql) [I n,I 2] λv=> .A0 v (sw s (.ret .ret [tt]) (.op (.str .eql) [.str s,S aX7] λv=> .ret .ret [v]) [aZy,aYt])
  (.op (.int .eql) [I n,I 1] λv=> .A0 v (sw s (.ret .ret [tt]) (.ret .ret [ff]) TN) (.ret .ret [ff]))) from rfl]
 by_cases h3:n=3;.by_cases h:s=aX5<;>simp[h3,D5,h]
 .by_cases h2:n=2;.by_cases ha:s=aZy<;>by_cases hb:s=aYt<;>simp[h2,Í,D5,dM,ha,hb]
  .by_cases h1:n=1;.by_cases h:s∈TN<;>simp[h1,Í,D5,h]
   .simp[h3,h2,h1,D5]
section
variable{Q:Lt}{h:Ai}{k:Ab->IT}{s:Ah}{n:Int}
@[simp] theorem Za:W cx (.Bz 167 [I n,.str s] k) Q h↔W cx (k (.bool (D5 n s))) Q h:=(aBD n s).Bz rfl rfl
end
end
section
end
section
section
variable{Q:Lt}{h:Ai}{k:Ab->IT}{s:Ah}
end
section
variable{Q:Lt}{h:Ai}{k:Ab->IT}{s:Ah}{n:Int}
end
end
section
def aOU(a b:Int)(h:Ai):CD cx 179 [.int .i32 a,.int .i32 b] h (.func (.func 233) [] [.Cd [.int .i32 a],.Cd [.int .i32 b]]) h:=by rw[Ag,Xd,Ċ];simp only[Cy]
def aOV(c a b:Int)(h:Ai):CD cx 233 [.int .i32 c,.Cd [.int .i32 a],.Cd [.int .i32 b]] h (.bool (decide (a<=c/\c<=b))) h:=by rw[Ag,jS,aBt];simp only[Cy];refine⟨λh=>by simp[h],λh=>by simp[h]⟩
def aOW(c:Int):NL cx 238 [.int .i32 c] (.bool (decide (65<=c/\c<=90))):=by rw[RU,ic,aGn];simp only[Cy,Nat.reduceLeDiff,↓reduceIte,(aOU _ _ _).Af,CR,(aOV _ _ _ _).Af]
def aGY(s:Ah)(hs:s.length<=AY):NL cx 188 [.str s] (.str (Fk s)):=by
 have mP:s.length<=140737488355328:=hs;rw[RU,dx,aFR];have j:JD [] (.str s)=some ([.cells ((Ik s 0).map Qc)],.Du 0 0 s.length 1):=by simp only[JD,hs,BN];rfl
 have i:AE (.len false) [.Du 0 0 s.length 1]=some (I (s.length:Int)):=rfl;simp only[Cy,j,i];refine Cv (λn:Nat=>[I (n:Int)]) (λn h=>n<=s.length/\h=[.cells ((Ik s n).map Qc)]) (λn=>s.length-n) 0 rfl ⟨Bn _,rfl⟩ ?_;rintro n h ⟨hn,rfl⟩;rcases Bm n s.length with hlt|JA
 .have i1:(n:Int)<(s.length:Int):=by omega
  have g:AE (.Hj 1) [.Du 0 0 s.length 1,I (n:Int)]=some (Pt 0 n):=by simp[AE,elemOf,M7,hlt]
  have f:Bp [.cells ((Ik s n).map Qc)] none (Pt 0 n)=some (.int .u8 (s[n].toNat:Int)):=uW (by rw[Dt,YM hlt];rfl);have e:IntKind.i32.wrap (s[n].toNat:Int)=(s[n].toNat:Int):=Ë (by have:=s[n].toNat_lt;omega);simp only[Cy,i1,AN,AO,AK,g,f,Rz,e,(aOW _).Bz rfl rfl,DB (Ac:n<9223372036854775807)];refine⟨λhe=>?_,λhe=>?_⟩
  .have a:65<=s[n].toNat/\s[n].toNat<=90:=by omega
   have d:Dd [.cells ((Ik s n).map Qc)] 1 (Pt 0 n) (.int .u8 ((s[n].toNat:Int)-65+97))=some [.cells (((Ik s n).map Qc).set n (.int .u8 ((s[n].toNat:Int)-65+97)))]:=pC (by rw[Aw,YL];exact hlt) rfl;simp only[Cy,uS,uR,wrap_u8 (Ac:0<=((s[n].toNat:Int)-65)/\((s[n].toNat:Int)-65)<=255),wrap_u8 (Ac:0<=((s[n].toNat:Int)-65+97)/\((s[n].toNat:Int)-65+97)<=255),d];refine By.next (n+1) rfl ⟨hlt,?_⟩ Ac;rw[TQ hlt,JW];have c:Qc (Kz s[n])= .int .u8 ((s[n].toNat:Int)-65+97):=by unfold Qc;rw[iB a];congr 1;omega
   rw[c]
  .have zq:¬(65<=s[n].toNat/\s[n].toNat<=90):=by omega
   refine By.next (n+1) rfl ⟨hlt,?_⟩ Ac;rw[TQ hlt,TP zq,TR (YM hlt)]
 .have i1:¬(n:Int)<(s.length:Int):=by omega
  have en:n=s.length:=Ac;subst en;have b:L6 [.cells ((Ik s s.length).map Qc)] (.Du 0 0 s.length 1)=some ([.Ef],.sl 1 (CN (Fk s))):=by
   have hl:(Fk s).length=s.length:=by simp[Fk]
   rw[pB];simp only[L6,Jy];rw[Ae (by simp[hl])];rw[QS (Fk s) s.length 0 Ac];simp
  simp only[Cy,i1,AP,AO,AK,b,Bx.XD (s:=Fk s) .mk]
end
section
def T8(l:Ah)(ws:List Ah):Prop:=Ev cx 240 [.str l] [] λr _=>r= .sl 1 (ws.map Cw)
def Sj{l:Ah}{ws:List Ah}(n:Nat)(hr:(IT.run tab n (tab 240 [.str l]) []).map (λx=>(x.1,x.2.1))=some (.ret,[.sl 1 (ws.map Cw)])):T8 l ws:=by obtain⟨⟨x,vs,h⟩,a,b⟩:=aIa.1 hr;cases b;rw[SR] at a;exact⟨n,_,_,_,a,rfl,_,rfl,rfl⟩
def f236{l:Ah}{ws:List Ah}(hf:T8 l ws)(hw:∀w∈ws,w.length<=AY)(hn:ws.length<9223372036854775807)(name:Ah):NL cx 274 [.str name,.str l] (.str (Eb name ws)):=by
 rw[RU,jj,aGG];refine yu (hf.mono λr h1 e=>?_);subst e;have sG:Bx 1 (ws.map Cw) (.sl 1 (ws.map Cw)):= .mk;simp only[Cy,sG.len];refine Cv (λn:Nat=>[.str [],I (n:Int)]) (λn _=>n<=ws.length/\Eb name ws=Eb name (ws.drop n)) (λn=>ws.length-n) 0 rfl ⟨Bn _,rfl⟩ ?_;rintro n h ⟨a,ha⟩;rcases Bm n ws.length with hlt|JA
 .have i1:(n:Int)<((ws.map Cw).length:Int):=EE;have t_:n<(ws.map Cw).length:=by simpa using hlt
  have b:(ws.map Cw)[n]=[.str ws[n]]:=by simp[Cw]
  rw[AA hlt,Eb] at ha;simp only[Cy,i1,AN,AO,AK,sG.Hj t_,b,(aGY ws[n] (hw _ (AG hlt))).Bz rfl rfl,DB (Ac:n<9223372036854775807)];refine⟨λhe=>?_,λhe=>?_⟩;.rw[ha,Ae he]
  .rw[Aa he] at ha;exact By.next (n+1) rfl ⟨hlt,ha⟩ Ac
 .have i1:¬(n:Int)<((ws.map Cw).length:Int):=EE;rw[AX JA,Eb] at ha;simp only[Cy,i1,AP,AO,AK,ha]
def WB:T8 UW OR:=Sj 5000 AT
def WC:T8 UX OS:=Sj 5000 AT
def aOX(s:Ah):NL cx 242 [.str s] (.str (Eb s OR)):=by rw[RU,iv,show aGr (.str s)= .Bz 274 [.str s,.str UW] λv=> .ret .ret [v] from rfl];rw[(f236 (l:=UW) WB Ed Ed s).Bz rfl rfl];simp only[Cy]
def aJ8(s:Ah):NL cx 273 [.str s] (.str (Eb s OS)):=by rw[RU,ji,show aGF (.str s)= .Bz 274 [.str s,.str UX] λv=> .ret .ret [v] from rfl];rw[(f236 (l:=UX) WC Ed Ed s).Bz rfl rfl];simp only[Cy]
end
section
def f187{v:Ab}{l:List Bj}(hv:BF l v)(hn:l.length<9223372036854775807)(h:Ai){f:FuncId}{p:Bj->Bool}(hp:∀a∈l,CD cx f [.agg a.row] h (.bool (p a)) h)(hf:f<=99999):
  CD cx 279 [v,.func (.func f) [] []] h (I (Ct p 0 l)) h:=by
 rw[Ag,Xf,Č];have hlen:(l.map Bj.row).length=l.length:=Aw ..;simp only[Cy,Bx.len hv];refine Cv (λn:Nat=>[I 0,I (n:Int)]) (λn h1=>n<=l.length/\Ct p 0 l=Ct p n (l.drop n)/\h1=h) (λn=>l.length-n) 0 rfl ⟨Bn _,rfl,rfl⟩ ?_;rintro n h1 ⟨b,ha,rfl⟩;rcases Bm n l.length with hlt|JA
 .have i1:(n:Int)<((l.map Bj.row).length:Int):=by rw[hlen];omega
  have d:(l.map Bj.row)[n]'(by rw[hlen];exact hlt)=Bj.row l[n]:=AB;have c:FN (Bj.row l[n]) 0 (some 3)=some (.agg (Bj.row l[n])):=by simp[Bj.row]
  rw[AA hlt,Ct] at ha;simp only[Cy,↓reduceIte,CR,hf,A8,i1,AN,AO,AK,Bx.Hj hv (show n<(l.map Bj.row).length by rw[hlen];exact hlt),d,c,(hp _ (AG hlt)).Af];rw[DE];refine⟨λhe=>?_,λhe=>?_⟩;.rw[ha,Ae he]
  .rw[Aa (by simp[he])] at ha;simp only[Cy,DB (Ac:n<9223372036854775807)];exact By.next (n+1) rfl ⟨hlt,ha,rfl⟩ Ac
 .have i1:¬(n:Int)<((l.map Bj.row).length:Int):=by rw[hlen];omega
  rw[AX JA,Ct] at ha;simp only[Cy,↓reduceIte,CR,hf,i1,AP,AO,AK,ha]
def aOY(a:Bj)(h:Ai):CD cx 280 [.agg a.row] h (.bool (zV a)) h:=by rw[Ag,jn,aGK,Bj.row];simp only[Cy,zV];refine⟨λh=>by simp[h],λh=>by simp[h]⟩
def Ĕ(a b:Ah)(ha:a.length<=AY)(hb:b.length<=AY):NL cx 113 [.str a,.str b] (.bool (decide (Fk a=Fk b))):=by rw[RU,bb,aFd];simp only[Cy,(aGY a ha).Bz rfl rfl,(aGY b hb).Bz rfl rfl]
def f96{v:Ab}{l:List Bj}(hv:BF l v)(hl:∀a∈l,a.value.length<=AY)(hn:l.length<9223372036854775807)(n:Int)(s:Ah)(h:Ai):CD cx 245 [I n,.str s,v] h (.bool (RD n s l)) h:=by
 rw[Ag,iw,aGs];simp only[Cy,Za,(f187 hv hn h (λa _=>aOY a h) Az).Af,RD];refine⟨λh2=>by simp[h2],λh2=>⟨λh3=>by simp[h2,h3],λh3=>⟨λf=>by simp[h2,h3,f],λf=>?_⟩⟩⟩;rw[Aa h2,Aa h3,Aa f];rcases Hp (p:=zV) (l:=l) (k:=0) with⟨d,c⟩|⟨k,a,d,c,g⟩
 .rw[d,c];simp
 .rw[d,g,BG];obtain⟨hk,e⟩:=Aj.1 c;have b:k<(l.map Bj.row).length:=by simpa using hk
  have m:(l.map Bj.row)[k]=Bj.row a:=by simp[e]
  have i1:(0:Int)<=(k:Int):=Ac;have RT:a.value.length<=AY:=hl a (e▸AG hk);have j:Fk zW=zW:=QU Ed;have i:Fk iC=iC:=QU Ed;simp only[Cy,i1,AN,AO,AK,Bx.Hj hv b,m,Bj.row,(Ĕ a.value zW RT Az).Bz rfl rfl,(Ĕ a.value iC RT Az).Bz rfl rfl,j,i];refine⟨λh=>by simp[h],λh=>by simp[h]⟩
end
section
section
variable{U:Type}{f:U->List Ab}{l l2:List U}{v v2:Ab}{z b:Nat}{k k2:IntKind}
end
section
variable{h:Ai}{p:Ab}{l:List Item}
def Vg(hs:r_ h p l):CD cx 121 [p] h (I (l.length:Int)) h:=by
 rw[Ag,bl,aFk];rcases hs with⟨rfl,rfl⟩|⟨id,o,v,rfl,hc,hv⟩
 .simp
 .simp only[Cy,IG,hc.load,BB,hv.GN]
def WD(hs:r_ h p l)(i:Int):CD cx 163 [p,I i] h (.agg (El l i).row) h:=by
 rw[Ag,c_,aFD];simp only[Cy,↓reduceIte,Cl,(Vg hs).Af];refine⟨λhi=>by rw[YN (.inl hi)];simp[Item.row,Item.zero],λhi=>⟨λhl=>by rw[YN (.inr hl)];simp[Item.row,Item.zero],λhl=>?_⟩⟩;rcases hs with⟨rfl,rfl⟩|⟨id,o,v,rfl,hc,hv⟩
 .simp at hl;omega
 .obtain⟨n,rfl⟩:=MQ (Ac:0<=i);have hn:n<l.length:=Ac;simp only[Cy,Nat.reduceLeDiff,↓reduceIte,Ly,hc.load,BB,hv.DN hn,IK hn]
def f39(hs:r_ h p l)(hn:l.length<=1000000000):CD cx 122 [p] h (.agg (DP l).row) h:=by rw[Ag,bm,aFl];simp only[Cy,Ly,(Vg hs).Af,Ek (Ac: -9223372036854775808<=(l.length:Int)-1) (Ac:(l.length:Int)-1<9223372036854775808),(WD hs _).Af,DP]
def WE(F:Ab)(h:Ai)(q:Item->Bool):Prop:=∃f caps,F= .func (.func f) [] caps/\f<=99999/\∀a:Item,CD cx f (.agg a.row::caps) h (.bool (q a)) h
def WE.EJ{F:Ab}{q:Item->Bool}(hF:WE F h q)(a:Item){k:Ab->IT}{Q:Lt}:W cx (.EJ F [.agg a.row] k) Q h↔W cx (k (.bool (q a))) Q h:=by obtain⟨f,caps,rfl,hf,hr⟩:=hF;rw[N2];simp only[CR,hf,↓reduceIte,Bq,BD,Nk,(hr a).Af]
def aGZ(hs:r_ h p l)(hn:l.length<=1000000000){F:Ab}{q:Item->Bool}(hF:WE F h q):CD cx 195 [p,F] h (I (AD q l)) h:=by
 obtain⟨f,caps,rfl,hf,hr⟩:=hF;rw[Ag,ee,aFV];simp only[Cy,(Vg hs).Af,Ek (Ac: -9223372036854775808<=(l.length:Int)-1) (Ac:(l.length:Int)-1<9223372036854775808)];refine Cv (λn:Nat=>[I 0,I ((n:Int)-1)]) (λn h1=>n<=l.length/\AD q l=AD q (l.take n)/\h1=h) (λn=>n) l.length rfl ⟨Ad _,by rw[Bl],rfl⟩ ?_;rintro n h1 ⟨a,ha,rfl⟩;cases n with
 |zero=>have i1:¬(0:Int)<=((0:Nat):Int)-1:=Ac;rw[ha];simp only[Cy,↓reduceIte,CR,hf,i1,AP,AO,AK,Md]
 |succ n=>
  have i1:(0:Int)<=((n+1:Nat):Int)-1:=Ac;have c:((n+1:Nat):Int)-1=(n:Int):=Ac;rcases hs with⟨rfl,rfl⟩|⟨id,o,v,rfl,hc,hv⟩
  .simp at a
  .rw[PG Ac] at ha;simp only[Cy,Nat.reduceLeDiff,↓reduceIte,CR,Ly,hf,c,(Ac:(0:Int)<=(n:Int)),AN,AO,AK,hc.load,BB,hv.DN (Ac:n<l.length),(hr l[n]).Af,Ek (Ac: -9223372036854775808<=(n:Int)-1) (Ac:(n:Int)-1<9223372036854775808)];rw[DE];refine⟨λhe=>?_,λhe=>?_⟩;.rw[ha,Ae he]
   .rw[Aa (by simp[he])] at ha;exact By.next n rfl ⟨Ac,ha,rfl⟩ Ac
def aOZ{v:Ab}{ws:List Ah}(hv:IP ws v)(hn:ws.length<=1000000000)(s:Ah)(h:Ai):CD cx 239 [v,.str s] h (I (Ct (λw=>decide (s=w)) 0 ws)) h:=by
 rw[Ag,ij,aGo];have hv:Bx 1 (ws.map Cw) v:=hv;simp only[Cy,hv.GN];refine Cv (λn:Nat=>[I 0,I (n:Int)]) (λn h1=>n<=ws.length/\Ct (λw=>decide (s=w)) 0 ws=Ct (λw=>decide (s=w)) n (ws.drop n)/\h1=h) (λn=>ws.length-n) 0 rfl ⟨Bn _,rfl,rfl⟩ ?_;rintro n h1 ⟨a,ha,rfl⟩;rcases Bm n ws.length with hlt|JA
 .have i1:(n:Int)<(ws.length:Int):=by omega
  rw[AA hlt,Ct] at ha;simp only[Cy,i1,AN,AO,AK,hv.DN hlt,Cw,DB (Ac:n<9223372036854775807)];refine⟨λhe=>?_,λhe=>?_⟩;.rw[ha,Ae (by simpa using he)]
  .rw[Aa (by simpa using he)] at ha;exact By.next (n+1) rfl ⟨hlt,ha,rfl⟩ Ac
 .have i1:¬(n:Int)<(ws.length:Int):=by omega
  rw[AX JA,Ct] at ha;simp only[Cy,i1,AP,AO,AK,ha]
def aBE{v:Ab}{ws:List Ah}(hv:IP ws v)(hn:ws.length<=1000000000)(s:Ah)(h:Ai):CD cx 190 [v,.str s] h (.bool (decide (s∈ws))) h:=by rw[Ag,dz,aFT];simp only[Cy,(aOZ hv hn s h).Af,aAT]
def pX{v:Ab}{ws:List Ah}(hv:IP ws v)(hn:ws.length<=1000000000)(a:Item)(h:Ai):CD cx 171 [.agg a.row,v] h (.bool (AH ws a)) h:=by rw[Ag,di,aFJ];simp only[Cy,Ly,(aBE hv hn _ h).Af,AH];refine⟨λh1=>by simp[h1],λh1=>by simp[h1]⟩
def aO0(a:Item)(h:Ai):CD cx 302 [.agg a.row] h (.bool (AH TO a)) h:=by rw[Ag,jy,aGU];simp only[Cy,Ly,uX,(pX (ws:=TO) Dl Az a h).Af]
def f290(a:Item)(h:Ai):CD cx 303 [.agg a.row] h (.bool (!AH QR a)) h:=by rw[Ag,jz,aGV];simp only[Cy,Ly,pE,(pX (ws:=QR) Dl Az a h).Af]
def f291(n:Int)(i:n≠4)(g:n≠5)(a:Item)(h:Ai):CD cx 304 [.agg a.row,.Cd [I n]] h (.bool (Im n a)) h:=by have b1:=pX (ws:=PF) Dl Az a h;have b2:=pX (ws:=iA) Dl Az a h;have b3:=pX (ws:=[aXQ]) Dl Az a h;rw[Ag,j_,aGW];simp only[Cy,Ly,Za,uY,sd,sg,b1.Af,b2.Af,b3.Af,Im,i,g];refine⟨λh1=>by simp[h1],λh1=>⟨λh2=>by simp[h2],λh2=>?_⟩⟩;rw[DE];simp only[h1,h2,or_self,DK];refine⟨λh3=>by simp[h3],λh3=>⟨λd=>?_,λd=>⟨λc=>by simp[h3,c],λc=>by simp[h3,d,c]⟩⟩⟩;rw[DE];exact⟨λc=>by simp[h3,d,c],λc=>⟨λe=>Ac,λe=>by simp[h3,c,e]⟩⟩
def f264(n:Int)(h:Ai):∃F,CD cx 286 [I n] h F h/\WE F h (Im n)/\F.cells=[F]:=by
 by_cases d:n=4
 .refine⟨.func (.func 302) [] [],?_,⟨_,_,rfl,Az,λa=>?_⟩,rfl⟩;.rw[Ag,Xg,č];simp only[Cy,d,AN,AO,AK]
  .have:=aO0 a h;simpa[Im,d] using this
 .by_cases c:n=5
  .refine⟨.func (.func 303) [] [],?_,⟨_,_,rfl,Az,λa=>?_⟩,rfl⟩;.rw[Ag,Xg,č];simp only[Cy,c,AN,AO,AK];simp
   .have:=f290 a h;simpa[Im,c] using this
  .refine⟨.func (.func 304) [] [.Cd [I n]],?_,⟨_,_,rfl,Az,λa=>f291 n d c a h⟩,rfl⟩;rw[Ag,Xg,č];simp only[Cy,d,c,AP,AO,AK]
def aO1{g d:Ab}{q e:Item->Bool}(h1:WE g h q)(h2:WE d h e)(a:Item):CD cx 287 [.agg a.row,.Cd [g],.Cd [d]] h (.bool (q a||e a)) h:=by have m:=λk Q=>h1.EJ a (k:=k) (Q:=Q);have j:=λk Q=>h2.EJ a (k:=k) (Q:=Q);rw[Ag,js,aGO];obtain⟨f,caps,rfl,hf,i⟩:=h1;obtain⟨f',c,rfl,J_,r2⟩:=h2;simp only[Cy,↓reduceIte,CR,Ly,hf,J_,(i a).Af,(r2 a).Af];rw[DE];exact⟨λh=>by simp[h],λh=>by simp[h]⟩
def aJ9(hs:r_ h p l)(hn:l.length<=1000000000)(n:Int){F:Ab}{q:Item->Bool}(hF:WE F h q):CD cx 256 [p,I n,F] h (.bool (IC q (Im n) l.reverse)) h:=by
 obtain⟨G,g,aKa,Kv⟩:=f264 n h;have c:F.cells=[F]:=by obtain⟨f,caps,rfl,hf,_⟩:=hF;rfl
 have d:=hF;have hfit:WE (.func (.func 287) [] [.Cd [F],.Cd [G]]) h (λa=>q a||Im n a):=⟨287,_,rfl,Az,λa=>aO1 hF aKa a⟩;rw[Ag,jf,aGC];simp only[Cy,↓reduceIte,CR,c,g.Af,Kv,(aGZ hs hn hfit).Af];rw[<-uZ l true];rcases BZ (q:=λa=>q a||Im n a) (l:=l) with⟨h1,h2⟩|⟨k,hk,h1,h2,h3⟩
 .simp[h1]
 .have e:(0:Int)<=(k:Int)/\(k:Int).toNat<l.length:=⟨Ac,by simpa using hk⟩;simp only[h1];rw[rZ e];rcases hs with⟨rfl,rfl⟩|⟨id,o,v,rfl,hc,hv⟩
  .simp at hk
  .obtain⟨f,caps,rfl,hf,hr⟩:=d;simp only[Cy,Nat.reduceLeDiff,↓reduceIte,Ly,hf,e.1,AN,AO,AK,hc.load,BB,hv.DN hk,(hr l[k]).Af,BH]
def f225{v:Ab}{ws:List Ah}(hv:IP ws v)(hn:ws.length<=1000000000)(a:Item)(h:Ai):CD cx 257 [.agg a.row,.Cd [v]] h (.bool (AH ws a)) h:=by have b:=pX hv hn a h;rw[Ag,jg,aGD];simp only[Cy,Ly,b.Af]
def aKb(hs:r_ h p l)(hn:l.length<=1000000000)(n:Int){v:Ab}{ws:List Ah}(hv:IP ws v)(hw:ws.length<=1000000000):CD cx 217 [p,I n,v] h (.bool (IC (AH ws) (Im n) l.reverse)) h:=by have hfit:WE (.func (.func 257) [] [.Cd [v]]) h (AH ws):=⟨257,_,rfl,Az,λa=>f225 hv hw a h⟩;rw[Ag,gl,aGd];simp only[Cy,hv.cells,(aJ9 hs hn n hfit).Af]
def aO2(node:Int)(a:Item)(h:Ai):CD cx 258 [.agg a.row,.Cd [I node]] h (.bool (Bt node a)) h:=by rw[Ag,jh,aGE,Item.row];simp only[Cy,Ly,Bt]
def aKc(hs:r_ h p l)(hn:l.length<=1000000000)(n node:Int):CD cx 218 [p,I n,I node] h (.bool (IC (Bt node) (Im n) l.reverse)) h:=by have hfit:WE (.func (.func 258) [] [.Cd [I node]]) h (Bt node):=⟨258,_,rfl,Az,λa=>aO2 node a h⟩;rw[Ag,gm,aGe];simp only[Cy,(aJ9 hs hn n hfit).Af]
def aO3(node:Int)(a:Item)(h:Ai):CD cx 214 [.agg a.row,.Cd [I node]] h (.bool (Bt node a)) h:=by rw[Ag,gd,aGb,Item.row];simp only[Cy,Ly,Bt]
def aZ(hs:r_ h p l)(hn:l.length<=1000000000)(node:Int):CD cx 151 [p,I node] h (I (AD (Bt node) l)) h:=by have hfit:WE (.func (.func 214) [] [.Cd [I node]]) h (Bt node):=⟨214,_,rfl,Az,λa=>aO3 node a h⟩;rw[Ag,cu,aFz];simp only[Cy,(aGZ hs hn hfit).Af]
def aO4(s:Ah)(a:Item)(h:Ai):CD cx 196 [.agg a.row,.Cd [.str s]] h (.bool (AH [s] a)) h:=by have b:=pX (ws:=[s]) Dl (AB:[s].length<=1000000000) a h;rw[Ag,ej,aFW];simp only[Cy,Ly,Fp (ws:=[s]) (args:=[.str s]) rfl AB,b.Af]
def aBF(hs:r_ h p l)(hn:l.length<=1000000000)(s:Ah):CD cx 124 [p,.str s] h (I (AD (AH [s]) l)) h:=by have hfit:WE (.func (.func 196) [] [.Cd [.str s]]) h (AH [s]):=⟨196,_,rfl,Az,λa=>aO4 s a h⟩;rw[Ag,bp,aFn];simp only[Cy,(aGZ hs hn hfit).Af]
end
end
section
section
variable{h:Ai}{p v:Ab}{l:List Item}
def f186(hv:D3 l v)(a:Item){n:Nat}(hn:n<=l.length)(hb:l.length<=1000000000):∃u,CD cx 199 [v,.agg a.row,I (n:Int)] h u h/\D3 (l.take n++a::l.drop n) u:=by
 have Su:(l.length+1)*40<=AY:=by have:AY=140737488355328:=rfl;omega
 obtain⟨t,q,h1⟩:=Bx.TS hv (k:= .i64) hn;obtain⟨s,m,h2⟩:=Bx.iD h1 (b:=40) (by rw[Ax];have:AY=140737488355328:=rfl;omega);have j:=Bx.pD (a:=a) h2 (b:=40) (by rw[Ax];have:AY=140737488355328:=rfl;omega);obtain⟨r,i,e⟩:=Bx.zX hv (k:= .i64) hn;obtain⟨d,g,c⟩:=Bx.Wy (v:= .sl 4 ((l.take n++[a]).map Item.row)) .mk e (b:=40) (by rw[An,Ax,A4,AQ];have:AY=140737488355328:=rfl;omega);refine⟨d,?_,by rw[A7] at c;exact c⟩;rw[Ag,ez,aFZ];simp only[Cy,Ly,q,m,Ñ,j,i,g]
def f95{id o:Nat}(hs:MV h id o l)(hb:l.length<=1000000000)(a:Item):∃u,CD cx 126 [Pt id o,.agg a.row] h (.tuple []) (put h id o u)/\D3 (l++[a]) u:=by obtain⟨v,hc,hv⟩:=hs;obtain⟨u,hr,hu⟩:=f186 (h:=h) hv a (n:=l.length) (Ad _) hb;rw[Bl,FA] at hu;refine⟨u,?_,hu⟩;rw[Ag,br,aFp];simp only[Cy,Ly,S9,Rl,hc.load,BB,Bx.GN hv,hr.Af,hc.store hu.cells]
def aO5(hs:r_ h p l)(hb:l.length<=1000000000)(node:Int):CD cx 252 [p,I node] h (I (Ec node l)) h:=by
 rw[Ag,jb,aGy];have a: -1<=AD (Bt node) l/\AD (Bt node) l<l.length+1:=by rcases BZ (q:=Bt node) (l:=l) with⟨h1,h2⟩|⟨n,hn,h1,h2,h3⟩<;>rw[h1]<;>omega
 simp only[Cy,(aZ hs hb node).Af,RE (Ac: -9223372036854775808<=AD (Bt node) l+1) (Ac:AD (Bt node) l+1<9223372036854775808)];rw[Me];by_cases KI:AD (Bt node) l<0;.rw[Ae KI];refine Cv (λn:Nat=>[I 0,I (AD (Bt node) l+1)]) (λn h1=>h1=h) (λn=>n) 0 rfl rfl ?_;rintro n h1 rfl;have i1:¬0<=AD (Bt node) l:=Ac;simp only[Cy,i1,AP,AO,AK]
 .rw[Aa KI];have i0:0<=AD (Bt node) l:=Ac;obtain⟨m,hm⟩:=MQ i0;refine Cv (λn:Nat=>[I 0,I (n:Int)]) (λn h1=>Gy AS l (m+1)=Gy AS l n/\h1=h) (λn=>l.length-n) (m+1) (by rw[hm];rfl) ⟨rfl,rfl⟩ ?_;rw[hm,BH];rintro n h1 ⟨ha,rfl⟩;simp only[Cy,(Ac:(0:Int)<=(m:Int)),AN,AO,AK,(Vg hs).Af];rcases Bm n l.length with hlt|JA
  .have i1:(n:Int)<(l.length:Int):=by omega
   rw[iG hlt] at ha;rcases hs with⟨rfl,rfl⟩|⟨id,o,v,rfl,hc,hv⟩
   .simp at hlt
   .simp only[Cy,Ly,i1,AN,AO,AK,hc.load,BB,Bx.DN hv hlt,Za,DB (Ac:n<9223372036854775807)];rw[DE];refine⟨λhe=>?_,λhe=>?_⟩;.rw[ha,Ae (by exact he)]
    .rw[Aa (by simp[AS,he])] at ha;exact By.next (n+1) rfl ⟨ha,rfl⟩ Ac
  .have i1:¬(n:Int)<(l.length:Int):=by omega
   rw[aV JA] at ha;simp only[Cy,i1,AP,AO,AK,ha]
end
end
section
def Zb(F:Ab)(q:Item->Bool):Prop:=∃f caps,F= .func (.func f) [] caps/\f<=99999/\∀(a:Item) (h:Ai),CD cx f (.agg a.row::caps) h (.bool (q a)) h
section
variable{h:Ai}{p v:Ab}{l:List Item}
def f42{id o:Nat}(hs:MV h id o l)(hb:l.length<=1000000000)(h2:2<=l.length):∃u,CD cx 76 [Pt id o] h (.agg (DP l).row) (put h id o u)/\D3 (l.take (l.length-1)) u:=by obtain⟨v,hc,hv⟩:=(show MV h id o l from hs);obtain⟨u,e,hu⟩:=Bx.TS hv (k:= .i64) (Ac:l.length-1<=l.length);refine⟨u,?_,hu⟩;have a:(l.length:Int)-1=((l.length-1:Nat):Int):=Ac;rw[Ag,iR,t76];simp only[Cy,Ly,(Vg hs.at).Af,(f39 hs.at hb).Af,hc.load,BB,Bx.GN hv,Ek (Ac: -9223372036854775808<=(l.length:Int)-1) (Ac:(l.length:Int)-1<9223372036854775808),a,e,hc.store (Bx.cells hu),(Ac:¬(l.length:Int)<2),AP,AO,AK]
def aBG{id o:Nat}(hs:MV h id o l)(hb:l.length<=1000000000){B A:Ab}{b a:Item->Bool}(hB:Zb B b)(e:Zb A a):
  ∃u,CD cx 168 [Pt id o,B,A] h (I ((l.length:Int)-((D6 b a l).length:Int))) (put h id o u)/\D3 (D6 b a l) u:=by
 obtain⟨g,q,rfl,c,rb⟩:=hB;obtain⟨fa,ca,rfl,hfa,ra⟩:=e;have hlt:=hs.lt;have Ql:Ev cx 168 [Pt id o,.func (.func g) [] q,.func (.func fa) [] ca] h λr h'=>r= I ((l.length:Int)-((D6 b a l).length:Int))/\∃u,h'=put h id o u/\D3 (D6 b a l) u:=by
  unfold Ev;rw[df,aFG];refine Cv (λn:Nat=>[I ((l.length:Int)-(n:Int))]) (λn h1=>n<=l.length/\(∃u,h1=put h id o u/\D3 (l.take n) u)/\D6 b a l=D6 b a (l.take n)) (λn=>n) l.length AB ⟨Ad _,by rw[Bl];exact hs.iI,by rw[Bl]⟩ ?_;rintro n h1 ⟨hn,⟨u,rfl,hu⟩,ha⟩;have KG:MV (put h id o u) id o (l.take n):= .aEP hlt hu;have yZ:(l.take n).length=n:=by rw[Ax];omega
  simp only[Cy,↓reduceIte,(Vg KG.at).Af,yZ];match n,hn,hu,ha,KG,yZ with
  |0,hn,hu,ha,KG,yZ=>rw[pF (l:=l.take 0) AB] at ha;simp only[Cy,(Ac:¬(1:Int)<((0:Nat):Int)),AP,AO,AK];exact⟨_,rfl,by rw[ha];rfl,u,rfl,by rw[ha];exact hu⟩
  |1,hn,hu,ha,KG,yZ=>rw[pF (l:=l.take 1) (by rw[yZ];exact Ad _)] at ha;simp only[Cy,(Ac:¬(1:Int)<((1:Nat):Int)),AP,AO,AK];exact⟨_,rfl,by rw[ha,yZ],u,rfl,by rw[ha];exact hu⟩
  |m+2,hn,hu,ha,KG,yZ=>
   have hm:m+1<l.length:=Ac;have j:((l.length:Int)-((m+2:Nat):Int))+1=(l.length:Int)-((m+1:Nat):Int):=Ac;obtain⟨d,hr,TM⟩:=f42 KG Ac Ac;rw[Km hm] at hr;have i:(l.take (m+2)).take ((l.take (m+2)).length-1)=l.take (m+1):=by rw[yZ,CK,BP Ac];rfl
   rw[i] at TM;rw[iE] at hr;have aKe:=f39 KG.at Ac;rw[Km hm] at aKe;rw[sn hm] at ha;simp only[Cy,↓reduceIte,CR,hfa,c,(Ac:(1:Int)<((m+2:Nat):Int)),AN,AO,AK,aKe.Af,(rb _ _).Af,hr.Af,(ra _ _).Af,RE (Ac: -9223372036854775808<=((l.length:Int)-((m+2:Nat):Int))+1) (Ac:((l.length:Int)-((m+2:Nat):Int))+1<9223372036854775808),j];rw[DE,DE];refine⟨λQJ=>⟨λU_=>?_,λU_=>?_⟩,λQJ=>?_⟩
   .have QJ:b l[m+1]=false:=by simpa using QJ
    rw[Aa (by simp[QJ]),Ae U_] at ha;exact⟨_,rfl,by rw[ha,Ax,BP Ac],d,rfl,by rw[ha];exact TM⟩
   .have QJ:b l[m+1]=false:=by simpa using QJ
    rw[Aa (by simp[QJ]),Aa (by simp[U_])] at ha;exact By.next (m+1) rfl ⟨Ac,⟨d,rfl,TM⟩,ha⟩ Ac
   .have QJ:b l[m+1]=true:=by simpa using QJ
    rw[Ae QJ] at ha;exact⟨_,rfl,by rw[ha,yZ],u,rfl,by rw[ha];exact hu⟩
 obtain⟨r,h',hr,rfl,u,rfl,hu⟩:=Ql.ret;exact⟨u,hr,hu⟩
def PU:Zb (.func (.func 169) [] []) Dm:=⟨_,_,rfl,Az,λa h=>by rw[Ag,dg,aFH];simp only[Cy,Ly,Dm]⟩
def wD{w:Ab}{ws:List Ah}(hw:IP ws w)(hn:ws.length<=1000000000):Zb (.func (.func 170) [] [.Cd [w]]) (AH ws):=⟨_,_,rfl,Az,λa h=>by rw[Ag,dh,aFI];simp only[Cy,Ly,(pX hw hn a h).Af]⟩
def kC(s:Ah):Zb (.func (.func 219) [] [.Cd [.str s]]) (CL s):=⟨_,_,rfl,Az,λa h=>by
 rw[Ag,gp,aGf];simp only[Cy,Ly,Ē,CL];refine⟨λh1=>by simp[h1],λh1=>?_⟩;rw[DE];refine⟨λh2=>?_,λh2=>?_⟩
 .have h2:a.name∉Fu:=by simpa using h2
  simp[h2]
 .have h2:a.name∈Fu:=by simpa using h2
  have h1:a.Bd=1:=by simpa using h1
  simp[h2,h1]⟩
def bA:Zb (.func (.func 197) [] []) EG:=⟨_,_,rfl,Az,λa h=>by
 rw[Ag,ew,aFX];simp only[Cy,Ly,ē,EG];refine⟨λh1=>by simp[h1],λh1=>?_⟩;have h1:a.Bd=1:=by simpa using h1
 simp[h1]⟩
def kD(node:Int):Zb (.func (.func 221) [] [.Cd [I node]]) (Bt node):=⟨_,_,rfl,Az,λa h=>by rw[Ag,gu,aGh];simp only[Cy,Ly,Bt]⟩
def aG0{id o:Nat}(hs:MV h id o l)(hb:l.length<=1000000000)(s:Ah):
  ∃u,CD cx 165 [Pt id o,.str s] h (I ((l.length:Int)-((D6 (CL s) Dm l).length:Int))) (put h id o u)/\D3 (D6 (CL s) Dm l) u:=by
 obtain⟨u,hr,hu⟩:=aBG hs hb (kC s) PU;exact⟨u,by rw[Ag,db,aFE];simp only[Cy,hr.Af],hu⟩
def f66{id o:Nat}(hs:MV h id o l)(hb:l.length<=1000000000){w:Ab}{ws:List Ah}(hw:IP ws w)(hn:ws.length<=1000000000):
  ∃u,CD cx 89 [Pt id o,w] h (I ((l.length:Int)-((D6 Dm (AH ws) l).length:Int))) (put h id o u)/\D3 (D6 Dm (AH ws) l) u:=by
 obtain⟨u,hr,hu⟩:=aBG hs hb PU (wD hw hn);exact⟨u,by rw[Ag,Ą,t89];simp only[Cy,IP.cells hw,hr.Af],hu⟩
def aO8{id o:Nat}(hs:MV h id o l)(hb:l.length<=1000000000):
  ∃u,CD cx 125 [Pt id o] h (I ((l.length:Int)-((D6 EG Dm l).length:Int))) (put h id o u)/\D3 (D6 EG Dm l) u:=by
 obtain⟨u,hr,hu⟩:=aBG hs hb bA PU;exact⟨u,by rw[Ag,bq,aFo];simp only[Cy,hr.Af],hu⟩
def aKf{id o:Nat}(hs:MV h id o l)(hb:l.length<=1000000000)(node:Int):
  ∃u,CD cx 166 [Pt id o,I node] h (I ((l.length:Int)-((Hq node l).length:Int))) (put h id o u)/\D3 (Hq node l) u:=by
 by_cases KI:AD (Bt node) l<0;.obtain⟨u,e,hu⟩:=hs.iI;refine⟨u,?_,by rw[Hq,Ae KI];exact hu⟩;rw[Hq,Ae KI,Int.sub_self,Ag,jK,aBl];simp only[Cy,(aZ hs.at hb node).Af,KI,AN,AO,AK];exact e
 .obtain⟨u,hr,hu⟩:=aBG hs hb PU (kD node);refine⟨u,?_,by rw[Hq,Aa KI];exact hu⟩;rw[Hq,Aa KI,Ag,jK,aBl];simp only[Cy,(aZ hs.at hb node).Af,KI,AP,AO,AK,hr.Af]
end
end
section
section
variable{h:Ai}{p v:Ab}{l:List Item}
def aO9(hv:D3 l v){k:Nat}(hk:k<l.length)(hb:l.length<=1000000000):∃u,CD cx 200 [v,I (k:Int)] h u h/\D3 (BA l k) u:=by obtain⟨r,j,h1⟩:=Bx.TS hv (k:= .i64) (Ac:k<=l.length);obtain⟨q,i,h2⟩:=Bx.iD h1 (b:=40) (zY (by rw[Ax];omega));obtain⟨m,g,d⟩:=Bx.zX hv (k:= .i64) (Ac:k+1<=l.length);obtain⟨a,e,c⟩:=Bx.Wy h2 d (b:=40) (zY (by rw[Ax,A4];omega));refine⟨a,?_,c⟩;rw[Ag,e_,aF0];simp only[Cy,j,i,DB (Ac:k<9223372036854775807),g,e]
def aBH{id o:Nat}(hs:MV h id o l)(hb:l.length<=1000000000)(node:Int):∃u,CD cx 127 [Pt id o,I node] h (.bool (decide (1<=AD (Bt node) l))) (put h id o u)/\D3 (Cg node l) u:=by
 by_cases KI:AD (Bt node) l<1;.obtain⟨u,e,hu⟩:=hs.iI;refine⟨u,?_,by rw[Cg,Ae KI];exact hu⟩;rw[Ag,iZ,t127,<-e];simp only[Cy,(aZ hs.at hb node).Af,KI,AN,AO,AK,(Ac:¬1<=AD (Bt node) l),Fg]
 .rcases BZ (q:=Bt node) (l:=l) with⟨h1,_⟩|⟨k,hk,h1,_⟩
  .rw[h1] at KI;omega
  .obtain⟨v,hc,hv⟩:=(show MV h id o l from hs);obtain⟨u,hr,hu⟩:=aO9 (h:=h) hv hk hb;refine⟨u,?_,by rw[Cg,Aa KI,h1];exact hu⟩;rw[Ag,iZ,t127];simp only[Cy,(aZ hs.at hb node).Af,hc.load,BB,h1];rw[h1] at KI;simp only[Cy,hr.Af,BB,hc.store (D3.cells hu),show¬(k:Int)<1 from KI,AP,AO,AK,(Ac:(1:Int)<=(k:Int)),EY]
def aPa{id o:Nat}(hs:MV h id o l)(hb:l.length<=1000000000)(a:Item)(i:Int):∃u,CD cx 255 [Pt id o,.agg a.row,I i] h (.tuple []) (put h id o u)/\D3 (l.take (H0 i l.length)++a::l.drop (H0 i l.length)) u:=by
 obtain⟨v,hc,hv⟩:=(show MV h id o l from hs);obtain⟨u,hr,hu⟩:=f186 (h:=h) hv a (n:=H0 i l.length) (by unfold H0;omega) hb;refine⟨u,?_,hu⟩;rw[Ag,je,aGB];have c:(if(l.length:Int)<(if i<1 then 1 else i) then(l.length:Int) else(if i<1 then 1 else i))=((H0 i l.length:Nat):Int):=by unfold H0;split<;>split<;>omega
 simp only[Cy,Ly,S9,Rl,hc.load,BB,gZ,Bx.GN hv,É,c,hr.Af,hc.store (D3.cells hu)]
def aPb(hv:D3 l v)(hne:l≠[])(hb:l.length<=1000000000):CD cx 301 [v] h (.Du h.length 0 l.length 4) (h++[.cells (l.map Item.row).flatten]):=by
 have d:AE (.Gs false .sl) [v,.slnil]=some (.bool false):=by
  rcases hv with rfl|⟨rfl,hv⟩
  .rfl
  .exact absurd (by simpa using hv) hne
 have c:AE (.Cb 4) []=some (.sl 4 []):=rfl;have a:=QQ (h:=h) (s:= .sl 4 []) (z:=4) (b:=40) (.inr rfl) hv (by simpa using hne) (by rw[Aw];exact zY Ac);rw[Aw] at a;rw[Ag,jx,aGT];simp only[Cy,d,c,a]
section
variable{id o n z:Nat}{v w:Ab}{X Y:GX}{Ay:List (List Ab)}
def At.next(ha:At h id o v):(Am.put h id o w++[X])[h.length]?=some X/\At (Am.put h id o w++[X]) id o w/\(Am.put h id o w++[X]).set h.length Y=Am.put h id o w++[Y]:=by have e:=MU (h:=h) (id:=id) (o:=o) (u:=w);refine⟨by rw[<-e];simp,ha.put.L1,?_⟩;rw[Ce _ _ Ac,<-e,Fh];rfl
def At.kg(ha:At h id o v)(hv:L6 h v=some (h,v)):Lq h 0 (Pt id o)=some h:=by have a:=ha.same;obtain⟨cs,hc,e⟩:=ha;simp only[Lq,hc,BB,e,hv,Cx];rw[IQ hc] at a;rw[a]
def At.kh(ha:At h id o v)(hr:∀r∈Ay,r.length=z):Lq (Am.put h id o (.Du h.length 0 Ay.length z)++[.cells Ay.flatten]) 0 (Pt id o)=some (Am.put h id o (.sl z Ay)++[.Ef]):=by obtain⟨d,c,a⟩:=ha.next (w:= .Du h.length 0 Ay.length z) (X:= .cells Ay.flatten) (Y:= .Ef);have f1:=OP hr d;rw[a] at f1;have a2:=(ha.next (w:= .Du h.length 0 Ay.length z) (X:= .Ef) (Y:= .Ef)).2.1;obtain⟨cs,hc,e⟩:=c;obtain⟨TE,Mx,g⟩:=a2;simp only[Lq,hc,BB,e,f1,Cx,Mx];rw[<-IQ (u:= .sl z Ay) Mx,iF ha.put,iE]
end
def aPc{id o:Nat}(hs:MV h id o l)(hb:l.length<=1000000000)(node:Int)(a:Item):∃u t,CD cx 284 [Pt id o,I node,.agg a.row] h (.bool (decide (1<=AD (Bt node) l))) (put h id o u++t)/\D3 (QV node a l) u:=by
 obtain⟨v,hc,hv⟩:=(show MV h id o l from hs);by_cases KI:AD (Bt node) l<1;.refine⟨v,[],?_,by rw[QV,Ae KI];exact hv⟩;have c:=hc.kg (Bx.UF hv);rw[Ag,jX,aBz,hc.same,A8];simp only[Cy,Ly,(aZ hs.at hb node).Af,KI,AN,AO,AK,c,(Ac:¬1<=AD (Bt node) l),Fg]
 .rcases BZ (q:=Bt node) (l:=l) with⟨h1,_⟩|⟨k,hk,h1,_⟩
  .rw[h1] at KI;omega
  .have d:¬(k:Int)<1:=by rw[h1] at KI;exact KI
   have hne:l≠[]:=by intro e;subst e;simp at hk
   have hcl:=aPb (h:=h) hv hne hb;have j:=(hc.L1 (t:=[GX.cells (l.map Item.row).flatten])).store (u:= .Du h.length 0 l.length 4) rfl;rw[iF hc] at j;obtain⟨s,x,r⟩:=hc.next (w:= .Du h.length 0 l.length 4) (X:= .cells (l.map Item.row).flatten) (Y:= .cells ((l.map Item.row).set k a.row).flatten);have g:=VX (z:=4) (aJK l) s (i:=k) (by simpa using hk) (q:=a.row) rfl;rw[r] at g;have m:AE (.Hj 4) [.Du h.length 0 l.length 4,I (k:Int)]=some (Pt h.length (k*4)):=JH hk;have c:=hc.kh (o9 (aJK l) (i:=k) (q:=a.row) rfl);rw[Ci,Aw] at c;refine⟨.sl 4 ((l.map Item.row).set k a.row),[.Ef],?_,?_⟩;.rw[Ag,jX,aBz];simp only[Cy,Ly,(aZ hs.at hb node).Af,h1,d,AP,AO,AK,hc.load,BB,hcl.Af,j,x.load,m,g,c,(Ac:(1:Int)<=(k:Int)),EY]
   .rw[QV,Aa KI,h1,BH,D3,JW];exact .mk
end
end
section
section
variable{h:Ai}{p v w:Ab}{l:List Item}{ws:List Ah}
end
end
section
section
variable{e:DH}{d:Ab}
end
section
variable{h:Ai}{v:Ab}{l:List DH}{id o:Nat}
def f99(hc:At h id o v)(hv:Fm l v)(hb:l.length<=1000000000):CD cx 172 [Pt id o] h (I (since l)) h:=by
 have hv:Bx 3 (l.map DH.row) v:=hv;rw[Ag,dj,aFK];simp only[Cy,hc.load,BB,hv.GN];refine Cv (λn:Nat=>[I (n:Int)]) (λn h1=>n<=l.length/\since l=since (l.take n)/\h1=h) (λn=>n) l.length rfl ⟨Ad _,by rw[Bl],rfl⟩ ?_;rintro n h1 ⟨hn,ha,rfl⟩;cases n with
 |zero=>simp only[Cy,(Ac:¬(0:Int)<((0:Nat):Int)),AP,AO,AK,ha,sq];rfl
 |succ n=>rw[vA hn] at ha;simp only[Cy,(Ac:(0:Int)<((n+1:Nat):Int)),AN,AO,AK,hc.load,BB,Ol (Ac:0<n+1) (Ac:n+1<9223372036854775807),ML,hv.DN (show n<l.length from hn),DH.at0];refine⟨λh0=>By.next n rfl ⟨Ac,by rw[ha,Aa h0],rfl⟩ Ac,λh0=>?_⟩;rw[Ae (by simpa using h0)] at ha;rw[ha];rfl
def aKg(hc:At h id o v)(hv:Fm l v)(hb:l.length<=1000000000)(name:Ah):CD cx 212 [Pt id o,.str name] h (I (Sg name l)) h:=by
 have hv:Bx 3 (l.map DH.row) v:=hv;rw[Ag,f_,aGa];simp only[Cy,IG,hc.load,BB,hv.GN,Ek (Ac: -9223372036854775808<=(l.length:Int)-1) (Ac:(l.length:Int)-1<9223372036854775808)];refine Cv (λn:Nat=>[I 0,I ((n:Int)-1)]) (λn h1=>n<=l.length/\Sg name l=Sg name (l.take n)/\h1=h) (λn=>n) l.length rfl ⟨Ad _,by rw[Bl],rfl⟩ ?_;rintro n h1 ⟨hn,ha,rfl⟩;cases n with
 |zero=>have i1:¬(0:Int)<=((0:Nat):Int)-1:=Ac;rw[ha];simp only[Cy,i1,AP,AO,AK,sr]
 |succ n=>
  have a:((n+1:Nat):Int)-1=(n:Int):=Ac;rw[vB hn] at ha;simp only[Cy,a,(Ac:(0:Int)<=(n:Int)),AN,AO,AK,hc.load,BB,hv.DN (show n<l.length from hn),DH.at0,DH.Ð,Ek (Ac: -9223372036854775808<=(n:Int)-1) (Ac:(n:Int)-1<9223372036854775808)];refine⟨λh0=>⟨λh1=>?_,λh1=>?_⟩,λh0=>?_⟩;.rw[ha,Aa h0,Ae h1]
  .exact By.next n rfl ⟨Ac,by rw[ha,Aa h0,Aa h1],rfl⟩ Ac
  .rw[ha,Ae (by simpa using h0)]
def f41(hc:At h id o v)(hv:Fm l v)(hb:l.length<=1000000000)(node:Int):CD cx 215 [Pt id o,I node] h (I (LA node l)) h:=by
 have hv:Bx 3 (l.map DH.row) v:=hv;rw[Ag,gj,aGc];simp only[Cy,IG,hc.load,BB,hv.GN,Ek (Ac: -9223372036854775808<=(l.length:Int)-1) (Ac:(l.length:Int)-1<9223372036854775808)];refine⟨λh0=>by rw[LA,Ae h0],λh0=>?_⟩;rw[LA,Aa h0];refine Cv (λn:Nat=>[I 0,I ((n:Int)-1)]) (λn h1=>n<=l.length/\AD (U4 node) l=AD (U4 node) (l.take n)/\h1=h) (λn=>n) l.length rfl ⟨Ad _,by rw[Bl],rfl⟩ ?_;rintro n h1 ⟨hn,ha,rfl⟩;cases n with
 |zero=>have i1:¬(0:Int)<=((0:Nat):Int)-1:=Ac;rw[ha];simp only[Cy,i1,AP,AO,AK,Md]
 |succ n=>
  have a:((n+1:Nat):Int)-1=(n:Int):=Ac;rw[PG hn] at ha;simp only[Cy,a,(Ac:(0:Int)<=(n:Int)),AN,AO,AK,hc.load,BB,hv.DN (show n<l.length from hn),DH.at0,Ek (Ac: -9223372036854775808<=(n:Int)-1) (Ac:(n:Int)-1<9223372036854775808)];refine⟨λh1=>?_,λh1=>?_⟩;.rw[ha,Ae (by simpa[U4] using h1)]
  .exact By.next n rfl ⟨Ac,by rw[ha,Aa (by simpa[U4] using h1)],rfl⟩ Ac
end
section
variable{h:Ai}{v:Ab}{l:List Bj}
def f259(hv:BF l v)(hb:l.length<=1000000000)(x:Bj):CD cx 316 [v,.agg x.row] h (I (Ct (λa=>decide (x=a)) 0 l)) h:=by
 have hv:Bx 3 (l.map Bj.row) v:=hv;rw[Ag,kb,aGX];simp only[Cy,hv.GN,Bj.EP,Bj.g0,Bj.g1,Bj.g2,Bj.Wz];refine Cv (λn:Nat=>[I 0,I (n:Int)]) (λn h1=>n<=l.length/\Ct (λa=>decide (x=a)) 0 l=Ct (λa=>decide (x=a)) n (l.drop n)/\h1=h) (λn=>l.length-n) 0 rfl ⟨Bn _,rfl,rfl⟩ ?_;rintro n h1 ⟨hn,ha,rfl⟩;rcases Bm n l.length with hlt|JA
 .have i1:(n:Int)<(l.length:Int):=by omega
  rw[AA hlt,Ct] at ha;simp only[Cy,i1,AN,AO,AK,hv.DN hlt,Bj.EP,Bj.OT,Ad,Ò,Bool.bne_false,DB (Ac:n<9223372036854775807)];refine⟨λh0=>?_,λh0=>?_⟩;.rw[ha,Ae (by simpa using h0)]
  .exact By.next (n+1) rfl ⟨hlt,by rw[ha,Aa (by simpa using h0)],rfl⟩ Ac
 .have i1:¬(n:Int)<(l.length:Int):=by omega
  rw[AX JA,Ct] at ha;simp only[Cy,i1,AP,AO,AK,ha]
def aPd(hv:BF l v)(hb:l.length<=1000000000)(x:Bj):CD cx 300 [v,.agg x.row] h (.bool (decide (x∈l))) h:=by
 rw[Ag,jw,aGS];simp only[Cy,Bj.EP,Bj.g0,Bj.g1,Bj.g2,Bj.Wz,(f259 hv hb x).Af];rcases Hp (p:=λa=>decide (x=a)) (l:=l) (k:=0) with⟨h1,h2⟩|⟨n,a,h1,h2,h3⟩
 .rw[h1];have:x∉l:=λhm=>by have:=MK.1 h2 x hm;simp at this
  simp[this]
 .have hm:=CJ h2;have he:x=a:=by simpa using Wf h3
  have hx:x∈l:=by rw[he];exact hm
  rw[h1];simp[hx]
def pY(F:Ab)(h:Ai)(q:Bj->Bool):Prop:=∃f caps,F= .func (.func f) [] caps/\f<=99999/\∀a:Bj,CD cx f (.agg a.row::caps) h (.bool (q a)) h
def aKh{F:Ab}{q:Bj->Bool}(hv:BF l v)(hb:l.length<=1000000000)(hF:pY F h q):CD cx 279 [v,F] h (I (Ct q 0 l)) h:=by
 have hv:Bx 3 (l.map Bj.row) v:=hv;obtain⟨f,caps,rfl,hf,hr⟩:=hF;rw[Ag,Xf,Č];simp only[Cy,hv.GN];refine Cv (λn:Nat=>[I 0,I (n:Int)]) (λn h1=>n<=l.length/\Ct q 0 l=Ct q n (l.drop n)/\h1=h) (λn=>l.length-n) 0 rfl ⟨Bn _,rfl,rfl⟩ ?_;rintro n h1 ⟨a,ha,rfl⟩;rcases Bm n l.length with hlt|JA
 .have i1:(n:Int)<(l.length:Int):=by omega
  rw[AA hlt,Ct] at ha;simp only[Cy,↓reduceIte,CR,hf,i1,AN,AO,AK,hv.DN hlt,Bj.EP,Bj.OT,Ad,(hr l[n]).Af];rw[DE];refine⟨λhe=>?_,λhe=>?_⟩;.rw[ha,Ae he]
  .rw[Aa (by simp[he])] at ha;simp only[Cy,DB (Ac:n<9223372036854775807)];exact By.next (n+1) rfl ⟨hlt,ha,rfl⟩ Ac
 .have i1:¬(n:Int)<(l.length:Int):=by omega
  rw[AX JA,Ct] at ha;simp only[Cy,↓reduceIte,CR,hf,i1,AP,AO,AK,ha]
def aKi{F:Ab}{q:Bj->Bool}(hv:BF l v)(hb:l.length<=1000000000)(hF:pY F h q):CD cx 247 [v,F] h (.bool (l.any q)) h:=by
 rw[Ag,jW,aBx];simp only[Cy,(aKh hv hb hF).Af];have:l.any q=(l.find? q).isSome:=by rw[Mz,aTd,Ov]
 rw[this];rcases Hp (p:=q) (l:=l) (k:=0) with⟨h1,h2⟩|⟨n,a,h1,h2,h3⟩
 .rw[h1,h2];simp
 .rw[h1,h3];simp
def aPe(hv:BF l v)(hb:l.length<=1000000000)(x:Bj):CD cx 299 [.agg x.row,.Cd [v]] h (.bool (!decide (x∈l))) h:=by rw[Ag,jv,aGR];simp only[Cy,Bj.EP,Bj.g0,Bj.g1,Bj.g2,Bj.Wz,(aPd hv hb x).Af]
def aKj{l2:List Bj}{w:Ab}(hv:BF l v)(hb:l.length<=1000000000)(hw:BF l2 w)(Qq:l2.length<=1000000000):CD cx 298 [v,w] h (.bool (decide (∀x∈l,x∈l2))) h:=by
 have hF:pY (.func (.func 299) [] [.Cd [w]]) h λx=> !decide (x∈l2):=⟨299,_,rfl,Az,λa=>aPe hw Qq a⟩;have e:(!l.any λx=> !decide (x∈l2))=decide (∀x∈l,x∈l2):=by rw[Mz];simp
 rw[Ag,ju,aGQ,<-e];simp only[Cy,Bx.cells hw,(aKi hv hb hF).Af]
def aPf{a b:DH}(ha:xo a)(hb:xo b):CD cx 281 [.agg a.row,.agg b.row] h (.bool (ME a.c b.c)) h:=by
 have f:=aKj (h:=h) a.ok ha b.ok hb;have r2:=aKj (h:=h) b.ok hb a.ok ha;rw[Ag,jo,aGL];simp only[Cy,Nat.reduceLeDiff,↓reduceIte,CR,A8,DH.EP,DH.g1,DH.g2,DH.aOj,f.Af,r2.Af];refine⟨λh1=>⟨λh2=>⟨λh3=>?_,λh3=>?_⟩,λh2=>?_⟩,λh1=>?_⟩
 .have mS:a.c.As.length=b.c.As.length:=by omega
  simp only[ME,h1,mS,GV];congr 3
  rw[eq_iff_iff];exact⟨λh=>⟨h3,h⟩,λh=>h.2⟩
 .simp[ME,h3]
 .have mS:¬a.c.As.length=b.c.As.length:=by omega
  simp[ME,mS]
 .simp[ME,h1]
end
end
section
def DJ{Q:Lt}{h:Ai}{a:Ab}{k:IT}:W cx (.same a a k) Q h↔W cx k Q h:=by refine⟨λhw=>?_,yn (Ab.TT a)⟩;obtain⟨m,x',Iy,h',hr,q⟩:=hw.succ;simp only[IT.step,Ab.TT,BN] at hr;exact C6 ⟨m,x',Iy,h',hr,q⟩
section
variable{h:Ai}{v:Ab}{l:List DH}{id o:Nat}
def f45{l:List Bj}(hv:BF l v)(hb:l.length<=1000000000):∃u,CD cx 35 [v] h u h/\BF l u:=by
 have hv:Bx 3 (l.map Bj.row) v:=hv;rcases hv with rfl|⟨rfl,hn⟩
 .refine⟨.sl 3 (l.map Bj.row),?_,.mk⟩;have b:AE (.Gs false .sl) [.sl 3 (l.map Bj.row),.slnil]=some (.bool false):=rfl;have f:AE (.Cb 3) []=some (.sl 3 []):=rfl;have c:R4 h 3 40 (.sl 3 []) (.sl 3 (l.map Bj.row))=some (.sl 3 (l.map Bj.row)):=by
   simp only[R4,Ij,BN,Cx];cases l with
   |nil=>rfl
   |cons a l=>have:(l.length+1)*40<=AY:=zY (by simp at hb;omega);simp[D2,this]
  rw[Ag,vV,t35];simp only[Cy,b,f,c]
 .refine⟨.slnil,?_,?_⟩;.have b:AE (.Gs false .sl) [.slnil,.slnil]=some (.bool true):=rfl;rw[Ag,vV,t35];simp only[Cy,b]
  .exact .inr ⟨rfl,hn⟩
def ĕ{e:DH}(he:xo e):∃a:DH,a.c=e.c/\CD cx 282 [.agg e.row] h (.agg a.row) h:=by obtain⟨u,r,hu⟩:=f45 (h:=h) e.ok he;refine⟨⟨e.c,u,hu⟩,rfl,?_⟩;rw[Ag,jq,aGM];simp only[Cy,DH.EP,DH.g0,DH.g1,DH.g2,r.Af,Bx.cells hu];rfl
def aKk(hv:Fm l v){k:Nat}(hk:k<l.length)(hb:l.length<=1000000000):∃u,CD cx 250 [v,I (k:Int)] h u h/\Fm (BA l k) u:=by obtain⟨r,m,h1⟩:=Bx.TS hv (k:= .i64) (Ac:k<=l.length);obtain⟨q,j,h2⟩:=Bx.iD h1 (b:=48) (dN (by rw[Ax];omega));obtain⟨p,i,f⟩:=Bx.zX hv (k:= .i64) (Ac:k+1<=l.length);obtain⟨a,g,c⟩:=Bx.Wy h2 f (b:=48) (dN (by rw[Ax,A4];omega));refine⟨a,?_,c⟩;rw[Ag,i_,aGw];simp only[Cy,m,j,DB (Ac:k<9223372036854775807),i,g]
def Ė(hv:Fm l v)(e:DH){k:Nat}(hk:k<=l.length)(hb:l.length<=1000000000):∃u,CD cx 123 [v,.agg e.row,I (k:Int)] h u h/\Fm (l.take k++e::l.drop k) u:=by obtain⟨x,r,h1⟩:=Bx.TS hv (k:= .i64) hk;obtain⟨w,q,h2⟩:=Bx.iD h1 (b:=48) (dN (by rw[Ax];omega));have p:=Bx.pD (a:=e) h2 (b:=48) (dN (by rw[Ax];omega));obtain⟨t,m,i⟩:=Bx.zX hv (k:= .i64) hk;obtain⟨g,j,c⟩:=Bx.Wy (f:=DH.row) (l:=l.take k++[e]) .mk i (b:=48) (dN (by rw[An,Ax,A4,AQ];omega));refine⟨g,?_,by rw[A7] at c;exact c⟩;rw[Ag,bn,aFm];simp only[Cy,DH.EP,DH.g0,DH.g1,DH.g2,DH.Wz,r,q,su DH.EP,p,m,j]
def aG1(hv:Fm l v)(hne:l≠[])(hb:l.length<=1000000000):CD cx 152 [v] h (.Du h.length 0 l.length 3) (h++[.cells (l.map DH.row).flatten]):=by
 have f:AE (.Gs false .sl) [v,.slnil]=some (.bool false):=by
  rcases hv with rfl|⟨rfl,hv⟩
  .rfl
  .exact absurd (by simpa using hv) hne
 have c:AE (.Cb 3) []=some (.sl 3 []):=rfl;have a:=QQ (h:=h) (s:= .sl 3 []) (z:=3) (b:=48) (.inr rfl) hv (by simpa using hne) (by rw[Aw];exact dN Ac);rw[Aw] at a;rw[Ag,Xc,ĉ];simp only[Cy,f,c,a]
def f63(hs:U5 h id o l)(hb:l.length<=1000000000):∃u,CD cx 77 [Pt id o] h (.tuple []) (put h id o u)/\Fm (l++[iL]) u:=by obtain⟨v,hc,hv⟩:=(show U5 h id o l from hs);obtain⟨u,hr,hu⟩:=Ė (h:=h) hv iL (Ad l.length) hb;rw[Bl,FA] at hu;refine⟨u,?_,hu⟩;rw[Ag,û,t77];simp only[Cy,↓reduceIte,Cl,S9,Rl,hc.load,BB,Bx.GN hv,Ó,hr.Af,hc.store (Fm.cells hu)]
def aPg(hs:U5 h id o l)(hb:l.length<=1000000000){e:DH}(he:xo e)(i:Int):∃u a,a.c=e.c/\CD cx 254 [Pt id o,.agg e.row,I i] h (.tuple []) (put h id o u)/\Fm (l.take (Hr i l.length)++a::l.drop (Hr i l.length)) u:=by
 obtain⟨v,hc,hv⟩:=(show U5 h id o l from hs);obtain⟨a,oI,b⟩:=ĕ (h:=h) he;obtain⟨u,hr,hu⟩:=Ė (h:=h) hv a (k:=Hr i l.length) (by unfold Hr;omega) hb;refine⟨u,a,oI,?_,hu⟩;have f:(if(l.length:Int)<(if i<0 then 0 else i) then(l.length:Int) else(if i<0 then 0 else i))=((Hr i l.length:Nat):Int):=by unfold Hr;split<;>split<;>omega
 rw[Ag,jd,aGA];simp only[Cy,DH.EP,DH.g0,DH.g1,DH.g2,DH.Wz,S9,Rl,hc.load,BB,gZ,Bx.GN hv,É,f,b.Af,DJ,hr.Af,hc.store (Fm.cells hu)]
def f65(hs:U5 h id o l)(hb:l.length<=1000000000):∃u,CD cx 90 [Pt id o] h (I ((l.length:Int)-((ID l:Nat):Int))) (put h id o u)/\Fm (l.take (ID l)) u:=by
 obtain⟨v,hc,hv⟩:=(show U5 h id o l from hs);obtain⟨s,es,KG,_⟩:=SJ l;have hcl:ID l<=l.length:=by unfold ID;omega
 obtain⟨u,b,hu⟩:=Bx.TS hv (k:= .i64) hcl;refine⟨u,?_,hu⟩;have a:(if since l-1<0 then 0 else since l-1)=((ID l:Nat):Int):=by unfold ID;split<;>omega
 have yZ:(l.take (ID l)).length=ID l:=by rw[Ax];omega
 have c:At (put h id o u) id o u:=hc.put;rw[Ag,ą,t90];simp only[Cy,IG,hc.load,BB,Bx.GN hv,(f99 hc hv hb).Af,DJ,Ek (Ac: -9223372036854775808<=since l-1) (Ac:since l-1<9223372036854775808),gZ,a,b,hc.store (Bx.cells hu),c.load,Bx.GN hu,yZ,Ek (Ac: -9223372036854775808<=(l.length:Int)-((ID l:Nat):Int)) (Ac:(l.length:Int)-((ID l:Nat):Int)<9223372036854775808)]
end
end
section
section
variable{e:Cn}{l:List DH}{n s:Nat}
end
section
variable{h:Ai}{v:Ab}{l:List DH}{id o:Nat}
set_option maxHeartbeats 1000000 in
def f30(hs:U5 h id o l)(hb:l.length<=900000000)(hl:∀x∈l,xo x){e:DH}(he:xo e):∃u a,a.c=e.c/\CD cx 246 [Pt id o,.agg e.row] h (.tuple []) (put h id o u)/\Fm (SL e.c l++[a]) u:=by
 obtain⟨v,hc,hv⟩:=(show U5 h id o l from hs);have Lm:Bx 3 (l.map DH.row) v:=hv;have JB:=hs.lt;obtain⟨s,es,KG,kE,_⟩:=SJ l;have Ql:Ev cx 246 [Pt id o,.agg e.row] h λr h'=>r= .tuple []/\∃(a:DH) (u:Ab),a.c=e.c/\h'=put h id o u/\Fm (SL e.c l++[a]) u:=by
  unfold Ev;rw[ix,aGt];by_cases h0:e.c.node=0;.obtain⟨a,oI,b⟩:=ĕ (h:=h) he;obtain⟨u,r2,hu⟩:=Ė (h:=h) hv a (Ad l.length) Ac;rw[Bl,FA] at hu;simp only[Cy,DH.EP,DH.g0,DH.g1,DH.g2,IG,h0,CP,AN,AK,AO,AP,hc.load,BB,Lm.GN];rw[<-h0,DH.Wz];simp only[Cy,b.Af,DJ,hc.load,BB,r2.Af,hc.store (Fm.cells hu)];refine⟨_,rfl,rfl,a,u,oI,rfl,?_⟩;rw[SL,Aa (λh=>h.1 h0)];exact hu
  .simp only[Cy,DH.EP,DH.g0,DH.g1,DH.g2,DH.Wz,IG,h0,CP,AN,AK,AO,AP,hc.load,BB,Lm.GN,Ek (Ac: -9223372036854775808<=(l.length:Int)-1) (Ac:(l.length:Int)-1<9223372036854775808)];refine Cv (λp:Int×Nat×Nat=>[I p.1,I (p.2.1:Int),I ((p.2.2:Int)-1)])
    (λp h1=>s<=p.2.2/\p.2.2<=l.length/\p.2.1+p.2.2<=l.length/\aW e.c l=p.2.1+aW e.c (l.take p.2.2)/\(SK e.c l=if 0<=SK e.c (l.take p.2.2) then SK e.c (l.take p.2.2) else if p.2.1=0 then -1 else p.1)/\(p.2.1=0\/∃k:Nat,k<l.length/\p.1=(k:Int))/\h1=h)
    (λp=>p.2.2) (0,0,l.length) rfl ⟨KG,Ad _,AB,AB,by
     rw[Bl];have:∀l:List DH,-1<=vC e.c l:=by
      intro l;induction l with
      |nil=>exact Lb _
      |cons x t ih=>rw[vC];split<;>(try split)<;>(try split)<;>omega
     have:=this l.reverse;simp only[BN];unfold SK;split<;>omega,.inl rfl,rfl⟩ ?_
   rintro⟨A,f,n⟩ h1 ⟨a1,a2,a3,a4,a5,a6,rfl⟩;simp only at a1 a2 a3 a4 a5 a6;have j:=f99 hc hv Ac;rw[es] at j;rcases Bm s n with hlt|JA
   .obtain⟨n,rfl⟩:∃m,n=m+1:=⟨n-1,Ac⟩;have z:((n+1:Nat):Int)-1=(n:Int):=Ac;have hn:n<l.length:=a2;have g:=kE n hn Ac;rw[dO hn,Aa g] at a4;rw[dP hn,Aa g] at a5;have b:=aPf (h:=h1) (hl _ (AG hn)) he;simp only[Cy,z,j.Af,(Ac:(s:Int)<=(n:Int)),AN,AK,AO,hc.load,BB,Lm.DN hn,DH.EP,DH.OT,Ad,b.Af,DB (Ac:f<9223372036854775807),Ek (Ac: -9223372036854775808<=(n:Int)-1) (Ac:(n:Int)-1<9223372036854775808)];rw[DE];refine⟨λh2=>?_,λh2=>?_⟩
    .rw[Ae h2] at a4 a5;refine By.next ((n:Int),f+1,n) rfl ⟨FY,FY,FY,FY,?_,.inr ⟨n,hn,rfl⟩,rfl⟩ FY;simp only
     rw[a5];by_cases hf:0<=SK e.c (l.take n);.simp[hf]
     .simp[hf,(Ac:(0:Int)<=(n:Int))]
    .rw[Aa (by simp[h2])] at a4;rw[Aa (show¬ME l[n].c e.c=true by simp[h2])] at a5;refine By.next (A,f,n) rfl ⟨FY,FY,FY,FY,?_,a6,rfl⟩ FY;simp only
     rw[a5];by_cases hf:0<=SK e.c (l.take n);.simp[hf]
     .simp[hf]
   .obtain rfl:n=s:=by omega
    obtain⟨b1,b2⟩:=vD (e:=e.c) es;rw[b1,BB] at a4;rw[b2,Aa Az] at a5;simp only[Cy,j.Af,(Ac:¬(n:Int)<=(n:Int)-1),AK,AO,AP];by_cases h3:3<=f
    .rcases a6 with a6|⟨k,hk,rfl⟩
     .omega
     rw[Aa Ac] at a5;obtain⟨i,b,gD⟩:=aKk (h:=h1) hv hk Ac;have UC:(BA l k).length<=l.length:=by unfold BA;rw[An,Ax,A4];omega
     have q:At (put h1 id o i) id o i:=hc.put;obtain⟨a,oI,r2⟩:=ĕ (h:=put h1 id o i) he;obtain⟨w,y,TM⟩:=Ė (h:=put h1 id o i) gD a (Ad (BA l k).length) Ac;rw[Bl,FA] at TM;simp only[Cy,(Ac:(3:Int)<=(f:Int)),AN,AK,AO,hc.load,BB,b.Af,hc.store (Fm.cells gD),q.load,Bx.GN gD,r2.Af,DJ,y.Af,q.store (Fm.cells TM),iE];refine⟨_,rfl,rfl,a,w,oI,rfl,?_⟩;rw[SL,Ae ⟨h0,Ac⟩,a5,BH];exact TM
    .obtain⟨a,oI,b⟩:=ĕ (h:=h1) he;obtain⟨u,r2,hu⟩:=Ė (h:=h1) hv a (Ad l.length) Ac;rw[Bl,FA] at hu;simp only[Cy,(Ac:¬(3:Int)<=(f:Int)),AK,AO,AP,hc.load,BB,Lm.GN,b.Af,DJ,r2.Af,hc.store (Fm.cells hu)];refine⟨_,rfl,rfl,a,u,oI,rfl,?_⟩;rw[SL,Aa Ac];exact hu
 obtain⟨r,h',hr,rfl,a,u,oI,rfl,hu⟩:=Ql.ret;exact⟨u,a,oI,hr,hu⟩
end
end
section
section
variable{h:Ai}{v:Ab}{l:List DH}{id o:Nat}
def aPh(hs:U5 h id o l)(hb:l.length<=900000000)(node:Int){e:DH}(he:xo e):∃u t a,a.c=e.c/\CD cx 285 [Pt id o,I node,.agg e.row] h (.bool (decide (0<=LA node l))) (put h id o u++t)/\Fm (if LA node l<0 then l else l.set (LA node l).toNat a) u:=by
 obtain⟨v,hc,hv⟩:=(show U5 h id o l from hs);rcases pG node l with h1|⟨k,hk,h1⟩
 .refine⟨v,[],e,rfl,?_,by rw[h1];exact hv⟩;have b:=hc.kg (Bx.UF hv);rw[Ag,jY,aBA,hc.same,A8];simp only[Cy,DH.EP,(f41 hc hv Ac node).Af,h1,(Az:(-1:Int)<0),AN,AO,AK,b];rfl
 .have hne:l≠[]:=by intro e;subst e;simp at hk
  have hcl:=aG1 (h:=h) hv hne Ac;have g:=(hc.L1 (t:=[GX.cells (l.map DH.row).flatten])).store (u:= .Du h.length 0 l.length 3) rfl;rw[iF hc] at g;obtain⟨a,oI,j⟩:=ĕ (h:=put h id o (.Du h.length 0 l.length 3)++[GX.cells (l.map DH.row).flatten]) he;obtain⟨r,x,p⟩:=hc.next (w:= .Du h.length 0 l.length 3) (X:= .cells (l.map DH.row).flatten) (Y:= .cells ((l.map DH.row).set k a.row).flatten);have f:=VX (z:=3) (iK l) r (i:=k) (by simpa using hk) (q:=a.row) rfl;rw[p] at f;have m:AE (.Hj 3) [.Du h.length 0 l.length 3,I (k:Int)]=some (Pt h.length (k*3)):=JH hk;have b:=hc.kh (o9 (iK l) (i:=k) (q:=a.row) rfl);rw[Ci,Aw] at b;refine⟨.sl 3 ((l.map DH.row).set k a.row),[.Ef],a,oI,?_,?_⟩;.rw[Ag,jY,aBA];simp only[Cy,DH.EP,DH.g0,DH.g1,DH.g2,DH.Wz,(f41 hc hv Ac node).Af,h1,(Ac:¬(k:Int)<0),AP,AO,AK,hc.load,BB,hcl.Af,g,x.load,j.Af,DJ,m,f,b,(Ac:(0:Int)<=(k:Int)),EY]
  .rw[h1,Aa Ac,BH,<-JW];exact .mk
end
end
def WG:List Bj->Ab
 |[]=> .slnil
 |x::l=> .sl 3 ((x::l).map Bj.row)
def Xl{l:List Bj}:BF l (WG l):=by cases l;exact .inr ⟨rfl,rfl⟩;exact .inl rfl
def ua{l:List Bj}{x:Bj}:WG (l++[x])= .sl 3 ((l++[x]).map Bj.row):=by cases l<;>rfl
structure PN where
 x:HK
 kv:Ab
 av:Ab
 ok:av=WG x.As
def PN.row(p:PN):List Ab:=[I p.x.kind,I p.x.GO,p.kv,I p.x.BM,I p.x.Bd,.str p.x.name,p.av,.str p.x.data,.str p.x.Lg,.str p.x.sys,.bool p.x.DX,I p.x.cont,I p.x.Fv]
def PN.EP{p:PN}:p.row.length=13:=rfl
def PN.zero:PN:=⟨{},.slnil,.slnil,rfl⟩
def pN(ps:List PN)(x:Int):PN:=ps.getD (x.toNat-1) PN.zero
def Di(n:Int):List Ab:=[I n]
def IY(l:List Int)(v:Ab):Prop:=Bx 1 (l.map Di) v
def KV(h:Ai)(kv:Ab)(l:List Int):Prop:=(kv= .slnil/\l=[])\/∃id cs,kv= .Du id 0 l.length 1/\h[id]?=some (.cells (l.map (Ab.int .i64)++cs))
def Ip:Ab->Option Nat
 | .Du id _ _ _=>some id
 |_=>none
def Zc(h:Ai)(m:Option Nat)(f:Int->Int):Prop:=(m=none/\∀k,f k=0)\/∃(id:Nat) (l:List (Int×Int)),m=some id/\h[id]?=some (.map (l.map λx:Int×Int=>(I x.1,I x.2)))/\∀k,(l.find? λx=>decide (k=x.1)).map (·.2)=if f k=0 then none else some (f k)
def Gm(a n:Nat)(m:Option Nat)(ps:List PN):List Nat:=a::n::(m.toList++ps.filterMap λp=>Ip p.kv)
structure PA(h:Ai)(a n:Nat)(m:Option Nat)(ps:List PN)(A:Ar):Prop where
 e:A.n=ps.map PN.x
 il:A.i.length=A.n.length
 ha:h[a]?=some (.cells [.Du n 0 ps.length 13,.map m])
 hn:h[n]?=some (.cells (ps.map PN.row).flatten)
 ks:∀p∈ps,KV h p.kv p.x.Bi
 nd:(Gm a n m ps).Nodup
 mp:Zc h m A.inr
structure FC(h:Ai)(F:Nat->Prop)(h':Ai)(F':Nat->Prop):Prop where
 len:h.length<=h'.length
 old:∀i,i<h.length->¬F i->h'[i]?=h[i]?
 BU:∀i,F' i->F i\/h.length<=i
section
variable{h h' h'' t:Ai}{F F' F'':Nat->Prop}
def FC.refl:FC h F h F:=⟨Ad _,λ_ _ _=>rfl,λ_ h=> .inl h⟩
def FC.trans(x:FC h F h' F')(y:FC h' F' h'' F''):FC h F h'' F'':=
 ⟨Bw x.len y.len,λi hi hF=>by
  rw[y.old i (JV hi x.len) (λh=>by rcases x.BU i h with h|h;exact hF h;omega)];exact x.old i hi hF,λi hi=>by
  rcases y.BU i hi with h|h
  .exact x.BU i h
  .exact .inr (Bw x.len h)⟩
def FC.L1:FC h F (h++t) F:=⟨AB,λi hi _=>Al hi,λ_ h=> .inl h⟩
end
def PW(h:Ai)(F:Nat->Prop)(a:Nat)(A:Ar):Prop:=∃n m ps,PA h a n m ps A/\∀i,F i↔i∈Gm a n m ps
section
variable{h h':Ai}{a n:Nat}{m:Option Nat}{ps:List PN}{A:Ar}{x:Int}{F:Nat->Prop}
def KV.FV{kv:Ab}{l:List Int}(hk:KV h kv l)(hf:∀id,Ip kv=some id->h'[id]?=h[id]?):KV h' kv l:=by
 rcases hk with⟨rfl,rfl⟩|⟨id,cs,rfl,hc⟩
 .exact .inl ⟨rfl,rfl⟩
 .exact .inr ⟨id,cs,rfl,by rw[hf id rfl];exact hc⟩
def Zc.FV{f:Int->Int}(hk:Zc h m f)(hf:∀id,m=some id->h'[id]?=h[id]?):Zc h' m f:=by
 rcases hk with h1|⟨id,l,rfl,hc,h2⟩
 .exact .inl h1
 .exact .inr ⟨id,l,rfl,by rw[hf id rfl];exact hc,h2⟩
def Mh{p:PN}{id:Nat}(hp:p∈ps)(hk:Ip p.kv=some id):id∈Gm a n m ps:=by unfold Gm;simp only[AF,Ao];exact .inr (.inr (.inr (Cs.2 ⟨p,hp,hk⟩)))
def PA.FV(w:PA h a n m ps A)(hf:∀i∈Gm a n m ps,h'[i]?=h[i]?):PA h' a n m ps A:=
 ⟨w.e,w.il,by rw[hf a (by simp[Gm])];exact w.ha,by rw[hf n (by simp[Gm])];exact w.hn,λp hp=>(w.ks p hp).FV λid hk=>hf id (Mh hp hk),w.nd,w.mp.FV λid hm=>hf id (by simp[Gm,hm])⟩
def PA.lt(w:PA h a n m ps A):∀i∈Gm a n m ps,i<h.length:=by
 intro i hi;unfold Gm at hi;simp only[AF,Ao,Cs] at hi;rcases hi with rfl|rfl|hi|⟨p,hp,hk⟩
 .exact(Aj.1 w.ha).1
 .exact(Aj.1 w.hn).1
 .rcases w.mp with⟨rfl,_⟩|⟨id,l,rfl,hc,_⟩
  .simp at hi
  .simp at hi;subst hi;exact(Aj.1 hc).1
 .rcases w.ks p hp with⟨e,_⟩|⟨id,cs,e,hc⟩
  .rw[e] at hk;cases hk
  .rw[e] at hk;cases hk;exact(Aj.1 hc).1
def PW.FV(w:PW h F a A)(hf:∀i,F i->h'[i]?=h[i]?):PW h' F a A:=by obtain⟨n,m,ps,w,e⟩:=w;exact⟨n,m,ps,w.FV λi hi=>hf i ((e i).2 hi),e⟩
def PW.lt(w:PW h F a A){i:Nat}(hi:F i):i<h.length:=by obtain⟨n,m,ps,w,e⟩:=w;exact w.lt i ((e i).1 hi)
def PA.ė(w:PA h a n m ps A):A.n.length=ps.length:=by rw[w.e,Aw]
def PA.at(w:PA h a n m ps A)(hx:A.has x):x.toNat-1<ps.length/\((x.toNat-1:Nat):Int)=x-1:=by have:=w.ė;unfold Ar.has at hx;omega
def PA.pn(w:PA h a n m ps A)(hx:A.has x):ps[x.toNat-1]?=some (pN ps x)/\(pN ps x).x=A.nd x/\pN ps x∈ps:=by
 have h1:=(w.at hx).1;have h2:ps[x.toNat-1]?=some ps[x.toNat-1]:=Av h1;have h3:pN ps x=ps[x.toNat-1]:=by unfold pN;rw[AL,h2];rfl
 refine⟨by rw[h3];exact h2,?_,by rw[h3];exact AG _⟩;unfold Ar.nd;rw[Ae hx,w.e,h3,AL,Dt,h2];rfl
def Zd{Ay:List (List Ab)}{z i k:Nat}(hr:∀r∈Ay,r.length=z)(hk:k<z){r:List Ab}(hi:Ay[i]?=some r):Ay.flatten[i*z+k]?=r[k]?:=by
 have h1:(Ay.flatten.drop (i*z))[k]?=r[k]?:=by rw[JG hr];obtain⟨hlt,e⟩:=Aj.1 hi;rw[AA hlt,e,CS,Al (by rw[hr r (e▸AG hlt)];exact hk)]
 rwa [CE] at h1
def pZ(l:List PN):∀r∈l.map PN.row,r.length=13:=OQ (f:=PN.row) (λ_=>PN.EP) l
def nP(n:Nat)(x:Int):Nat:=(x.toNat-1)*13
def PA.Ck(w:PA h a n m ps A)(hx:A.has x){k:Nat}(hk:k<13):Bp h none (Pt n (nP n x+k))=(pN ps x).row[k]?:=by unfold nP;simp only[Bp,w.hn,Jh];exact Zd (pZ ps) hk (by rw[Dt,(w.pn hx).1];rfl)
def WH(w:PA h a n m ps A):CD cx 22 [Pt a 0,I x] h (.bool (decide (A.has x))) h:=by
 have d:Bp h none (Pt a 0)=some (.Du n 0 ps.length 13):=by simp only[Bp,w.ha];rfl
 have c:AE (.len false) [.Du n 0 ps.length 13]=some (I (ps.length:Int)):=rfl;rw[Ag,ç,t22];simp only[abS,d,c];have hl:=w.ė;have b:A.has x↔1<=x/\x<=(ps.length:Int):=by unfold Ar.has;rw[hl]
 refine⟨λh1=>?_,λh1=>?_⟩;.congr 2;rw[Fy,b];exact⟨λh=>⟨h1,h⟩,λh=>h.2⟩
 .rw[Ap (λh=>h1 (b.1 h).1)]
def PA.nodes(w:PA h a n m ps A):Bp h none (Pt a 0)=some (.Du n 0 ps.length 13):=by simp only[Bp,w.ha];rfl
def PA.len(w:PA h a n m ps A):((ps.length:Nat):Int)=A.len:=by unfold Ar.len;rw[w.ė]
def aDh(w:PA h a n m ps A){l:List Int}{v:Ab}(hv:IY l v)(hb:l.length<=1000):CD cx 25 [Pt a 0,v] h (I (if∀x∈l,A.has x then 0 else 3)) h:=by
 have hv:Bx 1 (l.map Di) v:=hv;rw[Ag,è,t25];simp only[abS,hv.GN];refine Cv (λk:Nat=>[I 0,I (k:Int)]) (λk h1=>k<=l.length/\(∀x∈l.take k,A.has x)/\h1=h) (λk=>l.length-k) 0 rfl ⟨Bn _,AB,rfl⟩ ?_;rintro k h1 ⟨hk,ha,rfl⟩;rcases Bm k l.length with hlt|JA
 .have i1:(k:Int)<(l.length:Int):=by omega
  have b:Bp h1 none (.Cd (Di l[k]))=some (I l[k]):=rfl;simp only[Cy,hZ,i1,hv.DN hlt,b,(WH (x:=l[k]) w).Af,DB (Ac:k<9223372036854775807)];rw[DE];refine⟨λh2=>?_,λh2=>?_⟩
  .have h2:¬A.has l[k]:=by simpa using h2
   rw[Aa (λh3=>h2 (h3 _ (AG hlt)))]
  .have h2:A.has l[k]:=by simpa using h2
   refine By.next (k+1) rfl ⟨hlt,?_,rfl⟩ Ac;intro x hx;rw[Bb hlt,Ao,Bv] at hx;rcases hx with hx|rfl
   .exact ha x hx
   .exact h2
 .have i1:¬(k:Int)<(l.length:Int):=by omega
  rw[Bf JA] at ha;simp only[abS,i1,Ae ha]
def SS(w:PA h a n m ps A):CD cx 25 [Pt a 0,.sl 1 [[I x]]] h (I (if A.has x then 0 else 3)) h:=by have:=aDh w (l:=[x]) (v:= .sl 1 [[I x]]) .mk AB;simpa using this
def MG{y:Int}(w:PA h a n m ps A):CD cx 25 [Pt a 0,.sl 1 [[I x],[I y]]] h (I (if A.has x/\A.has y then 0 else 3)) h:=by have:=aDh w (l:=[x,y]) (v:= .sl 1 [[I x],[I y]]) .mk AB;simpa using this
def Hh{x:Int}:AE (.Cb 1) [I x]=some (.sl 1 [[I x]]):=rfl
def Gb{x y:Int}:AE (.Cb 1) [I x,I y]=some (.sl 1 [[I x],[I y]]):=rfl
def NN.of(b:NN A)(hx:A.has x):1<=x/\x<=1000000000:=by have:=b.n;unfold Ar.has at hx;omega
def Jo(w:PA h a n m ps A)(b:NN A)(hx:A.has x):CD cx 24 [Pt a 0,I x] h (Pt n (nP n x)) h:=by
 have hr:=b.of hx;have d:=(w.at hx).2;have c:AE (.Hj 13) [.Du n 0 ps.length 13,I (x-1)]=some (Pt n (nP n x)):=by rw[<-d];exact JH (w.at hx).1
 rw[Ag,vT,t24];simp only[abS,w.nodes,Ek (Ac: -9223372036854775808<=x-1) (Ac:x-1<9223372036854775808),c]
def PA.f0(w:PA h a n m ps A)(hx:A.has x):Bp h none (Pt n (nP n x))=some (I (A.nd x).kind):=by have:=w.Ck hx (k:=0) Az;rw[<-(w.pn hx).2.1];exact this
def PA.f1(w:PA h a n m ps A)(hx:A.has x):Bp h none (Pt n (nP n x+1))=some (I (A.nd x).GO):=by have:=w.Ck hx (k:=1) Az;rw[<-(w.pn hx).2.1];exact this
def PA.f2(w:PA h a n m ps A)(hx:A.has x):Bp h none (Pt n (nP n x+2))=some (pN ps x).kv:=by have:=w.Ck hx (k:=2) Az;exact this
def PA.f4(w:PA h a n m ps A)(hx:A.has x):Bp h none (Pt n (nP n x+4))=some (I (A.nd x).Bd):=by have:=w.Ck hx (k:=4) Az;rw[<-(w.pn hx).2.1];exact this
def PA.f5(w:PA h a n m ps A)(hx:A.has x):Bp h none (Pt n (nP n x+5))=some (.str (A.nd x).name):=by have:=w.Ck hx (k:=5) Az;rw[<-(w.pn hx).2.1];exact this
def PA.f6(w:PA h a n m ps A)(hx:A.has x):Bp h none (Pt n (nP n x+6))=some (pN ps x).av:=by have:=w.Ck hx (k:=6) Az;exact this
def PA.Ok(w:PA h a n m ps A)(hx:A.has x):KV h (pN ps x).kv (A.nd x).Bi:=by rw[<-(w.pn hx).2.1];exact w.ks _ (w.pn hx).2.2
def PA.att(w:PA h a n m ps A)(hx:A.has x):(pN ps x).av=WG (A.nd x).As:=by rw[<-(w.pn hx).2.1];exact(pN ps x).ok
def PA.row(w:PA h a n m ps A)(hx:A.has x):Bp h (some 13) (Pt n (nP n x))=some (.agg (pN ps x).row):=by
 have h1:((ps.map PN.row).flatten.drop (nP n x)).take 13=(pN ps x).row/\nP n x+13<=(ps.map PN.row).flatten.length:=by unfold nP;have hlt:=(w.at hx).1;have hg:=(w.pn hx).1;rw[JG (pZ ps),IB (pZ ps),Aw];refine⟨?_,Ac⟩;rw[<-Mu,AA hlt,AV,CS];rw[Av hlt,BO] at hg;rw[hg];exact Kc PN.EP
 simp only[Bp,w.hn,N3];rw[Ae h1.2,h1.1]
def Ot:∀{l:List Int} {cs J4:List Ab},CI (J4++(l.map (Ab.int .i64)++cs)) 1 J4.length l.length=l.map Di
 |[],_,_=>rfl
 |x::l,cs,J4=>by have:=Ot (l:=l) (cs:=cs) (J4:=J4++[I x]);simp only[A7,An,AQ] at this;simp only[AV,AJ,CI,BD];rw[My rfl];simp only[BD,Bq] at this;rw[this];rfl
def KV.Ay{kv:Ab}{l:List Int}(hk:KV h kv l):Ij h 1 kv=some (l.map Di):=by
 rcases hk with⟨rfl,rfl⟩|⟨id,cs,rfl,hc⟩
 .rfl
 .have:=Ot (l:=l) (cs:=cs) (J4:=[]);simp only[Bq,AZ] at this;simp only[Ij,BN,hc,this];rw[Ae AB]
def KV.len{kv:Ab}{l:List Int}(hk:KV h kv l):AE (.len false) [kv]=some (I (l.length:Int)):=by rcases hk with⟨rfl,rfl⟩|⟨id,cs,rfl,hc⟩<;>rfl
def aDi{kv:Ab}{l:List Int}(hk:KV h kv l)(hb:l.length<=1000000000):∃v,CD cx 23 [kv] h v h/\IY l v:=by
 have hr:=hk.Ay;rcases hk with⟨rfl,rfl⟩|⟨id,cs,rfl,hc⟩
 .exact⟨.slnil,by rw[Ag,vS,t23];simp only[Cy,show AE (.Gs false .sl) [.slnil,.slnil]=some (.bool true) from rfl],.inr ⟨rfl,rfl⟩⟩
 .refine⟨.sl 1 (l.map Di),?_,.mk⟩;have b:R4 h 1 8 (.sl 1 []) (.Du id 0 l.length 1)=some (.sl 1 (l.map Di)):=by
   unfold R4;rw[hr,Cx];cases l with
   |nil=>rfl
   |cons x l=>
    have:(x::l).length*8<=AY:=by have:AY=140737488355328:=rfl;omega
    simp only[AV,D2,AJ,Aw,AZ] at this⊢;rw[Ae ⟨trivial,by simpa using this⟩];rfl
  rw[Ag,vS,t23];simp only[Cy,show AE (.Gs false .sl) [.Du id 0 l.length 1,.slnil]=some (.bool false) from rfl,show AE (.Cb 1) []=some (.sl 1 []) from rfl,b]
def L2(h:Ai)(v:Ab)(l:List Bj):Prop:=(v= .slnil/\l=[])\/∃id,v= .Du id 0 l.length 3/\h[id]?=some (.cells (l.map Bj.row).flatten)/\id<h.length
def L2.cells{v:Ab}{l:List Bj}(hv:L2 h v l):v.cells=[v]:=by rcases hv with⟨rfl,_⟩|⟨id,rfl,_,_⟩<;>rfl
structure T9(h:Ai)(v:Ab)(l:List Bj):Prop where
 len:AE (.len false) [v]=some (I (l.length:Int))
 at_:∀k (hk:k<l.length),∃p,AE (.Hj 3) [v,I (k:Int)]=some p/\Bp h (some 3) p=some (.agg l[k].row)
def p8{v:Ab}{l:List Bj}(hv:BF l v):T9 h v l:=⟨Bx.GN hv,λk hk=>⟨_,Bx.DN hv hk,rfl⟩⟩
def aG2(l:List Bj):∀r∈l.map Bj.row,r.length=3:=OQ (f:=Bj.row) (λ_=>rfl) l
def L2.in_{v:Ab}{l:List Bj}(hv:L2 h v l):T9 h v l:=by
 rcases hv with⟨rfl,rfl⟩|⟨id,rfl,hc,_⟩
 .exact⟨rfl,λk hk=>by simp at hk⟩
 .refine⟨rfl,λk hk=>⟨Pt id (k*3),JH hk,?_⟩⟩;simp only[Bp,hc,N3];rw[Ae (by rw[IB (aG2 l),Aw];omega),JG (aG2 l),<-Mu,AA hk,AV,CS];rfl
def Up(N:Nat)(v:Ab):Prop:=∀id k,v= .Du id 0 k 3->N<=id
def Ę{v:Ab}{l:List Bj}(hv:v=WG l)(hb:l.length<=1000000000):∃u t,CD cx 100035 [v] h u (h++t)/\L2 (h++t) u l/\Up h.length u:=by
 cases l with
 |nil=>refine⟨.slnil,[],?_,.inl ⟨rfl,rfl⟩,λ_ _ e=>nomatch e⟩;rw[A8,Ag,SP,Xh,hv];simp only[Cy,WG,show AE (.Gs false .sl) [.slnil,.slnil]=some (.bool true) from rfl]
 |cons x l=>have e:=QQ (h:=h) (s:= .sl 3 []) (z:=3) (b:=40) (.inr rfl) (Bx.mk (z:=3) (Ay:=(x::l).map Bj.row)) AB (by rw[Aw];have:AY=140737488355328:=rfl;omega);rw[Aw] at e;refine⟨.Du h.length 0 (x::l).length 3,[.cells ((x::l).map Bj.row).flatten],?_,.inr ⟨h.length,rfl,AB,AB⟩,λ_ _ e=>by injection e with e;omega⟩;rw[Ag,SP,Xh,hv];simp only[Cy,WG,show AE (.Gs false .sl) [.sl 3 ((x::l).map Bj.row),.slnil]=some (.bool false) from rfl,show AE (.Cb 3) []=some (.sl 3 []) from rfl,e]
def aKl(h:Ai)(N:Nat)(x:HK)(r:List Ab):Prop:=∃K V,r=[I x.kind,I x.GO,K,I x.BM,I x.Bd,.str x.name,V,.str x.data,.str x.Lg,.str x.sys,.bool x.DX,I x.cont,I x.Fv]/\IY x.Bi K/\L2 h V x.As/\Up N V
def aKm(w:PA h a n m ps A)(f:NN A)(hx:A.has x)(b:(A.nd x).Bi.length<=1000000000):∃r t,CD cx 26 [Pt n (nP n x)] h (.agg r) (h++t)/\aKl (h++t) h.length (A.nd x) r:=by obtain⟨K,e,d⟩:=aDi (w.Ok hx) b;obtain⟨V,t,r2,c,g⟩:=Ę (h:=h) (w.att hx) (f.at_ x);refine⟨_,t,?_,K,V,rfl,d,c,g⟩;have hc:K.cells=[K]:=Bx.cells d;have e0:=w.row hx;have i:(pN ps x).row=_:=rfl;have ex:=(w.pn hx).2.1;rw[Ag,é,t26];rw[PN.row,ex] at e0;simp only[abS,e0,w.f2 hx,w.f6 hx,e.Af,DJ,r2.Af,hc,c.cells]
def ę(w:PA h a n m ps A)(c:NN A)(b:(A.nd x).Bi.length<=1000000000):∃r t,CD cx 13 [Pt a 0,I x] h (.tuple [.agg r,I (if A.has x then 0 else 3)]) (h++t)/\aKl (h++t) h.length (A.nd x) r:=by
 by_cases hx:A.has x;.obtain⟨r,t,d,hr⟩:=aKm w c hx b;have Ib:=hr;obtain⟨K,V,rfl,_⟩:=hr;refine⟨_,t,?_,Ib⟩;rw[Ag,vR,t13];simp only[abS,↓reduceIte,Cl,Hh,(SS (x:=x) w).Af,Ae hx,CP,CG,(Jo w c hx).Af,d.Af]
 .refine⟨_,[],?_,.slnil,.slnil,by rw[OV hx],by rw[OV hx];exact .inr ⟨rfl,rfl⟩,by rw[OV hx];exact .inl ⟨rfl,rfl⟩,λ_ _ e=>nomatch e⟩;rw[Ag,vR,t13,A8];simp only[abS,↓reduceIte,Cl,Hh,(SS (x:=x) w).Af,Aa hx,CP,(Az:¬(3:Int)=0),EY]
def ki(w:PA h a n m ps A)(d:NN A)(b:(A.nd x).Bi.length<=1000000000):∃v,CD cx 12 [Pt a 0,I x] h v h/\IY (A.nd x).Bi v:=by
 by_cases hx:A.has x;.obtain⟨K,c,e⟩:=aDi (w.Ok hx) b;refine⟨K,?_,e⟩;rw[Ag,vQ,t12];simp only[abS,(WH (x:=x) w).Af,Ak hx,(Jo w d hx).Af,w.f2 hx,c.Af]
 .refine⟨.slnil,?_,by rw[OV hx];exact .inr ⟨rfl,rfl⟩⟩;rw[Ag,vQ,t12];simp only[abS,(WH (x:=x) w).Af,Ap hx]
def aKn(w:PA h a n m ps A)(b:NN A):CD cx 234 [Pt a 0,I x] h (I (A.nd x).GO) h:=by
 by_cases hx:A.has x;.rw[Ag,jT,aBu];simp only[abS,(WH (x:=x) w).Af,Ak hx,(Jo w b hx).Af,w.f1 hx]
 .rw[Ag,jT,aBu,OV hx];simp only[abS,(WH (x:=x) w).Af,Ap hx]
def p9(w:PA h a n m ps A)(b:NN A):CD cx 107 [Pt a 0,I x] h (I (if A.has x then(if(A.nd x).kind=1 then 0 else 9) else 3)) h:=by
 rw[Ag,a_,aFb];by_cases hx:A.has x
 .simp only[abS,Hh,(SS (x:=x) w).Af,Ae hx,CP,CG,(Jo w b hx).Af,w.f0 hx];by_cases hk:(A.nd x).kind=1;.simp only[hk,abS,CG]
  .simp only[hk,abS]
 .simp only[abS,Hh,(SS (x:=x) w).Af,Aa hx,CP,(Az:¬(3:Int)=0)]
def Ě{l:List PN}:(l.map PN.row).flatten.length=l.length*13:=by rw[IB (pZ l),Aw]
def qC{p:PN}{n':Nat}(hk:Ip p.kv=none):Gm a n' m (ps++[p])=a::n'::(m.toList++ps.filterMap λp=>Ip p.kv):=by unfold Gm;rw[E1];simp[hk]
def ě{x:HK}(hl:A.i.length=A.n.length):(A.add x).inr=A.inr:=by funext k;exact W0 hl
def Ĝ(w:PA h a n m ps A)(hb:ps.length+1<=1000000000)(p:PN)(hk:p.kv= .slnil)(zu:p.x.Bi=[]):
  ∃h',CD cx 38 [Pt a 0,.agg p.row] h (I (A.len+1)) h'/\PA h' a h.length m (ps++[p]) (A.add p.x)/\(∀i,i<h.length->i≠a->i≠n->h'[i]?=h[i]?)/\h'.length=h.length+1:=by
 have WV:a<h.length:=w.lt a (by simp[Gm]);have RS:n<h.length:=w.lt n (by simp[Gm]);have g:a≠n:=by have:=w.nd;simp[Gm] at this;exact this.1.1
 have c:=SH (h:=h) (id:=n) (Ay:=ps.map PN.row) (r2:=[p.row]) (v:= .sl 13 [p.row]) (b:=168) (pZ ps) Az w.hn .mk AB (by rw[Aw];have:AY=140737488355328:=rfl;simp;omega);rw[Aw] at c;simp only[AQ] at c;have UR:(h.set n .Ef++[GX.cells (ps.map PN.row++[p.row]).flatten])[a]?=some (.cells [.Du n 0 ps.length 13,.map m]):=by rw[Al (by simpa using WV),Aq (C3 g)];exact w.ha
 have es:Dd (h.set n .Ef++[GX.cells (ps.map PN.row++[p.row]).flatten]) 1 (Pt a 0) (.Du h.length 0 (ps.length+1) 13)=some ((h.set n .Ef++[GX.cells (ps.map PN.row++[p.row]).flatten]).set a (.cells [.Du h.length 0 (ps.length+1) 13,.map m])):=by simp only[Dd,UR];rfl
 have el:Bp ((h.set n .Ef++[GX.cells (ps.map PN.row++[p.row]).flatten]).set a (.cells [.Du h.length 0 (ps.length+1) 13,.map m])) none (Pt a 0)=some (.Du h.length 0 (ps.length+1) 13):=by simp only[Bp];rw[AI EE];rfl
 have k:AE (.len false) [.Du h.length 0 (ps.length+1) 13]=some (I ((ps.length+1:Nat):Int)):=rfl;have em:AE (.Cb 13) [.agg p.row]=some (.sl 13 [p.row]):=YK (a:= .agg p.row) rfl Az;refine⟨(h.set n .Ef++[GX.cells (ps.map PN.row++[p.row]).flatten]).set a (.cells [.Du h.length 0 (ps.length+1) 13,.map m]),?_,?_,?_,?_⟩;rotate_left
 .refine⟨by simp[Ar.add,w.e],by simp[Ar.add,w.il],?_,?_,?_,?_,?_⟩;.rw[AI EE];simp
  .rw[Aq Ac,Bu AB];simp
  .intro q hq;rcases Ao.1 hq with hq|hq
   .refine(w.ks q hq).FV λid JB=>?_;have h1:id∈Gm a n m ps:=Mh hq JB;have h2:=w.lt id h1;have h3:=w.nd;have j:id∈m.toList++ps.filterMap λp=>Ip p.kv:=Ao.2 (.inr (Cs.2 ⟨q,hq,JB⟩));unfold Gm at h3;simp only[Ca,AF,P5] at h3;have f:a≠id:=λe=>h3.1.2 (e▸j);have d:n≠id:=λe=>h3.2.1 (e▸j);rw[Aq f,Al (by simpa using h2),Aq d]
   .simp at hq;subst hq;exact .inl ⟨hk,zu⟩
  .rw[qC (by rw[hk];rfl)];have h3:=w.nd;unfold Gm at h3;simp only[Ca,AF,P5] at h3⊢;refine⟨⟨Ac,h3.1.2⟩,λhm=>?_,h3.2.2⟩;have:=w.lt h.length (by unfold Gm;simp only[AF];exact .inr (.inr hm));omega
  .rw[ě w.il];refine w.mp.FV λid JB=>?_;have h1:id∈m.toList++ps.filterMap λp=>Ip p.kv:=by simp[JB]
   have h2:=w.lt id (by unfold Gm;simp only[AF];exact .inr (.inr h1));have h3:=w.nd;unfold Gm at h3;simp only[Ca,AF,P5] at h3;have f:a≠id:=λe=>h3.1.2 (e▸h1);have d:n≠id:=λe=>h3.2.1 (e▸h1);rw[Aq f,Al (by simpa using h2),Aq d]
 .intro i hi h1 h2;rw[Aq (C3 h1),Al (by simpa using hi),Aq (C3 h2)]
 .simp
 .have hl:A.len+1=((ps.length+1:Nat):Int):=by rw[<-w.len];rfl
  rw[PN.row] at em c es el;rw[Ag,vW,t38,hl,PN.row];simp only[abS,Nat.reduceLeDiff,↓reduceIte,Cl,w.nodes,em,c,es,el,k]
def dZ{Ay:List (List Ab)}{z i k:Nat}(hr:∀r∈Ay,r.length=z)(hi:i<Ay.length)(hk:k<z){v:Ab}:Ay.flatten.take (i*z+k)++[v]++Ay.flatten.drop (i*z+k+1)=(Ay.set i (Ay[i].set k v)).flatten:=by
 have hl:=hr _ (AG hi);rw[<-o8 hr hi];have b:Ay.flatten.drop (i*z)=Ay[i]++Ay.flatten.drop (i*z+z):=by
  have e:i*z+z=(i+1)*z:=by rw[BK,EW]
  rw[e,JG hr,JG hr,AA hi,CS]
 have d:Ay.flatten.take (i*z+k)=Ay.flatten.take (i*z)++Ay[i].take k:=by rw[aCt,b,Bk Ac]
 have c:Ay.flatten.drop (i*z+k+1)=Ay[i].drop (k+1)++Ay.flatten.drop (i*z+z):=by rw[S7,<-Ez,b,Pd Ac]
 rw[d,c,Cc,Ae Ac];simp
def PA.sto(w:PA h a n m ps A)(hx:A.has x){k:Nat}(hk:k<13){v:Ab}(hv:v.cells=[v]){p:PN}(hp:p.row=(pN ps x).row.set k v){h1:Ai}(hn:h1[n]?=h[n]?):
  Dd h1 1 (Pt n (nP n x+k)) v=some (h1.set n (.cells ((ps.set (x.toNat-1) p).map PN.row).flatten)):=by
 have hlt:=(w.at hx).1;have hg:=(w.pn hx).1;rw[Av hlt,BO] at hg;have e:=dZ (Ay:=ps.map PN.row) (i:=x.toNat-1) (k:=k) (v:=v) (pZ ps) (by simpa using hlt) hk;rw[Ei,hg,<-hp,<-JW] at e;unfold nP;simp only[Dd,hn,w.hn,hv,AQ,GV];rw[Ae (by rw[IB (pZ ps),Aw];omega),e]
def Ze(w:PA h a n m ps A)(hx:A.has x)(p:PN):ps=ps.take (x.toNat-1)++pN ps x::ps.drop (x.toNat-1+1)/\ps.set (x.toNat-1) p=ps.take (x.toNat-1)++p::ps.drop (x.toNat-1+1):=by have hlt:=(w.at hx).1;have hg:=(w.pn hx).1;rw[Av hlt,BO] at hg;refine⟨?_,by rw[Cc,Ae hlt]⟩;conv=>lhs;rw[<-Br (x.toNat-1) ps,AA hlt,hg]
def ĝ{y:HK}:(A.set x y).inr=A.inr:=by funext k;exact TU
def PA.xd(w:PA h a n m ps A)(hx:A.has x){p:PN}{h1:Ai}(ho:∀i∈Gm a n m ps,Ip (pN ps x).kv≠some i->h1[i]?=h[i]?)(hk:KV h1 p.kv p.x.Bi)
  (hi:Ip p.kv=Ip (pN ps x).kv\/∀j,Ip p.kv=some j->h.length<=j):PA (h1.set n (.cells ((ps.set (x.toNat-1) p).map PN.row).flatten)) a n m (ps.set (x.toNat-1) p) (A.set x p.x):=by
 have hlt:=(w.at hx).1;have aBI:=(w.pn hx).2.2;obtain⟨C,E⟩:=Ze w hx p;have nd:=w.nd;have l:∀j,Ip (pN ps x).kv=some j->j∈m.toList++ps.filterMap λp=>Ip p.kv:=λj hj=>Ao.2 (.inr (Cs.2 ⟨_,aBI,hj⟩));have kF:=nd;unfold Gm at kF;simp only[Ca,AF,P5] at kF;have v:a≠n:=kF.1.1;have o:Ip (pN ps x).kv≠some a:=λe=>kF.1.2 (l a e);have g:Ip (pN ps x).kv≠some n:=λe=>kF.2.1 (l n e);have RS:n<h.length:=w.lt n (by simp[Gm]);have z:h1[n]?=h[n]?:=ho n (by simp[Gm]) g;have B:n<h1.length:=by have:=w.hn;rw[<-z] at this;exact(Aj.1 this).1
 have t:∀j,Ip p.kv=some j->j≠n/\j≠a:=by
  intro j hj;rcases hi with hi|hi
  .rw[hi] at hj;exact⟨λe=>g (e▸hj),λe=>o (e▸hj)⟩
  .have:=hi j hj;have:=w.lt a (by simp[Gm]);omega
 refine⟨?_,?_,?_,?_,?_,?_,?_⟩;.simp only[Ar.set,Ae hx];rw[w.e,JW]
 .rw[J6];exact w.il
 .rw[Aq (C3 v),ho a (by simp[Gm]) o,Ci];exact w.ha
 .rw[AI B]
 .intro q hq;by_cases d:q=p;.rw[d];exact hk.FV λid JB=>by rw[Aq (C3 (t id JB).1)]
  .rw[E] at hq;have f:q∈ps.take (x.toNat-1)++ps.drop (x.toNat-1+1):=by
    rcases Ao.1 hq with b|b
    .exact Ao.2 (.inl b)
    .exact Ao.2 (.inr ((AF.1 b).resolve_left d))
   have c:q∈ps:=by
    rcases Ao.1 f with b|b
    .exact A9 b
    .exact A6 b
   refine(w.ks q c).FV λj hj=>?_;have r:j∈Gm a n m ps:=Mh c hj;have y:j≠n:=λe=>kF.2.1 (e▸Ao.2 (.inr (Cs.2 ⟨q,c,hj⟩)));have eA:Ip (pN ps x).kv≠some j:=by
    intro u;have s:=(BY.1 kF.2.2).2.1;rw[C,E1,I8,u] at s;simp only[BY,Ca,AF,Cs] at s;rcases Ao.1 f with b|b
    .exact s.2.2 j ⟨q,b,hj⟩ j (.inl rfl) rfl
    .exact s.2.1.1 ⟨q,b,hj⟩
   rw[Aq (C3 y),ho j r eA]
 .have fr:∀j,Ip p.kv=some j->Ip (pN ps x).kv=some j\/j∉Gm a n m ps:=by
   intro j hj;rcases hi with hi|hi
   .exact .inl (hi▸hj)
   .exact .inr λhm=>by have:=hi j hj;have:=w.lt j hm;omega
  have h1:=nd;unfold Gm at h1 fr⊢;rw[C,E1,I8] at h1;rw[C,E1,I8] at fr;rw[E,E1,I8];generalize List.filterMap (λp=>Ip p.kv) (ps.take (x.toNat-1))=T at h1 fr⊢;generalize List.filterMap (λp=>Ip p.kv) (ps.drop (x.toNat-1+1))=D at h1 fr⊢;cases hp:Ip p.kv with
  |none=>
   cases ho:Ip (pN ps x).kv with
   |none=>rw[ho] at h1;exact h1
   |some k=>rw[ho] at h1;refine h1.sublist ?_;simp
  |some j=>
   have:=fr j hp;cases ho:Ip (pN ps x).kv with
   |none=>rw[ho] at h1 this;simp only[Ca,BY,AF,Ao] at h1 this⊢;grind
   |some k=>rw[ho] at h1 this;simp only[Ca,BY,AF,Ao] at h1 this⊢;grind
 .rw[ĝ];refine w.mp.FV λid JB=>?_;have r:id∈m.toList++ps.filterMap λp=>Ip p.kv:=by simp[JB]
  have y:n≠id:=λe=>kF.2.1 (e▸r);have eA:Ip (pN ps x).kv≠some id:=by intro Z8;exact(BY.1 kF.2.2).2.2 id (by simp[JB]) id (Cs.2 ⟨_,aBI,Z8⟩) rfl
  rw[Aq y,ho id (by unfold Gm;simp only[AF];exact .inr (.inr r)) eA]
def PA.pw(w:PA h a n m ps A):PW h (λi=>i∈Gm a n m ps) a A:=⟨n,m,ps,w,λ_=>aH9⟩
def NN.add{y:HK}(b:NN A)(h1:A.len+1<=1000000000)(h2:y.As.length<=1000000000)(h3:y.data.length<=1000000000):NN (A.add y):=by
 refine⟨?_,λx=>?_,λx=>?_⟩;.unfold Ar.len at h1;simp[Ar.add];omega
 .rw[Jj];split;.exact h2
  .exact b.at_ x
 .rw[Jj];split;.exact h3
  .exact b.data x
def NN.set{y:HK}(b:NN A)(h2:y.As.length<=1000000000)(h3:y.data.length<=1000000000):NN (A.set x y):=by
 refine⟨by rw[J6];exact b.n,λx=>?_,λx=>?_⟩<;>rw[IS]<;>split;.exact h2
 .exact b.at_ x
 .exact h3
 .exact b.data x
def aBJ{x y:HK}:(A.add x).set (A.len+1) y=A.add y:=by unfold Ar.set;rw[Ae (DO.2 (.inr rfl))];unfold Ar.add Ar.len;have e:((A.n.length:Int)+1).toNat-1=A.n.length:=Ac;simp only[e];rw[Ce _ _ (Ad _),Fh];rfl
def kj{p:PN}(w:PA h a n m ps A)(hx:A.has x)(hk:Ip p.kv=Ip (pN ps x).kv):Gm a n m (ps.set (x.toNat-1) p)=Gm a n m ps:=by obtain⟨c,b⟩:=Ze w hx p;unfold Gm;rw[b,E1,I8,hk];conv=>rhs;rw[c,E1,I8]
def PA.wr(w:PA h a n m ps A)(hx:A.has x){k:Nat}(hk:k<13){v:Ab}(hv:v.cells=[v]){p:PN}(hp:p.row=(pN ps x).row.set k v)(h1:p.kv=(pN ps x).kv)(h2:p.x.Bi=(A.nd x).Bi):
  ∃h',Dd h 1 (Pt n (nP n x+k)) v=some h'/\PA h' a n m (ps.set (x.toNat-1) p) (A.set x p.x)/\Gm a n m (ps.set (x.toNat-1) p)=Gm a n m ps/\(∀i,i≠n->h'[i]?=h[i]?)/\h'.length=h.length:=by
 refine⟨_,w.sto hx hk hv hp rfl,w.xd hx (λi _ _=>rfl) (by rw[h1,h2];exact w.Ok hx) (.inl (by rw[h1])),kj w hx (by rw[h1]),λi hi=>by rw[Aq (C3 hi)],Ci⟩
def PA.kq(w:PA h a n m ps A){h1:Ai}{PV:List PN}{A':Ar}(w':PA h1 a n m PV A')(hi:Gm a n m PV=Gm a n m ps)(ho:∀i,i≠n->h1[i]?=h[i]?)(hl:h1.length=h.length):FC h (λi=>i∈Gm a n m ps) h1 (λi=>i∈Gm a n m PV):=
 ⟨Ac,λi _ hn=>ho i (λe=>hn (by rw[e];simp[Gm])),λi cQ=> .inl (by rwa [hi] at cQ)⟩
def Ln(q:Bool)(d:Int):PN:=⟨{kind:=1,DX:=q,BM:=d},.slnil,.slnil,rfl⟩
def aPk(w:PA h a n m ps A)(l:NN A)(hb:A.len+1<=1000000000)(q:Bool):
  ∃h',CD cx 32 [Pt a 0,.bool q] h (I (A.len+1)) h'/\PA h' a h.length m (ps++[Ln q (A.len+1)]) (A.add {kind:=1,DX:=q,BM:=A.len+1})/\(∀i,i<h.length->i≠a->i≠n->h'[i]?=h[i]?)/\h'.length=h.length+1:=by
 have sE:=w.len;obtain⟨h1,f,w1,j,l1⟩:=Ĝ w Ac (Ln q 0) rfl rfl;have d:=l.add (y:=(Ln q 0).x) hb (by simp[Ln]) (by simp[Ln]);have hx:(A.add (Ln q 0).x).has (A.len+1):=DO.2 (.inr rfl);have hlen:(A.len+1).toNat-1=ps.length:=Ac;have b:pN (ps++[Ln q 0]) (A.len+1)=Ln q 0:=by unfold pN;rw[hlen];simp
 obtain⟨h2,e,c,_,g,l2⟩:=w1.wr hx (k:=3) Az (v:= I (A.len+1)) rfl (p:=Ln q (A.len+1)) (by rw[b];rfl) (by rw[b];rfl) (by rw[Jj,Ae rfl];rfl);refine⟨h2,?_,?_,λi hi h3 o=>?_,Ac⟩;.have r2:=Jo w1 d hx;rw[Ag,vU,t32];have Ğ:CD cx 38 [Pt a 0,.agg [I 1,I 0,.slnil,I 0,I 0,.str [],.slnil,.str [],.str [],.str [],.bool q,I 0,I 0]] h (I (A.len+1)) h1:=f;simp only[abS,Nat.reduceLeDiff,↓reduceIte,Cl,Ğ.Af,r2.Af,e]
 .rw[aBJ,hlen] at c;rw[Ce _ _ (Ad _),Fh] at c;exact c
 .rw[g i Ac];exact j i hi h3 o
def Ns(k d:Int)(s:Ah):PN:=⟨{kind:=k,BM:=d,data:=s},.slnil,.slnil,rfl⟩
def PA.RM(w:PA h a n m ps A){p:PN}{h1:Ai}(hk:Ip p.kv=none)(b:∀i,i<h.length->i≠a->i≠n->h1[i]?=h[i]?)(l1:h1.length=h.length+1):FC h (λi=>i∈Gm a n m ps) h1 (λi=>i∈Gm a h.length m (ps++[p])):=by
 refine⟨Ac,λi hi hn=>b i hi (λe=>hn (by simp[Gm,e])) (λe=>hn (by simp[Gm,e])),λi hi=>?_⟩;rw[qC hk] at hi;simp only[AF] at hi;rcases hi with rfl|rfl|hi
 .exact .inl (by simp[Gm])
 .exact .inr (Ad _)
 .exact .inl (by unfold Gm;simp only[AF];exact .inr (.inr hi))
def aDl{k:Int}{s:Ah}(w:PA h a n m ps A)(d:NN A)(hb:A.len+1<=1000000000)(hd:A.has x/\(A.nd x).kind=1):
  ∃h',CD cx 108 [Pt a 0,I x,.agg (Ns k 0 s).row] h (.tuple [I (A.len+1),I 0]) h'/\PA h' a h.length m (ps++[Ns k x s]) (A.add (Ns k x s).x)/\(∀i,i<h.length->i≠a->i≠n->h'[i]?=h[i]?)/\h'.length=h.length+1:=by
 have sE:=w.len;obtain⟨h1,b,w1,c,l1⟩:=Ĝ w Ac (Ns k x s) rfl rfl;refine⟨h1,?_,w1,c,l1⟩;rw[PN.row] at b;rw[Ag,iW,aBa,PN.row];simp only[abS,(p9 (x:=x) w d).Af,Ae hd.1,Ae hd.2,CP,CG,Ns] at b⊢;simp only[Cy,b.Af]
def aPl{s:Ah}(w:PA h a n m ps A)(d:NN A)(hb:A.len+1<=1000000000)(hd:A.has x/\(A.nd x).kind=1):
  ∃h',CD cx 120 [Pt a 0,I x,.str s] h (.tuple [I (A.len+1),I 0]) h'/\PA h' a h.length m (ps++[Ns 5 x s]) (A.add (Ns 5 x s).x)/\(∀i,i<h.length->i≠a->i≠n->h'[i]?=h[i]?)/\h'.length=h.length+1:=by
 obtain⟨h1,b,w1,c,l1⟩:=aDl (k:=5) (s:=s) w d hb hd;refine⟨h1,?_,w1,c,l1⟩;have Ğ:CD cx 108 [Pt a 0,I x,.agg [I 5,I 0,.slnil,I 0,I 0,.str [],.slnil,.str s,.str [],.str [],.bool false,I 0,I 0]] h (.tuple [I (A.len+1),I 0]) h1:=b;rw[Ag,bk,aFj];simp only[abS,Nat.reduceLeDiff,↓reduceIte,Cl,Ğ.Af]
def aKo{s:Ah}(w:PA h a n m ps A)(d:NN A)(hb:A.len+1<=1000000000)(hd:A.has x/\(A.nd x).kind=1):
  ∃h',CD cx 105 [Pt a 0,I x,.str s] h (.tuple [I (A.len+1),I 0]) h'/\PA h' a h.length m (ps++[Ns 6 x s]) (A.add (Ns 6 x s).x)/\(∀i,i<h.length->i≠a->i≠n->h'[i]?=h[i]?)/\h'.length=h.length+1:=by
 obtain⟨h1,b,w1,c,l1⟩:=aDl (k:=6) (s:=s) w d hb hd;refine⟨h1,?_,w1,c,l1⟩;have Ğ:CD cx 108 [Pt a 0,I x,.agg [I 6,I 0,.slnil,I 0,I 0,.str [],.slnil,.str s,.str [],.str [],.bool false,I 0,I 0]] h (.tuple [I (A.len+1),I 0]) h1:=b;rw[Ag,az,aFa];simp only[abS,Nat.reduceLeDiff,↓reduceIte,Cl,Ğ.Af]
def aPm{s:Ah}(w:PA h a n m ps A)(e:NN A)(hx:A.has x)(hk:(A.nd x).kind=5):
  ∃h' PV,CD cx 119 [Pt a 0,I x,.str s] h (I 0) h'/\PA h' a n m PV (A.N6 x s)/\FC h (λi=>i∈Gm a n m ps) h' (λi=>i∈Gm a n m PV):=by
 have hp:=(w.pn hx).2.1;obtain⟨h2,c,b,f,d,l2⟩:=w.wr hx (k:=7) Az (v:= .str s) rfl (p:=⟨{A.nd x with data:=s},(pN ps x).kv,(pN ps x).av,by rw[<-hp];exact(pN ps x).ok⟩) (by simp only[PN.row];rw[hp];rfl) rfl rfl;refine⟨h2,_,?_,b,w.kq b f d l2⟩;rw[Ag,bj,aFi];simp only[abS,Hh,(SS (x:=x) w).Af,Ae hx,CP,CG,(Jo w e hx).Af,w.f0 hx,hk,c]
def aDm{y:Int}:CD cx 276 [.sl 1 [[I y]]] h (.bool (decide (BS.LD y))) h:=by
 have hv:Bx 1 [[I y]] (.sl 1 [[I y]]):= .mk;have c:([[I y]]:List (List Ab))[0]=[I y]:=rfl;rw[Ag,jl,aGI];simp only[Cy,hv.len];refine Cv (λk:Nat=>[.bool false,I (k:Int)]) (λk h1=>k<=1/\(k=1->BS.LD y)/\h1=h) (λk=>1 -k) 0 rfl ⟨Bn _,λe=>Ac,rfl⟩ ?_;rintro k h1 ⟨hk,ha,rfl⟩;rcases Bm k 1 with hlt|JA
 .obtain rfl:k=0:=by omega
  simp only[Cy,hZ,(Az:((0:Nat):Int)<((1:Nat):Int)),hv.Hj (show 0<[[I y]].length from F7),c,DB (Ac:0<9223372036854775807)];refine⟨λh2=>?_,λh2=>⟨λh3=>?_,λh3=>?_⟩⟩;.rw[Ap (λb=>by unfold BS.LD at b;omega)]
  .rw[Ap (λb=>by unfold BS.LD at b;omega)]
  .exact By.next 1 rfl ⟨Ad _,λ_=>⟨Ac,Ac⟩,rfl⟩ Ac
 .obtain rfl:k=1:=by omega
  simp only[abS,(Az:¬((1:Nat):Int)<((1:Nat):Int)),Ak (ha rfl)]
def Zf{l out:List Bj}{y:Bj}:GP out (l++[y])=if(GP out l).any (λz=>decide (F0 y=F0 z)) then GP out l else GP out l++[y]:=by
 induction l generalizing out with
 |nil=>simp only[Bq,GP];split<;>simp_all
 |cons z l ih=>
  rw[BD,GP,GP];split;.exact ih
  .exact ih
def aKp(y c:Bj)(h:Ai):CD cx 297 [.agg c.row,.Cd y.row] h (.bool (decide (F0 y=F0 c))) h:=by
 rw[Ag,jt,aGP,Bj.row,Bj.row];simp only[Cy];refine⟨λh1=>?_,λh1=>?_⟩;.congr 2;rw[Fy];simp[F0,h1]
 .rw[Ap (λe=>h1 (by simp[F0] at e;exact e.1))]
def aDn{F v:Ab}{l:List Bj}{q:Bj->Bool}(hv:T9 h v l)(hb:l.length<=1000000000)(hF:pY F h q):CD cx 247 [v,F] h (.bool (l.any q)) h:=by
 obtain⟨f,caps,rfl,hf,hr⟩:=hF;have key:CD cx 279 [v,.func (.func f) [] caps] h (I (Ct q 0 l)) h:=by
  rw[Ag,Xf,Č];simp only[Cy,hv.len];refine Cv (λn:Nat=>[I 0,I (n:Int)]) (λn h1=>n<=l.length/\Ct q 0 l=Ct q n (l.drop n)/\h1=h) (λn=>l.length-n) 0 rfl ⟨Bn _,rfl,rfl⟩ ?_;rintro n h1 ⟨b,ha,rfl⟩;rcases Bm n l.length with hlt|JA
  .have i1:(n:Int)<(l.length:Int):=by omega
   obtain⟨p,d,c⟩:=hv.at_ n hlt;rw[AA hlt,Ct] at ha;simp only[Cy,↓reduceIte,CR,hZ,hf,i1,d,c,(hr l[n]).Af,DB (Ac:n<9223372036854775807)];rw[DE];refine⟨λhe=>?_,λhe=>?_⟩;.rw[ha,Ae he]
   .rw[Aa (by simp[he])] at ha;exact By.next (n+1) rfl ⟨hlt,ha,rfl⟩ Ac
  .have i1:¬(n:Int)<(l.length:Int):=by omega
   rw[AX JA,Ct] at ha;simp only[abS,↓reduceIte,CR,i1,ha]
 rw[Ag,jW,aBx];simp only[Cy,key.Af];congr 2
 rcases Hp (p:=q) (l:=l) (k:=0) with⟨h1,h2⟩|⟨n,y,h1,h2,h3⟩
 .rw[h1,yc];have:=MK.1 h2;simpa using this
 .rw[h1,yc,Ak Ac,Ov];exact⟨y,RX h3,Wf h3⟩
def aDo{l:List Bj}{v:Ab}(hv:T9 h v l)(hb:l.length<=1000000000)(hs:∀y∈l,BS.LD y.Bd):CD cx 275 [v] h (.tuple [WG (Dx l),.bool true]) h:=by
 rw[Ag,jk,aGH];simp only[Cy,hv.len];refine Cv (λk:Nat=>[.slnil,.bool false,WG (Dx (l.take k)),I (k:Int)]) (λk h1=>k<=l.length/\h1=h) (λk=>l.length-k) 0 rfl ⟨Bn _,rfl⟩ ?_;rintro k h1 ⟨hk,rfl⟩;rcases Bm k l.length with hlt|JA
 .have i1:(k:Int)<(l.length:Int):=by omega
  obtain⟨p,o,g⟩:=hv.at_ k hlt;have inc:=DB (Ac:k<9223372036854775807);have hsp:=hs _ (AG hlt);have j:=aDm (h:=h1) (y:=l[k].Bd);have hF:pY (.func (.func 297) [] [.Cd l[k].row]) h1 (λc=>decide (F0 l[k]=F0 c)):=⟨_,_,rfl,Az,λc=>aKp l[k] c h1⟩;have d:(Dx (l.take k)).length<=1000000000:=by have:=TW (l:=l.take k);rw[Ax] at this;omega
  have r2:=aDn (p8 Xl) d hF;have i:Dx (l.take (k+1))=if(Dx (l.take k)).any (λz=>decide (F0 l[k]=F0 z)) then Dx (l.take k) else Dx (l.take k)++[l[k]]:=by rw[Bb hlt];exact Zf
  have e:=Bx.pD (f:=Bj.row) (a:=l[k]) (b:=40) (Xl (l:=Dx (l.take k))) (by have:=TW (l:=l.take k);rw[Ax] at this;have:AY=140737488355328:=rfl;omega);have em:AE (.Cb 3) [.agg l[k].row]=some (.sl 3 [l[k].row]):=rfl;rw[<-ua] at e;rw[Bj.row] at r2 em e g;simp only[abS,Nat.reduceLeDiff,↓reduceIte,i1,o,g,Hh,j.Af,Ak hsp,r2.Af,em,e,inc];rw[DE];refine⟨λh2=>?_,λh2=>?_⟩;.exact By.next (k+1) (by rw[i,Aa (by simpa using h2)]) ⟨hlt,rfl⟩ Ac
  .exact By.next (k+1) (by rw[i,Ae (by simpa using h2)]) ⟨hlt,rfl⟩ Ac
 .have i1:¬(k:Int)<(l.length:Int):=by omega
  simp only[abS,↓reduceIte,i1,Bf JA]
def aKq{l:List Bj}{v:Ab}(w:PA h a n m ps A)(f:NN A)(hx:A.has x)(hk:(A.nd x).kind=4)(hv:T9 h v l)(hb:l.length<=1000000000)(hs:∀y∈l,BS.LD y.Bd):
  ∃h' PV,CD cx 249 [Pt a 0,I x,v] h (I 0) h'/\PA h' a n m PV (A.No x l)/\FC h (λi=>i∈Gm a n m ps) h' (λi=>i∈Gm a n m PV):=by
 have hp:=(w.pn hx).2.1;have d:=aDo hv hb hs;obtain⟨h2,c,b,g,e,l2⟩:=w.wr hx (k:=6) Az (v:=WG (Dx l)) (Bx.cells Xl) (p:=⟨{A.nd x with As:=Dx l},(pN ps x).kv,WG (Dx l),rfl⟩) (by simp only[PN.row];rw[hp];rfl) rfl rfl;refine⟨h2,_,?_,b,w.kq b g e l2⟩;rw[Ag,iz,aGv];simp only[abS,Hh,(SS (x:=x) w).Af,Ae hx,CP,CG,(Jo w f hx).Af,w.f0 hx,hk,d.Af,c]
def aKr(w:PA h a n m ps A)(hx:A.has x):CD cx 277 [Pt n (nP n x)] h (.bool (decide (dQ (A.nd x)))) h:=by rw[Ag,jm,aGJ];simp only[abS,w.f0 hx,w.f4 hx,w.f5 hx,dQ];refine⟨λh1=>⟨λh2=>?_,λh2=>?_⟩,λh1=>?_⟩<;>simp[*]
def RV(x:Int×Int):Ab×Ab:=(I x.1,I x.2)
def kG{k:Int}:∀{l:List (Int×Int)} {i:Nat},(l.find? (λx=>decide (k=x.1))=none->Jb k (l.map RV) i=some none)/\∀y,l.find? (λx=>decide (k=x.1))=some y->∃j,Jb k (l.map RV) i=some (some (j,I y.2))
 |[],i=>⟨λ_=>rfl,λy h=>by cases h⟩
 |z::l,i=>by
  have ih:=kG (k:=k) (l:=l) (i:=i+1);simp only[AV,RV,Jb,Iv];by_cases e:k=z.1;.simp only[e,EY,BN];exact⟨λh=>(by cases h),λy h=>⟨i,by cases h;rfl⟩⟩
  .simp only[e,Fg,DK];exact ih
def Zc.get{f:Int->Int}(w:Zc h m f)(k:Int):Ey (.ov (I 0) true) h [.map m,I k]=some (h,if f k=0 then .tuple [I 0,.bool false] else .tuple [I (f k),.bool true]):=by
 rcases w with⟨rfl,h0⟩|⟨id,l,rfl,hc,hl⟩
 .rw[Ae (h0 k)];rfl
 .have hl:=hl k;have hm:=kG (k:=k) (l:=l) (i:=0);simp only[Ey,nC,hc];by_cases h0:f k=0
  .rw[Ae h0] at hl⊢;have e:l.find? (λx=>decide (k=x.1))=none:=by
    cases hf:l.find? (λx=>decide (k=x.1)) with
    |none=>rfl
    |some y=>rw[hf] at hl;cases hl
   have:=hm.1 e;unfold RV at this;rw[this];rfl
  .rw[Aa h0] at hl⊢;cases hf:l.find? (λx=>decide (k=x.1)) with
   |none=>rw[hf] at hl;cases hl
   |some y=>rw[hf] at hl;simp only[BW,BO] at hl;obtain⟨j,e⟩:=hm.2 y hf;unfold RV at e;rw[e,<-hl];rfl
def ku{id:Nat}{l:List (Int×Int)}{k v:Int}(hc:h[id]?=some (.map (l.map RV)))(hn:l.find? (λx=>decide (k=x.1))=none):
  ∃h1,Ey (.Ph (I 0)) h [.map (some id),I k]=some (h1,.tuple [I 0,I l.length])/\∃h2,Ey .Lo h1 [.map (some id),I l.length,I v]=some (h2,.bool true)/\h2=h.set id (.map ((l++[(k,v)]).map RV)):=by
 have JB:=(Aj.1 hc).1;have hm:=(kG (k:=k) (l:=l) (i:=0)).1 hn;refine⟨h.set id (.map (l.map RV++[(I k,I 0)])),?_,_,?_,rfl⟩;.simp only[Ey,WO,hc,hm,BW,Aw]
 .have c:(h.set id (.map (l.map RV++[(I k,I 0)])))[id]?=some (.map (l.map RV++[(I k,I 0)])):=AI JB;have b:(l.map RV++[(I k,I 0)])[l.length]?=some (I k,I 0):=by rw[Bu AB];simp
  simp only[Ey,Tk,c,BH,b];rw[Ae Ac,ND,Ce _ _ AB];simp[RV]
def PA.aKs(w:PA h a n m ps A):∀i∈m.toList++ps.filterMap (λp=>Ip p.kv),i<h.length/\i≠a/\i≠n:=by
 intro i hi;have h1:i∈Gm a n m ps:=by unfold Gm;simp only[AF];exact .inr (.inr hi)
 have h3:=w.nd;unfold Gm at h3;simp only[Ca,AF,P5] at h3;exact⟨w.lt i h1,λe=>h3.1.2 (e▸hi),λe=>h3.2.1 (e▸hi)⟩
def PA.aKt(w:PA h a n m ps A){h1:Ai}{m':Option Nat}{A':Ar}(g:A'.n=A.n)(f:A'.i.length=A'.n.length)(ha:h1[a]?=some (.cells [.Du n 0 ps.length 13,.map m']))(ho:∀i,i<h.length->i≠a->m≠some i->h1[i]?=h[i]?)(hm:m'=m\/∃j,m'=some j/\h.length<=j)(b:Zc h1 m' A'.inr):PA h1 a n m' ps A':=by
 have nd:=w.nd;have kF:=nd;unfold Gm at kF;simp only[Ca,AF,P5] at kF;have hnm:m≠some n:=λe=>kF.2.1 (by simp[e]);refine⟨by rw[g];exact w.e,f,ha,?_,?_,?_,b⟩;.rw[ho n (w.lt n (by simp[Gm])) (C3 kF.1.1) hnm];exact w.hn
 .intro p hp;refine(w.ks p hp).FV λid JB=>?_;have h1:id∈ps.filterMap (λp=>Ip p.kv):=Cs.2 ⟨p,hp,JB⟩;have h2:=w.aKs id (Ao.2 (.inr h1));exact ho id h2.1 h2.2.1 λe=>(BY.1 kF.2.2).2.2 id (by simp[e]) id h1 rfl
 .rcases hm with rfl|⟨j,rfl,hj⟩
  .exact nd
  .have d:∀i∈ps.filterMap (λp=>Ip p.kv),i<h.length:=λi hi=>(w.aKs i (Ao.2 (.inr hi))).1;have l:=w.lt a (by simp[Gm]);have k:=w.lt n (by simp[Gm]);have c:=(BY.1 kF.2.2).2.1;unfold Gm;simp only[Ca,AF,aRC,BD,Bq,P5];exact⟨⟨kF.1.1,Ac,λhm=>kF.1.2 (Ao.2 (.inr hm))⟩,⟨Ac,λhm=>kF.2.1 (Ao.2 (.inr hm))⟩,λhm=>by have:=d j hm;omega,c⟩
def aKu{i:Nat}(hm:m=some i):i∈Gm a n m ps:=by unfold Gm;simp[hm]
def PA.aKv(w:PA h a n m ps A){l:List (Int×Int)}{id:Nat}(u:m=some id)(hc:h[id]?=some (.map (l.map RV)))(hl:∀k,(l.find? λx=>decide (k=x.1)).map (·.2)=if A.inr k=0 then none else some (A.inr k)){d i:Int}(hd:A.has d)(hi:A.has i)(p:d≠i)(h0:A.inr d=0)(r:A.inr i=0):
  ∃h1 h2 h3,Ey (.Ph (I 0)) h [.map m,I d]=some (h1,.tuple [I 0,I l.length])/\Ey .Lo h1 [.map m,I l.length,I i]=some (h2,.bool true)/\
   Ey (.Ph (I 0)) h2 [.map m,I i]=some (h3,.tuple [I 0,I ((l.length+1:Nat):Int)])/\∃q,Ey .Lo h3 [.map m,I ((l.length+1:Nat):Int),I i]=some (q,.bool true)/\PA q a n m ps ((A.OU d i).OU i i)/\(∀j,j≠id->q[j]?=h[j]?)/\q.length=h.length:=by
 subst u;have JB:=(Aj.1 hc).1;have b:∀k,A.inr k=0->l.find? (λx=>decide (k=x.1))=none:=by
  intro k hk;have:=hl k;rw[Ae hk] at this;cases hf:l.find? (λx=>decide (k=x.1)) with
  |none=>rfl
  |some y=>rw[hf] at this;cases this
 obtain⟨h1,G,h2,E,rfl⟩:=ku (v:=i) hc (b d h0);have Mx:(h.set id (.map ((l++[(d,i)]).map RV)))[id]?=some (.map ((l++[(d,i)]).map RV)):=AI JB;obtain⟨h3,C,q,B,rfl⟩:=ku (k:=i) (v:=i) Mx (by rw[sB,b i r];simp[C3 p]);simp only[An,AQ] at C B;refine⟨h1,_,h3,G,E,C,_,B,?_,?_,AB⟩
 .have g:id≠a:=λe=>by have:=w.nd;unfold Gm at this;simp[e] at this
  refine w.aKt (m':=some id) (A':=(A.OU d i).OU i i) rfl ?_ ?_ ?_ (.inl rfl) ?_;.simp only[Ar.OU];split<;>split<;>simp[w.il]
  .rw[Aq g,Aq g];exact w.ha
  .intro j hj D z;have:id≠j:=λe=>z (by rw[e]);rw[Aq this,Aq this]
  .refine .inr ⟨id,l++[(d,i)]++[(i,i)],rfl,?_,λk=>?_⟩;.rw[AI (by simpa using JB)];rfl
   .have t:(A.OU d i).i.length=(A.OU d i).n.length:=by simp only[Ar.OU];split<;>simp[w.il]
    rw[YR t,YR w.il,sB,sB];have z_:(A.OU d i).has i:=hi;have hk:=hl k;have o:i≠0:=by have:=hi.1;omega
    cases hf:l.find? (λx=>decide (k=x.1)) with
    |some y=>
     rw[hf] at hk;have c:A.inr k≠0:=by intro e;rw[Ae e] at hk;cases hk
     have s:k≠i:=λe=>c (e▸r);have f:k≠d:=λe=>c (e▸h0);simp only[s,f,aD,DK,Option.some_or];exact hk
    |none=>
     rw[hf] at hk;have c:A.inr k=0:=by
      by_cases e:A.inr k=0;.exact e
      .rw[Aa e] at hk;cases hk
     by_cases f:k=d;.subst f;simp[p,hd,o]
     .by_cases s:k=i;.subst s;simp[f,z_,o]
      .simp[s,f,c]
 .intro j hj;rw[Aq (C3 hj),Aq (C3 hj)]
def aKw(w:PA h a n m ps A)(G:NN A)(hb:A.len+1<=1000000000)(hx:A.has x):
  ∃h' n' m' PV,CD cx 278 [Pt a 0,I x] h (I (A.IU x)) h'/\PA h' a n' m' PV (A.Fo x)/\FC h (λi=>i∈Gm a n m ps) h' (λi=>i∈Gm a n' m' PV):=by
 have l1:Bp h none (Pt a 1)=some (.map m):=by simp only[Bp,w.ha];rfl
 have g1:=w.mp.get x;by_cases h0:A.inr x=0
 .obtain⟨h1,C,w1,E,d⟩:=aPk w G hb false;have o:=w.RM (p:=Ln false (A.len+1)) rfl E d;have u:A.IU x=A.len+1:=by unfold Ar.IU;rw[Aa (by simp[h0])]
  have v:A.Fo x=((A.add {kind:=1,BM:=A.len+1}).OU x (A.len+1)).OU (A.len+1) (A.len+1):=by unfold Ar.Fo;rw[Aa (by simp[h0])]
  have aBL:∀k,(A.add {kind:=1,DX:=false,BM:=A.len+1}).inr k=A.inr k:=λk=>W0 w.il;have UU:(A.add {kind:=1,DX:=false,BM:=A.len+1}).has x:=DO.2 (.inl hx);have uC:(A.add {kind:=1,DX:=false,BM:=A.len+1}).has (A.len+1):=DO.2 (.inr rfl);have hne:=Oo hx;have j:A.inr (A.len+1)=0:=by unfold Ar.inr;rw[Aa Om]
  have l2:Bp h1 none (Pt a 1)=some (.map m):=by simp only[Bp,w1.ha];rfl
  rw[Ae h0] at g1;rcases w1.mp with⟨rfl,hz⟩|⟨id,l,rfl,hc,hl⟩
  .have U_:=w1.ha;have WV:a<h1.length:=w1.lt a (by simp[Gm]);have UR:(h1++[GX.map []])[a]?=some (.cells [.Du h.length 0 (ps++[Ln false (A.len+1)]).length 13,.map none]):=by rw[Al WV];exact U_
   have es:Dd (h1++[GX.map []]) 1 (Pt a 1) (.map (some h1.length))=some ((h1++[GX.map []]).set a (.cells [.Du h.length 0 (ps++[Ln false (A.len+1)]).length 13,.map (some h1.length)])):=by simp only[Dd,UR];rfl
   have g:((h1++[GX.map []]).set a (.cells [.Du h.length 0 (ps++[Ln false (A.len+1)]).length 13,.map (some h1.length)]))[a]?=some (.cells [.Du h.length 0 (ps++[Ln false (A.len+1)]).length 13,.map (some h1.length)]):=AI EE;have el:Bp ((h1++[GX.map []]).set a (.cells [.Du h.length 0 (ps++[Ln false (A.len+1)]).length 13,.map (some h1.length)])) none (Pt a 1)=some (.map (some h1.length)):=by simp only[Bp,g];rfl
   have f:((h1++[GX.map []]).set a (.cells [.Du h.length 0 (ps++[Ln false (A.len+1)]).length 13,.map (some h1.length)]))[h1.length]?=some (.map (([]:List (Int×Int)).map RV)):=by rw[Aq Ac,Bu (Ad _),Fh];rfl
   have D:PA ((h1++[GX.map []]).set a (.cells [.Du h.length 0 (ps++[Ln false (A.len+1)]).length 13,.map (some h1.length)])) a h.length (some h1.length) (ps++[Ln false (A.len+1)]) (A.add {kind:=1,DX:=false,BM:=A.len+1}):=by refine w1.aKt rfl w1.il g (λi hi c _=>by rw[Aq (C3 c),Al hi]) (.inr ⟨_,rfl,Ad _⟩) (.inr ⟨h1.length,[],rfl,f,λk=>by rw[Ae (hz k)];rfl⟩)
   obtain⟨K,J,H,t,s,r,B,q,y,z,b⟩:=D.aKv rfl f (λk=>by rw[Ae (hz k)];rfl) UU uC hne ((aBL x).trans h0) ((aBL _).trans j);refine⟨B,_,_,_,?_,v▸y,⟨by rw[b];simp;omega,λi hi Z7=>?_,λi hi=>?_⟩⟩;.simp only[AZ] at t s r q;rw[Ag,Xe,ċ,u];simp only[Cy,l1,g1,C.Af,l2,show AE (.Gs false .mp) [.map none,.map none]=some (.bool true) from rfl,es,el,t,s,r,q]
   .have L:=o.old i hi Z7;have c:i≠a:=λe=>Z7 (by simp[Gm,e]);rw[z i Ac,Aq (C3 c),Al Ac,L]
   .unfold Gm at hi;simp only[AF,aRC,BD,Bq] at hi;rcases hi with rfl|rfl|rfl|hi
    .exact .inl (by simp[Gm])
    .exact .inr (Ad _)
    .exact .inr Ac
    .exact o.BU i (by unfold Gm;simp only[AF,Option.toList_none,Bq];exact .inr (.inr hi))
  .obtain⟨K,J,H,t,s,r,B,q,y,z,b⟩:=w1.aKv rfl hc hl UU uC hne ((aBL x).trans h0) ((aBL _).trans j);refine⟨B,_,_,_,?_,v▸y,⟨Ac,λi hi Z7=>?_,o.BU⟩⟩;.rw[Ag,Xe,ċ,u];simp only[Cy,l1,g1,C.Af,l2,show AE (.Gs false .mp) [.map (some id),.map none]=some (.bool false) from rfl,t,s,r,q]
   .rw[z i (λe=>Z7 (e▸aKu rfl))];exact o.old i hi Z7
 .have u:A.IU x=A.inr x:=by unfold Ar.IU;rw[Ae h0]
  have v:A.Fo x=A:=by unfold Ar.Fo;rw[Ae h0]
  refine⟨h,n,m,ps,?_,by rw[v];exact w,.refl⟩;rw[Aa h0] at g1;rw[Ag,Xe,ċ,u];simp only[Cy,l1,g1]
def NN.aKx(b:NN A)(h1:A.len+1<=1000000000):NN (A.Fo x):=by
 unfold Ar.Fo;split;.exact b
 .have:=b.add (y:={kind:=1,BM:=A.len+1}) h1 AB AB;exact⟨this.n,this.at_,this.data⟩
def ub(hk:A.has x){d:Int}:(A.Fo d).nd x=A.nd x:=YY (.inl (Oo hk))
def aKy{l:List Bj}{v:Ab}{d sp:Int}{nm:Ah}(w:PA h a n m ps A)(C:NN A)(hb:A.len+3<=1000000000)(hd:A.has d/\(A.nd d).kind=1)(hsp:BS.LD sp)(hv:BF l v)(hl:l.length<=1000000000)(hs:∀y∈l,BS.LD y.Bd):
  ∃h' n' m' PV,CD cx 243 [Pt a 0,I d,I sp,.str nm,v] h (.tuple [I (A.len+1),I 0]) h'/\PA h' a n' m' PV (A.elem d sp nm l)/\FC h (λi=>i∈Gm a n m ps) h' (λi=>i∈Gm a n' m' PV)/\NN (A.elem d sp nm l):=by
 have sE:=w.len;have z:=aDo (h:=h) (p8 hv) hl hs;obtain⟨u,hu⟩:∃u,u=WG (Dx l):=⟨_,rfl⟩;rw[<-hu] at z;have xf:(Dx l).length<=1000000000:=by have:=TW (l:=l);omega
 have c:=aDm (h:=h) (y:=sp);rw[Ak hsp] at c;obtain⟨h1,O,w1,R,l1⟩:=Ĝ w Ac ⟨{kind:=4,BM:=d,Bd:=sp,name:=nm,As:=Dx l},.slnil,u,hu⟩ rfl rfl;have b:=C.add (y:={kind:=4,BM:=d,Bd:=sp,name:=nm,As:=Dx l}) Ac xf AB;have UU:(A.add {kind:=4,BM:=d,Bd:=sp,name:=nm,As:=Dx l}).has (A.len+1):=DO.2 (.inr rfl);have Tx:(A.add {kind:=4,BM:=d,Bd:=sp,name:=nm,As:=Dx l}).nd (A.len+1)={kind:=4,BM:=d,Bd:=sp,name:=nm,As:=Dx l}:=by rw[Jj,Ae rfl]
 have G:=w.RM (p:=⟨{kind:=4,BM:=d,Bd:=sp,name:=nm,As:=Dx l},.slnil,u,hu⟩) rfl R l1;have Ğ:CD cx 38 [Pt a 0,.agg [I 4,I 0,.slnil,I d,I sp,.str nm,u,.str [],.str [],.str [],.bool false,I 0,I 0]] h (I (A.len+1)) h1:=O;have r2:=Jo w1 b UU;have g:=aKr w1 UU;rw[Tx] at g;have hc:u.cells=[u]:=by rw[hu];exact Bx.cells Xl
 unfold Ar.elem;simp only
 by_cases r:dQ {kind:=4,BM:=d,Bd:=sp,name:=nm,As:=Dx l}
 .rw[Ae r];rw[Ak r] at g;have ŵ:(A.add {kind:=4,BM:=d,Bd:=sp,name:=nm,As:=Dx l}).has d:=DO.2 (.inl hd.1);obtain⟨h2,U,V,ğ,N,s,J⟩:=aKw w1 b (by rw[RF];omega) ŵ;have B:=b.aKx (x:=d) (by rw[RF];omega);have uB:((ğ.length:Nat):Int)=((A.add {kind:=4,BM:=d,Bd:=sp,name:=nm,As:=Dx l}).Fo d).len:=s.len;have qD:((A.add {kind:=4,BM:=d,Bd:=sp,name:=nm,As:=Dx l}).Fo d).len<=A.len+2:=by rw[tc,RF];split<;>omega
  obtain⟨h3,M,f,Q,l3⟩:=Ĝ s Ac ⟨{kind:=2,Fv:=A.len+1,BM:=(A.add {kind:=4,BM:=d,Bd:=sp,name:=nm,As:=Dx l}).IU d},.slnil,.slnil,rfl⟩ rfl rfl;obtain⟨j,D⟩:∃j,j=ğ++[⟨{kind:=2,Fv:=A.len+1,BM:=(A.add {kind:=4,BM:=d,Bd:=sp,name:=nm,As:=Dx l}).IU d},.slnil,.slnil,rfl⟩]:=⟨_,rfl⟩;have E:=s.RM (p:=⟨{kind:=2,Fv:=A.len+1,BM:=(A.add {kind:=4,BM:=d,Bd:=sp,name:=nm,As:=Dx l}).IU d},.slnil,.slnil,rfl⟩) rfl Q l3;rw[<-D] at f E;have o:=B.add (y:={kind:=2,Fv:=A.len+1,BM:=(A.add {kind:=4,BM:=d,Bd:=sp,name:=nm,As:=Dx l}).IU d}) Ac AB AB;have t:CD cx 38 [Pt a 0,.agg [I 2,I 0,.slnil,I ((A.add {kind:=4,BM:=d,Bd:=sp,name:=nm,As:=Dx l}).IU d),I 0,.str [],.slnil,.str [],.str [],.str [],.bool false,I 0,I (A.len+1)]] h2 _ h3:=M;have Z8:=OX (h:=d) UU;have e:=DO (x:={kind:=2,Fv:=A.len+1,BM:=(A.add {kind:=4,BM:=d,Bd:=sp,name:=nm,As:=Dx l}).IU d}).2 (.inl Z8);have q:(((A.add {kind:=4,BM:=d,Bd:=sp,name:=nm,As:=Dx l}).Fo d).add {kind:=2,Fv:=A.len+1,BM:=(A.add {kind:=4,BM:=d,Bd:=sp,name:=nm,As:=Dx l}).IU d}).nd (A.len+1)={kind:=4,BM:=d,Bd:=sp,name:=nm,As:=Dx l}:=by rw[Jl Z8,ub UU,Tx]
  have L:=Jo f o e;have hp:=(f.pn e).2.1;rw[q] at hp;obtain⟨T,K,H,S,P,l4⟩:=f.wr e (k:=11) Az (v:= I (((A.add {kind:=4,BM:=d,Bd:=sp,name:=nm,As:=Dx l}).Fo d).len+1)) rfl (p:=⟨{kind:=4,BM:=d,Bd:=sp,name:=nm,As:=Dx l,cont:=((A.add {kind:=4,BM:=d,Bd:=sp,name:=nm,As:=Dx l}).Fo d).len+1},(pN j (A.len+1)).kv,(pN j (A.len+1)).av,by have:=(pN j (A.len+1)).ok;rw[hp] at this;exact this⟩) (by simp only[PN.row];rw[hp];rfl) rfl (by rw[q]);refine⟨T,_,_,_,?_,H,G.trans (J.trans (E.trans (f.kq H S P l4))),o.set xf AB⟩;rw[Ag,jU,aBv];simp only[abS,Nat.reduceLeDiff,↓reduceIte,Cl,(p9 (x:=d) w C).Af,Ae hd.1,Ae hd.2,CP,CG,z.Af,Hh,c.Af,hc,Ğ.Af,r2.Af,g.Af,N.Af,t.Af,L.Af,K]
 .rw[Aa r];rw[Ap r] at g;refine⟨h1,_,_,_,?_,w1,G,b⟩;rw[Ag,jU,aBv];simp only[abS,Nat.reduceLeDiff,↓reduceIte,Cl,(p9 (x:=d) w C).Af,Ae hd.1,Ae hd.2,CP,CG,z.Af,Hh,c.Af,hc,Ğ.Af,r2.Af,g.Af]
def eB{U:Type}{p q:U->Bool}{y:U}:∀{l:List U},(∀x∈l,p x=true->q x=true)->y∈l->p y=false->q y=true->(l.filter p).length<(l.filter q).length
 |[],_,h,_,_=>by cases h
 |x::l,hi,hy,hp,hq=>by
  have le:∀{l:List U},(∀x∈l,p x=true->q x=true)->(l.filter p).length<=(l.filter q).length:=by
   intro l;induction l with
   |nil=>intro _;simp
   |cons z l ih=>
    intro hi;have:=ih λx hx=>hi x (by simp[hx]);rw[HQ,HQ];split;.rename_i hz;rw[Ae (hi z AB hz)];simp;exact this
    .split;.simp;omega
     .exact this
  have hl:=λx (hx:x∈l)=>hi x (by simp[hx]);rw[HQ,HQ];rcases AF.1 hy with rfl|hy
  .rw[Aa (by simp[hp]),Ae hq];have:=le hl;simp;omega
  .have ih:=eB hl hy hp hq;split;.rename_i hz;rw[Ae (hi x AB hz)];simp;exact ih
   .split;.simp;omega
    .exact ih
def wE{r:Int->Nat}{k y:Int}(hr:∀h,A.has h->A.up h≠0->r (A.up h)<r h)(hR:Reach A k y)(hy:A.has y):r k<=r y:=by
 induction hR with
 |refl=>exact Ad _
 |@step z h1 h2 ih=>
  by_cases hz:A.has (A.up z);.have:=ih hz;have:=hr z hy h1;omega
  .cases h2 with
   |refl=>have:=hr z hy h1;omega
   |step h3 _=>exact absurd (YU hz) h3
open Classical in
def wF{e:Int}(ok:Eo A e):∃r:Int->Nat,(∀h,A.has h->A.up h≠0->r (A.up h)<r h)/\∀h,r h<=A.n.length:=by
 obtain⟨r,hr⟩:=ok.MF;refine⟨λh=>((List.range A.n.length).filter λ(i:Nat)=>decide (Reach A ((i:Int)+1) h/\(i:Int)+1≠h)).length,λh c hu=>?_,λh=>?_⟩
 .have b:=YV ok c hu;have TM:=b;unfold Ar.has at TM;have d:(((A.up h).toNat-1:Nat):Int)+1=A.up h:=Ac;refine eB (y:=(A.up h).toNat-1) (λi _ hi=>?_) (List.mem_range.2 Ac) ?_ ?_;.rw[CF] at hi⊢;refine⟨.step hu hi.1,λe=>?_⟩;have h1:=wE hr hi.1 b;have h2:=hr h c hu;rw[e] at h1;omega
  .rw[d];simp
  .rw[d,CF];exact⟨.step hu .refl,aC5 ok c hu⟩
 .have:=Oe (λ(i:Nat)=>decide (Reach A ((i:Int)+1) h/\(i:Int)+1≠h)) (List.range A.n.length);rwa [List.length_range] at this
def PA.cell(w:PA h a n m ps A)(hx:A.has x){k:Nat}(hk:k<13):(ps.map PN.row).flatten[0+(x.toNat-1)*13+k]?=(pN ps x).row[k]?:=by rw[BG];exact Zd (pZ ps) hk (by rw[Dt,(w.pn hx).1];rfl)
open Classical in
def Zg(w:PA h a n m ps A){up:Int}{r:Int->Nat}{e:Int}(ok:Eo A e)(hr:∀h,A.has h->A.up h≠0->r (A.up h)<r h)(c:up≠0):∀(fuel:Nat) (x:Int),(x=0\/(A.has x/\r x<fuel))->MN (ps.map PN.row).flatten 0 ps.length up fuel x=some (decide (Reach A up x))
 |fuel,x,hx=>by
  by_cases h0:x=0
  .subst h0;have no:¬Reach A up 0:=by
    intro hR;cases hR with
    |refl=>exact c rfl
    |step h1 _=>exact h1 (YU (by unfold Ar.has;omega))
   rw[Ap no];cases fuel<;>rfl
  .have hx:=hx.resolve_left h0;cases fuel with
   |zero=>omega
   |succ fuel=>
    have f:MN (ps.map PN.row).flatten 0 ps.length up (fuel+1) x=if x=up then some true else if 1<=x/\x<=ps.length then
      match Ho (ps.map PN.row).flatten 0 x 1,Ho (ps.map PN.row).flatten 0 x 12 with
      |some p,some q=>MN (ps.map PN.row).flatten 0 ps.length up fuel (if p=0 then q else p)
      |_,_=>none
     else none:=by
     rw[MN];.rfl
     .exact λh=>h0 h
    rw[f];by_cases b:x=up;.rw[Ae b,b,Ak .refl]
    .rw[Aa b,Ae (by have:=hx.1;have:=w.ė;unfold Ar.has at*;omega)];have i:Ho (ps.map PN.row).flatten 0 x 1=some (A.nd x).GO:=by unfold Ho;rw[w.cell hx.1 Az,<-(w.pn hx.1).2.1];rfl
     have g:Ho (ps.map PN.row).flatten 0 x 12=some (A.nd x).Fv:=by unfold Ho;rw[w.cell hx.1 Az,<-(w.pn hx.1).2.1];rfl
     rw[i,g];simp only
     have d:(if(A.nd x).GO=0 then(A.nd x).Fv else(A.nd x).GO)=A.up x:=by unfold Ar.up;by_cases h:(A.nd x).GO=0<;>simp[h]
     rw[d];have ih:=Zg w ok hr c fuel (A.up x) (by
      by_cases hu:A.up x=0;.exact .inl hu
      .exact .inr ⟨YV ok hx.1 hu,by have:=hr x hx.1 hu;omega⟩)
     rw[ih];congr 1
     rw[Fy];constructor
     .intro h1;by_cases hu:A.up x=0
      .rw[hu] at h1;cases h1 with
       |refl=>exact absurd rfl c
       |step h3 _=>exact absurd (YU (by unfold Ar.has;omega)) h3
      .exact .step hu h1
     .intro h1;cases h1 with
      |refl=>exact absurd rfl b
      |step _ h2=>exact h2
open Classical in
def aKz{up e:Int}(w:PA h a n m ps A)(ok:Eo A e)(hu:A.has up)(hx:A.has x):CD cx 109 [Pt a 0,I up,I x] h (.bool (decide (Reach A up x))) h:=by
 obtain⟨r,hr,b⟩:=wF ok;have RS:=w.ė;have hc:=Zg w ok hr (up:=up) (by have:=hu.1;omega) (ps.length+1) x (.inr ⟨hx,by have:=b x;omega⟩);have c:Ey (.XC OI) h [Pt a 0,I up,I x]=some (h,.bool (decide (Reach A up x))):=by simp only[Ey,OI,w.ha,w.hn];rw[Ae (by rw[Ě];omega),Ae (by unfold Ar.has at hu hx;omega),hc];rfl
 rw[Ag,show Cf cx 109 [Pt a 0,I up,I x]=OJ [Pt a 0,I up,I x] from rfl,OJ];simp only[Cy,c]
structure wG(h:Ai)(v:Ab)(l:List Int):Prop where
 len:AE (.len false) [v]=some (I (l.length:Int))
 at_:∀k (hk:k<l.length),∃p,AE (.Hj 1) [v,I (k:Int)]=some p/\Bp h none p=some (I l[k])
def KV.qE{kv:Ab}{l:List Int}(hk:KV h kv l):wG h kv l:=by
 refine⟨hk.len,λk hlt=>?_⟩;rcases hk with⟨rfl,rfl⟩|⟨id,cs,rfl,hc⟩
 .simp at hlt
 .refine⟨Pt id k,by have:=JH (id:=id) (z:=1) (k:= .i64) hlt;rwa [HM] at this,?_⟩;simp only[Bp,hc,Jh];rw[Al (by simpa using hlt)];simp[hlt]
def IY.qE{v:Ab}{l:List Int}(hv:IY l v):wG h v l:=⟨Bx.GN hv,λk hk=>⟨_,Bx.DN hv hk,rfl⟩⟩
def aG3{v:Ab}{l:List Int}(hv:wG h v l)(hb:l.length<=1000000000)(x:Int):CD cx 111 [v,I x] h (I (Ct (λy=>decide (x=y)) 0 l)) h:=by
 rw[Ag,ba,aFc];simp only[Cy,hv.len];refine Cv (λk:Nat=>[I 0,I (k:Int)]) (λk h1=>k<=l.length/\Ct (λy=>decide (x=y)) 0 l=Ct (λy=>decide (x=y)) k (l.drop k)/\h1=h) (λk=>l.length-k) 0 rfl ⟨Bn _,rfl,rfl⟩ ?_;rintro k h1 ⟨hk,ha,rfl⟩;rcases Bm k l.length with hlt|JA
 .have i1:(k:Int)<(l.length:Int):=by omega
  obtain⟨p,c,b⟩:=hv.at_ k hlt;rw[AA hlt,Ct] at ha;simp only[abS,i1,c,b,DB (Ac:k<9223372036854775807)];refine⟨λh2=>?_,λh2=>?_⟩;.rw[ha,Ae (by simpa using h2)]
  .rw[Aa (by simpa using h2)] at ha;exact By.next (k+1) rfl ⟨hlt,ha,rfl⟩ Ac
 .have i1:¬(k:Int)<(l.length:Int):=by omega
  rw[AX JA,Ct] at ha;simp only[abS,i1,ha]
def kJ{l:List Int}{x:Int}(hx:x∈l):∃k,k<l.length/\Ct (λy=>decide (x=y)) 0 l=(k:Int)/\l[k]?=some x/\l.takeWhile (λy=>decide (y≠x))=l.take k/\l.dropWhile (λy=>decide (y≠x))=l.drop k:=by
 have key:∀(l:List Int) (s:Nat),x∈l->∃k,k<l.length/\Ct (λy=>decide (x=y)) s l=((s+k:Nat):Int)/\l[k]?=some x/\l.takeWhile (λy=>decide (y≠x))=l.take k/\l.dropWhile (λy=>decide (y≠x))=l.drop k:=by
  intro l;induction l with
  |nil=>intro s h;cases h
  |cons z l ih=>
   intro s h;by_cases e:x=z;.subst e;exact⟨0,AB,by rw[Ct,Ae AB];simp,rfl,AB,AB⟩
   .have h2:x∈l:=(AF.1 h).resolve_left e;obtain⟨k,d,c,b,i,g⟩:=ih (s+1) h2;have f:z≠x:=λj=>e j.symm;refine⟨k+1,by simp;exact d,by rw[Ct,Aa (by simpa using e),c];congr 1;omega,by simpa using b,?_,?_⟩;.rw[List.takeWhile_cons,Ae (by simpa using f),i];rfl
    .rw[List.dropWhile_cons,Ae (by simpa using f),g];rfl
 obtain⟨k,d,c,b⟩:=key l 0 hx;exact⟨k,d,by simpa using c,b⟩
def Ua{l:List Int}{x:Int}{k:Nat}(hn:l.Nodup)(hk:l[k]?=some x):l.take k++l.drop (k+1)=l.filter λy=>decide (y≠x):=by
 obtain⟨hlt,e⟩:=Aj.1 hk;have c:l=l.take k++x::l.drop (k+1):=by conv=>lhs;rw[<-Br k l,AA hlt,e]
 rw[c,BY,Ca] at hn;conv=>rhs;rw[c,Be,HQ,Aa AB]
 rw[Hw.2 (λy hy=>by simpa using λb:y=x=>hn.2.2 y hy x AB b),Hw.2 (λy hy=>by simpa using λb:y=x=>hn.2.1.1 (b▸hy))]
def aG4{id l k:Nat}(hl:0<l)(hk:k<=l):AE (.Ro 1 false false true) [.Du id 0 l 1,I (k:Int)]=some (.Du id 0 k 1):=by
 have b:EU (k:Int) l=some k:=by unfold EU;rw[Ae Ac];rfl
 simp[AE,JC,D1,b];omega
def aG5{id l k:Nat}(hk:k<=l):AE (.Ro 1 false true false) [.Du id 0 l 1,I (k:Int)]=some (if k<l then .Du id k (l-k) 1 else .sl 1 []):=by
 have b:EU (k:Int) l=some k:=by unfold EU;rw[Ae Ac];rfl
 simp[AE,JC,D1,b];split<;>rfl
def aKA{id k:Nat}{l:List Int}{cs:List Ab}(hc:h[id]?=some (.cells (l.map (Ab.int .i64)++cs)))(hk:k<l.length)(hb:l.length<=1000000000):
  ∃Hz,CD cx 185 [.Du id 0 l.length 1,I (k:Int),I ((k+1:Nat):Int)] h (.Du id 0 (l.length-1) 1) (h.set id (.cells ((l.take k++l.drop (k+1)).map (Ab.int .i64)++Hz))):=by
 have JB:=(Aj.1 hc).1;have b:(l.take k++l.drop (k+1)).length=l.length-1:=by rw[An,Ax,A4];omega
 obtain⟨TE,o,hcl⟩:∃TE,Hk h 1 8 (.Du id 0 k 1) (if k+1<l.length then .Du id (k+1) (l.length-(k+1)) 1 else .sl 1 [])=some (h.set id (.cells ((l.take k++l.drop (k+1)).map (Ab.int .i64)++TE)),.Du id 0 (l.length-1) 1)/\1<=TE.length:=by
  have f:Ij h 1 (if k+1<l.length then .Du id (k+1) (l.length-(k+1)) 1 else .sl 1 [])=some ((l.drop (k+1)).map Di):=by
   by_cases XX:k+1<l.length;rotate_left;.rw[Aa XX,AX Ac];rfl
   rw[Ae XX];have c:=Ot (l:=l.drop (k+1)) (cs:=cs) (J4:=(l.take (k+1)).map (Ab.int .i64));rw[<-A7,<-B3,Br] at c;simp only[Aw,Ax,A4] at c;rw[BP Ac] at c;simp only[Ij,BN,hc,c];rw[Ae EE]
  by_cases aKB:k+1=l.length
  .refine⟨I l[k]::cs,?_,AB⟩;have g:l.drop (k+1)=[]:=AX Ac;rw[g] at f⊢;have e:l.map (Ab.int .i64)++cs=(l.take k++[]).map (Ab.int .i64)++ I l[k]::cs:=by
    have:l=l.take k++[l[k]]:=by conv=>lhs;rw[<-Br k l,AA hk,g]
    conv=>lhs;rw[this,B3,A7]
    rw[A8];rfl
   have j:h.set id (.cells ((l.take k++[]).map (Ab.int .i64)++ I l[k]::cs))=h:=by rw[<-e];obtain⟨uB,t⟩:=Aj.1 hc;rw[<-t,Oc]
   simp only[Hk,f,CM,BN];rw[j,(Ac:l.length-1=k)]
  .obtain⟨y,l2,hd⟩:∃y l2,l.drop (k+1)=y::l2:=⟨_,_,AA (Ac:k+1<l.length)⟩;have qD:(y::l2).length=l.length-(k+1):=by rw[<-hd,A4]
   rw[hd] at f;have aKC:∀l3:List Int,(l3.map Di).flatten=l3.map (Ab.int .i64):=by
    intro l3;induction l3 with
    |nil=>rfl
    |cons z l3 ih=>simp[Di,ih]
   refine⟨(l.map (Ab.int .i64)++cs).drop (l.length-1),?_,EE⟩;simp only[Hk,f,AV,hc,BN];have s:(Di y::l2.map Di).length=l.length-(k+1):=by rw[<-qD];simp
   have r:(Di y::l2.map Di).flatten=(y::l2).map (Ab.int .i64):=by have:=aKC (y::l2);simpa using this
   rw[s,r,Ae EE];have q:(l.map (Ab.int .i64)++cs).take (0+k*1)=(l.take k).map (Ab.int .i64):=by rw[BG,HM,Bk EE,HN]
   rw[q,hd,(Ac:0+(k+(l.length-(k+1)))*1=l.length-1),(Ac:k+(l.length-(k+1))=l.length-1)];simp
 generalize uc:h.set id (.cells ((l.take k++l.drop (k+1)).map (Ab.int .i64)++TE))=h2 at o;have Mx:h2[id]?=some (.cells ((l.take k++l.drop (k+1)).map (Ab.int .i64)++TE)):=by rw[<-uc];exact AI JB
 have g:Ey (.ou 1 true true) h2 [.Du id 0 (l.length-1) 1,I ((l.length-1:Nat):Int),I (l.length:Int)]=some (h2,.Du id (l.length-1) 1 1):=by
  simp only[Ey,nB,Mx];have wH:((l.take k++l.drop (k+1)).map (Ab.int .i64)++TE).length=l.length-1+TE.length:=by rw[An,Aw,b]
  have u:EU (l.length:Int) ((((l.take k++l.drop (k+1)).map (Ab.int .i64)++TE).length-0)/1)=some l.length:=by unfold EU;rw[Ae (by rw[wH];omega)];rfl
  have c:EU ((l.length-1:Nat):Int) l.length=some (l.length-1):=by unfold EU;rw[Ae Ac];rfl
  rw[Ae ⟨trivial,trivial,Bn _⟩];simp only[D1,u,c,Cx,BW];rw[Ae (by rw[wH];omega)];congr 3
  .omega
  .omega
 have p:Ey (.clear 1 [I 0]) h2 [.Du id (l.length-1) 1 1]=some (h.set id (.cells ((l.take k++l.drop (k+1)).map (Ab.int .i64)++(I 0::TE.drop 1))),.bool true):=by
  simp only[Ey,XH,Mx];rw[Ae ⟨trivial,rfl,by rw[An,Aw,b];omega⟩];congr 2
  rw[<-uc,ND];congr 2
  have e:(((l.take k++l.drop (k+1)).map (Ab.int .i64)++TE).take (l.length-1))=(l.take k++l.drop (k+1)).map (Ab.int .i64):=Kc (by rw[Aw,b]);have j:(((l.take k++l.drop (k+1)).map (Ab.int .i64)++TE).drop (l.length-1+1*1))=TE.drop 1:=by rw[show l.length-1+1*1=((l.take k++l.drop (k+1)).map (Ab.int .i64)).length+1 by rw[Aw,b],Jv];simp
  rw[e,j];simp
 refine⟨I 0::TE.drop 1,?_⟩;have d:∀i n,AE (.len false) [.Du i 0 n 1]=some (I (n:Int)):=λ_ _=>rfl;have e:Ey (.sN 1) h [.Du id 0 l.length 1,I (k:Int),I ((k+1:Nat):Int),I (l.length:Int)]=some (h,.bool true):=by simp only[Ey,XI];simp;omega
 rw[Ag,dw,aFQ];simp only[abS,d,e,(Ac:¬(k:Int)=((k+1:Nat):Int)),aG4 (id:=id) (Ac:0<l.length) (Ac:k<=l.length),aG5 (id:=id) (Ac:k+1<=l.length),o,g,p]
def Ġ:∀{n:Nat} {l:List Int},l.Nodup->(∀x∈l,1<=x/\x<=n)->l.length<=n
 |0,l,_,h=>by
  cases l with
  |nil=>simp
  |cons x l=>have:=h x AB;omega
 |n+1,l,hn,h=>by
  have ih:=Ġ (n:=n) (l:=l.filter λx=>decide (x≠(n:Int)+1)) (hn.filter _) (λx hx=>by
   have h1:=BE.1 hx;have h2:=h x h1.1;have h3:x≠(n:Int)+1:=by simpa using h1.2
   omega)
  have key:∀{l:List Int},l.Nodup->l.length<=(l.filter λx=>decide (x≠(n:Int)+1)).length+1:=by
   intro l hl;induction l with
   |nil=>simp
   |cons x l ih=>
    rw[Ca] at hl;rw[HQ];by_cases e:x=(n:Int)+1;.rw[Aa (by simp[e]),Hw.2 (λy hy=>by simpa using λb:y=(n:Int)+1=>hl.1 (by rw[e,<-b];exact hy))];simp
    .rw[Ae (by simpa using e)];have:=ih hl.2;simp only[AJ];omega
  have:=key hn;omega
def ġ{e:Int}(ok:Eo A e)(x:Int):(A.nd x).Bi.length<=A.n.length:=by
 by_cases hx:A.has x;.refine Ġ (ok.Tg x hx).af λk hk=>?_;exact(ok.Ok x hx k hk).1
 .rw[OV hx];exact Bn _
def NN.Bi{e:Int}(b:NN A)(ok:Eo A e)(x:Int):(A.nd x).Bi.length<=1000000000:=Bw (ġ ok x) b.n
def NN.aPq{l:List Int}(b:NN A):NN (A.set x {A.nd x with Bi:=l}):=b.set (b.at_ x) (b.data x)
def NN.aPr{p:Int}(b:NN A):NN (A.set x {A.nd x with GO:=p}):=b.set (b.at_ x) (b.data x)
def NN.cut(b:NN A):NN (A.cut x):=by
 unfold Ar.cut;simp only;split;.exact b
 .exact NN.aPr b.aPq
def aDq{e:Int}(w:PA h a n m ps A)(g:NN A)(ok:Eo A e)(hx:A.has x):
  ∃h' PV,CD cx 110 [Pt a 0,I x] h (.tuple []) h'/\PA h' a n m PV (A.cut x)/\FC h (λi=>i∈Gm a n m ps) h' (λi=>i∈Gm a n m PV):=by
 have hb:=g.Bi ok;by_cases hp:(A.nd x).GO=0
 .have t:A.cut x=A:=by unfold Ar.cut;simp only;rw[Ae hp]
  refine⟨h,ps,?_,by rw[t];exact w,.refl⟩;rw[Ag,iX,aBb];simp only[abS,(Jo w g hx).Af,w.f1 hx,hp]
 .obtain⟨hq,hk⟩:=ok.GO x hx hp;generalize c:(A.nd x).GO=q at*;have hne:q≠x:=by rw[<-c];exact vE ok hx (by rw[c];exact hp)
  obtain⟨k,l,J,C,_,_⟩:=kJ hk;have Ok:=w.Ok hq;have j:=aG3 Ok.qE (hb q) x;rw[J] at j;rcases r:Ok with⟨_,e0⟩|⟨id,cs,b,hc⟩
  .rw[e0] at l;simp at l
  clear r;rw[b] at j;obtain⟨Hz,r2⟩:=aKA hc l (hb q);rw[Ua (ok.Tg q hq).af C] at r2;have cO:(A.nd q).Bi.length-1=((A.nd q).Bi.filter λy=>decide (y≠x)).length:=by rw[<-Ua (ok.Tg q hq).af C,An,Ax,A4];omega
  rw[cO] at r2;have aAs:=(Aj.1 hc).1;have o:=(w.pn hq).2.1;generalize Ű:h.set id (.cells (((A.nd q).Bi.filter λy=>decide (y≠x)).map (Ab.int .i64)++Hz))=h1 at r2;have aKD:id∈Gm a n m ps:=Mh (w.pn hq).2.2 (by rw[b];rfl);have aPt:id≠n:=by intro d;have:=w.nd;unfold Gm at this;simp only[Ca,AF,P5] at this;exact this.2.1 (d▸Ao.2 (.inr (Cs.2 ⟨_,(w.pn hq).2.2,by rw[b];rfl⟩)))
  have aVc:id≠a:=by intro d;have:=w.nd;unfold Gm at this;simp only[Ca,AF,P5] at this;exact this.1.2 (d▸Ao.2 (.inr (Cs.2 ⟨_,(w.pn hq).2.2,by rw[b];rfl⟩)))
  obtain⟨f,wI⟩:∃f:PN,f=⟨{A.nd q with Bi:=(A.nd q).Bi.filter λy=>decide (y≠x)},.Du id 0 ((A.nd q).Bi.filter λy=>decide (y≠x)).length 1,(pN ps q).av,w.att hq⟩:=⟨_,rfl⟩;have aKE:f.row=(pN ps q).row.set 2 (.Du id 0 ((A.nd q).Bi.filter λy=>decide (y≠x)).length 1):=by rw[wI];simp only[PN.row];rw[o];rfl
  have u:h1[n]?=h[n]?:=by rw[<-Ű,Aq aPt]
  have z:=w.sto hq (k:=2) Az (v:= .Du id 0 ((A.nd q).Bi.filter λy=>decide (y≠x)).length 1) rfl aKE u;have aKF:Ip f.kv=Ip (pN ps q).kv:=by rw[wI,b];rfl
  have w1:=w.xd hq (p:=f) (h1:=h1) (λi _ hi=>by rw[<-Ű,Aq];intro d;exact hi (by rw[b,d];rfl)) (by rw[wI];exact .inr ⟨id,Hz,rfl,by rw[<-Ű];exact AI aAs⟩) (.inl aKF)
  have aDr:=kj w hq aKF;generalize uc:h1.set n (.cells ((ps.set (q.toNat-1) f).map PN.row).flatten)=h2 at z w1;generalize aVd:ps.set (q.toNat-1) f=bB at w1 aDr;have s:f.x={A.nd q with Bi:=(A.nd q).Bi.filter λy=>decide (y≠x)}:=by rw[wI]
  rw[s] at w1;have UU:(A.set q {A.nd q with Bi:=(A.nd q).Bi.filter λy=>decide (y≠x)}).has x:=JI.2 hx;have xz:=(w1.pn UU).2.1;have Tx:(A.set q {A.nd q with Bi:=(A.nd q).Bi.filter λy=>decide (y≠x)}).nd x=A.nd x:=by rw[IS,Aa (λh=>hne h.1.symm)]
  obtain⟨h3,E,D,i3,G,l3⟩:=w1.wr UU (k:=1) Az (v:= I 0) rfl (p:=⟨{A.nd x with GO:=0},(pN bB x).kv,(pN bB x).av,by have:=(pN bB x).ok;rw[xz,Tx] at this;exact this⟩) (by simp only[PN.row];rw[xz,Tx];rfl) rfl (B6 HK.Bi Tx).symm;have t:A.cut x=(A.set q {A.nd q with Bi:=(A.nd q).Bi.filter λy=>decide (y≠x)}).set x {A.nd x with GO:=0}:=by unfold Ar.cut;simp only;rw[c,Aa hp,Tx]
  refine⟨h3,_,?_,by rw[t];exact D,?_⟩;.have inc:=DB (show k<9223372036854775807 by have:=hb q;omega);rw[Ag,iX,aBb];simp only[abS,(Jo w g hx).Af,(Jo w g hq).Af,w.f1 hx,c,hp,w.f2 hq,b,j.Af,inc,r2.Af,z,E]
  .have aVe:h2.length=h.length:=by rw[<-uc,Ci,<-Ű,Ci]
   refine⟨Ac,λi hi Z7=>?_,λi hi=> .inl (by rw[i3,aDr] at hi;exact hi)⟩;have B:i≠n:=λd=>Z7 (d▸by simp[Gm]);have H:i≠id:=λd=>Z7 (d▸aKD);rw[G i B,<-uc,Aq (C3 B),<-Ű,Aq (C3 H)]
end
end Go.Am
end
