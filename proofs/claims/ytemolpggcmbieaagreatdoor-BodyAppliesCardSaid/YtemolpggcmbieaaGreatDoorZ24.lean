/- Lemmas -/
import Derived.Test.YtemolpggcmbieaaGreatDoorZ20
import Derived.Test.YtemolpggcmbieaaGreatDoorZ21
import Derived.Test.YtemolpggcmbieaaGreatDoorZ22
import Derived.Test.YtemolpggcmbieaaGreatDoorZ23
import Derived.Test.YtemolpggcmbieaaGreatDoorZ19
set_option linter.all false
set_option maxRecDepth 100000
section
namespace Go.Am
open Go
abbrev rh:=List Aa->Option IT
def jM(g:IT):rh:=λl=>match l with
 |[]=>some (g)
 |_=>none
def C2(g:Aa->IT):rh:=λl=>match l with
 |[a0]=>some (g a0)
 |_=>none
def CM(g:Aa->Aa->IT):rh:=λl=>match l with
 |[a0,a1]=>some (g a0 a1)
 |_=>none
def IZ(g:Aa->Aa->Aa->IT):rh:=λl=>match l with
 |[a0,a1,a2]=>some (g a0 a1 a2)
 |_=>none
def pC(g:Aa->Aa->Aa->Aa->IT):rh:=λl=>match l with
 |[a0,a1,a2,a3]=>some (g a0 a1 a2 a3)
 |_=>none
def Ô(g:Aa->Aa->Aa->Aa->Aa->IT):rh:=λl=>match l with
 |[a0,a1,a2,a3,a4]=>some (g a0 a1 a2 a3 a4)
 |_=>none
def Xr(f:Nat)(g:rh):Prop:=∀l t,g l=some t->t=B7 cx f l
def TF{f:Nat}{g:IT}(h:B7 cx f []=g):Xr f (jM g):=by
 intro l t ht;unfold jM at ht;split at ht;.cases ht;exact(h).symm
 .cases ht
def BF{f:Nat}{g:Aa->IT}(h:∀a0,B7 cx f [a0]=g a0):Xr f (C2 g):=by
 intro l t ht;unfold C2 at ht;split at ht;.cases ht;exact(h _).symm
 .cases ht
def Bs{f:Nat}{g:Aa->Aa->IT}(h:∀a0 a1,B7 cx f [a0,a1]=g a0 a1):Xr f (CM g):=by
 intro l t ht;unfold CM at ht;split at ht;.cases ht;exact(h _ _).symm
 .cases ht
def Ee{f:Nat}{g:Aa->Aa->Aa->IT}(h:∀a0 a1 a2,B7 cx f [a0,a1,a2]=g a0 a1 a2):Xr f (IZ g):=by
 intro l t ht;unfold IZ at ht;split at ht;.cases ht;exact(h _ _ _).symm
 .cases ht
def Xs{f:Nat}{g:Aa->Aa->Aa->Aa->IT}(h:∀a0 a1 a2 a3,B7 cx f [a0,a1,a2,a3]=g a0 a1 a2 a3):Xr f (pC g):=by
 intro l t ht;unfold pC at ht;split at ht;.cases ht;exact(h _ _ _ _).symm
 .cases ht
def rj{f:Nat}{g:Aa->Aa->Aa->Aa->Aa->IT}(h:∀a0 a1 a2 a3 a4,B7 cx f [a0,a1,a2,a3,a4]=g a0 a1 a2 a3 a4):Xr f (Ô g):=by
 intro l t ht;unfold Ô at ht;split at ht;.cases ht;exact(h _ _ _ _ _).symm
 .cases ht
def ĭ:List (Nat×rh):=[(13,CM t13),(14,C2 t14),(15,C2 t15),(16,C2 t16),(19,C2 t19),(20,CM t20),(21,CM Ĭ),(22,CM t22),(23,CM t23),(24,CM t24),(25,CM gl),(26,CM tG),(27,CM tH),(28,CM t28),(29,CM lN),(33,C2 t33),(35,jM t35),(36,CM t36),(38,CM t38),(39,CM t39),(41,IZ t41),(42,CM t42),(43,CM t43),(44,IZ t44),(45,IZ t45),(46,C2 t46),(47,C2 t47),(48,CM t48),(49,CM t49),(50,C2 t50),(51,IZ t51),(52,C2 t52),(53,C2 t53),(54,C2 t54),(56,C2 t56),(57,C2 t57),(58,CM t58),(59,pC t59),(60,CM t60),(61,jM t61),(62,C2 t62),(63,IZ t63),(64,CM t64),(65,Ô t65),(66,pC N_),(67,C2 t67),(68,CM t68),(69,CM t69),(70,C2 t70),(71,CM t71),(72,CM t72),(73,C2 t73),(74,IZ t74),(75,C2 t75),(76,jM t76),(77,jM t77),(78,CM t78),(79,C2 t79),(80,C2 t80),(83,C2 t83),(84,C2 t84),(89,jM t89),(90,CM t90),(91,C2 t91),(92,CM t92),(95,CM t95),(96,CM t96),(97,pC t97),(98,CM t98),(99,IZ t99),(100,CM aAS),(101,CM O_),(102,pC P_),(103,CM aAT),(104,CM Q_),(105,CM aAU),(106,CM aAV),(107,CM aAW),(108,IZ aAX),(109,IZ t109),(110,IZ aAY),(111,IZ aAZ),(112,CM aA0),(113,CM aA1),(114,C2 qu),(115,C2 aA2),(116,C2 aA3),(117,CM aA4),(118,CM R_),(119,CM aA5),(120,C2 aA6),(121,CM aA7),(122,CM jJ),(123,IZ aA8),(124,CM S_),(125,CM aA9),(126,IZ aBa),(127,CM t127),(128,C2 aBb),(129,IZ aBc),(130,C2 aBd),(131,C2 aBe),(132,IZ aBf),(133,C2 aBg),(134,CM aBh),(135,CM aBi),(136,CM aBj),(137,C2 aBk),(138,Ô T_),(139,CM U_),(140,C2 V_),(141,CM aBl),(142,IZ W_),(143,CM aBm),(145,CM X_),(147,CM aBn),(148,CM t148),(149,CM aBo),(150,CM Y_),(151,CM Z_),(152,IZ aBp),(153,C2 aBq),(154,C2 aBr),(155,C2 aBs),(156,C2 qv),(157,C2 aBt),(158,C2 aBu),(159,C2 aBv),(160,C2 YA),(161,C2 aBw),(162,C2 pA),(163,C2 da),(164,C2 t164),(165,C2 aBx),(166,C2 À),(167,C2 pB),(168,C2 qw),(169,C2 db),(170,C2 Á),(171,C2 Â),(172,C2 Ã),(173,C2 Ä),(174,C2 jK),(175,C2 Å),(176,C2 Æ),(177,C2 aBy),(178,C2 Ç),(179,C2 È),(180,C2 jL),(181,C2 dd),(182,C2 aBz),(188,CM aBA),(189,CM Ê),(190,CM aBB),(191,IZ aBC),(192,CM qx),(193,C2 aBD),(194,CM aBE),(195,C2 aBF),(196,CM aBG),(197,CM aBH),(198,C2 aBI),(199,C2 aBJ),(200,CM Ë),(201,IZ aBK),(202,CM aBL),(203,CM aBM),(204,C2 aBN),(205,CM aBO),(206,CM aBP),(207,CM aBQ),(208,CM aBR),(209,CM aBS),(210,IZ aBT),(211,IZ aBU),(212,CM aBV),(213,pC aBW),(214,IZ aBX),(215,IZ aBY),(216,jM aBZ),(217,CM aB0),(218,C2 aB1),(219,CM aB2),(220,C2 aB3),(221,C2 aB4),(222,C2 aB5),(223,CM aB6),(224,C2 aB7),(225,C2 aB8),(226,CM qy),(227,C2 Ì),(228,CM qz),(230,IZ aB9),(233,C2 aCa),(234,CM aCb),(235,C2 aCc),(236,CM aCd),(237,CM aCe),(238,C2 aCf),(239,C2 aCg),(240,CM aCh),(241,IZ aCi),(242,CM aCj),(243,C2 aCk),(244,CM aCl),(245,CM Í),(253,CM aCm),(254,C2 Î),(255,CM aCn),(256,CM aCo),(257,CM aCp),(258,CM aCq),(259,CM Ï),(260,C2 q_),(261,IZ aCr),(262,IZ aCs),(263,CM aCt),(264,IZ Ð),(265,IZ Ñ),(266,CM aCu),(267,C2 aCv),(268,CM aCw),(269,IZ Ò),(272,C2 aCx),(281,CM aCy),(282,C2 aCz),(283,C2 aCA),(284,CM aCB),(285,C2 aCC),(286,CM aFH),(100080,C2 Vy),(100084,C2 Vz),(200073,C2 VA)]
def rk:List (Nat×rh)->Prop
 |[]=>True
 |(f,g)::l=>Xr f g/\rk l
def rl:rk ĭ:=
 ⟨Bs aAz,BF aAA,BF aAB,BF aAC,BF ou,Bs bY,Bs Rd,Bs Px,Bs N7,Bs Ge,Bs L2,Bs Kt,Bs Ku,Bs TE,Bs Je,BF aAH,TF ov,Bs oR,Bs oz,Bs o_,Ee pc,Bs pd,Bs Xo,Ee oS,Ee pg,BF oT,BF ph,Bs pj,Bs oU,BF pk,Ee oV,BF cA,BF pq,BF pt,BF cB,BF pv,Bs px,Xs oW,Bs py,TF pz,BF p_,Ee qa,Bs oX,rj qb,Xs Py,BF qc,Bs qd,Bs qe,BF qg,Bs oY,Bs qh,BF Xp,Ee qi,BF cC,TF qj,TF ql,Bs qm,BF qn,BF oZ,BF qo,BF o7,TF aAP,Bs aAQ,BF aAR,Bs qp,Bs o8,Bs o9,Xs Xq,Bs qq,Ee qt,Bs tI,Bs cD,Xs cE,Bs tJ,Bs cF,Bs tK,Bs tL,Bs tM,Ee tN,Ee tO,Ee tP,Ee tQ,Bs tR,Bs tS,BF Vr,BF tT,BF tU,Bs tV,Bs cG,Bs tW,BF tX,Bs tY,Bs N8,Ee tZ,Bs cH,Bs uA,Ee uB,Bs uC,BF uD,Ee uE,BF uF,BF uG,Ee uH,BF uI,Bs uJ,Bs uK,Bs uL,BF uM,rj cI,Bs cJ,BF cK,Bs uN,Ee cL,Bs uO,Bs cM,Bs uP,Bs uQ,Bs uR,Bs cN,Bs cO,Ee uS,BF uT,BF uU,BF uV,BF Vs,BF uW,BF uX,BF uY,BF Lx,BF uZ,BF Qb,BF Sl,BF Sn,BF u0,BF cP,BF Qc,BF Vt,BF So,BF cQ,BF cR,BF cS,BF cT,BF N9,BF cU,BF cV,BF u9,BF cW,BF cX,BF Oa,BF Sp,BF vA,Bs vB,Bs cY,Bs vC,Ee vD,Bs Vu,BF vE,Bs vF,BF vG,Bs vH,Bs vI,BF vJ,BF vK,Bs cZ,Ee vL,Bs vM,Bs vN,BF vO,Bs vP,Bs vQ,Bs vR,Bs vS,Bs vT,Ee vU,Ee vV,Bs vW,Xs vX,Ee vY,Ee vZ,TF v8,Bs wA,BF wB,Bs wC,BF wD,BF wE,BF wF,Bs wG,BF wH,BF wI,Bs Vv,BF dA,Bs Vw,Ee wJ,BF wK,Bs wL,BF wM,Bs wN,Bs wO,BF wQ,BF wR,Bs wS,Ee wT,Bs wU,BF wV,Bs wW,Bs dB,Bs wX,BF dC,Bs wY,Bs wZ,Bs xA,Bs xB,Bs dD,BF Vx,Ee xC,Ee xD,Bs xE,Ee dE,Ee dF,Bs xF,BF xG,Bs xH,Ee dG,BF xI,Bs xJ,BF xK,BF xL,Bs xM,BF xN,Bs Ó,BF Re,BF Rf,BF Rg,trivial⟩
def Õ(f:Nat):List (Nat×rh)->List Aa->Option IT
 |[],_=>none
 |(k,g)::l,args=>if Nat.beq k f then g args else Õ f l args
def xO{f:Nat}{args:List Aa}{t:IT}:∀{l:List (Nat×rh)},rk l->Õ f l args=some t->t=B7 cx f args
 |[],_,h=>by cases h
 |(k,g)::l,ha,h=>by
  simp only[Õ] at h;split at h;.rename_i hk;have hk:k=f:=MF hk;subst hk;exact ha.1 _ _ h
  .exact xO ha.2 h
noncomputable def Į(f:FuncId)(args:List Aa):IT:=match Õ f ĭ args with
 |some t=>t
 |none=>B7 cx f args
def Rh:Į=B7 cx:=by
 funext f args;unfold Į;split;.rename_i t h;exact xO rl h
 .rfl
def Xt:Option Jy->Bool
 |some (.ret,[.bool true],_)=>true
 |_=>false
def YB{r:Option Jy}(h:Xt r=true):∃h',r=some (.ret,[.bool true],h'):=by
 unfold Xt at h;split at h;.exact⟨_,rfl⟩
 .cases h
end Go.Am
end
section
namespace Go.Am
open Go
section
def aKD(s:Ak):NW cx 204 [.str s] (.bool (decide (s∈JM))):=by rw[Tm,vO];rw[show aBN (.str s)=sw s (.ret .ret [tt]) (.ret .ret [ff]) JM from rfl,nc];exact⟨λh=>by simp[h],λh=>by simp[h]⟩
section
variable{Q:Kj}{h:Ah}{k:Aa->IT}{s:Ak}
@[simp] theorem rq:W cx (.BG 204 [.str s] k) Q h↔W cx (k (.bool (decide (s∈JM)))) Q h:=(aKD s).BG rfl rfl
end
def aKE(s:Ak):NW cx 221 [.str s] (.bool (decide (s∈P6\/s∈JM))):=by rw[Tm,wE];rw[show aB4 (.str s)=sw s (.ret .ret [tt]) (.BG 204 [.str s] λv=> .ret .ret [v]) P6 from rfl,nc];exact⟨λh=>by simp[h],λh=>by simp[h]⟩
def aKF(n:Int)(s:Ak):NW cx 208 [I n,.str s] (.bool (decide (n=3/\s∈NY))):=by
 rw[Tm,vS,aBR];by_cases h:n=3;.simp[h,NY];by_cases h1:s=[109,105]<;>by_cases h2:s=[109,110]<;>by_cases b:s=[109,111]<;>by_cases a:s=[109,115]<;>simp[h1,h2,b,a]
 .simp[h]
section
variable{Q:Kj}{h:Ah}{k:Aa->IT}{s:Ak}{n:Int}
@[simp] theorem r_:W cx (.BG 221 [.str s] k) Q h↔W cx (k (.bool (decide (s∈P6\/s∈JM)))) Q h:=(aKE s).BG rfl rfl
@[simp] theorem aFI:W cx (.BG 208 [I n,.str s] k) Q h↔W cx (k (.bool (decide (n=3/\s∈NY)))) Q h:=(aKF n s).BG rfl rfl
end
def Ö(n:Int)(s:Ak):NW cx 119 [I n,.str s] (.bool (D7 n s)):=by
 rw[Tm,tW];rw[show aA5 (I n) (.str s)= .op (.int .eql) [I n,I 3] λv=> .AH v (.op (.str .eql) [.str s,S aTK] λv=> .AH v (.ret .ret [tt]) (.BG 208 [I n,.str s] λv=> .ret .ret [v]))
  (.op (.int .eql) [I n,I 2] λv=> .AH v (sw s (.ret .ret [tt]) (.op (.str .eql) [.str s,S aTJ] λv=> .ret .ret [v]) [aVa,aT5])
  (.op (.int .eql) [I n,I 1] λv=> .AH v (sw s (.ret .ret [tt]) (.ret .ret [ff]) R4) (.ret .ret [ff]))) from rfl]
 by_cases a:n=3;.by_cases h:s=aTK<;>simp[a,D7,h]
 .by_cases h2:n=2;.by_cases ha:s=aVa<;>by_cases hb:s=aT5<;>simp[h2,nc,D7,Zv,ha,hb]
  .by_cases h1:n=1;.by_cases h:s∈R4<;>simp[h1,nc,D7,h]
   .simp[a,h2,h1,D7]
section
variable{Q:Kj}{h:Ah}{k:Aa->IT}{s:Ak}{n:Int}
@[simp] theorem Xu:W cx (.BG 119 [I n,.str s] k) Q h↔W cx (k (.bool (D7 n s))) Q h:=(Ö n s).BG rfl rfl
end
end
section
end
section
section
variable{Q:Kj}{h:Ah}{k:Aa->IT}{s:Ak}
end
section
variable{Q:Kj}{h:Ah}{k:Aa->IT}{s:Ak}{n:Int}
end
end
section
def aKG(a b:Int)(h:Ah):Ca cx 228 [.int .i32 a,.int .i32 b] h (.func (.func 269) [] [.BW [.int .i32 a],.BW [.int .i32 b]]) h:=by rw[Ae,Vw,qz];simp only[Ci]
def aKH(c a b:Int)(h:Ah):Ca cx 269 [.int .i32 c,.BW [.int .i32 a],.BW [.int .i32 b]] h (.bool (decide (a<=c/\c<=b))) h:=by rw[Ae,dG,Ò];simp only[Ci];refine⟨λh=>by simp[h],λh=>by simp[h]⟩
def aKI(c:Int):NW cx 272 [.int .i32 c] (.bool (decide (65<=c/\c<=90))):=by rw[Tm,xI,aCx];simp only[Ci,Nat.reduceLeDiff,↓reduceIte,(aKG _ _ _).Ad,Cz,(aKH _ _ _ _).Ad]
def aCD(s:Ak)(hs:s.length<=AK):NW cx 233 [.str s] (.str (EH s)):=by
 have eW:s.length<=140737488355328:=hs;rw[Tm,wK,aCa];have i:Ip [] (.str s)=some ([.cells ((Hl s 0).map Oy)],.CW 0 0 s.length 1):=by simp only[Ip,hs,BD];rfl
 have g:Ay (.len false) [.CW 0 0 s.length 1]=some (I (s.length:Int)):=rfl;simp only[Ci,i,g];refine B1 (λn:Nat=>[I (n:Int)]) (λn h=>n<=s.length/\h=[.cells ((Hl s n).map Oy)]) (λn=>s.length-n) 0 rfl ⟨Bd _,rfl⟩ ?_;rintro n h ⟨hn,rfl⟩;rcases Bk n s.length with hlt|Hh
 .have i1:(n:Int)<(s.length:Int):=by omega
  have f:Ay (.FH 1) [.CW 0 0 s.length 1,I (n:Int)]=some (Pt 0 n):=by simp[Ay,elemOf,LK,hlt]
  have e:Bi [.cells ((Hl s n).map Oy)] none (Pt 0 n)=some (.int .u8 (s[n].toNat:Int)):=nR (by rw[Cg,WV hlt];rfl);have d:IntKind.i32.wrap (s[n].toNat:Int)=(s[n].toNat:Int):=my (by have:=s[n].toNat_lt;omega);simp only[Ci,i1,AW,AR,AM,f,e,Vl,d,(aKI _).BG rfl rfl,CR (Ac:n<9223372036854775807)];refine⟨λhe=>?_,λhe=>?_⟩
  .have į:65<=s[n].toNat/\s[n].toNat<=90:=by omega
   have c:CH [.cells ((Hl s n).map Oy)] 1 (Pt 0 n) (.int .u8 ((s[n].toNat:Int)-65+97))=some [.cells (((Hl s n).map Oy).set n (.int .u8 ((s[n].toNat:Int)-65+97)))]:=iO (by rw[As,WU];exact hlt) rfl;simp only[Ci,nN,nM,wrap_u8 (Ac:0<=((s[n].toNat:Int)-65)/\((s[n].toNat:Int)-65)<=255),wrap_u8 (Ac:0<=((s[n].toNat:Int)-65+97)/\((s[n].toNat:Int)-65+97)<=255),c];refine By.next (n+1) rfl ⟨hlt,?_⟩ Ac;rw[R7 hlt,GK];have b:Oy (Js s[n])= .int .u8 ((s[n].toNat:Int)-65+97):=by unfold Oy;rw[bM į];congr 1;omega
   rw[b]
  .have eZ:¬(65<=s[n].toNat/\s[n].toNat<=90):=by omega
   refine By.next (n+1) rfl ⟨hlt,?_⟩ Ac;rw[R7 hlt,R6 eZ,Sa (WV hlt)]
 .have i1:¬(n:Int)<(s.length:Int):=by omega
  have en:n=s.length:=Ac;subst en;have a:KO [.cells ((Hl s s.length).map Oy)] (.CW 0 0 s.length 1)=some ([.Ds],.sl 1 (CY (EH s))):=by
   have hl:(EH s).length=s.length:=by simp[EH]
   rw[iN];simp only[KO,Il];rw[Af (by simp[hl])];rw[Pm (EH s) s.length 0 Ac];simp
  simp only[Ci,i1,A3,AR,AM,a,Bz.Yc (s:=EH s) .mk]
end
section
def Sq(l:Ak)(ws:List Ak):Prop:=Ev cx 267 [.str l] [] λr _=>r= .sl 1 (ws.map Cc)
def QG{l:Ak}{ws:List Ak}(n:Nat)(hr:(IT.run Į n (Į 267 [.str l]) []).map (λx=>(x.1,x.2.1))=some (.ret,[.sl 1 (ws.map Cc)])):Sq l ws:=by obtain⟨⟨x,vs,h⟩,a,b⟩:=IL.1 hr;cases b;rw[Rh] at a;exact⟨n,_,_,_,a,rfl,_,rfl,rfl⟩
def aFJ{l:Ak}{ws:List Ak}(hf:Sq l ws)(hw:∀w∈ws,w.length<=AK)(hn:ws.length<9223372036854775807)(name:Ak):NW cx 223 [.str name,.str l] (.str (DG name ws)):=by
 rw[Tm,wG,aB6];refine ja (hf.mono λr h1 e=>?_);subst e;have lI:Bz 1 (ws.map Cc) (.sl 1 (ws.map Cc)):= .mk;simp only[Ci,lI.len];refine B1 (λn:Nat=>[.str [],I (n:Int)]) (λn _=>n<=ws.length/\DG name ws=DG name (ws.drop n)) (λn=>ws.length-n) 0 rfl ⟨Bd _,rfl⟩ ?_;rintro n h ⟨Ø,ha⟩;rcases Bk n ws.length with hlt|Hh
 .have i1:(n:Int)<((ws.map Cc).length:Int):=Ed;have dH:n<(ws.map Cc).length:=by simpa using hlt
  have a:(ws.map Cc)[n]=[.str ws[n]]:=by simp[Cc]
  rw[Az hlt,DG] at ha;simp only[Ci,i1,AW,AR,AM,lI.FH dH,a,(aCD ws[n] (hw _ (A5 hlt))).BG rfl rfl,CR (Ac:n<9223372036854775807)];refine⟨λhe=>?_,λhe=>?_⟩;.rw[ha,Af he]
  .rw[Ag he] at ha;exact By.next (n+1) rfl ⟨hlt,ha⟩ Ac
 .have i1:¬(n:Int)<((ws.map Cc).length:Int):=Ed;rw[AT Hh,DG] at ha;simp only[Ci,i1,A3,AR,AM,ha]
def UZ:Sq Tn Ni:=QG 5000 AF
def U4:Sq To Nj:=QG 5000 AF
def aKJ(s:Ak):NW cx 137 [.str s] (.str (DG s Ni)):=by rw[Tm,uM,show aBk (.str s)= .BG 223 [.str s,.str Tn] λv=> .ret .ret [v] from rfl];rw[(aFJ (l:=Tn) UZ D8 D8 s).BG rfl rfl];simp only[Ci]
def aFK(s:Ak):NW cx 222 [.str s] (.str (DG s Nj)):=by rw[Tm,wF,show aB5 (.str s)= .BG 223 [.str s,.str To] λv=> .ret .ret [v] from rfl];rw[(aFJ (l:=To) U4 D8 D8 s).BG rfl rfl];simp only[Ci]
end
section
def f187{v:Aa}{l:List A7}(hv:A8 l v)(hn:l.length<9223372036854775807)(h:Ah){f:FuncId}{p:A7->Bool}(hp:∀a∈l,Ca cx f [.agg a.row] h (.bool (p a)) h)(hf:f<=99999):
  Ca cx 192 [v,.func (.func f) [] []] h (I (Cf p 0 l)) h:=by
 rw[Ae,Vu,qx];have hlen:(l.map A7.row).length=l.length:=As ..;simp only[Ci,Bz.len hv];refine B1 (λn:Nat=>[I 0,I (n:Int)]) (λn h1=>n<=l.length/\Cf p 0 l=Cf p n (l.drop n)/\h1=h) (λn=>l.length-n) 0 rfl ⟨Bd _,rfl,rfl⟩ ?_;rintro n h1 ⟨Ø,ha,rfl⟩;rcases Bk n l.length with hlt|Hh
 .have i1:(n:Int)<((l.map A7.row).length:Int):=by rw[hlen];omega
  have c:(l.map A7.row)[n]'(by rw[hlen];exact hlt)=A7.row l[n]:=Ax;have b:E1 (A7.row l[n]) 0 (some 3)=some (.agg (A7.row l[n])):=by simp[A7.row]
  rw[Az hlt,Cf] at ha;simp only[Ci,↓reduceIte,Cz,hf,Bq,i1,AW,AR,AM,Bz.FH hv (show n<(l.map A7.row).length by rw[hlen];exact hlt),c,b,(hp _ (A5 hlt)).Ad];rw[C9];refine⟨λhe=>?_,λhe=>?_⟩;.rw[ha,Af he]
  .rw[Ag (by simp[he])] at ha;simp only[Ci,CR (Ac:n<9223372036854775807)];exact By.next (n+1) rfl ⟨hlt,ha,rfl⟩ Ac
 .have i1:¬(n:Int)<((l.map A7.row).length:Int):=by rw[hlen];omega
  rw[AT Hh,Cf] at ha;simp only[Ci,↓reduceIte,Cz,hf,i1,A3,AR,AM,ha]
def aKK(a:A7)(h:Ah):Ca cx 193 [.agg a.row] h (.bool (sJ a)) h:=by rw[Ae,vE,aBD,A7.row];simp only[Ci,sJ];refine⟨λh=>by simp[h],λh=>by simp[h]⟩
def sd(a b:Ak)(ha:a.length<=AK)(hb:b.length<=AK):NW cx 147 [.str a,.str b] (.bool (decide (EH a=EH b))):=by rw[Tm,uP,aBn];simp only[Ci,(aCD a ha).BG rfl rfl,(aCD b hb).BG rfl rfl]
def f96{v:Aa}{l:List A7}(hv:A8 l v)(hl:∀a∈l,a.value.length<=AK)(hn:l.length<9223372036854775807)(n:Int)(s:Ak)(h:Ah):Ca cx 99 [I n,.str s,v] h (.bool (Iv n s l)) h:=by
 rw[Ae,qt,t99];simp only[Ci,Xu,(f187 hv hn h (λa _=>aKK a h) AI).Ad,Iv];refine⟨λh2=>by simp[h2],λh2=>⟨λb=>by simp[h2,b],λb=>⟨λg=>by simp[h2,b,g],λg=>?_⟩⟩⟩;rw[Ag h2,Ag b,Ag g];rcases Gs (p:=sJ) (l:=l) (k:=0) with⟨f,d⟩|⟨k,a,f,d,i⟩
 .rw[f,d];simp
 .rw[f,i,BC];obtain⟨hk,e⟩:=Aj.1 d;have c:k<(l.map A7.row).length:=by simpa using hk
  have o:(l.map A7.row)[k]=A7.row a:=by simp[e]
  have i1:(0:Int)<=(k:Int):=Ac;have Qk:a.value.length<=AK:=hl a (e▸A5 hk);have m:EH sK=sK:=Pn D8;have j:EH bN=bN:=Pn D8;simp only[Ci,i1,AW,AR,AM,Bz.FH hv c,o,A7.row,(sd a.value sK Qk AI).BG rfl rfl,(sd a.value bN Qk AI).BG rfl rfl,m,j];refine⟨λh=>by simp[h],λh=>by simp[h]⟩
end
section
section
variable{U:Type}{f:U->List Aa}{l l2:List U}{v v2:Aa}{z b:Nat}{k k2:IntKind}
end
section
variable{h:Ah}{p:Aa}{l:List Item}
def TG(hs:bk h p l):Ca cx 116 [p] h (I (l.length:Int)) h:=by
 rw[Ae,tU,aA3];rcases hs with⟨rfl,rfl⟩|⟨id,o,v,rfl,hc,hv⟩
 .simp
 .simp only[Ci,HF,hc.load,Bl,hv.Ha]
def U5(hs:bk h p l)(i:Int):Ca cx 117 [p,I i] h (.agg (DK l i).row) h:=by
 rw[Ae,tV,aA4];simp only[Ci,↓reduceIte,Bv,(TG hs).Ad];refine⟨λhi=>by rw[WW (.inl hi)];simp[Item.row,Item.zero],λhi=>⟨λhl=>by rw[WW (.inr hl)];simp[Item.row,Item.zero],λhl=>?_⟩⟩;rcases hs with⟨rfl,rfl⟩|⟨id,o,v,rfl,hc,hv⟩
 .simp at hl;omega
 .obtain⟨n,rfl⟩:=SV (Ac:0<=i);have hn:n<l.length:=Ac;simp only[Ci,Nat.reduceLeDiff,↓reduceIte,JB,hc.load,Bl,hv.Dh hn,HI hn]
def f39(hs:bk h p l)(hn:l.length<=1000000000):Ca cx 130 [p] h (.agg (E4 l).row) h:=by rw[Ae,uF,aBd];simp only[Ci,JB,(TG hs).Ad,DJ (Ac: -9223372036854775808<=(l.length:Int)-1) (Ac:(l.length:Int)-1<9223372036854775808),(U5 hs _).Ad,E4]
def U7(F:Aa)(h:Ah)(q:Item->Bool):Prop:=∃f caps,F= .func (.func f) [] caps/\f<=99999/\∀a:Item,Ca cx f (.agg a.row::caps) h (.bool (q a)) h
def U7.D4{F:Aa}{q:Item->Bool}(hF:U7 F h q)(a:Item){k:Aa->IT}{Q:Kj}:W cx (.D4 F [.agg a.row] k) Q h↔W cx (k (.bool (q a))) Q h:=by obtain⟨f,caps,rfl,hf,hr⟩:=hF;rw[Mu];simp only[Cz,hf,↓reduceIte,BO,CC,LU,(hr a).Ad]
def aCE(hs:bk h p l)(hn:l.length<=1000000000){F:Aa}{q:Item->Bool}(hF:U7 F h q):Ca cx 205 [p,F] h (I (AX q l)) h:=by
 obtain⟨f,caps,rfl,hf,hr⟩:=hF;rw[Ae,vP,aBO];simp only[Ci,(TG hs).Ad,DJ (Ac: -9223372036854775808<=(l.length:Int)-1) (Ac:(l.length:Int)-1<9223372036854775808)];refine B1 (λn:Nat=>[I 0,I ((n:Int)-1)]) (λn h1=>n<=l.length/\AX q l=AX q (l.take n)/\h1=h) (λn=>n) l.length rfl ⟨Ab _,by rw[BZ],rfl⟩ ?_;rintro n h1 ⟨Ø,ha,rfl⟩;cases n with
 |zero=>have i1:¬(0:Int)<=((0:Nat):Int)-1:=Ac;rw[ha];simp only[Ci,↓reduceIte,Cz,hf,i1,A3,AR,AM,Pp]
 |succ n=>
  have i1:(0:Int)<=((n+1:Nat):Int)-1:=Ac;have a:((n+1:Nat):Int)-1=(n:Int):=Ac;rcases hs with⟨rfl,rfl⟩|⟨id,o,v,rfl,hc,hv⟩
  .simp at Ø
  .rw[NZ Ac] at ha;simp only[Ci,Nat.reduceLeDiff,↓reduceIte,Cz,JB,hf,a,(Ac:(0:Int)<=(n:Int)),AW,AR,AM,hc.load,Bl,hv.Dh (Ac:n<l.length),(hr l[n]).Ad,DJ (Ac: -9223372036854775808<=(n:Int)-1) (Ac:(n:Int)-1<9223372036854775808)];rw[C9];refine⟨λhe=>?_,λhe=>?_⟩;.rw[ha,Af he]
   .rw[Ag (by simp[he])] at ha;exact By.next n rfl ⟨Ac,ha,rfl⟩ Ac
def aKL{v:Aa}{ws:List Ak}(hv:HN ws v)(hn:ws.length<=1000000000)(s:Ak)(h:Ah):Ca cx 255 [v,.str s] h (I (Cf (λw=>decide (s=w)) 0 ws)) h:=by
 rw[Ae,wY,aCn];have hv:Bz 1 (ws.map Cc) v:=hv;simp only[Ci,hv.Ha];refine B1 (λn:Nat=>[I 0,I (n:Int)]) (λn h1=>n<=ws.length/\Cf (λw=>decide (s=w)) 0 ws=Cf (λw=>decide (s=w)) n (ws.drop n)/\h1=h) (λn=>ws.length-n) 0 rfl ⟨Bd _,rfl,rfl⟩ ?_;rintro n h1 ⟨Ø,ha,rfl⟩;rcases Bk n ws.length with hlt|Hh
 .have i1:(n:Int)<(ws.length:Int):=by omega
  rw[Az hlt,Cf] at ha;simp only[Ci,i1,AW,AR,AM,hv.Dh hlt,Cc,CR (Ac:n<9223372036854775807)];refine⟨λhe=>?_,λhe=>?_⟩;.rw[ha,Af (by simpa using he)]
  .rw[Ag (by simpa using he)] at ha;exact By.next (n+1) rfl ⟨hlt,ha,rfl⟩ Ac
 .have i1:¬(n:Int)<(ws.length:Int):=by omega
  rw[AT Hh,Cf] at ha;simp only[Ci,i1,A3,AR,AM,ha]
def Ù{v:Aa}{ws:List Ak}(hv:HN ws v)(hn:ws.length<=1000000000)(s:Ak)(h:Ah):Ca cx 194 [v,.str s] h (.bool (decide (s∈ws))) h:=by rw[Ae,vF,aBE];simp only[Ci,(aKL hv hn s h).Ad,zy]
def jN{v:Aa}{ws:List Ak}(hv:HN ws v)(hn:ws.length<=1000000000)(a:Item)(h:Ah):Ca cx 135 [.agg a.row,v] h (.bool (Bf ws a)) h:=by rw[Ae,uK,aBi];simp only[Ci,JB,(Ù hv hn _ h).Ad,Bf];refine⟨λh1=>by simp[h1],λh1=>by simp[h1]⟩
def f289(a:Item)(h:Ah):Ca cx 282 [.agg a.row] h (.bool (Bf R5 a)) h:=by rw[Ae,xK,aCz];simp only[Ci,JB,nS,(jN (ws:=R5) CO AI a h).Ad]
def f290(a:Item)(h:Ah):Ca cx 283 [.agg a.row] h (.bool (!Bf Pl a)) h:=by rw[Ae,xL,aCA];simp only[Ci,JB,iP,(jN (ws:=Pl) CO AI a h).Ad]
def aKM(n:Int)(j:n≠4)(i:n≠5)(a:Item)(h:Ah):Ca cx 284 [.agg a.row,.BW [I n]] h (.bool (N0 n a)) h:=by have b1:=jN (ws:=Vm) CO AI a h;have b2:=jN (ws:=bL) CO AI a h;have b3:=jN (ws:=[aTw]) CO AI a h;rw[Ae,xM,aCB];simp only[Ci,JB,Xu,nT,bl,bm,b1.Ad,b2.Ad,b3.Ad,N0,j,i];refine⟨λh1=>by simp[h1],λh1=>⟨λh2=>by simp[h2],λh2=>?_⟩⟩;rw[C9];simp only[h1,h2,or_self,DO];refine⟨λd=>by simp[d],λd=>⟨λe=>?_,λe=>⟨λc=>by simp[d,c],λc=>by simp[d,e,c]⟩⟩⟩;rw[C9];exact⟨λc=>by simp[d,e,c],λc=>⟨λg=>Ac,λg=>by simp[d,c,g]⟩⟩
def f264(n:Int)(h:Ah):∃F,Ca cx 260 [I n] h F h/\U7 F h (N0 n)/\F.cells=[F]:=by
 by_cases d:n=4
 .refine⟨.func (.func 282) [] [],?_,⟨_,_,rfl,AI,λa=>?_⟩,rfl⟩;.rw[Ae,Vx,q_];simp only[Ci,d,AW,AR,AM]
  .have:=f289 a h;simpa[N0,d] using this
 .by_cases c:n=5
  .refine⟨.func (.func 283) [] [],?_,⟨_,_,rfl,AI,λa=>?_⟩,rfl⟩;.rw[Ae,Vx,q_];simp only[Ci,c,AW,AR,AM];simp
   .have:=f290 a h;simpa[N0,c] using this
  .refine⟨.func (.func 284) [] [.BW [I n]],?_,⟨_,_,rfl,AI,λa=>aKM n d c a h⟩,rfl⟩;rw[Ae,Vx,q_];simp only[Ci,d,c,A3,AR,AM]
def aKN{g d:Aa}{q e:Item->Bool}(h1:U7 g h q)(h2:U7 d h e)(a:Item):Ca cx 261 [.agg a.row,.BW [g],.BW [d]] h (.bool (q a||e a)) h:=by have m:=λk Q=>h1.D4 a (k:=k) (Q:=Q);have j:=λk Q=>h2.D4 a (k:=k) (Q:=Q);rw[Ae,xC,aCr];obtain⟨f,caps,rfl,hf,i⟩:=h1;obtain⟨f',c,rfl,lf,r2⟩:=h2;simp only[Ci,↓reduceIte,Cz,JB,hf,lf,(i a).Ad,(r2 a).Ad];rw[C9];exact⟨λh=>by simp[h],λh=>by simp[h]⟩
def aFL(hs:bk h p l)(hn:l.length<=1000000000)(n:Int){F:Aa}{q:Item->Bool}(hF:U7 F h q):Ca cx 201 [p,I n,F] h (.bool (Pq q (N0 n) l.reverse)) h:=by
 obtain⟨G,g,aFM,Jo⟩:=f264 n h;have c:F.cells=[F]:=by obtain⟨f,caps,rfl,hf,_⟩:=hF;rfl
 have d:=hF;have hfit:U7 (.func (.func 261) [] [.BW [F],.BW [G]]) h (λa=>q a||N0 n a):=⟨261,_,rfl,AI,λa=>aKN hF aFM a⟩;rw[Ae,vL,aBK];simp only[Ci,↓reduceIte,Cz,c,g.Ad,Jo,(aCE hs hn hfit).Ad];rw[<-nU l true];rcases DY (q:=λa=>q a||N0 n a) (l:=l) with⟨h1,h2⟩|⟨k,hk,h1,h2,i⟩
 .simp[h1]
 .have e:(0:Int)<=(k:Int)/\(k:Int).toNat<l.length:=⟨Ac,by simpa using hk⟩;simp only[h1];rw[lD e];rcases hs with⟨rfl,rfl⟩|⟨id,o,v,rfl,hc,hv⟩
  .simp at hk
  .obtain⟨f,caps,rfl,hf,hr⟩:=d;simp only[Ci,Nat.reduceLeDiff,↓reduceIte,JB,hf,e.1,AW,AR,AM,hc.load,Bl,hv.Dh hk,(hr l[k]).Ad,BH]
def aKO{v:Aa}{ws:List Ak}(hv:HN ws v)(hn:ws.length<=1000000000)(a:Item)(h:Ah):Ca cx 202 [.agg a.row,.BW [v]] h (.bool (Bf ws a)) h:=by have b:=jN hv hn a h;rw[Ae,vM,aBL];simp only[Ci,JB,b.Ad]
def aFN(hs:bk h p l)(hn:l.length<=1000000000)(n:Int){v:Aa}{ws:List Ak}(hv:HN ws v)(hw:ws.length<=1000000000):Ca cx 111 [p,I n,v] h (.bool (Pq (Bf ws) (N0 n) l.reverse)) h:=by have hfit:U7 (.func (.func 202) [] [.BW [v]]) h (Bf ws):=⟨202,_,rfl,AI,λa=>aKO hv hw a h⟩;rw[Ae,tQ,aAZ];simp only[Ci,hv.cells,(aFL hs hn n hfit).Ad]
def aKP(node:Int)(a:Item)(h:Ah):Ca cx 263 [.agg a.row,.BW [I node]] h (.bool (BU node a)) h:=by rw[Ae,xE,aCt,Item.row];simp only[Ci,JB,BU]
def aFO(hs:bk h p l)(hn:l.length<=1000000000)(n node:Int):Ca cx 211 [p,I n,I node] h (.bool (Pq (BU node) (N0 n) l.reverse)) h:=by have hfit:U7 (.func (.func 263) [] [.BW [I node]]) h (BU node):=⟨263,_,rfl,AI,λa=>aKP node a h⟩;rw[Ae,vV,aBU];simp only[Ci,(aFL hs hn n hfit).Ad]
def aKQ(node:Int)(a:Item)(h:Ah):Ca cx 206 [.agg a.row,.BW [I node]] h (.bool (BU node a)) h:=by rw[Ae,vQ,aBP,Item.row];simp only[Ci,JB,BU]
def YC(hs:bk h p l)(hn:l.length<=1000000000)(node:Int):Ca cx 113 [p,I node] h (I (AX (BU node) l)) h:=by have hfit:U7 (.func (.func 206) [] [.BW [I node]]) h (BU node):=⟨206,_,rfl,AI,λa=>aKQ node a h⟩;rw[Ae,tS,aA1];simp only[Ci,(aCE hs hn hfit).Ad]
def f232(s:Ak)(a:Item)(h:Ah):Ca cx 219 [.agg a.row,.BW [.str s]] h (.bool (Bf [s] a)) h:=by have b:=jN (ws:=[s]) CO (Ax:[s].length<=1000000000) a h;rw[Ae,wC,aB2];simp only[Ci,JB,Es (ws:=[s]) (args:=[.str s]) rfl Ax,b.Ad]
def f144(hs:bk h p l)(hn:l.length<=1000000000)(s:Ak):Ca cx 127 [p,.str s] h (I (AX (Bf [s]) l)) h:=by have hfit:U7 (.func (.func 219) [] [.BW [.str s]]) h (Bf [s]):=⟨219,_,rfl,AI,λa=>f232 s a h⟩;rw[Ae,uC,t127];simp only[Ci,(aCE hs hn hfit).Ad]
end
end
section
section
variable{h:Ah}{p v:Aa}{l:List Item}
def aFP(hv:Dy l v)(a:Item){n:Nat}(hn:n<=l.length)(hb:l.length<=1000000000):∃u,Ca cx 191 [v,.agg a.row,I (n:Int)] h u h/\Dy (l.take n++a::l.drop n) u:=by
 have PV:(l.length+1)*40<=AK:=by have:AK=140737488355328:=rfl;omega
 obtain⟨t,q,h1⟩:=Bz.Sb hv (k:= .i64) hn;obtain⟨s,m,h2⟩:=Bz.Po h1 (b:=40) (by rw[AB];have:AK=140737488355328:=rfl;omega);have j:=Bz.Zw (a:=a) h2 (b:=40) (by rw[AB];have:AK=140737488355328:=rfl;omega);obtain⟨r,i,e⟩:=Bz.sL hv (k:= .i64) hn;obtain⟨d,g,c⟩:=Bz.ni (v:= .sl 4 ((l.take n++[a]).map Item.row)) .mk e (b:=40) (by rw[Ap,AB,Bj,Bc];have:AK=140737488355328:=rfl;omega);refine⟨d,?_,by rw[AQ] at c;exact c⟩;rw[Ae,vD,aBC];simp only[Ci,JB,q,m,nl,j,i,g]
def f95{id o:Nat}(hs:Lt h id o l)(hb:l.length<=1000000000)(a:Item):∃u,Ca cx 98 [Pt id o,.agg a.row] h (.tuple []) (put h id o u)/\Dy (l++[a]) u:=by obtain⟨v,hc,hv⟩:=hs;obtain⟨u,hr,hu⟩:=aFP (h:=h) hv a (n:=l.length) (Ab _) hb;rw[BZ,GQ] at hu;refine⟨u,?_,hu⟩;rw[Ae,qq,t98];simp only[Ci,JB,Rr,PM,hc.load,Bl,Bz.Ha hv,hr.Ad,hc.store hu.cells]
def aKS(hs:bk h p l)(hb:l.length<=1000000000)(node:Int):Ca cx 212 [p,I node] h (I (Et node l)) h:=by
 rw[Ae,vW,aBV];have a: -1<=AX (BU node) l/\AX (BU node) l<l.length+1:=by rcases DY (q:=BU node) (l:=l) with⟨h1,h2⟩|⟨n,hn,h1,h2,c⟩<;>rw[h1]<;>omega
 simp only[Ci,(YC hs hb node).Ad,Vn (Ac: -9223372036854775808<=AX (BU node) l+1) (Ac:AX (BU node) l+1<9223372036854775808)];rw[Mw];by_cases JC:AX (BU node) l<0;.rw[Af JC];refine B1 (λn:Nat=>[I 0,I (AX (BU node) l+1)]) (λn h1=>h1=h) (λn=>n) 0 rfl rfl ?_;rintro n h1 rfl;have i1:¬0<=AX (BU node) l:=Ac;simp only[Ci,i1,A3,AR,AM]
 .rw[Ag JC];have i0:0<=AX (BU node) l:=Ac;obtain⟨m,hm⟩:=SV i0;refine B1 (λn:Nat=>[I 0,I (n:Int)]) (λn h1=>Gk Dp l (m+1)=Gk Dp l n/\h1=h) (λn=>l.length-n) (m+1) (by rw[hm];rfl) ⟨rfl,rfl⟩ ?_;rw[hm,BH];rintro n h1 ⟨ha,rfl⟩;simp only[Ci,(Ac:(0:Int)<=(m:Int)),AW,AR,AM,(TG hs).Ad];rcases Bk n l.length with hlt|Hh
  .have i1:(n:Int)<(l.length:Int):=by omega
   rw[bQ hlt] at ha;rcases hs with⟨rfl,rfl⟩|⟨id,o,v,rfl,hc,hv⟩
   .simp at hlt
   .simp only[Ci,JB,i1,AW,AR,AM,hc.load,Bl,Bz.Dh hv hlt,Xu,CR (Ac:n<9223372036854775807)];rw[C9];refine⟨λhe=>?_,λhe=>?_⟩;.rw[ha,Af (by exact he)]
    .rw[Ag (by simp[Dp,he])] at ha;exact By.next (n+1) rfl ⟨ha,rfl⟩ Ac
  .have i1:¬(n:Int)<(l.length:Int):=by omega
   rw[Yx Hh] at ha;simp only[Ci,i1,A3,AR,AM,ha]
end
end
section
def Xv(F:Aa)(q:Item->Bool):Prop:=∃f caps,F= .func (.func f) [] caps/\f<=99999/\∀(a:Item) (h:Ah),Ca cx f (.agg a.row::caps) h (.bool (q a)) h
section
variable{h:Ah}{p v:Aa}{l:List Item}
def f42{id o:Nat}(hs:Lt h id o l)(hb:l.length<=1000000000)(h2:2<=l.length):∃u,Ca cx 56 [Pt id o] h (.agg (E4 l).row) (put h id o u)/\Dy (l.take (l.length-1)) u:=by obtain⟨v,hc,hv⟩:=(show Lt h id o l from hs);obtain⟨u,e,hu⟩:=Bz.Sb hv (k:= .i64) (Ac:l.length-1<=l.length);refine⟨u,?_,hu⟩;have a:(l.length:Int)-1=((l.length-1:Nat):Int):=Ac;rw[Ae,cB,t56];simp only[Ci,JB,(TG hs.at).Ad,(f39 hs.at hb).Ad,hc.load,Bl,Bz.Ha hv,DJ (Ac: -9223372036854775808<=(l.length:Int)-1) (Ac:(l.length:Int)-1<9223372036854775808),a,e,hc.store (Bz.cells hu),(Ac:¬(l.length:Int)<2),A3,AR,AM]
def f146{id o:Nat}(hs:Lt h id o l)(hb:l.length<=1000000000){B A:Aa}{b a:Item->Bool}(hB:Xv B b)(e:Xv A a):
  ∃u,Ca cx 132 [Pt id o,B,A] h (I ((l.length:Int)-((DV b a l).length:Int))) (put h id o u)/\Dy (DV b a l) u:=by
 obtain⟨g,q,rfl,c,rb⟩:=hB;obtain⟨fa,ca,rfl,hfa,ra⟩:=e;have hlt:=hs.lt;have Pb:Ev cx 132 [Pt id o,.func (.func g) [] q,.func (.func fa) [] ca] h λr h'=>r= I ((l.length:Int)-((DV b a l).length:Int))/\∃u,h'=put h id o u/\Dy (DV b a l) u:=by
  unfold Ev;rw[uH,aBf];refine B1 (λn:Nat=>[I ((l.length:Int)-(n:Int))]) (λn h1=>n<=l.length/\(∃u,h1=put h id o u/\Dy (l.take n) u)/\DV b a l=DV b a (l.take n)) (λn=>n) l.length Ax ⟨Ab _,by rw[BZ];exact hs.bS,by rw[BZ]⟩ ?_;rintro n h1 ⟨hn,⟨u,rfl,hu⟩,ha⟩;have Mh:Lt (put h id o u) id o (l.take n):= .aAl hlt hu;have rI:(l.take n).length=n:=by rw[AB];omega
  simp only[Ci,↓reduceIte,(TG Mh.at).Ad,rI];match n,hn,hu,ha,Mh,rI with
  |0,hn,hu,ha,Mh,rI=>rw[iQ (l:=l.take 0) Ax] at ha;simp only[Ci,(Ac:¬(1:Int)<((0:Nat):Int)),A3,AR,AM];exact⟨_,rfl,by rw[ha];rfl,u,rfl,by rw[ha];exact hu⟩
  |1,hn,hu,ha,Mh,rI=>rw[iQ (l:=l.take 1) (by rw[rI];exact Ab _)] at ha;simp only[Ci,(Ac:¬(1:Int)<((1:Nat):Int)),A3,AR,AM];exact⟨_,rfl,by rw[ha,rI],u,rfl,by rw[ha];exact hu⟩
  |m+2,hn,hu,ha,Mh,rI=>
   have hm:m+1<l.length:=Ac;have j:((l.length:Int)-((m+2:Nat):Int))+1=(l.length:Int)-((m+1:Nat):Int):=Ac;obtain⟨d,hr,Ql⟩:=f42 Mh Ac Ac;rw[WX hm] at hr;have i:(l.take (m+2)).take ((l.take (m+2)).length-1)=l.take (m+1):=by rw[rI,F6,CG Ac];rfl
   rw[i] at Ql;rw[bO] at hr;have aFR:=f39 Mh.at Ac;rw[WX hm] at aFR;rw[bq hm] at ha;simp only[Ci,↓reduceIte,Cz,hfa,c,(Ac:(1:Int)<((m+2:Nat):Int)),AW,AR,AM,aFR.Ad,(rb _ _).Ad,hr.Ad,(ra _ _).Ad,Vn (Ac: -9223372036854775808<=((l.length:Int)-((m+2:Nat):Int))+1) (Ac:((l.length:Int)-((m+2:Nat):Int))+1<9223372036854775808),j];rw[C9,C9];refine⟨λS0=>⟨λma=>?_,λma=>?_⟩,λS0=>?_⟩
   .have S0:b l[m+1]=false:=by simpa using S0
    rw[Ag (by simp[S0]),Af ma] at ha;exact⟨_,rfl,by rw[ha,AB,CG Ac],d,rfl,by rw[ha];exact Ql⟩
   .have S0:b l[m+1]=false:=by simpa using S0
    rw[Ag (by simp[S0]),Ag (by simp[ma])] at ha;exact By.next (m+1) rfl ⟨Ac,⟨d,rfl,Ql⟩,ha⟩ Ac
   .have S0:b l[m+1]=true:=by simpa using S0
    rw[Af S0] at ha;exact⟨_,rfl,by rw[ha,rI],u,rfl,by rw[ha];exact hu⟩
 obtain⟨r,h',hr,rfl,u,rfl,hu⟩:=Pb.ret;exact⟨u,hr,hu⟩
def Ob:Xv (.func (.func 133) [] []) Db:=⟨_,_,rfl,AI,λa h=>by rw[Ae,uI,aBg];simp only[Ci,JB,Db]⟩
def pD{w:Aa}{ws:List Ak}(hw:HN ws w)(hn:ws.length<=1000000000):Xv (.func (.func 134) [] [.BW [w]]) (Bf ws):=⟨_,_,rfl,AI,λa h=>by rw[Ae,uJ,aBh];simp only[Ci,JB,(jN hw hn a h).Ad]⟩
def dI(s:Ak):Xv (.func (.func 203) [] [.BW [.str s]]) (EB s):=⟨_,_,rfl,AI,λa h=>by
 rw[Ae,vN,aBM];simp only[Ci,JB,rq,EB];refine⟨λh1=>by simp[h1],λh1=>?_⟩;rw[C9];refine⟨λh2=>?_,λh2=>?_⟩
 .have h2:a.name∉JM:=by simpa using h2
  simp[h2]
 .have h2:a.name∈JM:=by simpa using h2
  have h1:a.A9=1:=by simpa using h1
  simp[h2,h1]⟩
def YD:Xv (.func (.func 220) [] []) DQ:=⟨_,_,rfl,AI,λa h=>by
 rw[Ae,wD,aB3];simp only[Ci,JB,r_,DQ];refine⟨λh1=>by simp[h1],λh1=>?_⟩;have h1:a.A9=1:=by simpa using h1
 simp[h1]⟩
def dJ(node:Int):Xv (.func (.func 207) [] [.BW [I node]]) (BU node):=⟨_,_,rfl,AI,λa h=>by rw[Ae,vR,aBQ];simp only[Ci,JB,BU]⟩
def aCF{id o:Nat}(hs:Lt h id o l)(hb:l.length<=1000000000)(s:Ak):
  ∃u,Ca cx 112 [Pt id o,.str s] h (I ((l.length:Int)-((DV (EB s) Db l).length:Int))) (put h id o u)/\Dy (DV (EB s) Db l) u:=by
 obtain⟨u,hr,hu⟩:=f146 hs hb (dI s) Ob;exact⟨u,by rw[Ae,tR,aA0];simp only[Ci,hr.Ad],hu⟩
def f66{id o:Nat}(hs:Lt h id o l)(hb:l.length<=1000000000){w:Aa}{ws:List Ak}(hw:HN ws w)(hn:ws.length<=1000000000):
  ∃u,Ca cx 58 [Pt id o,w] h (I ((l.length:Int)-((DV Db (Bf ws) l).length:Int))) (put h id o u)/\Dy (DV Db (Bf ws) l) u:=by
 obtain⟨u,hr,hu⟩:=f146 hs hb Ob (pD hw hn);exact⟨u,by rw[Ae,px,t58];simp only[Ci,HN.cells hw,hr.Ad],hu⟩
def aKT{id o:Nat}(hs:Lt h id o l)(hb:l.length<=1000000000):
  ∃u,Ca cx 128 [Pt id o] h (I ((l.length:Int)-((DV DQ Db l).length:Int))) (put h id o u)/\Dy (DV DQ Db l) u:=by
 obtain⟨u,hr,hu⟩:=f146 hs hb YD Ob;exact⟨u,by rw[Ae,uD,aBb];simp only[Ci,hr.Ad],hu⟩
def aFS{id o:Nat}(hs:Lt h id o l)(hb:l.length<=1000000000)(node:Int):
  ∃u,Ca cx 118 [Pt id o,I node] h (I ((l.length:Int)-((I5 node l).length:Int))) (put h id o u)/\Dy (I5 node l) u:=by
 by_cases JC:AX (BU node) l<0;.obtain⟨u,e,hu⟩:=hs.bS;refine⟨u,?_,by rw[I5,Af JC];exact hu⟩;rw[I5,Af JC,Int.sub_self,Ae,cG,R_];simp only[Ci,(YC hs.at hb node).Ad,JC,AW,AR,AM];exact e
 .obtain⟨u,hr,hu⟩:=f146 hs hb Ob (dJ node);refine⟨u,?_,by rw[I5,Ag JC];exact hu⟩;rw[I5,Ag JC,Ae,cG,R_];simp only[Ci,(YC hs.at hb node).Ad,JC,A3,AR,AM,hr.Ad]
end
end
section
section
variable{h:Ah}{p v:Aa}{l:List Item}
def aKU(hv:Dy l v){k:Nat}(hk:k<l.length)(hb:l.length<=1000000000):∃u,Ca cx 236 [v,I (k:Int)] h u h/\Dy (BB l k) u:=by obtain⟨r,j,h1⟩:=Bz.Sb hv (k:= .i64) (Ac:k<=l.length);obtain⟨q,i,h2⟩:=Bz.Po h1 (b:=40) (sM (by rw[AB];omega));obtain⟨m,g,d⟩:=Bz.sL hv (k:= .i64) (Ac:k+1<=l.length);obtain⟨a,e,c⟩:=Bz.ni h2 d (b:=40) (sM (by rw[AB,Bj];omega));refine⟨a,?_,c⟩;rw[Ae,wN,aCd];simp only[Ci,j,i,CR (Ac:k<9223372036854775807),g,e]
def sg{id o:Nat}(hs:Lt h id o l)(hb:l.length<=1000000000)(node:Int):∃u,Ca cx 151 [Pt id o,I node] h (.bool (decide (1<=AX (BU node) l))) (put h id o u)/\Dy (Di node l) u:=by
 by_cases JC:AX (BU node) l<1;.obtain⟨u,e,hu⟩:=hs.bS;refine⟨u,?_,by rw[Di,Af JC];exact hu⟩;rw[Ae,cO,Z_,<-e];simp only[Ci,(YC hs.at hb node).Ad,JC,AW,AR,AM,(Ac:¬1<=AX (BU node) l),Fc]
 .rcases DY (q:=BU node) (l:=l) with⟨h1,_⟩|⟨k,hk,h1,_⟩
  .rw[h1] at JC;omega
  .obtain⟨v,hc,hv⟩:=(show Lt h id o l from hs);obtain⟨u,hr,hu⟩:=aKU (h:=h) hv hk hb;refine⟨u,?_,by rw[Di,Ag JC,h1];exact hu⟩;rw[Ae,cO,Z_];simp only[Ci,(YC hs.at hb node).Ad,hc.load,Bl,h1];rw[h1] at JC;simp only[Ci,hr.Ad,Bl,hc.store (Dy.cells hu),show¬(k:Int)<1 from JC,A3,AR,AM,(Ac:(1:Int)<=(k:Int)),GN]
def aKV{id o:Nat}(hs:Lt h id o l)(hb:l.length<=1000000000)(a:Item)(i:Int):∃u,Ca cx 215 [Pt id o,.agg a.row,I i] h (.tuple []) (put h id o u)/\Dy (l.take (Iw i l.length)++a::l.drop (Iw i l.length)) u:=by
 obtain⟨v,hc,hv⟩:=(show Lt h id o l from hs);obtain⟨u,hr,hu⟩:=aFP (h:=h) hv a (n:=Iw i l.length) (by unfold Iw;omega) hb;refine⟨u,?_,hu⟩;rw[Ae,vZ,aBY];have c:(if(l.length:Int)<(if i<1 then 1 else i) then(l.length:Int) else(if i<1 then 1 else i))=((Iw i l.length:Nat):Int):=by unfold Iw;split<;>split<;>omega
 simp only[Ci,JB,Rr,PM,hc.load,Bl,bI,Bz.Ha hv,mw,c,hr.Ad,hc.store (Dy.cells hu)]
def aKW(hv:Dy l v)(hne:l≠[])(hb:l.length<=1000000000):Ca cx 285 [v] h (.CW h.length 0 l.length 4) (h++[.cells (l.map Item.row).flatten]):=by
 have d:Ay (.Ff false .sl) [v,.slnil]=some (.bool false):=by
  rcases hv with rfl|⟨rfl,hv⟩
  .rfl
  .exact absurd (by simpa using hv) hne
 have c:Ay (.Cl 4) []=some (.sl 4 []):=rfl;have a:=Pk (h:=h) (s:= .sl 4 []) (z:=4) (b:=40) (.inr rfl) hv (by simpa using hne) (by rw[As];exact sM Ac);rw[As] at a;rw[Ae,xN,aCC];simp only[Ci,d,c,a]
section
variable{id o n z:Nat}{v w:Aa}{X Y:Ej}{Aw:List (List Aa)}
def At.next(ha:At h id o v):(Am.put h id o w++[X])[h.length]?=some X/\At (Am.put h id o w++[X]) id o w/\(Am.put h id o w++[X]).set h.length Y=Am.put h id o w++[Y]:=by have e:=Ls (h:=h) (id:=id) (o:=o) (u:=w);refine⟨by rw[<-e];simp,ha.put.JL,?_⟩;rw[BL _ _ Ac,<-e,DB];rfl
def At.xP(ha:At h id o v)(hv:KO h v=some (h,v)):Kh h 0 (Pt id o)=some h:=by have a:=ha.same;obtain⟨cs,hc,e⟩:=ha;simp only[Kh,hc,Bl,e,hv,Cj];rw[HO hc] at a;rw[a]
def At.xQ(ha:At h id o v)(hr:∀r∈Aw,r.length=z):Kh (Am.put h id o (.CW h.length 0 Aw.length z)++[.cells Aw.flatten]) 0 (Pt id o)=some (Am.put h id o (.sl z Aw)++[.Ds]):=by obtain⟨d,c,a⟩:=ha.next (w:= .CW h.length 0 Aw.length z) (X:= .cells Aw.flatten) (Y:= .Ds);have f1:=Nh hr d;rw[a] at f1;have a2:=(ha.next (w:= .CW h.length 0 Aw.length z) (X:= .Ds) (Y:= .Ds)).2.1;obtain⟨cs,hc,e⟩:=c;obtain⟨RS,K9,g⟩:=a2;simp only[Kh,hc,Bl,e,f1,Cj,K9];rw[<-HO (u:= .sl z Aw) K9,bP ha.put,bO]
end
def aKX{id o:Nat}(hs:Lt h id o l)(hb:l.length<=1000000000)(node:Int)(a:Item):∃u t,Ca cx 264 [Pt id o,I node,.agg a.row] h (.bool (decide (1<=AX (BU node) l))) (put h id o u++t)/\Dy (Pr node a l) u:=by
 obtain⟨v,hc,hv⟩:=(show Lt h id o l from hs);by_cases JC:AX (BU node) l<1;.refine⟨v,[],?_,by rw[Pr,Af JC];exact hv⟩;have c:=hc.xP (Bz.UI hv);rw[Ae,dE,Ð,hc.same,Bq];simp only[Ci,JB,(YC hs.at hb node).Ad,JC,AW,AR,AM,c,(Ac:¬1<=AX (BU node) l),Fc]
 .rcases DY (q:=BU node) (l:=l) with⟨h1,_⟩|⟨k,hk,h1,_⟩
  .rw[h1] at JC;omega
  .have d:¬(k:Int)<1:=by rw[h1] at JC;exact JC
   have hne:l≠[]:=by intro e;subst e;simp at hk
   have hcl:=aKW (h:=h) hv hne hb;have j:=(hc.JL (t:=[Ej.cells (l.map Item.row).flatten])).store (u:= .CW h.length 0 l.length 4) rfl;rw[bP hc] at j;obtain⟨s,x,r⟩:=hc.next (w:= .CW h.length 0 l.length 4) (X:= .cells (l.map Item.row).flatten) (Y:= .cells ((l.map Item.row).set k a.row).flatten);have g:=Ut (z:=4) (aFj l) s (i:=k) (by simpa using hk) (q:=a.row) rfl;rw[r] at g;have m:Ay (.FH 4) [.CW h.length 0 l.length 4,I (k:Int)]=some (Pt h.length (k*4)):=Fi hk;have c:=hc.xQ (iL (aFj l) (i:=k) (q:=a.row) rfl);rw[BY,As] at c;refine⟨.sl 4 ((l.map Item.row).set k a.row),[.Ds],?_,?_⟩;.rw[Ae,dE,Ð];simp only[Ci,JB,(YC hs.at hb node).Ad,h1,d,A3,AR,AM,hc.load,Bl,hcl.Ad,j,x.load,m,g,c,(Ac:(1:Int)<=(k:Int)),GN]
   .rw[Pr,Ag JC,h1,BH,Dy,GK];exact .mk
end
end
section
section
variable{h:Ah}{p v w:Aa}{l:List Item}{ws:List Ak}
end
end
section
section
variable{e:C1}{d:Aa}
end
section
variable{h:Ah}{v:Aa}{l:List C1}{id o:Nat}
def f99(hc:At h id o v)(hv:EJ l v)(hb:l.length<=1000000000):Ca cx 131 [Pt id o] h (I (since l)) h:=by
 have hv:Bz 3 (l.map C1.row) v:=hv;rw[Ae,uG,aBe];simp only[Ci,hc.load,Bl,hv.Ha];refine B1 (λn:Nat=>[I (n:Int)]) (λn h1=>n<=l.length/\since l=since (l.take n)/\h1=h) (λn=>n) l.length rfl ⟨Ab _,by rw[BZ],rfl⟩ ?_;rintro n h1 ⟨hn,ha,rfl⟩;cases n with
 |zero=>simp only[Ci,(Ac:¬(0:Int)<((0:Nat):Int)),A3,AR,AM,ha,bt];rfl
 |succ n=>rw[nX hn] at ha;simp only[Ci,(Ac:(0:Int)<((n+1:Nat):Int)),AW,AR,AM,hc.load,Bl,MN (Ac:0<n+1) (Ac:n+1<9223372036854775807),eV,hv.Dh (show n<l.length from hn),C1.at0];refine⟨λh0=>By.next n rfl ⟨Ac,by rw[ha,Ag h0],rfl⟩ Ac,λh0=>?_⟩;rw[Af (by simpa using h0)] at ha;rw[ha];rfl
def aFT(hc:At h id o v)(hv:EJ l v)(hb:l.length<=1000000000)(name:Ak):Ca cx 209 [Pt id o,.str name] h (I (QE name l)) h:=by
 have hv:Bz 3 (l.map C1.row) v:=hv;rw[Ae,vT,aBS];simp only[Ci,HF,hc.load,Bl,hv.Ha,DJ (Ac: -9223372036854775808<=(l.length:Int)-1) (Ac:(l.length:Int)-1<9223372036854775808)];refine B1 (λn:Nat=>[I 0,I ((n:Int)-1)]) (λn h1=>n<=l.length/\QE name l=QE name (l.take n)/\h1=h) (λn=>n) l.length rfl ⟨Ab _,by rw[BZ],rfl⟩ ?_;rintro n h1 ⟨hn,ha,rfl⟩;cases n with
 |zero=>have i1:¬(0:Int)<=((0:Nat):Int)-1:=Ac;rw[ha];simp only[Ci,i1,A3,AR,AM,bu]
 |succ n=>
  have a:((n+1:Nat):Int)-1=(n:Int):=Ac;rw[nY hn] at ha;simp only[Ci,a,(Ac:(0:Int)<=(n:Int)),AW,AR,AM,hc.load,Bl,hv.Dh (show n<l.length from hn),C1.at0,C1.nj,DJ (Ac: -9223372036854775808<=(n:Int)-1) (Ac:(n:Int)-1<9223372036854775808)];refine⟨λh0=>⟨λh1=>?_,λh1=>?_⟩,λh0=>?_⟩;.rw[ha,Ag h0,Af h1]
  .exact By.next n rfl ⟨Ac,by rw[ha,Ag h0,Ag h1],rfl⟩ Ac
  .rw[ha,Af (by simpa using h0)]
def f41(hc:At h id o v)(hv:EJ l v)(hb:l.length<=1000000000)(node:Int):Ca cx 121 [Pt id o,I node] h (I (Ko node l)) h:=by
 have hv:Bz 3 (l.map C1.row) v:=hv;rw[Ae,tY,aA7];simp only[Ci,HF,hc.load,Bl,hv.Ha,DJ (Ac: -9223372036854775808<=(l.length:Int)-1) (Ac:(l.length:Int)-1<9223372036854775808)];refine⟨λh0=>by rw[Ko,Af h0],λh0=>?_⟩;rw[Ko,Ag h0];refine B1 (λn:Nat=>[I 0,I ((n:Int)-1)]) (λn h1=>n<=l.length/\AX (Tq node) l=AX (Tq node) (l.take n)/\h1=h) (λn=>n) l.length rfl ⟨Ab _,by rw[BZ],rfl⟩ ?_;rintro n h1 ⟨hn,ha,rfl⟩;cases n with
 |zero=>have i1:¬(0:Int)<=((0:Nat):Int)-1:=Ac;rw[ha];simp only[Ci,i1,A3,AR,AM,Pp]
 |succ n=>
  have a:((n+1:Nat):Int)-1=(n:Int):=Ac;rw[NZ hn] at ha;simp only[Ci,a,(Ac:(0:Int)<=(n:Int)),AW,AR,AM,hc.load,Bl,hv.Dh (show n<l.length from hn),C1.at0,DJ (Ac: -9223372036854775808<=(n:Int)-1) (Ac:(n:Int)-1<9223372036854775808)];refine⟨λh1=>?_,λh1=>?_⟩;.rw[ha,Af (by simpa[Tq] using h1)]
  .exact By.next n rfl ⟨Ac,by rw[ha,Ag (by simpa[Tq] using h1)],rfl⟩ Ac
end
section
variable{h:Ah}{v:Aa}{l:List A7}
def aKY(hv:A8 l v)(hb:l.length<=1000000000)(x:A7):Ca cx 281 [v,.agg x.row] h (I (Cf (λa=>decide (x=a)) 0 l)) h:=by
 have hv:Bz 3 (l.map A7.row) v:=hv;rw[Ae,xJ,aCy];simp only[Ci,hv.Ha,A7.DS,A7.g0,A7.g1,A7.g2,A7.UX];refine B1 (λn:Nat=>[I 0,I (n:Int)]) (λn h1=>n<=l.length/\Cf (λa=>decide (x=a)) 0 l=Cf (λa=>decide (x=a)) n (l.drop n)/\h1=h) (λn=>l.length-n) 0 rfl ⟨Bd _,rfl,rfl⟩ ?_;rintro n h1 ⟨hn,ha,rfl⟩;rcases Bk n l.length with hlt|Hh
 .have i1:(n:Int)<(l.length:Int):=by omega
  rw[Az hlt,Cf] at ha;simp only[Ci,i1,AW,AR,AM,hv.Dh hlt,A7.DS,A7.KV,Ab,np,Bool.bne_false,CR (Ac:n<9223372036854775807)];refine⟨λh0=>?_,λh0=>?_⟩;.rw[ha,Af (by simpa using h0)]
  .exact By.next (n+1) rfl ⟨hlt,by rw[ha,Ag (by simpa using h0)],rfl⟩ Ac
 .have i1:¬(n:Int)<(l.length:Int):=by omega
  rw[AT Hh,Cf] at ha;simp only[Ci,i1,A3,AR,AM,ha]
def aKZ(hv:A8 l v)(hb:l.length<=1000000000)(x:A7):Ca cx 258 [v,.agg x.row] h (.bool (decide (x∈l))) h:=by
 rw[Ae,xB,aCq];simp only[Ci,A7.DS,A7.g0,A7.g1,A7.g2,A7.UX,(aKY hv hb x).Ad];rcases Gs (p:=λa=>decide (x=a)) (l:=l) (k:=0) with⟨h1,h2⟩|⟨n,a,h1,h2,b⟩
 .rw[h1];have:x∉l:=λhm=>by have:=IN.1 h2 x hm;simp at this
  simp[this]
 .have hm:=Cv h2;have he:x=a:=by simpa using Lb b
  have hx:x∈l:=by rw[he];exact hm
  rw[h1];simp[hx]
def jO(F:Aa)(h:Ah)(q:A7->Bool):Prop:=∃f caps,F= .func (.func f) [] caps/\f<=99999/\∀a:A7,Ca cx f (.agg a.row::caps) h (.bool (q a)) h
def aFU{F:Aa}{q:A7->Bool}(hv:A8 l v)(hb:l.length<=1000000000)(hF:jO F h q):Ca cx 192 [v,F] h (I (Cf q 0 l)) h:=by
 have hv:Bz 3 (l.map A7.row) v:=hv;obtain⟨f,caps,rfl,hf,hr⟩:=hF;rw[Ae,Vu,qx];simp only[Ci,hv.Ha];refine B1 (λn:Nat=>[I 0,I (n:Int)]) (λn h1=>n<=l.length/\Cf q 0 l=Cf q n (l.drop n)/\h1=h) (λn=>l.length-n) 0 rfl ⟨Bd _,rfl,rfl⟩ ?_;rintro n h1 ⟨Ø,ha,rfl⟩;rcases Bk n l.length with hlt|Hh
 .have i1:(n:Int)<(l.length:Int):=by omega
  rw[Az hlt,Cf] at ha;simp only[Ci,↓reduceIte,Cz,hf,i1,AW,AR,AM,hv.Dh hlt,A7.DS,A7.KV,Ab,(hr l[n]).Ad];rw[C9];refine⟨λhe=>?_,λhe=>?_⟩;.rw[ha,Af he]
  .rw[Ag (by simp[he])] at ha;simp only[Ci,CR (Ac:n<9223372036854775807)];exact By.next (n+1) rfl ⟨hlt,ha,rfl⟩ Ac
 .have i1:¬(n:Int)<(l.length:Int):=by omega
  rw[AT Hh,Cf] at ha;simp only[Ci,↓reduceIte,Cz,hf,i1,A3,AR,AM,ha]
def aFV{F:Aa}{q:A7->Bool}(hv:A8 l v)(hb:l.length<=1000000000)(hF:jO F h q):Ca cx 124 [v,F] h (.bool (l.any q)) h:=by
 rw[Ae,cH,S_];simp only[Ci,(aFU hv hb hF).Ad];have:l.any q=(l.find? q).isSome:=by rw[Lc,aOR,Ka]
 rw[this];rcases Gs (p:=q) (l:=l) (k:=0) with⟨h1,h2⟩|⟨n,a,h1,h2,b⟩
 .rw[h1,h2];simp
 .rw[h1,b];simp
def aK0(hv:A8 l v)(hb:l.length<=1000000000)(x:A7):Ca cx 257 [.agg x.row,.BW [v]] h (.bool (!decide (x∈l))) h:=by rw[Ae,xA,aCp];simp only[Ci,A7.DS,A7.g0,A7.g1,A7.g2,A7.UX,(aKZ hv hb x).Ad]
def aFW{b:List A7}{w:Aa}(hv:A8 l v)(hb:l.length<=1000000000)(hw:A8 b w)(Qm:b.length<=1000000000):Ca cx 256 [v,w] h (.bool (decide (∀x∈l,x∈b))) h:=by
 have hF:jO (.func (.func 257) [] [.BW [w]]) h λx=> !decide (x∈b):=⟨257,_,rfl,AI,λa=>aK0 hw Qm a⟩;have e:(!l.any λx=> !decide (x∈b))=decide (∀x∈l,x∈b):=by rw[Lc];simp
 rw[Ae,wZ,aCo,<-e];simp only[Ci,Bz.cells hw,(aFV hv hb hF).Ad]
def aK1{a b:C1}(ha:gi a)(hb:gi b):Ca cx 196 [.agg a.row,.agg b.row] h (.bool (Li a.c b.c)) h:=by
 have g:=aFW (h:=h) a.ok ha b.ok hb;have r2:=aFW (h:=h) b.ok hb a.ok ha;rw[Ae,vH,aBG];simp only[Ci,Nat.reduceLeDiff,↓reduceIte,Cz,Bq,C1.DS,C1.g1,C1.g2,C1.aJ5,g.Ad,r2.Ad];refine⟨λh1=>⟨λh2=>⟨λf=>?_,λf=>?_⟩,λh2=>?_⟩,λh1=>?_⟩
 .have fB:a.c.Av.length=b.c.Av.length:=by omega
  simp only[Li,h1,fB,Nx];congr 3
  rw[eq_iff_iff];exact⟨λh=>⟨f,h⟩,λh=>h.2⟩
 .simp[Li,f]
 .have fB:¬a.c.Av.length=b.c.Av.length:=by omega
  simp[Li,fB]
 .simp[Li,h1]
end
end
section
def C8{Q:Kj}{h:Ah}{a:Aa}{k:IT}:W cx (.same a a k) Q h↔W cx k Q h:=by refine⟨λhw=>?_,iw (Aa.Sc a)⟩;obtain⟨m,x',Hv,h',hr,q⟩:=hw.succ;simp only[IT.step,Aa.Sc,BD] at hr;exact CQ ⟨m,x',Hv,h',hr,q⟩
section
variable{h:Ah}{v:Aa}{l:List C1}{id o:Nat}
def f45{l:List A7}(hv:A8 l v)(hb:l.length<=1000000000):∃u,Ca cx 84 [v] h u h/\A8 l u:=by
 have hv:Bz 3 (l.map A7.row) v:=hv;rcases hv with rfl|⟨rfl,hn⟩
 .refine⟨.sl 3 (l.map A7.row),?_,.mk⟩;have b:Ay (.Ff false .sl) [.sl 3 (l.map A7.row),.slnil]=some (.bool false):=rfl;have f:Ay (.Cl 3) []=some (.sl 3 []):=rfl;have c:Qt h 3 40 (.sl 3 []) (.sl 3 (l.map A7.row))=some (.sl 3 (l.map A7.row)):=by
   simp only[Qt,Gb,BD,Cj];cases l with
   |nil=>rfl
   |cons a l=>have:(l.length+1)*40<=AK:=sM (by simp at hb;omega);simp[Dl,this]
  rw[Ae,o7,t84];simp only[Ci,b,f,c]
 .refine⟨.slnil,?_,?_⟩;.have b:Ay (.Ff false .sl) [.slnil,.slnil]=some (.bool true):=rfl;rw[Ae,o7,t84];simp only[Ci,b]
  .exact .inr ⟨rfl,hn⟩
def sj{e:C1}(he:gi e):∃a:C1,a.c=e.c/\Ca cx 198 [.agg e.row] h (.agg a.row) h:=by obtain⟨u,r,hu⟩:=f45 (h:=h) e.ok he;refine⟨⟨e.c,u,hu⟩,rfl,?_⟩;rw[Ae,vJ,aBI];simp only[Ci,C1.DS,C1.g0,C1.g1,C1.g2,r.Ad,Bz.cells hu];rfl
def aFX(hv:EJ l v){k:Nat}(hk:k<l.length)(hb:l.length<=1000000000):∃u,Ca cx 197 [v,I (k:Int)] h u h/\EJ (BB l k) u:=by obtain⟨r,m,h1⟩:=Bz.Sb hv (k:= .i64) (Ac:k<=l.length);obtain⟨q,j,h2⟩:=Bz.Po h1 (b:=48) (Zx (by rw[AB];omega));obtain⟨p,i,f⟩:=Bz.sL hv (k:= .i64) (Ac:k+1<=l.length);obtain⟨a,g,c⟩:=Bz.ni h2 f (b:=48) (Zx (by rw[AB,Bj];omega));refine⟨a,?_,c⟩;rw[Ae,vI,aBH];simp only[Ci,m,j,CR (Ac:k<9223372036854775807),i,g]
def sk(hv:EJ l v)(e:C1){k:Nat}(hk:k<=l.length)(hb:l.length<=1000000000):∃u,Ca cx 129 [v,.agg e.row,I (k:Int)] h u h/\EJ (l.take k++e::l.drop k) u:=by obtain⟨x,r,h1⟩:=Bz.Sb hv (k:= .i64) hk;obtain⟨w,q,h2⟩:=Bz.Po h1 (b:=48) (Zx (by rw[AB];omega));have p:=Bz.Zw (a:=e) h2 (b:=48) (Zx (by rw[AB];omega));obtain⟨t,m,i⟩:=Bz.sL hv (k:= .i64) hk;obtain⟨g,j,c⟩:=Bz.ni (f:=C1.row) (l:=l.take k++[e]) .mk i (b:=48) (Zx (by rw[Ap,AB,Bj,Bc];omega));refine⟨g,?_,by rw[AQ] at c;exact c⟩;rw[Ae,uE,aBc];simp only[Ci,C1.DS,C1.g0,C1.g1,C1.g2,C1.UX,r,q,bw C1.DS,p,m,j]
def aCG(hv:EJ l v)(hne:l≠[])(hb:l.length<=1000000000):Ca cx 114 [v] h (.CW h.length 0 l.length 3) (h++[.cells (l.map C1.row).flatten]):=by
 have f:Ay (.Ff false .sl) [v,.slnil]=some (.bool false):=by
  rcases hv with rfl|⟨rfl,hv⟩
  .rfl
  .exact absurd (by simpa using hv) hne
 have c:Ay (.Cl 3) []=some (.sl 3 []):=rfl;have a:=Pk (h:=h) (s:= .sl 3 []) (z:=3) (b:=48) (.inr rfl) hv (by simpa using hne) (by rw[As];exact Zx Ac);rw[As] at a;rw[Ae,Vr,qu];simp only[Ci,f,c,a]
def f63(hs:Tr h id o l)(hb:l.length<=1000000000):∃u,Ca cx 54 [Pt id o] h (.tuple []) (put h id o u)/\EJ (l++[bU]) u:=by obtain⟨v,hc,hv⟩:=(show Tr h id o l from hs);obtain⟨u,hr,hu⟩:=sk (h:=h) hv bU (Ab l.length) hb;rw[BZ,GQ] at hu;refine⟨u,?_,hu⟩;rw[Ae,pt,t54];simp only[Ci,↓reduceIte,Bv,Rr,PM,hc.load,Bl,Bz.Ha hv,nr,hr.Ad,hc.store (EJ.cells hu)]
def aK3(hs:Tr h id o l)(hb:l.length<=1000000000){e:C1}(he:gi e)(i:Int):∃u a,a.c=e.c/\Ca cx 214 [Pt id o,.agg e.row,I i] h (.tuple []) (put h id o u)/\EJ (l.take (Gt i l.length)++a::l.drop (Gt i l.length)) u:=by
 obtain⟨v,hc,hv⟩:=(show Tr h id o l from hs);obtain⟨a,aR,b⟩:=sj (h:=h) he;obtain⟨u,hr,hu⟩:=sk (h:=h) hv a (k:=Gt i l.length) (by unfold Gt;omega) hb;refine⟨u,a,aR,?_,hu⟩;have f:(if(l.length:Int)<(if i<0 then 0 else i) then(l.length:Int) else(if i<0 then 0 else i))=((Gt i l.length:Nat):Int):=by unfold Gt;split<;>split<;>omega
 rw[Ae,vY,aBX];simp only[Ci,C1.DS,C1.g0,C1.g1,C1.g2,C1.UX,Rr,PM,hc.load,Bl,bI,Bz.Ha hv,mw,f,b.Ad,C8,hr.Ad,hc.store (EJ.cells hu)]
def f65(hs:Tr h id o l)(hb:l.length<=1000000000):∃u,Ca cx 57 [Pt id o] h (I ((l.length:Int)-((Hz l:Nat):Int))) (put h id o u)/\EJ (l.take (Hz l)) u:=by
 obtain⟨v,hc,hv⟩:=(show Tr h id o l from hs);obtain⟨s,es,Mh,_⟩:=Q4 l;have hcl:Hz l<=l.length:=by unfold Hz;omega
 obtain⟨u,b,hu⟩:=Bz.Sb hv (k:= .i64) hcl;refine⟨u,?_,hu⟩;have a:(if since l-1<0 then 0 else since l-1)=((Hz l:Nat):Int):=by unfold Hz;split<;>omega
 have rI:(l.take (Hz l)).length=Hz l:=by rw[AB];omega
 have c:At (put h id o u) id o u:=hc.put;rw[Ae,pv,t57];simp only[Ci,HF,hc.load,Bl,Bz.Ha hv,(f99 hc hv hb).Ad,C8,DJ (Ac: -9223372036854775808<=since l-1) (Ac:since l-1<9223372036854775808),bI,a,b,hc.store (Bz.cells hu),c.load,Bz.Ha hu,rI,DJ (Ac: -9223372036854775808<=(l.length:Int)-((Hz l:Nat):Int)) (Ac:(l.length:Int)-((Hz l:Nat):Int)<9223372036854775808)]
end
end
section
section
variable{e:Cp}{l:List C1}{n s:Nat}
end
section
variable{h:Ah}{v:Aa}{l:List C1}{id o:Nat}
set_option maxHeartbeats 1000000 in
def f30(hs:Tr h id o l)(hb:l.length<=900000000)(hl:∀x∈l,gi x){e:C1}(he:gi e):∃u a,a.c=e.c/\Ca cx 103 [Pt id o,.agg e.row] h (.tuple []) (put h id o u)/\EJ (Q6 e.c l++[a]) u:=by
 obtain⟨v,hc,hv⟩:=(show Tr h id o l from hs);have Gc:Bz 3 (l.map C1.row) v:=hv;have HX:=hs.lt;obtain⟨s,es,Mh,q,_⟩:=Q4 l;have Pb:Ev cx 103 [Pt id o,.agg e.row] h λr h'=>r= .tuple []/\∃(a:C1) (u:Aa),a.c=e.c/\h'=put h id o u/\EJ (Q6 e.c l++[a]) u:=by
  unfold Ev;rw[tJ,aAT];by_cases h0:e.c.node=0;.obtain⟨a,aR,b⟩:=sj (h:=h) he;obtain⟨u,r2,hu⟩:=sk (h:=h) hv a (Ab l.length) Ac;rw[BZ,GQ] at hu;simp only[Ci,C1.DS,C1.g0,C1.g1,C1.g2,HF,h0,CA,AW,AM,AR,A3,hc.load,Bl,Gc.Ha];rw[<-h0,C1.UX];simp only[Ci,b.Ad,C8,hc.load,Bl,r2.Ad,hc.store (EJ.cells hu)];refine⟨_,rfl,rfl,a,u,aR,rfl,?_⟩;rw[Q6,Ag (λh=>h.1 h0)];exact hu
  .simp only[Ci,C1.DS,C1.g0,C1.g1,C1.g2,C1.UX,HF,h0,CA,AW,AM,AR,A3,hc.load,Bl,Gc.Ha,DJ (Ac: -9223372036854775808<=(l.length:Int)-1) (Ac:(l.length:Int)-1<9223372036854775808)];refine B1 (λp:Int×Nat×Nat=>[I p.1,I (p.2.1:Int),I ((p.2.2:Int)-1)])
    (λp h1=>s<=p.2.2/\p.2.2<=l.length/\p.2.1+p.2.2<=l.length/\Yy e.c l=p.2.1+Yy e.c (l.take p.2.2)/\(Q5 e.c l=if 0<=Q5 e.c (l.take p.2.2) then Q5 e.c (l.take p.2.2) else if p.2.1=0 then -1 else p.1)/\(p.2.1=0\/∃k:Nat,k<l.length/\p.1=(k:Int))/\h1=h)
    (λp=>p.2.2) (0,0,l.length) rfl ⟨Mh,Ab _,Ax,Ax,by
     rw[BZ];have:∀l:List C1,-1<=nZ e.c l:=by
      intro l;induction l with
      |nil=>exact Ny _
      |cons x t ih=>rw[nZ];split<;>(try split)<;>(try split)<;>omega
     have:=this l.reverse;simp only[BD];unfold Q5;split<;>omega,.inl rfl,rfl⟩ ?_
   rintro⟨B,f,n⟩ h1 ⟨a1,a2,a3,a4,a5,a6,rfl⟩;simp only at a1 a2 a3 a4 a5 a6;have j:=f99 hc hv Ac;rw[es] at j;rcases Bk s n with hlt|Hh
   .obtain⟨n,rfl⟩:∃m,n=m+1:=⟨n-1,Ac⟩;have A:((n+1:Nat):Int)-1=(n:Int):=Ac;have hn:n<l.length:=a2;have g:=q n hn Ac;rw[Zy hn,Ag g] at a4;rw[Zz hn,Ag g] at a5;have b:=aK1 (h:=h1) (hl _ (A5 hn)) he;simp only[Ci,A,j.Ad,(Ac:(s:Int)<=(n:Int)),AW,AM,AR,hc.load,Bl,Gc.Dh hn,C1.DS,C1.KV,Ab,b.Ad,CR (Ac:f<9223372036854775807),DJ (Ac: -9223372036854775808<=(n:Int)-1) (Ac:(n:Int)-1<9223372036854775808)];rw[C9];refine⟨λh2=>?_,λh2=>?_⟩
    .rw[Af h2] at a4 a5;refine By.next ((n:Int),f+1,n) rfl ⟨Hb,Hb,Hb,Hb,?_,.inr ⟨n,hn,rfl⟩,rfl⟩ Hb;simp only
     rw[a5];by_cases hf:0<=Q5 e.c (l.take n);.simp[hf]
     .simp[hf,(Ac:(0:Int)<=(n:Int))]
    .rw[Ag (by simp[h2])] at a4;rw[Ag (show¬Li l[n].c e.c=true by simp[h2])] at a5;refine By.next (B,f,n) rfl ⟨Hb,Hb,Hb,Hb,?_,a6,rfl⟩ Hb;simp only
     rw[a5];by_cases hf:0<=Q5 e.c (l.take n);.simp[hf]
     .simp[hf]
   .obtain rfl:n=s:=by omega
    obtain⟨b1,b2⟩:=oA (e:=e.c) es;rw[b1,Bl] at a4;rw[b2,Ag AI] at a5;simp only[Ci,j.Ad,(Ac:¬(n:Int)<=(n:Int)-1),AM,AR,A3];by_cases C:3<=f
    .rcases a6 with a6|⟨k,hk,rfl⟩
     .omega
     rw[Ag Ac] at a5;obtain⟨i,b,aK⟩:=aFX (h:=h1) hv hk Ac;have Ya:(BB l k).length<=l.length:=by unfold BB;rw[Ap,AB,Bj];omega
     have w:At (put h1 id o i) id o i:=hc.put;obtain⟨a,aR,r2⟩:=sj (h:=put h1 id o i) he;obtain⟨y,z,Ql⟩:=sk (h:=put h1 id o i) aK a (Ab (BB l k).length) Ac;rw[BZ,GQ] at Ql;simp only[Ci,(Ac:(3:Int)<=(f:Int)),AW,AM,AR,hc.load,Bl,b.Ad,hc.store (EJ.cells aK),w.load,Bz.Ha aK,r2.Ad,C8,z.Ad,w.store (EJ.cells Ql),bO];refine⟨_,rfl,rfl,a,y,aR,rfl,?_⟩;rw[Q6,Af ⟨h0,Ac⟩,a5,BH];exact Ql
    .obtain⟨a,aR,b⟩:=sj (h:=h1) he;obtain⟨u,r2,hu⟩:=sk (h:=h1) hv a (Ab l.length) Ac;rw[BZ,GQ] at hu;simp only[Ci,(Ac:¬(3:Int)<=(f:Int)),AM,AR,A3,hc.load,Bl,Gc.Ha,b.Ad,C8,r2.Ad,hc.store (EJ.cells hu)];refine⟨_,rfl,rfl,a,u,aR,rfl,?_⟩;rw[Q6,Ag Ac];exact hu
 obtain⟨r,h',hr,rfl,a,u,aR,rfl,hu⟩:=Pb.ret;exact⟨u,a,aR,hr,hu⟩
end
end
section
section
variable{h:Ah}{v:Aa}{l:List C1}{id o:Nat}
def aK5(hs:Tr h id o l)(hb:l.length<=900000000)(node:Int){e:C1}(he:gi e):∃u t a,a.c=e.c/\Ca cx 265 [Pt id o,I node,.agg e.row] h (.bool (decide (0<=Ko node l))) (put h id o u++t)/\EJ (if Ko node l<0 then l else l.set (Ko node l).toNat a) u:=by
 obtain⟨v,hc,hv⟩:=(show Tr h id o l from hs);rcases iR node l with h1|⟨k,hk,h1⟩
 .refine⟨v,[],e,rfl,?_,by rw[h1];exact hv⟩;have b:=hc.xP (Bz.UI hv);rw[Ae,dF,Ñ,hc.same,Bq];simp only[Ci,C1.DS,(f41 hc hv Ac node).Ad,h1,(AI:(-1:Int)<0),AW,AR,AM,b];rfl
 .have hne:l≠[]:=by intro e;subst e;simp at hk
  have hcl:=aCG (h:=h) hv hne Ac;have g:=(hc.JL (t:=[Ej.cells (l.map C1.row).flatten])).store (u:= .CW h.length 0 l.length 3) rfl;rw[bP hc] at g;obtain⟨a,aR,j⟩:=sj (h:=put h id o (.CW h.length 0 l.length 3)++[Ej.cells (l.map C1.row).flatten]) he;obtain⟨r,x,p⟩:=hc.next (w:= .CW h.length 0 l.length 3) (X:= .cells (l.map C1.row).flatten) (Y:= .cells ((l.map C1.row).set k a.row).flatten);have f:=Ut (z:=3) (Ts l) r (i:=k) (by simpa using hk) (q:=a.row) rfl;rw[p] at f;have m:Ay (.FH 3) [.CW h.length 0 l.length 3,I (k:Int)]=some (Pt h.length (k*3)):=Fi hk;have b:=hc.xQ (iL (Ts l) (i:=k) (q:=a.row) rfl);rw[BY,As] at b;refine⟨.sl 3 ((l.map C1.row).set k a.row),[.Ds],a,aR,?_,?_⟩;.rw[Ae,dF,Ñ];simp only[Ci,C1.DS,C1.g0,C1.g1,C1.g2,C1.UX,(f41 hc hv Ac node).Ad,h1,(Ac:¬(k:Int)<0),A3,AR,AM,hc.load,Bl,hcl.Ad,g,x.load,j.Ad,C8,m,f,b,(Ac:(0:Int)<=(k:Int)),GN]
  .rw[h1,Ag Ac,BH,<-GK];exact .mk
end
end
def U8:List A7->Aa
 |[]=> .slnil
 |x::l=> .sl 3 ((x::l).map A7.row)
def Sr{l:List A7}:A8 l (U8 l):=by cases l;exact .inr ⟨rfl,rfl⟩;exact .inl rfl
def de{l:List A7}{x:A7}:U8 (l++[x])= .sl 3 ((l++[x]).map A7.row):=by cases l<;>rfl
structure PN where
 x:GL
 kv:Aa
 av:Aa
 ok:av=U8 x.Av
def PN.row(p:PN):List Aa:=[I p.x.kind,I p.x.He,p.kv,I p.x.Cy,I p.x.A9,.str p.x.name,p.av,.str p.x.data,.str p.x.JN,.str p.x.sys,.bool p.x.CS,I p.x.cont,I p.x.EK]
def PN.DS{p:PN}:p.row.length=13:=rfl
def PN.zero:PN:=⟨{},.slnil,.slnil,rfl⟩
def pN(ps:List PN)(x:Int):PN:=ps.getD (x.toNat-1) PN.zero
def Cu(n:Int):List Aa:=[I n]
def Jf(l:List Int)(v:Aa):Prop:=Bz 1 (l.map Cu) v
def JS(h:Ah)(kv:Aa)(l:List Int):Prop:=(kv= .slnil/\l=[])\/∃id cs,kv= .CW id 0 l.length 1/\h[id]?=some (.cells (l.map (Aa.int .i64)++cs))
def Ho:Aa->Option Nat
 | .CW id _ _ _=>some id
 |_=>none
def Ss(l:List (Int×Int)):Prop:=(l.map (·.1)).Nodup/\∀p∈l,Yo p.1=true/\Yo p.2=true
def Pz(h:Ah)(m:Option Nat)(f:Int->Int):Prop:=(m=none/\∀k,f k=0)\/∃(id:Nat) (l:List (Int×Int)),m=some id/\h[id]?=some (.map (l.map λx:Int×Int=>(I x.1,I x.2)))/\(∀k,(l.find? λx=>decide (k=x.1)).map (·.2)=if f k=0 then none else some (f k))/\Ss l
def FA(a n:Nat)(m:Option Nat)(ps:List PN):List Nat:=a::n::(m.toList++ps.filterMap λp=>Ho p.kv)
structure PA(h:Ah)(a n:Nat)(m:Option Nat)(ps:List PN)(A:Ar):Prop where
 e:A.n=ps.map PN.x
 il:A.i.length=A.n.length
 ha:h[a]?=some (.cells [.CW n 0 ps.length 13,.map m])
 hn:h[n]?=some (.cells (ps.map PN.row).flatten)
 ks:∀p∈ps,JS h p.kv p.x.Bw
 nd:(FA a n m ps).Nodup
 mp:Pz h m A.inr
structure Ew(h:Ah)(F:Nat->Prop)(h':Ah)(F':Nat->Prop):Prop where
 len:h.length<=h'.length
 old:∀i,i<h.length->¬F i->h'[i]?=h[i]?
 BM:∀i,F' i->F i\/h.length<=i
section
variable{h h' h'' t:Ah}{F F' F'':Nat->Prop}
def Ew.refl:Ew h F h F:=⟨Ab _,λ_ _ _=>rfl,λ_ h=> .inl h⟩
def Ew.trans(x:Ew h F h' F')(y:Ew h' F' h'' F''):Ew h F h'' F'':=
 ⟨Bp x.len y.len,λi hi hF=>by
  rw[y.old i (IK hi x.len) (λh=>by rcases x.BM i h with h|h;exact hF h;omega)];exact x.old i hi hF,λi hi=>by
  rcases y.BM i hi with h|h
  .exact x.BM i h
  .exact .inr (Bp x.len h)⟩
def Ew.JL:Ew h F (h++t) F:=⟨Ax,λi hi _=>An hi,λ_ h=> .inl h⟩
end
def PW(h:Ah)(F:Nat->Prop)(a:Nat)(A:Ar):Prop:=∃n m ps,PA h a n m ps A/\∀i,F i↔i∈FA a n m ps
section
variable{h h':Ah}{a n:Nat}{m:Option Nat}{ps:List PN}{A:Ar}{x:Int}{F:Nat->Prop}
def JS.DT{kv:Aa}{l:List Int}(hk:JS h kv l)(hf:∀id,Ho kv=some id->h'[id]?=h[id]?):JS h' kv l:=by
 rcases hk with⟨rfl,rfl⟩|⟨id,cs,rfl,hc⟩
 .exact .inl ⟨rfl,rfl⟩
 .exact .inr ⟨id,cs,rfl,by rw[hf id rfl];exact hc⟩
def Pz.DT{f:Int->Int}(hk:Pz h m f)(hf:∀id,m=some id->h'[id]?=h[id]?):Pz h' m f:=by
 rcases hk with h1|⟨id,l,rfl,hc,h2⟩
 .exact .inl h1
 .exact .inr ⟨id,l,rfl,by rw[hf id rfl];exact hc,h2⟩
def KX{p:PN}{id:Nat}(hp:p∈ps)(hk:Ho p.kv=some id):id∈FA a n m ps:=by unfold FA;simp only[AE,Aq];exact .inr (.inr (.inr (Ce.2 ⟨p,hp,hk⟩)))
def PA.DT(w:PA h a n m ps A)(hf:∀i∈FA a n m ps,h'[i]?=h[i]?):PA h' a n m ps A:=
 ⟨w.e,w.il,by rw[hf a (by simp[FA])];exact w.ha,by rw[hf n (by simp[FA])];exact w.hn,λp hp=>(w.ks p hp).DT λid hk=>hf id (KX hp hk),w.nd,w.mp.DT λid hm=>hf id (by simp[FA,hm])⟩
def PA.lt(w:PA h a n m ps A):∀i∈FA a n m ps,i<h.length:=by
 intro i hi;unfold FA at hi;simp only[AE,Aq,Ce] at hi;rcases hi with rfl|rfl|hi|⟨p,hp,hk⟩
 .exact(Aj.1 w.ha).1
 .exact(Aj.1 w.hn).1
 .rcases w.mp with⟨rfl,_⟩|⟨id,l,rfl,hc,_⟩
  .simp at hi
  .simp at hi;subst hi;exact(Aj.1 hc).1
 .rcases w.ks p hp with⟨e,_⟩|⟨id,cs,e,hc⟩
  .rw[e] at hk;cases hk
  .rw[e] at hk;cases hk;exact(Aj.1 hc).1
def PW.DT(w:PW h F a A)(hf:∀i,F i->h'[i]?=h[i]?):PW h' F a A:=by obtain⟨n,m,ps,w,e⟩:=w;exact⟨n,m,ps,w.DT λi hi=>hf i ((e i).2 hi),e⟩
def PW.lt(w:PW h F a A){i:Nat}(hi:F i):i<h.length:=by obtain⟨n,m,ps,w,e⟩:=w;exact w.lt i ((e i).1 hi)
def PA.sm(w:PA h a n m ps A):A.n.length=ps.length:=by rw[w.e,As]
def PA.at(w:PA h a n m ps A)(hx:A.has x):x.toNat-1<ps.length/\((x.toNat-1:Nat):Int)=x-1:=by have:=w.sm;unfold Ar.has at hx;omega
def PA.pn(w:PA h a n m ps A)(hx:A.has x):ps[x.toNat-1]?=some (pN ps x)/\(pN ps x).x=A.nd x/\pN ps x∈ps:=by
 have h1:=(w.at hx).1;have h2:ps[x.toNat-1]?=some ps[x.toNat-1]:=Au h1;have b:pN ps x=ps[x.toNat-1]:=by unfold pN;rw[AP,h2];rfl
 refine⟨by rw[b];exact h2,?_,by rw[b];exact A5 _⟩;unfold Ar.nd;rw[Af hx,w.e,b,AP,Cg,h2];rfl
def PC{Aw:List (List Aa)}{z i k:Nat}(hr:∀r∈Aw,r.length=z)(hk:k<z){r:List Aa}(hi:Aw[i]?=some r):Aw.flatten[i*z+k]?=r[k]?:=by
 have h1:(Aw.flatten.drop (i*z))[k]?=r[k]?:=by rw[Iu hr];obtain⟨hlt,e⟩:=Aj.1 hi;rw[Az hlt,e,CB,An (by rw[hr r (e▸A5 hlt)];exact hk)]
 rwa [Cr] at h1
def jP(l:List PN):∀r∈l.map PN.row,r.length=13:=LV (f:=PN.row) (λ_=>PN.DS) l
def nP(n:Nat)(x:Int):Nat:=(x.toNat-1)*13
def PA.BT(w:PA h a n m ps A)(hx:A.has x){k:Nat}(hk:k<13):Bi h none (Pt n (nP n x+k))=(pN ps x).row[k]?:=by unfold nP;simp only[Bi,w.hn,FJ];exact PC (jP ps) hk (by rw[Cg,(w.pn hx).1];rfl)
def U9(w:PA h a n m ps A):Ca cx 92 [Pt a 0,I x] h (.bool (decide (A.has x))) h:=by
 have d:Bi h none (Pt a 0)=some (.CW n 0 ps.length 13):=by simp only[Bi,w.ha];rfl
 have c:Ay (.len false) [.CW n 0 ps.length 13]=some (I (ps.length:Int)):=rfl;rw[Ae,qp,t92];simp only[abS,d,c];have hl:=w.sm;have b:A.has x↔1<=x/\x<=(ps.length:Int):=by unfold Ar.has;rw[hl]
 refine⟨λh1=>?_,λh1=>?_⟩;.congr 2;rw[Dn,b];exact⟨λh=>⟨h1,h⟩,λh=>h.2⟩
 .rw[Ai (λh=>h1 (b.1 h).1)]
def PA.nodes(w:PA h a n m ps A):Bi h none (Pt a 0)=some (.CW n 0 ps.length 13):=by simp only[Bi,w.ha];rfl
def PA.len(w:PA h a n m ps A):((ps.length:Nat):Int)=A.len:=by unfold Ar.len;rw[w.sm]
def İ(w:PA h a n m ps A){l:List Int}{v:Aa}(hv:Jf l v)(hb:l.length<=1000):Ca cx 143 [Pt a 0,v] h (I (if∀x∈l,A.has x then 0 else 3)) h:=by
 have hv:Bz 1 (l.map Cu) v:=hv;rw[Ae,uO,aBm];simp only[abS,hv.Ha];refine B1 (λk:Nat=>[I 0,I (k:Int)]) (λk h1=>k<=l.length/\(∀x∈l.take k,A.has x)/\h1=h) (λk=>l.length-k) 0 rfl ⟨Bd _,Ax,rfl⟩ ?_;rintro k h1 ⟨hk,ha,rfl⟩;rcases Bk k l.length with hlt|Hh
 .have i1:(k:Int)<(l.length:Int):=by omega
  have c:Bi h1 none (.BW (Cu l[k]))=some (I l[k]):=rfl;simp only[Ci,bK,i1,hv.Dh hlt,c,(U9 (x:=l[k]) w).Ad,CR (Ac:k<9223372036854775807)];rw[C9];refine⟨λh2=>?_,λh2=>?_⟩
  .have h2:¬A.has l[k]:=by simpa using h2
   rw[Ag (λb=>h2 (b _ (A5 hlt)))]
  .have h2:A.has l[k]:=by simpa using h2
   refine By.next (k+1) rfl ⟨hlt,?_,rfl⟩ Ac;intro x hx;rw[AS hlt,Aq,AU] at hx;rcases hx with hx|rfl
   .exact ha x hx
   .exact h2
 .have i1:¬(k:Int)<(l.length:Int):=by omega
  rw[Be Hh] at ha;simp only[abS,i1,Af ha]
def Ri(w:PA h a n m ps A):Ca cx 143 [Pt a 0,.sl 1 [[I x]]] h (I (if A.has x then 0 else 3)) h:=by have:=İ w (l:=[x]) (v:= .sl 1 [[I x]]) .mk Ax;simpa using this
def Lk{y:Int}(w:PA h a n m ps A):Ca cx 143 [Pt a 0,.sl 1 [[I x],[I y]]] h (I (if A.has x/\A.has y then 0 else 3)) h:=by have:=İ w (l:=[x,y]) (v:= .sl 1 [[I x],[I y]]) .mk Ax;simpa using this
def Gl{x:Int}:Ay (.Cl 1) [I x]=some (.sl 1 [[I x]]):=rfl
def Fs{x y:Int}:Ay (.Cl 1) [I x,I y]=some (.sl 1 [[I x],[I y]]):=rfl
def Mi.of(b:Mi A)(hx:A.has x):1<=x/\x<=1000000000:=by have:=b.n;unfold Ar.has at hx;omega
def Ih(w:PA h a n m ps A)(b:Mi A)(hx:A.has x):Ca cx 96 [Pt a 0,I x] h (Pt n (nP n x)) h:=by
 have hr:=b.of hx;have d:=(w.at hx).2;have c:Ay (.FH 13) [.CW n 0 ps.length 13,I (x-1)]=some (Pt n (nP n x)):=by rw[<-d];exact Fi (w.at hx).1
 rw[Ae,o9,t96];simp only[abS,w.nodes,DJ (Ac: -9223372036854775808<=x-1) (Ac:x-1<9223372036854775808),c]
def PA.f0(w:PA h a n m ps A)(hx:A.has x):Bi h none (Pt n (nP n x))=some (I (A.nd x).kind):=by have:=w.BT hx (k:=0) AI;rw[<-(w.pn hx).2.1];exact this
def PA.f1(w:PA h a n m ps A)(hx:A.has x):Bi h none (Pt n (nP n x+1))=some (I (A.nd x).He):=by have:=w.BT hx (k:=1) AI;rw[<-(w.pn hx).2.1];exact this
def PA.f2(w:PA h a n m ps A)(hx:A.has x):Bi h none (Pt n (nP n x+2))=some (pN ps x).kv:=by have:=w.BT hx (k:=2) AI;exact this
def PA.f4(w:PA h a n m ps A)(hx:A.has x):Bi h none (Pt n (nP n x+4))=some (I (A.nd x).A9):=by have:=w.BT hx (k:=4) AI;rw[<-(w.pn hx).2.1];exact this
def PA.f5(w:PA h a n m ps A)(hx:A.has x):Bi h none (Pt n (nP n x+5))=some (.str (A.nd x).name):=by have:=w.BT hx (k:=5) AI;rw[<-(w.pn hx).2.1];exact this
def PA.f6(w:PA h a n m ps A)(hx:A.has x):Bi h none (Pt n (nP n x+6))=some (pN ps x).av:=by have:=w.BT hx (k:=6) AI;exact this
def PA.P2(w:PA h a n m ps A)(hx:A.has x):JS h (pN ps x).kv (A.nd x).Bw:=by rw[<-(w.pn hx).2.1];exact w.ks _ (w.pn hx).2.2
def PA.att(w:PA h a n m ps A)(hx:A.has x):(pN ps x).av=U8 (A.nd x).Av:=by rw[<-(w.pn hx).2.1];exact(pN ps x).ok
def PA.row(w:PA h a n m ps A)(hx:A.has x):Bi h (some 13) (Pt n (nP n x))=some (.agg (pN ps x).row):=by
 have h1:((ps.map PN.row).flatten.drop (nP n x)).take 13=(pN ps x).row/\nP n x+13<=(ps.map PN.row).flatten.length:=by unfold nP;have hlt:=(w.at hx).1;have hg:=(w.pn hx).1;rw[Iu (jP ps),Gr (jP ps),As];refine⟨?_,Ac⟩;rw[<-K6,Az hlt,A0,CB];rw[Au hlt,Bx] at hg;rw[hg];exact I3 PN.DS
 simp only[Bi,w.hn,Mv];rw[Af h1.2,h1.1]
def MR:∀{l:List Int} {cs Ti:List Aa},Cs (Ti++(l.map (Aa.int .i64)++cs)) 1 Ti.length l.length=l.map Cu
 |[],_,_=>rfl
 |x::l,cs,Ti=>by have:=MR (l:=l) (cs:=cs) (Ti:=Ti++[I x]);simp only[AQ,Ap,Bc] at this;simp only[A0,AJ,Cs,CC];rw[La rfl];simp only[CC,BO] at this;rw[this];rfl
def JS.Aw{kv:Aa}{l:List Int}(hk:JS h kv l):Gb h 1 kv=some (l.map Cu):=by
 rcases hk with⟨rfl,rfl⟩|⟨id,cs,rfl,hc⟩
 .rfl
 .have:=MR (l:=l) (cs:=cs) (Ti:=[]);simp only[BO,Br] at this;simp only[Gb,BD,hc,this];rw[Af Ax]
def JS.len{kv:Aa}{l:List Int}(hk:JS h kv l):Ay (.len false) [kv]=some (I (l.length:Int)):=by rcases hk with⟨rfl,rfl⟩|⟨id,cs,rfl,hc⟩<;>rfl
def ı{kv:Aa}{l:List Int}(hk:JS h kv l)(hb:l.length<=1000000000):∃v,Ca cx 254 [kv] h v h/\Jf l v:=by
 have hr:=hk.Aw;rcases hk with⟨rfl,rfl⟩|⟨id,cs,rfl,hc⟩
 .exact⟨.slnil,by rw[Ae,dC,Î];simp only[Ci,show Ay (.Ff false .sl) [.slnil,.slnil]=some (.bool true) from rfl],.inr ⟨rfl,rfl⟩⟩
 .refine⟨.sl 1 (l.map Cu),?_,.mk⟩;have b:Qt h 1 8 (.sl 1 []) (.CW id 0 l.length 1)=some (.sl 1 (l.map Cu)):=by
   unfold Qt;rw[hr,Cj];cases l with
   |nil=>rfl
   |cons x l=>
    have:(x::l).length*8<=AK:=by have:AK=140737488355328:=rfl;omega
    simp only[A0,Dl,AJ,As,Br] at this⊢;rw[Af ⟨trivial,by simpa using this⟩];rfl
  rw[Ae,dC,Î];simp only[Ci,show Ay (.Ff false .sl) [.CW id 0 l.length 1,.slnil]=some (.bool false) from rfl,show Ay (.Cl 1) []=some (.sl 1 []) from rfl,b]
def KJ(h:Ah)(v:Aa)(l:List A7):Prop:=(v= .slnil/\l=[])\/∃id,v= .CW id 0 l.length 3/\h[id]?=some (.cells (l.map A7.row).flatten)/\id<h.length
def KJ.cells{v:Aa}{l:List A7}(hv:KJ h v l):v.cells=[v]:=by rcases hv with⟨rfl,_⟩|⟨id,rfl,_,_⟩<;>rfl
structure MA(h:Ah)(v:Aa)(l:List A7):Prop where
 len:Ay (.len false) [v]=some (I (l.length:Int))
 at_:∀k (hk:k<l.length),∃p,Ay (.FH 3) [v,I (k:Int)]=some p/\Bi h (some 3) p=some (.agg l[k].row)
def Xw{v:Aa}{l:List A7}(hv:A8 l v):MA h v l:=⟨Bz.Ha hv,λk hk=>⟨_,Bz.Dh hv hk,rfl⟩⟩
def aCH(l:List A7):∀r∈l.map A7.row,r.length=3:=LV (f:=A7.row) (λ_=>rfl) l
def KJ.in_{v:Aa}{l:List A7}(hv:KJ h v l):MA h v l:=by
 rcases hv with⟨rfl,rfl⟩|⟨id,rfl,hc,_⟩
 .exact⟨rfl,λk hk=>by simp at hk⟩
 .refine⟨rfl,λk hk=>⟨Pt id (k*3),Fi hk,?_⟩⟩;simp only[Bi,hc,Mv];rw[Af (by rw[Gr (aCH l),As];omega),Iu (aCH l),<-K6,Az hk,A0,CB];rfl
def Up(N:Nat)(v:Aa):Prop:=∀id k,v= .CW id 0 k 3->N<=id
def sn{v:Aa}{l:List A7}(hv:v=U8 l)(hb:l.length<=1000000000):∃u t,Ca cx 100084 [v] h u (h++t)/\KJ (h++t) u l/\Up h.length u:=by
 cases l with
 |nil=>refine⟨.slnil,[],?_,.inl ⟨rfl,rfl⟩,λ_ _ e=>nomatch e⟩;rw[Bq,Ae,Rf,Vz,hv];simp only[Ci,U8,show Ay (.Ff false .sl) [.slnil,.slnil]=some (.bool true) from rfl]
 |cons x l=>have e:=Pk (h:=h) (s:= .sl 3 []) (z:=3) (b:=40) (.inr rfl) (Bz.mk (z:=3) (Aw:=(x::l).map A7.row)) Ax (by rw[As];have:AK=140737488355328:=rfl;omega);rw[As] at e;refine⟨.CW h.length 0 (x::l).length 3,[.cells ((x::l).map A7.row).flatten],?_,.inr ⟨h.length,rfl,Ax,Ax⟩,λ_ _ e=>by injection e with e;omega⟩;rw[Ae,Rf,Vz,hv];simp only[Ci,U8,show Ay (.Ff false .sl) [.sl 3 ((x::l).map A7.row),.slnil]=some (.bool false) from rfl,show Ay (.Cl 3) []=some (.sl 3 []) from rfl,e]
def aFY(h:Ah)(N:Nat)(x:GL)(r:List Aa):Prop:=∃K V,r=[I x.kind,I x.He,K,I x.Cy,I x.A9,.str x.name,V,.str x.data,.str x.JN,.str x.sys,.bool x.CS,I x.cont,I x.EK]/\Jf x.Bw K/\KJ h V x.Av/\Up N V
def aFZ(w:PA h a n m ps A)(e:Mi A)(hx:A.has x)(Ĳ:(A.nd x).Bw.length<=1000000000):∃r t,Ca cx 195 [Pt n (nP n x)] h (.agg r) (h++t)/\aFY (h++t) h.length (A.nd x) r:=by obtain⟨K,d,c⟩:=ı (w.P2 hx) Ĳ;obtain⟨V,t,r2,b,f⟩:=sn (h:=h) (w.att hx) (e.at_ x);refine⟨_,t,?_,K,V,rfl,c,b,f⟩;have hc:K.cells=[K]:=Bz.cells c;have e0:=w.row hx;have g:(pN ps x).row=_:=rfl;have ex:=(w.pn hx).2.1;rw[Ae,vG,aBF];rw[PN.row,ex] at e0;simp only[abS,e0,w.f2 hx,w.f6 hx,d.Ad,C8,r2.Ad,hc,b.cells]
def aCI(w:PA h a n m ps A)(b:Mi A)(Ĳ:(A.nd x).Bw.length<=1000000000):∃r t,Ca cx 101 [Pt a 0,I x] h (.tuple [.agg r,I (if A.has x then 0 else 3)]) (h++t)/\aFY (h++t) h.length (A.nd x) r:=by
 by_cases hx:A.has x;.obtain⟨r,t,c,hr⟩:=aFZ w b hx Ĳ;have Hd:=hr;obtain⟨K,V,rfl,_⟩:=hr;refine⟨_,t,?_,Hd⟩;rw[Ae,cD,O_];simp only[abS,↓reduceIte,Bv,Gl,(Ri (x:=x) w).Ad,Af hx,CA,Cq,(Ih w b hx).Ad,c.Ad]
 .refine⟨_,[],?_,.slnil,.slnil,by rw[OB hx],by rw[OB hx];exact .inr ⟨rfl,rfl⟩,by rw[OB hx];exact .inl ⟨rfl,rfl⟩,λ_ _ e=>nomatch e⟩;rw[Ae,cD,O_,Bq];simp only[abS,↓reduceIte,Bv,Gl,(Ri (x:=x) w).Ad,Ag hx,CA,(AI:¬(3:Int)=0),GN]
def ĳ(w:PA h a n m ps A)(c:Mi A)(Ĳ:(A.nd x).Bw.length<=1000000000):∃v,Ca cx 189 [Pt a 0,I x] h v h/\Jf (A.nd x).Bw v:=by
 by_cases hx:A.has x;.obtain⟨K,b,d⟩:=ı (w.P2 hx) Ĳ;refine⟨K,?_,d⟩;rw[Ae,cY,Ê];simp only[abS,(U9 (x:=x) w).Ad,Al hx,(Ih w c hx).Ad,w.f2 hx,b.Ad]
 .refine⟨.slnil,?_,by rw[OB hx];exact .inr ⟨rfl,rfl⟩⟩;rw[Ae,cY,Ê];simp only[abS,(U9 (x:=x) w).Ad,Ai hx]
def aF0(w:PA h a n m ps A)(b:Mi A):Ca cx 259 [Pt a 0,I x] h (I (A.nd x).He) h:=by
 by_cases hx:A.has x;.rw[Ae,dD,Ï];simp only[abS,(U9 (x:=x) w).Ad,Al hx,(Ih w b hx).Ad,w.f1 hx]
 .rw[Ae,dD,Ï,OB hx];simp only[abS,(U9 (x:=x) w).Ad,Ai hx]
def aF1(w:PA h a n m ps A):Ca cx 85 [Pt a 0] h (I A.len) h:=by have b:Ay (.len false) [.CW n 0 ps.length 13]=some (I (ps.length:Int)):=rfl;rw[Ae,aAM,t85];simp only[abS,w.nodes,b,w.len]
def jQ(w:PA h a n m ps A)(b:Mi A):Ca cx 141 [Pt a 0,I x] h (I (if A.has x then(if(A.nd x).kind=1 then 0 else 9) else 3)) h:=by
 rw[Ae,uN,aBl];by_cases hx:A.has x
 .simp only[abS,Gl,(Ri (x:=x) w).Ad,Af hx,CA,Cq,(Ih w b hx).Ad,w.f0 hx];by_cases hk:(A.nd x).kind=1;.simp only[hk,abS,Cq]
  .simp only[hk,abS]
 .simp only[abS,Gl,(Ri (x:=x) w).Ad,Ag hx,CA,(AI:¬(3:Int)=0)]
def so{l:List PN}:(l.map PN.row).flatten.length=l.length*13:=by rw[Gr (jP l),As]
def jR{p:PN}{n':Nat}(hk:Ho p.kv=none):FA a n' m (ps++[p])=a::n'::(m.toList++ps.filterMap λp=>Ho p.kv):=by unfold FA;rw[El];simp[hk]
def sq{x:GL}(hl:A.i.length=A.n.length):(A.add x).inr=A.inr:=by funext k;exact Vo hl
def sr(w:PA h a n m ps A)(hb:ps.length+1<=1000000000)(p:PN)(hk:p.kv= .slnil)(ym:p.x.Bw=[]):
  ∃h',Ca cx 95 [Pt a 0,.agg p.row] h (I (A.len+1)) h'/\PA h' a h.length m (ps++[p]) (A.add p.x)/\(∀i,i<h.length->i≠a->i≠n->h'[i]?=h[i]?)/\h'.length=h.length+1:=by
 have aJ:a<h.length:=w.lt a (by simp[FA]);have Qj:n<h.length:=w.lt n (by simp[FA]);have j:a≠n:=by have:=w.nd;simp[FA] at this;exact this.1.1
 have d:=NX (h:=h) (id:=n) (Aw:=ps.map PN.row) (r2:=[p.row]) (v:= .sl 13 [p.row]) (b:=168) (jP ps) AI w.hn .mk Ax (by rw[As];have:AK=140737488355328:=rfl;simp;omega);rw[As] at d;simp only[Bc] at d;have RT:(h.set n .Ds++[Ej.cells (ps.map PN.row++[p.row]).flatten])[a]?=some (.cells [.CW n 0 ps.length 13,.map m]):=by rw[An (by simpa using aJ),Ao (Dr j)];exact w.ha
 have es:CH (h.set n .Ds++[Ej.cells (ps.map PN.row++[p.row]).flatten]) 1 (Pt a 0) (.CW h.length 0 (ps.length+1) 13)=some ((h.set n .Ds++[Ej.cells (ps.map PN.row++[p.row]).flatten]).set a (.cells [.CW h.length 0 (ps.length+1) 13,.map m])):=by simp only[CH,RT];rfl
 have l:Bi ((h.set n .Ds++[Ej.cells (ps.map PN.row++[p.row]).flatten]).set a (.cells [.CW h.length 0 (ps.length+1) 13,.map m])) none (Pt a 0)=some (.CW h.length 0 (ps.length+1) 13):=by simp only[Bi];rw[AA Ed];rfl
 have o:Ay (.len false) [.CW h.length 0 (ps.length+1) 13]=some (I ((ps.length+1:Nat):Int)):=rfl;have em:Ay (.Cl 13) [.agg p.row]=some (.sl 13 [p.row]):=WT (a:= .agg p.row) rfl AI;refine⟨(h.set n .Ds++[Ej.cells (ps.map PN.row++[p.row]).flatten]).set a (.cells [.CW h.length 0 (ps.length+1) 13,.map m]),?_,?_,?_,?_⟩;rotate_left
 .refine⟨by simp[Ar.add,w.e],by simp[Ar.add,w.il],?_,?_,?_,?_,?_⟩;.rw[AA Ed];simp
  .rw[Ao Ac,Bn Ax];simp
  .intro q hq;rcases Aq.1 hq with hq|hq
   .refine(w.ks q hq).DT λid HX=>?_;have h1:id∈FA a n m ps:=KX hq HX;have h2:=w.lt id h1;have c:=w.nd;have k:id∈m.toList++ps.filterMap λp=>Ho p.kv:=Aq.2 (.inr (Ce.2 ⟨q,hq,HX⟩));unfold FA at c;simp only[B6,AE,PL] at c;have g:a≠id:=λe=>c.1.2 (e▸k);have f:n≠id:=λe=>c.2.1 (e▸k);rw[Ao g,An (by simpa using h2),Ao f]
   .simp at hq;subst hq;exact .inl ⟨hk,ym⟩
  .rw[jR (by rw[hk];rfl)];have c:=w.nd;unfold FA at c;simp only[B6,AE,PL] at c⊢;refine⟨⟨Ac,c.1.2⟩,λhm=>?_,c.2.2⟩;have:=w.lt h.length (by unfold FA;simp only[AE];exact .inr (.inr hm));omega
  .rw[sq w.il];refine w.mp.DT λid HX=>?_;have h1:id∈m.toList++ps.filterMap λp=>Ho p.kv:=by simp[HX]
   have h2:=w.lt id (by unfold FA;simp only[AE];exact .inr (.inr h1));have c:=w.nd;unfold FA at c;simp only[B6,AE,PL] at c;have g:a≠id:=λe=>c.1.2 (e▸h1);have f:n≠id:=λe=>c.2.1 (e▸h1);rw[Ao g,An (by simpa using h2),Ao f]
 .intro i hi h1 h2;rw[Ao (Dr h1),An (by simpa using hi),Ao (Dr h2)]
 .simp
 .have hl:A.len+1=((ps.length+1:Nat):Int):=by rw[<-w.len];rfl
  rw[PN.row] at em d es l;rw[Ae,o8,t95,hl,PN.row];simp only[abS,Nat.reduceLeDiff,↓reduceIte,Bv,w.nodes,em,d,es,l,o]
def TH{Aw:List (List Aa)}{z i k:Nat}(hr:∀r∈Aw,r.length=z)(hi:i<Aw.length)(hk:k<z){v:Aa}:Aw.flatten.take (i*z+k)++[v]++Aw.flatten.drop (i*z+k+1)=(Aw.set i (Aw[i].set k v)).flatten:=by
 have hl:=hr _ (A5 hi);rw[<-iK hr hi];have b:Aw.flatten.drop (i*z)=Aw[i]++Aw.flatten.drop (i*z+z):=by
  have e:i*z+z=(i+1)*z:=by rw[BE,Eh]
  rw[e,Iu hr,Iu hr,Az hi,CB]
 have d:Aw.flatten.take (i*z+k)=Aw.flatten.take (i*z)++Aw[i].take k:=by rw[ă,b,Dz Ac]
 have c:Aw.flatten.drop (i*z+k+1)=Aw[i].drop (k+1)++Aw.flatten.drop (i*z+z):=by rw[Rp,<-Ez,b,yY Ac]
 rw[d,c,Ck,Af Ac];simp
def PA.sto(w:PA h a n m ps A)(hx:A.has x){k:Nat}(hk:k<13){v:Aa}(hv:v.cells=[v]){p:PN}(hp:p.row=(pN ps x).row.set k v){h1:Ah}(hn:h1[n]?=h[n]?):
  CH h1 1 (Pt n (nP n x+k)) v=some (h1.set n (.cells ((ps.set (x.toNat-1) p).map PN.row).flatten)):=by
 have hlt:=(w.at hx).1;have hg:=(w.pn hx).1;rw[Au hlt,Bx] at hg;have e:=TH (Aw:=ps.map PN.row) (i:=x.toNat-1) (k:=k) (v:=v) (jP ps) (by simpa using hlt) hk;rw[EV,hg,<-hp,<-GK] at e;unfold nP;simp only[CH,hn,w.hn,hv,Bc,Nx];rw[Af (by rw[Gr (jP ps),As];omega),e]
def Xx(w:PA h a n m ps A)(hx:A.has x)(p:PN):ps=ps.take (x.toNat-1)++pN ps x::ps.drop (x.toNat-1+1)/\ps.set (x.toNat-1) p=ps.take (x.toNat-1)++p::ps.drop (x.toNat-1+1):=by have hlt:=(w.at hx).1;have hg:=(w.pn hx).1;rw[Au hlt,Bx] at hg;refine⟨?_,by rw[Ck,Af hlt]⟩;conv=>lhs;rw[<-Cx (x.toNat-1) ps,Az hlt,hg]
def su{y:GL}:(A.set x y).inr=A.inr:=by funext k;exact Sd
def PA.fo(w:PA h a n m ps A)(hx:A.has x){p:PN}{h1:Ah}(ho:∀i∈FA a n m ps,Ho (pN ps x).kv≠some i->h1[i]?=h[i]?)(hk:JS h1 p.kv p.x.Bw)
  (hi:Ho p.kv=Ho (pN ps x).kv\/∀j,Ho p.kv=some j->h.length<=j):PA (h1.set n (.cells ((ps.set (x.toNat-1) p).map PN.row).flatten)) a n m (ps.set (x.toNat-1) p) (A.set x p.x):=by
 have hlt:=(w.at hx).1;have Ú:=(w.pn hx).2.2;obtain⟨z,B⟩:=Xx w hx p;have nd:=w.nd;have g:∀j,Ho (pN ps x).kv=some j->j∈m.toList++ps.filterMap λp=>Ho p.kv:=λj hj=>Aq.2 (.inr (Ce.2 ⟨_,Ú,hj⟩));have dK:=nd;unfold FA at dK;simp only[B6,AE,PL] at dK;have t:a≠n:=dK.1.1;have l:Ho (pN ps x).kv≠some a:=λe=>dK.1.2 (g a e);have f:Ho (pN ps x).kv≠some n:=λe=>dK.2.1 (g n e);have Qj:n<h.length:=w.lt n (by simp[FA]);have v:h1[n]?=h[n]?:=ho n (by simp[FA]) f;have y:n<h1.length:=by have:=w.hn;rw[<-v] at this;exact(Aj.1 this).1
 have Ŧ:∀j,Ho p.kv=some j->j≠n/\j≠a:=by
  intro j hj;rcases hi with hi|hi
  .rw[hi] at hj;exact⟨λe=>f (e▸hj),λe=>l (e▸hj)⟩
  .have:=hi j hj;have:=w.lt a (by simp[FA]);omega
 refine⟨?_,?_,?_,?_,?_,?_,?_⟩;.simp only[Ar.set,Af hx];rw[w.e,GK]
 .rw[IX];exact w.il
 .rw[Ao (Dr t),ho a (by simp[FA]) l,BY];exact w.ha
 .rw[AA y]
 .intro q hq;by_cases c:q=p;.rw[c];exact hk.DT λid HX=>by rw[Ao (Dr (Ŧ id HX).1)]
  .rw[B] at hq;have d:q∈ps.take (x.toNat-1)++ps.drop (x.toNat-1+1):=by
    rcases Aq.1 hq with b|b
    .exact Aq.2 (.inl b)
    .exact Aq.2 (.inr ((AE.1 b).resolve_left c))
   have Ÿ:q∈ps:=by
    rcases Aq.1 d with b|b
    .exact A4 b
    .exact Bu b
   refine(w.ks q Ÿ).DT λj hj=>?_;have o:j∈FA a n m ps:=KX Ÿ hj;have u:j≠n:=λe=>dK.2.1 (e▸Aq.2 (.inr (Ce.2 ⟨q,Ÿ,hj⟩)));have YE:Ho (pN ps x).kv≠some j:=by
    intro s;have r:=(BQ.1 dK.2.2).2.1;rw[z,El,H5,s] at r;simp only[BQ,B6,AE,Ce] at r;rcases Aq.1 d with b|b
    .exact r.2.2 j ⟨q,b,hj⟩ j (.inl rfl) rfl
    .exact r.2.1.1 ⟨q,b,hj⟩
   rw[Ao (Dr u),ho j o YE]
 .have fr:∀j,Ho p.kv=some j->Ho (pN ps x).kv=some j\/j∉FA a n m ps:=by
   intro j hj;rcases hi with hi|hi
   .exact .inl (hi▸hj)
   .exact .inr λhm=>by have:=hi j hj;have:=w.lt j hm;omega
  have h1:=nd;unfold FA at h1 fr⊢;rw[z,El,H5] at h1;rw[z,El,H5] at fr;rw[B,El,H5];generalize List.filterMap (λp=>Ho p.kv) (ps.take (x.toNat-1))=T at h1 fr⊢;generalize List.filterMap (λp=>Ho p.kv) (ps.drop (x.toNat-1+1))=D at h1 fr⊢;cases hp:Ho p.kv with
  |none=>
   cases ho:Ho (pN ps x).kv with
   |none=>rw[ho] at h1;exact h1
   |some k=>rw[ho] at h1;refine h1.sublist ?_;simp
  |some j=>
   have:=fr j hp;cases ho:Ho (pN ps x).kv with
   |none=>rw[ho] at h1 this;simp only[B6,BQ,AE,Aq] at h1 this⊢;grind
   |some k=>rw[ho] at h1 this;simp only[B6,BQ,AE,Aq] at h1 this⊢;grind
 .rw[su];refine w.mp.DT λid HX=>?_;have o:id∈m.toList++ps.filterMap λp=>Ho p.kv:=by simp[HX]
  have u:n≠id:=λe=>dK.2.1 (e▸o);have YE:Ho (pN ps x).kv≠some id:=by intro Yq;exact(BQ.1 dK.2.2).2.2 id (by simp[HX]) id (Ce.2 ⟨_,Ú,Yq⟩) rfl
  rw[Ao u,ho id (by unfold FA;simp only[AE];exact .inr (.inr o)) YE]
def PA.pw(w:PA h a n m ps A):PW h (λi=>i∈FA a n m ps) a A:=⟨n,m,ps,w,λ_=>Iff.rfl⟩
def Mi.add{y:GL}(b:Mi A)(h1:A.len+1<=1000000000)(h2:y.Av.length<=1000000000)(c:y.data.length<=1000000000):Mi (A.add y):=by
 refine⟨?_,λx=>?_,λx=>?_⟩;.unfold Ar.len at h1;simp[Ar.add];omega
 .rw[Lj];split;.exact h2
  .exact b.at_ x
 .rw[Lj];split;.exact c
  .exact b.data x
def Mi.set{y:GL}(b:Mi A)(h2:y.Av.length<=1000000000)(c:y.data.length<=1000000000):Mi (A.set x y):=by
 refine⟨by rw[IX];exact b.n,λx=>?_,λx=>?_⟩<;>rw[JO]<;>split;.exact h2
 .exact b.at_ x
 .exact c
 .exact b.data x
def Û{x y:GL}:(A.add x).set (A.len+1) y=A.add y:=by unfold Ar.set;rw[Af (Ea.2 (.inr rfl))];unfold Ar.add Ar.len;have e:((A.n.length:Int)+1).toNat-1=A.n.length:=Ac;simp only[e];rw[BL _ _ (Ab _),DB];rfl
def xR{p:PN}(w:PA h a n m ps A)(hx:A.has x)(hk:Ho p.kv=Ho (pN ps x).kv):FA a n m (ps.set (x.toNat-1) p)=FA a n m ps:=by obtain⟨c,b⟩:=Xx w hx p;unfold FA;rw[b,El,H5,hk];conv=>rhs;rw[c,El,H5]
def PA.wr(w:PA h a n m ps A)(hx:A.has x){k:Nat}(hk:k<13){v:Aa}(hv:v.cells=[v]){p:PN}(hp:p.row=(pN ps x).row.set k v)(h1:p.kv=(pN ps x).kv)(h2:p.x.Bw=(A.nd x).Bw):
  ∃h',CH h 1 (Pt n (nP n x+k)) v=some h'/\PA h' a n m (ps.set (x.toNat-1) p) (A.set x p.x)/\FA a n m (ps.set (x.toNat-1) p)=FA a n m ps/\(∀i,i≠n->h'[i]?=h[i]?)/\h'.length=h.length:=by
 refine⟨_,w.sto hx hk hv hp rfl,w.fo hx (λi _ _=>rfl) (by rw[h1,h2];exact w.P2 hx) (.inl (by rw[h1])),xR w hx (by rw[h1]),λi hi=>by rw[Ao (Dr hi)],BY⟩
def PA.xS(w:PA h a n m ps A){h1:Ah}{Mj:List PN}{A':Ar}(w':PA h1 a n m Mj A')(hi:FA a n m Mj=FA a n m ps)(ho:∀i,i≠n->h1[i]?=h[i]?)(hl:h1.length=h.length):Ew h (λi=>i∈FA a n m ps) h1 (λi=>i∈FA a n m Mj):=
 ⟨Ac,λi _ hn=>ho i (λe=>hn (by rw[e];simp[FA])),λi T9=> .inl (by rwa [hi] at T9)⟩
def Ke(q:Bool)(d:Int):PN:=⟨{kind:=1,CS:=q,Cy:=d},.slnil,.slnil,rfl⟩
def aK7(w:PA h a n m ps A)(g:Mi A)(hb:A.len+1<=1000000000)(q:Bool):
  ∃h',Ca cx 36 [Pt a 0,.bool q] h (I (A.len+1)) h'/\PA h' a h.length m (ps++[Ke q (A.len+1)]) (A.add {kind:=1,CS:=q,Cy:=A.len+1})/\(∀i,i<h.length->i≠a->i≠n->h'[i]?=h[i]?)/\h'.length=h.length+1:=by
 have rJ:=w.len;obtain⟨h1,d,w1,f,l1⟩:=sr w Ac (Ke q 0) rfl rfl;have Ĵ:=g.add (y:=(Ke q 0).x) hb (by simp[Ke]) (by simp[Ke]);have hx:(A.add (Ke q 0).x).has (A.len+1):=Ea.2 (.inr rfl);have hlen:(A.len+1).toNat-1=ps.length:=Ac;have Ŧ:pN (ps++[Ke q 0]) (A.len+1)=Ke q 0:=by unfold pN;rw[hlen];simp
 obtain⟨h2,c,b,_,e,o⟩:=w1.wr hx (k:=3) AI (v:= I (A.len+1)) rfl (p:=Ke q (A.len+1)) (by rw[Ŧ];rfl) (by rw[Ŧ];rfl) (by rw[Lj,Af rfl];rfl);refine⟨h2,?_,?_,λi hi l j=>?_,Ac⟩;.have r2:=Ih w1 Ĵ hx;rw[Ae,oR,t36];have ĵ:Ca cx 95 [Pt a 0,.agg [I 1,I 0,.slnil,I 0,I 0,.str [],.slnil,.str [],.str [],.str [],.bool q,I 0,I 0]] h (I (A.len+1)) h1:=d;simp only[abS,Nat.reduceLeDiff,↓reduceIte,Bv,ĵ.Ad,r2.Ad,c]
 .rw[Û,hlen] at b;rw[BL _ _ (Ab _),DB] at b;exact b
 .rw[e i Ac];exact f i hi l j
def L3(k d:Int)(s:Ak):PN:=⟨{kind:=k,Cy:=d,data:=s},.slnil,.slnil,rfl⟩
def PA.Qd(w:PA h a n m ps A){p:PN}{h1:Ah}(hk:Ho p.kv=none)(b:∀i,i<h.length->i≠a->i≠n->h1[i]?=h[i]?)(l1:h1.length=h.length+1):Ew h (λi=>i∈FA a n m ps) h1 (λi=>i∈FA a h.length m (ps++[p])):=by
 refine⟨Ac,λi hi hn=>b i hi (λe=>hn (by simp[FA,e])) (λe=>hn (by simp[FA,e])),λi hi=>?_⟩;rw[jR hk] at hi;simp only[AE] at hi;rcases hi with rfl|rfl|hi
 .exact .inl (by simp[FA])
 .exact .inr (Ab _)
 .exact .inl (by unfold FA;simp only[AE];exact .inr (.inr hi))
def Ķ{k:Int}{s:Ak}(w:PA h a n m ps A)(d:Mi A)(hb:A.len+1<=1000000000)(hd:A.has x/\(A.nd x).kind=1):
  ∃h',Ca cx 142 [Pt a 0,I x,.agg (L3 k 0 s).row] h (.tuple [I (A.len+1),I 0]) h'/\PA h' a h.length m (ps++[L3 k x s]) (A.add (L3 k x s).x)/\(∀i,i<h.length->i≠a->i≠n->h'[i]?=h[i]?)/\h'.length=h.length+1:=by
 have rJ:=w.len;obtain⟨h1,b,w1,c,l1⟩:=sr w Ac (L3 k x s) rfl rfl;refine⟨h1,?_,w1,c,l1⟩;rw[PN.row] at b;rw[Ae,cL,W_,PN.row];simp only[abS,(jQ (x:=x) w d).Ad,Af hd.1,Af hd.2,CA,Cq,L3] at b⊢;simp only[Ci,b.Ad]
def aK8{s:Ak}(w:PA h a n m ps A)(d:Mi A)(hb:A.len+1<=1000000000)(hd:A.has x/\(A.nd x).kind=1):
  ∃h',Ca cx 109 [Pt a 0,I x,.str s] h (.tuple [I (A.len+1),I 0]) h'/\PA h' a h.length m (ps++[L3 5 x s]) (A.add (L3 5 x s).x)/\(∀i,i<h.length->i≠a->i≠n->h'[i]?=h[i]?)/\h'.length=h.length+1:=by
 obtain⟨h1,b,w1,c,l1⟩:=Ķ (k:=5) (s:=s) w d hb hd;refine⟨h1,?_,w1,c,l1⟩;have ĵ:Ca cx 142 [Pt a 0,I x,.agg [I 5,I 0,.slnil,I 0,I 0,.str [],.slnil,.str s,.str [],.str [],.bool false,I 0,I 0]] h (.tuple [I (A.len+1),I 0]) h1:=b;rw[Ae,tO,t109];simp only[abS,Nat.reduceLeDiff,↓reduceIte,Bv,ĵ.Ad]
def aF2{s:Ak}(w:PA h a n m ps A)(d:Mi A)(hb:A.len+1<=1000000000)(hd:A.has x/\(A.nd x).kind=1):
  ∃h',Ca cx 110 [Pt a 0,I x,.str s] h (.tuple [I (A.len+1),I 0]) h'/\PA h' a h.length m (ps++[L3 6 x s]) (A.add (L3 6 x s).x)/\(∀i,i<h.length->i≠a->i≠n->h'[i]?=h[i]?)/\h'.length=h.length+1:=by
 obtain⟨h1,b,w1,c,l1⟩:=Ķ (k:=6) (s:=s) w d hb hd;refine⟨h1,?_,w1,c,l1⟩;have ĵ:Ca cx 142 [Pt a 0,I x,.agg [I 6,I 0,.slnil,I 0,I 0,.str [],.slnil,.str s,.str [],.str [],.bool false,I 0,I 0]] h (.tuple [I (A.len+1),I 0]) h1:=b;rw[Ae,tP,aAY];simp only[abS,Nat.reduceLeDiff,↓reduceIte,Bv,ĵ.Ad]
def aK9{s:Ak}(w:PA h a n m ps A)(e:Mi A)(hx:A.has x)(hk:(A.nd x).kind=5):
  ∃h' Mj,Ca cx 108 [Pt a 0,I x,.str s] h (I 0) h'/\PA h' a n m Mj (A.Sg x s)/\Ew h (λi=>i∈FA a n m ps) h' (λi=>i∈FA a n m Mj):=by
 have hp:=(w.pn hx).2.1;obtain⟨h2,c,b,g,d,f⟩:=w.wr hx (k:=7) AI (v:= .str s) rfl (p:=⟨{A.nd x with data:=s},(pN ps x).kv,(pN ps x).av,by rw[<-hp];exact(pN ps x).ok⟩) (by simp only[PN.row];rw[hp];rfl) rfl rfl;refine⟨h2,_,?_,b,w.xS b g d f⟩;rw[Ae,tN,aAX];simp only[abS,Gl,(Ri (x:=x) w).Ad,Af hx,CA,Cq,(Ih w e hx).Ad,w.f0 hx,hk,c]
def ķ{y:Int}:Ca cx 224 [.sl 1 [[I y]]] h (.bool (decide (BS.Lu y))) h:=by
 have hv:Bz 1 [[I y]] (.sl 1 [[I y]]):= .mk;have d:([[I y]]:List (List Aa))[0]=[I y]:=rfl;rw[Ae,wH,aB7];simp only[Ci,hv.len];refine B1 (λk:Nat=>[.bool false,I (k:Int)]) (λk h1=>k<=1/\(k=1->BS.Lu y)/\h1=h) (λk=>1 -k) 0 rfl ⟨Bd _,λe=>Ac,rfl⟩ ?_;rintro k h1 ⟨hk,ha,rfl⟩;rcases Bk k 1 with hlt|Hh
 .obtain rfl:k=0:=by omega
  simp only[Ci,bK,(AI:((0:Nat):Int)<((1:Nat):Int)),hv.FH (show 0<[[I y]].length from Fo),d,CR (Ac:0<9223372036854775807)];refine⟨λh2=>?_,λh2=>⟨λc=>?_,λc=>?_⟩⟩;.rw[Ai (λb=>by unfold BS.Lu at b;omega)]
  .rw[Ai (λb=>by unfold BS.Lu at b;omega)]
  .exact By.next 1 rfl ⟨Ab _,λ_=>⟨Ac,Ac⟩,rfl⟩ Ac
 .obtain rfl:k=1:=by omega
  simp only[abS,(AI:¬((1:Nat):Int)<((1:Nat):Int)),Al (ha rfl)]
def Xy{l out:List A7}{y:A7}:Gu out (l++[y])=if(Gu out l).any (λz=>decide (keyOf y=keyOf z)) then Gu out l else Gu out l++[y]:=by
 induction l generalizing out with
 |nil=>simp only[BO,Gu];split<;>simp_all
 |cons z l ih=>
  rw[CC,Gu,Gu];split;.exact ih
  .exact ih
def aF3(y c:A7)(h:Ah):Ca cx 266 [.agg c.row,.BW y.row] h (.bool (decide (keyOf y=keyOf c))) h:=by
 rw[Ae,xF,aCu,A7.row,A7.row];simp only[Ci];refine⟨λh1=>?_,λh1=>?_⟩;.congr 2;rw[Dn];simp[keyOf,h1]
 .rw[Ai (λe=>h1 (by simp[keyOf] at e;exact e.1))]
def ĸ{F v:Aa}{l:List A7}{q:A7->Bool}(hv:MA h v l)(hb:l.length<=1000000000)(hF:jO F h q):Ca cx 124 [v,F] h (.bool (l.any q)) h:=by
 obtain⟨f,caps,rfl,hf,hr⟩:=hF;have key:Ca cx 192 [v,.func (.func f) [] caps] h (I (Cf q 0 l)) h:=by
  rw[Ae,Vu,qx];simp only[Ci,hv.len];refine B1 (λn:Nat=>[I 0,I (n:Int)]) (λn h1=>n<=l.length/\Cf q 0 l=Cf q n (l.drop n)/\h1=h) (λn=>l.length-n) 0 rfl ⟨Bd _,rfl,rfl⟩ ?_;rintro n h1 ⟨Ø,ha,rfl⟩;rcases Bk n l.length with hlt|Hh
  .have i1:(n:Int)<(l.length:Int):=by omega
   obtain⟨p,d,c⟩:=hv.at_ n hlt;rw[Az hlt,Cf] at ha;simp only[Ci,↓reduceIte,Cz,bK,hf,i1,d,c,(hr l[n]).Ad,CR (Ac:n<9223372036854775807)];rw[C9];refine⟨λhe=>?_,λhe=>?_⟩;.rw[ha,Af he]
   .rw[Ag (by simp[he])] at ha;exact By.next (n+1) rfl ⟨hlt,ha,rfl⟩ Ac
  .have i1:¬(n:Int)<(l.length:Int):=by omega
   rw[AT Hh,Cf] at ha;simp only[abS,↓reduceIte,Cz,i1,ha]
 rw[Ae,cH,S_];simp only[Ci,key.Ad];congr 2
 rcases Gs (p:=q) (l:=l) (k:=0) with⟨h1,h2⟩|⟨n,y,h1,h2,b⟩
 .rw[h1,gw];have:=IN.1 h2;simpa using this
 .rw[h1,gw,Al Ac,Ka];exact⟨y,Hq b,Lb b⟩
def Ĺ{l:List A7}{v:Aa}(hv:MA h v l)(hb:l.length<=1000000000)(hs:∀y∈l,BS.Lu y.A9):Ca cx 218 [v] h (.tuple [U8 (C7 l),.bool true]) h:=by
 rw[Ae,wB,aB1];simp only[Ci,hv.len];refine B1 (λk:Nat=>[.slnil,.bool false,U8 (C7 (l.take k)),I (k:Int)]) (λk h1=>k<=l.length/\h1=h) (λk=>l.length-k) 0 rfl ⟨Bd _,rfl⟩ ?_;rintro k h1 ⟨hk,rfl⟩;rcases Bk k l.length with hlt|Hh
 .have i1:(k:Int)<(l.length:Int):=by omega
  obtain⟨p,p1,p2⟩:=hv.at_ k hlt;have inc:=CR (Ac:k<9223372036854775807);have hsp:=hs _ (A5 hlt);have g:=ķ (h:=h1) (y:=l[k].A9);have hF:jO (.func (.func 266) [] [.BW l[k].row]) h1 (λc=>decide (keyOf l[k]=keyOf c)):=⟨_,_,rfl,AI,λc=>aF3 l[k] c h1⟩;have ye:(C7 (l.take k)).length<=1000000000:=by have:=Sf (l:=l.take k);rw[AB] at this;omega
  have r2:=ĸ (Xw Sr) ye hF;have e:C7 (l.take (k+1))=if(C7 (l.take k)).any (λz=>decide (keyOf l[k]=keyOf z)) then C7 (l.take k) else C7 (l.take k)++[l[k]]:=by rw[AS hlt];exact Xy
  have d:=Bz.Zw (f:=A7.row) (a:=l[k]) (b:=40) (Sr (l:=C7 (l.take k))) (by have:=Sf (l:=l.take k);rw[AB] at this;have:AK=140737488355328:=rfl;omega);have em:Ay (.Cl 3) [.agg l[k].row]=some (.sl 3 [l[k].row]):=rfl;rw[<-de] at d;rw[A7.row] at r2 em d p2;simp only[abS,Nat.reduceLeDiff,↓reduceIte,i1,p1,p2,Gl,g.Ad,Al hsp,r2.Ad,em,d,inc];rw[C9];refine⟨λh2=>?_,λh2=>?_⟩;.exact By.next (k+1) (by rw[e,Ag (by simpa using h2)]) ⟨hlt,rfl⟩ Ac
  .exact By.next (k+1) (by rw[e,Af (by simpa using h2)]) ⟨hlt,rfl⟩ Ac
 .have i1:¬(k:Int)<(l.length:Int):=by omega
  simp only[abS,↓reduceIte,i1,Be Hh]
def aF4{l:List A7}{v:Aa}(w:PA h a n m ps A)(f:Mi A)(hx:A.has x)(hk:(A.nd x).kind=4)(hv:MA h v l)(hb:l.length<=1000000000)(hs:∀y∈l,BS.Lu y.A9):
  ∃h' Mj,Ca cx 126 [Pt a 0,I x,v] h (I 0) h'/\PA h' a n m Mj (A.L0 x l)/\Ew h (λi=>i∈FA a n m ps) h' (λi=>i∈FA a n m Mj):=by
 have hp:=(w.pn hx).2.1;have d:=Ĺ hv hb hs;obtain⟨h2,c,b,j,e,g⟩:=w.wr hx (k:=6) AI (v:=U8 (C7 l)) (Bz.cells Sr) (p:=⟨{A.nd x with Av:=C7 l},(pN ps x).kv,U8 (C7 l),rfl⟩) (by simp only[PN.row];rw[hp];rfl) rfl rfl;refine⟨h2,_,?_,b,w.xS b j e g⟩;rw[Ae,uB,aBa];simp only[abS,Gl,(Ri (x:=x) w).Ad,Af hx,CA,Cq,(Ih w f hx).Ad,w.f0 hx,hk,d.Ad,c]
def aF5(w:PA h a n m ps A)(hx:A.has x):Ca cx 225 [Pt n (nP n x)] h (.bool (decide (fE (A.nd x)))) h:=by rw[Ae,wI,aB8];simp only[abS,w.f0 hx,w.f4 hx,w.f5 hx,fE];refine⟨λh1=>⟨λh2=>?_,λh2=>?_⟩,λh1=>?_⟩<;>simp[*]
def Qn(x:Int×Int):Aa×Aa:=(I x.1,I x.2)
def dL{k:Int}:∀{l:List (Int×Int)} {i:Nat},(l.find? (λx=>decide (k=x.1))=none->H7 k (l.map Qn) i=some none)/\∀y,l.find? (λx=>decide (k=x.1))=some y->∃j,H7 k (l.map Qn) i=some (some (j,I y.2))
 |[],i=>⟨λ_=>rfl,λy h=>by cases h⟩
 |z::l,i=>by
  have ih:=dL (k:=k) (l:=l) (i:=i+1);simp only[A0,Qn,H7,Hs];by_cases e:k=z.1;.simp only[e,GN,BD];exact⟨λh=>(by cases h),λy h=>⟨i,by cases h;rfl⟩⟩
  .simp only[e,Fc,DO];exact ih
def Pz.get{f:Int->Int}(w:Pz h m f)(k:Int):DC (.zA (I 0) true) h [.map m,I k]=some (h,if f k=0 then .tuple [I 0,.bool false] else .tuple [I (f k),.bool true]):=by
 rcases w with⟨rfl,h0⟩|⟨id,l,rfl,hc,hl,_⟩
 .rw[Af (h0 k)];rfl
 .have hl:=hl k;have hm:=dL (k:=k) (l:=l) (i:=0);simp only[DC,fK,hc];by_cases h0:f k=0
  .rw[Af h0] at hl⊢;have e:l.find? (λx=>decide (k=x.1))=none:=by
    cases hf:l.find? (λx=>decide (k=x.1)) with
    |none=>rfl
    |some y=>rw[hf] at hl;cases hl
   have:=hm.1 e;unfold Qn at this;rw[this];rfl
  .rw[Ag h0] at hl⊢;cases hf:l.find? (λx=>decide (k=x.1)) with
   |none=>rw[hf] at hl;cases hl
   |some y=>rw[hf] at hl;simp only[Bt,Bx] at hl;obtain⟨j,e⟩:=hm.2 y hf;unfold Qn at e;rw[e,<-hl];rfl
def xT{id:Nat}{l:List (Int×Int)}{k v:Int}(hc:h[id]?=some (.map (l.map Qn)))(hn:l.find? (λx=>decide (k=x.1))=none):
  ∃h1,DC (.NA (I 0)) h [.map (some id),I k]=some (h1,.tuple [I 0,I l.length])/\∃h2,DC .Kf h1 [.map (some id),I l.length,I v]=some (h2,.bool true)/\h2=h.set id (.map ((l++[(k,v)]).map Qn)):=by
 have HX:=(Aj.1 hc).1;have hm:=(dL (k:=k) (l:=l) (i:=0)).1 hn;refine⟨h.set id (.map (l.map Qn++[(I k,I 0)])),?_,_,?_,rfl⟩;.simp only[DC,Vd,hc,hm,Bt,As]
 .have c:(h.set id (.map (l.map Qn++[(I k,I 0)])))[id]?=some (.map (l.map Qn++[(I k,I 0)])):=AA HX;have b:(l.map Qn++[(I k,I 0)])[l.length]?=some (I k,I 0):=by rw[Bn Ax];simp
  simp only[DC,RA,c,BH,b];rw[Af Ac,Md,BL _ _ Ax];simp[Qn]
def PA.aF6(w:PA h a n m ps A):∀i∈m.toList++ps.filterMap (λp=>Ho p.kv),i<h.length/\i≠a/\i≠n:=by
 intro i hi;have h1:i∈FA a n m ps:=by unfold FA;simp only[AE];exact .inr (.inr hi)
 have b:=w.nd;unfold FA at b;simp only[B6,AE,PL] at b;exact⟨w.lt i h1,λe=>b.1.2 (e▸hi),λe=>b.2.1 (e▸hi)⟩
def PA.aF7(w:PA h a n m ps A){h1:Ah}{m':Option Nat}{A':Ar}(g:A'.n=A.n)(f:A'.i.length=A'.n.length)(ha:h1[a]?=some (.cells [.CW n 0 ps.length 13,.map m']))(ho:∀i,i<h.length->i≠a->m≠some i->h1[i]?=h[i]?)(hm:m'=m\/∃j,m'=some j/\h.length<=j)(b:Pz h1 m' A'.inr):PA h1 a n m' ps A':=by
 have nd:=w.nd;have dK:=nd;unfold FA at dK;simp only[B6,AE,PL] at dK;have hnm:m≠some n:=λe=>dK.2.1 (by simp[e]);refine⟨by rw[g];exact w.e,f,ha,?_,?_,?_,b⟩;.rw[ho n (w.lt n (by simp[FA])) (Dr dK.1.1) hnm];exact w.hn
 .intro p hp;refine(w.ks p hp).DT λid HX=>?_;have h1:id∈ps.filterMap (λp=>Ho p.kv):=Ce.2 ⟨p,hp,HX⟩;have h2:=w.aF6 id (Aq.2 (.inr h1));exact ho id h2.1 h2.2.1 λe=>(BQ.1 dK.2.2).2.2 id (by simp[e]) id h1 rfl
 .rcases hm with rfl|⟨j,rfl,hj⟩
  .exact nd
  .have d:∀i∈ps.filterMap (λp=>Ho p.kv),i<h.length:=λi hi=>(w.aF6 i (Aq.2 (.inr hi))).1;have l:=w.lt a (by simp[FA]);have k:=w.lt n (by simp[FA]);have c:=(BQ.1 dK.2.2).2.1;unfold FA;simp only[B6,AE,aM4,CC,BO,PL];exact⟨⟨dK.1.1,Ac,λhm=>dK.1.2 (Aq.2 (.inr hm))⟩,⟨Ac,λhm=>dK.2.1 (Aq.2 (.inr hm))⟩,λhm=>by have:=d j hm;omega,c⟩
def Xz{l:List (Int×Int)}{k v:Int}(hk:Ss l)(hn:l.find? (λx=>decide (k=x.1))=none)(h1:Yo k=true)(h2:Yo v=true):Ss (l++[(k,v)]):=by
 refine⟨?_,λp hp=>?_⟩;.rw[BP,BQ];refine⟨hk.1,Ax,λa ha b hb e=>?_⟩;obtain⟨x,hx,rfl⟩:=AZ.1 ha;have c:=IN.1 hn x hx;simp only[A0,Dc,AU] at hb;exact c (by simpa using(e.trans hb).symm)
 .rcases Aq.1 hp with h|h
  .exact hk.2 p h
  .simp only[AU] at h;subst h;exact⟨h1,h2⟩
def xU(hb:A.len<=1000000000)(hx:A.has x):Yo x=true:=by have:=hx.1;have:=hx.2;unfold Ar.len at hb;unfold Yo;simp;omega
def aF8{i:Nat}(hm:m=some i):i∈FA a n m ps:=by unfold FA;simp[hm]
def PA.aF9(w:PA h a n m ps A){l:List (Int×Int)}{id:Nat}(s:m=some id)(hc:h[id]?=some (.map (l.map Qn)))(hl:∀k,(l.find? λx=>decide (k=x.1)).map (·.2)=if A.inr k=0 then none else some (A.inr k))(ok:Ss l)(hb:A.len<=1000000000){d i:Int}(hd:A.has d)(hi:A.has i)(c:d≠i)(h0:A.inr d=0)(ĝ:A.inr i=0):
  ∃h1 h2 q,DC (.NA (I 0)) h [.map m,I d]=some (h1,.tuple [I 0,I l.length])/\DC .Kf h1 [.map m,I l.length,I i]=some (h2,.bool true)/\
   DC (.NA (I 0)) h2 [.map m,I i]=some (q,.tuple [I 0,I ((l.length+1:Nat):Int)])/\∃o,DC .Kf q [.map m,I ((l.length+1:Nat):Int),I i]=some (o,.bool true)/\PA o a n m ps ((A.Nk d i).Nk i i)/\(∀j,j≠id->o[j]?=h[j]?)/\o.length=h.length:=by
 subst s;have HX:=(Aj.1 hc).1;have b:∀k,A.inr k=0->l.find? (λx=>decide (k=x.1))=none:=by
  intro k hk;have:=hl k;rw[Af hk] at this;cases hf:l.find? (λx=>decide (k=x.1)) with
  |none=>rfl
  |some y=>rw[hf] at this;cases this
 obtain⟨h1,D,h2,C,rfl⟩:=xT (v:=i) hc (b d h0);have K9:(h.set id (.map ((l++[(d,i)]).map Qn)))[id]?=some (.map ((l++[(d,i)]).map Qn)):=AA HX;obtain⟨q,z,o,u,rfl⟩:=xT (k:=i) (v:=i) K9 (by rw[QL,b i ĝ];simp[Dr c]);simp only[Ap,Bc] at z u;refine⟨h1,_,q,D,C,z,_,u,?_,?_,Ax⟩
 .have g:id≠a:=λe=>by have:=w.nd;unfold FA at this;simp[e] at this
  refine w.aF7 (m':=some id) (A':=(A.Nk d i).Nk i i) rfl ?_ ?_ ?_ (.inl rfl) ?_;.simp only[Ar.Nk];split<;>split<;>simp[w.il]
  .rw[Ao g,Ao g];exact w.ha
  .intro j hj B t;have:id≠j:=λe=>t (by rw[e]);rw[Ao this,Ao this]
  .refine .inr ⟨id,l++[(d,i)]++[(i,i)],rfl,?_,λk=>?_,Xz (Xz ok (b d h0) (xU hb hd) (xU hb hi)) (by rw[QL,b i ĝ];simp[Dr c]) (xU hb hi) (xU hb hi)⟩;.rw[AA (by simpa using HX)];rfl
   .have r:(A.Nk d i).i.length=(A.Nk d i).n.length:=by simp only[Ar.Nk];split<;>simp[w.il]
    rw[W8 r,W8 w.il,QL,QL];have kg:(A.Nk d i).has i:=hi;have hk:=hl k;have ĺ:i≠0:=by have:=hi.1;omega
    cases hf:l.find? (λx=>decide (k=x.1)) with
    |some y=>
     rw[hf] at hk;have Ü:A.inr k≠0:=by intro e;rw[Af e] at hk;cases hk
     have p:k≠i:=λe=>Ü (e▸ĝ);have f:k≠d:=λe=>Ü (e▸h0);simp only[p,f,Ŋ,DO,Option.some_or];exact hk
    |none=>
     rw[hf] at hk;have Ü:A.inr k=0:=by
      by_cases e:A.inr k=0;.exact e
      .rw[Ag e] at hk;cases hk
     by_cases f:k=d;.subst f;simp[c,hd,ĺ]
     .by_cases p:k=i;.subst p;simp[f,kg,ĺ]
      .simp[p,f,Ü]
 .intro j hj;rw[Ao (Dr hj),Ao (Dr hj)]
def aGa(w:PA h a n m ps A)(D:Mi A)(hb:A.len+1<=1000000000)(hx:A.has x):
  ∃h' n' m' Mj,Ca cx 226 [Pt a 0,I x] h (I (A.HP x)) h'/\PA h' a n' m' Mj (A.EL x)/\Ew h (λi=>i∈FA a n m ps) h' (λi=>i∈FA a n' m' Mj):=by
 have l1:Bi h none (Pt a 1)=some (.map m):=by simp only[Bi,w.ha];rfl
 have g1:=w.mp.get x;by_cases h0:A.inr x=0
 .obtain⟨h1,y,w1,C,d⟩:=aK7 w D hb false;have f:=w.Qd (p:=Ke false (A.len+1)) rfl C d;have r:A.HP x=A.len+1:=by unfold Ar.HP;rw[Ag (by simp[h0])]
  have s:A.EL x=((A.add {kind:=1,Cy:=A.len+1}).Nk x (A.len+1)).Nk (A.len+1) (A.len+1):=by unfold Ar.EL;rw[Ag (by simp[h0])]
  have Ý:∀k,(A.add {kind:=1,CS:=false,Cy:=A.len+1}).inr k=A.inr k:=λk=>Vo w.il;have Tl:(A.add {kind:=1,CS:=false,Cy:=A.len+1}).has x:=Ea.2 (.inl hx);have xh:(A.add {kind:=1,CS:=false,Cy:=A.len+1}).has (A.len+1):=Ea.2 (.inr rfl);have hne:=Xh hx;have ĝ:A.inr (A.len+1)=0:=by unfold Ar.inr;rw[Ag Q8]
  have z:Bi h1 none (Pt a 1)=some (.map m):=by simp only[Bi,w1.ha];rfl
  rw[Af h0] at g1;have S0:(A.add {kind:=1,CS:=false,Cy:=A.len+1}).len<=1000000000:=by rw[N1];exact hb
  rcases w1.mp with⟨rfl,hz⟩|⟨id,l,rfl,hc,hl,ho⟩
  .have ma:=w1.ha;have aJ:a<h1.length:=w1.lt a (by simp[FA]);have RT:(h1++[Ej.map []])[a]?=some (.cells [.CW h.length 0 (ps++[Ke false (A.len+1)]).length 13,.map none]):=by rw[An aJ];exact ma
   have es:CH (h1++[Ej.map []]) 1 (Pt a 1) (.map (some h1.length))=some ((h1++[Ej.map []]).set a (.cells [.CW h.length 0 (ps++[Ke false (A.len+1)]).length 13,.map (some h1.length)])):=by simp only[CH,RT];rfl
   have mf:((h1++[Ej.map []]).set a (.cells [.CW h.length 0 (ps++[Ke false (A.len+1)]).length 13,.map (some h1.length)]))[a]?=some (.cells [.CW h.length 0 (ps++[Ke false (A.len+1)]).length 13,.map (some h1.length)]):=AA Ed;have K:Bi ((h1++[Ej.map []]).set a (.cells [.CW h.length 0 (ps++[Ke false (A.len+1)]).length 13,.map (some h1.length)])) none (Pt a 1)=some (.map (some h1.length)):=by simp only[Bi,mf];rfl
   have yn:((h1++[Ej.map []]).set a (.cells [.CW h.length 0 (ps++[Ke false (A.len+1)]).length 13,.map (some h1.length)]))[h1.length]?=some (.map (([]:List (Int×Int)).map Qn)):=by rw[Ao Ac,Bn (Ab _),DB];rfl
   have B:PA ((h1++[Ej.map []]).set a (.cells [.CW h.length 0 (ps++[Ke false (A.len+1)]).length 13,.map (some h1.length)])) a h.length (some h1.length) (ps++[Ke false (A.len+1)]) (A.add {kind:=1,CS:=false,Cy:=A.len+1}):=by refine w1.aF7 rfl w1.il mf (λi hi c _=>by rw[Ao (Dr c),An hi]) (.inr ⟨_,rfl,Ab _⟩) (.inr ⟨h1.length,[],rfl,yn,λk=>by rw[Af (hz k)];rfl,J3,λp hp=>nomatch hp⟩)
   obtain⟨H,G,E,q,o,j,v,g,t,u,b⟩:=B.aF9 rfl yn (λk=>by rw[Af (hz k)];rfl) ⟨J3,λp hp=>nomatch hp⟩ S0 Tl xh hne ((Ý x).trans h0) ((Ý _).trans ĝ);refine⟨v,_,_,_,?_,s▸t,⟨by rw[b];simp;omega,λi hi fA=>?_,λi hi=>?_⟩⟩;.simp only[Br] at q o j g;rw[Ae,Vv,qy,r];simp only[Ci,l1,g1,y.Ad,z,show Ay (.Ff false .mp) [.map none,.map none]=some (.bool true) from rfl,es,K,q,o,j,g]
   .have J:=f.old i hi fA;have c:i≠a:=λe=>fA (by simp[FA,e]);rw[u i Ac,Ao (Dr c),An Ac,J]
   .unfold FA at hi;simp only[AE,aM4,CC,BO] at hi;rcases hi with rfl|rfl|rfl|hi
    .exact .inl (by simp[FA])
    .exact .inr (Ab _)
    .exact .inr Ac
    .exact f.BM i (by unfold FA;simp only[AE,Option.toList_none,BO];exact .inr (.inr hi))
  .obtain⟨H,G,E,q,o,j,v,g,t,u,b⟩:=w1.aF9 rfl hc hl ho S0 Tl xh hne ((Ý x).trans h0) ((Ý _).trans ĝ);refine⟨v,_,_,_,?_,s▸t,⟨Ac,λi hi fA=>?_,f.BM⟩⟩;.rw[Ae,Vv,qy,r];simp only[Ci,l1,g1,y.Ad,z,show Ay (.Ff false .mp) [.map (some id),.map none]=some (.bool false) from rfl,q,o,j,g]
   .rw[u i (λe=>fA (e▸aF8 rfl))];exact f.old i hi fA
 .have r:A.HP x=A.inr x:=by unfold Ar.HP;rw[Af h0]
  have s:A.EL x=A:=by unfold Ar.EL;rw[Af h0]
  refine⟨h,n,m,ps,?_,by rw[s];exact w,.refl⟩;rw[Ag h0] at g1;rw[Ae,Vv,qy,r];simp only[Ci,l1,g1]
def Mi.aGb(b:Mi A)(h1:A.len+1<=1000000000):Mi (A.EL x):=by
 unfold Ar.EL;split;.exact b
 .have:=b.add (y:={kind:=1,Cy:=A.len+1}) h1 Ax Ax;exact⟨this.n,this.at_,this.data⟩
def df(hk:A.has x){d:Int}:(A.EL d).nd x=A.nd x:=Xd (.inl (Xh hk))
def aGc{l:List A7}{v:Aa}{d sp:Int}{nm:Ak}(w:PA h a n m ps A)(B:Mi A)(hb:A.len+3<=1000000000)(hd:A.has d/\(A.nd d).kind=1)(hsp:BS.Lu sp)(hv:A8 l v)(hl:l.length<=1000000000)(hs:∀y∈l,BS.Lu y.A9):
  ∃h' n' m' Mj,Ca cx 138 [Pt a 0,I d,I sp,.str nm,v] h (.tuple [I (A.len+1),I 0]) h'/\PA h' a n' m' Mj (A.elem d sp nm l)/\Ew h (λi=>i∈FA a n m ps) h' (λi=>i∈FA a n' m' Mj)/\Mi (A.elem d sp nm l):=by
 have rJ:=w.len;have t:=Ĺ (h:=h) (Xw hv) hl hs;obtain⟨u,hu⟩:∃u,u=U8 (C7 l):=⟨_,rfl⟩;rw[<-hu] at t;have fu:(C7 l).length<=1000000000:=by have:=Sf (l:=l);omega
 have b:=ķ (h:=h) (y:=sp);rw[Al hsp] at b;obtain⟨h1,O,w1,R,l1⟩:=sr w Ac ⟨{kind:=4,Cy:=d,A9:=sp,name:=nm,Av:=C7 l},.slnil,u,hu⟩ rfl rfl;have Ĵ:=B.add (y:={kind:=4,Cy:=d,A9:=sp,name:=nm,Av:=C7 l}) Ac fu Ax;have Tl:(A.add {kind:=4,Cy:=d,A9:=sp,name:=nm,Av:=C7 l}).has (A.len+1):=Ea.2 (.inr rfl);have RN:(A.add {kind:=4,Cy:=d,A9:=sp,name:=nm,Av:=C7 l}).nd (A.len+1)={kind:=4,Cy:=d,A9:=sp,name:=nm,Av:=C7 l}:=by rw[Lj,Af rfl]
 have G:=w.Qd (p:=⟨{kind:=4,Cy:=d,A9:=sp,name:=nm,Av:=C7 l},.slnil,u,hu⟩) rfl R l1;have ĵ:Ca cx 95 [Pt a 0,.agg [I 4,I 0,.slnil,I d,I sp,.str nm,u,.str [],.str [],.str [],.bool false,I 0,I 0]] h (I (A.len+1)) h1:=O;have r2:=Ih w1 Ĵ Tl;have f:=aF5 w1 Tl;rw[RN] at f;have hc:u.cells=[u]:=by rw[hu];exact Bz.cells Sr
 unfold Ar.elem;simp only
 by_cases q:fE {kind:=4,Cy:=d,A9:=sp,name:=nm,Av:=C7 l}
 .rw[Af q];rw[Al q] at f;have D:(A.add {kind:=4,Cy:=d,A9:=sp,name:=nm,Av:=C7 l}).has d:=Ea.2 (.inl hd.1);obtain⟨h2,V,W,sx,N,r,J⟩:=aGa w1 Ĵ (by rw[N1];omega) D;have z:=Ĵ.aGb (x:=d) (by rw[N1];omega);have lK:((sx.length:Nat):Int)=((A.add {kind:=4,Cy:=d,A9:=sp,name:=nm,Av:=C7 l}).EL d).len:=r.len;have jS:((A.add {kind:=4,Cy:=d,A9:=sp,name:=nm,Av:=C7 l}).EL d).len<=A.len+2:=by rw[cg,N1];split<;>omega
  obtain⟨U,M,e,Q,l3⟩:=sr r Ac ⟨{kind:=2,EK:=A.len+1,Cy:=(A.add {kind:=4,Cy:=d,A9:=sp,name:=nm,Av:=C7 l}).HP d},.slnil,.slnil,rfl⟩ rfl rfl;obtain⟨g,C⟩:∃g,g=sx++[⟨{kind:=2,EK:=A.len+1,Cy:=(A.add {kind:=4,Cy:=d,A9:=sp,name:=nm,Av:=C7 l}).HP d},.slnil,.slnil,rfl⟩]:=⟨_,rfl⟩;have E:=r.Qd (p:=⟨{kind:=2,EK:=A.len+1,Cy:=(A.add {kind:=4,Cy:=d,A9:=sp,name:=nm,Av:=C7 l}).HP d},.slnil,.slnil,rfl⟩) rfl Q l3;rw[<-C] at e E;have j:=z.add (y:={kind:=2,EK:=A.len+1,Cy:=(A.add {kind:=4,Cy:=d,A9:=sp,name:=nm,Av:=C7 l}).HP d}) Ac Ax Ax;have s:Ca cx 95 [Pt a 0,.agg [I 2,I 0,.slnil,I ((A.add {kind:=4,Cy:=d,A9:=sp,name:=nm,Av:=C7 l}).HP d),I 0,.str [],.slnil,.str [],.str [],.str [],.bool false,I 0,I (A.len+1)]] h2 _ U:=M;have Yq:=Nl (h:=d) Tl;have c:=Ea (x:={kind:=2,EK:=A.len+1,Cy:=(A.add {kind:=4,Cy:=d,A9:=sp,name:=nm,Av:=C7 l}).HP d}).2 (.inl Yq);have o:(((A.add {kind:=4,Cy:=d,A9:=sp,name:=nm,Av:=C7 l}).EL d).add {kind:=2,EK:=A.len+1,Cy:=(A.add {kind:=4,Cy:=d,A9:=sp,name:=nm,Av:=C7 l}).HP d}).nd (A.len+1)={kind:=4,Cy:=d,A9:=sp,name:=nm,Av:=C7 l}:=by rw[L1 Yq,df Tl,RN]
  have L:=Ih e j c;have hp:=(e.pn c).2.1;rw[o] at hp;obtain⟨T,K,H,S,P,l4⟩:=e.wr c (k:=11) AI (v:= I (((A.add {kind:=4,Cy:=d,A9:=sp,name:=nm,Av:=C7 l}).EL d).len+1)) rfl (p:=⟨{kind:=4,Cy:=d,A9:=sp,name:=nm,Av:=C7 l,cont:=((A.add {kind:=4,Cy:=d,A9:=sp,name:=nm,Av:=C7 l}).EL d).len+1},(pN g (A.len+1)).kv,(pN g (A.len+1)).av,by have:=(pN g (A.len+1)).ok;rw[hp] at this;exact this⟩) (by simp only[PN.row];rw[hp];rfl) rfl (by rw[o]);refine⟨T,_,_,_,?_,H,G.trans (J.trans (E.trans (e.xS H S P l4))),j.set fu Ax⟩;rw[Ae,cI,T_];simp only[abS,Nat.reduceLeDiff,↓reduceIte,Bv,(jQ (x:=d) w B).Ad,Af hd.1,Af hd.2,CA,Cq,t.Ad,Gl,b.Ad,hc,ĵ.Ad,r2.Ad,f.Ad,N.Ad,s.Ad,L.Ad,K]
 .rw[Ag q];rw[Ai q] at f;refine⟨h1,_,_,_,?_,w1,G,Ĵ⟩;rw[Ae,cI,T_];simp only[abS,Nat.reduceLeDiff,↓reduceIte,Bv,(jQ (x:=d) w B).Ad,Af hd.1,Af hd.2,CA,Cq,t.Ad,Gl,b.Ad,hc,ĵ.Ad,r2.Ad,f.Ad]
def ZH{U:Type}{p q:U->Bool}{y:U}:∀{l:List U},(∀x∈l,p x=true->q x=true)->y∈l->p y=false->q y=true->(l.filter p).length<(l.filter q).length
 |[],_,h,_,_=>by cases h
 |x::l,hi,hy,hp,hq=>by
  have le:∀{l:List U},(∀x∈l,p x=true->q x=true)->(l.filter p).length<=(l.filter q).length:=by
   intro l;induction l with
   |nil=>intro _;simp
   |cons z l ih=>
    intro hi;have:=ih λx hx=>hi x (by simp[hx]);rw[GR,GR];split;.rename_i hz;rw[Af (hi z Ax hz)];simp;exact this
    .split;.simp;omega
     .exact this
  have hl:=λx (hx:x∈l)=>hi x (by simp[hx]);rw[GR,GR];rcases AE.1 hy with rfl|hy
  .rw[Ag (by simp[hp]),Af hq];have:=le hl;simp;omega
  .have ih:=ZH hl hy hp hq;split;.rename_i hz;rw[Af (hi x Ax hz)];simp;exact ih
   .split;.simp;omega
    .exact ih
def pE{r:Int->Nat}{k y:Int}(hr:∀h,A.has h->A.up h≠0->r (A.up h)<r h)(hR:Reach A k y)(hy:A.has y):r k<=r y:=by
 induction hR with
 |refl=>exact Ab _
 |@step z h1 h2 ih=>
  by_cases hz:A.has (A.up z);.have:=ih hz;have:=hr z hy h1;omega
  .cases h2 with
   |refl=>have:=hr z hy h1;omega
   |step b _=>exact absurd (Xb hz) b
open Classical in
def pF{e:Int}(ok:EY A e):∃r:Int->Nat,(∀h,A.has h->A.up h≠0->r (A.up h)<r h)/\∀h,r h<=A.n.length:=by
 obtain⟨r,hr⟩:=ok.iV;refine⟨λh=>((List.range A.n.length).filter λ(i:Nat)=>decide (Reach A ((i:Int)+1) h/\(i:Int)+1≠h)).length,λh b hu=>?_,λh=>?_⟩
 .have į:=oB ok b hu;have Ql:=į;unfold Ar.has at Ql;have c:(((A.up h).toNat-1:Nat):Int)+1=A.up h:=Ac;refine ZH (y:=(A.up h).toNat-1) (λi _ hi=>?_) (List.mem_range.2 Ac) ?_ ?_;.rw[B4] at hi⊢;refine⟨.step hu hi.1,λe=>?_⟩;have h1:=pE hr hi.1 į;have h2:=hr h b hu;rw[e] at h1;omega
  .rw[c];simp
  .rw[c,B4];exact⟨.step hu .refl,Ħ ok b hu⟩
 .have:=List.length_filter_le (λ(i:Nat)=>decide (Reach A ((i:Int)+1) h/\(i:Int)+1≠h)) (List.range A.n.length);rwa [List.length_range] at this
def PA.cell(w:PA h a n m ps A)(hx:A.has x){k:Nat}(hk:k<13):(ps.map PN.row).flatten[0+(x.toNat-1)*13+k]?=(pN ps x).row[k]?:=by rw[BC];exact PC (jP ps) hk (by rw[Cg,(w.pn hx).1];rfl)
open Classical in
def XA(w:PA h a n m ps A){up:Int}{r:Int->Nat}{e:Int}(ok:EY A e)(hr:∀h,A.has h->A.up h≠0->r (A.up h)<r h)(į:up≠0):∀(fuel:Nat) (x:Int),(x=0\/(A.has x/\r x<fuel))->Ln (ps.map PN.row).flatten 0 ps.length up fuel x=some (decide (Reach A up x))
 |fuel,x,hx=>by
  by_cases h0:x=0
  .subst h0;have no:¬Reach A up 0:=by
    intro hR;cases hR with
    |refl=>exact į rfl
    |step h1 _=>exact h1 (Xb (by unfold Ar.has;omega))
   rw[Ai no];cases fuel<;>rfl
  .have hx:=hx.resolve_left h0;cases fuel with
   |zero=>omega
   |succ fuel=>
    have d:Ln (ps.map PN.row).flatten 0 ps.length up (fuel+1) x=if x=up then some true else if 1<=x/\x<=ps.length then
      match Gq (ps.map PN.row).flatten 0 x 1,Gq (ps.map PN.row).flatten 0 x 12 with
      |some p,some q=>Ln (ps.map PN.row).flatten 0 ps.length up fuel (if p=0 then q else p)
      |_,_=>none
     else none:=by
     rw[Ln];.rfl
     .exact λh=>h0 h
    rw[d];by_cases Ģ:x=up;.rw[Af Ģ,Ģ,Al .refl]
    .rw[Ag Ģ,Af (by have:=hx.1;have:=w.sm;unfold Ar.has at*;omega)];have g:Gq (ps.map PN.row).flatten 0 x 1=some (A.nd x).He:=by unfold Gq;rw[w.cell hx.1 AI,<-(w.pn hx.1).2.1];rfl
     have f:Gq (ps.map PN.row).flatten 0 x 12=some (A.nd x).EK:=by unfold Gq;rw[w.cell hx.1 AI,<-(w.pn hx.1).2.1];rfl
     rw[g,f];simp only
     have c:(if(A.nd x).He=0 then(A.nd x).EK else(A.nd x).He)=A.up x:=by unfold Ar.up;by_cases h:(A.nd x).He=0<;>simp[h]
     rw[c];have ih:=XA w ok hr į fuel (A.up x) (by
      by_cases hu:A.up x=0;.exact .inl hu
      .exact .inr ⟨oB ok hx.1 hu,by have:=hr x hx.1 hu;omega⟩)
     rw[ih];congr 1
     rw[Dn];constructor
     .intro h1;by_cases hu:A.up x=0
      .rw[hu] at h1;cases h1 with
       |refl=>exact absurd rfl į
       |step b _=>exact absurd (Xb (by unfold Ar.has;omega)) b
      .exact .step hu h1
     .intro h1;cases h1 with
      |refl=>exact absurd rfl Ģ
      |step _ h2=>exact h2
open Classical in
def aGd{up e:Int}(w:PA h a n m ps A)(ok:EY A e)(hu:A.has up)(hx:A.has x):Ca cx 144 [Pt a 0,I up,I x] h (.bool (decide (Reach A up x))) h:=by
 obtain⟨r,hr,b⟩:=pF ok;have Qj:=w.sm;have hc:=XA w ok hr (up:=up) (by have:=hu.1;omega) (ps.length+1) x (.inr ⟨hx,by have:=b x;omega⟩);have c:DC (.S3 M9) h [Pt a 0,I up,I x]=some (h,.bool (decide (Reach A up x))):=by simp only[DC,M9,w.ha,w.hn];rw[Af (by rw[so];omega),Af (by unfold Ar.has at hu hx;omega),hc];rfl
 rw[Ae,show B7 cx 144 [Pt a 0,I up,I x]=Na [Pt a 0,I up,I x] from rfl,Na];simp only[Ci,c]
structure MS(h:Ah)(v:Aa)(l:List Int):Prop where
 len:Ay (.len false) [v]=some (I (l.length:Int))
 at_:∀k (hk:k<l.length),∃p,Ay (.FH 1) [v,I (k:Int)]=some p/\Bi h none p=some (I l[k])
def JS.Su{kv:Aa}{l:List Int}(hk:JS h kv l):MS h kv l:=by
 refine⟨hk.len,λk hlt=>?_⟩;rcases hk with⟨rfl,rfl⟩|⟨id,cs,rfl,hc⟩
 .simp at hlt
 .refine⟨Pt id k,by have:=Fi (id:=id) (z:=1) (k:= .i64) hlt;rwa [F7] at this,?_⟩;simp only[Bi,hc,FJ];rw[An (by simpa using hlt)];simp[hlt]
def Jf.Su{v:Aa}{l:List Int}(hv:Jf l v):MS h v l:=⟨Bz.Ha hv,λk hk=>⟨_,Bz.Dh hv hk,rfl⟩⟩
def aCJ{v:Aa}{l:List Int}(hv:MS h v l)(hb:l.length<=1000000000)(x:Int):Ca cx 106 [v,I x] h (I (Cf (λy=>decide (x=y)) 0 l)) h:=by
 rw[Ae,tL,aAV];simp only[Ci,hv.len];refine B1 (λk:Nat=>[I 0,I (k:Int)]) (λk h1=>k<=l.length/\Cf (λy=>decide (x=y)) 0 l=Cf (λy=>decide (x=y)) k (l.drop k)/\h1=h) (λk=>l.length-k) 0 rfl ⟨Bd _,rfl,rfl⟩ ?_;rintro k h1 ⟨hk,ha,rfl⟩;rcases Bk k l.length with hlt|Hh
 .have i1:(k:Int)<(l.length:Int):=by omega
  obtain⟨p,c,b⟩:=hv.at_ k hlt;rw[Az hlt,Cf] at ha;simp only[abS,i1,c,b,CR (Ac:k<9223372036854775807)];refine⟨λh2=>?_,λh2=>?_⟩;.rw[ha,Af (by simpa using h2)]
  .rw[Ag (by simpa using h2)] at ha;exact By.next (k+1) rfl ⟨hlt,ha,rfl⟩ Ac
 .have i1:¬(k:Int)<(l.length:Int):=by omega
  rw[AT Hh,Cf] at ha;simp only[abS,i1,ha]
def dM{l:List Int}{x:Int}(hx:x∈l):∃k,k<l.length/\Cf (λy=>decide (x=y)) 0 l=(k:Int)/\l[k]?=some x/\l.takeWhile (λy=>decide (y≠x))=l.take k/\l.dropWhile (λy=>decide (y≠x))=l.drop k:=by
 have key:∀(l:List Int) (s:Nat),x∈l->∃k,k<l.length/\Cf (λy=>decide (x=y)) s l=((s+k:Nat):Int)/\l[k]?=some x/\l.takeWhile (λy=>decide (y≠x))=l.take k/\l.dropWhile (λy=>decide (y≠x))=l.drop k:=by
  intro l;induction l with
  |nil=>intro s h;cases h
  |cons z l ih=>
   intro s h;by_cases e:x=z;.subst e;exact⟨0,Ax,by rw[Cf,Af Ax];simp,rfl,Ax,Ax⟩
   .have h2:x∈l:=(AE.1 h).resolve_left e;obtain⟨k,d,c,b,i,g⟩:=ih (s+1) h2;have f:z≠x:=λj=>e j.symm;refine⟨k+1,by simp;exact d,by rw[Cf,Ag (by simpa using e),c];congr 1;omega,by simpa using b,?_,?_⟩;.rw[List.takeWhile_cons,Af (by simpa using f),i];rfl
    .rw[List.dropWhile_cons,Af (by simpa using f),g];rfl
 obtain⟨k,d,c,b⟩:=key l 0 hx;exact⟨k,d,by simpa using c,b⟩
def Sv{l:List Int}{x:Int}{k:Nat}(hn:l.Nodup)(hk:l[k]?=some x):l.take k++l.drop (k+1)=l.filter λy=>decide (y≠x):=by
 obtain⟨hlt,e⟩:=Aj.1 hk;have c:l=l.take k++x::l.drop (k+1):=by conv=>lhs;rw[<-Cx k l,Az hlt,e]
 rw[c,BQ,B6] at hn;conv=>rhs;rw[c,EN,GR,Ag Ax]
 rw[YR.2 (λy hy=>by simpa using λb:y=x=>hn.2.2 y hy x Ax b),YR.2 (λy hy=>by simpa using λb:y=x=>hn.2.1.1 (b▸hy))]
def aCK{id l k:Nat}(hl:0<l)(hk:k<=l):Ay (.PQ 1 false false true) [.CW id 0 l 1,I (k:Int)]=some (.CW id 0 k 1):=by
 have b:Eg (k:Int) l=some k:=by unfold Eg;rw[Af Ac];rfl
 simp[Ay,Io,Dx,b];omega
def aCL{id l k:Nat}(hk:k<=l):Ay (.PQ 1 false true false) [.CW id 0 l 1,I (k:Int)]=some (if k<l then .CW id k (l-k) 1 else .sl 1 []):=by
 have b:Eg (k:Int) l=some k:=by unfold Eg;rw[Af Ac];rfl
 simp[Ay,Io,Dx,b];split<;>rfl
def aGe{id k:Nat}{l:List Int}{cs:List Aa}(hc:h[id]?=some (.cells (l.map (Aa.int .i64)++cs)))(hk:k<l.length)(hb:l.length<=1000000000):
  ∃Gx,Ca cx 230 [.CW id 0 l.length 1,I (k:Int),I ((k+1:Nat):Int)] h (.CW id 0 (l.length-1) 1) (h.set id (.cells ((l.take k++l.drop (k+1)).map (Aa.int .i64)++Gx))):=by
 have HX:=(Aj.1 hc).1;have b:(l.take k++l.drop (k+1)).length=l.length-1:=by rw[Ap,AB,Bj];omega
 obtain⟨RS,p,hcl⟩:∃RS,FT h 1 8 (.CW id 0 k 1) (if k+1<l.length then .CW id (k+1) (l.length-(k+1)) 1 else .sl 1 [])=some (h.set id (.cells ((l.take k++l.drop (k+1)).map (Aa.int .i64)++RS)),.CW id 0 (l.length-1) 1)/\1<=RS.length:=by
  have g:Gb h 1 (if k+1<l.length then .CW id (k+1) (l.length-(k+1)) 1 else .sl 1 [])=some ((l.drop (k+1)).map Cu):=by
   by_cases Y0:k+1<l.length;rotate_left;.rw[Ag Y0,AT Ac];rfl
   rw[Af Y0];have d:=MR (l:=l.drop (k+1)) (cs:=cs) (Ti:=(l.take (k+1)).map (Aa.int .i64));rw[<-AQ,<-BP,Cx] at d;simp only[As,AB,Bj] at d;rw[CG Ac] at d;simp only[Gb,BD,hc,d];rw[Af Ed]
  by_cases aGf:k+1=l.length
  .refine⟨I l[k]::cs,?_,Ax⟩;have j:l.drop (k+1)=[]:=AT Ac;rw[j] at g⊢;have f:l.map (Aa.int .i64)++cs=(l.take k++[]).map (Aa.int .i64)++ I l[k]::cs:=by
    have:l=l.take k++[l[k]]:=by conv=>lhs;rw[<-Cx k l,Az hk,j]
    conv=>lhs;rw[this,BP,AQ]
    rw[Bq];rfl
   have o:h.set id (.cells ((l.take k++[]).map (Aa.int .i64)++ I l[k]::cs))=h:=by rw[<-f];obtain⟨lK,u⟩:=Aj.1 hc;rw[<-u,Hg]
   simp only[FT,g,Dc,BD];rw[o,(Ac:l.length-1=k)]
  .obtain⟨y,c,hd⟩:∃y c,l.drop (k+1)=y::c:=⟨_,_,Az (Ac:k+1<l.length)⟩;have jS:(y::c).length=l.length-(k+1):=by rw[<-hd,Bj]
   rw[hd] at g;have aGg:∀l3:List Int,(l3.map Cu).flatten=l3.map (Aa.int .i64):=by
    intro l3;induction l3 with
    |nil=>rfl
    |cons z l3 ih=>simp[Cu,ih]
   refine⟨(l.map (Aa.int .i64)++cs).drop (l.length-1),?_,Ed⟩;simp only[FT,g,A0,hc,BD];have t:(Cu y::c.map Cu).length=l.length-(k+1):=by rw[<-jS];simp
   have s:(Cu y::c.map Cu).flatten=(y::c).map (Aa.int .i64):=by have:=aGg (y::c);simpa using this
   rw[t,s,Af Ed];have r:(l.map (Aa.int .i64)++cs).take (0+k*1)=(l.take k).map (Aa.int .i64):=by rw[BC,F7,Dz Ed,GO]
   rw[r,hd,(Ac:0+(k+(l.length-(k+1)))*1=l.length-1),(Ac:k+(l.length-(k+1))=l.length-1)];simp
 generalize Ļ:h.set id (.cells ((l.take k++l.drop (k+1)).map (Aa.int .i64)++RS))=h2 at p;have K9:h2[id]?=some (.cells ((l.take k++l.drop (k+1)).map (Aa.int .i64)++RS)):=by rw[<-Ļ];exact AA HX
 have j:DC (.yZ 1 true true) h2 [.CW id 0 (l.length-1) 1,I ((l.length-1:Nat):Int),I (l.length:Int)]=some (h2,.CW id (l.length-1) 1 1):=by
  simp only[DC,fJ,K9];have pG:((l.take k++l.drop (k+1)).map (Aa.int .i64)++RS).length=l.length-1+RS.length:=by rw[Ap,As,b]
  have v:Eg (l.length:Int) ((((l.take k++l.drop (k+1)).map (Aa.int .i64)++RS).length-0)/1)=some l.length:=by unfold Eg;rw[Af (by rw[pG];omega)];rfl
  have d:Eg ((l.length-1:Nat):Int) l.length=some (l.length-1):=by unfold Eg;rw[Af Ac];rfl
  rw[Af ⟨trivial,trivial,Bd _⟩];simp only[Dx,v,d,Cj,Bt];rw[Af (by rw[pG];omega)];congr 3
  .omega
  .omega
 have q:DC (.clear 1 [I 0]) h2 [.CW id (l.length-1) 1 1]=some (h.set id (.cells ((l.take k++l.drop (k+1)).map (Aa.int .i64)++(I 0::RS.drop 1))),.bool true):=by
  simp only[DC,VH,K9];rw[Af ⟨trivial,rfl,by rw[Ap,As,b];omega⟩];congr 2
  rw[<-Ļ,Md];congr 2
  have f:(((l.take k++l.drop (k+1)).map (Aa.int .i64)++RS).take (l.length-1))=(l.take k++l.drop (k+1)).map (Aa.int .i64):=I3 (by rw[As,b]);have o:(((l.take k++l.drop (k+1)).map (Aa.int .i64)++RS).drop (l.length-1+1*1))=RS.drop 1:=by rw[show l.length-1+1*1=((l.take k++l.drop (k+1)).map (Aa.int .i64)).length+1 by rw[As,b],SN];simp
  rw[f,o];simp
 refine⟨I 0::RS.drop 1,?_⟩;have e:∀i n,Ay (.len false) [.CW i 0 n 1]=some (I (n:Int)):=λ_ _=>rfl;have f:DC (.lR 1) h [.CW id 0 l.length 1,I (k:Int),I ((k+1:Nat):Int),I (l.length:Int)]=some (h,.bool true):=by simp only[DC,VI];simp;omega
 rw[Ae,wJ,aB9];simp only[abS,e,f,(Ac:¬(k:Int)=((k+1:Nat):Int)),aCK (id:=id) (Ac:0<l.length) (Ac:k<=l.length),aCL (id:=id) (Ac:k+1<=l.length),p,j,q]
def sy:∀{n:Nat} {l:List Int},l.Nodup->(∀x∈l,1<=x/\x<=n)->l.length<=n
 |0,l,_,h=>by
  cases l with
  |nil=>simp
  |cons x l=>have:=h x Ax;omega
 |n+1,l,hn,h=>by
  have ih:=sy (n:=n) (l:=l.filter λx=>decide (x≠(n:Int)+1)) (hn.filter _) (λx hx=>by
   have h1:=Dk.1 hx;have h2:=h x h1.1;have c:x≠(n:Int)+1:=by simpa using h1.2
   omega)
  have key:∀{l:List Int},l.Nodup->l.length<=(l.filter λx=>decide (x≠(n:Int)+1)).length+1:=by
   intro l hl;induction l with
   |nil=>simp
   |cons x l ih=>
    rw[B6] at hl;rw[GR];by_cases e:x=(n:Int)+1;.rw[Ag (by simp[e]),YR.2 (λy hy=>by simpa using λb:y=(n:Int)+1=>hl.1 (by rw[e,<-b];exact hy))];simp
    .rw[Af (by simpa using e)];have:=ih hl.2;simp only[AJ];omega
  have:=key hn;omega
def s_{e:Int}(ok:EY A e)(x:Int):(A.nd x).Bw.length<=A.n.length:=by
 by_cases hx:A.has x;.refine sy (ok.Tu x hx).bz λk hk=>?_;exact(ok.P2 x hx k hk).1
 .rw[OB hx];exact Bd _
def Mi.Bw{e:Int}(b:Mi A)(ok:EY A e)(x:Int):(A.nd x).Bw.length<=1000000000:=Bp (s_ ok x) b.n
def Mi.aLe{l:List Int}(b:Mi A):Mi (A.set x {A.nd x with Bw:=l}):=b.set (b.at_ x) (b.data x)
def Mi.aLf{p:Int}(b:Mi A):Mi (A.set x {A.nd x with He:=p}):=b.set (b.at_ x) (b.data x)
def Mi.cut(b:Mi A):Mi (A.cut x):=by
 unfold Ar.cut;simp only;split;.exact b
 .exact Mi.aLf b.aLe
def ļ{e:Int}(w:PA h a n m ps A)(f:Mi A)(ok:EY A e)(hx:A.has x):
  ∃h' Mj,Ca cx 145 [Pt a 0,I x] h (.tuple []) h'/\PA h' a n m Mj (A.cut x)/\Ew h (λi=>i∈FA a n m ps) h' (λi=>i∈FA a n m Mj):=by
 have hb:=f.Bw ok;by_cases hp:(A.nd x).He=0
 .have s:A.cut x=A:=by unfold Ar.cut;simp only;rw[Af hp]
  refine⟨h,ps,?_,by rw[s];exact w,.refl⟩;rw[Ae,cM,X_];simp only[abS,(Ih w f hx).Ad,w.f1 hx,hp]
 .obtain⟨hq,hk⟩:=ok.He x hx hp;generalize c:(A.nd x).He=q at*;have hne:q≠x:=by rw[<-c];exact oC ok hx (by rw[c];exact hp)
  obtain⟨k,j,H,B,_,_⟩:=dM hk;have P2:=w.P2 hq;have g:=aCJ P2.Su (hb q) x;rw[H] at g;rcases o:P2 with⟨_,e0⟩|⟨id,cs,b,hc⟩
  .rw[e0] at j;simp at j
  clear o;rw[b] at g;obtain⟨Gx,r2⟩:=aGe hc j (hb q);rw[Sv (ok.Tu q hq).bz B] at r2;have Y6:(A.nd q).Bw.length-1=((A.nd q).Bw.filter λy=>decide (y≠x)).length:=by rw[<-Sv (ok.Tu q hq).bz B,Ap,AB,Bj];omega
  rw[Y6] at r2;have yo:=(Aj.1 hc).1;have l:=(w.pn hq).2.1;generalize ŧ:h.set id (.cells (((A.nd q).Bw.filter λy=>decide (y≠x)).map (Aa.int .i64)++Gx))=h1 at r2;have aGh:id∈FA a n m ps:=KX (w.pn hq).2.2 (by rw[b];rfl);have aLg:id≠n:=by intro d;have:=w.nd;unfold FA at this;simp only[B6,AE,PL] at this;exact this.2.1 (d▸Aq.2 (.inr (Ce.2 ⟨_,(w.pn hq).2.2,by rw[b];rfl⟩)))
  have aQO:id≠a:=by intro d;have:=w.nd;unfold FA at this;simp only[B6,AE,PL] at this;exact this.1.2 (d▸Aq.2 (.inr (Ce.2 ⟨_,(w.pn hq).2.2,by rw[b];rfl⟩)))
  obtain⟨p1,pH⟩:∃p1:PN,p1=⟨{A.nd q with Bw:=(A.nd q).Bw.filter λy=>decide (y≠x)},.CW id 0 ((A.nd q).Bw.filter λy=>decide (y≠x)).length 1,(pN ps q).av,w.att hq⟩:=⟨_,rfl⟩;have aGi:p1.row=(pN ps q).row.set 2 (.CW id 0 ((A.nd q).Bw.filter λy=>decide (y≠x)).length 1):=by rw[pH];simp only[PN.row];rw[l];rfl
  have t:h1[n]?=h[n]?:=by rw[<-ŧ,Ao aLg]
  have u:=w.sto hq (k:=2) AI (v:= .CW id 0 ((A.nd q).Bw.filter λy=>decide (y≠x)).length 1) rfl aGi t;have aGj:Ho p1.kv=Ho (pN ps q).kv:=by rw[pH,b];rfl
  have w1:=w.fo hq (p:=p1) (h1:=h1) (λi _ hi=>by rw[<-ŧ,Ao];intro d;exact hi (by rw[b,d];rfl)) (by rw[pH];exact .inr ⟨id,Gx,rfl,by rw[<-ŧ];exact AA yo⟩) (.inl aGj)
  have Ľ:=xR w hq aGj;generalize Ļ:h1.set n (.cells ((ps.set (q.toNat-1) p1).map PN.row).flatten)=h2 at u w1;generalize aQP:ps.set (q.toNat-1) p1=YF at w1 Ľ;have r:p1.x={A.nd q with Bw:=(A.nd q).Bw.filter λy=>decide (y≠x)}:=by rw[pH]
  rw[r] at w1;have Tl:(A.set q {A.nd q with Bw:=(A.nd q).Bw.filter λy=>decide (y≠x)}).has x:=I6.2 hx;have gm:=(w1.pn Tl).2.1;have RN:(A.set q {A.nd q with Bw:=(A.nd q).Bw.filter λy=>decide (y≠x)}).nd x=A.nd x:=by rw[JO,Ag (λh=>hne h.1.symm)]
  obtain⟨J,D,C,i3,E,l3⟩:=w1.wr Tl (k:=1) AI (v:= I 0) rfl (p:=⟨{A.nd x with He:=0},(pN YF x).kv,(pN YF x).av,by have:=(pN YF x).ok;rw[gm,RN] at this;exact this⟩) (by simp only[PN.row];rw[gm,RN];rfl) rfl (B5 GL.Bw RN).symm;have s:A.cut x=(A.set q {A.nd q with Bw:=(A.nd q).Bw.filter λy=>decide (y≠x)}).set x {A.nd x with He:=0}:=by unfold Ar.cut;simp only;rw[c,Ag hp,RN]
  refine⟨J,_,?_,by rw[s];exact C,?_⟩;.have inc:=CR (show k<9223372036854775807 by have:=hb q;omega);rw[Ae,cM,X_];simp only[abS,(Ih w f hx).Ad,(Ih w f hq).Ad,w.f1 hx,c,hp,w.f2 hq,b,g.Ad,inc,r2.Ad,u,D]
  .have aQQ:h2.length=h.length:=by rw[<-Ļ,BY,<-ŧ,BY]
   refine⟨Ac,λi hi fA=>?_,λi hi=> .inl (by rw[i3,Ľ] at hi;exact hi)⟩;have z:i≠n:=λd=>fA (d▸by simp[FA]);have G:i≠id:=λd=>fA (d▸aGh);rw[E i z,<-Ļ,Ao (Dr z),<-ŧ,Ao (Dr G)]
end
end Go.Am
end
