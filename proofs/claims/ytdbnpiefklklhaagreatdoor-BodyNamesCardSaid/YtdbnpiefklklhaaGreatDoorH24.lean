/- Lemmas -/
import Derived.Test.YtdbnpiefklklhaaGreatDoorH20
import Derived.Test.YtdbnpiefklklhaaGreatDoorH21
import Derived.Test.YtdbnpiefklklhaaGreatDoorH22
import Derived.Test.YtdbnpiefklklhaaGreatDoorH23
import Derived.Test.YtdbnpiefklklhaaGreatDoorH19
set_option linter.all false
set_option maxRecDepth 100000
section
namespace Go.Am
open Go
abbrev sg:=List Aa->Option IT
def jN(g:IT):sg:=λl=>match l with
 |[]=>some (g)
 |_=>none
def C2(g:Aa->IT):sg:=λl=>match l with
 |[a0]=>some (g a0)
 |_=>none
def CN(g:Aa->Aa->IT):sg:=λl=>match l with
 |[a0,a1]=>some (g a0 a1)
 |_=>none
def IS(g:Aa->Aa->Aa->IT):sg:=λl=>match l with
 |[a0,a1,a2]=>some (g a0 a1 a2)
 |_=>none
def pH(g:Aa->Aa->Aa->Aa->IT):sg:=λl=>match l with
 |[a0,a1,a2,a3]=>some (g a0 a1 a2 a3)
 |_=>none
def Õ(g:Aa->Aa->Aa->Aa->Aa->IT):sg:=λl=>match l with
 |[a0,a1,a2,a3,a4]=>some (g a0 a1 a2 a3 a4)
 |_=>none
def Xn(f:Nat)(g:sg):Prop:=∀l t,g l=some t->t=B4 cx f l
def TF{f:Nat}{g:IT}(h:B4 cx f []=g):Xn f (jN g):=by
 intro l t ht;unfold jN at ht;split at ht;.cases ht;exact(h).symm
 .cases ht
def BC{f:Nat}{g:Aa->IT}(h:∀a0,B4 cx f [a0]=g a0):Xn f (C2 g):=by
 intro l t ht;unfold C2 at ht;split at ht;.cases ht;exact(h _).symm
 .cases ht
def Bs{f:Nat}{g:Aa->Aa->IT}(h:∀a0 a1,B4 cx f [a0,a1]=g a0 a1):Xn f (CN g):=by
 intro l t ht;unfold CN at ht;split at ht;.cases ht;exact(h _ _).symm
 .cases ht
def Ec{f:Nat}{g:Aa->Aa->Aa->IT}(h:∀a0 a1 a2,B4 cx f [a0,a1,a2]=g a0 a1 a2):Xn f (IS g):=by
 intro l t ht;unfold IS at ht;split at ht;.cases ht;exact(h _ _ _).symm
 .cases ht
def Xo{f:Nat}{g:Aa->Aa->Aa->Aa->IT}(h:∀a0 a1 a2 a3,B4 cx f [a0,a1,a2,a3]=g a0 a1 a2 a3):Xn f (pH g):=by
 intro l t ht;unfold pH at ht;split at ht;.cases ht;exact(h _ _ _ _).symm
 .cases ht
def sj{f:Nat}{g:Aa->Aa->Aa->Aa->Aa->IT}(h:∀a0 a1 a2 a3 a4,B4 cx f [a0,a1,a2,a3,a4]=g a0 a1 a2 a3 a4):Xn f (Õ g):=by
 intro l t ht;unfold Õ at ht;split at ht;.cases ht;exact(h _ _ _ _ _).symm
 .cases ht
def Ī:List (Nat×sg):=[(13,C2 t13),(14,CN tK),(15,C2 t15),(19,CN t19),(20,C2 t20),(23,C2 t23),(24,CN t24),(25,CN ĩ),(26,CN L_),(27,CN xl),(28,CN fC),(29,CN gm),(30,CN tL),(31,CN t31),(32,CN lV),(36,CN t36),(37,C2 t37),(38,IS t38),(39,C2 t39),(40,jN t40),(41,C2 t41),(42,CN t42),(43,jN t43),(44,CN t44),(46,C2 t46),(48,jN t48),(49,CN t49),(51,CN t51),(53,IS t53),(54,CN t54),(55,CN t55),(56,IS t56),(57,C2 t57),(58,CN t58),(59,C2 t59),(60,IS t60),(61,C2 t61),(62,C2 t62),(64,C2 t64),(65,C2 t65),(66,CN t66),(67,pH t67),(68,jN t68),(69,C2 t69),(70,IS t70),(71,CN t71),(72,Õ t72),(73,pH M_),(74,C2 t74),(75,CN t75),(76,CN t76),(77,C2 t77),(78,CN t78),(79,CN t79),(80,C2 t80),(81,IS t81),(82,CN t82),(83,C2 t83),(84,C2 t84),(87,C2 t87),(88,C2 t88),(93,CN t93),(94,CN t94),(95,IS t95),(96,pH t96),(97,IS t97),(98,C2 t98),(99,C2 t99),(100,C2 aAS),(101,C2 rj),(102,C2 aAT),(103,C2 aAU),(104,C2 aAV),(105,C2 Yv),(106,C2 aAW),(107,C2 pD),(108,C2 cz),(109,C2 t109),(110,C2 aAX),(111,C2 N_),(112,C2 pE),(113,C2 rk),(114,C2 c_),(115,C2 O_),(116,C2 P_),(117,C2 Q_),(118,C2 R_),(119,C2 jK),(120,CN aAY),(121,C2 rl),(122,C2 aAZ),(123,C2 S_),(124,C2 T_),(125,C2 aA0),(126,C2 U_),(127,C2 t127),(128,C2 jL),(129,C2 da),(130,C2 aA1),(131,C2 aA2),(132,CN aA3),(133,CN aA4),(134,CN aA5),(135,CN V_),(136,CN aA6),(137,jN aFI),(138,CN aFJ),(139,C2 aFK),(140,CN aA7),(143,CN Z_),(144,CN À),(145,CN aA8),(146,IS t146),(147,CN Á),(148,pH t148),(149,CN aA9),(150,CN aBa),(151,CN aBb),(152,IS aBc),(153,IS aBd),(154,IS aBe),(155,C2 aBf),(156,CN aBg),(157,CN jM),(158,IS aBh),(159,CN Â),(160,CN aBi),(161,IS aBj),(162,CN aBk),(163,C2 aBl),(164,IS t164),(165,C2 aBm),(166,C2 aBn),(167,IS aBo),(168,C2 aBp),(169,CN aBq),(170,CN aBr),(171,CN aBs),(172,C2 aBt),(173,Õ Ã),(174,CN Ä),(175,C2 Å),(176,CN aBu),(177,IS Æ),(178,CN aBv),(180,CN Ç),(182,CN aBw),(183,CN aBx),(184,CN aBy),(185,CN È),(186,CN É),(188,C2 aBz),(189,CN aBA),(190,CN Ë),(191,CN aBB),(192,C2 aBC),(193,CN aBD),(194,C2 aBE),(195,C2 aBF),(196,CN aBG),(197,IS aBH),(198,CN aBI),(199,C2 aBJ),(200,CN aBK),(201,CN aBL),(202,CN Ì),(203,CN aBM),(204,CN aBN),(205,IS aBO),(206,CN aBP),(207,CN aBQ),(208,C2 aBR),(209,CN aBS),(210,CN aBT),(215,IS aBU),(216,CN rp),(217,C2 aBV),(218,C2 aBW),(219,CN aBX),(220,CN aBY),(221,C2 aBZ),(222,CN Í),(223,IS aB0),(224,CN aB1),(225,IS aB2),(226,CN aB3),(227,pH aB4),(228,IS aB5),(229,IS aB6),(230,jN aB7),(231,CN aB8),(232,C2 aB9),(233,CN aCa),(234,C2 aCb),(235,C2 aCc),(236,C2 aCd),(237,CN aCe),(238,C2 aCf),(239,C2 aCg),(240,CN rq),(241,C2 Î),(242,CN r_),(244,IS aCh),(247,C2 aCi),(248,CN aCj),(249,CN aCk),(250,CN Ï),(251,CN aCl),(252,C2 Ð),(253,C2 aCm),(254,CN aCn),(255,CN aCo),(263,CN aCp),(264,CN aCq),(265,CN aCr),(266,C2 sd),(267,IS aCs),(268,IS aCt),(269,IS Ñ),(270,IS Ò),(271,CN aCu),(272,CN aCv),(273,IS Ó),(276,C2 aCw),(277,CN aFM),(287,CN aCx),(288,C2 aCy),(289,C2 aCz),(290,CN aCA),(291,C2 aCB),(100084,C2 xQ),(100088,C2 Vx),(200080,C2 xR)]
def sk:List (Nat×sg)->Prop
 |[]=>True
 |(f,g)::l=>Xn f g/\sk l
def sn:sk Ī:=
 ⟨BC o_,Bs Ki,BC pc,Bs aAA,BC aAB,BC pg,Bs aAC,Bs Rh,Bs Pr,Bs NZ,Bs Ii,Bs L1,Bs Kj,Bs TE,Bs I9,Bs ph,BC cC,Ec oW,BC pj,TF pk,BC pq,Bs pt,TF pv,Bs px,BC aAI,TF py,Bs oX,Bs pz,Ec p_,Bs qa,Bs Xl,Ec qb,BC oY,Bs oZ,BC qc,Ec o7,BC cE,BC qd,BC cF,BC qe,Bs qg,Xo o8,TF aAL,BC qh,Ec qi,Bs qj,sj ql,Xo Ps,BC qm,Bs qn,Bs qo,BC qp,Bs qq,Bs qt,BC o9,Ec qu,Bs aAM,BC qv,BC pA,BC qw,BC pB,Bs pC,Bs qx,Ec qy,Xo Xm,Ec qz,BC q_,BC rh,BC tM,BC Vq,BC tN,BC tO,BC tP,BC Ls,BC tQ,BC P9,BC Ss,BC Su,BC tR,BC cG,BC Qa,BC Vr,BC Sv,BC cH,BC cI,BC cJ,BC cK,BC N0,Bs tS,BC Vs,BC tT,BC cL,BC cM,BC tU,BC cN,BC cO,BC N1,BC Sw,BC tV,BC tW,Bs tX,Bs tY,Bs tZ,Bs cP,Bs uA,TF W_,Bs X_,BC Y_,Bs uB,Bs cQ,Bs cR,Bs uC,Ec uD,Bs cS,Xo cT,Bs uE,Bs uF,Bs uG,Ec uH,Ec uI,Ec uJ,BC uK,Bs uL,Bs N2,Ec uM,Bs cU,Bs uN,Ec uO,Bs uP,BC uQ,Ec uR,BC uS,BC uT,Ec uU,BC uV,Bs uW,Bs uX,Bs uY,BC uZ,sj cV,Bs cW,BC cX,Bs u0,Ec cY,Bs u9,Bs cZ,Bs vA,Bs vB,Bs vC,Bs dA,Bs dB,BC vD,Bs vE,Bs dC,Bs vF,BC vG,Bs vH,BC vI,BC vJ,Bs vK,Ec vL,Bs vM,BC vN,Bs vO,Bs vP,Bs dD,Bs vQ,Bs vR,Ec vS,Bs vT,Bs vU,BC vV,Bs vW,Bs vX,Ec vY,Bs Vt,BC vZ,BC v8,Bs wA,Bs wB,BC wC,Bs dE,Ec wD,Bs wE,Ec wF,Bs wG,Xo wH,Ec wI,Ec wJ,TF wK,Bs wL,BC wM,Bs wN,BC wO,BC wQ,BC wR,Bs wS,BC wT,BC wU,Bs Vu,BC dF,Bs Vv,Ec wV,BC wW,Bs wX,Bs wY,Bs dG,Bs wZ,BC dH,BC xA,Bs xB,Bs xC,Bs xD,Bs xE,Bs xF,BC Vw,Ec xG,Ec xH,Ec dI,Ec dJ,Bs xI,Bs xJ,Ec dK,BC xK,Bs Ô,Bs xL,BC xM,BC xN,Bs xO,BC xP,BC pF,BC Ri,BC pG,trivial⟩
def Ö(f:Nat):List (Nat×sg)->List Aa->Option IT
 |[],_=>none
 |(k,g)::l,args=>if Nat.beq k f then g args else Ö f l args
def xS{f:Nat}{args:List Aa}{t:IT}:∀{l:List (Nat×sg)},sk l->Ö f l args=some t->t=B4 cx f args
 |[],_,h=>by cases h
 |(k,g)::l,ha,h=>by
  simp only[Ö] at h;split at h;.rename_i hk;have hk:k=f:=MG hk;subst hk;exact ha.1 _ _ h
  .exact xS ha.2 h
noncomputable def ī(f:FuncId)(args:List Aa):IT:=match Ö f Ī args with
 |some t=>t
 |none=>B4 cx f args
def Rj:ī=B4 cx:=by
 funext f args;unfold ī;split;.rename_i t h;exact xS sn h
 .rfl
def Xp:Option Jp->Bool
 |some (.ret,[.bool true],_)=>true
 |_=>false
def Yw{r:Option Jp}(h:Xp r=true):∃h',r=some (.ret,[.bool true],h'):=by
 unfold Xp at h;split at h;.exact⟨_,rfl⟩
 .cases h
end Go.Am
end
section
namespace Go.Am
open Go
section
def aKv(s:Ah):Lm cx 208 [.str s] (.bool (decide (s∈JE))):=by rw[Q5,vV];rw[show aBR (.str s)=sw s (.ret .ret [tt]) (.ret .ret [ff]) JE from rfl,ng];exact⟨λh=>by simp[h],λh=>by simp[h]⟩
section
variable{Q:J7}{h:Ai}{k:Aa->IT}{s:Ah}
@[simp] theorem so:W cx (.Bn 208 [.str s] k) Q h↔W cx (k (.bool (decide (s∈JE)))) Q h:=(aKv s).Bn rfl rfl
end
def aKw(s:Ah):Lm cx 235 [.str s] (.bool (decide (s∈P3\/s∈JE))):=by rw[Q5,wQ];rw[show aCc (.str s)=sw s (.ret .ret [tt]) (.Bn 208 [.str s] λv=> .ret .ret [v]) P3 from rfl,ng];exact⟨λh=>by simp[h],λh=>by simp[h]⟩
def aKx(n:Int)(s:Ah):Lm cx 210 [I n,.str s] (.bool (decide (n=3/\s∈NP))):=by
 rw[Q5,vX,aBT];by_cases h:n=3;.simp[h,NP];by_cases h1:s=[109,105]<;>by_cases h2:s=[109,110]<;>by_cases b:s=[109,111]<;>by_cases a:s=[109,115]<;>simp[h1,h2,b,a]
 .simp[h]
section
variable{Q:J7}{h:Ai}{k:Aa->IT}{s:Ah}{n:Int}
@[simp] theorem sq:W cx (.Bn 235 [.str s] k) Q h↔W cx (k (.bool (decide (s∈P3\/s∈JE)))) Q h:=(aKw s).Bn rfl rfl
@[simp] theorem aFN:W cx (.Bn 210 [I n,.str s] k) Q h↔W cx (k (.bool (decide (n=3/\s∈NP)))) Q h:=(aKx n s).Bn rfl rfl
end
def Ø(n:Int)(s:Ah):Lm cx 136 [I n,.str s] (.bool (D6 n s)):=by
 rw[Q5,uA];rw[show aA6 (I n) (.str s)= .op (.int .eql) [I n,I 3] λv=> .AD v (.op (.str .eql) [.str s,S aTP] λv=> .AD v (.ret .ret [tt]) (.Bn 210 [I n,.str s] λv=> .ret .ret [v]))
  (.op (.int .eql) [I n,I 2] λv=> .AD v (sw s (.ret .ret [tt]) (.op (.str .eql) [.str s,S aTX] λv=> .ret .ret [v]) [aVf,aUb])
  (.op (.int .eql) [I n,I 1] λv=> .AD v (sw s (.ret .ret [tt]) (.ret .ret [ff]) Sb) (.ret .ret [ff]))) from rfl]
 by_cases a:n=3;.by_cases h:s=aTP<;>simp[a,D6,h]
 .by_cases h2:n=2;.by_cases ha:s=aVf<;>by_cases hb:s=aUb<;>simp[h2,ng,D6,Zv,ha,hb]
  .by_cases h1:n=1;.by_cases h:s∈Sb<;>simp[h1,ng,D6,h]
   .simp[a,h2,h1,D6]
section
variable{Q:J7}{h:Ai}{k:Aa->IT}{s:Ah}{n:Int}
@[simp] theorem Xq:W cx (.Bn 136 [I n,.str s] k) Q h↔W cx (k (.bool (D6 n s))) Q h:=(Ø n s).Bn rfl rfl
end
end
section
def f277(s:Ah)(c:UInt8)(hs:s.length<9223372036854775807):Lm cx 45 [.str s,.int .u8 (c.toNat:Int)] (.bool (decide (c∈s))):=by
 rw[Q5,aAH,t45];refine BM (λn:Nat=>[.bool false,I (n:Int)]) (λn _=>n<=s.length/\c∉s.take n) (λn=>s.length-n) 0 rfl ⟨A7 _,Ax⟩ ?_;rintro n h ⟨hn,hc⟩;rcases Bi n s.length with hlt|GX
 .simp only[Cf,Gs hlt,CI (Ab:n<9223372036854775807)];refine⟨λ_=>⟨λhe=>?_,λhe=>?_⟩,λh=>absurd (Int.ofNat_lt.2 hlt) h⟩
  .have e:s[n]=c:=by rw[<-UG];exact Int.ofNat.inj he
   simp only[Al (show c∈s from e▸AY hlt)]
  .refine Bq.next (n+1) rfl ⟨hlt,?_⟩ Ab;rw[AQ hlt,Ap,Oi];refine⟨hc,λh=>he ?_⟩;rw[Bd] at h;rw[<-h]
 .simp only[Cf];refine⟨λh=>absurd (Int.ofNat_lt.1 h) Ab,λ_=>?_⟩;rw[A8 GX] at hc;simp[hc]
def aFO(l s:Ah)(hl:l.length<9223372036854775806)(hs:s.length<9223372036854775807):Lm cx 18 [.str l,.str s] (.bool (Pf l s)):=by
 rw[Q5,aAz,t18];have aKy:Lm cx 45 [.str s,.int .u8 32] (.bool (decide ((32:UInt8)∈s))):=f277 s 32 hs;simp only[Cf,aKy.Bn rfl rfl];refine⟨λh=>by simp[Pf,h],λh0=>⟨λh=>by simp[Pf,h],λh1=>?_⟩⟩;refine BM (λp:Nat×Nat=>[.bool false,I (p.1:Int),I (p.2:Int)])
  (λp _=>(p.1<=p.2/\p.2<=l.length/\(s∈DR [] l↔s∈DR ((l.take p.2).drop p.1) (l.drop p.2)))\/(p.2=l.length+1/\s∉DR [] l)) (λp=>l.length+1 -p.2) (0,0) rfl (.inl ⟨Ae _,A7 _,Ax⟩) ?_
 rintro⟨a,n⟩ h aKz;rcases aKz with⟨iI,hn,Xr⟩|⟨hn,Y5⟩
 .simp only at iI hn Xr;have i1:(n:Int)<=(l.length:Int):=Ab;rcases Bi n l.length with hlt|GX
  .have b:¬(n:Int)=(l.length:Int):=by omega
   simp only[Cf,i1,b,AU,AV,forall_const,AH,Gs hlt,CI (Ab:n<9223372036854775807),Q3 iI hn];rw[Ay hlt,WR] at Xr;refine⟨λhe=>?_,λhe=>?_⟩
   .have e:l[n]=32:=by rw[<-UG];exact Int.ofNat.inj he
    rw[Af e,AG] at Xr;refine⟨λhw=>?_,λhw=>?_⟩;.have:s∈DR [] l:=Xr.2 (.inl hw.symm);simp[Pf,h0,h1,this]
    .refine Bq.next (n+1,n+1) rfl (.inl ⟨Ae _,hlt,?_⟩) Gx;rw[Xr,YN];exact⟨λh=>h.resolve_left (λh=>hw h.symm),.inr⟩
   .have e:¬l[n]=32:=λe=>he (by rw[e];rfl);rw[Ad e] at Xr;refine Bq.next (a,n+1) rfl (.inl ⟨Gx,hlt,?_⟩) Gx;rw[Xr,iM iI hlt]
  .have e:n=l.length:=by omega
   subst e;simp only[Cf,Lh,AU,AH,AP,Q3 iI hn,CI (Ab:l.length<9223372036854775807)];rw[AT (Ae _),Yr] at Xr;rw[Bd] at Xr;refine⟨λhw=>?_,λhw=>?_⟩;.have:s∈DR [] l:=Xr.2 hw.symm;simp[Pf,h0,h1,this]
   .exact Bq.next (l.length+1,l.length+1) rfl (.inr ⟨rfl,λh=>hw (Xr.1 h).symm⟩) Gx
 .simp only at hn;subst hn;have i1:¬((l.length+1:Nat):Int)<=(l.length:Int):=Ab;simp only[Cf,i1,AV,AH,AP];simp[Pf,Y5]
end
section
section
variable{Q:J7}{h:Ai}{k:Aa->IT}{s:Ah}
end
section
variable{Q:J7}{h:Ai}{k:Aa->IT}{s:Ah}{n:Int}
end
end
section
def f300(a b:Int)(h:Ai):B9 cx 242 [.int .i32 a,.int .i32 b] h (.func (.func 273) [] [.BR [.int .i32 a],.BR [.int .i32 b]]) h:=by rw[Ag,Vv,r_];simp only[Cf]
def aKA(c a b:Int)(h:Ai):B9 cx 273 [.int .i32 c,.BR [.int .i32 a],.BR [.int .i32 b]] h (.bool (decide (a<=c/\c<=b))) h:=by rw[Ag,dK,Ó];simp only[Cf];refine⟨λh=>by simp[h],λh=>by simp[h]⟩
def aKB(c:Int):Lm cx 276 [.int .i32 c] (.bool (decide (65<=c/\c<=90))):=by rw[Q5,xK,aCw];simp only[Cf,Nat.reduceLeDiff,↓reduceIte,(f300 _ _ _).Ac,CC,(aKA _ _ _ _).Ac]
def f258(s:Ah)(hs:s.length<=AO):Lm cx 247 [.str s] (.str (EC s)):=by
 have eU:s.length<=140737488355328:=hs;rw[Q5,wW,aCi];have i:Ip [] (.str s)=some ([.cells ((Hm s 0).map Oq)],.C3 0 0 s.length 1):=by simp only[Ip,hs,BE];rfl
 have g:Az (.len false) [.C3 0 0 s.length 1]=some (I (s.length:Int)):=rfl;simp only[Cf,i,g];refine BM (λn:Nat=>[I (n:Int)]) (λn h=>n<=s.length/\h=[.cells ((Hm s n).map Oq)]) (λn=>s.length-n) 0 rfl ⟨A7 _,rfl⟩ ?_;rintro n h ⟨hn,rfl⟩;rcases Bi n s.length with hlt|GX
 .have i1:(n:Int)<(s.length:Int):=by omega
  have f:Az (.FA 1) [.C3 0 0 s.length 1,I (n:Int)]=some (Pt 0 n):=by simp[Az,elemOf,LH,hlt]
  have e:Bj [.cells ((Hm s n).map Oq)] none (Pt 0 n)=some (.int .u8 (s[n].toNat:Int)):=nZ (by rw[Cd,WT hlt];rfl);have d:IntKind.i32.wrap (s[n].toNat:Int)=(s[n].toNat:Int):=mz (by have:=s[n].toNat_lt;omega);simp only[Cf,i1,AU,AP,AH,f,e,Vm,d,(aKB _).Bn rfl rfl,CI (Ab:n<9223372036854775807)];refine⟨λhe=>?_,λhe=>?_⟩
  .have Ĭ:65<=s[n].toNat/\s[n].toNat<=90:=by omega
   have c:CL [.cells ((Hm s n).map Oq)] 1 (Pt 0 n) (.int .u8 ((s[n].toNat:Int)-65+97))=some [.cells (((Hm s n).map Oq).set n (.int .u8 ((s[n].toNat:Int)-65+97)))]:=iO (by rw[Av,WS];exact hlt) rfl;simp only[Cf,nX,nW,wrap_u8 (Ab:0<=((s[n].toNat:Int)-65)/\((s[n].toNat:Int)-65)<=255),wrap_u8 (Ab:0<=((s[n].toNat:Int)-65+97)/\((s[n].toNat:Int)-65+97)<=255),c];refine Bq.next (n+1) rfl ⟨hlt,?_⟩ Ab;rw[Sf hlt,GO];have b:Oq (Jl s[n])= .int .u8 ((s[n].toNat:Int)-65+97):=by unfold Oq;rw[bM Ĭ];congr 1;omega
   rw[b]
  .have Y5:¬(65<=s[n].toNat/\s[n].toNat<=90):=by omega
   refine Bq.next (n+1) rfl ⟨hlt,?_⟩ Ab;rw[Sf hlt,Se Y5,nh (WT hlt)]
 .have i1:¬(n:Int)<(s.length:Int):=by omega
  have en:n=s.length:=Ab;subst en;have a:Li [.cells ((Hm s s.length).map Oq)] (.C3 0 0 s.length 1)=some ([.DF],.sl 1 (CY (EC s))):=by
   have hl:(EC s).length=s.length:=by simp[EC]
   rw[iN];simp only[Li,Im];rw[Af (by simp[hl])];rw[Ph (EC s) s.length 0 Ab];simp
  simp only[Cf,i1,AV,AP,AH,a,Bv.X8 (s:=EC s) .mk]
end
section
def Sx(l:Ah)(ws:List Ah):Prop:=Ev cx 253 [.str l] [] λr _=>r= .sl 1 (ws.map Ca)
def QF{l:Ah}{ws:List Ah}(n:Nat)(hr:(IT.run ī n (ī 253 [.str l]) []).map (λx=>(x.1,x.2.1))=some (.ret,[.sl 1 (ws.map Ca)])):Sx l ws:=by obtain⟨⟨x,vs,h⟩,a,b⟩:=GN.1 hr;cases b;rw[Rj] at a;exact⟨n,_,_,_,a,rfl,_,rfl,rfl⟩
def aFP{l:Ah}{ws:List Ah}(hf:Sx l ws)(hw:∀w∈ws,w.length<=AO)(hn:ws.length<9223372036854775807)(name:Ah):Lm cx 237 [.str name,.str l] (.str (DD name ws)):=by
 rw[Q5,wS,aCe];refine jb (hf.mono λr h1 e=>?_);subst e;have lR:Bv 1 (ws.map Ca) (.sl 1 (ws.map Ca)):= .mk;simp only[Cf,lR.len];refine BM (λn:Nat=>[.str [],I (n:Int)]) (λn _=>n<=ws.length/\DD name ws=DD name (ws.drop n)) (λn=>ws.length-n) 0 rfl ⟨A7 _,rfl⟩ ?_;rintro n h ⟨Ù,ha⟩;rcases Bi n ws.length with hlt|GX
 .have i1:(n:Int)<((ws.map Ca).length:Int):=Ei;have dL:n<(ws.map Ca).length:=by simpa using hlt
  have a:(ws.map Ca)[n]=[.str ws[n]]:=by simp[Ca]
  rw[Ay hlt,DD] at ha;simp only[Cf,i1,AU,AP,AH,lR.FA dL,a,(f258 ws[n] (hw _ (AY hlt))).Bn rfl rfl,CI (Ab:n<9223372036854775807)];refine⟨λhe=>?_,λhe=>?_⟩;.rw[ha,Af he]
  .rw[Ad he] at ha;exact Bq.next (n+1) rfl ⟨hlt,ha⟩ Ab
 .have i1:¬(n:Int)<((ws.map Ca).length:Int):=Ei;rw[AT GX,DD] at ha;simp only[Cf,i1,AV,AP,AH,ha]
def U4:Sx Tp Ng:=QF 5000 AA
def U5:Sx Tq Nh:=QF 5000 AA
def aKC(s:Ah):Lm cx 172 [.str s] (.str (DD s Ng)):=by rw[Q5,uZ,show aBt (.str s)= .Bn 237 [.str s,.str Tp] λv=> .ret .ret [v] from rfl];rw[(aFP (l:=Tp) U4 Cz Cz s).Bn rfl rfl];simp only[Cf]
def aFQ(s:Ah):Lm cx 236 [.str s] (.str (DD s Nh)):=by rw[Q5,wR,show aCd (.str s)= .Bn 237 [.str s,.str Tq] λv=> .ret .ret [v] from rfl];rw[(aFP (l:=Tq) U5 Cz Cz s).Bn rfl rfl];simp only[Cf]
end
section
def aKD{v:Aa}{l:List A3}(hv:Bb l v)(hn:l.length<9223372036854775807)(h:Ai){f:FuncId}{p:A3->Bool}(hp:∀a∈l,B9 cx f [.agg a.row] h (.bool (p a)) h)(hf:f<=99999):
  B9 cx 216 [v,.func (.func f) [] []] h (I (Cc p 0 l)) h:=by
 rw[Ag,Vt,rp];have hlen:(l.map A3.row).length=l.length:=Av ..;simp only[Cf,Bv.len hv];refine BM (λn:Nat=>[I 0,I (n:Int)]) (λn h1=>n<=l.length/\Cc p 0 l=Cc p n (l.drop n)/\h1=h) (λn=>l.length-n) 0 rfl ⟨A7 _,rfl,rfl⟩ ?_;rintro n h1 ⟨Ù,ha,rfl⟩;rcases Bi n l.length with hlt|GX
 .have i1:(n:Int)<((l.map A3.row).length:Int):=by rw[hlen];omega
  have c:(l.map A3.row)[n]'(by rw[hlen];exact hlt)=A3.row l[n]:=Ax;have b:E0 (A3.row l[n]) 0 (some 3)=some (.agg (A3.row l[n])):=by simp[A3.row]
  rw[Ay hlt,Cc] at ha;simp only[Cf,↓reduceIte,CC,hf,BB,i1,AU,AP,AH,Bv.FA hv (show n<(l.map A3.row).length by rw[hlen];exact hlt),c,b,(hp _ (AY hlt)).Ac];rw[Da];refine⟨λhe=>?_,λhe=>?_⟩;.rw[ha,Af he]
  .rw[Ad (by simp[he])] at ha;simp only[Cf,CI (Ab:n<9223372036854775807)];exact Bq.next (n+1) rfl ⟨hlt,ha,rfl⟩ Ab
 .have i1:¬(n:Int)<((l.map A3.row).length:Int):=by rw[hlen];omega
  rw[AT GX,Cc] at ha;simp only[Cf,↓reduceIte,CC,hf,i1,AV,AP,AH,ha]
def aKE(a:A3)(h:Ai):B9 cx 217 [.agg a.row] h (.bool (sS a)) h:=by rw[Ag,vZ,aBV,A3.row];simp only[Cf,sS];refine⟨λh=>by simp[h],λh=>by simp[h]⟩
def sr(a b:Ah)(ha:a.length<=AO)(hb:b.length<=AO):Lm cx 182 [.str a,.str b] (.bool (decide (EC a=EC b))):=by rw[Q5,vA,aBw];simp only[Cf,(f258 a ha).Bn rfl rfl,(f258 b hb).Bn rfl rfl]
def f96{v:Aa}{l:List A3}(hv:Bb l v)(hl:∀a∈l,a.value.length<=AO)(hn:l.length<9223372036854775807)(n:Int)(s:Ah)(h:Ai):B9 cx 146 [I n,.str s,v] h (.bool (Iv n s l)) h:=by
 rw[Ag,uD,t146];simp only[Cf,Xq,(aKD hv hn h (λa _=>aKE a h) AM).Ac,Iv];refine⟨λh2=>by simp[h2],λh2=>⟨λb=>by simp[h2,b],λb=>⟨λg=>by simp[h2,b,g],λg=>?_⟩⟩⟩;rw[Ad h2,Ad b,Ad g];rcases Gu (p:=sS) (l:=l) (k:=0) with⟨f,d⟩|⟨k,a,f,d,i⟩
 .rw[f,d];simp
 .rw[f,i,BJ];obtain⟨hk,e⟩:=Aj.1 d;have c:k<(l.map A3.row).length:=by simpa using hk
  have o:(l.map A3.row)[k]=A3.row a:=by simp[e]
  have i1:(0:Int)<=(k:Int):=Ab;have MP:a.value.length<=AO:=hl a (e▸AY hk);have m:EC sT=sT:=Pj Cz;have j:EC bN=bN:=Pj Cz;simp only[Cf,i1,AU,AP,AH,Bv.FA hv c,o,A3.row,(sr a.value sT MP AM).Bn rfl rfl,(sr a.value bN MP AM).Bn rfl rfl,m,j];refine⟨λh=>by simp[h],λh=>by simp[h]⟩
end
section
section
variable{U:Type}{f:U->List Aa}{l l2:List U}{v v2:Aa}{z b:Nat}{k k2:IntKind}
end
section
variable{h:Ai}{p:Aa}{l:List Item}
def TG(hs:bg h p l):B9 cx 131 [p] h (I (l.length:Int)) h:=by
 rw[Ag,tW,aA2];rcases hs with⟨rfl,rfl⟩|⟨id,o,v,rfl,hc,hv⟩
 .simp
 .simp only[Cf,HE,hc.load,Bk,hv.F0]
def U7(hs:bg h p l)(i:Int):B9 cx 132 [p,I i] h (.agg (DJ l i).row) h:=by
 rw[Ag,tX,aA3];simp only[Cf,↓reduceIte,Br,(TG hs).Ac];refine⟨λhi=>by rw[WU (.inl hi)];simp[Item.row,Item.zero],λhi=>⟨λhl=>by rw[WU (.inr hl)];simp[Item.row,Item.zero],λhl=>?_⟩⟩;rcases hs with⟨rfl,rfl⟩|⟨id,o,v,rfl,hc,hv⟩
 .simp at hl;omega
 .obtain⟨n,rfl⟩:=S2 (Ab:0<=i);have hn:n<l.length:=Ab;simp only[Cf,Nat.reduceLeDiff,↓reduceIte,Jr,hc.load,Bk,hv.Df hn,HH hn]
def f39(hs:bg h p l)(hn:l.length<=1000000000):B9 cx 165 [p] h (.agg (E3 l).row) h:=by rw[Ag,uS,aBm];simp only[Cf,Jr,(TG hs).Ac,DI (Ab: -9223372036854775808<=(l.length:Int)-1) (Ab:(l.length:Int)-1<9223372036854775808),(U7 hs _).Ac,E3]
def U8(F:Aa)(h:Ai)(q:Item->Bool):Prop:=∃f caps,F= .func (.func f) [] caps/\f<=99999/\∀a:Item,B9 cx f (.agg a.row::caps) h (.bool (q a)) h
def U8.D3{F:Aa}{q:Item->Bool}(hF:U8 F h q)(a:Item){k:Aa->IT}{Q:J7}:W cx (.D3 F [.agg a.row] k) Q h↔W cx (k (.bool (q a))) Q h:=by obtain⟨f,caps,rfl,hf,hr⟩:=hF;rw[Mr];simp only[CC,hf,↓reduceIte,BT,CJ,LS,(hr a).Ac]
def aCC(hs:bg h p l)(hn:l.length<=1000000000){F:Aa}{q:Item->Bool}(hF:U8 F h q):B9 cx 203 [p,F] h (I (AX q l)) h:=by
 obtain⟨f,caps,rfl,hf,hr⟩:=hF;rw[Ag,vQ,aBM];simp only[Cf,(TG hs).Ac,DI (Ab: -9223372036854775808<=(l.length:Int)-1) (Ab:(l.length:Int)-1<9223372036854775808)];refine BM (λn:Nat=>[I 0,I ((n:Int)-1)]) (λn h1=>n<=l.length/\AX q l=AX q (l.take n)/\h1=h) (λn=>n) l.length rfl ⟨Ae _,by rw[BW],rfl⟩ ?_;rintro n h1 ⟨Ù,ha,rfl⟩;cases n with
 |zero=>have i1:¬(0:Int)<=((0:Nat):Int)-1:=Ab;rw[ha];simp only[Cf,↓reduceIte,CC,hf,i1,AV,AP,AH,Pk]
 |succ n=>
  have i1:(0:Int)<=((n+1:Nat):Int)-1:=Ab;have a:((n+1:Nat):Int)-1=(n:Int):=Ab;rcases hs with⟨rfl,rfl⟩|⟨id,o,v,rfl,hc,hv⟩
  .simp at Ù
  .rw[NQ Ab] at ha;simp only[Cf,Nat.reduceLeDiff,↓reduceIte,CC,Jr,hf,a,(Ab:(0:Int)<=(n:Int)),AU,AP,AH,hc.load,Bk,hv.Df (Ab:n<l.length),(hr l[n]).Ac,DI (Ab: -9223372036854775808<=(n:Int)-1) (Ab:(n:Int)-1<9223372036854775808)];rw[Da];refine⟨λhe=>?_,λhe=>?_⟩;.rw[ha,Af he]
   .rw[Ad (by simp[he])] at ha;exact Bq.next n rfl ⟨Ab,ha,rfl⟩ Ab
def aKF{v:Aa}{ws:List Ah}(hv:HN ws v)(hn:ws.length<=1000000000)(s:Ah)(h:Ai):B9 cx 255 [v,.str s] h (I (Cc (λw=>decide (s=w)) 0 ws)) h:=by
 rw[Ag,xC,aCo];have hv:Bv 1 (ws.map Ca) v:=hv;simp only[Cf,hv.F0];refine BM (λn:Nat=>[I 0,I (n:Int)]) (λn h1=>n<=ws.length/\Cc (λw=>decide (s=w)) 0 ws=Cc (λw=>decide (s=w)) n (ws.drop n)/\h1=h) (λn=>ws.length-n) 0 rfl ⟨A7 _,rfl,rfl⟩ ?_;rintro n h1 ⟨Ù,ha,rfl⟩;rcases Bi n ws.length with hlt|GX
 .have i1:(n:Int)<(ws.length:Int):=by omega
  rw[Ay hlt,Cc] at ha;simp only[Cf,i1,AU,AP,AH,hv.Df hlt,Ca,CI (Ab:n<9223372036854775807)];refine⟨λhe=>?_,λhe=>?_⟩;.rw[ha,Af (by simpa using he)]
  .rw[Ad (by simpa using he)] at ha;exact Bq.next (n+1) rfl ⟨hlt,ha,rfl⟩ Ab
 .have i1:¬(n:Int)<(ws.length:Int):=by omega
  rw[AT GX,Cc] at ha;simp only[Cf,i1,AV,AP,AH,ha]
def Ú{v:Aa}{ws:List Ah}(hv:HN ws v)(hn:ws.length<=1000000000)(s:Ah)(h:Ai):B9 cx 206 [v,.str s] h (.bool (decide (s∈ws))) h:=by rw[Ag,vT,aBP];simp only[Cf,(aKF hv hn s h).Ac,zu]
def jO{v:Aa}{ws:List Ah}(hv:HN ws v)(hn:ws.length<=1000000000)(a:Item)(h:Ai):B9 cx 170 [.agg a.row,v] h (.bool (Be ws a)) h:=by rw[Ag,uX,aBr];simp only[Cf,Jr,(Ú hv hn _ h).Ac,Be];refine⟨λh1=>by simp[h1],λh1=>by simp[h1]⟩
def aKG(a:Item)(h:Ai):B9 cx 288 [.agg a.row] h (.bool (Be Sd a)) h:=by rw[Ag,xM,aCy];simp only[Cf,Jr,oA,(jO (ws:=Sd) CP AM a h).Ac]
def aKH(a:Item)(h:Ai):B9 cx 289 [.agg a.row] h (.bool (!Be Pg a)) h:=by rw[Ag,xN,aCz];simp only[Cf,Jr,iP,(jO (ws:=Pg) CP AM a h).Ac]
def aKI(n:Int)(j:n≠4)(i:n≠5)(a:Item)(h:Ai):B9 cx 290 [.agg a.row,.BR [I n]] h (.bool (NR n a)) h:=by have b1:=jO (ws:=Vn) CP AM a h;have b2:=jO (ws:=bL) CP AM a h;have b3:=jO (ws:=[aTC]) CP AM a h;rw[Ag,xO,aCA];simp only[Cf,Jr,Xq,oB,bh,bk,b1.Ac,b2.Ac,b3.Ac,NR,j,i];refine⟨λh1=>by simp[h1],λh1=>⟨λh2=>by simp[h2],λh2=>?_⟩⟩;rw[Da];simp only[h1,h2,or_self,DU];refine⟨λd=>by simp[d],λd=>⟨λe=>?_,λe=>⟨λc=>by simp[d,c],λc=>by simp[d,e,c]⟩⟩⟩;rw[Da];exact⟨λc=>by simp[d,e,c],λc=>⟨λg=>Ab,λg=>by simp[d,c,g]⟩⟩
def f264(n:Int)(h:Ai):∃F,B9 cx 266 [I n] h F h/\U8 F h (NR n)/\F.cells=[F]:=by
 by_cases d:n=4
 .refine⟨.func (.func 288) [] [],?_,⟨_,_,rfl,AM,λa=>?_⟩,rfl⟩;.rw[Ag,Vw,sd];simp only[Cf,d,AU,AP,AH]
  .have:=aKG a h;simpa[NR,d] using this
 .by_cases c:n=5
  .refine⟨.func (.func 289) [] [],?_,⟨_,_,rfl,AM,λa=>?_⟩,rfl⟩;.rw[Ag,Vw,sd];simp only[Cf,c,AU,AP,AH];simp
   .have:=aKH a h;simpa[NR,c] using this
  .refine⟨.func (.func 290) [] [.BR [I n]],?_,⟨_,_,rfl,AM,λa=>aKI n d c a h⟩,rfl⟩;rw[Ag,Vw,sd];simp only[Cf,d,c,AV,AP,AH]
def aKJ{g d:Aa}{q e:Item->Bool}(h1:U8 g h q)(h2:U8 d h e)(a:Item):B9 cx 267 [.agg a.row,.BR [g],.BR [d]] h (.bool (q a||e a)) h:=by have m:=λk Q=>h1.D3 a (k:=k) (Q:=Q);have j:=λk Q=>h2.D3 a (k:=k) (Q:=Q);rw[Ag,xG,aCs];obtain⟨f,caps,rfl,hf,i⟩:=h1;obtain⟨f',c,rfl,lj,r2⟩:=h2;simp only[Cf,↓reduceIte,CC,Jr,hf,lj,(i a).Ac,(r2 a).Ac];rw[Da];exact⟨λh=>by simp[h],λh=>by simp[h]⟩
def aFR(hs:bg h p l)(hn:l.length<=1000000000)(n:Int){F:Aa}{q:Item->Bool}(hF:U8 F h q):B9 cx 223 [p,I n,F] h (.bool (Pl q (NR n) l.reverse)) h:=by
 obtain⟨G,g,aFS,Jh⟩:=f264 n h;have c:F.cells=[F]:=by obtain⟨f,caps,rfl,hf,_⟩:=hF;rfl
 have d:=hF;have hfit:U8 (.func (.func 267) [] [.BR [F],.BR [G]]) h (λa=>q a||NR n a):=⟨267,_,rfl,AM,λa=>aKJ hF aFS a⟩;rw[Ag,wD,aB0];simp only[Cf,↓reduceIte,CC,c,g.Ac,Jh,(aCC hs hn hfit).Ac];rw[<-oC l true];rcases DX (q:=λa=>q a||NR n a) (l:=l) with⟨h1,h2⟩|⟨k,hk,h1,h2,i⟩
 .simp[h1]
 .have e:(0:Int)<=(k:Int)/\(k:Int).toNat<l.length:=⟨Ab,by simpa using hk⟩;simp only[h1];rw[lK e];rcases hs with⟨rfl,rfl⟩|⟨id,o,v,rfl,hc,hv⟩
  .simp at hk
  .obtain⟨f,caps,rfl,hf,hr⟩:=d;simp only[Cf,Nat.reduceLeDiff,↓reduceIte,Jr,hf,e.1,AU,AP,AH,hc.load,Bk,hv.Df hk,(hr l[k]).Ac,BD]
def aKK{v:Aa}{ws:List Ah}(hv:HN ws v)(hn:ws.length<=1000000000)(a:Item)(h:Ai):B9 cx 224 [.agg a.row,.BR [v]] h (.bool (Be ws a)) h:=by have b:=jO hv hn a h;rw[Ag,wE,aB1];simp only[Cf,Jr,b.Ac]
def aFT(hs:bg h p l)(hn:l.length<=1000000000)(n:Int){v:Aa}{ws:List Ah}(hv:HN ws v)(hw:ws.length<=1000000000):B9 cx 154 [p,I n,v] h (.bool (Pl (Be ws) (NR n) l.reverse)) h:=by have hfit:U8 (.func (.func 224) [] [.BR [v]]) h (Be ws):=⟨224,_,rfl,AM,λa=>aKK hv hw a h⟩;rw[Ag,uJ,aBe];simp only[Cf,hv.cells,(aFR hs hn n hfit).Ac]
def aKL(node:Int)(a:Item)(h:Ai):B9 cx 254 [.agg a.row,.BR [I node]] h (.bool (BQ node a)) h:=by rw[Ag,xB,aCn,Item.row];simp only[Cf,Jr,BQ]
def aFU(hs:bg h p l)(hn:l.length<=1000000000)(n node:Int):B9 cx 205 [p,I n,I node] h (.bool (Pl (BQ node) (NR n) l.reverse)) h:=by have hfit:U8 (.func (.func 254) [] [.BR [I node]]) h (BQ node):=⟨254,_,rfl,AM,λa=>aKL node a h⟩;rw[Ag,vS,aBO];simp only[Cf,(aFR hs hn n hfit).Ac]
def aKM(node:Int)(a:Item)(h:Ai):B9 cx 204 [.agg a.row,.BR [I node]] h (.bool (BQ node a)) h:=by rw[Ag,vR,aBN,Item.row];simp only[Cf,Jr,BQ]
def Yx(hs:bg h p l)(hn:l.length<=1000000000)(node:Int):B9 cx 120 [p,I node] h (I (AX (BQ node) l)) h:=by have hfit:U8 (.func (.func 204) [] [.BR [I node]]) h (BQ node):=⟨204,_,rfl,AM,λa=>aKM node a h⟩;rw[Ag,tS,aAY];simp only[Cf,(aCC hs hn hfit).Ac]
def aKN(s:Ah)(a:Item)(h:Ai):B9 cx 233 [.agg a.row,.BR [.str s]] h (.bool (Be [s] a)) h:=by have b:=jO (ws:=[s]) CP (Ax:[s].length<=1000000000) a h;rw[Ag,wN,aCa];simp only[Cf,Jr,El (ws:=[s]) (args:=[.str s]) rfl Ax,b.Ac]
def f144(hs:bg h p l)(hn:l.length<=1000000000)(s:Ah):B9 cx 162 [p,.str s] h (I (AX (Be [s]) l)) h:=by have hfit:U8 (.func (.func 233) [] [.BR [.str s]]) h (Be [s]):=⟨233,_,rfl,AM,λa=>aKN s a h⟩;rw[Ag,uP,aBk];simp only[Cf,(aCC hs hn hfit).Ac]
end
end
section
section
variable{h:Ai}{p v:Aa}{l:List Item}
def aFV(hv:Ds l v)(a:Item){n:Nat}(hn:n<=l.length)(hb:l.length<=1000000000):∃u,B9 cx 215 [v,.agg a.row,I (n:Int)] h u h/\Ds (l.take n++a::l.drop n) u:=by
 have S4:(l.length+1)*40<=AO:=by have:AO=140737488355328:=rfl;omega
 obtain⟨t,q,h1⟩:=Bv.Sg hv (k:= .i64) hn;obtain⟨s,m,h2⟩:=Bv.Q6 h1 (b:=40) (by rw[AB];have:AO=140737488355328:=rfl;omega);have j:=Bv.Zw (a:=a) h2 (b:=40) (by rw[AB];have:AO=140737488355328:=rfl;omega);obtain⟨r,i,e⟩:=Bv.sU hv (k:= .i64) hn;obtain⟨d,g,c⟩:=Bv.be (v:= .sl 4 ((l.take n++[a]).map Item.row)) .mk e (b:=40) (by rw[Aq,AB,Bg,Bl];have:AO=140737488355328:=rfl;omega);refine⟨d,?_,by rw[AS] at c;exact c⟩;rw[Ag,vY,aBU];simp only[Cf,Jr,q,m,nl,j,i,g]
def f95{id o:Nat}(hs:Lp h id o l)(hb:l.length<=1000000000)(a:Item):∃u,B9 cx 145 [Pt id o,.agg a.row] h (.tuple []) (put h id o u)/\Ds (l++[a]) u:=by obtain⟨v,hc,hv⟩:=hs;obtain⟨u,hr,hu⟩:=aFV (h:=h) hv a (n:=l.length) (Ae _) hb;rw[BW,GV] at hu;refine⟨u,?_,hu⟩;rw[Ag,uC,aA8];simp only[Cf,Jr,Rs,PL,hc.load,Bk,Bv.F0 hv,hr.Ac,hc.store hu.cells]
def aKP(hs:bg h p l)(hb:l.length<=1000000000)(node:Int):B9 cx 226 [p,I node] h (I (Em node l)) h:=by
 rw[Ag,wG,aB3];have a: -1<=AX (BQ node) l/\AX (BQ node) l<l.length+1:=by rcases DX (q:=BQ node) (l:=l) with⟨h1,h2⟩|⟨n,hn,h1,h2,c⟩<;>rw[h1]<;>omega
 simp only[Cf,(Yx hs hb node).Ac,Vo (Ab: -9223372036854775808<=AX (BQ node) l+1) (Ab:AX (BQ node) l+1<9223372036854775808)];rw[Mt];by_cases Jt:AX (BQ node) l<0;.rw[Af Jt];refine BM (λn:Nat=>[I 0,I (AX (BQ node) l+1)]) (λn h1=>h1=h) (λn=>n) 0 rfl rfl ?_;rintro n h1 rfl;have i1:¬0<=AX (BQ node) l:=Ab;simp only[Cf,i1,AV,AP,AH]
 .rw[Ad Jt];have i0:0<=AX (BQ node) l:=Ab;obtain⟨m,hm⟩:=S2 i0;refine BM (λn:Nat=>[I 0,I (n:Int)]) (λn h1=>Gj Dj l (m+1)=Gj Dj l n/\h1=h) (λn=>l.length-n) (m+1) (by rw[hm];rfl) ⟨rfl,rfl⟩ ?_;rw[hm,BD];rintro n h1 ⟨ha,rfl⟩;simp only[Cf,(Ab:(0:Int)<=(m:Int)),AU,AP,AH,(TG hs).Ac];rcases Bi n l.length with hlt|GX
  .have i1:(n:Int)<(l.length:Int):=by omega
   rw[bQ hlt] at ha;rcases hs with⟨rfl,rfl⟩|⟨id,o,v,rfl,hc,hv⟩
   .simp at hlt
   .simp only[Cf,Jr,i1,AU,AP,AH,hc.load,Bk,Bv.Df hv hlt,Xq,CI (Ab:n<9223372036854775807)];rw[Da];refine⟨λhe=>?_,λhe=>?_⟩;.rw[ha,Af (by exact he)]
    .rw[Ad (by simp[Dj,he])] at ha;exact Bq.next (n+1) rfl ⟨ha,rfl⟩ Ab
  .have i1:¬(n:Int)<(l.length:Int):=by omega
   rw[Yt GX] at ha;simp only[Cf,i1,AV,AP,AH,ha]
end
end
section
def Xs(F:Aa)(q:Item->Bool):Prop:=∃f caps,F= .func (.func f) [] caps/\f<=99999/\∀(a:Item) (h:Ai),B9 cx f (.agg a.row::caps) h (.bool (q a)) h
section
variable{h:Ai}{p v:Aa}{l:List Item}
def f42{id o:Nat}(hs:Lp h id o l)(hb:l.length<=1000000000)(h2:2<=l.length):∃u,B9 cx 64 [Pt id o] h (.agg (E3 l).row) (put h id o u)/\Ds (l.take (l.length-1)) u:=by obtain⟨v,hc,hv⟩:=(show Lp h id o l from hs);obtain⟨u,e,hu⟩:=Bv.Sg hv (k:= .i64) (Ab:l.length-1<=l.length);refine⟨u,?_,hu⟩;have a:(l.length:Int)-1=((l.length-1:Nat):Int):=Ab;rw[Ag,cF,t64];simp only[Cf,Jr,(TG hs.at).Ac,(f39 hs.at hb).Ac,hc.load,Bk,Bv.F0 hv,DI (Ab: -9223372036854775808<=(l.length:Int)-1) (Ab:(l.length:Int)-1<9223372036854775808),a,e,hc.store (Bv.cells hu),(Ab:¬(l.length:Int)<2),AV,AP,AH]
def Û{id o:Nat}(hs:Lp h id o l)(hb:l.length<=1000000000){B A:Aa}{b a:Item->Bool}(hB:Xs B b)(e:Xs A a):
  ∃u,B9 cx 167 [Pt id o,B,A] h (I ((l.length:Int)-((DT b a l).length:Int))) (put h id o u)/\Ds (DT b a l) u:=by
 obtain⟨g,q,rfl,c,rb⟩:=hB;obtain⟨fa,ca,rfl,hfa,ra⟩:=e;have hlt:=hs.lt;have O5:Ev cx 167 [Pt id o,.func (.func g) [] q,.func (.func fa) [] ca] h λr h'=>r= I ((l.length:Int)-((DT b a l).length:Int))/\∃u,h'=put h id o u/\Ds (DT b a l) u:=by
  unfold Ev;rw[uU,aBo];refine BM (λn:Nat=>[I ((l.length:Int)-(n:Int))]) (λn h1=>n<=l.length/\(∃u,h1=put h id o u/\Ds (l.take n) u)/\DT b a l=DT b a (l.take n)) (λn=>n) l.length Ax ⟨Ae _,by rw[BW];exact hs.bS,by rw[BW]⟩ ?_;rintro n h1 ⟨hn,⟨u,rfl,hu⟩,ha⟩;have Mg:Lp (put h id o u) id o (l.take n):= .aAk hlt hu;have rO:(l.take n).length=n:=by rw[AB];omega
  simp only[Cf,↓reduceIte,(TG Mg.at).Ac,rO];match n,hn,hu,ha,Mg,rO with
  |0,hn,hu,ha,Mg,rO=>rw[iQ (l:=l.take 0) Ax] at ha;simp only[Cf,(Ab:¬(1:Int)<((0:Nat):Int)),AV,AP,AH];exact⟨_,rfl,by rw[ha];rfl,u,rfl,by rw[ha];exact hu⟩
  |1,hn,hu,ha,Mg,rO=>rw[iQ (l:=l.take 1) (by rw[rO];exact Ae _)] at ha;simp only[Cf,(Ab:¬(1:Int)<((1:Nat):Int)),AV,AP,AH];exact⟨_,rfl,by rw[ha,rO],u,rfl,by rw[ha];exact hu⟩
  |m+2,hn,hu,ha,Mg,rO=>
   have hm:m+1<l.length:=Ab;have j:((l.length:Int)-((m+2:Nat):Int))+1=(l.length:Int)-((m+1:Nat):Int):=Ab;obtain⟨d,hr,Qz⟩:=f42 Mg Ab Ab;rw[WV hm] at hr;have i:(l.take (m+2)).take ((l.take (m+2)).length-1)=l.take (m+1):=by rw[rO,FV,CE Ab];rfl
   rw[i] at Qz;rw[bO] at hr;have aFX:=f39 Mg.at Ab;rw[WV hm] at aFX;rw[bo hm] at ha;simp only[Cf,↓reduceIte,CC,hfa,c,(Ab:(1:Int)<((m+2:Nat):Int)),AU,AP,AH,aFX.Ac,(rb _ _).Ac,hr.Ac,(ra _ _).Ac,Vo (Ab: -9223372036854775808<=((l.length:Int)-((m+2:Nat):Int))+1) (Ab:((l.length:Int)-((m+2:Nat):Int))+1<9223372036854775808),j];rw[Da,Da];refine⟨λS7=>⟨λmc=>?_,λmc=>?_⟩,λS7=>?_⟩
   .have S7:b l[m+1]=false:=by simpa using S7
    rw[Ad (by simp[S7]),Af mc] at ha;exact⟨_,rfl,by rw[ha,AB,CE Ab],d,rfl,by rw[ha];exact Qz⟩
   .have S7:b l[m+1]=false:=by simpa using S7
    rw[Ad (by simp[S7]),Ad (by simp[mc])] at ha;exact Bq.next (m+1) rfl ⟨Ab,⟨d,rfl,Qz⟩,ha⟩ Ab
   .have S7:b l[m+1]=true:=by simpa using S7
    rw[Af S7] at ha;exact⟨_,rfl,by rw[ha,rO],u,rfl,by rw[ha];exact hu⟩
 obtain⟨r,h',hr,rfl,u,rfl,hu⟩:=O5.ret;exact⟨u,hr,hu⟩
def N3:Xs (.func (.func 168) [] []) Db:=⟨_,_,rfl,AM,λa h=>by rw[Ag,uV,aBp];simp only[Cf,Jr,Db]⟩
def pI{w:Aa}{ws:List Ah}(hw:HN ws w)(hn:ws.length<=1000000000):Xs (.func (.func 169) [] [.BR [w]]) (Be ws):=⟨_,_,rfl,AM,λa h=>by rw[Ag,uW,aBq];simp only[Cf,Jr,(jO hw hn a h).Ac]⟩
def dM(s:Ah):Xs (.func (.func 207) [] [.BR [.str s]]) (Eu s):=⟨_,_,rfl,AM,λa h=>by
 rw[Ag,vU,aBQ];simp only[Cf,Jr,so,Eu];refine⟨λh1=>by simp[h1],λh1=>?_⟩;rw[Da];refine⟨λh2=>?_,λh2=>?_⟩
 .have h2:a.name∉JE:=by simpa using h2
  simp[h2]
 .have h2:a.name∈JE:=by simpa using h2
  have h1:a.A6=1:=by simpa using h1
  simp[h2,h1]⟩
def Yy:Xs (.func (.func 234) [] []) DM:=⟨_,_,rfl,AM,λa h=>by
 rw[Ag,wO,aCb];simp only[Cf,Jr,sq,DM];refine⟨λh1=>by simp[h1],λh1=>?_⟩;have h1:a.A6=1:=by simpa using h1
 simp[h1]⟩
def dN(node:Int):Xs (.func (.func 209) [] [.BR [I node]]) (BQ node):=⟨_,_,rfl,AM,λa h=>by rw[Ag,vW,aBS];simp only[Cf,Jr,BQ]⟩
def aCD{id o:Nat}(hs:Lp h id o l)(hb:l.length<=1000000000)(s:Ah):
  ∃u,B9 cx 134 [Pt id o,.str s] h (I ((l.length:Int)-((DT (Eu s) Db l).length:Int))) (put h id o u)/\Ds (DT (Eu s) Db l) u:=by
 obtain⟨u,hr,hu⟩:=Û hs hb (dM s) N3;exact⟨u,by rw[Ag,tZ,aA5];simp only[Cf,hr.Ac],hu⟩
def f66{id o:Nat}(hs:Lp h id o l)(hb:l.length<=1000000000){w:Aa}{ws:List Ah}(hw:HN ws w)(hn:ws.length<=1000000000):
  ∃u,B9 cx 66 [Pt id o,w] h (I ((l.length:Int)-((DT Db (Be ws) l).length:Int))) (put h id o u)/\Ds (DT Db (Be ws) l) u:=by
 obtain⟨u,hr,hu⟩:=Û hs hb N3 (pI hw hn);exact⟨u,by rw[Ag,qg,t66];simp only[Cf,HN.cells hw,hr.Ac],hu⟩
def aKQ{id o:Nat}(hs:Lp h id o l)(hb:l.length<=1000000000):
  ∃u,B9 cx 163 [Pt id o] h (I ((l.length:Int)-((DT DM Db l).length:Int))) (put h id o u)/\Ds (DT DM Db l) u:=by
 obtain⟨u,hr,hu⟩:=Û hs hb Yy N3;exact⟨u,by rw[Ag,uQ,aBl];simp only[Cf,hr.Ac],hu⟩
def aFY{id o:Nat}(hs:Lp h id o l)(hb:l.length<=1000000000)(node:Int):
  ∃u,B9 cx 135 [Pt id o,I node] h (I ((l.length:Int)-((I0 node l).length:Int))) (put h id o u)/\Ds (I0 node l) u:=by
 by_cases Jt:AX (BQ node) l<0;.obtain⟨u,e,hu⟩:=hs.bS;refine⟨u,?_,by rw[I0,Af Jt];exact hu⟩;rw[I0,Af Jt,Int.sub_self,Ag,cP,V_];simp only[Cf,(Yx hs.at hb node).Ac,Jt,AU,AP,AH];exact e
 .obtain⟨u,hr,hu⟩:=Û hs hb N3 (dN node);refine⟨u,?_,by rw[I0,Ad Jt];exact hu⟩;rw[I0,Ad Jt,Ag,cP,V_];simp only[Cf,(Yx hs.at hb node).Ac,Jt,AV,AP,AH,hr.Ac]
end
end
section
section
variable{h:Ai}{p v:Aa}{l:List Item}
def aKR(hv:Ds l v){k:Nat}(hk:k<l.length)(hb:l.length<=1000000000):∃u,B9 cx 249 [v,I (k:Int)] h u h/\Ds (Bz l k) u:=by obtain⟨r,j,h1⟩:=Bv.Sg hv (k:= .i64) (Ab:k<=l.length);obtain⟨q,i,h2⟩:=Bv.Q6 h1 (b:=40) (sV (by rw[AB];omega));obtain⟨m,g,d⟩:=Bv.sU hv (k:= .i64) (Ab:k+1<=l.length);obtain⟨a,e,c⟩:=Bv.be h2 d (b:=40) (sV (by rw[AB,Bg];omega));refine⟨a,?_,c⟩;rw[Ag,wY,aCk];simp only[Cf,j,i,CI (Ab:k<9223372036854775807),g,e]
def Ü{id o:Nat}(hs:Lp h id o l)(hb:l.length<=1000000000)(node:Int):∃u,B9 cx 186 [Pt id o,I node] h (.bool (decide (1<=AX (BQ node) l))) (put h id o u)/\Ds (Dt node l) u:=by
 by_cases Jt:AX (BQ node) l<1;.obtain⟨u,e,hu⟩:=hs.bS;refine⟨u,?_,by rw[Dt,Af Jt];exact hu⟩;rw[Ag,dB,É,<-e];simp only[Cf,(Yx hs.at hb node).Ac,Jt,AU,AP,AH,(Ab:¬1<=AX (BQ node) l),E8]
 .rcases DX (q:=BQ node) (l:=l) with⟨h1,_⟩|⟨k,hk,h1,_⟩
  .rw[h1] at Jt;omega
  .obtain⟨v,hc,hv⟩:=(show Lp h id o l from hs);obtain⟨u,hr,hu⟩:=aKR (h:=h) hv hk hb;refine⟨u,?_,by rw[Dt,Ad Jt,h1];exact hu⟩;rw[Ag,dB,É];simp only[Cf,(Yx hs.at hb node).Ac,hc.load,Bk,h1];rw[h1] at Jt;simp only[Cf,hr.Ac,Bk,hc.store (Ds.cells hu),show¬(k:Int)<1 from Jt,AV,AP,AH,(Ab:(1:Int)<=(k:Int)),GS]
def aKS{id o:Nat}(hs:Lp h id o l)(hb:l.length<=1000000000)(a:Item)(i:Int):∃u,B9 cx 229 [Pt id o,.agg a.row,I i] h (.tuple []) (put h id o u)/\Ds (l.take (Iw i l.length)++a::l.drop (Iw i l.length)) u:=by
 obtain⟨v,hc,hv⟩:=(show Lp h id o l from hs);obtain⟨u,hr,hu⟩:=aFV (h:=h) hv a (n:=Iw i l.length) (by unfold Iw;omega) hb;refine⟨u,?_,hu⟩;rw[Ag,wJ,aB6];have c:(if(l.length:Int)<(if i<1 then 1 else i) then(l.length:Int) else(if i<1 then 1 else i))=((Iw i l.length:Nat):Int):=by unfold Iw;split<;>split<;>omega
 simp only[Cf,Jr,Rs,PL,hc.load,Bk,bI,Bv.F0 hv,my,c,hr.Ac,hc.store (Ds.cells hu)]
def aKT(hv:Ds l v)(hne:l≠[])(hb:l.length<=1000000000):B9 cx 291 [v] h (.C3 h.length 0 l.length 4) (h++[.cells (l.map Item.row).flatten]):=by
 have d:Az (.Ga false .sl) [v,.slnil]=some (.bool false):=by
  rcases hv with rfl|⟨rfl,hv⟩
  .rfl
  .exact absurd (by simpa using hv) hne
 have c:Az (.Ch 4) []=some (.sl 4 []):=rfl;have a:=Pe (h:=h) (s:= .sl 4 []) (z:=4) (b:=40) (.inr rfl) hv (by simpa using hne) (by rw[Av];exact sV Ab);rw[Av] at a;rw[Ag,xP,aCB];simp only[Cf,d,c,a]
section
variable{id o n z:Nat}{v w:Aa}{X Y:ED}{Aw:List (List Aa)}
def At.next(ha:At h id o v):(Am.put h id o w++[X])[h.length]?=some X/\At (Am.put h id o w++[X]) id o w/\(Am.put h id o w++[X]).set h.length Y=Am.put h id o w++[Y]:=by have e:=Lo (h:=h) (id:=id) (o:=o) (u:=w);refine⟨by rw[<-e];simp,ha.put.JX,?_⟩;rw[B5 _ _ Ab,<-e,Dy];rfl
def At.xT(ha:At h id o v)(hv:Li h v=some (h,v)):LJ h 0 (Pt id o)=some h:=by have a:=ha.same;obtain⟨cs,hc,e⟩:=ha;simp only[LJ,hc,Bk,e,hv,Cm];rw[IF hc] at a;rw[a]
def At.xU(ha:At h id o v)(hr:∀r∈Aw,r.length=z):LJ (Am.put h id o (.C3 h.length 0 Aw.length z)++[.cells Aw.flatten]) 0 (Pt id o)=some (Am.put h id o (.sl z Aw)++[.DF]):=by obtain⟨d,c,a⟩:=ha.next (w:= .C3 h.length 0 Aw.length z) (X:= .cells Aw.flatten) (Y:= .DF);have f1:=P2 hr d;rw[a] at f1;have a2:=(ha.next (w:= .C3 h.length 0 Aw.length z) (X:= .DF) (Y:= .DF)).2.1;obtain⟨cs,hc,e⟩:=c;obtain⟨RU,KX,g⟩:=a2;simp only[LJ,hc,Bk,e,f1,Cm,KX];rw[<-IF (u:= .sl z Aw) KX,bP ha.put,bO]
end
def aKU{id o:Nat}(hs:Lp h id o l)(hb:l.length<=1000000000)(node:Int)(a:Item):∃u t,B9 cx 269 [Pt id o,I node,.agg a.row] h (.bool (decide (1<=AX (BQ node) l))) (put h id o u++t)/\Ds (Pm node a l) u:=by
 obtain⟨v,hc,hv⟩:=(show Lp h id o l from hs);by_cases Jt:AX (BQ node) l<1;.refine⟨v,[],?_,by rw[Pm,Af Jt];exact hv⟩;have c:=hc.xT (Bv.UI hv);rw[Ag,dI,Ñ,hc.same,BB];simp only[Cf,Jr,(Yx hs.at hb node).Ac,Jt,AU,AP,AH,c,(Ab:¬1<=AX (BQ node) l),E8]
 .rcases DX (q:=BQ node) (l:=l) with⟨h1,_⟩|⟨k,hk,h1,_⟩
  .rw[h1] at Jt;omega
  .have d:¬(k:Int)<1:=by rw[h1] at Jt;exact Jt
   have hne:l≠[]:=by intro e;subst e;simp at hk
   have hcl:=aKT (h:=h) hv hne hb;have j:=(hc.JX (t:=[ED.cells (l.map Item.row).flatten])).store (u:= .C3 h.length 0 l.length 4) rfl;rw[bP hc] at j;obtain⟨s,x,r⟩:=hc.next (w:= .C3 h.length 0 l.length 4) (X:= .cells (l.map Item.row).flatten) (Y:= .cells ((l.map Item.row).set k a.row).flatten);have g:=Uv (z:=4) (aFh l) s (i:=k) (by simpa using hk) (q:=a.row) rfl;rw[r] at g;have m:Az (.FA 4) [.C3 h.length 0 l.length 4,I (k:Int)]=some (Pt h.length (k*4)):=Fe hk;have c:=hc.xU (iK (aFh l) (i:=k) (q:=a.row) rfl);rw[BV,Av] at c;refine⟨.sl 4 ((l.map Item.row).set k a.row),[.DF],?_,?_⟩;.rw[Ag,dI,Ñ];simp only[Cf,Jr,(Yx hs.at hb node).Ac,h1,d,AV,AP,AH,hc.load,Bk,hcl.Ac,j,x.load,m,g,c,(Ab:(1:Int)<=(k:Int)),GS]
   .rw[Pm,Ad Jt,h1,BD,Ds,GO];exact .mk
end
end
section
section
variable{h:Ai}{p v w:Aa}{l:List Item}{ws:List Ah}
end
end
section
section
variable{e:C1}{d:Aa}
end
section
variable{h:Ai}{v:Aa}{l:List C1}{id o:Nat}
def f99(hc:At h id o v)(hv:EF l v)(hb:l.length<=1000000000):B9 cx 166 [Pt id o] h (I (since l)) h:=by
 have hv:Bv 3 (l.map C1.row) v:=hv;rw[Ag,uT,aBn];simp only[Cf,hc.load,Bk,hv.F0];refine BM (λn:Nat=>[I (n:Int)]) (λn h1=>n<=l.length/\since l=since (l.take n)/\h1=h) (λn=>n) l.length rfl ⟨Ae _,by rw[BW],rfl⟩ ?_;rintro n h1 ⟨hn,ha,rfl⟩;cases n with
 |zero=>simp only[Cf,(Ab:¬(0:Int)<((0:Nat):Int)),AV,AP,AH,ha,bq];rfl
 |succ n=>rw[oF hn] at ha;simp only[Cf,(Ab:(0:Int)<((n+1:Nat):Int)),AU,AP,AH,hc.load,Bk,NO (Ab:0<n+1) (Ab:n+1<9223372036854775807),eT,hv.Df (show n<l.length from hn),C1.at0];refine⟨λh0=>Bq.next n rfl ⟨Ab,by rw[ha,Ad h0],rfl⟩ Ab,λh0=>?_⟩;rw[Af (by simpa using h0)] at ha;rw[ha];rfl
def aFZ(hc:At h id o v)(hv:EF l v)(hb:l.length<=1000000000)(name:Ah):B9 cx 201 [Pt id o,.str name] h (I (QD name l)) h:=by
 have hv:Bv 3 (l.map C1.row) v:=hv;rw[Ag,vP,aBL];simp only[Cf,HE,hc.load,Bk,hv.F0,DI (Ab: -9223372036854775808<=(l.length:Int)-1) (Ab:(l.length:Int)-1<9223372036854775808)];refine BM (λn:Nat=>[I 0,I ((n:Int)-1)]) (λn h1=>n<=l.length/\QD name l=QD name (l.take n)/\h1=h) (λn=>n) l.length rfl ⟨Ae _,by rw[BW],rfl⟩ ?_;rintro n h1 ⟨hn,ha,rfl⟩;cases n with
 |zero=>have i1:¬(0:Int)<=((0:Nat):Int)-1:=Ab;rw[ha];simp only[Cf,i1,AV,AP,AH,br]
 |succ n=>
  have a:((n+1:Nat):Int)-1=(n:Int):=Ab;rw[oG hn] at ha;simp only[Cf,a,(Ab:(0:Int)<=(n:Int)),AU,AP,AH,hc.load,Bk,hv.Df (show n<l.length from hn),C1.at0,C1.nj,DI (Ab: -9223372036854775808<=(n:Int)-1) (Ab:(n:Int)-1<9223372036854775808)];refine⟨λh0=>⟨λh1=>?_,λh1=>?_⟩,λh0=>?_⟩;.rw[ha,Ad h0,Af h1]
  .exact Bq.next n rfl ⟨Ab,by rw[ha,Ad h0,Ad h1],rfl⟩ Ab
  .rw[ha,Af (by simpa using h0)]
def f41(hc:At h id o v)(hv:EF l v)(hb:l.length<=1000000000)(node:Int):B9 cx 156 [Pt id o,I node] h (I (Kd node l)) h:=by
 have hv:Bv 3 (l.map C1.row) v:=hv;rw[Ag,uL,aBg];simp only[Cf,HE,hc.load,Bk,hv.F0,DI (Ab: -9223372036854775808<=(l.length:Int)-1) (Ab:(l.length:Int)-1<9223372036854775808)];refine⟨λh0=>by rw[Kd,Af h0],λh0=>?_⟩;rw[Kd,Ad h0];refine BM (λn:Nat=>[I 0,I ((n:Int)-1)]) (λn h1=>n<=l.length/\AX (Ts node) l=AX (Ts node) (l.take n)/\h1=h) (λn=>n) l.length rfl ⟨Ae _,by rw[BW],rfl⟩ ?_;rintro n h1 ⟨hn,ha,rfl⟩;cases n with
 |zero=>have i1:¬(0:Int)<=((0:Nat):Int)-1:=Ab;rw[ha];simp only[Cf,i1,AV,AP,AH,Pk]
 |succ n=>
  have a:((n+1:Nat):Int)-1=(n:Int):=Ab;rw[NQ hn] at ha;simp only[Cf,a,(Ab:(0:Int)<=(n:Int)),AU,AP,AH,hc.load,Bk,hv.Df (show n<l.length from hn),C1.at0,DI (Ab: -9223372036854775808<=(n:Int)-1) (Ab:(n:Int)-1<9223372036854775808)];refine⟨λh1=>?_,λh1=>?_⟩;.rw[ha,Af (by simpa[Ts] using h1)]
  .exact Bq.next n rfl ⟨Ab,by rw[ha,Ad (by simpa[Ts] using h1)],rfl⟩ Ab
end
section
variable{h:Ai}{v:Aa}{l:List A3}
def f259(hv:Bb l v)(hb:l.length<=1000000000)(x:A3):B9 cx 287 [v,.agg x.row] h (I (Cc (λa=>decide (x=a)) 0 l)) h:=by
 have hv:Bv 3 (l.map A3.row) v:=hv;rw[Ag,xL,aCx];simp only[Cf,hv.F0,A3.DP,A3.g0,A3.g1,A3.g2,A3.UY];refine BM (λn:Nat=>[I 0,I (n:Int)]) (λn h1=>n<=l.length/\Cc (λa=>decide (x=a)) 0 l=Cc (λa=>decide (x=a)) n (l.drop n)/\h1=h) (λn=>l.length-n) 0 rfl ⟨A7 _,rfl,rfl⟩ ?_;rintro n h1 ⟨hn,ha,rfl⟩;rcases Bi n l.length with hlt|GX
 .have i1:(n:Int)<(l.length:Int):=by omega
  rw[Ay hlt,Cc] at ha;simp only[Cf,i1,AU,AP,AH,hv.Df hlt,A3.DP,A3.KH,Ae,np,Bool.bne_false,CI (Ab:n<9223372036854775807)];refine⟨λh0=>?_,λh0=>?_⟩;.rw[ha,Af (by simpa using h0)]
  .exact Bq.next (n+1) rfl ⟨hlt,by rw[ha,Ad (by simpa using h0)],rfl⟩ Ab
 .have i1:¬(n:Int)<(l.length:Int):=by omega
  rw[AT GX,Cc] at ha;simp only[Cf,i1,AV,AP,AH,ha]
def aKV(hv:Bb l v)(hb:l.length<=1000000000)(x:A3):B9 cx 265 [v,.agg x.row] h (.bool (decide (x∈l))) h:=by
 rw[Ag,xF,aCr];simp only[Cf,A3.DP,A3.g0,A3.g1,A3.g2,A3.UY,(f259 hv hb x).Ac];rcases Gu (p:=λa=>decide (x=a)) (l:=l) (k:=0) with⟨h1,h2⟩|⟨n,a,h1,h2,b⟩
 .rw[h1];have:x∉l:=λhm=>by have:=IJ.1 h2 x hm;simp at this
  simp[this]
 .have hm:=Ct h2;have he:x=a:=by simpa using KZ b
  have hx:x∈l:=by rw[he];exact hm
  rw[h1];simp[hx]
def jP(F:Aa)(h:Ai)(q:A3->Bool):Prop:=∃f caps,F= .func (.func f) [] caps/\f<=99999/\∀a:A3,B9 cx f (.agg a.row::caps) h (.bool (q a)) h
def aF0{F:Aa}{q:A3->Bool}(hv:Bb l v)(hb:l.length<=1000000000)(hF:jP F h q):B9 cx 216 [v,F] h (I (Cc q 0 l)) h:=by
 have hv:Bv 3 (l.map A3.row) v:=hv;obtain⟨f,caps,rfl,hf,hr⟩:=hF;rw[Ag,Vt,rp];simp only[Cf,hv.F0];refine BM (λn:Nat=>[I 0,I (n:Int)]) (λn h1=>n<=l.length/\Cc q 0 l=Cc q n (l.drop n)/\h1=h) (λn=>l.length-n) 0 rfl ⟨A7 _,rfl,rfl⟩ ?_;rintro n h1 ⟨Ù,ha,rfl⟩;rcases Bi n l.length with hlt|GX
 .have i1:(n:Int)<(l.length:Int):=by omega
  rw[Ay hlt,Cc] at ha;simp only[Cf,↓reduceIte,CC,hf,i1,AU,AP,AH,hv.Df hlt,A3.DP,A3.KH,Ae,(hr l[n]).Ac];rw[Da];refine⟨λhe=>?_,λhe=>?_⟩;.rw[ha,Af he]
  .rw[Ad (by simp[he])] at ha;simp only[Cf,CI (Ab:n<9223372036854775807)];exact Bq.next (n+1) rfl ⟨hlt,ha,rfl⟩ Ab
 .have i1:¬(n:Int)<(l.length:Int):=by omega
  rw[AT GX,Cc] at ha;simp only[Cf,↓reduceIte,CC,hf,i1,AV,AP,AH,ha]
def aF1{F:Aa}{q:A3->Bool}(hv:Bb l v)(hb:l.length<=1000000000)(hF:jP F h q):B9 cx 159 [v,F] h (.bool (l.any q)) h:=by
 rw[Ag,cU,Â];simp only[Cf,(aF0 hv hb hF).Ac];have:l.any q=(l.find? q).isSome:=by rw[K0,aO4,J0]
 rw[this];rcases Gu (p:=q) (l:=l) (k:=0) with⟨h1,h2⟩|⟨n,a,h1,h2,b⟩
 .rw[h1,h2];simp
 .rw[h1,b];simp
def aKW(hv:Bb l v)(hb:l.length<=1000000000)(x:A3):B9 cx 264 [.agg x.row,.BR [v]] h (.bool (!decide (x∈l))) h:=by rw[Ag,xE,aCq];simp only[Cf,A3.DP,A3.g0,A3.g1,A3.g2,A3.UY,(aKV hv hb x).Ac]
def aF2{b:List A3}{w:Aa}(hv:Bb l v)(hb:l.length<=1000000000)(hw:Bb b w)(Qk:b.length<=1000000000):B9 cx 263 [v,w] h (.bool (decide (∀x∈l,x∈b))) h:=by
 have hF:jP (.func (.func 264) [] [.BR [w]]) h λx=> !decide (x∈b):=⟨264,_,rfl,AM,λa=>aKW hw Qk a⟩;have e:(!l.any λx=> !decide (x∈b))=decide (∀x∈l,x∈b):=by rw[K0];simp
 rw[Ag,xD,aCp,<-e];simp only[Cf,Bv.cells hw,(aF1 hv hb hF).Ac]
def aKX{a b:C1}(ha:gi a)(hb:gi b):B9 cx 219 [.agg a.row,.agg b.row] h (.bool (La a.c b.c)) h:=by
 have g:=aF2 (h:=h) a.ok ha b.ok hb;have r2:=aF2 (h:=h) b.ok hb a.ok ha;rw[Ag,wA,aBX];simp only[Cf,Nat.reduceLeDiff,↓reduceIte,CC,BB,C1.DP,C1.g1,C1.g2,C1.aJZ,g.Ac,r2.Ac];refine⟨λh1=>⟨λh2=>⟨λf=>?_,λf=>?_⟩,λh2=>?_⟩,λh1=>?_⟩
 .have eY:a.c.Au.length=b.c.Au.length:=by omega
  simp only[La,h1,eY,Nq];congr 3
  rw[eq_iff_iff];exact⟨λh=>⟨f,h⟩,λh=>h.2⟩
 .simp[La,f]
 .have eY:¬a.c.Au.length=b.c.Au.length:=by omega
  simp[La,eY]
 .simp[La,h1]
end
end
section
def Dl{Q:J7}{h:Ai}{a:Aa}{k:IT}:W cx (.same a a k) Q h↔W cx k Q h:=by refine⟨λhw=>?_,ix (Aa.Si a)⟩;obtain⟨m,x',Hy,h',hr,q⟩:=hw.succ;simp only[IT.step,Aa.Si,BE] at hr;exact CR ⟨m,x',Hy,h',hr,q⟩
section
variable{h:Ai}{v:Aa}{l:List C1}{id o:Nat}
def f45{l:List A3}(hv:Bb l v)(hb:l.length<=1000000000):∃u,B9 cx 88 [v] h u h/\Bb l u:=by
 have hv:Bv 3 (l.map A3.row) v:=hv;rcases hv with rfl|⟨rfl,hn⟩
 .refine⟨.sl 3 (l.map A3.row),?_,.mk⟩;have b:Az (.Ga false .sl) [.sl 3 (l.map A3.row),.slnil]=some (.bool false):=rfl;have f:Az (.Ch 3) []=some (.sl 3 []):=rfl;have c:Qr h 3 40 (.sl 3 []) (.sl 3 (l.map A3.row))=some (.sl 3 (l.map A3.row)):=by
   simp only[Qr,Ha,BE,Cm];cases l with
   |nil=>rfl
   |cons a l=>have:(l.length+1)*40<=AO:=sV (by simp at hb;omega);simp[Dr,this]
  rw[Ag,pB,t88];simp only[Cf,b,f,c]
 .refine⟨.slnil,?_,?_⟩;.have b:Az (.Ga false .sl) [.slnil,.slnil]=some (.bool true):=rfl;rw[Ag,pB,t88];simp only[Cf,b]
  .exact .inr ⟨rfl,hn⟩
def su{e:C1}(he:gi e):∃a:C1,a.c=e.c/\B9 cx 221 [.agg e.row] h (.agg a.row) h:=by obtain⟨u,r,hu⟩:=f45 (h:=h) e.ok he;refine⟨⟨e.c,u,hu⟩,rfl,?_⟩;rw[Ag,wC,aBZ];simp only[Cf,C1.DP,C1.g0,C1.g1,C1.g2,r.Ac,Bv.cells hu];rfl
def aF3(hv:EF l v){k:Nat}(hk:k<l.length)(hb:l.length<=1000000000):∃u,B9 cx 220 [v,I (k:Int)] h u h/\EF (Bz l k) u:=by obtain⟨r,m,h1⟩:=Bv.Sg hv (k:= .i64) (Ab:k<=l.length);obtain⟨q,j,h2⟩:=Bv.Q6 h1 (b:=48) (Zx (by rw[AB];omega));obtain⟨p,i,f⟩:=Bv.sU hv (k:= .i64) (Ab:k+1<=l.length);obtain⟨a,g,c⟩:=Bv.be h2 f (b:=48) (Zx (by rw[AB,Bg];omega));refine⟨a,?_,c⟩;rw[Ag,wB,aBY];simp only[Cf,m,j,CI (Ab:k<9223372036854775807),i,g]
def sx(hv:EF l v)(e:C1){k:Nat}(hk:k<=l.length)(hb:l.length<=1000000000):∃u,B9 cx 164 [v,.agg e.row,I (k:Int)] h u h/\EF (l.take k++e::l.drop k) u:=by obtain⟨x,r,h1⟩:=Bv.Sg hv (k:= .i64) hk;obtain⟨w,q,h2⟩:=Bv.Q6 h1 (b:=48) (Zx (by rw[AB];omega));have p:=Bv.Zw (a:=e) h2 (b:=48) (Zx (by rw[AB];omega));obtain⟨t,m,i⟩:=Bv.sU hv (k:= .i64) hk;obtain⟨g,j,c⟩:=Bv.be (f:=C1.row) (l:=l.take k++[e]) .mk i (b:=48) (Zx (by rw[Aq,AB,Bg,Bl];omega));refine⟨g,?_,by rw[AS] at c;exact c⟩;rw[Ag,uR,t164];simp only[Cf,C1.DP,C1.g0,C1.g1,C1.g2,C1.UY,r,q,bt C1.DP,p,m,j]
def aCE(hv:EF l v)(hne:l≠[])(hb:l.length<=1000000000):B9 cx 121 [v] h (.C3 h.length 0 l.length 3) (h++[.cells (l.map C1.row).flatten]):=by
 have f:Az (.Ga false .sl) [v,.slnil]=some (.bool false):=by
  rcases hv with rfl|⟨rfl,hv⟩
  .rfl
  .exact absurd (by simpa using hv) hne
 have c:Az (.Ch 3) []=some (.sl 3 []):=rfl;have a:=Pe (h:=h) (s:= .sl 3 []) (z:=3) (b:=48) (.inr rfl) hv (by simpa using hne) (by rw[Av];exact Zx Ab);rw[Av] at a;rw[Ag,Vs,rl];simp only[Cf,f,c,a]
def f63(hs:Tt h id o l)(hb:l.length<=1000000000):∃u,B9 cx 62 [Pt id o] h (.tuple []) (put h id o u)/\EF (l++[bU]) u:=by obtain⟨v,hc,hv⟩:=(show Tt h id o l from hs);obtain⟨u,hr,hu⟩:=sx (h:=h) hv bU (Ae l.length) hb;rw[BW,GV] at hu;refine⟨u,?_,hu⟩;rw[Ag,qd,t62];simp only[Cf,↓reduceIte,Br,Rs,PL,hc.load,Bk,Bv.F0 hv,nr,hr.Ac,hc.store (EF.cells hu)]
def aKY(hs:Tt h id o l)(hb:l.length<=1000000000){e:C1}(he:gi e)(i:Int):∃u a,a.c=e.c/\B9 cx 228 [Pt id o,.agg e.row,I i] h (.tuple []) (put h id o u)/\EF (l.take (Gv i l.length)++a::l.drop (Gv i l.length)) u:=by
 obtain⟨v,hc,hv⟩:=(show Tt h id o l from hs);obtain⟨a,aU,b⟩:=su (h:=h) he;obtain⟨u,hr,hu⟩:=sx (h:=h) hv a (k:=Gv i l.length) (by unfold Gv;omega) hb;refine⟨u,a,aU,?_,hu⟩;have f:(if(l.length:Int)<(if i<0 then 0 else i) then(l.length:Int) else(if i<0 then 0 else i))=((Gv i l.length:Nat):Int):=by unfold Gv;split<;>split<;>omega
 rw[Ag,wI,aB5];simp only[Cf,C1.DP,C1.g0,C1.g1,C1.g2,C1.UY,Rs,PL,hc.load,Bk,bI,Bv.F0 hv,my,f,b.Ac,Dl,hr.Ac,hc.store (EF.cells hu)]
def f65(hs:Tt h id o l)(hb:l.length<=1000000000):∃u,B9 cx 65 [Pt id o] h (I ((l.length:Int)-((HB l:Nat):Int))) (put h id o u)/\EF (l.take (HB l)) u:=by
 obtain⟨v,hc,hv⟩:=(show Tt h id o l from hs);obtain⟨s,es,Mg,_⟩:=Q7 l;have hcl:HB l<=l.length:=by unfold HB;omega
 obtain⟨u,b,hu⟩:=Bv.Sg hv (k:= .i64) hcl;refine⟨u,?_,hu⟩;have a:(if since l-1<0 then 0 else since l-1)=((HB l:Nat):Int):=by unfold HB;split<;>omega
 have rO:(l.take (HB l)).length=HB l:=by rw[AB];omega
 have c:At (put h id o u) id o u:=hc.put;rw[Ag,qe,t65];simp only[Cf,HE,hc.load,Bk,Bv.F0 hv,(f99 hc hv hb).Ac,Dl,DI (Ab: -9223372036854775808<=since l-1) (Ab:since l-1<9223372036854775808),bI,a,b,hc.store (Bv.cells hu),c.load,Bv.F0 hu,rO,DI (Ab: -9223372036854775808<=(l.length:Int)-((HB l:Nat):Int)) (Ab:(l.length:Int)-((HB l:Nat):Int)<9223372036854775808)]
end
end
section
section
variable{e:Co}{l:List C1}{n s:Nat}
end
section
variable{h:Ai}{v:Aa}{l:List C1}{id o:Nat}
set_option maxHeartbeats 1000000 in
def f30(hs:Tt h id o l)(hb:l.length<=900000000)(hl:∀x∈l,gi x){e:C1}(he:gi e):∃u a,a.c=e.c/\B9 cx 149 [Pt id o,.agg e.row] h (.tuple []) (put h id o u)/\EF (Q9 e.c l++[a]) u:=by
 obtain⟨v,hc,hv⟩:=(show Tt h id o l from hs);have Gm:Bv 3 (l.map C1.row) v:=hv;have HV:=hs.lt;obtain⟨s,es,Mg,q,_⟩:=Q7 l;have O5:Ev cx 149 [Pt id o,.agg e.row] h λr h'=>r= .tuple []/\∃(a:C1) (u:Aa),a.c=e.c/\h'=put h id o u/\EF (Q9 e.c l++[a]) u:=by
  unfold Ev;rw[uE,aA9];by_cases h0:e.c.node=0;.obtain⟨a,aU,b⟩:=su (h:=h) he;obtain⟨u,r2,hu⟩:=sx (h:=h) hv a (Ae l.length) Ab;rw[BW,GV] at hu;simp only[Cf,C1.DP,C1.g0,C1.g1,C1.g2,HE,h0,Cy,AU,AH,AP,AV,hc.load,Bk,Gm.F0];rw[<-h0,C1.UY];simp only[Cf,b.Ac,Dl,hc.load,Bk,r2.Ac,hc.store (EF.cells hu)];refine⟨_,rfl,rfl,a,u,aU,rfl,?_⟩;rw[Q9,Ad (λh=>h.1 h0)];exact hu
  .simp only[Cf,C1.DP,C1.g0,C1.g1,C1.g2,C1.UY,HE,h0,Cy,AU,AH,AP,AV,hc.load,Bk,Gm.F0,DI (Ab: -9223372036854775808<=(l.length:Int)-1) (Ab:(l.length:Int)-1<9223372036854775808)];refine BM (λp:Int×Nat×Nat=>[I p.1,I (p.2.1:Int),I ((p.2.2:Int)-1)])
    (λp h1=>s<=p.2.2/\p.2.2<=l.length/\p.2.1+p.2.2<=l.length/\Yu e.c l=p.2.1+Yu e.c (l.take p.2.2)/\(Q8 e.c l=if 0<=Q8 e.c (l.take p.2.2) then Q8 e.c (l.take p.2.2) else if p.2.1=0 then -1 else p.1)/\(p.2.1=0\/∃k:Nat,k<l.length/\p.1=(k:Int))/\h1=h)
    (λp=>p.2.2) (0,0,l.length) rfl ⟨Mg,Ae _,Ax,Ax,by
     rw[BW];have:∀l:List C1,-1<=oH e.c l:=by
      intro l;induction l with
      |nil=>exact Lh _
      |cons x t ih=>rw[oH];split<;>(try split)<;>(try split)<;>omega
     have:=this l.reverse;simp only[BE];unfold Q8;split<;>omega,.inl rfl,rfl⟩ ?_
   rintro⟨B,f,n⟩ h1 ⟨a1,a2,a3,a4,a5,a6,rfl⟩;simp only at a1 a2 a3 a4 a5 a6;have j:=f99 hc hv Ab;rw[es] at j;rcases Bi s n with hlt|GX
   .obtain⟨n,rfl⟩:∃m,n=m+1:=⟨n-1,Ab⟩;have A:((n+1:Nat):Int)-1=(n:Int):=Ab;have hn:n<l.length:=a2;have g:=q n hn Ab;rw[Zy hn,Ad g] at a4;rw[Zz hn,Ad g] at a5;have b:=aKX (h:=h1) (hl _ (AY hn)) he;simp only[Cf,A,j.Ac,(Ab:(s:Int)<=(n:Int)),AU,AH,AP,hc.load,Bk,Gm.Df hn,C1.DP,C1.KH,Ae,b.Ac,CI (Ab:f<9223372036854775807),DI (Ab: -9223372036854775808<=(n:Int)-1) (Ab:(n:Int)-1<9223372036854775808)];rw[Da];refine⟨λh2=>?_,λh2=>?_⟩
    .rw[Af h2] at a4 a5;refine Bq.next ((n:Int),f+1,n) rfl ⟨Gx,Gx,Gx,Gx,?_,.inr ⟨n,hn,rfl⟩,rfl⟩ Gx;simp only
     rw[a5];by_cases hf:0<=Q8 e.c (l.take n);.simp[hf]
     .simp[hf,(Ab:(0:Int)<=(n:Int))]
    .rw[Ad (by simp[h2])] at a4;rw[Ad (show¬La l[n].c e.c=true by simp[h2])] at a5;refine Bq.next (B,f,n) rfl ⟨Gx,Gx,Gx,Gx,?_,a6,rfl⟩ Gx;simp only
     rw[a5];by_cases hf:0<=Q8 e.c (l.take n);.simp[hf]
     .simp[hf]
   .obtain rfl:n=s:=by omega
    obtain⟨b1,b2⟩:=oI (e:=e.c) es;rw[b1,Bk] at a4;rw[b2,Ad AM] at a5;simp only[Cf,j.Ac,(Ab:¬(n:Int)<=(n:Int)-1),AH,AP,AV];by_cases C:3<=f
    .rcases a6 with a6|⟨k,hk,rfl⟩
     .omega
     rw[Ad Ab] at a5;obtain⟨i,b,aN⟩:=aF3 (h:=h1) hv hk Ab;have X5:(Bz l k).length<=l.length:=by unfold Bz;rw[Aq,AB,Bg];omega
     have w:At (put h1 id o i) id o i:=hc.put;obtain⟨a,aU,r2⟩:=su (h:=put h1 id o i) he;obtain⟨y,z,Qz⟩:=sx (h:=put h1 id o i) aN a (Ae (Bz l k).length) Ab;rw[BW,GV] at Qz;simp only[Cf,(Ab:(3:Int)<=(f:Int)),AU,AH,AP,hc.load,Bk,b.Ac,hc.store (EF.cells aN),w.load,Bv.F0 aN,r2.Ac,Dl,z.Ac,w.store (EF.cells Qz),bO];refine⟨_,rfl,rfl,a,y,aU,rfl,?_⟩;rw[Q9,Af ⟨h0,Ab⟩,a5,BD];exact Qz
    .obtain⟨a,aU,b⟩:=su (h:=h1) he;obtain⟨u,r2,hu⟩:=sx (h:=h1) hv a (Ae l.length) Ab;rw[BW,GV] at hu;simp only[Cf,(Ab:¬(3:Int)<=(f:Int)),AH,AP,AV,hc.load,Bk,Gm.F0,b.Ac,Dl,r2.Ac,hc.store (EF.cells hu)];refine⟨_,rfl,rfl,a,u,aU,rfl,?_⟩;rw[Q9,Ad Ab];exact hu
 obtain⟨r,h',hr,rfl,a,u,aU,rfl,hu⟩:=O5.ret;exact⟨u,a,aU,hr,hu⟩
end
end
section
section
variable{h:Ai}{v:Aa}{l:List C1}{id o:Nat}
def aK0(hs:Tt h id o l)(hb:l.length<=900000000)(node:Int){e:C1}(he:gi e):∃u t a,a.c=e.c/\B9 cx 270 [Pt id o,I node,.agg e.row] h (.bool (decide (0<=Kd node l))) (put h id o u++t)/\EF (if Kd node l<0 then l else l.set (Kd node l).toNat a) u:=by
 obtain⟨v,hc,hv⟩:=(show Tt h id o l from hs);rcases iR node l with h1|⟨k,hk,h1⟩
 .refine⟨v,[],e,rfl,?_,by rw[h1];exact hv⟩;have b:=hc.xT (Bv.UI hv);rw[Ag,dJ,Ò,hc.same,BB];simp only[Cf,C1.DP,(f41 hc hv Ab node).Ac,h1,(AM:(-1:Int)<0),AU,AP,AH,b];rfl
 .have hne:l≠[]:=by intro e;subst e;simp at hk
  have hcl:=aCE (h:=h) hv hne Ab;have g:=(hc.JX (t:=[ED.cells (l.map C1.row).flatten])).store (u:= .C3 h.length 0 l.length 3) rfl;rw[bP hc] at g;obtain⟨a,aU,j⟩:=su (h:=put h id o (.C3 h.length 0 l.length 3)++[ED.cells (l.map C1.row).flatten]) he;obtain⟨r,x,p⟩:=hc.next (w:= .C3 h.length 0 l.length 3) (X:= .cells (l.map C1.row).flatten) (Y:= .cells ((l.map C1.row).set k a.row).flatten);have f:=Uv (z:=3) (Tu l) r (i:=k) (by simpa using hk) (q:=a.row) rfl;rw[p] at f;have m:Az (.FA 3) [.C3 h.length 0 l.length 3,I (k:Int)]=some (Pt h.length (k*3)):=Fe hk;have b:=hc.xU (iK (Tu l) (i:=k) (q:=a.row) rfl);rw[BV,Av] at b;refine⟨.sl 3 ((l.map C1.row).set k a.row),[.DF],a,aU,?_,?_⟩;.rw[Ag,dJ,Ò];simp only[Cf,C1.DP,C1.g0,C1.g1,C1.g2,C1.UY,(f41 hc hv Ab node).Ac,h1,(Ab:¬(k:Int)<0),AV,AP,AH,hc.load,Bk,hcl.Ac,g,x.load,j.Ac,Dl,m,f,b,(Ab:(0:Int)<=(k:Int)),GS]
  .rw[h1,Ad Ab,BD,<-GO];exact .mk
end
end
def U9:List A3->Aa
 |[]=> .slnil
 |x::l=> .sl 3 ((x::l).map A3.row)
def Sy{l:List A3}:Bb l (U9 l):=by cases l;exact .inr ⟨rfl,rfl⟩;exact .inl rfl
def db{l:List A3}{x:A3}:U9 (l++[x])= .sl 3 ((l++[x]).map A3.row):=by cases l<;>rfl
structure PN where
 x:GQ
 kv:Aa
 av:Aa
 ok:av=U9 x.Au
def PN.row(p:PN):List Aa:=[I p.x.kind,I p.x.Hi,p.kv,I p.x.CK,I p.x.A6,.str p.x.name,p.av,.str p.x.data,.str p.x.JV,.str p.x.sys,.bool p.x.CS,I p.x.cont,I p.x.EG]
def PN.DP{p:PN}:p.row.length=13:=rfl
def PN.zero:PN:=⟨{},.slnil,.slnil,rfl⟩
def pN(ps:List PN)(x:Int):PN:=ps.getD (x.toNat-1) PN.zero
def DN(n:Int):List Aa:=[I n]
def GI(l:List Int)(v:Aa):Prop:=Bv 1 (l.map DN) v
def JJ(h:Ai)(kv:Aa)(l:List Int):Prop:=(kv= .slnil/\l=[])\/∃id cs,kv= .C3 id 0 l.length 1/\h[id]?=some (.cells (l.map (Aa.int .i64)++cs))
def Hp:Aa->Option Nat
 | .C3 id _ _ _=>some id
 |_=>none
def SA(l:List (Int×Int)):Prop:=(l.map (·.1)).Nodup/\∀p∈l,Yj p.1=true/\Yj p.2=true
def Pu(h:Ai)(m:Option Nat)(f:Int->Int):Prop:=(m=none/\∀k,f k=0)\/∃(id:Nat) (l:List (Int×Int)),m=some id/\h[id]?=some (.map (l.map λx:Int×Int=>(I x.1,I x.2)))/\(∀k,(l.find? λx=>decide (k=x.1)).map (·.2)=if f k=0 then none else some (f k))/\SA l
def Fu(a n:Nat)(m:Option Nat)(ps:List PN):List Nat:=a::n::(m.toList++ps.filterMap λp=>Hp p.kv)
structure PA(h:Ai)(a n:Nat)(m:Option Nat)(ps:List PN)(A:Ar):Prop where
 e:A.n=ps.map PN.x
 il:A.i.length=A.n.length
 ha:h[a]?=some (.cells [.C3 n 0 ps.length 13,.map m])
 hn:h[n]?=some (.cells (ps.map PN.row).flatten)
 ks:∀p∈ps,JJ h p.kv p.x.Bw
 nd:(Fu a n m ps).Nodup
 mp:Pu h m A.inr
structure Ew(h:Ai)(F:Nat->Prop)(h':Ai)(F':Nat->Prop):Prop where
 len:h.length<=h'.length
 old:∀i,i<h.length->¬F i->h'[i]?=h[i]?
 BK:∀i,F' i->F i\/h.length<=i
section
variable{h h' h'' t:Ai}{F F' F'':Nat->Prop}
def Ew.refl:Ew h F h F:=⟨Ae _,λ_ _ _=>rfl,λ_ h=> .inl h⟩
def Ew.trans(x:Ew h F h' F')(y:Ew h' F' h'' F''):Ew h F h'' F'':=
 ⟨Bp x.len y.len,λi hi hF=>by
  rw[y.old i (IH hi x.len) (λh=>by rcases x.BK i h with h|h;exact hF h;omega)];exact x.old i hi hF,λi hi=>by
  rcases y.BK i hi with h|h
  .exact x.BK i h
  .exact .inr (Bp x.len h)⟩
def Ew.JX:Ew h F (h++t) F:=⟨Ax,λi hi _=>An hi,λ_ h=> .inl h⟩
end
def PW(h:Ai)(F:Nat->Prop)(a:Nat)(A:Ar):Prop:=∃n m ps,PA h a n m ps A/\∀i,F i↔i∈Fu a n m ps
section
variable{h h':Ai}{a n:Nat}{m:Option Nat}{ps:List PN}{A:Ar}{x:Int}{F:Nat->Prop}
def JJ.DQ{kv:Aa}{l:List Int}(hk:JJ h kv l)(hf:∀id,Hp kv=some id->h'[id]?=h[id]?):JJ h' kv l:=by
 rcases hk with⟨rfl,rfl⟩|⟨id,cs,rfl,hc⟩
 .exact .inl ⟨rfl,rfl⟩
 .exact .inr ⟨id,cs,rfl,by rw[hf id rfl];exact hc⟩
def Pu.DQ{f:Int->Int}(hk:Pu h m f)(hf:∀id,m=some id->h'[id]?=h[id]?):Pu h' m f:=by
 rcases hk with h1|⟨id,l,rfl,hc,h2⟩
 .exact .inl h1
 .exact .inr ⟨id,l,rfl,by rw[hf id rfl];exact hc,h2⟩
def KK{p:PN}{id:Nat}(hp:p∈ps)(hk:Hp p.kv=some id):id∈Fu a n m ps:=by unfold Fu;simp only[AG,Ap];exact .inr (.inr (.inr (Cb.2 ⟨p,hp,hk⟩)))
def PA.DQ(w:PA h a n m ps A)(hf:∀i∈Fu a n m ps,h'[i]?=h[i]?):PA h' a n m ps A:=
 ⟨w.e,w.il,by rw[hf a (by simp[Fu])];exact w.ha,by rw[hf n (by simp[Fu])];exact w.hn,λp hp=>(w.ks p hp).DQ λid hk=>hf id (KK hp hk),w.nd,w.mp.DQ λid hm=>hf id (by simp[Fu,hm])⟩
def PA.lt(w:PA h a n m ps A):∀i∈Fu a n m ps,i<h.length:=by
 intro i hi;unfold Fu at hi;simp only[AG,Ap,Cb] at hi;rcases hi with rfl|rfl|hi|⟨p,hp,hk⟩
 .exact(Aj.1 w.ha).1
 .exact(Aj.1 w.hn).1
 .rcases w.mp with⟨rfl,_⟩|⟨id,l,rfl,hc,_⟩
  .simp at hi
  .simp at hi;subst hi;exact(Aj.1 hc).1
 .rcases w.ks p hp with⟨e,_⟩|⟨id,cs,e,hc⟩
  .rw[e] at hk;cases hk
  .rw[e] at hk;cases hk;exact(Aj.1 hc).1
def PW.DQ(w:PW h F a A)(hf:∀i,F i->h'[i]?=h[i]?):PW h' F a A:=by obtain⟨n,m,ps,w,e⟩:=w;exact⟨n,m,ps,w.DQ λi hi=>hf i ((e i).2 hi),e⟩
def PW.lt(w:PW h F a A){i:Nat}(hi:F i):i<h.length:=by obtain⟨n,m,ps,w,e⟩:=w;exact w.lt i ((e i).1 hi)
def PA.sy(w:PA h a n m ps A):A.n.length=ps.length:=by rw[w.e,Av]
def PA.at(w:PA h a n m ps A)(hx:A.has x):x.toNat-1<ps.length/\((x.toNat-1:Nat):Int)=x-1:=by have:=w.sy;unfold Ar.has at hx;omega
def PA.pn(w:PA h a n m ps A)(hx:A.has x):ps[x.toNat-1]?=some (pN ps x)/\(pN ps x).x=A.nd x/\pN ps x∈ps:=by
 have h1:=(w.at hx).1;have h2:ps[x.toNat-1]?=some ps[x.toNat-1]:=As h1;have b:pN ps x=ps[x.toNat-1]:=by unfold pN;rw[AR,h2];rfl
 refine⟨by rw[b];exact h2,?_,by rw[b];exact AY _⟩;unfold Ar.nd;rw[Af hx,w.e,b,AR,Cd,h2];rfl
def Pv{Aw:List (List Aa)}{z i k:Nat}(hr:∀r∈Aw,r.length=z)(hk:k<z){r:List Aa}(hi:Aw[i]?=some r):Aw.flatten[i*z+k]?=r[k]?:=by
 have h1:(Aw.flatten.drop (i*z))[k]?=r[k]?:=by rw[Iu hr];obtain⟨hlt,e⟩:=Aj.1 hi;rw[Ay hlt,e,CH,An (by rw[hr r (e▸AY hlt)];exact hk)]
 rwa [Cp] at h1
def jQ(l:List PN):∀r∈l.map PN.row,r.length=13:=Pd (f:=PN.row) (λ_=>PN.DP) l
def nP(n:Nat)(x:Int):Nat:=(x.toNat-1)*13
def PA.BP(w:PA h a n m ps A)(hx:A.has x){k:Nat}(hk:k<13):Bj h none (Pt n (nP n x+k))=(pN ps x).row[k]?:=by unfold nP;simp only[Bj,w.hn,Gr];exact Pv (jQ ps) hk (by rw[Cd,(w.pn hx).1];rfl)
def Va(w:PA h a n m ps A):B9 cx 140 [Pt a 0,I x] h (.bool (decide (A.has x))) h:=by
 have d:Bj h none (Pt a 0)=some (.C3 n 0 ps.length 13):=by simp only[Bj,w.ha];rfl
 have c:Az (.len false) [.C3 n 0 ps.length 13]=some (I (ps.length:Int)):=rfl;rw[Ag,uB,aA7];simp only[abS,d,c];have hl:=w.sy;have b:A.has x↔1<=x/\x<=(ps.length:Int):=by unfold Ar.has;rw[hl]
 refine⟨λh1=>?_,λh1=>?_⟩;.congr 2;rw[C9,b];exact⟨λh=>⟨h1,h⟩,λh=>h.2⟩
 .rw[Ak (λh=>h1 (b.1 h).1)]
def PA.nodes(w:PA h a n m ps A):Bj h none (Pt a 0)=some (.C3 n 0 ps.length 13):=by simp only[Bj,w.ha];rfl
def PA.len(w:PA h a n m ps A):((ps.length:Nat):Int)=A.len:=by unfold Ar.len;rw[w.sy]
def ĭ(w:PA h a n m ps A){l:List Int}{v:Aa}(hv:GI l v)(hb:l.length<=1000):B9 cx 178 [Pt a 0,v] h (I (if∀x∈l,A.has x then 0 else 3)) h:=by
 have hv:Bv 1 (l.map DN) v:=hv;rw[Ag,u9,aBv];simp only[abS,hv.F0];refine BM (λk:Nat=>[I 0,I (k:Int)]) (λk h1=>k<=l.length/\(∀x∈l.take k,A.has x)/\h1=h) (λk=>l.length-k) 0 rfl ⟨A7 _,Ax,rfl⟩ ?_;rintro k h1 ⟨hk,ha,rfl⟩;rcases Bi k l.length with hlt|GX
 .have i1:(k:Int)<(l.length:Int):=by omega
  have c:Bj h1 none (.BR (DN l[k]))=some (I l[k]):=rfl;simp only[Cf,bK,i1,hv.Df hlt,c,(Va (x:=l[k]) w).Ac,CI (Ab:k<9223372036854775807)];rw[Da];refine⟨λh2=>?_,λh2=>?_⟩
  .have h2:¬A.has l[k]:=by simpa using h2
   rw[Ad (λb=>h2 (b _ (AY hlt)))]
  .have h2:A.has l[k]:=by simpa using h2
   refine Bq.next (k+1) rfl ⟨hlt,?_,rfl⟩ Ab;intro x hx;rw[AQ hlt,Ap,Bd] at hx;rcases hx with hx|rfl
   .exact ha x hx
   .exact h2
 .have i1:¬(k:Int)<(l.length:Int):=by omega
  rw[A8 GX] at ha;simp only[abS,i1,Af ha]
def Rk(w:PA h a n m ps A):B9 cx 178 [Pt a 0,.sl 1 [[I x]]] h (I (if A.has x then 0 else 3)) h:=by have:=ĭ w (l:=[x]) (v:= .sl 1 [[I x]]) .mk Ax;simpa using this
def Lc{y:Int}(w:PA h a n m ps A):B9 cx 178 [Pt a 0,.sl 1 [[I x],[I y]]] h (I (if A.has x/\A.has y then 0 else 3)) h:=by have:=ĭ w (l:=[x,y]) (v:= .sl 1 [[I x],[I y]]) .mk Ax;simpa using this
def Gk{x:Int}:Az (.Ch 1) [I x]=some (.sl 1 [[I x]]):=rfl
def Fl{x y:Int}:Az (.Ch 1) [I x,I y]=some (.sl 1 [[I x],[I y]]):=rfl
def Mh.of(b:Mh A)(hx:A.has x):1<=x/\x<=1000000000:=by have:=b.n;unfold Ar.has at hx;omega
def Ij(w:PA h a n m ps A)(b:Mh A)(hx:A.has x):B9 cx 144 [Pt a 0,I x] h (Pt n (nP n x)) h:=by
 have hr:=b.of hx;have d:=(w.at hx).2;have c:Az (.FA 13) [.C3 n 0 ps.length 13,I (x-1)]=some (Pt n (nP n x)):=by rw[<-d];exact Fe (w.at hx).1
 rw[Ag,cR,À];simp only[abS,w.nodes,DI (Ab: -9223372036854775808<=x-1) (Ab:x-1<9223372036854775808),c]
def PA.f0(w:PA h a n m ps A)(hx:A.has x):Bj h none (Pt n (nP n x))=some (I (A.nd x).kind):=by have:=w.BP hx (k:=0) AM;rw[<-(w.pn hx).2.1];exact this
def PA.f1(w:PA h a n m ps A)(hx:A.has x):Bj h none (Pt n (nP n x+1))=some (I (A.nd x).Hi):=by have:=w.BP hx (k:=1) AM;rw[<-(w.pn hx).2.1];exact this
def PA.f2(w:PA h a n m ps A)(hx:A.has x):Bj h none (Pt n (nP n x+2))=some (pN ps x).kv:=by have:=w.BP hx (k:=2) AM;exact this
def PA.f4(w:PA h a n m ps A)(hx:A.has x):Bj h none (Pt n (nP n x+4))=some (I (A.nd x).A6):=by have:=w.BP hx (k:=4) AM;rw[<-(w.pn hx).2.1];exact this
def PA.f5(w:PA h a n m ps A)(hx:A.has x):Bj h none (Pt n (nP n x+5))=some (.str (A.nd x).name):=by have:=w.BP hx (k:=5) AM;rw[<-(w.pn hx).2.1];exact this
def PA.f6(w:PA h a n m ps A)(hx:A.has x):Bj h none (Pt n (nP n x+6))=some (pN ps x).av:=by have:=w.BP hx (k:=6) AM;exact this
def PA.PZ(w:PA h a n m ps A)(hx:A.has x):JJ h (pN ps x).kv (A.nd x).Bw:=by rw[<-(w.pn hx).2.1];exact w.ks _ (w.pn hx).2.2
def PA.att(w:PA h a n m ps A)(hx:A.has x):(pN ps x).av=U9 (A.nd x).Au:=by rw[<-(w.pn hx).2.1];exact(pN ps x).ok
def PA.row(w:PA h a n m ps A)(hx:A.has x):Bj h (some 13) (Pt n (nP n x))=some (.agg (pN ps x).row):=by
 have h1:((ps.map PN.row).flatten.drop (nP n x)).take 13=(pN ps x).row/\nP n x+13<=(ps.map PN.row).flatten.length:=by unfold nP;have hlt:=(w.at hx).1;have hg:=(w.pn hx).1;rw[Iu (jQ ps),Gt (jQ ps),Av];refine⟨?_,Ab⟩;rw[<-KV,Ay hlt,A9,CH];rw[As hlt,Bx] at hg;rw[hg];exact IX PN.DP
 simp only[Bj,w.hn,Ms];rw[Af h1.2,h1.1]
def MT:∀{l:List Int} {cs Tm:List Aa},Cr (Tm++(l.map (Aa.int .i64)++cs)) 1 Tm.length l.length=l.map DN
 |[],_,_=>rfl
 |x::l,cs,Tm=>by have:=MT (l:=l) (cs:=cs) (Tm:=Tm++[I x]);simp only[AS,Aq,Bl] at this;simp only[A9,AJ,Cr,CJ];rw[KY rfl];simp only[CJ,BT] at this;rw[this];rfl
def JJ.Aw{kv:Aa}{l:List Int}(hk:JJ h kv l):Ha h 1 kv=some (l.map DN):=by
 rcases hk with⟨rfl,rfl⟩|⟨id,cs,rfl,hc⟩
 .rfl
 .have:=MT (l:=l) (cs:=cs) (Tm:=[]);simp only[BT,Bt] at this;simp only[Ha,BE,hc,this];rw[Af Ax]
def JJ.len{kv:Aa}{l:List Int}(hk:JJ h kv l):Az (.len false) [kv]=some (I (l.length:Int)):=by rcases hk with⟨rfl,rfl⟩|⟨id,cs,rfl,hc⟩<;>rfl
def Į{kv:Aa}{l:List Int}(hk:JJ h kv l)(hb:l.length<=1000000000):∃v,B9 cx 252 [kv] h v h/\GI l v:=by
 have hr:=hk.Aw;rcases hk with⟨rfl,rfl⟩|⟨id,cs,rfl,hc⟩
 .exact⟨.slnil,by rw[Ag,dH,Ð];simp only[Cf,show Az (.Ga false .sl) [.slnil,.slnil]=some (.bool true) from rfl],.inr ⟨rfl,rfl⟩⟩
 .refine⟨.sl 1 (l.map DN),?_,.mk⟩;have b:Qr h 1 8 (.sl 1 []) (.C3 id 0 l.length 1)=some (.sl 1 (l.map DN)):=by
   unfold Qr;rw[hr,Cm];cases l with
   |nil=>rfl
   |cons x l=>
    have:(x::l).length*8<=AO:=by have:AO=140737488355328:=rfl;omega
    simp only[A9,Dr,AJ,Av,Bt] at this⊢;rw[Af ⟨trivial,by simpa using this⟩];rfl
  rw[Ag,dH,Ð];simp only[Cf,show Az (.Ga false .sl) [.C3 id 0 l.length 1,.slnil]=some (.bool false) from rfl,show Az (.Ch 1) []=some (.sl 1 []) from rfl,b]
def Ky(h:Ai)(v:Aa)(l:List A3):Prop:=(v= .slnil/\l=[])\/∃id,v= .C3 id 0 l.length 3/\h[id]?=some (.cells (l.map A3.row).flatten)/\id<h.length
def Ky.cells{v:Aa}{l:List A3}(hv:Ky h v l):v.cells=[v]:=by rcases hv with⟨rfl,_⟩|⟨id,rfl,_,_⟩<;>rfl
structure Mx(h:Ai)(v:Aa)(l:List A3):Prop where
 len:Az (.len false) [v]=some (I (l.length:Int))
 at_:∀k (hk:k<l.length),∃p,Az (.FA 3) [v,I (k:Int)]=some p/\Bj h (some 3) p=some (.agg l[k].row)
def Xt{v:Aa}{l:List A3}(hv:Bb l v):Mx h v l:=⟨Bv.F0 hv,λk hk=>⟨_,Bv.Df hv hk,rfl⟩⟩
def aCF(l:List A3):∀r∈l.map A3.row,r.length=3:=Pd (f:=A3.row) (λ_=>rfl) l
def Ky.in_{v:Aa}{l:List A3}(hv:Ky h v l):Mx h v l:=by
 rcases hv with⟨rfl,rfl⟩|⟨id,rfl,hc,_⟩
 .exact⟨rfl,λk hk=>by simp at hk⟩
 .refine⟨rfl,λk hk=>⟨Pt id (k*3),Fe hk,?_⟩⟩;simp only[Bj,hc,Ms];rw[Af (by rw[Gt (aCF l),Av];omega),Iu (aCF l),<-KV,Ay hk,A9,CH];rfl
def Up(N:Nat)(v:Aa):Prop:=∀id k,v= .C3 id 0 k 3->N<=id
def s_{v:Aa}{l:List A3}(hv:v=U9 l)(hb:l.length<=1000000000):∃u t,B9 cx 100088 [v] h u (h++t)/\Ky (h++t) u l/\Up h.length u:=by
 cases l with
 |nil=>refine⟨.slnil,[],?_,.inl ⟨rfl,rfl⟩,λ_ _ e=>nomatch e⟩;rw[BB,Ag,Ri,Vx,hv];simp only[Cf,U9,show Az (.Ga false .sl) [.slnil,.slnil]=some (.bool true) from rfl]
 |cons x l=>have e:=Pe (h:=h) (s:= .sl 3 []) (z:=3) (b:=40) (.inr rfl) (Bv.mk (z:=3) (Aw:=(x::l).map A3.row)) Ax (by rw[Av];have:AO=140737488355328:=rfl;omega);rw[Av] at e;refine⟨.C3 h.length 0 (x::l).length 3,[.cells ((x::l).map A3.row).flatten],?_,.inr ⟨h.length,rfl,Ax,Ax⟩,λ_ _ e=>by injection e with e;omega⟩;rw[Ag,Ri,Vx,hv];simp only[Cf,U9,show Az (.Ga false .sl) [.sl 3 ((x::l).map A3.row),.slnil]=some (.bool false) from rfl,show Az (.Ch 3) []=some (.sl 3 []) from rfl,e]
def aF4(h:Ai)(N:Nat)(x:GQ)(r:List Aa):Prop:=∃K V,r=[I x.kind,I x.Hi,K,I x.CK,I x.A6,.str x.name,V,.str x.data,.str x.JV,.str x.sys,.bool x.CS,I x.cont,I x.EG]/\GI x.Bw K/\Ky h V x.Au/\Up N V
def aF5(w:PA h a n m ps A)(e:Mh A)(hx:A.has x)(į:(A.nd x).Bw.length<=1000000000):∃r t,B9 cx 218 [Pt n (nP n x)] h (.agg r) (h++t)/\aF4 (h++t) h.length (A.nd x) r:=by obtain⟨K,d,c⟩:=Į (w.PZ hx) į;obtain⟨V,t,r2,b,f⟩:=s_ (h:=h) (w.att hx) (e.at_ x);refine⟨_,t,?_,K,V,rfl,c,b,f⟩;have hc:K.cells=[K]:=Bv.cells c;have e0:=w.row hx;have g:(pN ps x).row=_:=rfl;have ex:=(w.pn hx).2.1;rw[Ag,v8,aBW];rw[PN.row,ex] at e0;simp only[abS,e0,w.f2 hx,w.f6 hx,d.Ac,Dl,r2.Ac,hc,b.cells]
def aCG(w:PA h a n m ps A)(b:Mh A)(į:(A.nd x).Bw.length<=1000000000):∃r t,B9 cx 147 [Pt a 0,I x] h (.tuple [.agg r,I (if A.has x then 0 else 3)]) (h++t)/\aF4 (h++t) h.length (A.nd x) r:=by
 by_cases hx:A.has x;.obtain⟨r,t,c,hr⟩:=aF5 w b hx į;have Hh:=hr;obtain⟨K,V,rfl,_⟩:=hr;refine⟨_,t,?_,Hh⟩;rw[Ag,cS,Á];simp only[abS,↓reduceIte,Br,Gk,(Rk (x:=x) w).Ac,Af hx,Cy,Cn,(Ij w b hx).Ac,c.Ac]
 .refine⟨_,[],?_,.slnil,.slnil,by rw[Ov hx],by rw[Ov hx];exact .inr ⟨rfl,rfl⟩,by rw[Ov hx];exact .inl ⟨rfl,rfl⟩,λ_ _ e=>nomatch e⟩;rw[Ag,cS,Á,BB];simp only[abS,↓reduceIte,Br,Gk,(Rk (x:=x) w).Ac,Ad hx,Cy,(AM:¬(3:Int)=0),GS]
def İ(w:PA h a n m ps A)(c:Mh A)(į:(A.nd x).Bw.length<=1000000000):∃v,B9 cx 190 [Pt a 0,I x] h v h/\GI (A.nd x).Bw v:=by
 by_cases hx:A.has x;.obtain⟨K,b,d⟩:=Į (w.PZ hx) į;refine⟨K,?_,d⟩;rw[Ag,dC,Ë];simp only[abS,(Va (x:=x) w).Ac,Al hx,(Ij w c hx).Ac,w.f2 hx,b.Ac]
 .refine⟨.slnil,?_,by rw[Ov hx];exact .inr ⟨rfl,rfl⟩⟩;rw[Ag,dC,Ë];simp only[abS,(Va (x:=x) w).Ac,Ak hx]
def aF6(w:PA h a n m ps A)(b:Mh A):B9 cx 250 [Pt a 0,I x] h (I (A.nd x).Hi) h:=by
 by_cases hx:A.has x;.rw[Ag,dG,Ï];simp only[abS,(Va (x:=x) w).Ac,Al hx,(Ij w b hx).Ac,w.f1 hx]
 .rw[Ag,dG,Ï,Ov hx];simp only[abS,(Va (x:=x) w).Ac,Ak hx]
def aF7(w:PA h a n m ps A):B9 cx 89 [Pt a 0] h (I A.len) h:=by have b:Az (.len false) [.C3 n 0 ps.length 13]=some (I (ps.length:Int)):=rfl;rw[Ag,aAP,t89];simp only[abS,w.nodes,b,w.len]
def jR(w:PA h a n m ps A)(b:Mh A):B9 cx 176 [Pt a 0,I x] h (I (if A.has x then(if(A.nd x).kind=1 then 0 else 9) else 3)) h:=by
 rw[Ag,u0,aBu];by_cases hx:A.has x
 .simp only[abS,Gk,(Rk (x:=x) w).Ac,Af hx,Cy,Cn,(Ij w b hx).Ac,w.f0 hx];by_cases hk:(A.nd x).kind=1;.simp only[hk,abS,Cn]
  .simp only[hk,abS]
 .simp only[abS,Gk,(Rk (x:=x) w).Ac,Ad hx,Cy,(AM:¬(3:Int)=0)]
def ta{l:List PN}:(l.map PN.row).flatten.length=l.length*13:=by rw[Gt (jQ l),Av]
def jS{p:PN}{n':Nat}(hk:Hp p.kv=none):Fu a n' m (ps++[p])=a::n'::(m.toList++ps.filterMap λp=>Hp p.kv):=by unfold Fu;rw[Ef];simp[hk]
def td{x:GQ}(hl:A.i.length=A.n.length):(A.add x).inr=A.inr:=by funext k;exact Vp hl
def tg(w:PA h a n m ps A)(hb:ps.length+1<=1000000000)(p:PN)(hk:p.kv= .slnil)(yo:p.x.Bw=[]):
  ∃h',B9 cx 143 [Pt a 0,.agg p.row] h (I (A.len+1)) h'/\PA h' a h.length m (ps++[p]) (A.add p.x)/\(∀i,i<h.length->i≠a->i≠n->h'[i]?=h[i]?)/\h'.length=h.length+1:=by
 have aM:a<h.length:=w.lt a (by simp[Fu]);have Qj:n<h.length:=w.lt n (by simp[Fu]);have j:a≠n:=by have:=w.nd;simp[Fu] at this;exact this.1.1
 have d:=Q4 (h:=h) (id:=n) (Aw:=ps.map PN.row) (r2:=[p.row]) (v:= .sl 13 [p.row]) (b:=168) (jQ ps) AM w.hn .mk Ax (by rw[Av];have:AO=140737488355328:=rfl;simp;omega);rw[Av] at d;simp only[Bl] at d;have RV:(h.set n .DF++[ED.cells (ps.map PN.row++[p.row]).flatten])[a]?=some (.cells [.C3 n 0 ps.length 13,.map m]):=by rw[An (by simpa using aM),Ao (Dx j)];exact w.ha
 have es:CL (h.set n .DF++[ED.cells (ps.map PN.row++[p.row]).flatten]) 1 (Pt a 0) (.C3 h.length 0 (ps.length+1) 13)=some ((h.set n .DF++[ED.cells (ps.map PN.row++[p.row]).flatten]).set a (.cells [.C3 h.length 0 (ps.length+1) 13,.map m])):=by simp only[CL,RV];rfl
 have l:Bj ((h.set n .DF++[ED.cells (ps.map PN.row++[p.row]).flatten]).set a (.cells [.C3 h.length 0 (ps.length+1) 13,.map m])) none (Pt a 0)=some (.C3 h.length 0 (ps.length+1) 13):=by simp only[Bj];rw[AE Ei];rfl
 have o:Az (.len false) [.C3 h.length 0 (ps.length+1) 13]=some (I ((ps.length+1:Nat):Int)):=rfl;have em:Az (.Ch 13) [.agg p.row]=some (.sl 13 [p.row]):=WQ (a:= .agg p.row) rfl AM;refine⟨(h.set n .DF++[ED.cells (ps.map PN.row++[p.row]).flatten]).set a (.cells [.C3 h.length 0 (ps.length+1) 13,.map m]),?_,?_,?_,?_⟩;rotate_left
 .refine⟨by simp[Ar.add,w.e],by simp[Ar.add,w.il],?_,?_,?_,?_,?_⟩;.rw[AE Ei];simp
  .rw[Ao Ab,BI Ax];simp
  .intro q hq;rcases Ap.1 hq with hq|hq
   .refine(w.ks q hq).DQ λid HV=>?_;have h1:id∈Fu a n m ps:=KK hq HV;have h2:=w.lt id h1;have c:=w.nd;have k:id∈m.toList++ps.filterMap λp=>Hp p.kv:=Ap.2 (.inr (Cb.2 ⟨q,hq,HV⟩));unfold Fu at c;simp only[B3,AG,Oi] at c;have g:a≠id:=λe=>c.1.2 (e▸k);have f:n≠id:=λe=>c.2.1 (e▸k);rw[Ao g,An (by simpa using h2),Ao f]
   .simp at hq;subst hq;exact .inl ⟨hk,yo⟩
  .rw[jS (by rw[hk];rfl)];have c:=w.nd;unfold Fu at c;simp only[B3,AG,Oi] at c⊢;refine⟨⟨Ab,c.1.2⟩,λhm=>?_,c.2.2⟩;have:=w.lt h.length (by unfold Fu;simp only[AG];exact .inr (.inr hm));omega
  .rw[td w.il];refine w.mp.DQ λid HV=>?_;have h1:id∈m.toList++ps.filterMap λp=>Hp p.kv:=by simp[HV]
   have h2:=w.lt id (by unfold Fu;simp only[AG];exact .inr (.inr h1));have c:=w.nd;unfold Fu at c;simp only[B3,AG,Oi] at c;have g:a≠id:=λe=>c.1.2 (e▸h1);have f:n≠id:=λe=>c.2.1 (e▸h1);rw[Ao g,An (by simpa using h2),Ao f]
 .intro i hi h1 h2;rw[Ao (Dx h1),An (by simpa using hi),Ao (Dx h2)]
 .simp
 .have hl:A.len+1=((ps.length+1:Nat):Int):=by rw[<-w.len];rfl
  rw[PN.row] at em d es l;rw[Ag,cQ,Z_,hl,PN.row];simp only[abS,Nat.reduceLeDiff,↓reduceIte,Br,w.nodes,em,d,es,l,o]
def TH{Aw:List (List Aa)}{z i k:Nat}(hr:∀r∈Aw,r.length=z)(hi:i<Aw.length)(hk:k<z){v:Aa}:Aw.flatten.take (i*z+k)++[v]++Aw.flatten.drop (i*z+k+1)=(Aw.set i (Aw[i].set k v)).flatten:=by
 have hl:=hr _ (AY hi);rw[<-iJ hr hi];have b:Aw.flatten.drop (i*z)=Aw[i]++Aw.flatten.drop (i*z+z):=by
  have e:i*z+z=(i+1)*z:=by rw[BA,Ed]
  rw[e,Iu hr,Iu hr,Ay hi,CH]
 have d:Aw.flatten.take (i*z+k)=Aw.flatten.take (i*z)++Aw[i].take k:=by rw[Ā,b,Du Ab]
 have c:Aw.flatten.drop (i*z+k+1)=Aw[i].drop (k+1)++Aw.flatten.drop (i*z+z):=by rw[Rq,<-Es,b,yZ Ab]
 rw[d,c,Cv,Af Ab];simp
def PA.sto(w:PA h a n m ps A)(hx:A.has x){k:Nat}(hk:k<13){v:Aa}(hv:v.cells=[v]){p:PN}(hp:p.row=(pN ps x).row.set k v){h1:Ai}(hn:h1[n]?=h[n]?):
  CL h1 1 (Pt n (nP n x+k)) v=some (h1.set n (.cells ((ps.set (x.toNat-1) p).map PN.row).flatten)):=by
 have hlt:=(w.at hx).1;have hg:=(w.pn hx).1;rw[As hlt,Bx] at hg;have e:=TH (Aw:=ps.map PN.row) (i:=x.toNat-1) (k:=k) (v:=v) (jQ ps) (by simpa using hlt) hk;rw[ET,hg,<-hp,<-GO] at e;unfold nP;simp only[CL,hn,w.hn,hv,Bl,Nq];rw[Af (by rw[Gt (jQ ps),Av];omega),e]
def Xu(w:PA h a n m ps A)(hx:A.has x)(p:PN):ps=ps.take (x.toNat-1)++pN ps x::ps.drop (x.toNat-1+1)/\ps.set (x.toNat-1) p=ps.take (x.toNat-1)++p::ps.drop (x.toNat-1+1):=by have hlt:=(w.at hx).1;have hg:=(w.pn hx).1;rw[As hlt,Bx] at hg;refine⟨?_,by rw[Cv,Af hlt]⟩;conv=>lhs;rw[<-Cw (x.toNat-1) ps,Ay hlt,hg]
def th{y:GQ}:(A.set x y).inr=A.inr:=by funext k;exact Sj
def PA.fq(w:PA h a n m ps A)(hx:A.has x){p:PN}{h1:Ai}(ho:∀i∈Fu a n m ps,Hp (pN ps x).kv≠some i->h1[i]?=h[i]?)(hk:JJ h1 p.kv p.x.Bw)
  (hi:Hp p.kv=Hp (pN ps x).kv\/∀j,Hp p.kv=some j->h.length<=j):PA (h1.set n (.cells ((ps.set (x.toNat-1) p).map PN.row).flatten)) a n m (ps.set (x.toNat-1) p) (A.set x p.x):=by
 have hlt:=(w.at hx).1;have Ý:=(w.pn hx).2.2;obtain⟨z,B⟩:=Xu w hx p;have nd:=w.nd;have g:∀j,Hp (pN ps x).kv=some j->j∈m.toList++ps.filterMap λp=>Hp p.kv:=λj hj=>Ap.2 (.inr (Cb.2 ⟨_,Ý,hj⟩));have dO:=nd;unfold Fu at dO;simp only[B3,AG,Oi] at dO;have t:a≠n:=dO.1.1;have l:Hp (pN ps x).kv≠some a:=λe=>dO.1.2 (g a e);have f:Hp (pN ps x).kv≠some n:=λe=>dO.2.1 (g n e);have Qj:n<h.length:=w.lt n (by simp[Fu]);have v:h1[n]?=h[n]?:=ho n (by simp[Fu]) f;have y:n<h1.length:=by have:=w.hn;rw[<-v] at this;exact(Aj.1 this).1
 have ť:∀j,Hp p.kv=some j->j≠n/\j≠a:=by
  intro j hj;rcases hi with hi|hi
  .rw[hi] at hj;exact⟨λe=>f (e▸hj),λe=>l (e▸hj)⟩
  .have:=hi j hj;have:=w.lt a (by simp[Fu]);omega
 refine⟨?_,?_,?_,?_,?_,?_,?_⟩;.simp only[Ar.set,Af hx];rw[w.e,GO]
 .rw[IP];exact w.il
 .rw[Ao (Dx t),ho a (by simp[Fu]) l,BV];exact w.ha
 .rw[AE y]
 .intro q hq;by_cases c:q=p;.rw[c];exact hk.DQ λid HV=>by rw[Ao (Dx (ť id HV).1)]
  .rw[B] at hq;have d:q∈ps.take (x.toNat-1)++ps.drop (x.toNat-1+1):=by
    rcases Ap.1 hq with b|b
    .exact Ap.2 (.inl b)
    .exact Ap.2 (.inr ((AG.1 b).resolve_left c))
   have ŷ:q∈ps:=by
    rcases Ap.1 d with b|b
    .exact A0 b
    .exact Bu b
   refine(w.ks q ŷ).DQ λj hj=>?_;have o:j∈Fu a n m ps:=KK ŷ hj;have u:j≠n:=λe=>dO.2.1 (e▸Ap.2 (.inr (Cb.2 ⟨q,ŷ,hj⟩)));have ZH:Hp (pN ps x).kv≠some j:=by
    intro s;have r:=(BN.1 dO.2.2).2.1;rw[z,Ef,HZ,s] at r;simp only[BN,B3,AG,Cb] at r;rcases Ap.1 d with b|b
    .exact r.2.2 j ⟨q,b,hj⟩ j (.inl rfl) rfl
    .exact r.2.1.1 ⟨q,b,hj⟩
   rw[Ao (Dx u),ho j o ZH]
 .have fr:∀j,Hp p.kv=some j->Hp (pN ps x).kv=some j\/j∉Fu a n m ps:=by
   intro j hj;rcases hi with hi|hi
   .exact .inl (hi▸hj)
   .exact .inr λhm=>by have:=hi j hj;have:=w.lt j hm;omega
  have h1:=nd;unfold Fu at h1 fr⊢;rw[z,Ef,HZ] at h1;rw[z,Ef,HZ] at fr;rw[B,Ef,HZ];generalize List.filterMap (λp=>Hp p.kv) (ps.take (x.toNat-1))=T at h1 fr⊢;generalize List.filterMap (λp=>Hp p.kv) (ps.drop (x.toNat-1+1))=D at h1 fr⊢;cases hp:Hp p.kv with
  |none=>
   cases ho:Hp (pN ps x).kv with
   |none=>rw[ho] at h1;exact h1
   |some k=>rw[ho] at h1;refine h1.sublist ?_;simp
  |some j=>
   have:=fr j hp;cases ho:Hp (pN ps x).kv with
   |none=>rw[ho] at h1 this;simp only[B3,BN,AG,Ap] at h1 this⊢;grind
   |some k=>rw[ho] at h1 this;simp only[B3,BN,AG,Ap] at h1 this⊢;grind
 .rw[th];refine w.mp.DQ λid HV=>?_;have o:id∈m.toList++ps.filterMap λp=>Hp p.kv:=by simp[HV]
  have u:n≠id:=λe=>dO.2.1 (e▸o);have ZH:Hp (pN ps x).kv≠some id:=by intro Yl;exact(BN.1 dO.2.2).2.2 id (by simp[HV]) id (Cb.2 ⟨_,Ý,Yl⟩) rfl
  rw[Ao u,ho id (by unfold Fu;simp only[AG];exact .inr (.inr o)) ZH]
def PA.pw(w:PA h a n m ps A):PW h (λi=>i∈Fu a n m ps) a A:=⟨n,m,ps,w,λ_=>Iff.rfl⟩
def Mh.add{y:GQ}(b:Mh A)(h1:A.len+1<=1000000000)(h2:y.Au.length<=1000000000)(c:y.data.length<=1000000000):Mh (A.add y):=by
 refine⟨?_,λx=>?_,λx=>?_⟩;.unfold Ar.len at h1;simp[Ar.add];omega
 .rw[Lb];split;.exact h2
  .exact b.at_ x
 .rw[Lb];split;.exact c
  .exact b.data x
def Mh.set{y:GQ}(b:Mh A)(h2:y.Au.length<=1000000000)(c:y.data.length<=1000000000):Mh (A.set x y):=by
 refine⟨by rw[IP];exact b.n,λx=>?_,λx=>?_⟩<;>rw[JF]<;>split;.exact h2
 .exact b.at_ x
 .exact c
 .exact b.data x
def Þ{x y:GQ}:(A.add x).set (A.len+1) y=A.add y:=by unfold Ar.set;rw[Af (D8.2 (.inr rfl))];unfold Ar.add Ar.len;have e:((A.n.length:Int)+1).toNat-1=A.n.length:=Ab;simp only[e];rw[B5 _ _ (Ae _),Dy];rfl
def xV{p:PN}(w:PA h a n m ps A)(hx:A.has x)(hk:Hp p.kv=Hp (pN ps x).kv):Fu a n m (ps.set (x.toNat-1) p)=Fu a n m ps:=by obtain⟨c,b⟩:=Xu w hx p;unfold Fu;rw[b,Ef,HZ,hk];conv=>rhs;rw[c,Ef,HZ]
def PA.wr(w:PA h a n m ps A)(hx:A.has x){k:Nat}(hk:k<13){v:Aa}(hv:v.cells=[v]){p:PN}(hp:p.row=(pN ps x).row.set k v)(h1:p.kv=(pN ps x).kv)(h2:p.x.Bw=(A.nd x).Bw):
  ∃h',CL h 1 (Pt n (nP n x+k)) v=some h'/\PA h' a n m (ps.set (x.toNat-1) p) (A.set x p.x)/\Fu a n m (ps.set (x.toNat-1) p)=Fu a n m ps/\(∀i,i≠n->h'[i]?=h[i]?)/\h'.length=h.length:=by
 refine⟨_,w.sto hx hk hv hp rfl,w.fq hx (λi _ _=>rfl) (by rw[h1,h2];exact w.PZ hx) (.inl (by rw[h1])),xV w hx (by rw[h1]),λi hi=>by rw[Ao (Dx hi)],BV⟩
def PA.xW(w:PA h a n m ps A){h1:Ai}{Mi:List PN}{A':Ar}(w':PA h1 a n m Mi A')(hi:Fu a n m Mi=Fu a n m ps)(ho:∀i,i≠n->h1[i]?=h[i]?)(hl:h1.length=h.length):Ew h (λi=>i∈Fu a n m ps) h1 (λi=>i∈Fu a n m Mi):=
 ⟨Ab,λi _ hn=>ho i (λe=>hn (by rw[e];simp[Fu])),λi Uc=> .inl (by rwa [hi] at Uc)⟩
def J4(q:Bool)(d:Int):PN:=⟨{kind:=1,CS:=q,CK:=d},.slnil,.slnil,rfl⟩
def aK2(w:PA h a n m ps A)(g:Mh A)(hb:A.len+1<=1000000000)(q:Bool):
  ∃h',B9 cx 49 [Pt a 0,.bool q] h (I (A.len+1)) h'/\PA h' a h.length m (ps++[J4 q (A.len+1)]) (A.add {kind:=1,CS:=q,CK:=A.len+1})/\(∀i,i<h.length->i≠a->i≠n->h'[i]?=h[i]?)/\h'.length=h.length+1:=by
 have rP:=w.len;obtain⟨h1,d,w1,f,l1⟩:=tg w Ab (J4 q 0) rfl rfl;have ı:=g.add (y:=(J4 q 0).x) hb (by simp[J4]) (by simp[J4]);have hx:(A.add (J4 q 0).x).has (A.len+1):=D8.2 (.inr rfl);have hlen:(A.len+1).toNat-1=ps.length:=Ab;have ť:pN (ps++[J4 q 0]) (A.len+1)=J4 q 0:=by unfold pN;rw[hlen];simp
 obtain⟨h2,c,b,_,e,o⟩:=w1.wr hx (k:=3) AM (v:= I (A.len+1)) rfl (p:=J4 q (A.len+1)) (by rw[ť];rfl) (by rw[ť];rfl) (by rw[Lb,Af rfl];rfl);refine⟨h2,?_,?_,λi hi l j=>?_,Ab⟩;.have r2:=Ij w1 ı hx;rw[Ag,oX,t49];have Ĳ:B9 cx 143 [Pt a 0,.agg [I 1,I 0,.slnil,I 0,I 0,.str [],.slnil,.str [],.str [],.str [],.bool q,I 0,I 0]] h (I (A.len+1)) h1:=d;simp only[abS,Nat.reduceLeDiff,↓reduceIte,Br,Ĳ.Ac,r2.Ac,c]
 .rw[Þ,hlen] at b;rw[B5 _ _ (Ae _),Dy] at b;exact b
 .rw[e i Ab];exact f i hi l j
def L2(k d:Int)(s:Ah):PN:=⟨{kind:=k,CK:=d,data:=s},.slnil,.slnil,rfl⟩
def PA.Qb(w:PA h a n m ps A){p:PN}{h1:Ai}(hk:Hp p.kv=none)(b:∀i,i<h.length->i≠a->i≠n->h1[i]?=h[i]?)(l1:h1.length=h.length+1):Ew h (λi=>i∈Fu a n m ps) h1 (λi=>i∈Fu a h.length m (ps++[p])):=by
 refine⟨Ab,λi hi hn=>b i hi (λe=>hn (by simp[Fu,e])) (λe=>hn (by simp[Fu,e])),λi hi=>?_⟩;rw[jS hk] at hi;simp only[AG] at hi;rcases hi with rfl|rfl|hi
 .exact .inl (by simp[Fu])
 .exact .inr (Ae _)
 .exact .inl (by unfold Fu;simp only[AG];exact .inr (.inr hi))
def ĳ{k:Int}{s:Ah}(w:PA h a n m ps A)(d:Mh A)(hb:A.len+1<=1000000000)(hd:A.has x/\(A.nd x).kind=1):
  ∃h',B9 cx 177 [Pt a 0,I x,.agg (L2 k 0 s).row] h (.tuple [I (A.len+1),I 0]) h'/\PA h' a h.length m (ps++[L2 k x s]) (A.add (L2 k x s).x)/\(∀i,i<h.length->i≠a->i≠n->h'[i]?=h[i]?)/\h'.length=h.length+1:=by
 have rP:=w.len;obtain⟨h1,b,w1,c,l1⟩:=tg w Ab (L2 k x s) rfl rfl;refine⟨h1,?_,w1,c,l1⟩;rw[PN.row] at b;rw[Ag,cY,Æ,PN.row];simp only[abS,(jR (x:=x) w d).Ac,Af hd.1,Af hd.2,Cy,Cn,L2] at b⊢;simp only[Cf,b.Ac]
def aK3{s:Ah}(w:PA h a n m ps A)(d:Mh A)(hb:A.len+1<=1000000000)(hd:A.has x/\(A.nd x).kind=1):
  ∃h',B9 cx 153 [Pt a 0,I x,.str s] h (.tuple [I (A.len+1),I 0]) h'/\PA h' a h.length m (ps++[L2 5 x s]) (A.add (L2 5 x s).x)/\(∀i,i<h.length->i≠a->i≠n->h'[i]?=h[i]?)/\h'.length=h.length+1:=by
 obtain⟨h1,b,w1,c,l1⟩:=ĳ (k:=5) (s:=s) w d hb hd;refine⟨h1,?_,w1,c,l1⟩;have Ĳ:B9 cx 177 [Pt a 0,I x,.agg [I 5,I 0,.slnil,I 0,I 0,.str [],.slnil,.str s,.str [],.str [],.bool false,I 0,I 0]] h (.tuple [I (A.len+1),I 0]) h1:=b;rw[Ag,uI,aBd];simp only[abS,Nat.reduceLeDiff,↓reduceIte,Br,Ĳ.Ac]
def aF8{s:Ah}(w:PA h a n m ps A)(d:Mh A)(hb:A.len+1<=1000000000)(hd:A.has x/\(A.nd x).kind=1):
  ∃h',B9 cx 95 [Pt a 0,I x,.str s] h (.tuple [I (A.len+1),I 0]) h'/\PA h' a h.length m (ps++[L2 6 x s]) (A.add (L2 6 x s).x)/\(∀i,i<h.length->i≠a->i≠n->h'[i]?=h[i]?)/\h'.length=h.length+1:=by
 obtain⟨h1,b,w1,c,l1⟩:=ĳ (k:=6) (s:=s) w d hb hd;refine⟨h1,?_,w1,c,l1⟩;have Ĳ:B9 cx 177 [Pt a 0,I x,.agg [I 6,I 0,.slnil,I 0,I 0,.str [],.slnil,.str s,.str [],.str [],.bool false,I 0,I 0]] h (.tuple [I (A.len+1),I 0]) h1:=b;rw[Ag,qy,t95];simp only[abS,Nat.reduceLeDiff,↓reduceIte,Br,Ĳ.Ac]
def aK4{s:Ah}(w:PA h a n m ps A)(e:Mh A)(hx:A.has x)(hk:(A.nd x).kind=5):
  ∃h' Mi,B9 cx 152 [Pt a 0,I x,.str s] h (I 0) h'/\PA h' a n m Mi (A.Sn x s)/\Ew h (λi=>i∈Fu a n m ps) h' (λi=>i∈Fu a n m Mi):=by
 have hp:=(w.pn hx).2.1;obtain⟨h2,c,b,g,d,f⟩:=w.wr hx (k:=7) AM (v:= .str s) rfl (p:=⟨{A.nd x with data:=s},(pN ps x).kv,(pN ps x).av,by rw[<-hp];exact(pN ps x).ok⟩) (by simp only[PN.row];rw[hp];rfl) rfl rfl;refine⟨h2,_,?_,b,w.xW b g d f⟩;rw[Ag,uH,aBc];simp only[abS,Gk,(Rk (x:=x) w).Ac,Af hx,Cy,Cn,(Ij w e hx).Ac,w.f0 hx,hk,c]
def Ĵ{y:Int}:B9 cx 238 [.sl 1 [[I y]]] h (.bool (decide (BS.LW y))) h:=by
 have hv:Bv 1 [[I y]] (.sl 1 [[I y]]):= .mk;have d:([[I y]]:List (List Aa))[0]=[I y]:=rfl;rw[Ag,wT,aCf];simp only[Cf,hv.len];refine BM (λk:Nat=>[.bool false,I (k:Int)]) (λk h1=>k<=1/\(k=1->BS.LW y)/\h1=h) (λk=>1 -k) 0 rfl ⟨A7 _,λe=>Ab,rfl⟩ ?_;rintro k h1 ⟨hk,ha,rfl⟩;rcases Bi k 1 with hlt|GX
 .obtain rfl:k=0:=by omega
  simp only[Cf,bK,(AM:((0:Nat):Int)<((1:Nat):Int)),hv.FA (show 0<[[I y]].length from Fi),d,CI (Ab:0<9223372036854775807)];refine⟨λh2=>?_,λh2=>⟨λc=>?_,λc=>?_⟩⟩;.rw[Ak (λb=>by unfold BS.LW at b;omega)]
  .rw[Ak (λb=>by unfold BS.LW at b;omega)]
  .exact Bq.next 1 rfl ⟨Ae _,λ_=>⟨Ab,Ab⟩,rfl⟩ Ab
 .obtain rfl:k=1:=by omega
  simp only[abS,(AM:¬((1:Nat):Int)<((1:Nat):Int)),Al (ha rfl)]
def Xv{l out:List A3}{y:A3}:Gw out (l++[y])=if(Gw out l).any (λz=>decide (keyOf y=keyOf z)) then Gw out l else Gw out l++[y]:=by
 induction l generalizing out with
 |nil=>simp only[BT,Gw];split<;>simp_all
 |cons z l ih=>
  rw[CJ,Gw,Gw];split;.exact ih
  .exact ih
def aF9(y c:A3)(h:Ai):B9 cx 271 [.agg c.row,.BR y.row] h (.bool (decide (keyOf y=keyOf c))) h:=by
 rw[Ag,xI,aCu,A3.row,A3.row];simp only[Cf];refine⟨λh1=>?_,λh1=>?_⟩;.congr 2;rw[C9];simp[keyOf,h1]
 .rw[Ak (λe=>h1 (by simp[keyOf] at e;exact e.1))]
def ĵ{F v:Aa}{l:List A3}{q:A3->Bool}(hv:Mx h v l)(hb:l.length<=1000000000)(hF:jP F h q):B9 cx 159 [v,F] h (.bool (l.any q)) h:=by
 obtain⟨f,caps,rfl,hf,hr⟩:=hF;have key:B9 cx 216 [v,.func (.func f) [] caps] h (I (Cc q 0 l)) h:=by
  rw[Ag,Vt,rp];simp only[Cf,hv.len];refine BM (λn:Nat=>[I 0,I (n:Int)]) (λn h1=>n<=l.length/\Cc q 0 l=Cc q n (l.drop n)/\h1=h) (λn=>l.length-n) 0 rfl ⟨A7 _,rfl,rfl⟩ ?_;rintro n h1 ⟨Ù,ha,rfl⟩;rcases Bi n l.length with hlt|GX
  .have i1:(n:Int)<(l.length:Int):=by omega
   obtain⟨p,d,c⟩:=hv.at_ n hlt;rw[Ay hlt,Cc] at ha;simp only[Cf,↓reduceIte,CC,bK,hf,i1,d,c,(hr l[n]).Ac,CI (Ab:n<9223372036854775807)];rw[Da];refine⟨λhe=>?_,λhe=>?_⟩;.rw[ha,Af he]
   .rw[Ad (by simp[he])] at ha;exact Bq.next (n+1) rfl ⟨hlt,ha,rfl⟩ Ab
  .have i1:¬(n:Int)<(l.length:Int):=by omega
   rw[AT GX,Cc] at ha;simp only[abS,↓reduceIte,CC,i1,ha]
 rw[Ag,cU,Â];simp only[Cf,key.Ac];congr 2
 rcases Gu (p:=q) (l:=l) (k:=0) with⟨h1,h2⟩|⟨n,y,h1,h2,b⟩
 .rw[h1,gu];have:=IJ.1 h2;simpa using this
 .rw[h1,gu,Al Ab,J0];exact⟨y,Ht b,KZ b⟩
def Ķ{l:List A3}{v:Aa}(hv:Mx h v l)(hb:l.length<=1000000000)(hs:∀y∈l,BS.LW y.A6):B9 cx 232 [v] h (.tuple [U9 (C8 l),.bool true]) h:=by
 rw[Ag,wM,aB9];simp only[Cf,hv.len];refine BM (λk:Nat=>[.slnil,.bool false,U9 (C8 (l.take k)),I (k:Int)]) (λk h1=>k<=l.length/\h1=h) (λk=>l.length-k) 0 rfl ⟨A7 _,rfl⟩ ?_;rintro k h1 ⟨hk,rfl⟩;rcases Bi k l.length with hlt|GX
 .have i1:(k:Int)<(l.length:Int):=by omega
  obtain⟨p,p1,p2⟩:=hv.at_ k hlt;have inc:=CI (Ab:k<9223372036854775807);have hsp:=hs _ (AY hlt);have g:=Ĵ (h:=h1) (y:=l[k].A6);have hF:jP (.func (.func 271) [] [.BR l[k].row]) h1 (λc=>decide (keyOf l[k]=keyOf c)):=⟨_,_,rfl,AM,λc=>aF9 l[k] c h1⟩;have yh:(C8 (l.take k)).length<=1000000000:=by have:=Sl (l:=l.take k);rw[AB] at this;omega
  have r2:=ĵ (Xt Sy) yh hF;have e:C8 (l.take (k+1))=if(C8 (l.take k)).any (λz=>decide (keyOf l[k]=keyOf z)) then C8 (l.take k) else C8 (l.take k)++[l[k]]:=by rw[AQ hlt];exact Xv
  have d:=Bv.Zw (f:=A3.row) (a:=l[k]) (b:=40) (Sy (l:=C8 (l.take k))) (by have:=Sl (l:=l.take k);rw[AB] at this;have:AO=140737488355328:=rfl;omega);have em:Az (.Ch 3) [.agg l[k].row]=some (.sl 3 [l[k].row]):=rfl;rw[<-db] at d;rw[A3.row] at r2 em d p2;simp only[abS,Nat.reduceLeDiff,↓reduceIte,i1,p1,p2,Gk,g.Ac,Al hsp,r2.Ac,em,d,inc];rw[Da];refine⟨λh2=>?_,λh2=>?_⟩;.exact Bq.next (k+1) (by rw[e,Ad (by simpa using h2)]) ⟨hlt,rfl⟩ Ab
  .exact Bq.next (k+1) (by rw[e,Af (by simpa using h2)]) ⟨hlt,rfl⟩ Ab
 .have i1:¬(k:Int)<(l.length:Int):=by omega
  simp only[abS,↓reduceIte,i1,A8 GX]
def aGa{l:List A3}{v:Aa}(w:PA h a n m ps A)(f:Mh A)(hx:A.has x)(hk:(A.nd x).kind=4)(hv:Mx h v l)(hb:l.length<=1000000000)(hs:∀y∈l,BS.LW y.A6):
  ∃h' Mi,B9 cx 161 [Pt a 0,I x,v] h (I 0) h'/\PA h' a n m Mi (A.LY x l)/\Ew h (λi=>i∈Fu a n m ps) h' (λi=>i∈Fu a n m Mi):=by
 have hp:=(w.pn hx).2.1;have d:=Ķ hv hb hs;obtain⟨h2,c,b,j,e,g⟩:=w.wr hx (k:=6) AM (v:=U9 (C8 l)) (Bv.cells Sy) (p:=⟨{A.nd x with Au:=C8 l},(pN ps x).kv,U9 (C8 l),rfl⟩) (by simp only[PN.row];rw[hp];rfl) rfl rfl;refine⟨h2,_,?_,b,w.xW b j e g⟩;rw[Ag,uO,aBj];simp only[abS,Gk,(Rk (x:=x) w).Ac,Af hx,Cy,Cn,(Ij w f hx).Ac,w.f0 hx,hk,d.Ac,c]
def aGb(w:PA h a n m ps A)(hx:A.has x):B9 cx 239 [Pt n (nP n x)] h (.bool (decide (fB (A.nd x)))) h:=by rw[Ag,wU,aCg];simp only[abS,w.f0 hx,w.f4 hx,w.f5 hx,fB];refine⟨λh1=>⟨λh2=>?_,λh2=>?_⟩,λh1=>?_⟩<;>simp[*]
def Ql(x:Int×Int):Aa×Aa:=(I x.1,I x.2)
def dP{k:Int}:∀{l:List (Int×Int)} {i:Nat},(l.find? (λx=>decide (k=x.1))=none->K5 k (l.map Ql) i=some none)/\∀y,l.find? (λx=>decide (k=x.1))=some y->∃j,K5 k (l.map Ql) i=some (some (j,I y.2))
 |[],i=>⟨λ_=>rfl,λy h=>by cases h⟩
 |z::l,i=>by
  have ih:=dP (k:=k) (l:=l) (i:=i+1);simp only[A9,Ql,K5,Hv];by_cases e:k=z.1;.simp only[e,GS,BE];exact⟨λh=>(by cases h),λy h=>⟨i,by cases h;rfl⟩⟩
  .simp only[e,E8,DU];exact ih
def Pu.get{f:Int->Int}(w:Pu h m f)(k:Int):DS (.gx (I 0) true) h [.map m,I k]=some (h,if f k=0 then .tuple [I 0,.bool false] else .tuple [I (f k),.bool true]):=by
 rcases w with⟨rfl,h0⟩|⟨id,l,rfl,hc,hl,_⟩
 .rw[Af (h0 k)];rfl
 .have hl:=hl k;have hm:=dP (k:=k) (l:=l) (i:=0);simp only[DS,qZ,hc];by_cases h0:f k=0
  .rw[Af h0] at hl⊢;have e:l.find? (λx=>decide (k=x.1))=none:=by
    cases hf:l.find? (λx=>decide (k=x.1)) with
    |none=>rfl
    |some y=>rw[hf] at hl;cases hl
   have:=hm.1 e;unfold Ql at this;rw[this];rfl
  .rw[Ad h0] at hl⊢;cases hf:l.find? (λx=>decide (k=x.1)) with
   |none=>rw[hf] at hl;cases hl
   |some y=>rw[hf] at hl;simp only[By,Bx] at hl;obtain⟨j,e⟩:=hm.2 y hf;unfold Ql at e;rw[e,<-hl];rfl
def xX{id:Nat}{l:List (Int×Int)}{k v:Int}(hc:h[id]?=some (.map (l.map Ql)))(hn:l.find? (λx=>decide (k=x.1))=none):
  ∃h1,DS (.Nt (I 0)) h [.map (some id),I k]=some (h1,.tuple [I 0,I l.length])/\∃h2,DS .J5 h1 [.map (some id),I l.length,I v]=some (h2,.bool true)/\h2=h.set id (.map ((l++[(k,v)]).map Ql)):=by
 have HV:=(Aj.1 hc).1;have hm:=(dP (k:=k) (l:=l) (i:=0)).1 hn;refine⟨h.set id (.map (l.map Ql++[(I k,I 0)])),?_,_,?_,rfl⟩;.simp only[DS,Ve,hc,hm,By,Av]
 .have c:(h.set id (.map (l.map Ql++[(I k,I 0)])))[id]?=some (.map (l.map Ql++[(I k,I 0)])):=AE HV;have b:(l.map Ql++[(I k,I 0)])[l.length]?=some (I k,I 0):=by rw[BI Ax];simp
  simp only[DS,RC,c,BD,b];rw[Af Ab,lL,B5 _ _ Ax];simp[Ql]
def PA.aGc(w:PA h a n m ps A):∀i∈m.toList++ps.filterMap (λp=>Hp p.kv),i<h.length/\i≠a/\i≠n:=by
 intro i hi;have h1:i∈Fu a n m ps:=by unfold Fu;simp only[AG];exact .inr (.inr hi)
 have b:=w.nd;unfold Fu at b;simp only[B3,AG,Oi] at b;exact⟨w.lt i h1,λe=>b.1.2 (e▸hi),λe=>b.2.1 (e▸hi)⟩
def PA.aGd(w:PA h a n m ps A){h1:Ai}{m':Option Nat}{A':Ar}(g:A'.n=A.n)(f:A'.i.length=A'.n.length)(ha:h1[a]?=some (.cells [.C3 n 0 ps.length 13,.map m']))(ho:∀i,i<h.length->i≠a->m≠some i->h1[i]?=h[i]?)(hm:m'=m\/∃j,m'=some j/\h.length<=j)(b:Pu h1 m' A'.inr):PA h1 a n m' ps A':=by
 have nd:=w.nd;have dO:=nd;unfold Fu at dO;simp only[B3,AG,Oi] at dO;have hnm:m≠some n:=λe=>dO.2.1 (by simp[e]);refine⟨by rw[g];exact w.e,f,ha,?_,?_,?_,b⟩;.rw[ho n (w.lt n (by simp[Fu])) (Dx dO.1.1) hnm];exact w.hn
 .intro p hp;refine(w.ks p hp).DQ λid HV=>?_;have h1:id∈ps.filterMap (λp=>Hp p.kv):=Cb.2 ⟨p,hp,HV⟩;have h2:=w.aGc id (Ap.2 (.inr h1));exact ho id h2.1 h2.2.1 λe=>(BN.1 dO.2.2).2.2 id (by simp[e]) id h1 rfl
 .rcases hm with rfl|⟨j,rfl,hj⟩
  .exact nd
  .have d:∀i∈ps.filterMap (λp=>Hp p.kv),i<h.length:=λi hi=>(w.aGc i (Ap.2 (.inr hi))).1;have l:=w.lt a (by simp[Fu]);have k:=w.lt n (by simp[Fu]);have c:=(BN.1 dO.2.2).2.1;unfold Fu;simp only[B3,AG,aM6,CJ,BT,Oi];exact⟨⟨dO.1.1,Ab,λhm=>dO.1.2 (Ap.2 (.inr hm))⟩,⟨Ab,λhm=>dO.2.1 (Ap.2 (.inr hm))⟩,λhm=>by have:=d j hm;omega,c⟩
def Xw{l:List (Int×Int)}{k v:Int}(hk:SA l)(hn:l.find? (λx=>decide (k=x.1))=none)(h1:Yj k=true)(h2:Yj v=true):SA (l++[(k,v)]):=by
 refine⟨?_,λp hp=>?_⟩;.rw[BU,BN];refine⟨hk.1,Ax,λa ha b hb e=>?_⟩;obtain⟨x,hx,rfl⟩:=A4.1 ha;have c:=IJ.1 hn x hx;simp only[A9,Dw,Bd] at hb;exact c (by simpa using(e.trans hb).symm)
 .rcases Ap.1 hp with h|h
  .exact hk.2 p h
  .simp only[Bd] at h;subst h;exact⟨h1,h2⟩
def xY(hb:A.len<=1000000000)(hx:A.has x):Yj x=true:=by have:=hx.1;have:=hx.2;unfold Ar.len at hb;unfold Yj;simp;omega
def aGe{i:Nat}(hm:m=some i):i∈Fu a n m ps:=by unfold Fu;simp[hm]
def PA.aGf(w:PA h a n m ps A){l:List (Int×Int)}{id:Nat}(s:m=some id)(hc:h[id]?=some (.map (l.map Ql)))(hl:∀k,(l.find? λx=>decide (k=x.1)).map (·.2)=if A.inr k=0 then none else some (A.inr k))(ok:SA l)(hb:A.len<=1000000000){d i:Int}(hd:A.has d)(hi:A.has i)(c:d≠i)(h0:A.inr d=0)(Ě:A.inr i=0):
  ∃h1 h2 q,DS (.Nt (I 0)) h [.map m,I d]=some (h1,.tuple [I 0,I l.length])/\DS .J5 h1 [.map m,I l.length,I i]=some (h2,.bool true)/\
   DS (.Nt (I 0)) h2 [.map m,I i]=some (q,.tuple [I 0,I ((l.length+1:Nat):Int)])/\∃o,DS .J5 q [.map m,I ((l.length+1:Nat):Int),I i]=some (o,.bool true)/\PA o a n m ps ((A.Ni d i).Ni i i)/\(∀j,j≠id->o[j]?=h[j]?)/\o.length=h.length:=by
 subst s;have HV:=(Aj.1 hc).1;have b:∀k,A.inr k=0->l.find? (λx=>decide (k=x.1))=none:=by
  intro k hk;have:=hl k;rw[Af hk] at this;cases hf:l.find? (λx=>decide (k=x.1)) with
  |none=>rfl
  |some y=>rw[hf] at this;cases this
 obtain⟨h1,D,h2,C,rfl⟩:=xX (v:=i) hc (b d h0);have KX:(h.set id (.map ((l++[(d,i)]).map Ql)))[id]?=some (.map ((l++[(d,i)]).map Ql)):=AE HV;obtain⟨q,z,o,u,rfl⟩:=xX (k:=i) (v:=i) KX (by rw[QL,b i Ě];simp[Dx c]);simp only[Aq,Bl] at z u;refine⟨h1,_,q,D,C,z,_,u,?_,?_,Ax⟩
 .have g:id≠a:=λe=>by have:=w.nd;unfold Fu at this;simp[e] at this
  refine w.aGd (m':=some id) (A':=(A.Ni d i).Ni i i) rfl ?_ ?_ ?_ (.inl rfl) ?_;.simp only[Ar.Ni];split<;>split<;>simp[w.il]
  .rw[Ao g,Ao g];exact w.ha
  .intro j hj B t;have:id≠j:=λe=>t (by rw[e]);rw[Ao this,Ao this]
  .refine .inr ⟨id,l++[(d,i)]++[(i,i)],rfl,?_,λk=>?_,Xw (Xw ok (b d h0) (xY hb hd) (xY hb hi)) (by rw[QL,b i Ě];simp[Dx c]) (xY hb hi) (xY hb hi)⟩;.rw[AE (by simpa using HV)];rfl
   .have r:(A.Ni d i).i.length=(A.Ni d i).n.length:=by simp only[Ar.Ni];split<;>simp[w.il]
    rw[WZ r,WZ w.il,QL,QL];have ki:(A.Ni d i).has i:=hi;have hk:=hl k;have ķ:i≠0:=by have:=hi.1;omega
    cases hf:l.find? (λx=>decide (k=x.1)) with
    |some y=>
     rw[hf] at hk;have ß:A.inr k≠0:=by intro e;rw[Af e] at hk;cases hk
     have p:k≠i:=λe=>ß (e▸Ě);have f:k≠d:=λe=>ß (e▸h0);simp only[p,f,ň,DU,Option.some_or];exact hk
    |none=>
     rw[hf] at hk;have ß:A.inr k=0:=by
      by_cases e:A.inr k=0;.exact e
      .rw[Ad e] at hk;cases hk
     by_cases f:k=d;.subst f;simp[c,hd,ķ]
     .by_cases p:k=i;.subst p;simp[f,ki,ķ]
      .simp[p,f,ß]
 .intro j hj;rw[Ao (Dx hj),Ao (Dx hj)]
def aGg(w:PA h a n m ps A)(D:Mh A)(hb:A.len+1<=1000000000)(hx:A.has x):
  ∃h' n' m' Mi,B9 cx 240 [Pt a 0,I x] h (I (A.HO x)) h'/\PA h' a n' m' Mi (A.EH x)/\Ew h (λi=>i∈Fu a n m ps) h' (λi=>i∈Fu a n' m' Mi):=by
 have l1:Bj h none (Pt a 1)=some (.map m):=by simp only[Bj,w.ha];rfl
 have g1:=w.mp.get x;by_cases h0:A.inr x=0
 .obtain⟨h1,y,w1,C,d⟩:=aK2 w D hb false;have f:=w.Qb (p:=J4 false (A.len+1)) rfl C d;have r:A.HO x=A.len+1:=by unfold Ar.HO;rw[Ad (by simp[h0])]
  have s:A.EH x=((A.add {kind:=1,CK:=A.len+1}).Ni x (A.len+1)).Ni (A.len+1) (A.len+1):=by unfold Ar.EH;rw[Ad (by simp[h0])]
  have à:∀k,(A.add {kind:=1,CS:=false,CK:=A.len+1}).inr k=A.inr k:=λk=>Vp w.il;have Rw:(A.add {kind:=1,CS:=false,CK:=A.len+1}).has x:=D8.2 (.inl hx);have xh:(A.add {kind:=1,CS:=false,CK:=A.len+1}).has (A.len+1):=D8.2 (.inr rfl);have hne:=Xg hx;have Ě:A.inr (A.len+1)=0:=by unfold Ar.inr;rw[Ad Rb]
  have z:Bj h1 none (Pt a 1)=some (.map m):=by simp only[Bj,w1.ha];rfl
  rw[Af h0] at g1;have S7:(A.add {kind:=1,CS:=false,CK:=A.len+1}).len<=1000000000:=by rw[NS];exact hb
  rcases w1.mp with⟨rfl,hz⟩|⟨id,l,rfl,hc,hl,ho⟩
  .have mc:=w1.ha;have aM:a<h1.length:=w1.lt a (by simp[Fu]);have RV:(h1++[ED.map []])[a]?=some (.cells [.C3 h.length 0 (ps++[J4 false (A.len+1)]).length 13,.map none]):=by rw[An aM];exact mc
   have es:CL (h1++[ED.map []]) 1 (Pt a 1) (.map (some h1.length))=some ((h1++[ED.map []]).set a (.cells [.C3 h.length 0 (ps++[J4 false (A.len+1)]).length 13,.map (some h1.length)])):=by simp only[CL,RV];rfl
   have mh:((h1++[ED.map []]).set a (.cells [.C3 h.length 0 (ps++[J4 false (A.len+1)]).length 13,.map (some h1.length)]))[a]?=some (.cells [.C3 h.length 0 (ps++[J4 false (A.len+1)]).length 13,.map (some h1.length)]):=AE Ei;have K:Bj ((h1++[ED.map []]).set a (.cells [.C3 h.length 0 (ps++[J4 false (A.len+1)]).length 13,.map (some h1.length)])) none (Pt a 1)=some (.map (some h1.length)):=by simp only[Bj,mh];rfl
   have yq:((h1++[ED.map []]).set a (.cells [.C3 h.length 0 (ps++[J4 false (A.len+1)]).length 13,.map (some h1.length)]))[h1.length]?=some (.map (([]:List (Int×Int)).map Ql)):=by rw[Ao Ab,BI (Ae _),Dy];rfl
   have B:PA ((h1++[ED.map []]).set a (.cells [.C3 h.length 0 (ps++[J4 false (A.len+1)]).length 13,.map (some h1.length)])) a h.length (some h1.length) (ps++[J4 false (A.len+1)]) (A.add {kind:=1,CS:=false,CK:=A.len+1}):=by refine w1.aGd rfl w1.il mh (λi hi c _=>by rw[Ao (Dx c),An hi]) (.inr ⟨_,rfl,Ae _⟩) (.inr ⟨h1.length,[],rfl,yq,λk=>by rw[Af (hz k)];rfl,JQ,λp hp=>nomatch hp⟩)
   obtain⟨H,G,E,q,o,j,v,g,t,u,b⟩:=B.aGf rfl yq (λk=>by rw[Af (hz k)];rfl) ⟨JQ,λp hp=>nomatch hp⟩ S7 Rw xh hne ((à x).trans h0) ((à _).trans Ě);refine⟨v,_,_,_,?_,s▸t,⟨by rw[b];simp;omega,λi hi eX=>?_,λi hi=>?_⟩⟩;.simp only[Bt] at q o j g;rw[Ag,Vu,rq,r];simp only[Cf,l1,g1,y.Ac,z,show Az (.Ga false .mp) [.map none,.map none]=some (.bool true) from rfl,es,K,q,o,j,g]
   .have J:=f.old i hi eX;have c:i≠a:=λe=>eX (by simp[Fu,e]);rw[u i Ab,Ao (Dx c),An Ab,J]
   .unfold Fu at hi;simp only[AG,aM6,CJ,BT] at hi;rcases hi with rfl|rfl|rfl|hi
    .exact .inl (by simp[Fu])
    .exact .inr (Ae _)
    .exact .inr Ab
    .exact f.BK i (by unfold Fu;simp only[AG,Option.toList_none,BT];exact .inr (.inr hi))
  .obtain⟨H,G,E,q,o,j,v,g,t,u,b⟩:=w1.aGf rfl hc hl ho S7 Rw xh hne ((à x).trans h0) ((à _).trans Ě);refine⟨v,_,_,_,?_,s▸t,⟨Ab,λi hi eX=>?_,f.BK⟩⟩;.rw[Ag,Vu,rq,r];simp only[Cf,l1,g1,y.Ac,z,show Az (.Ga false .mp) [.map (some id),.map none]=some (.bool false) from rfl,q,o,j,g]
   .rw[u i (λe=>eX (e▸aGe rfl))];exact f.old i hi eX
 .have r:A.HO x=A.inr x:=by unfold Ar.HO;rw[Af h0]
  have s:A.EH x=A:=by unfold Ar.EH;rw[Af h0]
  refine⟨h,n,m,ps,?_,by rw[s];exact w,.refl⟩;rw[Ad h0] at g1;rw[Ag,Vu,rq,r];simp only[Cf,l1,g1]
def Mh.aGh(b:Mh A)(h1:A.len+1<=1000000000):Mh (A.EH x):=by
 unfold Ar.EH;split;.exact b
 .have:=b.add (y:={kind:=1,CK:=A.len+1}) h1 Ax Ax;exact⟨this.n,this.at_,this.data⟩
def dd(hk:A.has x){d:Int}:(A.EH d).nd x=A.nd x:=Xc (.inl (Xg hk))
def aGi{l:List A3}{v:Aa}{d sp:Int}{nm:Ah}(w:PA h a n m ps A)(B:Mh A)(hb:A.len+3<=1000000000)(hd:A.has d/\(A.nd d).kind=1)(hsp:BS.LW sp)(hv:Bb l v)(hl:l.length<=1000000000)(hs:∀y∈l,BS.LW y.A6):
  ∃h' n' m' Mi,B9 cx 173 [Pt a 0,I d,I sp,.str nm,v] h (.tuple [I (A.len+1),I 0]) h'/\PA h' a n' m' Mi (A.elem d sp nm l)/\Ew h (λi=>i∈Fu a n m ps) h' (λi=>i∈Fu a n' m' Mi)/\Mh (A.elem d sp nm l):=by
 have rP:=w.len;have t:=Ķ (h:=h) (Xt hv) hl hs;obtain⟨u,hu⟩:∃u,u=U9 (C8 l):=⟨_,rfl⟩;rw[<-hu] at t;have fw:(C8 l).length<=1000000000:=by have:=Sl (l:=l);omega
 have b:=Ĵ (h:=h) (y:=sp);rw[Al hsp] at b;obtain⟨h1,O,w1,R,l1⟩:=tg w Ab ⟨{kind:=4,CK:=d,A6:=sp,name:=nm,Au:=C8 l},.slnil,u,hu⟩ rfl rfl;have ı:=B.add (y:={kind:=4,CK:=d,A6:=sp,name:=nm,Au:=C8 l}) Ab fw Ax;have Rw:(A.add {kind:=4,CK:=d,A6:=sp,name:=nm,Au:=C8 l}).has (A.len+1):=D8.2 (.inr rfl);have RP:(A.add {kind:=4,CK:=d,A6:=sp,name:=nm,Au:=C8 l}).nd (A.len+1)={kind:=4,CK:=d,A6:=sp,name:=nm,Au:=C8 l}:=by rw[Lb,Af rfl]
 have G:=w.Qb (p:=⟨{kind:=4,CK:=d,A6:=sp,name:=nm,Au:=C8 l},.slnil,u,hu⟩) rfl R l1;have Ĳ:B9 cx 143 [Pt a 0,.agg [I 4,I 0,.slnil,I d,I sp,.str nm,u,.str [],.str [],.str [],.bool false,I 0,I 0]] h (I (A.len+1)) h1:=O;have r2:=Ij w1 ı Rw;have f:=aGb w1 Rw;rw[RP] at f;have hc:u.cells=[u]:=by rw[hu];exact Bv.cells Sy
 unfold Ar.elem;simp only
 by_cases q:fB {kind:=4,CK:=d,A6:=sp,name:=nm,Au:=C8 l}
 .rw[Af q];rw[Al q] at f;have D:(A.add {kind:=4,CK:=d,A6:=sp,name:=nm,Au:=C8 l}).has d:=D8.2 (.inl hd.1);obtain⟨h2,V,W,tj,N,r,J⟩:=aGg w1 ı (by rw[NS];omega) D;have z:=ı.aGh (x:=d) (by rw[NS];omega);have lS:((tj.length:Nat):Int)=((A.add {kind:=4,CK:=d,A6:=sp,name:=nm,Au:=C8 l}).EH d).len:=r.len;have jT:((A.add {kind:=4,CK:=d,A6:=sp,name:=nm,Au:=C8 l}).EH d).len<=A.len+2:=by rw[bz,NS];split<;>omega
  obtain⟨U,M,e,Q,l3⟩:=tg r Ab ⟨{kind:=2,EG:=A.len+1,CK:=(A.add {kind:=4,CK:=d,A6:=sp,name:=nm,Au:=C8 l}).HO d},.slnil,.slnil,rfl⟩ rfl rfl;obtain⟨g,C⟩:∃g,g=tj++[⟨{kind:=2,EG:=A.len+1,CK:=(A.add {kind:=4,CK:=d,A6:=sp,name:=nm,Au:=C8 l}).HO d},.slnil,.slnil,rfl⟩]:=⟨_,rfl⟩;have E:=r.Qb (p:=⟨{kind:=2,EG:=A.len+1,CK:=(A.add {kind:=4,CK:=d,A6:=sp,name:=nm,Au:=C8 l}).HO d},.slnil,.slnil,rfl⟩) rfl Q l3;rw[<-C] at e E;have j:=z.add (y:={kind:=2,EG:=A.len+1,CK:=(A.add {kind:=4,CK:=d,A6:=sp,name:=nm,Au:=C8 l}).HO d}) Ab Ax Ax;have s:B9 cx 143 [Pt a 0,.agg [I 2,I 0,.slnil,I ((A.add {kind:=4,CK:=d,A6:=sp,name:=nm,Au:=C8 l}).HO d),I 0,.str [],.slnil,.str [],.str [],.str [],.bool false,I 0,I (A.len+1)]] h2 _ U:=M;have Yl:=Nj (h:=d) Rw;have c:=D8 (x:={kind:=2,EG:=A.len+1,CK:=(A.add {kind:=4,CK:=d,A6:=sp,name:=nm,Au:=C8 l}).HO d}).2 (.inl Yl);have o:(((A.add {kind:=4,CK:=d,A6:=sp,name:=nm,Au:=C8 l}).EH d).add {kind:=2,EG:=A.len+1,CK:=(A.add {kind:=4,CK:=d,A6:=sp,name:=nm,Au:=C8 l}).HO d}).nd (A.len+1)={kind:=4,CK:=d,A6:=sp,name:=nm,Au:=C8 l}:=by rw[LZ Yl,dd Rw,RP]
  have L:=Ij e j c;have hp:=(e.pn c).2.1;rw[o] at hp;obtain⟨T,K,H,S,P,l4⟩:=e.wr c (k:=11) AM (v:= I (((A.add {kind:=4,CK:=d,A6:=sp,name:=nm,Au:=C8 l}).EH d).len+1)) rfl (p:=⟨{kind:=4,CK:=d,A6:=sp,name:=nm,Au:=C8 l,cont:=((A.add {kind:=4,CK:=d,A6:=sp,name:=nm,Au:=C8 l}).EH d).len+1},(pN g (A.len+1)).kv,(pN g (A.len+1)).av,by have:=(pN g (A.len+1)).ok;rw[hp] at this;exact this⟩) (by simp only[PN.row];rw[hp];rfl) rfl (by rw[o]);refine⟨T,_,_,_,?_,H,G.trans (J.trans (E.trans (e.xW H S P l4))),j.set fw Ax⟩;rw[Ag,cV,Ã];simp only[abS,Nat.reduceLeDiff,↓reduceIte,Br,(jR (x:=d) w B).Ac,Af hd.1,Af hd.2,Cy,Cn,t.Ac,Gk,b.Ac,hc,Ĳ.Ac,r2.Ac,f.Ac,N.Ac,s.Ac,L.Ac,K]
 .rw[Ad q];rw[Ak q] at f;refine⟨h1,_,_,_,?_,w1,G,ı⟩;rw[Ag,cV,Ã];simp only[abS,Nat.reduceLeDiff,↓reduceIte,Br,(jR (x:=d) w B).Ac,Af hd.1,Af hd.2,Cy,Cn,t.Ac,Gk,b.Ac,hc,Ĳ.Ac,r2.Ac,f.Ac]
def ZI{U:Type}{p q:U->Bool}{y:U}:∀{l:List U},(∀x∈l,p x=true->q x=true)->y∈l->p y=false->q y=true->(l.filter p).length<(l.filter q).length
 |[],_,h,_,_=>by cases h
 |x::l,hi,hy,hp,hq=>by
  have le:∀{l:List U},(∀x∈l,p x=true->q x=true)->(l.filter p).length<=(l.filter q).length:=by
   intro l;induction l with
   |nil=>intro _;simp
   |cons z l ih=>
    intro hi;have:=ih λx hx=>hi x (by simp[hx]);rw[GW,GW];split;.rename_i hz;rw[Af (hi z Ax hz)];simp;exact this
    .split;.simp;omega
     .exact this
  have hl:=λx (hx:x∈l)=>hi x (by simp[hx]);rw[GW,GW];rcases AG.1 hy with rfl|hy
  .rw[Ad (by simp[hp]),Af hq];have:=le hl;simp;omega
  .have ih:=ZI hl hy hp hq;split;.rename_i hz;rw[Af (hi x Ax hz)];simp;exact ih
   .split;.simp;omega
    .exact ih
def pJ{r:Int->Nat}{k y:Int}(hr:∀h,A.has h->A.up h≠0->r (A.up h)<r h)(hR:Reach A k y)(hy:A.has y):r k<=r y:=by
 induction hR with
 |refl=>exact Ae _
 |@step z h1 h2 ih=>
  by_cases hz:A.has (A.up z);.have:=ih hz;have:=hr z hy h1;omega
  .cases h2 with
   |refl=>have:=hr z hy h1;omega
   |step b _=>exact absurd (Xa hz) b
open Classical in
def pK{e:Int}(ok:EZ A e):∃r:Int->Nat,(∀h,A.has h->A.up h≠0->r (A.up h)<r h)/\∀h,r h<=A.n.length:=by
 obtain⟨r,hr⟩:=ok.iV;refine⟨λh=>((List.range A.n.length).filter λ(i:Nat)=>decide (Reach A ((i:Int)+1) h/\(i:Int)+1≠h)).length,λh b hu=>?_,λh=>?_⟩
 .have Ĭ:=oJ ok b hu;have Qz:=Ĭ;unfold Ar.has at Qz;have c:(((A.up h).toNat-1:Nat):Int)+1=A.up h:=Ab;refine ZI (y:=(A.up h).toNat-1) (λi _ hi=>?_) (List.mem_range.2 Ab) ?_ ?_;.rw[B0] at hi⊢;refine⟨.step hu hi.1,λe=>?_⟩;have h1:=pJ hr hi.1 Ĭ;have h2:=hr h b hu;rw[e] at h1;omega
  .rw[c];simp
  .rw[c,B0];exact⟨.step hu .refl,ģ ok b hu⟩
 .have:=List.length_filter_le (λ(i:Nat)=>decide (Reach A ((i:Int)+1) h/\(i:Int)+1≠h)) (List.range A.n.length);rwa [List.length_range] at this
def PA.cell(w:PA h a n m ps A)(hx:A.has x){k:Nat}(hk:k<13):(ps.map PN.row).flatten[0+(x.toNat-1)*13+k]?=(pN ps x).row[k]?:=by rw[BJ];exact Pv (jQ ps) hk (by rw[Cd,(w.pn hx).1];rfl)
open Classical in
def Xx(w:PA h a n m ps A){up:Int}{r:Int->Nat}{e:Int}(ok:EZ A e)(hr:∀h,A.has h->A.up h≠0->r (A.up h)<r h)(Ĭ:up≠0):∀(fuel:Nat) (x:Int),(x=0\/(A.has x/\r x<fuel))->Lg (ps.map PN.row).flatten 0 ps.length up fuel x=some (decide (Reach A up x))
 |fuel,x,hx=>by
  by_cases h0:x=0
  .subst h0;have no:¬Reach A up 0:=by
    intro hR;cases hR with
    |refl=>exact Ĭ rfl
    |step h1 _=>exact h1 (Xa (by unfold Ar.has;omega))
   rw[Ak no];cases fuel<;>rfl
  .have hx:=hx.resolve_left h0;cases fuel with
   |zero=>omega
   |succ fuel=>
    have d:Lg (ps.map PN.row).flatten 0 ps.length up (fuel+1) x=if x=up then some true else if 1<=x/\x<=ps.length then
      match Gq (ps.map PN.row).flatten 0 x 1,Gq (ps.map PN.row).flatten 0 x 12 with
      |some p,some q=>Lg (ps.map PN.row).flatten 0 ps.length up fuel (if p=0 then q else p)
      |_,_=>none
     else none:=by
     rw[Lg];.rfl
     .exact λh=>h0 h
    rw[d];by_cases ğ:x=up;.rw[Af ğ,ğ,Al .refl]
    .rw[Ad ğ,Af (by have:=hx.1;have:=w.sy;unfold Ar.has at*;omega)];have g:Gq (ps.map PN.row).flatten 0 x 1=some (A.nd x).Hi:=by unfold Gq;rw[w.cell hx.1 AM,<-(w.pn hx.1).2.1];rfl
     have f:Gq (ps.map PN.row).flatten 0 x 12=some (A.nd x).EG:=by unfold Gq;rw[w.cell hx.1 AM,<-(w.pn hx.1).2.1];rfl
     rw[g,f];simp only
     have c:(if(A.nd x).Hi=0 then(A.nd x).EG else(A.nd x).Hi)=A.up x:=by unfold Ar.up;by_cases h:(A.nd x).Hi=0<;>simp[h]
     rw[c];have ih:=Xx w ok hr Ĭ fuel (A.up x) (by
      by_cases hu:A.up x=0;.exact .inl hu
      .exact .inr ⟨oJ ok hx.1 hu,by have:=hr x hx.1 hu;omega⟩)
     rw[ih];congr 1
     rw[C9];constructor
     .intro h1;by_cases hu:A.up x=0
      .rw[hu] at h1;cases h1 with
       |refl=>exact absurd rfl Ĭ
       |step b _=>exact absurd (Xa (by unfold Ar.has;omega)) b
      .exact .step hu h1
     .intro h1;cases h1 with
      |refl=>exact absurd rfl ğ
      |step _ h2=>exact h2
open Classical in
def aGj{up e:Int}(w:PA h a n m ps A)(ok:EZ A e)(hu:A.has up)(hx:A.has x):B9 cx 179 [Pt a 0,I up,I x] h (.bool (decide (Reach A up x))) h:=by
 obtain⟨r,hr,b⟩:=pK ok;have Qj:=w.sy;have hc:=Xx w ok hr (up:=up) (by have:=hu.1;omega) (ps.length+1) x (.inr ⟨hx,by have:=b x;omega⟩);have c:DS (.S8 M9) h [Pt a 0,I up,I x]=some (h,.bool (decide (Reach A up x))):=by simp only[DS,M9,w.ha,w.hn];rw[Af (by rw[ta];omega),Af (by unfold Ar.has at hu hx;omega),hc];rfl
 rw[Ag,show B4 cx 179 [Pt a 0,I up,I x]=Na [Pt a 0,I up,I x] from rfl,Na];simp only[Cf,c]
structure N4(h:Ai)(v:Aa)(l:List Int):Prop where
 len:Az (.len false) [v]=some (I (l.length:Int))
 at_:∀k (hk:k<l.length),∃p,Az (.FA 1) [v,I (k:Int)]=some p/\Bj h none p=some (I l[k])
def JJ.Vb{kv:Aa}{l:List Int}(hk:JJ h kv l):N4 h kv l:=by
 refine⟨hk.len,λk hlt=>?_⟩;rcases hk with⟨rfl,rfl⟩|⟨id,cs,rfl,hc⟩
 .simp at hlt
 .refine⟨Pt id k,by have:=Fe (id:=id) (z:=1) (k:= .i64) hlt;rwa [FW] at this,?_⟩;simp only[Bj,hc,Gr];rw[An (by simpa using hlt)];simp[hlt]
def GI.Vb{v:Aa}{l:List Int}(hv:GI l v):N4 h v l:=⟨Bv.F0 hv,λk hk=>⟨_,Bv.Df hv hk,rfl⟩⟩
def aCH{v:Aa}{l:List Int}(hv:N4 h v l)(hb:l.length<=1000000000)(x:Int):B9 cx 150 [v,I x] h (I (Cc (λy=>decide (x=y)) 0 l)) h:=by
 rw[Ag,uF,aBa];simp only[Cf,hv.len];refine BM (λk:Nat=>[I 0,I (k:Int)]) (λk h1=>k<=l.length/\Cc (λy=>decide (x=y)) 0 l=Cc (λy=>decide (x=y)) k (l.drop k)/\h1=h) (λk=>l.length-k) 0 rfl ⟨A7 _,rfl,rfl⟩ ?_;rintro k h1 ⟨hk,ha,rfl⟩;rcases Bi k l.length with hlt|GX
 .have i1:(k:Int)<(l.length:Int):=by omega
  obtain⟨p,c,b⟩:=hv.at_ k hlt;rw[Ay hlt,Cc] at ha;simp only[abS,i1,c,b,CI (Ab:k<9223372036854775807)];refine⟨λh2=>?_,λh2=>?_⟩;.rw[ha,Af (by simpa using h2)]
  .rw[Ad (by simpa using h2)] at ha;exact Bq.next (k+1) rfl ⟨hlt,ha,rfl⟩ Ab
 .have i1:¬(k:Int)<(l.length:Int):=by omega
  rw[AT GX,Cc] at ha;simp only[abS,i1,ha]
def dQ{l:List Int}{x:Int}(hx:x∈l):∃k,k<l.length/\Cc (λy=>decide (x=y)) 0 l=(k:Int)/\l[k]?=some x/\l.takeWhile (λy=>decide (y≠x))=l.take k/\l.dropWhile (λy=>decide (y≠x))=l.drop k:=by
 have key:∀(l:List Int) (s:Nat),x∈l->∃k,k<l.length/\Cc (λy=>decide (x=y)) s l=((s+k:Nat):Int)/\l[k]?=some x/\l.takeWhile (λy=>decide (y≠x))=l.take k/\l.dropWhile (λy=>decide (y≠x))=l.drop k:=by
  intro l;induction l with
  |nil=>intro s h;cases h
  |cons z l ih=>
   intro s h;by_cases e:x=z;.subst e;exact⟨0,Ax,by rw[Cc,Af Ax];simp,rfl,Ax,Ax⟩
   .have h2:x∈l:=(AG.1 h).resolve_left e;obtain⟨k,d,c,b,i,g⟩:=ih (s+1) h2;have f:z≠x:=λj=>e j.symm;refine⟨k+1,by simp;exact d,by rw[Cc,Ad (by simpa using e),c];congr 1;omega,by simpa using b,?_,?_⟩;.rw[List.takeWhile_cons,Af (by simpa using f),i];rfl
    .rw[List.dropWhile_cons,Af (by simpa using f),g];rfl
 obtain⟨k,d,c,b⟩:=key l 0 hx;exact⟨k,d,by simpa using c,b⟩
def SB{l:List Int}{x:Int}{k:Nat}(hn:l.Nodup)(hk:l[k]?=some x):l.take k++l.drop (k+1)=l.filter λy=>decide (y≠x):=by
 obtain⟨hlt,e⟩:=Aj.1 hk;have c:l=l.take k++x::l.drop (k+1):=by conv=>lhs;rw[<-Cw k l,Ay hlt,e]
 rw[c,BN,B3] at hn;conv=>rhs;rw[c,EK,GW,Ad Ax]
 rw[YO.2 (λy hy=>by simpa using λb:y=x=>hn.2.2 y hy x Ax b),YO.2 (λy hy=>by simpa using λb:y=x=>hn.2.1.1 (b▸hy))]
def aCI{id l k:Nat}(hl:0<l)(hk:k<=l):Az (.OM 1 false false true) [.C3 id 0 l 1,I (k:Int)]=some (.C3 id 0 k 1):=by
 have b:Ey (k:Int) l=some k:=by unfold Ey;rw[Af Ab];rfl
 simp[Az,IY,Dz,b];omega
def aCJ{id l k:Nat}(hk:k<=l):Az (.OM 1 false true false) [.C3 id 0 l 1,I (k:Int)]=some (if k<l then .C3 id k (l-k) 1 else .sl 1 []):=by
 have b:Ey (k:Int) l=some k:=by unfold Ey;rw[Af Ab];rfl
 simp[Az,IY,Dz,b];split<;>rfl
def aGk{id k:Nat}{l:List Int}{cs:List Aa}(hc:h[id]?=some (.cells (l.map (Aa.int .i64)++cs)))(hk:k<l.length)(hb:l.length<=1000000000):
  ∃GB,B9 cx 244 [.C3 id 0 l.length 1,I (k:Int),I ((k+1:Nat):Int)] h (.C3 id 0 (l.length-1) 1) (h.set id (.cells ((l.take k++l.drop (k+1)).map (Aa.int .i64)++GB))):=by
 have HV:=(Aj.1 hc).1;have b:(l.take k++l.drop (k+1)).length=l.length-1:=by rw[Aq,AB,Bg];omega
 obtain⟨RU,p,hcl⟩:∃RU,GP h 1 8 (.C3 id 0 k 1) (if k+1<l.length then .C3 id (k+1) (l.length-(k+1)) 1 else .sl 1 [])=some (h.set id (.cells ((l.take k++l.drop (k+1)).map (Aa.int .i64)++RU)),.C3 id 0 (l.length-1) 1)/\1<=RU.length:=by
  have g:Ha h 1 (if k+1<l.length then .C3 id (k+1) (l.length-(k+1)) 1 else .sl 1 [])=some ((l.drop (k+1)).map DN):=by
   by_cases YX:k+1<l.length;rotate_left;.rw[Ad YX,AT Ab];rfl
   rw[Af YX];have d:=MT (l:=l.drop (k+1)) (cs:=cs) (Tm:=(l.take (k+1)).map (Aa.int .i64));rw[<-AS,<-BU,Cw] at d;simp only[Av,AB,Bg] at d;rw[CE Ab] at d;simp only[Ha,BE,hc,d];rw[Af Ei]
  by_cases aGl:k+1=l.length
  .refine⟨I l[k]::cs,?_,Ax⟩;have j:l.drop (k+1)=[]:=AT Ab;rw[j] at g⊢;have f:l.map (Aa.int .i64)++cs=(l.take k++[]).map (Aa.int .i64)++ I l[k]::cs:=by
    have:l=l.take k++[l[k]]:=by conv=>lhs;rw[<-Cw k l,Ay hk,j]
    conv=>lhs;rw[this,BU,AS]
    rw[BB];rfl
   have o:h.set id (.cells ((l.take k++[]).map (Aa.int .i64)++ I l[k]::cs))=h:=by rw[<-f];obtain⟨lS,u⟩:=Aj.1 hc;rw[<-u,Jd]
   simp only[GP,g,Dw,BE];rw[o,(Ab:l.length-1=k)]
  .obtain⟨y,c,hd⟩:∃y c,l.drop (k+1)=y::c:=⟨_,_,Ay (Ab:k+1<l.length)⟩;have jT:(y::c).length=l.length-(k+1):=by rw[<-hd,Bg]
   rw[hd] at g;have aGm:∀l3:List Int,(l3.map DN).flatten=l3.map (Aa.int .i64):=by
    intro l3;induction l3 with
    |nil=>rfl
    |cons z l3 ih=>simp[DN,ih]
   refine⟨(l.map (Aa.int .i64)++cs).drop (l.length-1),?_,Ei⟩;simp only[GP,g,A9,hc,BE];have t:(DN y::c.map DN).length=l.length-(k+1):=by rw[<-jT];simp
   have s:(DN y::c.map DN).flatten=(y::c).map (Aa.int .i64):=by have:=aGm (y::c);simpa using this
   rw[t,s,Af Ei];have r:(l.map (Aa.int .i64)++cs).take (0+k*1)=(l.take k).map (Aa.int .i64):=by rw[BJ,FW,Du Ei,HQ]
   rw[r,hd,(Ab:0+(k+(l.length-(k+1)))*1=l.length-1),(Ab:k+(l.length-(k+1))=l.length-1)];simp
 generalize ĸ:h.set id (.cells ((l.take k++l.drop (k+1)).map (Aa.int .i64)++RU))=h2 at p;have KX:h2[id]?=some (.cells ((l.take k++l.drop (k+1)).map (Aa.int .i64)++RU)):=by rw[<-ĸ];exact AE HV
 have j:DS (.zA 1 true true) h2 [.C3 id 0 (l.length-1) 1,I ((l.length-1:Nat):Int),I (l.length:Int)]=some (h2,.C3 id (l.length-1) 1 1):=by
  simp only[DS,fH,KX];have pL:((l.take k++l.drop (k+1)).map (Aa.int .i64)++RU).length=l.length-1+RU.length:=by rw[Aq,Av,b]
  have v:Ey (l.length:Int) ((((l.take k++l.drop (k+1)).map (Aa.int .i64)++RU).length-0)/1)=some l.length:=by unfold Ey;rw[Af (by rw[pL];omega)];rfl
  have d:Ey ((l.length-1:Nat):Int) l.length=some (l.length-1):=by unfold Ey;rw[Af Ab];rfl
  rw[Af ⟨trivial,trivial,A7 _⟩];simp only[Dz,v,d,Cm,By];rw[Af (by rw[pL];omega)];congr 3
  .omega
  .omega
 have q:DS (.clear 1 [I 0]) h2 [.C3 id (l.length-1) 1 1]=some (h.set id (.cells ((l.take k++l.drop (k+1)).map (Aa.int .i64)++(I 0::RU.drop 1))),.bool true):=by
  simp only[DS,VE,KX];rw[Af ⟨trivial,rfl,by rw[Aq,Av,b];omega⟩];congr 2
  rw[<-ĸ,lL];congr 2
  have f:(((l.take k++l.drop (k+1)).map (Aa.int .i64)++RU).take (l.length-1))=(l.take k++l.drop (k+1)).map (Aa.int .i64):=IX (by rw[Av,b]);have o:(((l.take k++l.drop (k+1)).map (Aa.int .i64)++RU).drop (l.length-1+1*1))=RU.drop 1:=by rw[show l.length-1+1*1=((l.take k++l.drop (k+1)).map (Aa.int .i64)).length+1 by rw[Av,b],SV];simp
  rw[f,o];simp
 refine⟨I 0::RU.drop 1,?_⟩;have e:∀i n,Az (.len false) [.C3 i 0 n 1]=some (I (n:Int)):=λ_ _=>rfl;have f:DS (.lZ 1) h [.C3 id 0 l.length 1,I (k:Int),I ((k+1:Nat):Int),I (l.length:Int)]=some (h,.bool true):=by simp only[DS,VF];simp;omega
 rw[Ag,wV,aCh];simp only[abS,e,f,(Ab:¬(k:Int)=((k+1:Nat):Int)),aCI (id:=id) (Ab:0<l.length) (Ab:k<=l.length),aCJ (id:=id) (Ab:k+1<=l.length),p,j,q]
def tk:∀{n:Nat} {l:List Int},l.Nodup->(∀x∈l,1<=x/\x<=n)->l.length<=n
 |0,l,_,h=>by
  cases l with
  |nil=>simp
  |cons x l=>have:=h x Ax;omega
 |n+1,l,hn,h=>by
  have ih:=tk (n:=n) (l:=l.filter λx=>decide (x≠(n:Int)+1)) (hn.filter _) (λx hx=>by
   have h1:=Dg.1 hx;have h2:=h x h1.1;have c:x≠(n:Int)+1:=by simpa using h1.2
   omega)
  have key:∀{l:List Int},l.Nodup->l.length<=(l.filter λx=>decide (x≠(n:Int)+1)).length+1:=by
   intro l hl;induction l with
   |nil=>simp
   |cons x l ih=>
    rw[B3] at hl;rw[GW];by_cases e:x=(n:Int)+1;.rw[Ad (by simp[e]),YO.2 (λy hy=>by simpa using λb:y=(n:Int)+1=>hl.1 (by rw[e,<-b];exact hy))];simp
    .rw[Af (by simpa using e)];have:=ih hl.2;simp only[AJ];omega
  have:=key hn;omega
def tl{e:Int}(ok:EZ A e)(x:Int):(A.nd x).Bw.length<=A.n.length:=by
 by_cases hx:A.has x;.refine tk (ok.Uw x hx).gj λk hk=>?_;exact(ok.PZ x hx k hk).1
 .rw[Ov hx];exact A7 _
def Mh.Bw{e:Int}(b:Mh A)(ok:EZ A e)(x:Int):(A.nd x).Bw.length<=1000000000:=Bp (tl ok x) b.n
def Mh.aK9{l:List Int}(b:Mh A):Mh (A.set x {A.nd x with Bw:=l}):=b.set (b.at_ x) (b.data x)
def Mh.aLa{p:Int}(b:Mh A):Mh (A.set x {A.nd x with Hi:=p}):=b.set (b.at_ x) (b.data x)
def Mh.cut(b:Mh A):Mh (A.cut x):=by
 unfold Ar.cut;simp only;split;.exact b
 .exact Mh.aLa b.aK9
def Ĺ{e:Int}(w:PA h a n m ps A)(f:Mh A)(ok:EZ A e)(hx:A.has x):
  ∃h' Mi,B9 cx 180 [Pt a 0,I x] h (.tuple []) h'/\PA h' a n m Mi (A.cut x)/\Ew h (λi=>i∈Fu a n m ps) h' (λi=>i∈Fu a n m Mi):=by
 have hb:=f.Bw ok;by_cases hp:(A.nd x).Hi=0
 .have s:A.cut x=A:=by unfold Ar.cut;simp only;rw[Af hp]
  refine⟨h,ps,?_,by rw[s];exact w,.refl⟩;rw[Ag,cZ,Ç];simp only[abS,(Ij w f hx).Ac,w.f1 hx,hp]
 .obtain⟨hq,hk⟩:=ok.Hi x hx hp;generalize c:(A.nd x).Hi=q at*;have hne:q≠x:=by rw[<-c];exact oK ok hx (by rw[c];exact hp)
  obtain⟨k,j,H,B,_,_⟩:=dQ hk;have PZ:=w.PZ hq;have g:=aCH PZ.Vb (hb q) x;rw[H] at g;rcases o:PZ with⟨_,e0⟩|⟨id,cs,b,hc⟩
  .rw[e0] at j;simp at j
  clear o;rw[b] at g;obtain⟨GB,r2⟩:=aGk hc j (hb q);rw[SB (ok.Uw q hq).gj B] at r2;have Y3:(A.nd q).Bw.length-1=((A.nd q).Bw.filter λy=>decide (y≠x)).length:=by rw[<-SB (ok.Uw q hq).gj B,Aq,AB,Bg];omega
  rw[Y3] at r2;have yr:=(Aj.1 hc).1;have l:=(w.pn hq).2.1;generalize Ŧ:h.set id (.cells (((A.nd q).Bw.filter λy=>decide (y≠x)).map (Aa.int .i64)++GB))=h1 at r2;have aGn:id∈Fu a n m ps:=KK (w.pn hq).2.2 (by rw[b];rfl);have aLb:id≠n:=by intro d;have:=w.nd;unfold Fu at this;simp only[B3,AG,Oi] at this;exact this.2.1 (d▸Ap.2 (.inr (Cb.2 ⟨_,(w.pn hq).2.2,by rw[b];rfl⟩)))
  have aQT:id≠a:=by intro d;have:=w.nd;unfold Fu at this;simp only[B3,AG,Oi] at this;exact this.1.2 (d▸Ap.2 (.inr (Cb.2 ⟨_,(w.pn hq).2.2,by rw[b];rfl⟩)))
  obtain⟨p1,pM⟩:∃p1:PN,p1=⟨{A.nd q with Bw:=(A.nd q).Bw.filter λy=>decide (y≠x)},.C3 id 0 ((A.nd q).Bw.filter λy=>decide (y≠x)).length 1,(pN ps q).av,w.att hq⟩:=⟨_,rfl⟩;have aGo:p1.row=(pN ps q).row.set 2 (.C3 id 0 ((A.nd q).Bw.filter λy=>decide (y≠x)).length 1):=by rw[pM];simp only[PN.row];rw[l];rfl
  have t:h1[n]?=h[n]?:=by rw[<-Ŧ,Ao aLb]
  have u:=w.sto hq (k:=2) AM (v:= .C3 id 0 ((A.nd q).Bw.filter λy=>decide (y≠x)).length 1) rfl aGo t;have aGp:Hp p1.kv=Hp (pN ps q).kv:=by rw[pM,b];rfl
  have w1:=w.fq hq (p:=p1) (h1:=h1) (λi _ hi=>by rw[<-Ŧ,Ao];intro d;exact hi (by rw[b,d];rfl)) (by rw[pM];exact .inr ⟨id,GB,rfl,by rw[<-Ŧ];exact AE yr⟩) (.inl aGp)
  have ĺ:=xV w hq aGp;generalize ĸ:h1.set n (.cells ((ps.set (q.toNat-1) p1).map PN.row).flatten)=h2 at u w1;generalize aQU:ps.set (q.toNat-1) p1=Yz at w1 ĺ;have r:p1.x={A.nd q with Bw:=(A.nd q).Bw.filter λy=>decide (y≠x)}:=by rw[pM]
  rw[r] at w1;have Rw:(A.set q {A.nd q with Bw:=(A.nd q).Bw.filter λy=>decide (y≠x)}).has x:=I1.2 hx;have gp:=(w1.pn Rw).2.1;have RP:(A.set q {A.nd q with Bw:=(A.nd q).Bw.filter λy=>decide (y≠x)}).nd x=A.nd x:=by rw[JF,Ad (λh=>hne h.1.symm)]
  obtain⟨J,D,C,i3,E,l3⟩:=w1.wr Rw (k:=1) AM (v:= I 0) rfl (p:=⟨{A.nd x with Hi:=0},(pN Yz x).kv,(pN Yz x).av,by have:=(pN Yz x).ok;rw[gp,RP] at this;exact this⟩) (by simp only[PN.row];rw[gp,RP];rfl) rfl (B2 GQ.Bw RP).symm;have s:A.cut x=(A.set q {A.nd q with Bw:=(A.nd q).Bw.filter λy=>decide (y≠x)}).set x {A.nd x with Hi:=0}:=by unfold Ar.cut;simp only;rw[c,Ad hp,RP]
  refine⟨J,_,?_,by rw[s];exact C,?_⟩;.have inc:=CI (show k<9223372036854775807 by have:=hb q;omega);rw[Ag,cZ,Ç];simp only[abS,(Ij w f hx).Ac,(Ij w f hq).Ac,w.f1 hx,c,hp,w.f2 hq,b,g.Ac,inc,r2.Ac,u,D]
  .have aQV:h2.length=h.length:=by rw[<-ĸ,BV,<-Ŧ,BV]
   refine⟨Ab,λi hi eX=>?_,λi hi=> .inl (by rw[i3,ĺ] at hi;exact hi)⟩;have z:i≠n:=λd=>eX (d▸by simp[Fu]);have G:i≠id:=λd=>eX (d▸aGn);rw[E i z,<-ĸ,Ao (Dx z),<-Ŧ,Ao (Dx G)]
end
end Go.Am
end
