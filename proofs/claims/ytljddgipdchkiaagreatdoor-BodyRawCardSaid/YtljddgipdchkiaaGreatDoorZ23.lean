/- Lemmas -/
import Derived.Test.YtljddgipdchkiaaGreatDoorZ19
import Derived.Test.YtljddgipdchkiaaGreatDoorZ20
import Derived.Test.YtljddgipdchkiaaGreatDoorZ21
import Derived.Test.YtljddgipdchkiaaGreatDoorZ22
import Derived.Test.YtljddgipdchkiaaGreatDoorZ18
set_option linter.all false
set_option maxHeartbeats 0
set_option maxRecDepth 100000
section
namespace Go.Am
open Go
abbrev mc:=List Aa->Option IT
def iH(g:IT):mc:=λl=>match l with
 |[]=>some (g)
 |_=>none
def Dg(g:Aa->IT):mc:=λl=>match l with
 |[a0]=>some (g a0)
 |_=>none
def C1(g:Aa->Aa->IT):mc:=λl=>match l with
 |[a0,a1]=>some (g a0 a1)
 |_=>none
def Jr(g:Aa->Aa->Aa->IT):mc:=λl=>match l with
 |[a0,a1,a2]=>some (g a0 a1 a2)
 |_=>none
def nK(g:Aa->Aa->Aa->Aa->IT):mc:=λl=>match l with
 |[a0,a1,a2,a3]=>some (g a0 a1 a2 a3)
 |_=>none
def â(g:Aa->Aa->Aa->Aa->Aa->IT):mc:=λl=>match l with
 |[a0,a1,a2,a3,a4]=>some (g a0 a1 a2 a3 a4)
 |_=>none
def Xs(f:Nat)(g:mc):Prop:=∀l t,g l=some t->t=Cd cx f l
def Tn{f:Nat}{g:IT}(h:Cd cx f []=g):Xs f (iH g):=by
 intro l t ht;unfold iH at ht;split at ht;.cases ht;exact(h).symm
 .cases ht
def BR{f:Nat}{g:Aa->IT}(h:∀a0,Cd cx f [a0]=g a0):Xs f (Dg g):=by
 intro l t ht;unfold Dg at ht;split at ht;.cases ht;exact(h _).symm
 .cases ht
def BH{f:Nat}{g:Aa->Aa->IT}(h:∀a0 a1,Cd cx f [a0,a1]=g a0 a1):Xs f (C1 g):=by
 intro l t ht;unfold C1 at ht;split at ht;.cases ht;exact(h _ _).symm
 .cases ht
def EF{f:Nat}{g:Aa->Aa->Aa->IT}(h:∀a0 a1 a2,Cd cx f [a0,a1,a2]=g a0 a1 a2):Xs f (Jr g):=by
 intro l t ht;unfold Jr at ht;split at ht;.cases ht;exact(h _ _ _).symm
 .cases ht
def Xt{f:Nat}{g:Aa->Aa->Aa->Aa->IT}(h:∀a0 a1 a2 a3,Cd cx f [a0,a1,a2,a3]=g a0 a1 a2 a3):Xs f (nK g):=by
 intro l t ht;unfold nK at ht;split at ht;.cases ht;exact(h _ _ _ _).symm
 .cases ht
def me{f:Nat}{g:Aa->Aa->Aa->Aa->Aa->IT}(h:∀a0 a1 a2 a3 a4,Cd cx f [a0,a1,a2,a3,a4]=g a0 a1 a2 a3 a4):Xs f (â g):=by
 intro l t ht;unfold â at ht;split at ht;.cases ht;exact(h _ _ _ _ _).symm
 .cases ht
def Ŀ:List (Nat×mc):=[(12,C1 t12),(13,Dg t13),(14,Dg t14),(15,Dg t15),(20,Dg t20),(26,Dg t26),(27,C1 t27),(28,C1 t28),(29,C1 t29),(30,C1 t30),(31,C1 t31),(32,C1 t32),(33,C1 t33),(34,C1 t34),(35,C1 t35),(36,C1 t36),(51,iH t51),(52,C1 t52),(53,Dg t53),(54,C1 t54),(57,iH t57),(58,C1 t58),(60,C1 t60),(65,C1 t65),(67,Jr t67),(68,C1 t68),(69,C1 t69),(70,Jr t70),(71,Jr t71),(72,Dg t72),(73,Dg t73),(74,C1 t74),(75,C1 t75),(76,Dg t76),(77,Jr t77),(78,Dg t78),(79,Dg t79),(80,Dg t80),(82,Dg t82),(83,Dg t83),(84,C1 t84),(85,nK t85),(105,C1 aBP),(106,iH aGu),(107,Dg aGv),(108,Jr aGw),(109,C1 t109),(110,â aGx),(111,nK bQ),(112,Dg aGy),(113,C1 aGz),(114,C1 aGA),(115,Dg aGB),(116,C1 aGC),(117,C1 aGD),(118,Dg zG),(119,Jr aGE),(120,Dg aGF),(121,iH aGG),(122,iH aGH),(123,C1 aGI),(124,Dg aGJ),(125,Dg aGK),(146,Dg t146),(147,Dg xe),(153,C1 xk),(158,C1 xl),(159,nK zH),(160,C1 aBR),(161,Jr aBS),(162,C1 aBT),(163,C1 xm),(169,nK xt),(170,C1 aBV),(171,C1 xu),(172,C1 aBW),(173,C1 aBX),(174,C1 aBY),(175,Jr aBZ),(176,Jr aB0),(177,Jr aB1),(178,Jr aB2),(179,C1 aB3),(180,C1 aB4),(181,Dg lz),(182,Dg aB5),(183,Dg aB6),(184,C1 aB7),(185,C1 xw),(186,C1 aB8),(187,Dg aB9),(188,C1 aCa),(189,C1 iG),(190,Jr aCb),(191,C1 xy),(192,C1 aCc),(193,Jr aCd),(194,C1 aCe),(195,Dg aCf),(196,Jr aCg),(197,Dg aCh),(198,Dg aCi),(199,Jr aCj),(200,Dg aCk),(201,C1 aCl),(202,C1 aCm),(203,C1 aCn),(204,Dg aCo),(205,â xz),(206,C1 x_),(233,Dg aCs),(234,C1 aCt),(235,Jr aCu),(236,C1 aCv),(238,C1 yx),(240,C1 aCw),(241,C1 aHk),(242,C1 aHl),(243,C1 aCx),(244,C1 y_),(245,Jr aHm),(246,Dg aHn),(247,Dg aHo),(248,Dg aHp),(249,Dg aHq),(250,Dg aHr),(251,Dg aHs),(252,Dg aHt),(253,Dg aHu),(254,Dg aHv),(255,Dg aHw),(256,Dg aHx),(257,Dg aHy),(258,Dg aHz),(259,Dg aHA),(260,Dg aHB),(261,Dg aHC),(262,Dg aHD),(263,Dg aHE),(264,Dg aHF),(265,Dg aHG),(266,Dg aHH),(267,Dg aHI),(268,Dg aHJ),(269,Dg aHK),(270,Dg aHL),(271,Dg aHM),(272,Dg aHN),(273,Dg aHO),(274,Dg aHP),(275,Dg aHQ),(296,Dg aCz),(305,C1 aCA),(306,C1 P_),(307,C1 aCB),(308,Jr aCC),(309,C1 l_),(310,Dg aCD),(311,C1 aCE),(317,C1 aCG),(318,C1 aCH),(319,Dg aCI),(320,Dg aCJ),(321,C1 U_),(322,Jr aCK),(323,C1 aCL),(324,C1 aCM),(325,Dg aCN),(326,C1 aCO),(327,C1 aCP),(328,C1 aCQ),(329,C1 aCR),(330,C1 aCS),(331,Jr aCT),(332,Jr aCU),(333,C1 aCV),(334,nK aCW),(335,Jr aCX),(336,Jr aCY),(337,iH aCZ),(338,C1 aC0),(339,Dg aC1),(340,C1 aC2),(341,Dg aC3),(342,Dg aC4),(343,Dg aC5),(344,C1 aC6),(345,Dg aC7),(346,Dg aC8),(347,C1 ma),(360,Dg aDa),(361,C1 Æ),(363,Jr aDb),(366,Dg aDc),(367,C1 aIe),(368,Dg aDd),(369,C1 aDe),(370,C1 aIf),(371,Dg aIg),(372,Dg aIh),(373,C1 aIi),(374,Jr aIj),(375,C1 aIk),(376,Dg aIl),(377,C1 aIm),(378,C1 aIn),(387,Dg Ö),(396,C1 aDf),(397,C1 aDg),(399,C1 aDh),(400,C1 aDi),(401,C1 aDj),(402,C1 Ù),(403,Dg mb),(404,Jr aDk),(405,Jr aDl),(406,C1 aDm),(407,Jr Ú),(408,Jr Û),(409,C1 aDn),(410,Dg aDo),(413,C1 aDp),(414,Jr Þ),(417,Dg aDq),(425,C1 aDr),(426,Dg aDs),(427,Dg aDt),(428,C1 aDu),(429,Dg aDv),(430,C1 aIy),(100125,Dg vE),(100147,Dg Vz),(200118,Dg vF)]
def mf:List (Nat×mc)->Prop
 |[]=>True
 |(f,g)::l=>Xs f g/\mf l
def mg:mf Ŀ:=
 ⟨BH aBb,BR aBc,BR aBd,BR aBe,BR aBj,BR ke,BH aBk,BH aBl,BH aBm,BH aBn,BH aBo,BH aBp,BH aBq,BH aBr,BH Tm,BH aBt,Tn aBy,BH aBz,BR aBA,BH kf,Tn kg,BH nA,BH kh,BH ki,EF kj,BH kq,BH Xr,EF nB,EF ku,BR nC,BR kx,BH ky,BH nD,BR kz,EF nE,BR bN,BR k_,BR la,BR bO,BR lf,BH lg,Xt nF,BH q8,Tn vo,BR vp,EF vq,BH q9,me vr,Xt MS,BR vt,BH vu,BH vw,BR vy,BH vz,BH v_,BR Sl,EF wc,BR we,Tn wg,Tn wh,BH wj,BR wk,BR wm,BR rB,BR bS,BH bT,BH bU,Xt Sn,BH rC,EF rD,BH rE,BH bV,Xt bX,BH rG,BH bY,BH rH,BH rI,BH rJ,EF rK,EF rL,EF rM,EF rN,BH rO,BH rP,BR Vv,BR rQ,BR rR,BH rS,BH bZ,BH rT,BR rU,BH rV,BH Ol,EF rW,BH cA,BH rX,EF rY,BH rZ,BR sB,EF sC,BR sD,BR sE,EF sF,BR sG,BH sH,BH sI,BH sJ,BR sK,me cB,BH cC,BR sP,BH sQ,EF sR,BH sS,BH cD,BH sT,BH yy,BH yz,BH sU,BH cE,EF za,BR zb,BR zc,BR zd,BR ze,BR zf,BR zg,BR zh,BR zi,BR zj,BR zk,BR zl,BR zm,BR zn,BR zo,BR zp,BR zq,BR zr,BR zt,BR zu,BR zw,BR zx,BR zy,BR z_,BR A_,BR B_,BR C_,BR D_,BR E_,BR F_,BR G_,BR sW,BH sX,BH cF,BH sY,EF sZ,BH Vw,BR tC,BH tD,BH tF,BH tG,BR tH,BR tI,BH cG,EF tJ,BH tK,BH tL,BR tM,BH tN,BH tO,BH tP,BH tQ,BH tR,EF tS,EF tT,BH tU,Xt tV,EF tW,EF tX,Tn tY,BH tZ,BR uA,BH uB,BR uC,BR uD,BR uE,BH uF,BR uG,BR uH,BH Vx,BR uJ,BH cH,EF uK,BR uL,BH Ç,BR uM,BH uN,BH È,BR É,BR Ê,BH Ë,EF Ì,BH Í,BR Î,BH Ï,BH Ð,BR cI,BH uO,BH uP,BH uQ,BH uR,BH uS,BH cJ,BR Vy,EF uT,EF uU,BH uV,EF cK,EF cL,BH uW,BR uX,BH uY,EF cM,BR uZ,BH u9,BR vA,BR vB,BH vC,BR vD,BH á,BR nI,BR Rc,BR nJ,trivial⟩
def ã(f:Nat):List (Nat×mc)->List Aa->Option IT
 |[],_=>none
 |(k,g)::l,args=>if Nat.beq k f then g args else ã f l args
def vG{f:Nat}{args:List Aa}{t:IT}:∀{l:List (Nat×mc)},mf l->ã f l args=some t->t=Cd cx f args
 |[],_,h=>by cases h
 |(k,g)::l,ha,h=>by
  simp only[ã] at h;split at h;.rename_i hk;have hk:k=f:=MX hk;subst hk;exact ha.1 _ _ h
  .exact vG ha.2 h
noncomputable def ŀ(f:FuncId)(args:List Aa):IT:=match ã f Ŀ args with
 |some t=>t
 |none=>Cd cx f args
def Rd:ŀ=Cd cx:=by
 funext f args;unfold ŀ;split;.rename_i t h;exact vG mg h
 .rfl
def Xu:Option J1->Bool
 |some (.ret,[.bool true],_)=>true
 |_=>false
def Yy{r:Option J1}(h:Xu r=true):∃h',r=some (.ret,[.bool true],h'):=by
 unfold Xu at h;split at h;.exact⟨_,rfl⟩
 .cases h
end Go.Am
end
section
namespace Go.Am
open Go
section
def aNx(s:Aq):Ks cx 325 [.str s] (.bool (decide (s∈Gs))):=by rw[M5,tM];rw[show aCN (.str s)=sw s (.ret .ret [tt]) (.ret .ret [ff]) Gs from rfl,je];exact⟨λh=>by simp[h],λh=>by simp[h]⟩
section
variable{Q:HB}{h:Ah}{k:Aa->IT}{s:Aq}
@[simp] theorem mh:W cx (.Bk 325 [.str s] k) Q h↔W cx (k (.bool (decide (s∈Gs)))) Q h:=(aNx s).Bk rfl rfl
end
def aNy(s:Aq):Ks cx 342 [.str s] (.bool (decide (s∈JV\/s∈Gs))):=by rw[M5,uD];rw[show aC4 (.str s)=sw s (.ret .ret [tt]) (.Bk 325 [.str s] λv=> .ret .ret [v]) JV from rfl,je];exact⟨λh=>by simp[h],λh=>by simp[h]⟩
def aNz(n:Int)(s:Aq):Ks cx 329 [I n,.str s] (.bool (decide (n=3/\s∈KH))):=by
 rw[M5,tQ,aCR];by_cases h:n=3;.simp[h,KH];by_cases h1:s=[109,105]<;>by_cases h2:s=[109,110]<;>by_cases b:s=[109,111]<;>by_cases a:s=[109,115]<;>simp[h1,h2,b,a]
 .simp[h]
section
variable{Q:HB}{h:Ah}{k:Aa->IT}{s:Aq}{n:Int}
@[simp] theorem mi:W cx (.Bk 342 [.str s] k) Q h↔W cx (k (.bool (decide (s∈JV\/s∈Gs)))) Q h:=(aNy s).Bk rfl rfl
@[simp] theorem aIz:W cx (.Bk 329 [I n,.str s] k) Q h↔W cx (k (.bool (decide (n=3/\s∈KH)))) Q h:=(aNz n s).Bk rfl rfl
end
def aIA(n:Int)(s:Aq):Ks cx 186 [I n,.str s] (.bool (Ew n s)):=by
 rw[M5,rT];rw[show aB8 (I n) (.str s)= .op (.int .eql) [I n,I 3] λv=> .AE v (.op (.str .eql) [.str s,S aWg] λv=> .AE v (.ret .ret [tt]) (.Bk 329 [I n,.str s] λv=> .ret .ret [v]))
  (.op (.int .eql) [I n,I 2] λv=> .AE v (sw s (.ret .ret [tt]) (.op (.str .eql) [.str s,S aWV] λv=> .ret .ret [v]) [aXg,aWu])
  (.op (.int .eql) [I n,I 1] λv=> .AE v (sw s (.ret .ret [tt]) (.ret .ret [ff]) Ny) (.ret .ret [ff]))) from rfl]
 by_cases a:n=3;.by_cases h:s=aWg<;>simp[a,Ew,h]
 .by_cases h2:n=2;.by_cases ha:s=aXg<;>by_cases hb:s=aWu<;>simp[h2,je,Ew,P0,ha,hb]
  .by_cases h1:n=1;.by_cases h:s∈Ny<;>simp[h1,je,Ew,h]
   .simp[a,h2,h1,Ew]
section
variable{Q:HB}{h:Ah}{k:Aa->IT}{s:Aq}{n:Int}
@[simp] theorem Xv:W cx (.Bk 186 [I n,.str s] k) Q h↔W cx (k (.bool (Ew n s))) Q h:=(aIA n s).Bk rfl rfl
end
end
section
def f277(s:Aq)(c:UInt8)(hs:s.length<9223372036854775807):Ks cx 285 [.str s,.int .u8 (c.toNat:Int)] (.bool (decide (c∈s))):=by
 rw[M5,L_,aHV];refine Bj (λn:Nat=>[.bool false,I (n:Int)]) (λn _=>n<=s.length/\c∉s.take n) (λn=>s.length-n) 0 rfl ⟨AU _,AK⟩ ?_;rintro n h ⟨hn,hc⟩;rcases AO n s.length with hlt|Ef
 .simp only[BJ,Fw hlt,BQ (Ab:n<9223372036854775807)];refine⟨λ_=>⟨λhe=>?_,λhe=>?_⟩,λh=>absurd (Int.ofNat_lt.2 hlt) h⟩
  .have e:s[n]=c:=by rw[<-Uv];exact ė he
   simp only[AI (show c∈s from e▸AN hlt)]
  .refine AM.next (n+1) rfl ⟨hlt,?_⟩ Ab;rw[Ay hlt,Av,M9];refine⟨hc,λh=>he ?_⟩;rw[DA] at h;rw[<-h]
 .simp only[BJ];refine⟨λh=>absurd (Int.ofNat_lt.1 h) Ab,λ_=>?_⟩;rw[AD Ef] at hc;simp[hc]
def aIB(l s:Aq)(hl:l.length<9223372036854775806)(hs:s.length<9223372036854775807):Ks cx 139 [.str l,.str s] (.bool (Gt l s)):=by
 rw[M5,xa,aGO];have aNA:Ks cx 285 [.str s,.int .u8 32] (.bool (decide ((32:UInt8)∈s))):=f277 s 32 hs;simp only[BJ,aNA.Bk rfl rfl];refine⟨λh=>by simp[Gt,h],λh0=>⟨λh=>by simp[Gt,h],λh1=>?_⟩⟩;refine Bj (λp:Nat×Nat=>[.bool false,I (p.1:Int),I (p.2:Int)])
  (λp _=>(p.1<=p.2/\p.2<=l.length/\(s∈Dq [] l↔s∈Dq ((l.take p.2).drop p.1) (l.drop p.2)))\/(p.2=l.length+1/\s∉Dq [] l)) (λp=>l.length+1 -p.2) (0,0) rfl (.inl ⟨Ag _,AU _,AK⟩) ?_
 rintro⟨a,n⟩ h aDw;rcases aDw with⟨X7,hn,Xw⟩|⟨hn,X4⟩
 .simp only at X7 hn Xw;have i1:(n:Int)<=(l.length:Int):=Ab;rcases AO n l.length with hlt|Ef
  .have b:¬(n:Int)=(l.length:Int):=by omega
   simp only[BJ,i1,b,Ax,Aw,forall_const,An,Fw hlt,BQ (Ab:n<9223372036854775807),Md X7 hn];rw[AF hlt,Pl] at Xw;refine⟨λhe=>?_,λhe=>?_⟩
   .have e:l[n]=32:=by rw[<-Uv];exact ė he
    rw[Ae e,AS] at Xw;refine⟨λhw=>?_,λhw=>?_⟩;.have:s∈Dq [] l:=Xw.2 (.inl hw.symm);simp[Gt,h0,h1,this]
    .refine AM.next (n+1,n+1) rfl (.inl ⟨Ag _,hlt,?_⟩) Dp;rw[Xw,OK];exact⟨λh=>h.resolve_left (λh=>hw h.symm),.inr⟩
   .have e:¬l[n]=32:=λe=>he (by rw[e];rfl);rw[Ac e] at Xw;refine AM.next (a,n+1) rfl (.inl ⟨Dp,hlt,?_⟩) Dp;rw[Xw,WT X7 hlt]
  .have e:n=l.length:=by omega
   subst e;simp only[BJ,Gy,Ax,An,Ap,Md X7 hn,BQ (Ab:l.length<9223372036854775807)];rw[AW (Ag _),Qy] at Xw;rw[DA] at Xw;refine⟨λhw=>?_,λhw=>?_⟩;.have:s∈Dq [] l:=Xw.2 hw.symm;simp[Gt,h0,h1,this]
   .exact AM.next (l.length+1,l.length+1) rfl (.inr ⟨rfl,λh=>hw (Xw.1 h).symm⟩) Dp
 .simp only at hn;subst hn;have i1:¬((l.length+1:Nat):Int)<=(l.length:Int):=Ab;simp only[BJ,i1,Aw,An,Ap];simp[Gt,X4]
end
section
def Js{Q:HB}{h:Ah}{k:Aa->IT}{l s:Aq}(hl:l.length<9223372036854775806)(hs:s.length<9223372036854775807):W cx (.Bk 139 [.str l,.str s] k) Q h↔W cx (k (.bool (Gt l s))) Q h:=(aIB l s hl hs).Bk rfl rfl
section
variable{Q:HB}{h:Ah}{k:Aa->IT}{s:Aq}
def nL(hs:s.length<9223372036854775807):W cx (.Bk 139 [.str aV8,.str s] k) Q h↔W cx (k (.bool (decide (s∈Ny)))) Q h:=by rw[Js GB hs,mE]
def cN(hs:s.length<9223372036854775807):W cx (.Bk 139 [.str aWy,.str s] k) Q h↔W cx (k (.bool (decide (s∈KH)))) Q h:=by rw[Js GB hs,aV]
def Uj(hs:s.length<9223372036854775807):W cx (.Bk 139 [.str aWj,.str s] k) Q h↔W cx (k (.bool (decide (s∈P0)))) Q h:=by rw[Js GB hs,gF]
def Xx(hs:s.length<9223372036854775807):W cx (.Bk 139 [.str aWe,.str s] k) Q h↔W cx (k (.bool (decide (s∈Gs)))) Q h:=by rw[Js GB hs,mF]
def iI(hs:s.length<9223372036854775807):W cx (.Bk 139 [.str aWf,.str s] k) Q h↔W cx (k (.bool (decide (s∈JV)))) Q h:=by rw[Js GB hs,gG]
def zI(hs:s.length<9223372036854775807):W cx (.Bk 139 [.str aWt,.str s] k) Q h↔W cx (k (.bool (decide (s∈Ob)))) Q h:=by rw[Js GB hs,yK]
def nM(hs:s.length<9223372036854775807):W cx (.Bk 139 [.str aWo,.str s] k) Q h↔W cx (k (.bool (decide (s∈Mg)))) Q h:=by rw[Js GB hs,mG]
def mj(hs:s.length<9223372036854775807):W cx (.Bk 139 [.str aXi,.str s] k) Q h↔W cx (k (.bool (decide (s∈Q5)))) Q h:=by rw[Js GB hs,jf]
def zJ(hs:s.length<9223372036854775807):W cx (.Bk 139 [.str aWa,.str s] k) Q h↔W cx (k (.bool (decide (s∈P1)))) Q h:=by rw[Js GB hs,yL]
end
def aNB(s:Aq)(hs:s.length<9223372036854775807):Ks cx 350 [.str s] (.bool (decide (s∈Gs))):=by rw[M5,X_,aH5];simp only[BJ,Xx hs]
def aNC(s:Aq)(hs:s.length<9223372036854775807):Ks cx 351 [.str s] (.bool (decide (s∈JV\/s∈Gs))):=by rw[M5,Y_,aH6];simp only[BJ,Xx hs,iI hs];refine⟨λh=>by simp[h],λh=>by simp[h]⟩
def f169(n:Int)(s:Aq)(hs:s.length<9223372036854775807):Ks cx 220 [I n,.str s] (.bool (Ew n s)):=by rw[M5,yl,aG9];simp only[BJ,cN hs,nL hs,Uj hs,Ew];refine⟨λh=>by simp[h],λh1=>⟨λh2=>⟨λa=>by simp[h2,a],λa=>by simp[h2,a]⟩,λh2=>⟨λa=>by simp[a],λa=>by simp[h1,h2,a]⟩⟩⟩
section
variable{Q:HB}{h:Ah}{k:Aa->IT}{s:Aq}{n:Int}
def ml(hs:s.length<9223372036854775807):W cx (.Bk 350 [.str s] k) Q h↔W cx (k (.bool (decide (s∈Gs)))) Q h:=(aNB s hs).Bk rfl rfl
def mm(hs:s.length<9223372036854775807):W cx (.Bk 351 [.str s] k) Q h↔W cx (k (.bool (decide (s∈JV\/s∈Gs)))) Q h:=(aNC s hs).Bk rfl rfl
def iJ(hs:s.length<9223372036854775807):W cx (.Bk 220 [I n,.str s] k) Q h↔W cx (k (.bool (Ew n s))) Q h:=(f169 n s hs).Bk rfl rfl
end
end
section
def aND(c:UInt8):Ks cx 398 [.int .u8 (c.toNat:Int)] (.bool (decide (65<=c.toNat/\c.toNat<=90))):=by
 rw[M5,Ø,aIt];simp only[BJ];refine⟨λh=>?_,λh=>?_⟩
 .have e:65<=c.toNat:=by omega
  have a:((c.toNat:Int)<=90)=(c.toNat<=90):=by rw[eq_iff_iff];omega
  simp[e,a]
 .have e:¬65<=c.toNat:=by omega
  simp[e]
def aDx(s:Aq)(hs:s.length<=AX):Ks cx 316 [.str s] (.str (FU s)):=by
 have Vh:s.length<=140737488355328:=hs;rw[M5,T_,aH2];refine Bj (λp:Nat×Aa=>[p.2,I (p.1:Int)]) (λp _=>p.1<=s.length/\AV 1 (Cg (FU (s.take p.1))) p.2) (λp=>s.length-p.1) (0,.slnil) rfl ⟨AU _,.nil⟩ ?_;rintro⟨n,v⟩ h ⟨hn,hv⟩;simp only at hn hv;rcases AO n s.length with hlt|Ef
 .have i1:(n:Int)<(s.length:Int):=by omega
  have hb:((Cg (FU (s.take n))).length+1)*1<=AX:=by rw[Yu];simp[FU,AX];omega
  simp only[BJ,i1,Ax,Ap,An,Fw hlt,(aND _).Bk rfl rfl,BQ (Ab:n<9223372036854775807)];refine⟨λhe=>?_,λhe=>?_⟩
  .simp only[BJ,aP,wrap_u8 (Ab:0<=((s[n].toNat:Int)+32)/\((s[n].toNat:Int)+32)<=255),Me (a:= .int .u8 ((s[n].toNat:Int)+32)) (z:=1) rfl A5,hv.jb hb];refine AM.next (n+1,_) rfl ⟨hlt,?_⟩ Dp;rw[Q6 hlt,Qx];have e:Cg [IX s[n]]=[[.int .u8 ((s[n].toNat:Int)+32)]]:=by simp[Cg,RV he]
   rw[e];exact .mk
  .simp only[BJ,Me (a:= .int .u8 (s[n].toNat:Int)) (z:=1) rfl A5,hv.jb hb];refine AM.next (n+1,_) rfl ⟨hlt,?_⟩ Dp;rw[Q6 hlt,Qx,Oc he];exact .mk
 .have i1:¬(n:Int)<(s.length:Int):=by omega
  have e:s.take n=s:=AD Ef;rw[e] at hv;simp only[BJ,i1,Aw,Ap,An,hv.LK,hv.Ux]
def f300(a b:Int)(h:Ah):BZ cx 361 [.int .i32 a,.int .i32 b] h (.func (.func 414) [] [.Cq [.int .i32 a],.Cq [.int .i32 b]]) h:=by rw[Af,cH,Æ];simp only[BJ]
def aNE(c a b:Int)(h:Ah):BZ cx 414 [.int .i32 c,.Cq [.int .i32 a],.Cq [.int .i32 b]] h (.bool (decide (a<=c/\c<=b))) h:=by rw[Af,cM,Þ];simp only[BJ];refine⟨λh=>by simp[h],λh=>by simp[h]⟩
def aNF(c:Int):Ks cx 417 [.int .i32 c] (.bool (decide (65<=c/\c<=90))):=by rw[M5,uZ,aDq];simp only[BJ,Nat.reduceLeDiff,↓reduceIte,(f300 _ _ _).Ad,DC,(aNE _ _ _ _).Ad]
def aDy(s:Aq)(hs:s.length<=AX):Ks cx 366 [.str s] (.str (FU s)):=by
 have Vh:s.length<=140737488355328:=hs;rw[M5,uL,aDc];have i:IN [] (.str s)=some ([.cells ((HG s 0).map OG)],.CD 0 0 s.length 1):=by simp only[IN,hs,BT];rfl
 have g:AB (.len false) [.CD 0 0 s.length 1]=some (I (s.length:Int)):=rfl;simp only[BJ,i,g];refine Bj (λn:Nat=>[I (n:Int)]) (λn h=>n<=s.length/\h=[.cells ((HG s n).map OG)]) (λn=>s.length-n) 0 rfl ⟨AU _,rfl⟩ ?_;rintro n h ⟨hn,rfl⟩;rcases AO n s.length with hlt|Ef
 .have i1:(n:Int)<(s.length:Int):=by omega
  have f:AB (.FC 1) [.CD 0 0 s.length 1,I (n:Int)]=some (Pt 0 n):=by simp[AB,elemOf,L3,hlt]
  have e:Bg [.cells ((HG s n).map OG)] none (Pt 0 n)=some (.int .u8 (s[n].toNat:Int)):=mH (by rw[Cn,WV hlt];rfl);have d:IntKind.i32.wrap (s[n].toNat:Int)=(s[n].toNat:Int):=jc (by have:=s[n].toNat_lt;omega);simp only[BJ,i1,Ax,Ap,An,f,e,RU,d,(aNF _).Bk rfl rfl,BQ (Ab:n<9223372036854775807)];refine⟨λhe=>?_,λhe=>?_⟩
  .have Ł:65<=s[n].toNat/\s[n].toNat<=90:=by omega
   have c:Cw [.cells ((HG s n).map OG)] 1 (Pt 0 n) (.int .u8 ((s[n].toNat:Int)-65+97))=some [.cells (((HG s n).map OG).set n (.int .u8 ((s[n].toNat:Int)-65+97)))]:=gI (by rw[Al,WU];exact hlt) rfl;simp only[BJ,mC,aP,wrap_u8 (Ab:0<=((s[n].toNat:Int)-65)/\((s[n].toNat:Int)-65)<=255),wrap_u8 (Ab:0<=((s[n].toNat:Int)-65+97)/\((s[n].toNat:Int)-65+97)<=255),c];refine AM.next (n+1) rfl ⟨hlt,?_⟩ Ab;rw[RY hlt,Eo];have b:OG (IX s[n])= .int .u8 ((s[n].toNat:Int)-65+97):=by unfold OG;rw[RV Ł];congr 1;omega
   rw[b]
  .have X4:¬(65<=s[n].toNat/\s[n].toNat<=90):=by omega
   refine AM.next (n+1) rfl ⟨hlt,?_⟩ Ab;rw[RY hlt,Oc X4,jg (WV hlt)]
 .have i1:¬(n:Int)<(s.length:Int):=by omega
  have en:n=s.length:=Ab;subst en;have a:Kq [.cells ((HG s s.length).map OG)] (.CD 0 0 s.length 1)=some ([.CT],.sl 1 (Cg (FU s))):=by
   have hl:(FU s).length=s.length:=by simp[FU]
   rw[gH];simp only[Kq,IK];rw[Ae (by simp[hl])];rw[Pm (FU s) s.length 0 Ab];simp
  simp only[BJ,i1,Aw,Ap,An,a,AV.Ux (s:=FU s) .mk]
end
section
def So(l:Aq)(ws:List Aq):Prop:=Ev cx 410 [.str l] [] λr _=>r= .sl 1 (ws.map CH)
def QE{l:Aq}{ws:List Aq}(n:Nat)(hr:(IT.run ŀ n (ŀ 410 [.str l]) []).map (λx=>(x.1,x.2.1))=some (.ret,[.sl 1 (ws.map CH)])):So l ws:=by obtain⟨⟨x,vs,h⟩,a,b⟩:=MA.1 hr;cases b;rw[Rd] at a;exact⟨n,_,_,_,a,rfl,_,rfl,rfl⟩
def aIC{l:Aq}{ws:List Aq}(hf:So l ws)(hw:∀w∈ws,w.length<=AX)(hn:ws.length<9223372036854775807)(name:Aq):Ks cx 344 [.str name,.str l] (.str (Cr name ws)):=by
 rw[M5,uF,aC6];refine db (hf.mono λr h1 e=>?_);subst e;have jP:AV 1 (ws.map CH) (.sl 1 (ws.map CH)):= .mk;simp only[BJ,jP.len];refine Bj (λn:Nat=>[.str [],I (n:Int)]) (λn _=>n<=ws.length/\Cr name ws=Cr name (ws.drop n)) (λn=>ws.length-n) 0 rfl ⟨AU _,rfl⟩ ?_;rintro n h ⟨mn,ha⟩;rcases AO n ws.length with hlt|Ef
 .have i1:(n:Int)<((ws.map CH).length:Int):=Eg;have Sp:n<(ws.map CH).length:=by simpa using hlt
  have a:(ws.map CH)[n]=[.str ws[n]]:=by simp[CH]
  rw[AF hlt,Cr] at ha;simp only[BJ,i1,Ax,Ap,An,jP.FC Sp,a,(aDy ws[n] (hw _ (AN hlt))).Bk rfl rfl,BQ (Ab:n<9223372036854775807)];refine⟨λhe=>?_,λhe=>?_⟩;.rw[ha,Ae he]
  .rw[Ac he] at ha;exact AM.next (n+1) rfl ⟨hlt,ha⟩ Ab
 .have i1:¬(n:Int)<((ws.map CH).length:Int):=Eg;rw[AW Ef,Cr] at ha;simp only[BJ,i1,Aw,Ap,An,ha]
def aID(l name:Aq)(hl:l.length<=AX):Ks cx 359 [.str l,.str name] (.str (Cr name (Dq [] l))):=by
 have c:l.length<=140737488355328:=hl;rw[M5,Å,aId];refine Bj (λp:Nat×Nat=>[.str [],I (p.1:Int),I (p.2:Int)])
  (λp _=>(p.1<=p.2/\p.2<=l.length/\Cr name (Dq [] l)=Cr name (Dq ((l.take p.2).drop p.1) (l.drop p.2)))\/(p.2=l.length+1/\Cr name (Dq [] l)=name)) (λp=>l.length+1 -p.2) (0,0) rfl (.inl ⟨Ag _,AU _,AK⟩) ?_
 rintro⟨a,n⟩ h aDw;rcases aDw with⟨X7,hn,ha⟩|⟨hn,X4⟩
 .simp only at X7 hn ha;have i1:(n:Int)<=(l.length:Int):=Ab;have OQ:((l.take n).drop a).length<=AX:=by simp[AX];omega
  rcases AO n l.length with hlt|Ef
  .have b:¬(n:Int)=(l.length:Int):=by omega
   simp only[BJ,i1,b,Ax,Aw,An,Ap,Fw hlt,BQ (Ab:n<9223372036854775807),Md X7 hn,(aDx _ OQ).Bk rfl rfl];rw[AF hlt,Pl] at ha;refine⟨λhe=>?_,λhe=>?_⟩
   .have e:l[n]=32:=by rw[<-Uv];exact ė he
    rw[Ae e,Cr] at ha;refine⟨λhw=>?_,λhw=>?_⟩;.rw[ha,Ae hw]
    .rw[Ac hw] at ha;refine AM.next (n+1,n+1) rfl (.inl ⟨Ag _,hlt,?_⟩) Dp;rw[ha,OK]
   .have e:¬l[n]=32:=λe=>he (by rw[e];rfl);rw[Ac e] at ha;refine AM.next (a,n+1) rfl (.inl ⟨Dp,hlt,?_⟩) Dp;rw[ha,WT X7 hlt]
  .have e:n=l.length:=by omega
   subst e;simp only[BJ,Gy,Ax,An,Ap,Md X7 hn,BQ (Ab:l.length<9223372036854775807),(aDx _ OQ).Bk rfl rfl];rw[AW (Ag _),Qy,Cr,Cr] at ha;refine⟨λhw=>?_,λhw=>?_⟩;.rw[ha,Ae hw]
   .rw[Ac hw] at ha;exact AM.next (l.length+1,l.length+1) rfl (.inr ⟨rfl,ha⟩) Dp
 .simp only at hn;subst hn;have i1:¬((l.length+1:Nat):Int)<=(l.length:Int):=Ab;simp only[BJ,i1,Aw,An,Ap,X4]
def UR:So LZ IW:=QE 5000 AH
def US:So Nz H8:=QE 5000 AH
def aNG(s:Aq):Ks cx 204 [.str s] (.str (Cr s IW)):=by rw[M5,sK,show aCo (.str s)= .Bk 344 [.str s,.str LZ] λv=> .ret .ret [v] from rfl];rw[(aIC (l:=LZ) UR GB GB s).Bk rfl rfl];simp only[BJ]
def aIE(s:Aq):Ks cx 231 [.str s] (.str (Cr s IW)):=by rw[M5,yv,show aHi (.str s)= .Bk 359 [.str LZ,.str s] λv=> .ret .ret [v] from rfl];rw[(aID LZ s GB).Bk rfl rfl,WW];simp only[BJ]
def aIF(s:Aq):Ks cx 343 [.str s] (.str (Cr s H8)):=by rw[M5,uE,show aC5 (.str s)= .Bk 344 [.str s,.str Nz] λv=> .ret .ret [v] from rfl];rw[(aIC (l:=Nz) US GB GB s).Bk rfl rfl];simp only[BJ]
end
section
def aNH{v:Aa}{l:List A6}(hv:Bz l v)(hn:l.length<9223372036854775807)(h:Ah){f:FuncId}{p:A6->Bool}(hp:∀a∈l,BZ cx f [.agg a.row] h (.bool (p a)) h)(hf:f<=99999):
  BZ cx 309 [v,.func (.func f) [] []] h (I (Co p 0 l)) h:=by
 rw[Af,Vw,l_];have hlen:(l.map A6.row).length=l.length:=Al ..;simp only[BJ,AV.len hv];refine Bj (λn:Nat=>[I 0,I (n:Int)]) (λn h1=>n<=l.length/\Co p 0 l=Co p n (l.drop n)/\h1=h) (λn=>l.length-n) 0 rfl ⟨AU _,rfl,rfl⟩ ?_;rintro n h1 ⟨mn,ha,rfl⟩;rcases AO n l.length with hlt|Ef
 .have i1:(n:Int)<((l.map A6.row).length:Int):=by rw[hlen];omega
  have c:(l.map A6.row)[n]'(by rw[hlen];exact hlt)=A6.row l[n]:=AK;have b:Ft (A6.row l[n]) 0 (some 3)=some (.agg (A6.row l[n])):=by simp[A6.row]
  rw[AF hlt,Co] at ha;simp only[BJ,↓reduceIte,DC,hf,BK,i1,Ax,Ap,An,AV.FC hv (show n<(l.map A6.row).length by rw[hlen];exact hlt),c,b,(hp _ (AN hlt)).Ad];rw[CQ];refine⟨λhe=>?_,λhe=>?_⟩;.rw[ha,Ae he]
  .rw[Ac (by simp[he])] at ha;simp only[BJ,BQ (Ab:n<9223372036854775807)];exact AM.next (n+1) rfl ⟨hlt,ha,rfl⟩ Ab
 .have i1:¬(n:Int)<((l.map A6.row).length:Int):=by rw[hlen];omega
  rw[AW Ef,Co] at ha;simp only[BJ,↓reduceIte,DC,hf,i1,Aw,Ap,An,ha]
def aNI(a:A6)(h:Ah):BZ cx 310 [.agg a.row] h (.bool (OI a)) h:=by rw[Af,tC,aCD,A6.row];simp only[BJ,OI];refine⟨λh=>by simp[h],λh=>by simp[h]⟩
def aIG(a b:Aq)(ha:a.length<=AX)(hb:b.length<=AX):Ks cx 240 [.str a,.str b] (.bool (decide (FU a=FU b))):=by rw[M5,sT,aCw];simp only[BJ,(aDy a ha).Bk rfl rfl,(aDy b hb).Bk rfl rfl]
def f96{v:Aa}{l:List A6}(hv:Bz l v)(hl:∀a∈l,a.value.length<=AX)(hn:l.length<9223372036854775807)(n:Int)(s:Aq)(h:Ah):BZ cx 161 [I n,.str s,v] h (.bool (Fm n s l)) h:=by
 rw[Af,rD,aBS];simp only[BJ,Xv,(aNH hv hn h (λa _=>aNI a h) A5).Ad,Fm];refine⟨λh2=>by simp[h2],λh2=>⟨λb=>by simp[h2,b],λb=>⟨λg=>by simp[h2,b,g],λg=>?_⟩⟩⟩;rw[Ac h2,Ac b,Ac g];rcases HH (p:=OI) (l:=l) (k:=0) with⟨f,d⟩|⟨k,a,f,d,i⟩
 .rw[f,d];simp
 .rw[f,i,B0];obtain⟨hk,e⟩:=Ak.1 d;have c:k<(l.map A6.row).length:=by simpa using hk
  have o:(l.map A6.row)[k]=A6.row a:=by simp[e]
  have i1:(0:Int)<=(k:Int):=Ab;have QZ:a.value.length<=AX:=hl a (e▸AN hk);have m:FU qM=qM:=Ud GB;have j:FU aW=aW:=Ud GB;simp only[BJ,i1,Ax,Ap,An,AV.FC hv c,o,A6.row,(aIG a.value qM QZ A5).Bk rfl rfl,(aIG a.value aW QZ A5).Bk rfl rfl,m,j];refine⟨λh=>by simp[h],λh=>by simp[h]⟩
def aIH{v:Aa}{l:List A6}(hv:Bz l v)(hl:∀a∈l,a.value.length<=AX)(hn:l.length<9223372036854775807)(n:Int)(s:Aq)(hs:s.length<9223372036854775807)(h:Ah):BZ cx 167 [I n,.str s,v] h (.bool (Fm n s l)) h:=by
 rw[Af,xq,aGW];simp only[BJ,Uj hs,Fm];refine⟨λh2=>by simp[h2,Ew],λh2=>⟨λb=>by simp[h2,b],λb=>⟨λf=>by simp[h2,b,f],λf=>?_⟩⟩⟩;rw[Ac h2,Ac b,Ac f];have hlen:(l.map A6.row).length=l.length:=Al ..;refine Bj (λn:Nat=>[.bool false,I (n:Int)]) (λn h1=>n<=l.length/\l.find? OI=(l.drop n).find? OI/\h1=h) (λn=>l.length-n) 0 rfl ⟨AU _,rfl,rfl⟩ ?_;rintro n h1 ⟨mn,ha,rfl⟩;rcases AO n l.length with hlt|Ef
 .have i1:(n:Int)<((l.map A6.row).length:Int):=by rw[hlen];omega
  have g:(l.map A6.row)[n]'(by rw[hlen];exact hlt)=A6.row l[n]:=AK;rw[AF hlt,GH] at ha;simp only[BJ,AV.len hv,i1,Ax,Ap,An,AV.FC hv (show n<(l.map A6.row).length by rw[hlen];exact hlt),g,A6.row,(aDx _ (hl _ (AN hlt))).Bk rfl rfl,BQ (Ab:n<9223372036854775807)];refine⟨λe=>⟨λd=>?_,λd=>?_⟩,λe=>?_⟩
  .have he:OI l[n]=true:=by simp[OI,e,d]
   rw[he] at ha;rw[ha];exact⟨λc=>by simp[c],λc=>by simp[c]⟩
  .have he:OI l[n]=false:=by simp[OI,d]
   rw[he] at ha;exact AM.next (n+1) rfl ⟨hlt,ha,rfl⟩ Ab
  .have he:OI l[n]=false:=by simp[OI,e]
   rw[he] at ha;exact AM.next (n+1) rfl ⟨hlt,ha,rfl⟩ Ab
 .have i1:¬(n:Int)<((l.map A6.row).length:Int):=by rw[hlen];omega
  rw[AW Ef,List.find?_nil] at ha;rw[ha];simp only[BJ,AV.len hv,i1,Aw,Ap,An]
end
section
section
variable{U:Type}{f:U->List Aa}{l l2:List U}{v v2:Aa}{z b:Nat}{k k2:IntKind}
end
section
variable{h:Ah}{p:Aa}{l:List Item}
def UT(hs:bj h p l):BZ cx 183 [p] h (I (l.length:Int)) h:=by
 rw[Af,rR,aB6];rcases hs with⟨rfl,rfl⟩|⟨id,o,v,rfl,hc,hv⟩
 .simp
 .simp only[BJ,H5,hc.load,Bv,hv.CN]
def Xy(hs:bj h p l)(i:Int):BZ cx 184 [p,I i] h (.agg (Ht l i).row) h:=by
 rw[Af,rS,aB7];simp only[BJ,↓reduceIte,AR,(UT hs).Ad];refine⟨λhi=>by rw[Oe (.inl hi)];simp[Item.row,Item.zero],λhi=>⟨λhl=>by rw[Oe (.inr hl)];simp[Item.row,Item.zero],λhl=>?_⟩⟩;rcases hs with⟨rfl,rfl⟩|⟨id,o,v,rfl,hc,hv⟩
 .simp at hl;omega
 .obtain⟨n,rfl⟩:=IM (Ab:0<=i);have hn:n<l.length:=Ab;simp only[BJ,Nat.reduceLeDiff,↓reduceIte,Fc,hc.load,Bv,hv.BN hn,H9 hn]
def f39(hs:bj h p l)(hn:l.length<=1000000000):BZ cx 197 [p] h (.agg (Fx l).row) h:=by rw[Af,sD,aCh];simp only[BJ,Fc,(UT hs).Ad,C6 (Ab: -9223372036854775808<=(l.length:Int)-1) (Ab:(l.length:Int)-1<9223372036854775808),(Xy hs _).Ad,Fx]
def UU(F:Aa)(h:Ah)(q:Item->Bool):Prop:=∃f caps,F= .func (.func f) [] caps/\f<=99999/\∀a:Item,BZ cx f (.agg a.row::caps) h (.bool (q a)) h
def UU.Es{F:Aa}{q:Item->Bool}(hF:UU F h q)(a:Item){k:Aa->IT}{Q:HB}:W cx (.Es F [.agg a.row] k) Q h↔W cx (k (.bool (q a))) Q h:=by obtain⟨f,caps,rfl,hf,hr⟩:=hF;rw[MP];simp only[DC,hf,↓reduceIte,BV,CK,Nw,(hr a).Ad]
def aDz(hs:bj h p l)(hn:l.length<=1000000000){F:Aa}{q:Item->Bool}(hF:UU F h q):BZ cx 326 [p,F] h (I (AP q l)) h:=by
 obtain⟨f,caps,rfl,hf,hr⟩:=hF;rw[Af,tN,aCO];simp only[BJ,(UT hs).Ad,C6 (Ab: -9223372036854775808<=(l.length:Int)-1) (Ab:(l.length:Int)-1<9223372036854775808)];refine Bj (λn:Nat=>[I 0,I ((n:Int)-1)]) (λn h1=>n<=l.length/\AP q l=AP q (l.take n)/\h1=h) (λn=>n) l.length rfl ⟨Ag _,by rw[By],rfl⟩ ?_;rintro n h1 ⟨mn,ha,rfl⟩;cases n with
 |zero=>have i1:¬(0:Int)<=((0:Nat):Int)-1:=Ab;rw[ha];simp only[BJ,↓reduceIte,DC,hf,i1,Aw,Ap,An,JW]
 |succ n=>
  have i1:(0:Int)<=((n+1:Nat):Int)-1:=Ab;have a:((n+1:Nat):Int)-1=(n:Int):=Ab;rcases hs with⟨rfl,rfl⟩|⟨id,o,v,rfl,hc,hv⟩
  .simp at mn
  .rw[GQ Ab] at ha;simp only[BJ,Nat.reduceLeDiff,↓reduceIte,DC,Fc,hf,a,(Ab:(0:Int)<=(n:Int)),Ax,Ap,An,hc.load,Bv,hv.BN (Ab:n<l.length),(hr l[n]).Ad,C6 (Ab: -9223372036854775808<=(n:Int)-1) (Ab:(n:Int)-1<9223372036854775808)];rw[CQ];refine⟨λhe=>?_,λhe=>?_⟩;.rw[ha,Ae he]
   .rw[Ac (by simp[he])] at ha;exact AM.next n rfl ⟨Ab,ha,rfl⟩ Ab
def aNJ{v:Aa}{ws:List Aq}(hv:JF ws v)(hn:ws.length<=1000000000)(s:Aq)(h:Ah):BZ cx 397 [v,.str s] h (I (Co (λw=>decide (s=w)) 0 ws)) h:=by
 rw[Af,uP,aDg];have hv:AV 1 (ws.map CH) v:=hv;simp only[BJ,hv.CN];refine Bj (λn:Nat=>[I 0,I (n:Int)]) (λn h1=>n<=ws.length/\Co (λw=>decide (s=w)) 0 ws=Co (λw=>decide (s=w)) n (ws.drop n)/\h1=h) (λn=>ws.length-n) 0 rfl ⟨AU _,rfl,rfl⟩ ?_;rintro n h1 ⟨mn,ha,rfl⟩;rcases AO n ws.length with hlt|Ef
 .have i1:(n:Int)<(ws.length:Int):=by omega
  rw[AF hlt,Co] at ha;simp only[BJ,i1,Ax,Ap,An,hv.BN hlt,CH,BQ (Ab:n<9223372036854775807)];refine⟨λhe=>?_,λhe=>?_⟩;.rw[ha,Ae (by simpa using he)]
  .rw[Ac (by simpa using he)] at ha;exact AM.next (n+1) rfl ⟨hlt,ha,rfl⟩ Ab
 .have i1:¬(n:Int)<(ws.length:Int):=by omega
  rw[AW Ef,Co] at ha;simp only[BJ,i1,Aw,Ap,An,ha]
def aDA{v:Aa}{ws:List Aq}(hv:JF ws v)(hn:ws.length<=1000000000)(s:Aq)(h:Ah):BZ cx 311 [v,.str s] h (.bool (decide (s∈ws))) h:=by rw[Af,tD,aCE];simp only[BJ,(aNJ hv hn s h).Ad,uk]
def iK{v:Aa}{ws:List Aq}(hv:JF ws v)(hn:ws.length<=1000000000)(a:Item)(h:Ah):BZ cx 202 [.agg a.row,v] h (.bool (BD ws a)) h:=by rw[Af,sI,aCm];simp only[BJ,Fc,(aDA hv hn _ h).Ad,BD];refine⟨λh1=>by simp[h1],λh1=>by simp[h1]⟩
def aNK(a:Item)(h:Ah):BZ cx 426 [.agg a.row] h (.bool (BD Ob a)) h:=by rw[Af,vA,aDs];simp only[BJ,Fc,mI,(iK (ws:=Ob) Da A5 a h).Ad]
def aNL(a:Item)(h:Ah):BZ cx 427 [.agg a.row] h (.bool (!BD Mg a)) h:=by rw[Af,vB,aDt];simp only[BJ,Fc,gJ,(iK (ws:=Mg) Da A5 a h).Ad]
def aNM(n:Int)(j:n≠4)(i:n≠5)(a:Item)(h:Ah):BZ cx 428 [.agg a.row,.Cq [I n]] h (.bool (JG n a)) h:=by have b1:=iK (ws:=P1) Da A5 a h;have b2:=iK (ws:=Q5) Da A5 a h;have b3:=iK (ws:=[aWk]) Da A5 a h;rw[Af,vC,aDu];simp only[BJ,Fc,Xv,mJ,yM,yN,b1.Ad,b2.Ad,b3.Ad,JG,j,i];refine⟨λh1=>by simp[h1],λh1=>⟨λh2=>by simp[h2],λh2=>?_⟩⟩;rw[CQ];simp only[h1,h2,or_self,Eb];refine⟨λd=>by simp[d],λd=>⟨λe=>?_,λe=>⟨λc=>by simp[d,c],λc=>by simp[d,e,c]⟩⟩⟩;rw[CQ];exact⟨λc=>by simp[d,e,c],λc=>⟨λg=>Ab,λg=>by simp[d,c,g]⟩⟩
def f264(n:Int)(h:Ah):∃F,BZ cx 403 [I n] h F h/\UU F h (JG n)/\F.cells=[F]:=by
 by_cases d:n=4
 .refine⟨.func (.func 426) [] [],?_,⟨_,_,rfl,A5,λa=>?_⟩,rfl⟩;.rw[Af,Vy,mb];simp only[BJ,d,Ax,Ap,An]
  .have:=aNK a h;simpa[JG,d] using this
 .by_cases c:n=5
  .refine⟨.func (.func 427) [] [],?_,⟨_,_,rfl,A5,λa=>?_⟩,rfl⟩;.rw[Af,Vy,mb];simp only[BJ,c,Ax,Ap,An];simp
   .have:=aNL a h;simpa[JG,c] using this
  .refine⟨.func (.func 428) [] [.Cq [I n]],?_,⟨_,_,rfl,A5,λa=>aNM n d c a h⟩,rfl⟩;rw[Af,Vy,mb];simp only[BJ,d,c,Aw,Ap,An]
def aNN{d F2:Aa}{q e:Item->Bool}(h1:UU d h q)(h2:UU F2 h e)(a:Item):BZ cx 404 [.agg a.row,.Cq [d],.Cq [F2]] h (.bool (q a||e a)) h:=by have j:=λk Q=>h1.Es a (k:=k) (Q:=Q);have i:=λk Q=>h2.Es a (k:=k) (Q:=Q);rw[Af,uT,aDk];obtain⟨f,caps,rfl,hf,g⟩:=h1;obtain⟨f',c,rfl,gg,r2⟩:=h2;simp only[BJ,↓reduceIte,DC,Fc,hf,gg,(g a).Ad,(r2 a).Ad];rw[CQ];exact⟨λh=>by simp[h],λh=>by simp[h]⟩
def aII(hs:bj h p l)(hn:l.length<=1000000000)(n:Int){F:Aa}{q:Item->Bool}(hF:UU F h q):BZ cx 322 [p,I n,F] h (.bool (J2 q (JG n) l.reverse)) h:=by
 obtain⟨G,g,aIJ,JP⟩:=f264 n h;have c:F.cells=[F]:=by obtain⟨f,caps,rfl,hf,_⟩:=hF;rfl
 have d:=hF;have hfit:UU (.func (.func 404) [] [.Cq [F],.Cq [G]]) h (λa=>q a||JG n a):=⟨404,_,rfl,A5,λa=>aNN hF aIJ a⟩;rw[Af,tJ,aCK];simp only[BJ,↓reduceIte,DC,c,g.Ad,JP,(aDz hs hn hfit).Ad];rw[<-mK l true];rcases De (q:=λa=>q a||JG n a) (l:=l) with⟨h1,h2⟩|⟨k,hk,h1,h2,i⟩
 .simp[h1]
 .have e:(0:Int)<=(k:Int)/\(k:Int).toNat<l.length:=⟨Ab,by simpa using hk⟩;simp only[h1];rw[jJ e];rcases hs with⟨rfl,rfl⟩|⟨id,o,v,rfl,hc,hv⟩
  .simp at hk
  .obtain⟨f,caps,rfl,hf,hr⟩:=d;simp only[BJ,Nat.reduceLeDiff,↓reduceIte,Fc,hf,e.1,Ax,Ap,An,hc.load,Bv,hv.BN hk,(hr l[k]).Ad,AT]
def aNO{v:Aa}{ws:List Aq}(hv:JF ws v)(hn:ws.length<=1000000000)(a:Item)(h:Ah):BZ cx 323 [.agg a.row,.Cq [v]] h (.bool (BD ws a)) h:=by have b:=iK hv hn a h;rw[Af,tK,aCL];simp only[BJ,Fc,b.Ad]
def aNP(hs:bj h p l)(hn:l.length<=1000000000)(n:Int){v:Aa}{ws:List Aq}(hv:JF ws v)(hw:ws.length<=1000000000):BZ cx 178 [p,I n,v] h (.bool (J2 (BD ws) (JG n) l.reverse)) h:=by have hfit:UU (.func (.func 323) [] [.Cq [v]]) h (BD ws):=⟨323,_,rfl,A5,λa=>aNO hv hw a h⟩;rw[Af,rN,aB2];simp only[BJ,hv.cells,(aII hs hn n hfit).Ad]
def aNQ(node:Int)(a:Item)(h:Ah):BZ cx 406 [.agg a.row,.Cq [I node]] h (.bool (BB node a)) h:=by rw[Af,uV,aDm,Item.row];simp only[BJ,Fc,BB]
def aNR(hs:bj h p l)(hn:l.length<=1000000000)(n node:Int):BZ cx 332 [p,I n,I node] h (.bool (J2 (BB node) (JG n) l.reverse)) h:=by have hfit:UU (.func (.func 406) [] [.Cq [I node]]) h (BB node):=⟨406,_,rfl,A5,λa=>aNQ node a h⟩;rw[Af,tT,aCU];simp only[BJ,(aII hs hn n hfit).Ad]
def aNS(node:Int)(a:Item)(h:Ah):BZ cx 327 [.agg a.row,.Cq [I node]] h (.bool (BB node a)) h:=by rw[Af,tO,aCP,Item.row];simp only[BJ,Fc,BB]
def Yz(hs:bj h p l)(hn:l.length<=1000000000)(node:Int):BZ cx 180 [p,I node] h (I (AP (BB node) l)) h:=by have hfit:UU (.func (.func 327) [] [.Cq [I node]]) h (BB node):=⟨327,_,rfl,A5,λa=>aNS node a h⟩;rw[Af,rP,aB4];simp only[BJ,(aDz hs hn hfit).Ad]
def aNT(s:Aq)(a:Item)(h:Ah):BZ cx 340 [.agg a.row,.Cq [.str s]] h (.bool (BD [s] a)) h:=by have b:=iK (ws:=[s]) Da (AK:[s].length<=1000000000) a h;rw[Af,uB,aC2];simp only[BJ,Fc,D7 (ws:=[s]) (args:=[.str s]) rfl AK,b.Ad]
def aDB(hs:bj h p l)(hn:l.length<=1000000000)(s:Aq):BZ cx 194 [p,.str s] h (I (AP (BD [s]) l)) h:=by have hfit:UU (.func (.func 340) [] [.Cq [.str s]]) h (BD [s]):=⟨340,_,rfl,A5,λa=>aNT s a h⟩;rw[Af,rZ,aCe];simp only[BJ,(aDz hs hn hfit).Ad]
end
end
section
section
variable{h:Ah}{p v:Aa}{l:List Item}
def aIK(hv:B4 l v)(a:Item){n:Nat}(hn:n<=l.length)(hb:l.length<=1000000000):∃u,BZ cx 308 [v,.agg a.row,I (n:Int)] h u h/\B4 (l.take n++a::l.drop n) u:=by
 have QQ:(l.length+1)*40<=AX:=by have:AX=140737488355328:=rfl;omega
 obtain⟨t,q,h1⟩:=AV.Mh hv (k:= .i64) hn;obtain⟨s,m,h2⟩:=AV.Gu h1 (b:=40) (by rw[As];have:AX=140737488355328:=rfl;omega);have j:=AV.Ke (a:=a) h2 (b:=40) (by rw[As];have:AX=140737488355328:=rfl;omega);obtain⟨r,i,e⟩:=AV.RZ hv (k:= .i64) hn;obtain⟨d,g,c⟩:=AV.aX (v:= .sl 4 ((l.take n++[a]).map Item.row)) .mk e (b:=40) (by rw[Au,As,Bc,Bp];have:AX=140737488355328:=rfl;omega);refine⟨d,?_,by rw[AJ] at c;exact c⟩;rw[Af,sZ,aCC];simp only[BJ,Fc,q,m,Mi,j,i,g]
def f95{id o:Nat}(hs:LQ h id o l)(hb:l.length<=1000000000)(a:Item):∃u,BZ cx 160 [Pt id o,.agg a.row] h (.tuple []) (put h id o u)/\B4 (l++[a]) u:=by obtain⟨v,hc,hv⟩:=hs;obtain⟨u,hr,hu⟩:=aIK (h:=h) hv a (n:=l.length) (Ag _) hb;rw[By,Ep] at hu;refine⟨u,?_,hu⟩;rw[Af,rC,aBR];simp only[BJ,Fc,Rj,IL,hc.load,Bv,AV.CN hv,hr.Ad,hc.store hu.cells]
def aNU(hs:bj h p l)(hb:l.length<=1000000000)(node:Int):BZ cx 333 [p,I node] h (I (D0 node l)) h:=by
 rw[Af,tU,aCV];have a: -1<=AP (BB node) l/\AP (BB node) l<l.length+1:=by rcases De (q:=BB node) (l:=l) with⟨h1,h2⟩|⟨n,hn,h1,h2,c⟩<;>rw[h1]<;>omega
 simp only[BJ,(Yz hs hb node).Ad,Od (Ab: -9223372036854775808<=AP (BB node) l+1) (Ab:AP (BB node) l+1<9223372036854775808)];rw[IB];by_cases FW:AP (BB node) l<0;.rw[Ae FW];refine Bj (λn:Nat=>[I 0,I (AP (BB node) l+1)]) (λn h1=>h1=h) (λn=>n) 0 rfl rfl ?_;rintro n h1 rfl;have i1:¬0<=AP (BB node) l:=Ab;simp only[BJ,i1,Aw,Ap,An]
 .rw[Ac FW];have i0:0<=AP (BB node) l:=Ab;obtain⟨m,hm⟩:=IM i0;refine Bj (λn:Nat=>[I 0,I (n:Int)]) (λn h1=>E1 GR l (m+1)=E1 GR l n/\h1=h) (λn=>l.length-n) (m+1) (by rw[hm];rfl) ⟨rfl,rfl⟩ ?_;rw[hm,AT];rintro n h1 ⟨ha,rfl⟩;simp only[BJ,(Ab:(0:Int)<=(m:Int)),Ax,Ap,An,(UT hs).Ad];rcases AO n l.length with hlt|Ef
  .have i1:(n:Int)<(l.length:Int):=by omega
   rw[R2 hlt] at ha;rcases hs with⟨rfl,rfl⟩|⟨id,o,v,rfl,hc,hv⟩
   .simp at hlt
   .simp only[BJ,Fc,i1,Ax,Ap,An,hc.load,Bv,AV.BN hv hlt,Xv,BQ (Ab:n<9223372036854775807)];rw[CQ];refine⟨λhe=>?_,λhe=>?_⟩;.rw[ha,Ae (by exact he)]
    .rw[Ac (by simp[GR,he])] at ha;exact AM.next (n+1) rfl ⟨ha,rfl⟩ Ab
  .have i1:¬(n:Int)<(l.length:Int):=by omega
   rw[Qz Ef] at ha;simp only[BJ,i1,Aw,Ap,An,ha]
def aIL(hv:B4 l v)(i:Int):BZ cx 383 [v,I i] h (.agg (Ht l i).row) h:=by have hv:AV 4 (l.map Item.row) v:=hv;rw[Af,Ô,aIr];simp only[BJ,↓reduceIte,AR,hv.CN];refine⟨λhi=>by rw[Oe (.inl hi)];simp[Item.row,Item.zero],λhi=>⟨λhl=>by rw[Oe (.inr hl)];simp[Item.row,Item.zero],λhl=>?_⟩⟩;obtain⟨n,rfl⟩:=IM (Ab:0<=i);have hn:n<l.length:=Ab;simp only[BJ,Nat.reduceLeDiff,↓reduceIte,Fc,hv.BN hn,H9 hn]
def aNV(hv:B4 l v)(hb:l.length<=1000000000):BZ cx 352 [v] h (.agg (Fx l).row) h:=by rw[Af,Z_,aH7];simp only[BJ,Fc,AV.CN hv,C6 (Ab: -9223372036854775808<=(l.length:Int)-1) (Ab:(l.length:Int)-1<9223372036854775808),(aIL hv _).Ad,Fx]
def f167(a:Item){ws:List Aq}(hv:JF ws v)(hn:ws.length<=1000000000):BZ cx 218 [.agg a.row,v] h (.bool (BD ws a)) h:=by
 rw[Af,yk,aG8];simp only[BJ,Fc];refine⟨λh1=>by simp[BD,h1],λh1=>?_⟩;have h1:a.A9=1:=by simpa using h1
 have hv:AV 1 (ws.map CH) v:=hv;refine Bj (λn:Nat=>[.bool false,I (n:Int)]) (λn h1=>n<=ws.length/\(a.name∈ws↔a.name∈ws.drop n)/\h1=h) (λn=>ws.length-n) 0 rfl ⟨AU _,aEr,rfl⟩ ?_;rintro n h2 ⟨mn,ha,rfl⟩;rcases AO n ws.length with hlt|Ef
 .have i1:(n:Int)<(ws.length:Int):=by omega
  rw[AF hlt,AS] at ha;simp only[BJ,hv.CN,i1,Ax,Ap,An,hv.BN hlt,CH,BQ (Ab:n<9223372036854775807)];refine⟨λhe=>?_,λhe=>?_⟩;.have:a.name∈ws:=ha.2 (.inl he.symm);simp[BD,h1,this]
  .exact AM.next (n+1) rfl ⟨hlt,ha.trans ⟨λh=>h.resolve_left (λh=>he h.symm),.inr⟩,rfl⟩ Ab
 .have i1:¬(n:Int)<(ws.length:Int):=by omega
  rw[AW Ef] at ha;simp only[BJ,hv.CN,i1,Aw,Ap,An];have:a.name∉ws:=λh=>by simpa using ha.1 h
  simp[BD,this]
def aNW(n:Int)(a:Item)(hs:a.name.length<9223372036854775807):BZ cx 412 [.agg a.row,I n] h (.bool (JG n a)) h:=by
 rw[Af,Ý,aIv];simp only[BJ,Fc,zI hs,nM hs,mj hs,zJ hs,iJ hs,JG,BD];by_cases h1:a.A9=1
 .have j:¬a.A9=3:=by omega
  have i:¬a.A9=2:=Ab;simp only[h1,DV,Q1,Mz,An,Ax,Rh,forall_const];by_cases d:n=4;.simp[d]
  .by_cases c:n=5;.simp[c]
   .by_cases h2:n=2;.simp[h2];by_cases hl:a.name∈Q5<;>simp[hl]
    .by_cases g:n=3;.simp[g];by_cases hl:a.name=aWk<;>simp[hl]
     .simp[d,c,h2,g]
 .simp only[h1,Ec,S8,Ya,Ap,An,Aw,IL];by_cases d:n=4;.simp[d]
  .by_cases c:n=5;.simp[c]
   .by_cases g:a.A9=3\/a.A9=2;.simp[d,c,g]
    .have j:¬a.A9=3:=λe=>g (.inl e);have i:¬a.A9=2:=λe=>g (.inr e);simp[d,c,j,i,Ew,h1]
def aIM(hv:B4 l v)(hb:l.length<=1000000000)(hl:∀a∈l,a.name.length<9223372036854775807){i:Nat}(hi:i<=l.length)(n:Int):BZ cx 349 [v,I (i:Int),I n] h (.bool (!((l.drop (i+1)).any (JG n)))) h:=by
 have hv:AV 4 (l.map Item.row) v:=hv;rw[Af,W_,aH4];simp only[BJ,BQ (Ab:i<9223372036854775807)];refine Bj (λm:Nat=>[.bool false,I (m:Int)]) (λm h1=>(l.drop (i+1)).any (JG n)=(l.drop m).any (JG n)/\h1=h) (λm=>l.length-m) (i+1) rfl ⟨rfl,rfl⟩ ?_;rintro m h1 ⟨ha,rfl⟩;rcases AO m l.length with hlt|Ef
 .have i1:(m:Int)<(l.length:Int):=by omega
  rw[AF hlt,Rk] at ha;simp only[BJ,Nat.reduceLeDiff,↓reduceIte,Fc,hv.CN,i1,Ax,Ap,An,hv.BN hlt,(aNW n l[m] (hl _ (AN hlt))).Ad,BQ (Ab:m<9223372036854775807)];rw[CQ];refine⟨λhe=>by rw[ha,he];rfl,λhe=>?_⟩;rw[he,Hi] at ha;exact AM.next (m+1) rfl ⟨ha,rfl⟩ Ab
 .have i1:¬(m:Int)<(l.length:Int):=by omega
  rw[AW Ef] at ha;simp only[BJ,↓reduceIte,hv.CN,i1,Aw,Ap,An,ha,jK,IL]
def aNX(hv:B4 l v)(hb:l.length<=1000000000)(hl:∀a∈l,a.name.length<9223372036854775807)(n:Int){w:Aa}{ws:List Aq}(hw:JF ws w)(hn:ws.length<=1000000000):BZ cx 215 [v,I n,w] h (.bool (J2 (BD ws) (JG n) l.reverse)) h:=by
 have DG:AV 4 (l.map Item.row) v:=hv;rw[Af,yh,aG5,<-gK];refine Bj (λm:Nat=>[.bool false,I (m:Int)]) (λm h1=>m<=l.length/\WY (BD ws) (JG n) l=WY (BD ws) (JG n) (l.drop m)/\h1=h) (λm=>l.length-m) 0 rfl ⟨AU _,rfl,rfl⟩ ?_;rintro m h1 ⟨hm,ha,rfl⟩;rcases AO m l.length with hlt|Ef
 .have i1:(m:Int)<(l.length:Int):=by omega
  rw[AF hlt,WY] at ha;simp only[BJ,Nat.reduceLeDiff,↓reduceIte,Fc,DG.CN,i1,Ax,Ap,An,DG.BN hlt,(f167 l[m] hw hn).Ad,(aIM hv hb hl (MC hlt) n).Ad,BQ (Ab:m<9223372036854775807)];rw[CQ,CQ];refine⟨λh1=>⟨λh2=>by rw[ha,h1,h2];rfl,λh2=>?_⟩,λh1=>?_⟩;.rw[h2,qg,Hi] at ha;exact AM.next (m+1) rfl ⟨hlt,ha,rfl⟩ Ab
  .rw[h1,qi,Hi] at ha;exact AM.next (m+1) rfl ⟨hlt,ha,rfl⟩ Ab
 .have i1:¬(m:Int)<(l.length:Int):=by omega
  rw[AW Ef,WY] at ha;simp only[BJ,↓reduceIte,DG.CN,i1,Aw,Ap,An,ha]
def YA(hv:B4 l v)(hb:l.length<=1000000000)(node:Int):BZ cx 284 [v,I node] h (I (AP (BB node) l)) h:=by
 have hv:AV 4 (l.map Item.row) v:=hv;rw[Af,K_,aHU];refine Bj (λn:Nat=>[I (AP (BB node) (l.take n)),I (n:Int)]) (λn h1=>n<=l.length/\h1=h) (λn=>l.length-n) 0 rfl ⟨AU _,rfl⟩ ?_;rintro n h1 ⟨hn,rfl⟩;rcases AO n l.length with hlt|Ef
 .have i1:(n:Int)<(l.length:Int):=by omega
  have e:=GQ (q:=BB node) hlt;simp only[BJ,Fc,hv.CN,i1,Ax,Ap,An,hv.BN hlt,BQ (Ab:n<9223372036854775807)];refine⟨λhe=>?_,λhe=>?_⟩;.rw[Ae (by simpa[BB] using he)] at e;exact AM.next (n+1) (by rw[e]) ⟨hlt,rfl⟩ Ab
  .rw[Ac (by simpa[BB] using he)] at e;exact AM.next (n+1) (by rw[e]) ⟨hlt,rfl⟩ Ab
 .have i1:¬(n:Int)<(l.length:Int):=by omega
  simp only[BJ,hv.CN,i1,Aw,Ap,An,AD Ef]
def aDC(hv:B4 l v)(hb:l.length<=1000000000)(s:Aq):BZ cx 142 [v,.str s] h (I (AP (BD [s]) l)) h:=by
 have hv:AV 4 (l.map Item.row) v:=hv;have b:=λa=>f167 (h:=h) a (ws:=[s]) Da (AK:[s].length<=1000000000);rw[Af,xb,aGP];refine Bj (λn:Nat=>[I (AP (BD [s]) (l.take n)),I (n:Int)]) (λn h1=>n<=l.length/\h1=h) (λn=>l.length-n) 0 rfl ⟨AU _,rfl⟩ ?_;rintro n h1 ⟨hn,rfl⟩;rcases AO n l.length with hlt|Ef
 .have i1:(n:Int)<(l.length:Int):=by omega
  have e:=GQ (q:=BD [s]) hlt;simp only[BJ,Nat.reduceLeDiff,↓reduceIte,Fc,hv.CN,i1,Ax,Ap,An,hv.BN hlt,BQ (Ab:n<9223372036854775807),D7 (ws:=[s]) (args:=[.str s]) rfl AK,(b l[n]).Ad];rw[CQ];refine⟨λhe=>?_,λhe=>?_⟩;.rw[Ae he] at e;exact AM.next (n+1) (by rw[e]) ⟨hlt,rfl⟩ Ab
  .rw[Ac (by simpa using he)] at e;exact AM.next (n+1) (by rw[e]) ⟨hlt,rfl⟩ Ab
 .have i1:¬(n:Int)<(l.length:Int):=by omega
  simp only[BJ,↓reduceIte,hv.CN,i1,Aw,Ap,An,AD Ef]
def aNY(hv:B4 l v)(hb:l.length<=1000000000)(hl:∀a∈l,a.name.length<9223372036854775807)(n node:Int):BZ cx 293 [v,I n,I node] h (.bool (J2 (BB node) (JG n) l.reverse)) h:=by
 rw[Af,M_,aHW,<-aAW];simp only[BJ,(YA hv hb node).Ad];rcases De (q:=BB node) (l:=l) with⟨h1,h2⟩|⟨k,hk,h1,h2,c⟩
 .simp[h1]
 .rw[h1];simp only[BJ,(Ab:(0:Int)<=(k:Int)),(Ab:¬(k:Int)<0),Ax,Ap,An,(aIM hv hb hl (MC hk) n).Ad,AT]
def aNZ(hv:B4 l v)(hb:l.length<=1000000000)(hl:∀a∈l,a.name.length<9223372036854775807)(node:Int):BZ cx 355 [v,I node] h (I (D0 node l)) h:=by
 have DG:AV 4 (l.map Item.row) v:=hv;rw[Af,Á,aH9,IB];simp only[BJ,(YA hv hb node).Ad];rcases De (q:=BB node) (l:=l) with⟨h1,h2⟩|⟨k,hk,h1,h2,c⟩
 .simp[h1]
 .rw[h1];simp only[BJ,(Ab:¬(k:Int)<0),Aw,Ap,An,AT,BQ (Ab:k<9223372036854775807)];refine Bj (λn:Nat=>[I 0,I (n:Int)]) (λn h1=>E1 GR l (k+1)=E1 GR l n/\h1=h) (λn=>l.length-n) (k+1) rfl ⟨rfl,rfl⟩ ?_;rintro n h1 ⟨ha,rfl⟩;rcases AO n l.length with hlt|Ef
  .have i1:(n:Int)<(l.length:Int):=by omega
   rw[R2 hlt] at ha;simp only[BJ,Fc,DG.CN,i1,Ax,Ap,An,DG.BN hlt,iJ (hl _ (AN hlt)),BQ (Ab:n<9223372036854775807)];rw[CQ];refine⟨λhe=>by rw[ha,Ae (by exact he)],λhe=>?_⟩;rw[Ac (by simp[GR,he])] at ha;exact AM.next (n+1) rfl ⟨ha,rfl⟩ Ab
  .have i1:¬(n:Int)<(l.length:Int):=by omega
   rw[Qz Ef] at ha;simp only[BJ,DG.CN,i1,Aw,Ap,An,ha]
end
end
section
def Xz(F:Aa)(q:Item->Bool):Prop:=∃f caps,F= .func (.func f) [] caps/\f<=99999/\∀(a:Item) (h:Ah),BZ cx f (.agg a.row::caps) h (.bool (q a)) h
section
variable{h:Ah}{p v:Aa}{l:List Item}
def f42{id o:Nat}(hs:LQ h id o l)(hb:l.length<=1000000000)(h2:2<=l.length):∃u,BZ cx 82 [Pt id o] h (.agg (Fx l).row) (put h id o u)/\B4 (l.take (l.length-1)) u:=by obtain⟨v,hc,hv⟩:=(show LQ h id o l from hs);obtain⟨u,e,hu⟩:=AV.Mh hv (k:= .i64) (Ab:l.length-1<=l.length);refine⟨u,?_,hu⟩;have a:(l.length:Int)-1=((l.length-1:Nat):Int):=Ab;rw[Af,bO,t82];simp only[BJ,Fc,(UT hs.at).Ad,(f39 hs.at hb).Ad,hc.load,Bv,AV.CN hv,C6 (Ab: -9223372036854775808<=(l.length:Int)-1) (Ab:(l.length:Int)-1<9223372036854775808),a,e,hc.store (AV.cells hu),(Ab:¬(l.length:Int)<2),Aw,Ap,An]
def ä{id o:Nat}(hs:LQ h id o l)(hb:l.length<=1000000000){B A:Aa}{b a:Item->Bool}(hB:Xz B b)(d:Xz A a):
  ∃u,BZ cx 199 [Pt id o,B,A] h (I ((l.length:Int)-((DR b a l).length:Int))) (put h id o u)/\B4 (DR b a l) u:=by
 obtain⟨e,j,rfl,zK,rb⟩:=hB;obtain⟨fa,ca,rfl,hfa,ra⟩:=d;have hlt:=hs.lt;have Jc:Ev cx 199 [Pt id o,.func (.func e) [] j,.func (.func fa) [] ca] h λr h'=>r= I ((l.length:Int)-((DR b a l).length:Int))/\∃u,h'=put h id o u/\B4 (DR b a l) u:=by
  unfold Ev;rw[sF,aCj];refine Bj (λn:Nat=>[I ((l.length:Int)-(n:Int))]) (λn h1=>n<=l.length/\(∃u,h1=put h id o u/\B4 (l.take n) u)/\DR b a l=DR b a (l.take n)) (λn=>n) l.length AK ⟨Ag _,by rw[By];exact hs.bA,by rw[By]⟩ ?_;rintro n h1 ⟨hn,⟨u,rfl,hu⟩,ha⟩;have JQ:LQ (put h id o u) id o (l.take n):= .aAX hlt hu;have kM:(l.take n).length=n:=by rw[As];omega
  simp only[BJ,↓reduceIte,(UT JQ.at).Ad,kM];match n,hn,hu,ha,JQ,kM with
  |0,hn,hu,ha,JQ,kM=>rw[WZ (l:=l.take 0) AK] at ha;simp only[BJ,(Ab:¬(1:Int)<((0:Nat):Int)),Aw,Ap,An];exact⟨_,rfl,by rw[ha];rfl,u,rfl,by rw[ha];exact hu⟩
  |1,hn,hu,ha,JQ,kM=>rw[WZ (l:=l.take 1) (by rw[kM];exact Ag _)] at ha;simp only[BJ,(Ab:¬(1:Int)<((1:Nat):Int)),Aw,Ap,An];exact⟨_,rfl,by rw[ha,kM],u,rfl,by rw[ha];exact hu⟩
  |m+2,hn,hu,ha,JQ,kM=>
   have hm:m+1<l.length:=Ab;have i:((l.length:Int)-((m+2:Nat):Int))+1=(l.length:Int)-((m+1:Nat):Int):=Ab;obtain⟨c,hr,Jj⟩:=f42 JQ Ab Ab;rw[W0 hm] at hr;have g:(l.take (m+2)).take ((l.take (m+2)).length-1)=l.take (m+1):=by rw[kM,FA,Cs Ab];rfl
   rw[g] at Jj;rw[aY] at hr;have aIN:=f39 JQ.at Ab;rw[W0 hm] at aIN;rw[Zn hm] at ha;simp only[BJ,↓reduceIte,DC,hfa,zK,(Ab:(1:Int)<((m+2:Nat):Int)),Ax,Ap,An,aIN.Ad,(rb _ _).Ad,hr.Ad,(ra _ _).Ad,Od (Ab: -9223372036854775808<=((l.length:Int)-((m+2:Nat):Int))+1) (Ab:((l.length:Int)-((m+2:Nat):Int))+1<9223372036854775808),i];rw[CQ,CQ];refine⟨λSP=>⟨λYn=>?_,λYn=>?_⟩,λSP=>?_⟩
   .have SP:b l[m+1]=false:=by simpa using SP
    rw[Ac (by simp[SP]),Ae Yn] at ha;exact⟨_,rfl,by rw[ha,As,Cs Ab],c,rfl,by rw[ha];exact Jj⟩
   .have SP:b l[m+1]=false:=by simpa using SP
    rw[Ac (by simp[SP]),Ac (by simp[Yn])] at ha;exact AM.next (m+1) rfl ⟨Ab,⟨c,rfl,Jj⟩,ha⟩ Ab
   .have SP:b l[m+1]=true:=by simpa using SP
    rw[Ae SP] at ha;exact⟨_,rfl,by rw[ha,kM],u,rfl,by rw[ha];exact hu⟩
 obtain⟨r,h',hr,rfl,u,rfl,hu⟩:=Jc.ret;exact⟨u,hr,hu⟩
def Om:Xz (.func (.func 200) [] []) C0:=⟨_,_,rfl,A5,λa h=>by rw[Af,sG,aCk];simp only[BJ,Fc,C0]⟩
def nN{w:Aa}{ws:List Aq}(hw:JF ws w)(hn:ws.length<=1000000000):Xz (.func (.func 201) [] [.Cq [w]]) (BD ws):=⟨_,_,rfl,A5,λa h=>by rw[Af,sH,aCl];simp only[BJ,Fc,(iK hw hn a h).Ad]⟩
def cO(s:Aq):Xz (.func (.func 324) [] [.Cq [.str s]]) (Ex s):=⟨_,_,rfl,A5,λa h=>by
 rw[Af,tL,aCM];simp only[BJ,Fc,mh,Ex];refine⟨λh1=>by simp[h1],λh1=>?_⟩;rw[CQ];refine⟨λh2=>?_,λh2=>?_⟩
 .have h2:a.name∉Gs:=by simpa using h2
  simp[h2]
 .have h2:a.name∈Gs:=by simpa using h2
  have h1:a.A9=1:=by simpa using h1
  simp[h2,h1]⟩
def YB:Xz (.func (.func 341) [] []) CO:=⟨_,_,rfl,A5,λa h=>by
 rw[Af,uC,aC3];simp only[BJ,Fc,mi,CO];refine⟨λh1=>by simp[h1],λh1=>?_⟩;have h1:a.A9=1:=by simpa using h1
 simp[h1]⟩
def cP(node:Int):Xz (.func (.func 328) [] [.Cq [I node]]) (BB node):=⟨_,_,rfl,A5,λa h=>by rw[Af,tP,aCQ];simp only[BJ,Fc,BB]⟩
def aIO{id o:Nat}(hs:LQ h id o l)(hb:l.length<=1000000000)(s:Aq):
  ∃u,BZ cx 179 [Pt id o,.str s] h (I ((l.length:Int)-((DR (Ex s) C0 l).length:Int))) (put h id o u)/\B4 (DR (Ex s) C0 l) u:=by
 obtain⟨u,hr,hu⟩:=ä hs hb (cO s) Om;exact⟨u,by rw[Af,rO,aB3];simp only[BJ,hr.Ad],hu⟩
def f66{id o:Nat}(hs:LQ h id o l)(hb:l.length<=1000000000){w:Aa}{ws:List Aq}(hw:JF ws w)(hn:ws.length<=1000000000):
  ∃u,BZ cx 84 [Pt id o,w] h (I ((l.length:Int)-((DR C0 (BD ws) l).length:Int))) (put h id o u)/\B4 (DR C0 (BD ws) l) u:=by
 obtain⟨u,hr,hu⟩:=ä hs hb Om (nN hw hn);exact⟨u,by rw[Af,lg,t84];simp only[BJ,JF.cells hw,hr.Ad],hu⟩
def aN1{id o:Nat}(hs:LQ h id o l)(hb:l.length<=1000000000):
  ∃u,BZ cx 195 [Pt id o] h (I ((l.length:Int)-((DR CO C0 l).length:Int))) (put h id o u)/\B4 (DR CO C0 l) u:=by
 obtain⟨u,hr,hu⟩:=ä hs hb YB Om;exact⟨u,by rw[Af,sB,aCf];simp only[BJ,hr.Ad],hu⟩
def aIP{id o:Nat}(hs:LQ h id o l)(hb:l.length<=1000000000)(node:Int):
  ∃u,BZ cx 185 [Pt id o,I node] h (I ((l.length:Int)-((GS node l).length:Int))) (put h id o u)/\B4 (GS node l) u:=by
 by_cases FW:AP (BB node) l<0;.obtain⟨u,e,hu⟩:=hs.bA;refine⟨u,?_,by rw[GS,Ae FW];exact hu⟩;rw[GS,Ae FW,Int.sub_self,Af,bZ,xw];simp only[BJ,(Yz hs.at hb node).Ad,FW,Ax,Ap,An];exact e
 .obtain⟨u,hr,hu⟩:=ä hs hb Om (cP node);refine⟨u,?_,by rw[GS,Ac FW];exact hu⟩;rw[GS,Ac FW,Af,bZ,xw];simp only[BJ,(Yz hs.at hb node).Ad,FW,Aw,Ap,An,hr.Ad]
end
end
section
section
variable{h:Ah}{p v:Aa}{l:List Item}
def aN2(hv:B4 l v){k:Nat}(hk:k<l.length)(hb:l.length<=1000000000):∃u,BZ cx 369 [v,I (k:Int)] h u h/\B4 (Bf l k) u:=by obtain⟨r,j,h1⟩:=AV.Mh hv (k:= .i64) (Ab:k<=l.length);obtain⟨q,i,h2⟩:=AV.Gu h1 (b:=40) (QA (by rw[As];omega));obtain⟨m,g,d⟩:=AV.RZ hv (k:= .i64) (Ab:k+1<=l.length);obtain⟨a,e,c⟩:=AV.aX h2 d (b:=40) (QA (by rw[As,Bc];omega));refine⟨a,?_,c⟩;rw[Af,uN,aDe];simp only[BJ,j,i,BQ (Ab:k<9223372036854775807),g,e]
def aDD{id o:Nat}(hs:LQ h id o l)(hb:l.length<=1000000000)(node:Int):∃u,BZ cx 244 [Pt id o,I node] h (.bool (decide (1<=AP (BB node) l))) (put h id o u)/\B4 (C2 node l) u:=by
 by_cases FW:AP (BB node) l<1;.obtain⟨u,e,hu⟩:=hs.bA;refine⟨u,?_,by rw[C2,Ae FW];exact hu⟩;rw[Af,cE,y_,<-e];simp only[BJ,(Yz hs.at hb node).Ad,FW,Ax,Ap,An,(Ab:¬1<=AP (BB node) l),Ec]
 .rcases De (q:=BB node) (l:=l) with⟨h1,_⟩|⟨k,hk,h1,_⟩
  .rw[h1] at FW;omega
  .obtain⟨v,hc,hv⟩:=(show LQ h id o l from hs);obtain⟨u,hr,hu⟩:=aN2 (h:=h) hv hk hb;refine⟨u,?_,by rw[C2,Ac FW,h1];exact hu⟩;rw[Af,cE,y_];simp only[BJ,(Yz hs.at hb node).Ad,hc.load,Bv,h1];rw[h1] at FW;simp only[BJ,hr.Ad,Bv,hc.store (B4.cells hu),show¬(k:Int)<1 from FW,Aw,Ap,An,(Ab:(1:Int)<=(k:Int)),DV]
def aN3{id o:Nat}(hs:LQ h id o l)(hb:l.length<=1000000000)(a:Item)(i:Int):∃u,BZ cx 336 [Pt id o,.agg a.row,I i] h (.tuple []) (put h id o u)/\B4 (l.take (E2 i l.length)++a::l.drop (E2 i l.length)) u:=by
 obtain⟨v,hc,hv⟩:=(show LQ h id o l from hs);obtain⟨u,hr,hu⟩:=aIK (h:=h) hv a (n:=E2 i l.length) (by unfold E2;omega) hb;refine⟨u,?_,hu⟩;rw[Af,tX,aCY];have c:(if(l.length:Int)<(if i<1 then 1 else i) then(l.length:Int) else(if i<1 then 1 else i))=((E2 i l.length:Nat):Int):=by unfold E2;split<;>split<;>omega
 simp only[BJ,Fc,Rj,IL,hc.load,Bv,aT,AV.CN hv,ja,c,hr.Ad,hc.store (B4.cells hu)]
def aN4(hv:B4 l v)(hne:l≠[])(hb:l.length<=1000000000):BZ cx 429 [v] h (.CD h.length 0 l.length 4) (h++[.cells (l.map Item.row).flatten]):=by
 have d:AB (.GC false .sl) [v,.slnil]=some (.bool false):=by
  rcases hv with rfl|⟨rfl,hv⟩
  .rfl
  .exact absurd (by simpa using hv) hne
 have c:AB (.BI 4) []=some (.sl 4 []):=rfl;have a:=Lc (h:=h) (s:= .sl 4 []) (z:=4) (b:=40) (.inr rfl) hv (by simpa using hne) (by rw[Al];exact QA Ab);rw[Al] at a;rw[Af,vD,aDv];simp only[BJ,d,c,a]
section
variable{id o n z:Nat}{v w:Aa}{X Y:Dx}{Az:List (List Aa)}
def At.next(ha:At h id o v):(Am.put h id o w++[X])[h.length]?=some X/\At (Am.put h id o w++[X]) id o w/\(Am.put h id o w++[X]).set h.length Y=Am.put h id o w++[Y]:=by have e:=Jy (h:=h) (id:=id) (o:=o) (u:=w);refine⟨by rw[<-e];simp,ha.put.Iq,?_⟩;rw[BP _ _ Ab,<-e,C9];rfl
def At.vH(ha:At h id o v)(hv:Kq h v=some (h,v)):L5 h 0 (Pt id o)=some h:=by have a:=ha.same;obtain⟨cs,hc,e⟩:=ha;simp only[L5,hc,Bv,e,hv,Cv];rw[Ig hc] at a;rw[a]
def At.vI(ha:At h id o v)(hr:∀r∈Az,r.length=z):L5 (Am.put h id o (.CD h.length 0 Az.length z)++[.cells Az.flatten]) 0 (Pt id o)=some (Am.put h id o (.sl z Az)++[.CT]):=by obtain⟨d,c,a⟩:=ha.next (w:= .CD h.length 0 Az.length z) (X:= .cells Az.flatten) (Y:= .CT);have f1:=JU hr d;rw[a] at f1;have a2:=(ha.next (w:= .CD h.length 0 Az.length z) (X:= .CT) (Y:= .CT)).2.1;obtain⟨cs,hc,e⟩:=c;obtain⟨RM,IS,g⟩:=a2;simp only[L5,hc,Bv,e,f1,Cv,IS];rw[<-Ig (u:= .sl z Az) IS,aZ ha.put,aY]
end
def aN5{id o:Nat}(hs:LQ h id o l)(hb:l.length<=1000000000)(node:Int)(a:Item):∃u t,BZ cx 407 [Pt id o,I node,.agg a.row] h (.bool (decide (1<=AP (BB node) l))) (put h id o u++t)/\B4 (Pp node a l) u:=by
 obtain⟨v,hc,hv⟩:=(show LQ h id o l from hs);by_cases FW:AP (BB node) l<1;.refine⟨v,[],?_,by rw[Pp,Ae FW];exact hv⟩;have c:=hc.vH (AV.LK hv);rw[Af,cK,Ú,hc.same,BK];simp only[BJ,Fc,(Yz hs.at hb node).Ad,FW,Ax,Ap,An,c,(Ab:¬1<=AP (BB node) l),Ec]
 .rcases De (q:=BB node) (l:=l) with⟨h1,_⟩|⟨k,hk,h1,_⟩
  .rw[h1] at FW;omega
  .have ł:¬(k:Int)<1:=by rw[h1] at FW;exact FW
   have hne:l≠[]:=by intro e;subst e;simp at hk
   have hcl:=aN4 (h:=h) hv hne hb;have g:=(hc.Iq (t:=[Dx.cells (l.map Item.row).flatten])).store (u:= .CD h.length 0 l.length 4) rfl;rw[aZ hc] at g;obtain⟨r,s,m⟩:=hc.next (w:= .CD h.length 0 l.length 4) (X:= .cells (l.map Item.row).flatten) (Y:= .cells ((l.map Item.row).set k a.row).flatten);have d:=Uc (z:=4) (ji l) r (i:=k) (by simpa using hk) (q:=a.row) rfl;rw[m] at d;have j:AB (.FC 4) [.CD h.length 0 l.length 4,I (k:Int)]=some (Pt h.length (k*4)):=E0 hk;have c:=hc.vI (gE (ji l) (i:=k) (q:=a.row) rfl);rw[Br,Al] at c;refine⟨.sl 4 ((l.map Item.row).set k a.row),[.CT],?_,?_⟩;.rw[Af,cK,Ú];simp only[BJ,Fc,(Yz hs.at hb node).Ad,h1,ł,Aw,Ap,An,hc.load,Bv,hcl.Ad,g,s.load,j,d,c,(Ab:(1:Int)<=(k:Int)),DV]
   .rw[Pp,Ac FW,h1,AT,B4,Eo];exact .mk
def iL(hv:B4 l v)(hb:l.length<=1000000000)(i:Int):∃r h',BZ cx 229 [v,I i] h r h'/\bB h (Kf l i) r h':=by
 have DG:AV 4 (l.map Item.row) v:=hv;obtain⟨k,hk,PQ,hc⟩:∃k,k=min (max 1 i.toNat) l.length/\k<=l.length/\Kf l i=l.take k:=⟨_,rfl,Ab,by
  unfold Kf;rcases Nat.le_total (max 1 i.toNat) l.length with h1|h1
  .rw[Cs h1]
  .rw[Nat.min_eq_right h1,By,AD h1]⟩
 obtain⟨u,e,hu⟩:=AV.Mh hv (k:= .i64) PQ;obtain⟨r,h',a,hr⟩:=um (h:=h) (l:=l.take k) (v:=u) hu (by rw[As];omega);refine⟨r,h',?_,by rw[hc];exact hr⟩;rw[Af,yt,aHg];simp only[BJ,DG.CN];refine⟨λh1=>⟨λh2=>?_,λh2=>?_⟩,λh1=>⟨λh2=>?_,λh2=>?_⟩⟩
 .have:(k:Int)=(l.length:Int):=by omega
  rw[this] at e;simp only[BJ,e,a]
 .have:(k:Int)=1:=by omega
  rw[this] at e;simp only[BJ,e,a]
 .have:(k:Int)=(l.length:Int):=by omega
  rw[this] at e;simp only[BJ,e,a]
 .have:(k:Int)=i:=by omega
  rw[this] at e;simp only[BJ,e,a]
def aDE(hv:B4 l v)(hb:l.length<=1000000000):∃u t,BZ cx 223 [v] h u (h++t)/\B4 (Kf l ((l.length:Int)-1)) u:=by obtain⟨r,h',hr,hc⟩:=iL (h:=h) hv hb ((l.length:Int)-1);obtain⟨u,t,e,hu⟩:=hc.LK;refine⟨u,t,?_,hu⟩;rw[Af,yo,aHc];simp only[BJ,AV.CN hv,C6 (Ab: -9223372036854775808<=(l.length:Int)-1) (Ab:(l.length:Int)-1<9223372036854775808),hr.Ad,e]
def aIQ(hv:B4 l v)(hb:l.length<=1000000000)(node:Int):∃u t,BZ cx 219 [v,I node] h u (h++t)/\B4 (GS node l) u:=by
 by_cases FW:AP (BB node) l<0
 .obtain⟨r,h',hr,hc⟩:=iL (h:=h) hv hb (l.length:Int);obtain⟨u,t,e,hu⟩:=hc.LK;have a:Kf l (l.length:Int)=l:=by unfold Kf;rw[AD Ab]
  refine⟨u,t,?_,by rw[Uf,Ae FW];rwa [a] at hu⟩;rw[Af,sM,aCq];simp only[BJ,(YA hv hb node).Ad,FW,Ax,Ap,An,AV.CN hv,hr.Ad,e]
 .obtain⟨r,h',hr,hc⟩:=iL (h:=h) hv hb (AP (BB node) l);obtain⟨u,t,e,hu⟩:=hc.LK;refine⟨u,t,?_,by rw[Uf,Ac FW];exact hu⟩;rw[Af,sM,aCq];simp only[BJ,(YA hv hb node).Ad,FW,Aw,Ap,An,hr.Ad,e]
end
end
section
section
variable{h:Ah}{p v w:Aa}{l:List Item}{ws:List Aq}
def f85(hv:B4 l v)(hb:l.length<=1000000000)(hw:JF ws w)(hn:ws.length<=1000000000):∃u t,BZ cx 103 [v,w] h u (h++t)/\B4 (Kf l (AP (BD ws) l)) u:=by
 have DG:AV 4 (l.map Item.row) v:=hv;have Jc:Ev cx 103 [v,w] h λr h'=>∃t,h'=h++t/\B4 (Kf l (AP (BD ws) l)) r:=by
  unfold Ev;rw[vn,aGt];simp only[BJ,DG.CN,C6 (Ab: -9223372036854775808<=(l.length:Int)-1) (Ab:(l.length:Int)-1<9223372036854775808)];refine Bj (λn:Nat=>[.slnil,I ((n:Int)-1)]) (λn h1=>n<=l.length/\AP (BD ws) l=AP (BD ws) (l.take n)/\h1=h) (λn=>n) l.length rfl ⟨Ag _,by rw[By],rfl⟩ ?_;rintro n h1 ⟨mn,ha,rfl⟩;cases n with
  |zero=>have i1:¬(0:Int)<=((0:Nat):Int)-1:=Ab;obtain⟨r,h',hr,hc⟩:=iL (h:=h1) hv hb 1;obtain⟨u,t,e,hu⟩:=hc.LK;rw[Kl,JW] at ha;simp only[BJ,↓reduceIte,i1,Aw,Ap,An,hr.Ad,e];exact⟨_,rfl,t,rfl,by rw[ha,jj];exact hu⟩
  |succ n=>
   have a:((n+1:Nat):Int)-1=(n:Int):=Ab;obtain⟨r,h',hr,hc⟩:=iL (h:=h1) hv hb (n:Int);obtain⟨u,t,e,hu⟩:=hc.LK;rw[GQ Ab] at ha;simp only[BJ,Nat.reduceLeDiff,↓reduceIte,Fc,a,(Ab:(0:Int)<=(n:Int)),Ax,Ap,An,DG.BN (Ab:n<l.length),(f167 l[n] hw hn).Ad,hr.Ad,e,C6 (Ab: -9223372036854775808<=(n:Int)-1) (Ab:(n:Int)-1<9223372036854775808)];rw[CQ];refine⟨λhe=>?_,λhe=>?_⟩;.rw[Ae he] at ha;exact⟨_,rfl,t,rfl,by rw[ha];exact hu⟩
   .rw[Ac (by simp[he])] at ha;exact AM.next n rfl ⟨Ab,ha,rfl⟩ Ab
 obtain⟨r,h',hr,t,rfl,hu⟩:=Jc.ret;exact⟨r,t,hr,hu⟩
def f165(hv:B4 l v)(hb:l.length<=1000000000)(hl:∀a∈l,a.name.length<9223372036854775807)(s:Aq)(all:Bool):∃u t,BZ cx 216 [v,.str s,.bool all] h u (h++t)/\B4 (DR (ET s all) C0 l) u:=by
 have DG:AV 4 (l.map Item.row) v:=hv;have Jc:Ev cx 216 [v,.str s,.bool all] h λr h'=>∃t,h'=h++t/\B4 (DR (ET s all) C0 l) r:=by
  unfold Ev;rw[yi,aG6];simp only[BJ,DG.CN];refine Bj (λn:Nat=>[I (n:Int)]) (λn h1=>n<=l.length/\(l=[]\/1<=n)/\DR (ET s all) C0 l=DR (ET s all) C0 (l.take n)/\h1=h) (λn=>n) l.length rfl ⟨Ag _,by cases l<;>simp,by rw[By],rfl⟩ ?_;rintro n h1 ⟨mn,h0,ha,rfl⟩;have HC:DR (ET s all) C0 l=l.take n->∃u t,Kq h1 u=some (h1++t,u):=λ_=>⟨.slnil,[],by rw[BK];rfl⟩;obtain⟨r,h',hr,hc⟩:=iL (h:=h1) hv hb (n:Int);obtain⟨u,t,e,hu⟩:=hc.LK;have j:Kf l (n:Int)=l.take n:=by
   unfold Kf;rcases h0 with rfl|h0
   .simp
   .rw[AT,oX h0]
  rw[j] at hu;rcases AO 1 n with hlt|Ef
  .obtain⟨m,rfl⟩:∃m,n=m+2:=⟨n-2,Ab⟩;have hm:m+1<l.length:=Ab;have i1:(1:Int)<((m+2:Nat):Int):=Ab;have D:((m+2:Nat):Int)-1=((m+1:Nat):Int):=Ab;have hs:=hl _ (AN hm);rw[Zn hm] at ha;have next:ET s all l[m+1]=false->AM cx (λn:Nat=>[I (n:Int)]) (λn h2=>n<=l.length/\(l=[]\/1<=n)/\DR (ET s all) C0 l=DR (ET s all) C0 (l.take n)/\h2=h1) (λn=>n)
     (λx C=>match x with
      | .normal=> .fail
      | .exit i=>if i=0 then .call 229 [v,g C 0] λy=> .LK y λv22=> .ret .ret [v22] else .fail
      | .ret=> .LK .slnil λq=> .ret .ret [q])
     (λx vs h'=>x=Fp.ret/\∃r,vs=[r]/\∃t,h'=h1++t/\B4 (DR (ET s all) C0 l) r) (m+2) .normal [I ((m+1:Nat):Int)] h1:=λhf=>by
    rw[Ac (by simp[hf]),Ac (by simp[C0])] at ha;exact AM.next (m+1) rfl ⟨Ab,.inr Ab,ha,rfl⟩ Ab
   have stop:ET s all l[m+1]=true->∃r,[u]=[r]/\∃A,h1++t=h1++A/\B4 (DR (ET s all) C0 l) r:=λhf=>by rw[Ae hf] at ha;exact⟨_,rfl,t,rfl,by rw[ha];exact hu⟩
   simp only[BJ,Nat.reduceLeDiff,↓reduceIte,Fc,i1,Ax,Ap,An,C6 (Ab: -9223372036854775808<=((m+2:Nat):Int)-1) (Ab:((m+2:Nat):Int)-1<9223372036854775808),D,DG.BN hm,ml hs,mm hs,hr.Ad,e];cases all with
   |true=>
    simp only[BJ,Rh];refine⟨λd=>stop (by simp[ET,CO,d]),λd=>?_⟩;rw[CQ];refine⟨λc=>stop ?_,λc=>?_⟩;.simp at c;simp[ET,CO,c]
    .simp at d c;exact next (by simp[ET,CO,d];exact c)
   |false=>
    simp only[BJ,IL];refine⟨λd=>stop (by simp[ET,Ex,d]),λd=>?_⟩;rw[CQ];refine⟨λc=>stop ?_,λc=>?_⟩;.simp at c;simp[ET,Ex,c]
    .refine⟨λB=>stop (by simp[ET,Ex,B]),λB=>?_⟩;simp at d c;exact next (by simp[ET,Ex,d,c,B])
  .have i1:¬(1:Int)<(n:Int):=by omega
   rw[WZ (l:=l.take n) (by rw[As];omega)] at ha;simp only[BJ,↓reduceIte,i1,Aw,Ap,An,hr.Ad,e];exact⟨_,rfl,t,rfl,by rw[ha];exact hu⟩
 obtain⟨r,h',hr,t,rfl,hu⟩:=Jc.ret;exact⟨r,t,hr,hu⟩
def aN7(hv:B4 l v)(hb:l.length<=1000000000)(node:Int):∃u t,BZ cx 138 [v,I node] h (.tuple [u,.bool (decide (1<=AP (BB node) l))]) (h++t)/\B4 (C2 node l) u:=by
 have j:∀(h:Ah) b,Kq h (.bool b)=some (h,.bool b):=λ_ _=>rfl;by_cases FW:AP (BB node) l<1
 .obtain⟨r,h',hr,hc⟩:=iL (h:=h) hv hb (l.length:Int);obtain⟨u,t,e,hu⟩:=hc.LK;have A:Kf l (l.length:Int)=l:=by unfold Kf;rw[AD Ab]
  refine⟨u,t,?_,by rw[C2,Ae FW];rwa [A] at hu⟩;rw[Af,bR,w_];simp only[BJ,(YA hv hb node).Ad,FW,Ax,Ap,An,AV.CN hv,hr.Ad,e,j,(Ab:¬1<=AP (BB node) l),Ec]
 .rcases De (q:=BB node) (l:=l) with⟨h1,_⟩|⟨k,hk,h1,_⟩
  .rw[h1] at FW;omega
  .have ł:¬(k:Int)<1:=by rw[h1] at FW;exact FW
   obtain⟨r,h',hr,hc⟩:=iL (h:=h) hv hb (k:Int);have g:Kf l (k:Int)=l.take k:=by unfold Kf;rw[AT,oX Ab]
   rw[g] at hc;rcases hc with⟨h2,_⟩|⟨hne,rfl,rfl⟩
   .have:=Ce List.length h2;rw[As,B1] at this;omega
   .obtain⟨x,m,i⟩:=AV.RZ hv (k:= .i64) (Ab:k+1<=l.length);have ż:(l.take k).length=k:=by rw[As];omega
    have s:(h++[Dx.cells ((l.take k).map Item.row).flatten])[h.length]?=some (.cells ((l.take k).map Item.row).flatten):=AK;have c:=ji (l.take k);have d:((l.take k).map Item.row).length=(l.take k).length:=Al ..;by_cases hd:l.drop (k+1)=[]
    .have a:F9 (h++[Dx.cells ((l.take k).map Item.row).flatten]) 4 40 (.CD h.length 0 (l.take k).length 4) x=some (h++[Dx.cells ((l.take k).map Item.row).flatten],.CD h.length 0 (l.take k).length 4):=mD (by rw[hd] at i;exact i);have f1:=JU c s;rw[d,BP _ _ (Ag _),C9] at f1;refine⟨.sl 4 ((l.take k).map Item.row),[.CT],?_,?_⟩;.rw[Af,bR,w_];simp only[BJ,(YA hv hb node).Ad,h1,ł,Aw,Ap,An,BQ (Ab:k<9223372036854775807),m,hr.Ad,a,f1,j,PI,(Ab:(1:Int)<=(k:Int)),DV]
     .rw[C2,Ac FW,h1,AT,Bf,hd,BK];exact .mk
    .have a:=JE (b:=40) c A5 s i (by simpa using hd) (by rw[Al,Al,As,Bc];exact QA Ab);rw[d,Al] at a;rw[BP _ _ (Ag _),C9,PI,AJ] at a;have B:(h++([Dx.CT]++[Dx.cells ((l.take k).map Item.row++(l.drop (k+1)).map Item.row).flatten]))[h.length+1]?=some (.cells ((Bf l k).map Item.row).flatten):=by rw[Bm Ab];simp[Bf]
     have f1:=JU (ji (Bf l k)) B;have jR:(Bf l k).length=(l.take k).length+(l.drop (k+1)).length:=by simp[Bf]
     rw[Al,jR] at f1;have y:(h++[Dx.CT,Dx.cells ((l.take k).map Item.row++(l.drop (k+1)).map Item.row).flatten]).set (h.length+1) .CT=h++[.CT,.CT]:=by rw[BP _ _ Ab];simp
     simp only[Au,Bp,CK,BV] at a f1;rw[y] at f1;refine⟨.sl 4 ((Bf l k).map Item.row),[.CT,.CT],?_,?_⟩;.rw[Af,bR,w_];simp only[BJ,(YA hv hb node).Ad,h1,ł,Aw,Ap,An,BQ (Ab:k<9223372036854775807),m,hr.Ad,a,f1,j,(Ab:(1:Int)<=(k:Int)),DV]
     .rw[C2,Ac FW,h1,AT];exact .mk
def aN8(hv:B4 l v)(hb:l.length<=1000000000)(a:Item)(i:Int):∃u,BZ cx 357 [v,.agg a.row,I i] h u h/\B4 (l.take (E2 i l.length)++a::l.drop (E2 i l.length)) u:=by
 have DG:AV 4 (l.map Item.row) v:=hv;obtain⟨k,iM,hk⟩:∃k,k=E2 i l.length/\k<=l.length:=⟨_,rfl,by unfold E2;omega⟩;obtain⟨x,d,h1⟩:=AV.Mh hv (k:= .i64) hk;obtain⟨t,j,h2⟩:=AV.Gu h1 (b:=40) (QA (by rw[As];omega));have g:=AV.Ke (a:=a) h2 (b:=40) (QA (by rw[As];omega));obtain⟨s,c,r⟩:=AV.RZ hv (k:= .i64) hk;obtain⟨q,e,m⟩:=AV.aX (v:= .sl 4 ((l.take k++[a]).map Item.row)) .mk r (b:=40) (QA (by rw[Au,As,Bc,Bp];omega));refine⟨q,?_,by rw[AJ] at m;rw[<-iM];exact m⟩;rw[Af,Ã,aIb];simp only[BJ,Fc,DG.CN];unfold E2 at iM;refine⟨λh1=>⟨λh2=>?_,λh2=>?_⟩,λh1=>⟨λh2=>?_,λh2=>?_⟩⟩
 .have:(k:Int)=(l.length:Int):=by omega
  rw[this] at d c;simp only[BJ,d,j,Mi,g,c,e]
 .have:(k:Int)=1:=by omega
  rw[this] at d c;simp only[BJ,d,j,Mi,g,c,e]
 .have:(k:Int)=(l.length:Int):=by omega
  rw[this] at d c;simp only[BJ,d,j,Mi,g,c,e]
 .have:(k:Int)=i:=by omega
  rw[this] at d c;simp only[BJ,d,j,Mi,g,c,e]
end
end
section
section
variable{e:Cl}{d:Aa}
end
section
variable{h:Ah}{v:Aa}{l:List Cl}{id o:Nat}
def f99(hc:At h id o v)(hv:Dl l v)(hb:l.length<=1000000000):BZ cx 198 [Pt id o] h (I (since l)) h:=by
 have hv:AV 3 (l.map Cl.row) v:=hv;rw[Af,sE,aCi];simp only[BJ,hc.load,Bv,hv.CN];refine Bj (λn:Nat=>[I (n:Int)]) (λn h1=>n<=l.length/\since l=since (l.take n)/\h1=h) (λn=>n) l.length rfl ⟨Ag _,by rw[By],rfl⟩ ?_;rintro n h1 ⟨hn,ha,rfl⟩;cases n with
 |zero=>simp only[BJ,(Ab:¬(0:Int)<((0:Nat):Int)),Aw,Ap,An,ha,yP];rfl
 |succ n=>rw[Xc hn] at ha;simp only[BJ,(Ab:(0:Int)<((n+1:Nat):Int)),Ax,Ap,An,hc.load,Bv,If (Ab:0<n+1) (Ab:n+1<9223372036854775807),Fb,hv.BN (show n<l.length from hn),Cl.at0];refine⟨λh0=>AM.next n rfl ⟨Ab,by rw[ha,Ac h0],rfl⟩ Ab,λh0=>?_⟩;rw[Ae (by simpa using h0)] at ha;rw[ha];rfl
def å(hv:Dl l v)(hb:l.length<=1000000000):BZ cx 228 [v] h (I (since l)) h:=by
 have hv:AV 3 (l.map Cl.row) v:=hv;rw[Af,yr,aHf];refine Bj (λn:Nat=>[I (since (l.take n)),I (n:Int)]) (λn h1=>n<=l.length/\h1=h) (λn=>l.length-n) 0 rfl ⟨AU _,rfl⟩ ?_;rintro n h1 ⟨hn,rfl⟩;rcases AO n l.length with hlt|Ef
 .have i1:(n:Int)<(l.length:Int):=by omega
  have a:=Xc hlt;simp only[BJ,hv.CN,i1,Ax,Ap,An,hv.BN hlt,Cl.at0,BQ (Ab:n<9223372036854775807)];refine⟨λh0=>?_,λh0=>?_⟩;.rw[Ae h0] at a;exact AM.next (n+1) (by rw[a];rfl) ⟨hlt,rfl⟩ Ab
  .rw[Ac h0] at a;exact AM.next (n+1) (by rw[a]) ⟨hlt,rfl⟩ Ab
 .have i1:¬(n:Int)<(l.length:Int):=by omega
  simp only[BJ,hv.CN,i1,Aw,Ap,An,AD Ef]
def aN9(hc:At h id o v)(hv:Dl l v)(hb:l.length<=1000000000)(name:Aq):BZ cx 330 [Pt id o,.str name] h (I (NA name l)) h:=by
 have hv:AV 3 (l.map Cl.row) v:=hv;rw[Af,tR,aCS];simp only[BJ,H5,hc.load,Bv,hv.CN,C6 (Ab: -9223372036854775808<=(l.length:Int)-1) (Ab:(l.length:Int)-1<9223372036854775808)];refine Bj (λn:Nat=>[I 0,I ((n:Int)-1)]) (λn h1=>n<=l.length/\NA name l=NA name (l.take n)/\h1=h) (λn=>n) l.length rfl ⟨Ag _,by rw[By],rfl⟩ ?_;rintro n h1 ⟨hn,ha,rfl⟩;cases n with
 |zero=>have i1:¬(0:Int)<=((0:Nat):Int)-1:=Ab;rw[ha];simp only[BJ,i1,Aw,Ap,An,yQ]
 |succ n=>
  have a:((n+1:Nat):Int)-1=(n:Int):=Ab;rw[Q7 hn] at ha;simp only[BJ,a,(Ab:(0:Int)<=(n:Int)),Ax,Ap,An,hc.load,Bv,hv.BN (show n<l.length from hn),Cl.at0,Cl.qN,C6 (Ab: -9223372036854775808<=(n:Int)-1) (Ab:(n:Int)-1<9223372036854775808)];refine⟨λh0=>⟨λh1=>?_,λh1=>?_⟩,λh0=>?_⟩;.rw[ha,Ac h0,Ae h1]
  .exact AM.next n rfl ⟨Ab,by rw[ha,Ac h0,Ac h1],rfl⟩ Ab
  .rw[ha,Ae (by simpa using h0)]
def aOa(hv:Dl l v)(hb:l.length<=1000000000)(name:Aq):BZ cx 353 [v,.str name] h (I (NA name l)) h:=by
 have DG:AV 3 (l.map Cl.row) v:=hv;obtain⟨s,es,JQ,c,g⟩:=JH l;have f:=å (h:=h) hv hb;rw[es] at f;rw[Af,À,aH8];simp only[f.Ad];refine Bj (λn:Nat=>[I (NA name (l.take n)),I (n:Int)]) (λn h1=>s<=n/\n<=l.length/\h1=h) (λn=>l.length-n) s (by rw[gO es]) ⟨Ag _,JQ,rfl⟩ ?_;rintro n h1 ⟨b,hn,rfl⟩;rcases AO n l.length with hlt|Ef
 .have i1:(n:Int)<(l.length:Int):=by omega
  have a:=Q7 (name:=name) hlt;rw[Ac (c n hlt b)] at a;simp only[BJ,DG.CN,i1,Ax,Ap,An,DG.BN hlt,Cl.qN,BQ (Ab:n<9223372036854775807)];refine⟨λh0=>?_,λh0=>?_⟩;.rw[Ae h0] at a;exact AM.next (n+1) (by rw[a]) ⟨Ab,hlt,rfl⟩ Ab
  .rw[Ac h0] at a;exact AM.next (n+1) (by rw[a]) ⟨Ab,hlt,rfl⟩ Ab
 .have i1:¬(n:Int)<(l.length:Int):=by omega
  simp only[BJ,DG.CN,i1,Aw,Ap,An,AD Ef]
def f41(hc:At h id o v)(hv:Dl l v)(hb:l.length<=1000000000)(node:Int):BZ cx 188 [Pt id o,I node] h (I (Hu node l)) h:=by
 have hv:AV 3 (l.map Cl.row) v:=hv;rw[Af,rV,aCa];simp only[BJ,H5,hc.load,Bv,hv.CN,C6 (Ab: -9223372036854775808<=(l.length:Int)-1) (Ab:(l.length:Int)-1<9223372036854775808)];refine⟨λh0=>by rw[Hu,Ae h0],λh0=>?_⟩;rw[Hu,Ac h0];refine Bj (λn:Nat=>[I 0,I ((n:Int)-1)]) (λn h1=>n<=l.length/\AP (Pr node) l=AP (Pr node) (l.take n)/\h1=h) (λn=>n) l.length rfl ⟨Ag _,by rw[By],rfl⟩ ?_;rintro n h1 ⟨hn,ha,rfl⟩;cases n with
 |zero=>have i1:¬(0:Int)<=((0:Nat):Int)-1:=Ab;rw[ha];simp only[BJ,i1,Aw,Ap,An,JW]
 |succ n=>
  have a:((n+1:Nat):Int)-1=(n:Int):=Ab;rw[GQ hn] at ha;simp only[BJ,a,(Ab:(0:Int)<=(n:Int)),Ax,Ap,An,hc.load,Bv,hv.BN (show n<l.length from hn),Cl.at0,C6 (Ab: -9223372036854775808<=(n:Int)-1) (Ab:(n:Int)-1<9223372036854775808)];refine⟨λh1=>?_,λh1=>?_⟩;.rw[ha,Ae (by simpa[Pr] using h1)]
  .exact AM.next n rfl ⟨Ab,by rw[ha,Ac (by simpa[Pr] using h1)],rfl⟩ Ab
def aOc(hv:Dl l v)(hb:l.length<=1000000000)(node:Int):BZ cx 222 [v,I node] h (I (Hu node l)) h:=by
 have DG:AV 3 (l.map Cl.row) v:=hv;rw[Af,yn,aHb];refine Bj (λn:Nat=>[I (Hu node (l.take n)),I (n:Int)]) (λn h1=>n<=l.length/\h1=h) (λn=>l.length-n) 0 (by simp[Hu,JW]) ⟨AU _,rfl⟩ ?_;rintro n h1 ⟨hn,rfl⟩;rcases AO n l.length with hlt|Ef
 .have i1:(n:Int)<(l.length:Int):=by omega
  have a:Hu node (l.take (n+1))=if node=0 then -1 else if l[n].c.node=node then(n:Int) else AP (Pr node) (l.take n):=by unfold Hu;rw[GQ hlt];simp[Pr]
  simp only[BJ,DG.CN,i1,Ax,Ap,An,DG.BN hlt,Cl.at0,BQ (Ab:n<9223372036854775807)];refine⟨λh0=>⟨λh1=>?_,λh1=>?_⟩,λh0=>?_⟩;.exact AM.next (n+1) (by rw[a,Ac h0,Ae h1]) ⟨hlt,rfl⟩ Ab
  .exact AM.next (n+1) (by rw[a,Ac h0,Ac h1,Hu,Ac h0]) ⟨hlt,rfl⟩ Ab
  .have h0:node=0:=by simpa using h0
   exact AM.next (n+1) (by rw[a,Ae h0,Hu,Ae h0]) ⟨hlt,rfl⟩ Ab
 .have i1:¬(n:Int)<(l.length:Int):=by omega
  simp only[BJ,DG.CN,i1,Aw,Ap,An,AD Ef]
end
section
variable{h:Ah}{v:Aa}{l:List A6}
def aIT(hv:Bz l v)(hb:l.length<=1000000000)(x:A6):BZ cx 382 [v,.agg x.row] h (.bool (decide (x∈l))) h:=by
 have hv:AV 3 (l.map A6.row) v:=hv;rw[Af,Ó,aIq];simp only[BJ,A6.CL,A6.g0,A6.g1,A6.g2,A6.Pn];refine Bj (λn:Nat=>[.bool false,I (n:Int)]) (λn h1=>n<=l.length/\x∉l.take n/\h1=h) (λn=>l.length-n) 0 rfl ⟨AU _,AK,rfl⟩ ?_;rintro n h1 ⟨hn,ha,rfl⟩;rcases AO n l.length with hlt|Ef
 .have i1:(n:Int)<(l.length:Int):=by omega
  simp only[BJ,hv.CN,i1,Ax,Ap,An,hv.BN hlt,A6.CL,A6.HW,Ag,gL,qh,BQ (Ab:n<9223372036854775807)];refine⟨λh0=>?_,λh0=>?_⟩
  .have:x∈l:=by rw[<-h0];exact AN hlt
   simp[this]
  .refine AM.next (n+1) rfl ⟨hlt,?_,rfl⟩ Ab;rw[Ay hlt,Av,M9];exact⟨ha,by simpa using λe=>h0 e.symm⟩
 .have i1:¬(n:Int)<(l.length:Int):=by omega
  rw[AD Ef] at ha;simp only[BJ,hv.CN,i1,Aw,Ap,An,AG ha]
def aOd(hv:Bz l v)(hb:l.length<=1000000000)(x:A6):BZ cx 425 [v,.agg x.row] h (I (Co (λa=>decide (x=a)) 0 l)) h:=by
 have hv:AV 3 (l.map A6.row) v:=hv;rw[Af,u9,aDr];simp only[BJ,hv.CN,A6.CL,A6.g0,A6.g1,A6.g2,A6.Pn];refine Bj (λn:Nat=>[I 0,I (n:Int)]) (λn h1=>n<=l.length/\Co (λa=>decide (x=a)) 0 l=Co (λa=>decide (x=a)) n (l.drop n)/\h1=h) (λn=>l.length-n) 0 rfl ⟨AU _,rfl,rfl⟩ ?_;rintro n h1 ⟨hn,ha,rfl⟩;rcases AO n l.length with hlt|Ef
 .have i1:(n:Int)<(l.length:Int):=by omega
  rw[AF hlt,Co] at ha;simp only[BJ,i1,Ax,Ap,An,hv.BN hlt,A6.CL,A6.HW,Ag,gL,qh,BQ (Ab:n<9223372036854775807)];refine⟨λh0=>?_,λh0=>?_⟩;.rw[ha,Ae (by simpa using h0)]
  .exact AM.next (n+1) rfl ⟨hlt,by rw[ha,Ac (by simpa using h0)],rfl⟩ Ab
 .have i1:¬(n:Int)<(l.length:Int):=by omega
  rw[AW Ef,Co] at ha;simp only[BJ,i1,Aw,Ap,An,ha]
def aOe(hv:Bz l v)(hb:l.length<=1000000000)(x:A6):BZ cx 401 [v,.agg x.row] h (.bool (decide (x∈l))) h:=by
 rw[Af,uS,aDj];simp only[BJ,A6.CL,A6.g0,A6.g1,A6.g2,A6.Pn,(aOd hv hb x).Ad];rcases HH (p:=λa=>decide (x=a)) (l:=l) (k:=0) with⟨h1,h2⟩|⟨n,a,h1,h2,b⟩
 .rw[h1];have:x∉l:=λhm=>by have:=Jh.1 h2 x hm;simp at this
  simp[this]
 .have hm:=CB h2;have he:x=a:=by simpa using Ut b
  have hx:x∈l:=by rw[he];exact hm
  rw[h1];simp[hx]
def iN(F:Aa)(h:Ah)(q:A6->Bool):Prop:=∃f caps,F= .func (.func f) [] caps/\f<=99999/\∀a:A6,BZ cx f (.agg a.row::caps) h (.bool (q a)) h
def aIU{F:Aa}{q:A6->Bool}(hv:Bz l v)(hb:l.length<=1000000000)(hF:iN F h q):BZ cx 309 [v,F] h (I (Co q 0 l)) h:=by
 have hv:AV 3 (l.map A6.row) v:=hv;obtain⟨f,caps,rfl,hf,hr⟩:=hF;rw[Af,Vw,l_];simp only[BJ,hv.CN];refine Bj (λn:Nat=>[I 0,I (n:Int)]) (λn h1=>n<=l.length/\Co q 0 l=Co q n (l.drop n)/\h1=h) (λn=>l.length-n) 0 rfl ⟨AU _,rfl,rfl⟩ ?_;rintro n h1 ⟨mn,ha,rfl⟩;rcases AO n l.length with hlt|Ef
 .have i1:(n:Int)<(l.length:Int):=by omega
  rw[AF hlt,Co] at ha;simp only[BJ,↓reduceIte,DC,hf,i1,Ax,Ap,An,hv.BN hlt,A6.CL,A6.HW,Ag,(hr l[n]).Ad];rw[CQ];refine⟨λhe=>?_,λhe=>?_⟩;.rw[ha,Ae he]
  .rw[Ac (by simp[he])] at ha;simp only[BJ,BQ (Ab:n<9223372036854775807)];exact AM.next (n+1) rfl ⟨hlt,ha,rfl⟩ Ab
 .have i1:¬(n:Int)<(l.length:Int):=by omega
  rw[AW Ef,Co] at ha;simp only[BJ,↓reduceIte,DC,hf,i1,Aw,Ap,An,ha]
def aIV{F:Aa}{q:A6->Bool}(hv:Bz l v)(hb:l.length<=1000000000)(hF:iN F h q):BZ cx 191 [v,F] h (.bool (l.any q)) h:=by
 rw[Af,cA,xy];simp only[BJ,(aIU hv hb hF).Ad];have:l.any q=(l.find? q).isSome:=by rw[Oz,List.find?_isSome,SL]
 rw[this];rcases HH (p:=q) (l:=l) (k:=0) with⟨h1,h2⟩|⟨n,a,h1,h2,b⟩
 .rw[h1,h2];simp
 .rw[h1,b];simp
def aOf(hv:Bz l v)(hb:l.length<=1000000000)(x:A6):BZ cx 400 [.agg x.row,.Cq [v]] h (.bool (!decide (x∈l))) h:=by rw[Af,uR,aDi];simp only[BJ,A6.CL,A6.g0,A6.g1,A6.g2,A6.Pn,(aOe hv hb x).Ad]
def aIW{b:List A6}{w:Aa}(hv:Bz l v)(hb:l.length<=1000000000)(hw:Bz b w)(NT:b.length<=1000000000):BZ cx 399 [v,w] h (.bool (decide (∀x∈l,x∈b))) h:=by
 have hF:iN (.func (.func 400) [] [.Cq [w]]) h λx=> !decide (x∈b):=⟨400,_,rfl,A5,λa=>aOf hw NT a⟩;have e:(!l.any λx=> !decide (x∈b))=decide (∀x∈l,x∈b):=by rw[Oz];simp
 rw[Af,uQ,aDh,<-e];simp only[BJ,AV.cells hw,(aIV hv hb hF).Ad]
def aOg{a b:Cl}(ha:Yx a)(hb:Yx b):BZ cx 317 [.agg a.row,.agg b.row] h (.bool (GF a.c b.c)) h:=by
 have g:=aIW (h:=h) a.ok ha b.ok hb;have r2:=aIW (h:=h) b.ok hb a.ok ha;rw[Af,tF,aCG];simp only[BJ,Nat.reduceLeDiff,↓reduceIte,DC,BK,Cl.CL,Cl.g1,Cl.g2,Cl.uq,g.Ad,r2.Ad];refine⟨λh1=>⟨λh2=>⟨λf=>?_,λf=>?_⟩,λh2=>?_⟩,λh1=>?_⟩
 .have Y2:a.c.AA.length=b.c.AA.length:=by omega
  simp only[GF,h1,Y2,Mz];congr 3
  rw[eq_iff_iff];exact⟨λh=>⟨f,h⟩,λh=>h.2⟩
 .simp[GF,f]
 .have Y2:¬a.c.AA.length=b.c.AA.length:=by omega
  simp[GF,Y2]
 .simp[GF,h1]
def f241{a b:Cl}(ha:Yx a)(hb:Yx b):BZ cx 282 [.agg a.row,.agg b.row] h (.bool (GF a.c b.c)) h:=by
 have i:AV 3 (a.c.AA.map A6.row) a.v:=a.ok;have vb:AV 3 (b.c.AA.map A6.row) b.v:=b.ok;unfold Yx at ha hb;rw[Af,I_,aHS];simp only[BJ,Cl.CL,Cl.g1,Cl.g2,Cl.uq];refine⟨λh1=>?_,λh1=>⟨λh2=>?_,λh2=>?_⟩⟩;.simp[GF,h1]
 .have Y2:¬a.c.AA.length=b.c.AA.length:=by omega
  simp[GF,Y2]
 have h1:a.c.name=b.c.name:=by simpa using h1
 have h2:a.c.AA.length=b.c.AA.length:=Ab;refine Bj (λn:Nat=>[.bool false,I (n:Int)]) (λn h1=>n<=a.c.AA.length/\(∀x∈a.c.AA.take n,x∈b.c.AA)/\(∀x∈b.c.AA.take n,x∈a.c.AA)/\h1=h) (λn=>a.c.AA.length-n) 0 rfl ⟨AU _,AK,AK,rfl⟩ ?_;rintro n h1 ⟨hn,Yn,OP,rfl⟩;rcases AO n a.c.AA.length with hlt|Ef
 .have i1:(n:Int)<(a.c.AA.length:Int):=by omega
  have æ:n<b.c.AA.length:=Ab;have k:=AN hlt;have j:=AN æ;simp only[BJ,Cl.uq,i1,Ax,Ap,An,i.BN hlt,vb.BN æ,A6.CL,A6.HW,Ag,(aIT b.ok hb _).Ad,(aIT a.ok ha _).Ad,BQ (Ab:n<9223372036854775807)];rw[CQ,CQ];refine⟨λg=>?_,λg=>⟨λf=>?_,λf=>?_⟩⟩
  .have g:a.c.AA[n]∉b.c.AA:=by simpa using g
   have:GF a.c b.c=false:=by simp only[GF,SF];exact λh=>g (h.2.2.1 _ k)
   rw[this]
  .have f:b.c.AA[n]∉a.c.AA:=by simpa using f
   have:GF a.c b.c=false:=by simp only[GF,SF];exact λh=>f (h.2.2.2 _ j)
   rw[this]
  .have g:a.c.AA[n]∈b.c.AA:=by simpa using g
   have f:b.c.AA[n]∈a.c.AA:=by simpa using f
   refine AM.next (n+1) rfl ⟨hlt,?_,?_,rfl⟩ Ab
   .rw[Ay hlt];intro x hx;rcases Av.1 hx with hx|hx
    .exact Yn x hx
    .rw[DA.1 hx];exact g
   .rw[Ay æ];intro x hx;rcases Av.1 hx with hx|hx
    .exact OP x hx
    .rw[DA.1 hx];exact f
 .have i1:¬(n:Int)<(a.c.AA.length:Int):=by omega
  rw[AD Ef] at Yn;rw[AD Ab] at OP;have:GF a.c b.c=true:=by simp only[GF,CX];exact⟨by assumption,h2,Yn,OP⟩
  rw[this];simp only[BJ,Cl.uq,i1,Aw,Ap,An]
end
end
section
def BO{Q:HB}{h:Ah}{a:Aa}{k:IT}:W cx (.same a a k) Q h↔W cx k Q h:=by refine⟨λhw=>?_,cw (Aa.R6 a)⟩;obtain⟨m,x',HS,h',hr,q⟩:=hw.succ;simp only[IT.step,Aa.R6,BT] at hr;exact C5 ⟨m,x',HS,h',hr,q⟩
section
variable{h:Ah}{v:Aa}{l:List Cl}{id o:Nat}
def f45{l:List A6}(hv:Bz l v)(hb:l.length<=1000000000):∃u,BZ cx 147 [v] h u h/\Bz l u:=by
 have hv:AV 3 (l.map A6.row) v:=hv;rcases hv with rfl|⟨rfl,hn⟩
 .refine⟨.sl 3 (l.map A6.row),?_,.mk⟩;have b:AB (.GC false .sl) [.sl 3 (l.map A6.row),.slnil]=some (.bool false):=rfl;have f:AB (.BI 3) []=some (.sl 3 []):=rfl;have c:Qn h 3 40 (.sl 3 []) (.sl 3 (l.map A6.row))=some (.sl 3 (l.map A6.row)):=by
   simp only[Qn,GX,BT,Cv];cases l with
   |nil=>rfl
   |cons a l=>have:(l.length+1)*40<=AX:=QA (by simp at hb;omega);simp[DJ,this]
  rw[Af,bS,xe];simp only[BJ,b,f,c]
 .refine⟨.slnil,?_,?_⟩;.have b:AB (.GC false .sl) [.slnil,.slnil]=some (.bool true):=rfl;rw[Af,bS,xe];simp only[BJ,b]
  .exact .inr ⟨rfl,hn⟩
def mo{e:Cl}(he:Yx e):∃a:Cl,a.c=e.c/\BZ cx 319 [.agg e.row] h (.agg a.row) h:=by obtain⟨u,r,hu⟩:=f45 (h:=h) e.ok he;refine⟨⟨e.c,u,hu⟩,rfl,?_⟩;rw[Af,tH,aCI];simp only[BJ,Cl.CL,Cl.g0,Cl.g1,Cl.g2,r.Ad,AV.cells hu];rfl
def aOh{e:Cl}(he:Yx e):∃a:Cl,a.c=e.c/\BZ cx 227 [.agg e.row] h (.agg a.row) h:=by obtain⟨u,r,hu⟩:=AV.Gu (f:=A6.row) e.ok (b:=40) (QA (by unfold Yx at he;omega));refine⟨⟨e.c,u,hu⟩,rfl,?_⟩;rw[Af,yq,aHe];simp only[BJ,Cl.CL,Cl.g0,Cl.g1,Cl.g2,r,AV.cells hu];rfl
def aOi(hv:Dl l v){k:Nat}(hk:k<l.length)(hb:l.length<=1000000000):∃u,BZ cx 318 [v,I (k:Int)] h u h/\Dl (Bf l k) u:=by obtain⟨r,m,h1⟩:=AV.Mh hv (k:= .i64) (Ab:k<=l.length);obtain⟨q,j,h2⟩:=AV.Gu h1 (b:=48) (Pq (by rw[As];omega));obtain⟨p,i,f⟩:=AV.RZ hv (k:= .i64) (Ab:k+1<=l.length);obtain⟨a,g,c⟩:=AV.aX h2 f (b:=48) (Pq (by rw[As,Bc];omega));refine⟨a,?_,c⟩;rw[Af,tG,aCH];simp only[BJ,m,j,BQ (Ab:k<9223372036854775807),i,g]
def mq(hv:Dl l v)(e:Cl){k:Nat}(hk:k<=l.length)(hb:l.length<=1000000000):∃u,BZ cx 196 [v,.agg e.row,I (k:Int)] h u h/\Dl (l.take k++e::l.drop k) u:=by obtain⟨x,r,h1⟩:=AV.Mh hv (k:= .i64) hk;obtain⟨w,q,h2⟩:=AV.Gu h1 (b:=48) (Pq (by rw[As];omega));have p:=AV.Ke (a:=e) h2 (b:=48) (Pq (by rw[As];omega));obtain⟨t,m,i⟩:=AV.RZ hv (k:= .i64) hk;obtain⟨g,j,c⟩:=AV.aX (f:=Cl.row) (l:=l.take k++[e]) .mk i (b:=48) (Pq (by rw[Au,As,Bc,Bp];omega));refine⟨g,?_,by rw[AJ] at c;exact c⟩;rw[Af,sC,aCg];simp only[BJ,Cl.CL,Cl.g0,Cl.g1,Cl.g2,Cl.Pn,r,q,L0 Cl.CL,p,m,j]
def aDF(hv:Dl l v)(hne:l≠[])(hb:l.length<=1000000000):BZ cx 181 [v] h (.CD h.length 0 l.length 3) (h++[.cells (l.map Cl.row).flatten]):=by
 have f:AB (.GC false .sl) [v,.slnil]=some (.bool false):=by
  rcases hv with rfl|⟨rfl,hv⟩
  .rfl
  .exact absurd (by simpa using hv) hne
 have c:AB (.BI 3) []=some (.sl 3 []):=rfl;have a:=Lc (h:=h) (s:= .sl 3 []) (z:=3) (b:=48) (.inr rfl) hv (by simpa using hne) (by rw[Al];exact Pq Ab);rw[Al] at a;rw[Af,Vv,lz];simp only[BJ,f,c,a]
def f63(hs:Tc h id o l)(hb:l.length<=1000000000):∃u,BZ cx 80 [Pt id o] h (.tuple []) (put h id o u)/\Dl (l++[bD]) u:=by obtain⟨v,hc,hv⟩:=(show Tc h id o l from hs);obtain⟨u,hr,hu⟩:=mq (h:=h) hv bD (Ag l.length) hb;rw[By,Ep] at hu;refine⟨u,?_,hu⟩;rw[Af,la,t80];simp only[BJ,↓reduceIte,AR,Rj,IL,hc.load,Bv,AV.CN hv,jk,hr.Ad,hc.store (Dl.cells hu)]
def aOj(hs:Tc h id o l)(hb:l.length<=1000000000){e:Cl}(he:Yx e)(i:Int):∃u a,a.c=e.c/\BZ cx 335 [Pt id o,.agg e.row,I i] h (.tuple []) (put h id o u)/\Dl (l.take (CG i l.length)++a::l.drop (CG i l.length)) u:=by
 obtain⟨v,hc,hv⟩:=(show Tc h id o l from hs);obtain⟨a,Qf,b⟩:=mo (h:=h) he;obtain⟨u,hr,hu⟩:=mq (h:=h) hv a (k:=CG i l.length) (by unfold CG;omega) hb;refine⟨u,a,Qf,?_,hu⟩;have f:(if(l.length:Int)<(if i<0 then 0 else i) then(l.length:Int) else(if i<0 then 0 else i))=((CG i l.length:Nat):Int):=by unfold CG;split<;>split<;>omega
 rw[Af,tW,aCX];simp only[BJ,Cl.CL,Cl.g0,Cl.g1,Cl.g2,Cl.Pn,Rj,IL,hc.load,Bv,aT,AV.CN hv,ja,f,b.Ad,BO,hr.Ad,hc.store (Dl.cells hu)]
def f65(hs:Tc h id o l)(hb:l.length<=1000000000):∃u,BZ cx 83 [Pt id o] h (I ((l.length:Int)-((EU l:Nat):Int))) (put h id o u)/\Dl (l.take (EU l)) u:=by
 obtain⟨v,hc,hv⟩:=(show Tc h id o l from hs);obtain⟨s,es,JQ,_⟩:=JH l;have hcl:EU l<=l.length:=by unfold EU;omega
 obtain⟨u,b,hu⟩:=AV.Mh hv (k:= .i64) hcl;refine⟨u,?_,hu⟩;have a:(if since l-1<0 then 0 else since l-1)=((EU l:Nat):Int):=by unfold EU;split<;>omega
 have kM:(l.take (EU l)).length=EU l:=by rw[As];omega
 have c:At (put h id o u) id o u:=hc.put;rw[Af,lf,t83];simp only[BJ,H5,hc.load,Bv,AV.CN hv,(f99 hc hv hb).Ad,BO,C6 (Ab: -9223372036854775808<=since l-1) (Ab:since l-1<9223372036854775808),aT,a,b,hc.store (AV.cells hu),c.load,AV.CN hu,kM,C6 (Ab: -9223372036854775808<=(l.length:Int)-((EU l:Nat):Int)) (Ab:(l.length:Int)-((EU l:Nat):Int)<9223372036854775808)]
end
end
section
section
variable{e:Cu}{l:List Cl}{n s:Nat}
end
section
variable{h:Ah}{v:Aa}{l:List Cl}{id o:Nat}
def f30(hs:Tc h id o l)(hb:l.length<=900000000)(hl:∀x∈l,Yx x){e:Cl}(he:Yx e):∃u a,a.c=e.c/\BZ cx 170 [Pt id o,.agg e.row] h (.tuple []) (put h id o u)/\Dl (Lx e.c l++[a]) u:=by
 obtain⟨v,hc,hv⟩:=(show Tc h id o l from hs);have DG:AV 3 (l.map Cl.row) v:=hv;have Ik:=hs.lt;obtain⟨s,es,JQ,q,_⟩:=JH l;have Jc:Ev cx 170 [Pt id o,.agg e.row] h λr h'=>r= .tuple []/\∃(a:Cl) (u:Aa),a.c=e.c/\h'=put h id o u/\Dl (Lx e.c l++[a]) u:=by
  unfold Ev;rw[rG,aBV];by_cases h0:e.c.node=0;.obtain⟨a,Qf,b⟩:=mo (h:=h) he;obtain⟨u,r2,hu⟩:=mq (h:=h) hv a (Ag l.length) Ab;rw[By,Ep] at hu;simp only[BJ,Cl.CL,Cl.g0,Cl.g1,Cl.g2,H5,h0,Ca,Ax,An,Ap,Aw,hc.load,Bv,DG.CN];rw[<-h0,Cl.Pn];simp only[BJ,b.Ad,BO,hc.load,Bv,r2.Ad,hc.store (Dl.cells hu)];refine⟨_,rfl,rfl,a,u,Qf,rfl,?_⟩;rw[Lx,Ac (λh=>h.1 h0)];exact hu
  .simp only[BJ,Cl.CL,Cl.g0,Cl.g1,Cl.g2,Cl.Pn,H5,h0,Ca,Ax,An,Ap,Aw,hc.load,Bv,DG.CN,C6 (Ab: -9223372036854775808<=(l.length:Int)-1) (Ab:(l.length:Int)-1<9223372036854775808)];refine Bj (λp:Int×Nat×Nat=>[I p.1,I (p.2.1:Int),I ((p.2.2:Int)-1)])
    (λp h1=>s<=p.2.2/\p.2.2<=l.length/\p.2.1+p.2.2<=l.length/\R7 e.c l=p.2.1+R7 e.c (l.take p.2.2)/\(NB e.c l=if 0<=NB e.c (l.take p.2.2) then NB e.c (l.take p.2.2) else if p.2.1=0 then -1 else p.1)/\(p.2.1=0\/∃k:Nat,k<l.length/\p.1=(k:Int))/\h1=h)
    (λp=>p.2.2) (0,0,l.length) rfl ⟨JQ,Ag _,AK,AK,by
     rw[By];have:∀l:List Cl,-1<=mO e.c l:=by
      intro l;induction l with
      |nil=>exact Gy _
      |cons x t ih=>rw[mO];split<;>(try split)<;>(try split)<;>omega
     have:=this l.reverse;simp only[BT];unfold NB;split<;>omega,.inl rfl,rfl⟩ ?_
   rintro⟨B,f,n⟩ h1 ⟨a1,a2,a3,a4,a5,a6,rfl⟩;simp only at a1 a2 a3 a4 a5 a6;have j:=f99 hc hv Ab;rw[es] at j;rcases AO s n with hlt|Ef
   .obtain⟨n,rfl⟩:∃m,n=m+1:=⟨n-1,Ab⟩;have A:((n+1:Nat):Int)-1=(n:Int):=Ab;have hn:n<l.length:=a2;have g:=q n hn Ab;rw[Td hn,Ac g] at a4;rw[Te hn,Ac g] at a5;have b:=aOg (h:=h1) (hl _ (AN hn)) he;simp only[BJ,A,j.Ad,(Ab:(s:Int)<=(n:Int)),Ax,An,Ap,hc.load,Bv,DG.BN hn,Cl.CL,Cl.HW,Ag,b.Ad,BQ (Ab:f<9223372036854775807),C6 (Ab: -9223372036854775808<=(n:Int)-1) (Ab:(n:Int)-1<9223372036854775808)];rw[CQ];refine⟨λh2=>?_,λh2=>?_⟩
    .rw[Ae h2] at a4 a5;refine AM.next ((n:Int),f+1,n) rfl ⟨Dp,Dp,Dp,Dp,?_,.inr ⟨n,hn,rfl⟩,rfl⟩ Dp;simp only
     rw[a5];by_cases hf:0<=NB e.c (l.take n);.simp[hf]
     .simp[hf,(Ab:(0:Int)<=(n:Int))]
    .rw[Ac (by simp[h2])] at a4;rw[Ac (show¬GF l[n].c e.c=true by simp[h2])] at a5;refine AM.next (B,f,n) rfl ⟨Dp,Dp,Dp,Dp,?_,a6,rfl⟩ Dp;simp only
     rw[a5];by_cases hf:0<=NB e.c (l.take n);.simp[hf]
     .simp[hf]
   .obtain rfl:n=s:=by omega
    obtain⟨b1,b2⟩:=Xe (e:=e.c) es;rw[b1,Bv] at a4;rw[b2,Ac A5] at a5;simp only[BJ,j.Ad,(Ab:¬(n:Int)<=(n:Int)-1),An,Ap,Aw];by_cases C:3<=f
    .rcases a6 with a6|⟨k,hk,rfl⟩
     .omega
     rw[Ac Ab] at a5;obtain⟨i,b,OO⟩:=aOi (h:=h1) hv hk Ab;have X6:(Bf l k).length<=l.length:=by unfold Bf;rw[Au,As,Bc];omega
     have w:At (put h1 id o i) id o i:=hc.put;obtain⟨a,Qf,r2⟩:=mo (h:=put h1 id o i) he;obtain⟨y,z,Jj⟩:=mq (h:=put h1 id o i) OO a (Ag (Bf l k).length) Ab;rw[By,Ep] at Jj;simp only[BJ,(Ab:(3:Int)<=(f:Int)),Ax,An,Ap,hc.load,Bv,b.Ad,hc.store (Dl.cells OO),w.load,AV.CN OO,r2.Ad,BO,z.Ad,w.store (Dl.cells Jj),aY];refine⟨_,rfl,rfl,a,y,Qf,rfl,?_⟩;rw[Lx,Ae ⟨h0,Ab⟩,a5,AT];exact Jj
    .obtain⟨a,Qf,b⟩:=mo (h:=h1) he;obtain⟨u,r2,hu⟩:=mq (h:=h1) hv a (Ag l.length) Ab;rw[By,Ep] at hu;simp only[BJ,(Ab:¬(3:Int)<=(f:Int)),An,Ap,Aw,hc.load,Bv,DG.CN,b.Ad,BO,r2.Ad,hc.store (Dl.cells hu)];refine⟨_,rfl,rfl,a,u,Qf,rfl,?_⟩;rw[Lx,Ac Ab];exact hu
 obtain⟨r,h',hr,rfl,a,u,Qf,rfl,hu⟩:=Jc.ret;exact⟨u,a,Qf,hr,hu⟩
end
end
section
section
variable{h:Ah}{v:Aa}{l:List Cl}{id o:Nat}
def aOk(hs:Tc h id o l)(hb:l.length<=900000000)(node:Int){e:Cl}(he:Yx e):∃u t a,a.c=e.c/\BZ cx 408 [Pt id o,I node,.agg e.row] h (.bool (decide (0<=Hu node l))) (put h id o u++t)/\Dl (if Hu node l<0 then l else l.set (Hu node l).toNat a) u:=by
 obtain⟨v,hc,hv⟩:=(show Tc h id o l from hs);rcases gP node l with h1|⟨k,hk,h1⟩
 .refine⟨v,[],e,rfl,?_,by rw[h1];exact hv⟩;have b:=hc.vH (AV.LK hv);rw[Af,cL,Û,hc.same,BK];simp only[BJ,Cl.CL,(f41 hc hv Ab node).Ad,h1,(A5:(-1:Int)<0),Ax,Ap,An,b];rfl
 .have hne:l≠[]:=by intro e;subst e;simp at hk
  have hcl:=aDF (h:=h) hv hne Ab;have g:=(hc.Iq (t:=[Dx.cells (l.map Cl.row).flatten])).store (u:= .CD h.length 0 l.length 3) rfl;rw[aZ hc] at g;obtain⟨a,Qf,j⟩:=mo (h:=put h id o (.CD h.length 0 l.length 3)++[Dx.cells (l.map Cl.row).flatten]) he;obtain⟨r,x,p⟩:=hc.next (w:= .CD h.length 0 l.length 3) (X:= .cells (l.map Cl.row).flatten) (Y:= .cells ((l.map Cl.row).set k a.row).flatten);have f:=Uc (z:=3) (Og l) r (i:=k) (by simpa using hk) (q:=a.row) rfl;rw[p] at f;have m:AB (.FC 3) [.CD h.length 0 l.length 3,I (k:Int)]=some (Pt h.length (k*3)):=E0 hk;have b:=hc.vI (gE (Og l) (i:=k) (q:=a.row) rfl);rw[Br,Al] at b;refine⟨.sl 3 ((l.map Cl.row).set k a.row),[.CT],a,Qf,?_,?_⟩;.rw[Af,cL,Û];simp only[BJ,Cl.CL,Cl.g0,Cl.g1,Cl.g2,Cl.Pn,(f41 hc hv Ab node).Ad,h1,(Ab:¬(k:Int)<0),Aw,Ap,An,hc.load,Bv,hcl.Ad,g,x.load,j.Ad,BO,m,f,b,(Ab:(0:Int)<=(k:Int)),DV]
  .rw[h1,Ac Ab,AT,<-Eo];exact .mk
def aIX(hv:Dl l v)(hb:l.length<=900000000){k:Nat}(hk:k<l.length):∃u,BZ cx 283 [v,I (k:Int)] h u h/\Dl (Bf l k) u:=by
 have DG:AV 3 (l.map Cl.row) v:=hv;have Jc:Ev cx 283 [v,I (k:Int)] h λr h'=>h'=h/\Dl (Bf l k) r:=by
  unfold Ev;rw[J_,aHT];refine Bj (λp:Nat×Aa=>[p.2,I (p.1:Int)]) (λp h1=>p.1<=l.length/\Dl (if p.1<=k then l.take p.1 else Bf (l.take p.1) k) p.2/\h1=h) (λp=>l.length-p.1) (0,.slnil) rfl ⟨AU _,by rw[Ae (AU _)];exact .nil,rfl⟩ ?_;rintro⟨n,u⟩ h1 ⟨hn,hu,rfl⟩;simp only at hn hu;have inc:=BQ (Ab:n<9223372036854775807);rcases AO n l.length with hlt|Ef
  .have i1:(n:Int)<(l.length:Int):=by omega
   have elem:=DG.BN (k:= .i64) hlt;have hlen:(if n<=k then l.take n else Bf (l.take n) k).length<=l.length:=by
    split;.rw[As];omega
    .unfold Bf;rw[Au,As,Bc,As];omega
   have c:=AV.Ke (a:=l[n]) hu (b:=48) (Pq Ab);simp only[BJ,DG.CN,i1,Ax,Ap,An,elem,Cl.CL,Cl.HW,Ag,L0 Cl.CL,c,inc];refine⟨λh0=>?_,λh0=>?_⟩
   .refine AM.next (n+1,_) rfl ⟨hlt,?_,rfl⟩ Dp;have h0:n≠k:=Ab;have:(if n+1<=k then l.take (n+1) else Bf (l.take (n+1)) k)=(if n<=k then l.take n else Bf (l.take n) k)++[l[n]]:=by
     rw[Ay hlt];by_cases ł:n<k;.rw[Ae Ab,Ae Ab]
     .rw[Ac Ab,Ac Ab];unfold Bf;rw[CJ (by rw[As];omega),Ja (by rw[As];omega),AJ]
    simp only
    rw[this];exact .mk
   .refine AM.next (n+1,u) rfl ⟨hlt,?_,rfl⟩ Dp;obtain rfl:n=k:=Ab;have:(if n+1<=n then l.take (n+1) else Bf (l.take (n+1)) n)=l.take n:=by rw[Ac Ab];unfold Bf;rw[FA,Cs Ab,AW (by rw[As];omega),BK]
    simp only
    rw[this];rw[Ae (Ag _)] at hu;exact hu
  .have i1:¬(n:Int)<(l.length:Int):=by omega
   rw[Ac Ab,AD Ef] at hu;simp only[BJ,DG.CN,i1,Aw,Ap,An];exact⟨_,rfl,hu⟩
 obtain⟨r,h',hr,rfl,hu⟩:=Jc.ret;exact⟨r,hr,hu⟩
def f82(hv:Dl l v)(hb:l.length<=900000000){e:Cl}(he:Yx e)(i:Int):∃u m,m.c=e.c/\BZ cx 100 [v,.agg e.row,I i] h u h/\Dl (l.take (CG i l.length)++m::l.drop (CG i l.length)) u:=by
 obtain⟨m,Qf,z⟩:=aOh (h:=h) he;have key:∀k:Nat,k<=l.length->∃r t q p,AB (.HO 3 false false true) [v,I (k:Int)]=some r/\AB (.append 3 48) [.slnil,r]=some t/\AB (.append 3 48) [t,.sl 3 [m.row]]=some (.sl 3 ((l.take k++[m]).map Cl.row))/\AB (.HO 3 false true false) [v,I (k:Int)]=some q/\AB (.append 3 48) [.sl 3 ((l.take k++[m]).map Cl.row),q]=some p/\Dl (l.take k++m::l.drop k) p:=by intro k hk;obtain⟨r,j,h1⟩:=AV.Mh hv (k:= .i64) hk;obtain⟨t,y,h2⟩:=AV.Gu h1 (b:=48) (Pq (by rw[As];omega));have x:=AV.Ke (a:=m) h2 (b:=48) (Pq (by rw[As];omega));obtain⟨q,g,B⟩:=AV.RZ hv (k:= .i64) hk;obtain⟨p,w,A⟩:=AV.aX (f:=Cl.row) (l:=l.take k++[m]) .mk B (b:=48) (Pq (by rw[Au,As,Bc,Bp];omega));exact⟨r,t,q,p,j,y,x,g,w,by rw[AJ] at A;exact A⟩
 obtain⟨r,t,q,p,j,y,x,g,w,hu⟩:=key (CG i l.length) (by unfold CG;omega);refine⟨p,m,Qf,?_,hu⟩;have DG:AV 3 (l.map Cl.row) v:=hv;rw[Af,vi,aGr];by_cases h1:i<0
 .have:CG i l.length=0:=by unfold CG;omega
  rw[this] at j g;have j:AB (.HO 3 false false true) [v,I 0]=some r:=j;have g:AB (.HO 3 false true false) [v,I 0]=some q:=g;simp only[BJ,Cl.CL,Cl.g0,Cl.g1,Cl.g2,Cl.Pn,h1,Ax,Aw,Ap,An,DG.CN,(Ab:¬(l.length:Int)<0),j,y,z.Ad,L0 Cl.CL,x,g,w]
 .by_cases h2:(l.length:Int)<i
  .have:CG i l.length=l.length:=by unfold CG;omega
   rw[this] at j g;simp only[BJ,Cl.CL,Cl.g0,Cl.g1,Cl.g2,Cl.Pn,h1,h2,Ax,Aw,Ap,An,DG.CN,j,y,z.Ad,L0 Cl.CL,x,g,w]
  .have:((CG i l.length:Nat):Int)=i:=by unfold CG;omega
   rw[this] at j g;simp only[BJ,Cl.CL,Cl.g0,Cl.g1,Cl.g2,Cl.Pn,h1,h2,Aw,Ap,An,DG.CN,j,y,z.Ad,L0 Cl.CL,x,g,w]
def f84(hv:Dl l v)(hb:l.length<=900000000):∃u,BZ cx 102 [v] h u h/\Dl (l.take (EU l)) u:=by
 obtain⟨s,es,JQ,_⟩:=JH l;have hcl:EU l<=l.length:=by unfold EU;omega
 obtain⟨u,a,hu⟩:=AV.Mh hv (k:= .i64) hcl;obtain⟨f,c,Jj⟩:=AV.Gu hu (b:=48) (Pq (by rw[As];omega));refine⟨f,?_,Jj⟩;rw[Af,vj,aGs];by_cases h1:since l-1<0
 .have:EU l=0:=by unfold EU;omega
  rw[this] at a;have a:AB (.HO 3 false false true) [v,I 0]=some u:=a;simp only[BJ,(å hv Ab).Ad,C6 (Ab: -9223372036854775808<=since l-1) (Ab:since l-1<9223372036854775808),h1,Ax,Ap,An,a,c]
 .have:((EU l:Nat):Int)=since l-1:=by unfold EU;omega
  rw[this] at a;simp only[BJ,(å hv Ab).Ad,C6 (Ab: -9223372036854775808<=since l-1) (Ab:since l-1<9223372036854775808),h1,Aw,Ap,An,a,c]
def aOl(hv:Dl l v)(hb:l.length<=900000000)(hl:∀x∈l,Yx x){e:Cl}(he:Yx e):∃u a,a.c=e.c/\BZ cx 137 [v,.agg e.row] h u h/\Dl (Lx e.c l++[a]) u:=by
 have DG:AV 3 (l.map Cl.row) v:=hv;obtain⟨s,es,JQ,j,_⟩:=JH l;have Jc:Ev cx 137 [v,.agg e.row] h λr h'=>h'=h/\∃a:Cl,a.c=e.c/\Dl (Lx e.c l++[a]) r:=by
  unfold Ev;rw[wz,aGN];have t:=å (h:=h) hv Ab;rw[es] at t;obtain⟨b1,b2⟩:=Xe (e:=e.c) es;simp only[BJ,Cl.CL,Cl.g0,Cl.g1,Cl.g2,Cl.Pn,t.Ad];refine Bj (λn:Nat=>[I (NB e.c (l.take n)),I (R7 e.c (l.take n):Int),I (n:Int)])
   (λn h1=>s<=n/\n<=l.length/\R7 e.c (l.take n)<=n/\((R7 e.c (l.take n)=0/\NB e.c (l.take n)= -1)\/∃k:Nat,k<n/\NB e.c (l.take n)=(k:Int))/\h1=h) (λn=>l.length-n) s (by rw[b1,b2];rfl) ⟨Ag _,JQ,Ab,.inl ⟨b1,b2⟩,rfl⟩ ?_
  rintro n h1 ⟨a1,a2,a3,a4,rfl⟩;rcases AO n l.length with hlt|Ef
  .have i1:(n:Int)<(l.length:Int):=by omega
   have m:=j n hlt a1;have f:=Td (e:=e.c) hlt;have b:=Te (e:=e.c) hlt;rw[Ac m] at f b;have i:=f241 (h:=h1) (hl _ (AN hlt)) he;simp only[BJ,DG.CN,i1,Ax,An,Ap,DG.BN hlt,Cl.CL,Cl.HW,Ag,i.Ad,BQ (Ab:R7 e.c (l.take n)<9223372036854775807),BQ (Ab:n<9223372036854775807)];rw[CQ];refine⟨λh2=>⟨λp=>?_,λp=>?_⟩,λh2=>?_⟩;.rw[Ae h2] at f b;rw[Ac Ab] at b;refine AM.next (n+1) (by rw[f,b]) ⟨Ab,hlt,Ab,.inr ⟨n,Ab,b⟩,rfl⟩ Ab
   .rw[Ae h2] at f b;rw[Ae Ab] at b;refine AM.next (n+1) (by rw[f,b]) ⟨Ab,hlt,Ab,.inr ?_,rfl⟩ Ab;rw[b];rcases a4 with⟨_,a4⟩|⟨k,hk,a4⟩
    .omega
    .exact⟨k,Ab,a4⟩
   .rw[Ac (by simp[h2])] at f;rw[Ac (show¬GF l[n].c e.c=true by simp[h2])] at b;have g:NB e.c (l.take (n+1))=NB e.c (l.take n):=by rw[b];rcases a4 with⟨_,a4⟩|⟨k,hk,a4⟩<;>rw[a4]<;>simp
    refine AM.next (n+1) (by rw[f,g];rfl) ⟨Ab,hlt,Ab,?_,rfl⟩ Ab;rw[f,g];rcases a4 with a4|⟨k,hk,a4⟩
    .exact .inl a4
    .exact .inr ⟨k,Ab,a4⟩
  .have i1:¬(n:Int)<(l.length:Int):=by omega
   rw[AD Ef] at a3 a4⊢;simp only[BJ,DG.CN,i1,An,Ap,Aw];refine⟨λh2=>⟨λp=>?_,λp=>?_⟩,λh2=>?_⟩
   .rcases a4 with⟨a4,_⟩|⟨k,hk,a4⟩
    .omega
    have PQ:k<l.length:=Ab;obtain⟨w,i,OO⟩:=aIX (h:=h1) hv hb PQ;have hlen:(Bf l k).length<=l.length:=by unfold Bf;rw[Au,As,Bc];omega
    obtain⟨q,a,Qf,r2,Jj⟩:=f82 (h:=h1) OO Ab he ((Bf l k).length:Int);have hcl:CG ((Bf l k).length:Int) (Bf l k).length=(Bf l k).length:=by unfold CG;omega
    rw[hcl,By,Ep] at Jj;simp only[BJ,a4,i.Ad,AV.CN OO,r2.Ad];refine⟨_,rfl,a,Qf,?_⟩;rw[Lx,Ae ⟨h2,Ab⟩,a4,AT];exact Jj
   .obtain⟨q,a,Qf,r2,Jj⟩:=f82 (h:=h1) hv hb he (l.length:Int);have hcl:CG (l.length:Int) l.length=l.length:=by unfold CG;omega
    rw[hcl,By,Ep] at Jj;simp only[BJ,r2.Ad];refine⟨_,rfl,a,Qf,?_⟩;rw[Lx,Ac Ab];exact Jj
   .obtain⟨q,a,Qf,r2,Jj⟩:=f82 (h:=h1) hv hb he (l.length:Int);have hcl:CG (l.length:Int) l.length=l.length:=by unfold CG;omega
    rw[hcl,By,Ep] at Jj;simp only[BJ,r2.Ad];refine⟨_,rfl,a,Qf,?_⟩;rw[Lx,Ac (λh=>h2 h.1)];exact Jj
 obtain⟨r,h',hr,rfl,a,Qf,hu⟩:=Jc.ret;exact⟨r,a,Qf,hr,hu⟩
end
end
def UW:List A6->Aa
 |[]=> .slnil
 |x::l=> .sl 3 ((x::l).map A6.row)
def VA{l:List A6}:Bz l (UW l):=by cases l;exact .inr ⟨rfl,rfl⟩;exact .inl rfl
def zL{l:List A6}{x:A6}:UW (l++[x])= .sl 3 ((l++[x]).map A6.row):=by cases l<;>rfl
structure PN where
 x:EV
 kv:Aa
 av:Aa
 ok:av=UW x.AA
def PN.row(p:PN):List Aa:=[I p.x.kind,I p.x.FM,p.kv,I p.x.CM,I p.x.A9,.str p.x.name,p.av,.str p.x.data,.str p.x.bk,.str p.x.sys,.bool p.x.CI,I p.x.cont,I p.x.Em]
def PN.CL{p:PN}:p.row.length=13:=rfl
def PN.zero:PN:=⟨{},.slnil,.slnil,rfl⟩
def pN(ps:List PN)(x:Int):PN:=ps.getD (x.toNat-1) PN.zero
def Cp(n:Int):List Aa:=[I n]
def D2(l:List Int)(v:Aa):Prop:=AV 1 (l.map Cp) v
def Kj(h:Ah)(kv:Aa)(l:List Int):Prop:=(kv= .slnil/\l=[])\/∃id cs,kv= .CD id 0 l.length 1/\h[id]?=some (.cells (l.map (Aa.int .i64)++cs))
def HK:Aa->Option Nat
 | .CD id _ _ _=>some id
 |_=>none
def vJ(l:List (Int×Int)):Prop:=(l.map (·.1)).Nodup/\∀p∈l,xY p.1=true/\xY p.2=true
def XA(h:Ah)(m:Option Nat)(f:Int->Int):Prop:=(m=none/\∀k,f k=0)\/∃(id:Nat) (l:List (Int×Int)),m=some id/\h[id]?=some (.map (l.map λx:Int×Int=>(I x.1,I x.2)))/\(∀k,(l.find? λx=>decide (k=x.1)).map (·.2)=if f k=0 then none else some (f k))/\vJ l
def Gi(a n:Nat)(m:Option Nat)(ps:List PN):List Nat:=a::n::(m.toList++ps.filterMap λp=>HK p.kv)
structure PA(h:Ah)(a n:Nat)(m:Option Nat)(ps:List PN)(A:Ar):Prop where
 e:A.n=ps.map PN.x
 il:A.i.length=A.n.length
 ha:h[a]?=some (.cells [.CD n 0 ps.length 13,.map m])
 hn:h[n]?=some (.cells (ps.map PN.row).flatten)
 ks:∀p∈ps,Kj h p.kv p.x.A8
 nd:(Gi a n m ps).Nodup
 mp:XA h m A.inr
structure DE(h:Ah)(F:Nat->Prop)(h':Ah)(F':Nat->Prop):Prop where
 len:h.length<=h'.length
 old:∀i,i<h.length->¬F i->h'[i]?=h[i]?
 Bw:∀i,F' i->F i\/h.length<=i
section
variable{h h' h'' t:Ah}{F F' F'':Nat->Prop}
def DE.refl:DE h F h F:=⟨Ag _,λ_ _ _=>rfl,λ_ h=> .inl h⟩
def DE.trans(x:DE h F h' F')(y:DE h' F' h'' F''):DE h F h'' F'':=
 ⟨Bu x.len y.len,λi hi hF=>by
  rw[y.old i (LD hi x.len) (λh=>by rcases x.Bw i h with h|h;exact hF h;omega)];exact x.old i hi hF,λi hi=>by
  rcases y.Bw i hi with h|h
  .exact x.Bw i h
  .exact .inr (Bu x.len h)⟩
def DE.Iq:DE h F (h++t) F:=⟨AK,λi hi _=>Aj hi,λ_ h=> .inl h⟩
end
def PW(h:Ah)(F:Nat->Prop)(a:Nat)(A:Ar):Prop:=∃n m ps,PA h a n m ps A/\∀i,F i↔i∈Gi a n m ps
section
variable{h h':Ah}{a n:Nat}{m:Option Nat}{ps:List PN}{A:Ar}{x:Int}{F:Nat->Prop}
def Kj.Dj{kv:Aa}{l:List Int}(hk:Kj h kv l)(hf:∀id,HK kv=some id->h'[id]?=h[id]?):Kj h' kv l:=by
 rcases hk with⟨rfl,rfl⟩|⟨id,cs,rfl,hc⟩
 .exact .inl ⟨rfl,rfl⟩
 .exact .inr ⟨id,cs,rfl,by rw[hf id rfl];exact hc⟩
def XA.Dj{f:Int->Int}(hk:XA h m f)(hf:∀id,m=some id->h'[id]?=h[id]?):XA h' m f:=by
 rcases hk with h1|⟨id,l,rfl,hc,h2⟩
 .exact .inl h1
 .exact .inr ⟨id,l,rfl,by rw[hf id rfl];exact hc,h2⟩
def Lh{p:PN}{id:Nat}(hp:p∈ps)(hk:HK p.kv=some id):id∈Gi a n m ps:=by unfold Gi;simp only[AS,Av];exact .inr (.inr (.inr (Ck.2 ⟨p,hp,hk⟩)))
def PA.Dj(w:PA h a n m ps A)(hf:∀i∈Gi a n m ps,h'[i]?=h[i]?):PA h' a n m ps A:=
 ⟨w.e,w.il,by rw[hf a (by simp[Gi])];exact w.ha,by rw[hf n (by simp[Gi])];exact w.hn,λp hp=>(w.ks p hp).Dj λid hk=>hf id (Lh hp hk),w.nd,w.mp.Dj λid hm=>hf id (by simp[Gi,hm])⟩
def PA.lt(w:PA h a n m ps A):∀i∈Gi a n m ps,i<h.length:=by
 intro i hi;unfold Gi at hi;simp only[AS,Av,Ck] at hi;rcases hi with rfl|rfl|hi|⟨p,hp,hk⟩
 .exact(Ak.1 w.ha).1
 .exact(Ak.1 w.hn).1
 .rcases w.mp with⟨rfl,_⟩|⟨id,l,rfl,hc,_⟩
  .simp at hi
  .simp at hi;subst hi;exact(Ak.1 hc).1
 .rcases w.ks p hp with⟨e,_⟩|⟨id,cs,e,hc⟩
  .rw[e] at hk;cases hk
  .rw[e] at hk;cases hk;exact(Ak.1 hc).1
def PW.Dj(w:PW h F a A)(hf:∀i,F i->h'[i]?=h[i]?):PW h' F a A:=by obtain⟨n,m,ps,w,e⟩:=w;exact⟨n,m,ps,w.Dj λi hi=>hf i ((e i).2 hi),e⟩
def PW.lt(w:PW h F a A){i:Nat}(hi:F i):i<h.length:=by obtain⟨n,m,ps,w,e⟩:=w;exact w.lt i ((e i).1 hi)
def PA.mr(w:PA h a n m ps A):A.n.length=ps.length:=by rw[w.e,Al]
def PA.at(w:PA h a n m ps A)(hx:A.has x):x.toNat-1<ps.length/\((x.toNat-1:Nat):Int)=x-1:=by have:=w.mr;unfold Ar.has at hx;omega
def PA.pn(w:PA h a n m ps A)(hx:A.has x):ps[x.toNat-1]?=some (pN ps x)/\(pN ps x).x=A.nd x/\pN ps x∈ps:=by
 have h1:=(w.at hx).1;have h2:ps[x.toNat-1]?=some ps[x.toNat-1]:=Ai h1;have b:pN ps x=ps[x.toNat-1]:=by unfold pN;rw[AL,h2];rfl
 refine⟨by rw[b];exact h2,?_,by rw[b];exact AN _⟩;unfold Ar.nd;rw[Ae hx,w.e,b,AL,Cn,h2];rfl
def Li{Az:List (List Aa)}{z i k:Nat}(hr:∀r∈Az,r.length=z)(hk:k<z){r:List Aa}(hi:Az[i]?=some r):Az.flatten[i*z+k]?=r[k]?:=by
 have h1:(Az.flatten.drop (i*z))[k]?=r[k]?:=by rw[IV hr];obtain⟨hlt,e⟩:=Ak.1 hi;rw[AF hlt,e,CW,Aj (by rw[hr r (e▸AN hlt)];exact hk)]
 rwa [Ct] at h1
def iO(l:List PN):∀r∈l.map PN.row,r.length=13:=Mf (f:=PN.row) (λ_=>PN.CL) l
def nP(n:Nat)(x:Int):Nat:=(x.toNat-1)*13
def PA.Bt(w:PA h a n m ps A)(hx:A.has x){k:Nat}(hk:k<13):Bg h none (Pt n (nP n x+k))=(pN ps x).row[k]?:=by unfold nP;simp only[Bg,w.hn,E8];exact Li (iO ps) hk (by rw[Cn,(w.pn hx).1];rfl)
def UX(w:PA h a n m ps A):BZ cx 54 [Pt a 0,I x] h (.bool (decide (A.has x))) h:=by
 have d:Bg h none (Pt a 0)=some (.CD n 0 ps.length 13):=by simp only[Bg,w.ha];rfl
 have c:AB (.len false) [.CD n 0 ps.length 13]=some (I (ps.length:Int)):=rfl;rw[Af,kf,t54];simp only[abS,d,c];have hl:=w.mr;have b:A.has x↔1<=x/\x<=(ps.length:Int):=by unfold Ar.has;rw[hl]
 refine⟨λh1=>?_,λh1=>?_⟩;.congr 2;rw[Dv,b];exact⟨λh=>⟨h1,h⟩,λh=>h.2⟩
 .rw[AG (λh=>h1 (b.1 h).1)]
def PA.nodes(w:PA h a n m ps A):Bg h none (Pt a 0)=some (.CD n 0 ps.length 13):=by simp only[Bg,w.ha];rfl
def PA.len(w:PA h a n m ps A):((ps.length:Nat):Int)=A.len:=by unfold Ar.len;rw[w.mr]
def Ń(w:PA h a n m ps A){l:List Int}{v:Aa}(hv:D2 l v)(hb:l.length<=1000):BZ cx 236 [Pt a 0,v] h (I (if∀x∈l,A.has x then 0 else 3)) h:=by
 have hv:AV 1 (l.map Cp) v:=hv;rw[Af,sS,aCv];simp only[abS,hv.CN];refine Bj (λk:Nat=>[I 0,I (k:Int)]) (λk h1=>k<=l.length/\(∀x∈l.take k,A.has x)/\h1=h) (λk=>l.length-k) 0 rfl ⟨AU _,AK,rfl⟩ ?_;rintro k h1 ⟨hk,ha,rfl⟩;rcases AO k l.length with hlt|Ef
 .have i1:(k:Int)<(l.length:Int):=by omega
  have c:Bg h1 none (.Cq (Cp l[k]))=some (I l[k]):=rfl;simp only[BJ,gC,i1,hv.BN hlt,c,(UX (x:=l[k]) w).Ad,BQ (Ab:k<9223372036854775807)];rw[CQ];refine⟨λh2=>?_,λh2=>?_⟩
  .have h2:¬A.has l[k]:=by simpa using h2
   rw[Ac (λb=>h2 (b _ (AN hlt)))]
  .have h2:A.has l[k]:=by simpa using h2
   refine AM.next (k+1) rfl ⟨hlt,?_,rfl⟩ Ab;intro x hx;rw[Ay hlt,Av,DA] at hx;rcases hx with hx|rfl
   .exact ha x hx
   .exact h2
 .have i1:¬(k:Int)<(l.length:Int):=by omega
  rw[AD Ef] at ha;simp only[abS,i1,Ae ha]
def To(w:PA h a n m ps A):BZ cx 236 [Pt a 0,.sl 1 [[I x]]] h (I (if A.has x then 0 else 3)) h:=by have:=Ń w (l:=[x]) (v:= .sl 1 [[I x]]) .mk AK;simpa using this
def LB{y:Int}(w:PA h a n m ps A):BZ cx 236 [Pt a 0,.sl 1 [[I x],[I y]]] h (I (if A.has x/\A.has y then 0 else 3)) h:=by have:=Ń w (l:=[x,y]) (v:= .sl 1 [[I x],[I y]]) .mk AK;simpa using this
def Hy{x:Int}:AB (.BI 1) [I x]=some (.sl 1 [[I x]]):=rfl
def FJ{x y:Int}:AB (.BI 1) [I x,I y]=some (.sl 1 [[I x],[I y]]):=rfl
def Nd.of(b:Nd A)(hx:A.has x):1<=x/\x<=1000000000:=by have:=b.n;unfold Ar.has at hx;omega
def I2(w:PA h a n m ps A)(b:Nd A)(hx:A.has x):BZ cx 153 [Pt a 0,I x] h (Pt n (nP n x)) h:=by
 have hr:=b.of hx;have d:=(w.at hx).2;have c:AB (.FC 13) [.CD n 0 ps.length 13,I (x-1)]=some (Pt n (nP n x)):=by rw[<-d];exact E0 (w.at hx).1
 rw[Af,bT,xk];simp only[abS,w.nodes,C6 (Ab: -9223372036854775808<=x-1) (Ab:x-1<9223372036854775808),c]
def PA.f0(w:PA h a n m ps A)(hx:A.has x):Bg h none (Pt n (nP n x))=some (I (A.nd x).kind):=by have:=w.Bt hx (k:=0) A5;rw[<-(w.pn hx).2.1];exact this
def PA.f1(w:PA h a n m ps A)(hx:A.has x):Bg h none (Pt n (nP n x+1))=some (I (A.nd x).FM):=by have:=w.Bt hx (k:=1) A5;rw[<-(w.pn hx).2.1];exact this
def PA.f2(w:PA h a n m ps A)(hx:A.has x):Bg h none (Pt n (nP n x+2))=some (pN ps x).kv:=by have:=w.Bt hx (k:=2) A5;exact this
def PA.f4(w:PA h a n m ps A)(hx:A.has x):Bg h none (Pt n (nP n x+4))=some (I (A.nd x).A9):=by have:=w.Bt hx (k:=4) A5;rw[<-(w.pn hx).2.1];exact this
def PA.f5(w:PA h a n m ps A)(hx:A.has x):Bg h none (Pt n (nP n x+5))=some (.str (A.nd x).name):=by have:=w.Bt hx (k:=5) A5;rw[<-(w.pn hx).2.1];exact this
def PA.f6(w:PA h a n m ps A)(hx:A.has x):Bg h none (Pt n (nP n x+6))=some (pN ps x).av:=by have:=w.Bt hx (k:=6) A5;exact this
def PA.MO(w:PA h a n m ps A)(hx:A.has x):Kj h (pN ps x).kv (A.nd x).A8:=by rw[<-(w.pn hx).2.1];exact w.ks _ (w.pn hx).2.2
def PA.mv(w:PA h a n m ps A)(hx:A.has x):(pN ps x).av=UW (A.nd x).AA:=by rw[<-(w.pn hx).2.1];exact(pN ps x).ok
def PA.row(w:PA h a n m ps A)(hx:A.has x):Bg h (some 13) (Pt n (nP n x))=some (.agg (pN ps x).row):=by
 have h1:((ps.map PN.row).flatten.drop (nP n x)).take 13=(pN ps x).row/\nP n x+13<=(ps.map PN.row).flatten.length:=by unfold nP;have hlt:=(w.at hx).1;have hg:=(w.pn hx).1;rw[IV (iO ps),FT (iO ps),Al];refine⟨?_,Ab⟩;rw[<-JA,AF hlt,Bs,CW];rw[Ai hlt,BE] at hg;rw[hg];exact HN PN.CL
 simp only[Bg,w.hn,MQ];rw[Ae h1.2,h1.1]
def M6:∀{l:List Int} {cs Yj:List Aa},Cz (Yj++(l.map (Aa.int .i64)++cs)) 1 Yj.length l.length=l.map Cp
 |[],_,_=>rfl
 |x::l,cs,Yj=>by have:=M6 (l:=l) (cs:=cs) (Yj:=Yj++[I x]);simp only[AJ,Au,Bp] at this;simp only[Bs,Be,Cz,CK];rw[Jv rfl];simp only[CK,BV] at this;rw[this];rfl
def Kj.Az{kv:Aa}{l:List Int}(hk:Kj h kv l):GX h 1 kv=some (l.map Cp):=by
 rcases hk with⟨rfl,rfl⟩|⟨id,cs,rfl,hc⟩
 .rfl
 .have:=M6 (l:=l) (cs:=cs) (Yj:=[]);simp only[BV,B1] at this;simp only[GX,BT,hc,this];rw[Ae AK]
def Kj.len{kv:Aa}{l:List Int}(hk:Kj h kv l):AB (.len false) [kv]=some (I (l.length:Int)):=by rcases hk with⟨rfl,rfl⟩|⟨id,cs,rfl,hc⟩<;>rfl
def ń{kv:Aa}{l:List Int}(hk:Kj h kv l)(hb:l.length<=1000000000):∃v,BZ cx 387 [kv] h v h/\D2 l v:=by
 have hr:=hk.Az;rcases hk with⟨rfl,rfl⟩|⟨id,cs,rfl,hc⟩
 .exact⟨.slnil,by rw[Af,cI,Ö];simp only[BJ,show AB (.GC false .sl) [.slnil,.slnil]=some (.bool true) from rfl],.inr ⟨rfl,rfl⟩⟩
 .refine⟨.sl 1 (l.map Cp),?_,.mk⟩;have b:Qn h 1 8 (.sl 1 []) (.CD id 0 l.length 1)=some (.sl 1 (l.map Cp)):=by
   unfold Qn;rw[hr,Cv];cases l with
   |nil=>rfl
   |cons x l=>
    have:(x::l).length*8<=AX:=by have:AX=140737488355328:=rfl;omega
    simp only[Bs,DJ,Be,Al,B1] at this⊢;rw[Ae ⟨trivial,by simpa using this⟩];rfl
  rw[Af,cI,Ö];simp only[BJ,show AB (.GC false .sl) [.CD id 0 l.length 1,.slnil]=some (.bool false) from rfl,show AB (.BI 1) []=some (.sl 1 []) from rfl,b]
def I3(h:Ah)(v:Aa)(l:List A6):Prop:=(v= .slnil/\l=[])\/∃id,v= .CD id 0 l.length 3/\h[id]?=some (.cells (l.map A6.row).flatten)/\id<h.length
def I3.Iq{v:Aa}{l:List A6}{t:Ah}(hv:I3 h v l):I3 (h++t) v l:=by
 rcases hv with h1|⟨id,e,hc,hl⟩
 .exact .inl h1
 .exact .inr ⟨id,e,by rw[Aj hl];exact hc,by rw[Au];omega⟩
def I3.cells{v:Aa}{l:List A6}(hv:I3 h v l):v.cells=[v]:=by rcases hv with⟨rfl,_⟩|⟨id,rfl,_,_⟩<;>rfl
structure MT(h:Ah)(v:Aa)(l:List A6):Prop where
 len:AB (.len false) [v]=some (I (l.length:Int))
 at_:∀k (hk:k<l.length),∃p,AB (.FC 3) [v,I (k:Int)]=some p/\Bg h (some 3) p=some (.agg l[k].row)
def XB{v:Aa}{l:List A6}(hv:Bz l v):MT h v l:=⟨AV.CN hv,λk hk=>⟨_,AV.BN hv hk,rfl⟩⟩
def aDG(l:List A6):∀r∈l.map A6.row,r.length=3:=Mf (f:=A6.row) (λ_=>rfl) l
def I3.in_{v:Aa}{l:List A6}(hv:I3 h v l):MT h v l:=by
 rcases hv with⟨rfl,rfl⟩|⟨id,rfl,hc,_⟩
 .exact⟨rfl,λk hk=>by simp at hk⟩
 .refine⟨rfl,λk hk=>⟨Pt id (k*3),E0 hk,?_⟩⟩;simp only[Bg,hc,MQ];rw[Ae (by rw[FT (aDG l),Al];omega),IV (aDG l),<-JA,AF hk,Bs,CW];rfl
def Up(N:Nat)(v:Aa):Prop:=∀id k,v= .CD id 0 k 3->N<=id
def mw{v:Aa}{l:List A6}(hv:v=UW l)(hb:l.length<=1000000000):∃u t,BZ cx 100147 [v] h u (h++t)/\I3 (h++t) u l/\Up h.length u:=by
 cases l with
 |nil=>refine⟨.slnil,[],?_,.inl ⟨rfl,rfl⟩,λ_ _ e=>nomatch e⟩;rw[BK,Af,Rc,Vz,hv];simp only[BJ,UW,show AB (.GC false .sl) [.slnil,.slnil]=some (.bool true) from rfl]
 |cons x l=>have e:=Lc (h:=h) (s:= .sl 3 []) (z:=3) (b:=40) (.inr rfl) (AV.mk (z:=3) (Az:=(x::l).map A6.row)) AK (by rw[Al];have:AX=140737488355328:=rfl;omega);rw[Al] at e;refine⟨.CD h.length 0 (x::l).length 3,[.cells ((x::l).map A6.row).flatten],?_,.inr ⟨h.length,rfl,AK,AK⟩,λ_ _ e=>by injection e with e;omega⟩;rw[Af,Rc,Vz,hv];simp only[BJ,UW,show AB (.GC false .sl) [.sl 3 ((x::l).map A6.row),.slnil]=some (.bool false) from rfl,show AB (.BI 3) []=some (.sl 3 []) from rfl,e]
def UY(h:Ah)(N:Nat)(x:EV)(r:List Aa):Prop:=∃K V,r=[I x.kind,I x.FM,K,I x.CM,I x.A9,.str x.name,V,.str x.data,.str x.bk,.str x.sys,.bool x.CI,I x.cont,I x.Em]/\D2 x.A8 K/\I3 h V x.AA/\Up N V
def UY.Iq{x:EV}{r:List Aa}{t:Ah}{N:Nat}(hr:UY h N x r):UY (h++t) N x r:=let⟨K,V,e,h1,h2,b⟩:=hr;⟨K,V,e,h1,h2.Iq,b⟩
def Ņ(w:PA h a n m ps A)(e:Nd A)(hx:A.has x)(ç:(A.nd x).A8.length<=1000000000):∃r t,BZ cx 296 [Pt n (nP n x)] h (.agg r) (h++t)/\UY (h++t) h.length (A.nd x) r:=by obtain⟨K,d,c⟩:=ń (w.MO hx) ç;obtain⟨V,t,r2,b,f⟩:=mw (h:=h) (w.mv hx) (e.at_ x);refine⟨_,t,?_,K,V,rfl,c,b,f⟩;have hc:K.cells=[K]:=AV.cells c;have e0:=w.row hx;have g:(pN ps x).row=_:=rfl;have ex:=(w.pn hx).2.1;rw[Af,sW,aCz];rw[PN.row,ex] at e0;simp only[abS,e0,w.f2 hx,w.f6 hx,d.Ad,BO,r2.Ad,hc,b.cells]
def aIZ(w:PA h a n m ps A)(b:Nd A)(ç:(A.nd x).A8.length<=1000000000):∃r t,BZ cx 163 [Pt a 0,I x] h (.tuple [.agg r,I (if A.has x then 0 else 3)]) (h++t)/\UY (h++t) h.length (A.nd x) r:=by
 by_cases hx:A.has x;.obtain⟨r,t,c,hr⟩:=Ņ w b hx ç;have F0:=hr;obtain⟨K,V,rfl,_⟩:=hr;refine⟨_,t,?_,F0⟩;rw[Af,bV,xm];simp only[abS,↓reduceIte,AR,Hy,(To (x:=x) w).Ad,Ae hx,Ca,CE,(I2 w b hx).Ad,c.Ad]
 .refine⟨_,[],?_,.slnil,.slnil,by rw[HF hx],by rw[HF hx];exact .inr ⟨rfl,rfl⟩,by rw[HF hx];exact .inl ⟨rfl,rfl⟩,λ_ _ e=>nomatch e⟩;rw[Af,bV,xm,BK];simp only[abS,↓reduceIte,AR,Hy,(To (x:=x) w).Ad,Ac hx,Ca,(A5:¬(3:Int)=0),DV]
def ņ(w:PA h a n m ps A)(c:Nd A)(ç:(A.nd x).A8.length<=1000000000):∃v,BZ cx 306 [Pt a 0,I x] h v h/\D2 (A.nd x).A8 v:=by
 by_cases hx:A.has x;.obtain⟨K,b,d⟩:=ń (w.MO hx) ç;refine⟨K,?_,d⟩;rw[Af,cF,P_];simp only[abS,(UX (x:=x) w).Ad,AI hx,(I2 w c hx).Ad,w.f2 hx,b.Ad]
 .refine⟨.slnil,?_,by rw[HF hx];exact .inr ⟨rfl,rfl⟩⟩;rw[Af,cF,P_];simp only[abS,(UX (x:=x) w).Ad,AG hx]
def aI0(w:PA h a n m ps A)(b:Nd A):BZ cx 402 [Pt a 0,I x] h (I (A.nd x).FM) h:=by
 by_cases hx:A.has x;.rw[Af,cJ,Ù];simp only[abS,(UX (x:=x) w).Ad,AI hx,(I2 w b hx).Ad,w.f1 hx]
 .rw[Af,cJ,Ù,HF hx];simp only[abS,(UX (x:=x) w).Ad,AG hx]
def aOn(w:PA h a n m ps A):BZ cx 148 [Pt a 0] h (I A.len) h:=by have b:AB (.len false) [.CD n 0 ps.length 13]=some (I (ps.length:Int)):=rfl;rw[Af,xf,t148];simp only[abS,w.nodes,b,w.len]
def my(w:PA h a n m ps A)(b:Nd A):BZ cx 234 [Pt a 0,I x] h (I (if A.has x then(if(A.nd x).kind=1 then 0 else 9) else 3)) h:=by
 rw[Af,sQ,aCt];by_cases hx:A.has x
 .simp only[abS,Hy,(To (x:=x) w).Ad,Ae hx,Ca,CE,(I2 w b hx).Ad,w.f0 hx];by_cases hk:(A.nd x).kind=1;.simp only[hk,abS,CE]
  .simp only[hk,abS]
 .simp only[abS,Hy,(To (x:=x) w).Ad,Ac hx,Ca,(A5:¬(3:Int)=0)]
def mz{l:List PN}:(l.map PN.row).flatten.length=l.length*13:=by rw[FT (iO l),Al]
def iP{p:PN}{n':Nat}(hk:HK p.kv=none):Gi a n' m (ps++[p])=a::n'::(m.toList++ps.filterMap λp=>HK p.kv):=by unfold Gi;rw[EM];simp[hk]
def m_{x:EV}(hl:A.i.length=A.n.length):(A.add x).inr=A.inr:=by funext k;exact Vs hl
def è(w:PA h a n m ps A)(hb:ps.length+1<=1000000000)(p:PN)(hk:p.kv= .slnil)(so:p.x.A8=[]):
  ∃h',BZ cx 158 [Pt a 0,.agg p.row] h (I (A.len+1)) h'/\PA h' a h.length m (ps++[p]) (A.add p.x)/\(∀i,i<h.length->i≠a->i≠n->h'[i]?=h[i]?)/\h'.length=h.length+1:=by
 have Vi:a<h.length:=w.lt a (by simp[Gi]);have OC:n<h.length:=w.lt n (by simp[Gi]);have é:a≠n:=by have:=w.nd;simp[Gi] at this;exact this.1.1
 have d:=JE (h:=h) (id:=n) (Az:=ps.map PN.row) (r2:=[p.row]) (v:= .sl 13 [p.row]) (b:=168) (iO ps) A5 w.hn .mk AK (by rw[Al];have:AX=140737488355328:=rfl;simp;omega);rw[Al] at d;simp only[Bp] at d;have OP:(h.set n .CT++[Dx.cells (ps.map PN.row++[p.row]).flatten])[a]?=some (.cells [.CD n 0 ps.length 13,.map m]):=by rw[Aj (by simpa using Vi),Ao (DH é)];exact w.ha
 have es:Cw (h.set n .CT++[Dx.cells (ps.map PN.row++[p.row]).flatten]) 1 (Pt a 0) (.CD h.length 0 (ps.length+1) 13)=some ((h.set n .CT++[Dx.cells (ps.map PN.row++[p.row]).flatten]).set a (.cells [.CD h.length 0 (ps.length+1) 13,.map m])):=by simp only[Cw,OP];rfl
 have k:Bg ((h.set n .CT++[Dx.cells (ps.map PN.row++[p.row]).flatten]).set a (.cells [.CD h.length 0 (ps.length+1) 13,.map m])) none (Pt a 0)=some (.CD h.length 0 (ps.length+1) 13):=by simp only[Bg];rw[AQ Eg];rfl
 have l:AB (.len false) [.CD h.length 0 (ps.length+1) 13]=some (I ((ps.length+1:Nat):Int)):=rfl;have em:AB (.BI 13) [.agg p.row]=some (.sl 13 [p.row]):=Me (a:= .agg p.row) rfl A5;refine⟨(h.set n .CT++[Dx.cells (ps.map PN.row++[p.row]).flatten]).set a (.cells [.CD h.length 0 (ps.length+1) 13,.map m]),?_,?_,?_,?_⟩;rotate_left
 .refine⟨by simp[Ar.add,w.e],by simp[Ar.add,w.il],?_,?_,?_,?_,?_⟩;.rw[AQ Eg];simp
  .rw[Ao Ab,Bm AK];simp
  .intro q hq;rcases Av.1 hq with hq|hq
   .refine(w.ks q hq).Dj λid Ik=>?_;have h1:id∈Gi a n m ps:=Lh hq Ik;have h2:=w.lt id h1;have c:=w.nd;have j:id∈m.toList++ps.filterMap λp=>HK p.kv:=Av.2 (.inr (Ck.2 ⟨q,hq,Ik⟩));unfold Gi at c;simp only[B8,AS,M9] at c;have g:a≠id:=λe=>c.1.2 (e▸j);have f:n≠id:=λe=>c.2.1 (e▸j);rw[Ao g,Aj (by simpa using h2),Ao f]
   .simp at hq;subst hq;exact .inl ⟨hk,so⟩
  .rw[iP (by rw[hk];rfl)];have c:=w.nd;unfold Gi at c;simp only[B8,AS,M9] at c⊢;refine⟨⟨Ab,c.1.2⟩,λhm=>?_,c.2.2⟩;have:=w.lt h.length (by unfold Gi;simp only[AS];exact .inr (.inr hm));omega
  .rw[m_ w.il];refine w.mp.Dj λid Ik=>?_;have h1:id∈m.toList++ps.filterMap λp=>HK p.kv:=by simp[Ik]
   have h2:=w.lt id (by unfold Gi;simp only[AS];exact .inr (.inr h1));have c:=w.nd;unfold Gi at c;simp only[B8,AS,M9] at c;have g:a≠id:=λe=>c.1.2 (e▸h1);have f:n≠id:=λe=>c.2.1 (e▸h1);rw[Ao g,Aj (by simpa using h2),Ao f]
 .intro i hi h1 h2;rw[Ao (DH h1),Aj (by simpa using hi),Ao (DH h2)]
 .simp
 .have hl:A.len+1=((ps.length+1:Nat):Int):=by rw[<-w.len];rfl
  rw[PN.row] at em d es k;rw[Af,bU,xl,hl,PN.row];simp only[abS,Nat.reduceLeDiff,↓reduceIte,AR,w.nodes,em,d,es,k,l]
def NJ{Az:List (List Aa)}{z i k:Nat}(hr:∀r∈Az,r.length=z)(hi:i<Az.length)(hk:k<z){v:Aa}:Az.flatten.take (i*z+k)++[v]++Az.flatten.drop (i*z+k+1)=(Az.set i (Az[i].set k v)).flatten:=by
 have hl:=hr _ (AN hi);rw[<-gD hr hi];have b:Az.flatten.drop (i*z)=Az[i]++Az.flatten.drop (i*z+z):=by
  have e:i*z+z=(i+1)*z:=by rw[BM,D5]
  rw[e,IV hr,IV hr,AF hi,CW]
 have d:Az.flatten.take (i*z+k)=Az.flatten.take (i*z)++Az[i].take k:=by rw[Ē,b,CJ Ab]
 have c:Az.flatten.drop (i*z+k+1)=Az[i].drop (k+1)++Az.flatten.drop (i*z+z):=by rw[Ri,<-Ei,b,Ja Ab]
 rw[d,c,B2,Ae Ab];simp
def PA.sto(w:PA h a n m ps A)(hx:A.has x){k:Nat}(hk:k<13){v:Aa}(hv:v.cells=[v]){p:PN}(hp:p.row=(pN ps x).row.set k v){h1:Ah}(hn:h1[n]?=h[n]?):
  Cw h1 1 (Pt n (nP n x+k)) v=some (h1.set n (.cells ((ps.set (x.toNat-1) p).map PN.row).flatten)):=by
 have hlt:=(w.at hx).1;have hg:=(w.pn hx).1;rw[Ai hlt,BE] at hg;have e:=NJ (Az:=ps.map PN.row) (i:=x.toNat-1) (k:=k) (v:=v) (iO ps) (by simpa using hlt) hk;rw[CY,hg,<-hp,<-Eo] at e;unfold nP;simp only[Cw,hn,w.hn,hv,Bp,Mz];rw[Ae (by rw[FT (iO ps),Al];omega),e]
def XC(w:PA h a n m ps A)(hx:A.has x)(p:PN):ps=ps.take (x.toNat-1)++pN ps x::ps.drop (x.toNat-1+1)/\ps.set (x.toNat-1) p=ps.take (x.toNat-1)++p::ps.drop (x.toNat-1+1):=by have hlt:=(w.at hx).1;have hg:=(w.pn hx).1;rw[Ai hlt,BE] at hg;refine⟨?_,by rw[B2,Ae hlt]⟩;conv=>lhs;rw[<-CF (x.toNat-1) ps,AF hlt,hg]
def nc{y:EV}:(A.set x y).inr=A.inr:=by funext k;exact Sa
def PA.a_(w:PA h a n m ps A)(hx:A.has x){p:PN}{h1:Ah}(ho:∀i∈Gi a n m ps,HK (pN ps x).kv≠some i->h1[i]?=h[i]?)(hk:Kj h1 p.kv p.x.A8)
  (hi:HK p.kv=HK (pN ps x).kv\/∀j,HK p.kv=some j->h.length<=j):PA (h1.set n (.cells ((ps.set (x.toNat-1) p).map PN.row).flatten)) a n m (ps.set (x.toNat-1) p) (A.set x p.x):=by
 have hlt:=(w.at hx).1;have ê:=(w.pn hx).2.2;obtain⟨y,z⟩:=XC w hx p;have nd:=w.nd;have f:∀j,HK (pN ps x).kv=some j->j∈m.toList++ps.filterMap λp=>HK p.kv:=λj hj=>Av.2 (.inr (Ck.2 ⟨_,ê,hj⟩));have cQ:=nd;unfold Gi at cQ;simp only[B8,AS,M9] at cQ;have é:a≠n:=cQ.1.1;have g:HK (pN ps x).kv≠some a:=λe=>cQ.1.2 (f a e);have ł:HK (pN ps x).kv≠some n:=λe=>cQ.2.1 (f n e);have OC:n<h.length:=w.lt n (by simp[Gi]);have u:h1[n]?=h[n]?:=ho n (by simp[Gi]) ł;have v:n<h1.length:=by have:=w.hn;rw[<-u] at this;exact(Ak.1 this).1
 have r:∀j,HK p.kv=some j->j≠n/\j≠a:=by
  intro j hj;rcases hi with hi|hi
  .rw[hi] at hj;exact⟨λe=>ł (e▸hj),λe=>g (e▸hj)⟩
  .have:=hi j hj;have:=w.lt a (by simp[Gi]);omega
 refine⟨?_,?_,?_,?_,?_,?_,?_⟩;.simp only[Ar.set,Ae hx];rw[w.e,Eo]
 .rw[Jm];exact w.il
 .rw[Ao (DH é),ho a (by simp[Gi]) g,Br];exact w.ha
 .rw[AQ v]
 .intro q hq;by_cases c:q=p;.rw[c];exact hk.Dj λid Ik=>by rw[Ao (DH (r id Ik).1)]
  .rw[z] at hq;have d:q∈ps.take (x.toNat-1)++ps.drop (x.toNat-1+1):=by
    rcases Av.1 hq with b|b
    .exact Av.2 (.inl b)
    .exact Av.2 (.inr ((AS.1 b).resolve_left c))
   have g_:q∈ps:=by
    rcases Av.1 d with b|b
    .exact Bn b
    .exact BG b
   refine(w.ks q g_).Dj λj hj=>?_;have l:j∈Gi a n m ps:=Lh g_ hj;have t:j≠n:=λe=>cQ.2.1 (e▸Av.2 (.inr (Ck.2 ⟨q,g_,hj⟩)));have UZ:HK (pN ps x).kv≠some j:=by
    intro s;have o:=(B5.1 cQ.2.2).2.1;rw[y,EM,It,s] at o;simp only[B5,B8,AS,Ck] at o;rcases Av.1 d with b|b
    .exact o.2.2 j ⟨q,b,hj⟩ j (.inl rfl) rfl
    .exact o.2.1.1 ⟨q,b,hj⟩
   rw[Ao (DH t),ho j l UZ]
 .have fr:∀j,HK p.kv=some j->HK (pN ps x).kv=some j\/j∉Gi a n m ps:=by
   intro j hj;rcases hi with hi|hi
   .exact .inl (hi▸hj)
   .exact .inr λhm=>by have:=hi j hj;have:=w.lt j hm;omega
  have h1:=nd;unfold Gi at h1 fr⊢;rw[y,EM,It] at h1;rw[y,EM,It] at fr;rw[z,EM,It];generalize List.filterMap (λp=>HK p.kv) (ps.take (x.toNat-1))=T at h1 fr⊢;generalize List.filterMap (λp=>HK p.kv) (ps.drop (x.toNat-1+1))=D at h1 fr⊢;cases hp:HK p.kv with
  |none=>
   cases ho:HK (pN ps x).kv with
   |none=>rw[ho] at h1;exact h1
   |some k=>rw[ho] at h1;refine h1.sublist ?_;simp
  |some j=>
   have:=fr j hp;cases ho:HK (pN ps x).kv with
   |none=>rw[ho] at h1 this;simp only[B8,B5,AS,Av] at h1 this⊢;grind
   |some k=>rw[ho] at h1 this;simp only[B8,B5,AS,Av] at h1 this⊢;grind
 .rw[nc];refine w.mp.Dj λid Ik=>?_;have l:id∈m.toList++ps.filterMap λp=>HK p.kv:=by simp[Ik]
  have t:n≠id:=λe=>cQ.2.1 (e▸l);have UZ:HK (pN ps x).kv≠some id:=by intro aL;exact(B5.1 cQ.2.2).2.2 id (by simp[Ik]) id (Ck.2 ⟨_,ê,aL⟩) rfl
  rw[Ao t,ho id (by unfold Gi;simp only[AS];exact .inr (.inr l)) UZ]
end
end Go.Am
end
