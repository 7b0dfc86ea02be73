/- Lemmas -/
import Derived.Test.YtffmdapalbecoaaGreatDoorO20
import Derived.Test.YtffmdapalbecoaaGreatDoorO21
import Derived.Test.YtffmdapalbecoaaGreatDoorO22
import Derived.Test.YtffmdapalbecoaaGreatDoorO23
import Derived.Test.YtffmdapalbecoaaGreatDoorO18
set_option linter.all false
set_option maxHeartbeats 0
set_option maxRecDepth 100000
open List renaming length→zz,filterMap→yq
open Go.Am.Aa renaming bool→zy,str→zs,func→zm,slnil→zj,agg→zi,int→z5,tuple→yu,map→ym
open Go.Am.AJ renaming next→zw
open Option renaming some→zt,none→z1
open Go.Am.Oc renaming append→yo,len→yn
open Go.Am.Item renaming row→zq
open Nat renaming reduceLeDiff→zp,max_eq_right→yr
open Bool renaming false→zo,true→z4
open Go.Am.A9 renaming row→zn
open Go.Fn renaming func→zk
open Go.Am.DG renaming cells→zg,cells→zc
open Go.Am.IT renaming ret→za
open Or renaming inr→ze,inl→z2
open Go.Am.Dm renaming ret→zb
open Go.Am.Cp renaming CS→z0,row→z3,g1→z9,g2→yz,g0→yv
open Go.Am.AX renaming CK→z8,cells→yx,Mo→ys
open Go.IntKind renaming i64→yy,i32→yp
open Go.Am.Dp renaming cells→yw
section
namespace Go.Am
open Go
abbrev tH:=List Aa->Option IT
def aFZ(g:IT):tH:=λl=>match l with
 |[]=>zt (g)
 |_=>z1
def aF0(g:Aa->IT):tH:=λl=>match l with
 |[a0]=>zt (g a0)
 |_=>z1
def aF1(g:Aa->Aa->IT):tH:=λl=>match l with
 |[a0,a1]=>zt (g a0 a1)
 |_=>z1
def aF2(g:Aa->Aa->Aa->IT):tH:=λl=>match l with
 |[a0,a1,a2]=>zt (g a0 a1 a2)
 |_=>z1
def aF3(g:Aa->Aa->Aa->Aa->IT):tH:=λl=>match l with
 |[a0,a1,a2,a3]=>zt (g a0 a1 a2 a3)
 |_=>z1
def aF4(g:Aa->Aa->Aa->Aa->Aa->IT):tH:=λl=>match l with
 |[a0,a1,a2,a3,a4]=>zt (g a0 a1 a2 a3 a4)
 |_=>z1
def ZU(f:Nat)(g:tH):Prop:=∀l t,g l=zt t->t=B8 cx f l
section
variable{f:Nat}
def Vx{g:IT}(h:B8 cx f []=g):ZU f (aFZ g):=by
 intro l t ht;unfold aFZ at ht;split at ht;.cases ht;exact(h).symm
 .cases ht
def BQ{g:Aa->IT}(h:∀a0,B8 cx f [a0]=g a0):ZU f (aF0 g):=by
 intro l t ht;unfold aF0 at ht;split at ht;.cases ht;exact(h _).symm
 .cases ht
def BI{g:Aa->Aa->IT}(h:∀a0 a1,B8 cx f [a0,a1]=g a0 a1):ZU f (aF1 g):=by
 intro l t ht;unfold aF1 at ht;split at ht;.cases ht;exact(h _ _).symm
 .cases ht
def E2{g:Aa->Aa->Aa->IT}(h:∀a0 a1 a2,B8 cx f [a0,a1,a2]=g a0 a1 a2):ZU f (aF2 g):=by
 intro l t ht;unfold aF2 at ht;split at ht;.cases ht;exact(h _ _ _).symm
 .cases ht
def ZV{g:Aa->Aa->Aa->Aa->IT}(h:∀a0 a1 a2 a3,B8 cx f [a0,a1,a2,a3]=g a0 a1 a2 a3):ZU f (aF3 g):=by
 intro l t ht;unfold aF3 at ht;split at ht;.cases ht;exact(h _ _ _ _).symm
 .cases ht
def Ü{g:Aa->Aa->Aa->Aa->Aa->IT}(h:∀a0 a1 a2 a3 a4,B8 cx f [a0,a1,a2,a3,a4]=g a0 a1 a2 a3 a4):ZU f (aF4 g):=by
 intro l t ht;unfold aF4 at ht;split at ht;.cases ht;exact(h _ _ _ _ _).symm
 .cases ht
def tb0{g:IT}(h:B8 cx f []=g):Nat×tH:=(f,aFZ g)
def Hm{g:Aa->IT}(h:∀a0,B8 cx f [a0]=g a0):Nat×tH:=(f,aF0 g)
def Gx{g:Aa->Aa->IT}(h:∀a0 a1,B8 cx f [a0,a1]=g a0 a1):Nat×tH:=(f,aF1 g)
def Th{g:Aa->Aa->Aa->IT}(h:∀a0 a1 a2,B8 cx f [a0,a1,a2]=g a0 a1 a2):Nat×tH:=(f,aF2 g)
def tb4{g:Aa->Aa->Aa->Aa->IT}(h:∀a0 a1 a2 a3,B8 cx f [a0,a1,a2,a3]=g a0 a1 a2 a3):Nat×tH:=(f,aF3 g)
def tb5{g:Aa->Aa->Aa->Aa->Aa->IT}(h:∀a0 a1 a2 a3 a4,B8 cx f [a0,a1,a2,a3,a4]=g a0 a1 a2 a3 a4):Nat×tH:=(f,aF4 g)
end
def aDr:List (Nat×tH):=[Gx Ã,Hm Ä,Hm Å,Hm Æ,Hm Ç,Hm zD,Gx Ê,Gx Ë,Gx Ì,Gx Í,Gx IN,Gx Î,Gx Ï,Gx ZO,Gx Ð,Gx Ñ,tb0 Ó,Gx Ô,Hm Õ,Gx zE,tb0 zF,Gx jN,Gx zG,Gx zH,Th zJ,Gx zK,Gx Vw,Th jP,Th zL,Hm jQ,Hm zM,Gx zO,Gx jR,Hm zP,Th jS,Hm ZQ,Hm zQ,Hm zR,Hm ZR,Hm zS,Gx zU,tb4 jT,Gx jV,tb0 ja,Hm jW,Th jb,Gx jX,tb5 jc,tb4 MB,Hm jd,Gx jY,Gx jZ,Hm je,Gx j0,Gx j1,Hm Ry,Th jf,Hm jg,tb0 j2,tb0 jh,Gx ji,Hm j3,Hm jj,Hm j7,Hm XJ,Gx XK,Gx XL,tb4 Rz,Gx j8,Th j9,Gx kC,Gx XM,tb4 XN,Gx kE,Gx XO,Gx kF,Gx kG,Gx kH,Th kI,Th kJ,Th kK,Th kL,Gx kM,Gx kN,Hm T8,Hm kO,Hm kP,Gx kQ,Gx XP,Gx kR,Hm kS,Gx kT,Gx NO,Th kU,Gx XQ,Gx kW,Th kX,Gx kY,Hm kZ,Th lA,Hm lB,Hm lC,Th lD,Hm lE,Gx lF,Gx lG,Gx lH,Hm lI,tb5 XR,Gx XS,Hm XT,Gx lJ,Th lK,Gx lL,Gx XU,Gx lM,Gx jt,Gx ju,Gx XV,Gx XW,Th lN,Hm lO,Hm lP,Hm lQ,Hm T9,Hm lR,Hm lS,Hm lT,Hm LL,Hm lU,Hm Pj,Hm RD,Hm RE,Hm lV,Hm XX,Hm Pk,Hm Ua,Hm RF,Hm XY,Hm XZ,Hm X0,Hm X1,Hm NP,Hm jv,Hm jw,Hm jx,Hm jy,Hm jz,Hm j_,Hm ka,Hm ke,Hm lW,Gx lX,Gx X2,Gx lY,Th lZ,Gx Ub,Hm mA,Gx mB,Gx mC,Gx mD,Hm mE,Hm mF,Gx X3,Th mG,Gx mH,Gx mI,Hm mJ,Gx mK,Gx mL,Gx mM,Gx mN,Gx mO,Th mP,Th mQ,Gx mR,tb4 mS,Th mT,Th mU,tb0 mV,Gx mW,Hm mX,Gx mY,Hm mZ,Hm m0,Hm m6,Gx m7,Hm m8,Hm m9,Gx Uc,Hm X4,Gx Ud,Th nA,Hm nB,Gx kj,Hm nC,Gx nD,Gx nE,Hm nF,Hm nG,Gx nH,Th nI,Gx nJ,Hm nK,Gx nL,Gx X5,Hm X6,Gx nM,Gx nN,Gx nO,Gx nQ,Gx nS,Gx X7,Hm Ue,Th nT,Th nU,Gx nV,Th X8,Th X9,Gx nW,Hm nX,Gx nY,Th Ya,Hm nZ,Gx oA,Hm oB,Hm oC,Gx oD,Hm oE,Gx kq,Hm ZS,Hm Pl,Hm ZT]
def Ý:List (Nat×tH)->Prop
 |[]=>True
 |(f,g)::l=>ZU f g/\Ý l
def Þ:Ý aDr:=
 ⟨BI Ã,BQ Ä,BQ Å,BQ Æ,BQ Ç,BQ zD,BI Ê,BI Ë,BI Ì,BI Í,BI IN,BI Î,BI Ï,BI ZO,BI Ð,BI Ñ,Vx Ó,BI Ô,BQ Õ,BI zE,Vx zF,BI jN,BI zG,BI zH,E2 zJ,BI zK,BI Vw,E2 jP,E2 zL,BQ jQ,BQ zM,BI zO,BI jR,BQ zP,E2 jS,BQ ZQ,BQ zQ,BQ zR,BQ ZR,BQ zS,BI zU,ZV jT,BI jV,Vx ja,BQ jW,E2 jb,BI jX,Ü jc,ZV MB,BQ jd,BI jY,BI jZ,BQ je,BI j0,BI j1,BQ Ry,E2 jf,BQ jg,Vx j2,Vx jh,BI ji,BQ j3,BQ jj,BQ j7,BQ XJ,BI XK,BI XL,ZV Rz,BI j8,E2 j9,BI kC,BI XM,ZV XN,BI kE,BI XO,BI kF,BI kG,BI kH,E2 kI,E2 kJ,E2 kK,E2 kL,BI kM,BI kN,BQ T8,BQ kO,BQ kP,BI kQ,BI XP,BI kR,BQ kS,BI kT,BI NO,E2 kU,BI XQ,BI kW,E2 kX,BI kY,BQ kZ,E2 lA,BQ lB,BQ lC,E2 lD,BQ lE,BI lF,BI lG,BI lH,BQ lI,Ü XR,BI XS,BQ XT,BI lJ,E2 lK,BI lL,BI XU,BI lM,BI jt,BI ju,BI XV,BI XW,E2 lN,BQ lO,BQ lP,BQ lQ,BQ T9,BQ lR,BQ lS,BQ lT,BQ LL,BQ lU,BQ Pj,BQ RD,BQ RE,BQ lV,BQ XX,BQ Pk,BQ Ua,BQ RF,BQ XY,BQ XZ,BQ X0,BQ X1,BQ NP,BQ jv,BQ jw,BQ jx,BQ jy,BQ jz,BQ j_,BQ ka,BQ ke,BQ lW,BI lX,BI X2,BI lY,E2 lZ,BI Ub,BQ mA,BI mB,BI mC,BI mD,BQ mE,BQ mF,BI X3,E2 mG,BI mH,BI mI,BQ mJ,BI mK,BI mL,BI mM,BI mN,BI mO,E2 mP,E2 mQ,BI mR,ZV mS,E2 mT,E2 mU,Vx mV,BI mW,BQ mX,BI mY,BQ mZ,BQ m0,BQ m6,BI m7,BQ m8,BQ m9,BI Uc,BQ X4,BI Ud,E2 nA,BQ nB,BI kj,BQ nC,BI nD,BI nE,BQ nF,BQ nG,BI nH,E2 nI,BI nJ,BQ nK,BI nL,BI X5,BQ X6,BI nM,BI nN,BI nO,BI nQ,BI nS,BI X7,BQ Ue,E2 nT,E2 nU,BI nV,E2 X8,E2 X9,BI nW,BQ nX,BI nY,E2 Ya,BQ nZ,BI oA,BQ oB,BQ oC,BI oD,BQ oE,BI kq,BQ ZS,BQ Pl,BQ ZT,trivial⟩
def aBD(f:Nat):List (Nat×tH)->List Aa->Option IT
 |[],_=>z1
 |(k,g)::l,args=>if Nat.beq k f then g args else aBD f l args
def ku{f:Nat}{args:List Aa}{t:IT}:∀{l:List (Nat×tH)},Ý l->aBD f l args=zt t->t=B8 cx f args
 |[],_,h=>by cases h
 |(k,g)::l,ha,h=>by
  simp only[aBD] at h;split at h;next hk=>have hk:k=f:=NX hk;subst hk;exact ha.1 _ _ h
  .exact ku ha.2 h
noncomputable def tab(f:FuncId)(args:List Aa):IT:=match aBD f aDr args with
 |zt t=>t
 |z1=>B8 cx f args
def S2:tab=B8 cx:=by
 funext f args;rw[tab];split;next t h=>exact ku Þ h
 .rfl
def ZW:Option Kz->Bool
 |zt (zb,[zy z4],_)=>z4
 |_=>zo
def cO{r:Option Kz}(h:ZW r=z4):∃h',r=zt (zb,[zy z4],h'):=by
 unfold ZW at h;split at h;.exact⟨_,rfl⟩
 .cases h
end Go.Am
end
section
namespace Go.Am
open Go
section
def aOB(s:Ai):JN cx 324 [zs s] (zy (decide (s∈Gr))):=by rw[LY,mJ];rw[show aJn (zs s)=sw s (za zb [tt]) (za zb [ff]) Gr from rfl,J_];simp_all
section
variable{Q:HC}{h:Ah}{k:Aa->IT}{s:Ai}
@[simp] theorem ß:W cx (.BM 324 [.str s] k) Q h↔W cx (k (.bool (decide (s∈Gr)))) Q h:=(aOB s).BM rfl rfl
end
def aOC(s:Ai):JN cx 341 [zs s] (zy (decide (s∈Ks\/s∈Gr))):=by rw[LY,m0];rw[show aJo (zs s)=sw s (za zb [tt]) (.BM 324 [zs s] λv=> za zb [v]) Ks from rfl,J_];simp_all
def aOD(n:Int)(s:Ai):JN cx 328 [I n,zs s] (zy (decide (n=3/\s∈Lo))):=by
 rw[LY,mN];by_cases h:n=3;.simp[h,Lo];grind
 .simp[h]
section
variable{Q:HC}{h:Ah}{k:Aa->IT}{s:Ai}{n:Int}
@[simp] theorem à:W cx (.BM 341 [.str s] k) Q h↔W cx (k (.bool (decide (s∈Ks\/s∈Gr)))) Q h:=(aOC s).BM rfl rfl
@[simp] theorem aJt:W cx (.BM 328 [I n,.str s] k) Q h↔W cx (k (.bool (decide (n=3/\s∈Lo)))) Q h:=(aOD n s).BM rfl rfl
end
def aBE(n:Int)(s:Ai):JN cx 185 [I n,zs s] (zy (Dh n s)):=by
 rw[LY,kR];rw[show aJj (I n) (zs s)= .op (.int .eql) [I n,I 3] λv=> .GJ v (.op (.str .eql) [zs s,S aXQ] λv=> .GJ v (za zb [tt]) (.BM 328 [I n,zs s] λv=> za zb [v]))
  (.op (.int .eql) [I n,I 2] λv=> .GJ v (sw s (za zb [tt]) (.op (.str .eql) [zs s,S aXT] λv=> za zb [v]) [aYZ,aYb])
  (.op (.int .eql) [I n,I 1] λv=> .GJ v (sw s (za zb [tt]) (za zb [ff]) Ox) (za zb [ff]))) from rfl]
 by_cases a:n=3;.by_cases h:s=aXQ<;>simp[a,Dh,h]
 .by_cases h2:n=2;.by_cases ha:s=aYZ<;>by_cases hb:s=aYb<;>simp[h2,J_,Dh,Ro,ha,hb]
  .by_cases h1:n=1;.by_cases h:s∈Ox<;>simp[h1,J_,Dh,h]
   .simp[a,h2,h1,Dh]
section
variable{Q:HC}{h:Ah}{k:Aa->IT}{s:Ai}{n:Int}
@[simp] theorem ZX:W cx (.BM 185 [I n,.str s] k) Q h↔W cx (k (.bool (Dh n s))) Q h:=(aBE n s).BM rfl rfl
end
end
section
def f277(s:Ai)(c:UInt8)(hs:zz s<9223372036854775807):JN cx 284 [zs s,z5 .u8 (c.toNat:Int)] (zy (decide (c∈s))):=by
 rw[LY,aA1];refine Bj (λn:Nat=>[zy zo,I (n:Int)]) (λn _=>n<=zz s/\c∉s.take n) (λn=>zz s-n) 0 rfl ⟨AV _,AH⟩ ?_;rintro n h ⟨hn,hc⟩;obtain hlt|Et:=AP n (zz s)
 .simp only[BD,FT hlt,By n];refine⟨λ_=>⟨λhe=>?_,λhe=>?_⟩,λh=>absurd (Int.ofNat_lt.2 hlt) h⟩
  .have e:s[n]=c:=by rw[<-PD];exact aCQ he
   grind
  .refine zw (n+1) rfl ⟨hlt,?_⟩ Ab;rw[AB hlt,Ay,Ly];grind
 .simp only[BD];grind
def aJu(l s:Ai)(hl:zz l<9223372036854775806)(hs:zz s<9223372036854775807):JN cx 138 [zs l,zs s] (zy (GA l s)):=by
 rw[LY,aAp];have aOE:JN cx 284 [zs s,z5 .u8 32] (zy (decide ((32:UInt8)∈s))):=f277 s 32 hs;simp only[BD,aOE.BM rfl rfl];refine⟨λh=>by simp[GA,h],λh0=>⟨λh=>by simp[GA,h],λh1=>?_⟩⟩;refine Bj (λp:Nat×Nat=>[zy zo,I (p.1:Int),I (p.2:Int)])
  (λp _=>(p.1<=p.2/\p.2<=zz l/\(s∈DD [] l↔s∈DD ((l.take p.2).drop p.1) (l.drop p.2)))\/(p.2=zz l+1/\s∉DD [] l)) (λp=>zz l+1 -p.2) (0,0) rfl (z2 ⟨Ae _,AV _,AH⟩) ?_
 rintro⟨a,n⟩ h aF5;rcases aF5 with⟨bM,hn,ZY⟩|⟨hn,Xy⟩
 .simp only at bM hn ZY;have i1:(n:Int)<=(zz l:Int):=Ab;obtain hlt|Et:=AP n (zz l)
  .have b:¬(n:Int)=(zz l:Int):=by omega
   simp[BD,i1,b,Az,Ag,forall_const,Ap,FT hlt,By n,MY bM hn];rw[AG hlt,QD] at ZY;refine⟨λhe=>?_,λhe=>?_⟩
   .have e:l[n]=32:=by rw[<-PD];exact aCQ he
    rw[Af e,AR] at ZY;refine⟨λhw=>?_,λhw=>?_⟩;.have:s∈DD [] l:=ZY.2 (z2 hw.symm);simp[GA,h0,h1,this]
    .refine zw (n+1,n+1) rfl (z2 ⟨Ae _,hlt,?_⟩) DA;rw[ZY,PS];exact⟨λh=>h.resolve_left (λh=>hw h.symm),ze⟩
   .have e:¬l[n]=32:=λe=>he (by rw[e];rfl);rw[Ac e] at ZY;refine zw (a,n+1) rfl (z2 ⟨DA,hlt,?_⟩) DA;rw[ZY,Zl bM hlt]
  .have e:n=zz l:=by omega
   subst e;simp only[BD,IA,Az,Ap,Av,MY bM hn,By (zz l)];rw[AT (Ae _),Se] at ZY;rw[AM] at ZY;refine⟨λhw=>?_,λhw=>?_⟩;.have:s∈DD [] l:=ZY.2 hw.symm;simp[GA,h0,h1,this]
   .exact zw (zz l+1,zz l+1) rfl (ze ⟨rfl,λh=>hw (ZY.1 h).symm⟩) DA
 .simp only at hn;subst hn;have i1:¬((zz l+1:Nat):Int)<=(zz l:Int):=Ab;simp only[BD,i1,Ag,Ap,Av];simp[GA,Xy]
end
section
def GY{Q:HC}{h:Ah}{k:Aa->IT}{l s:Ai}(hl:zz l<9223372036854775806)(hs:zz s<9223372036854775807):W cx (.BM 138 [zs l,zs s] k) Q h↔W cx (k (zy (GA l s))) Q h:=(aJu l s hl hs).BM rfl rfl
section
variable{Q:HC}{h:Ah}{k:Aa->IT}{s:Ai}
section
variable(hs:s.length<9223372036854775807)
def zX:W cx (.BM 138 [zs aXo,zs s] k) Q h↔W cx (k (zy (decide (s∈Ox)))) Q h:=by rw[GY Bx hs,yF]
def oF:W cx (.BM 138 [zs aYh,zs s] k) Q h↔W cx (k (zy (decide (s∈Lo)))) Q h:=by rw[GY Bx hs,i5]
def Wv:W cx (.BM 138 [zs aXV,zs s] k) Q h↔W cx (k (zy (decide (s∈Ro)))) Q h:=by rw[GY Bx hs,sB]
def ZZ:W cx (.BM 138 [zs aXC,zs s] k) Q h↔W cx (k (zy (decide (s∈Gr)))) Q h:=by rw[GY Bx hs,yG]
def tI:W cx (.BM 138 [zs aXI,zs s] k) Q h↔W cx (k (zy (decide (s∈Ks)))) Q h:=by rw[GY Bx hs,sC]
def tj:W cx (.BM 138 [zs aX9,zs s] k) Q h↔W cx (k (zy (decide (s∈O9)))) Q h:=by rw[GY Bx hs,rj]
def zY:W cx (.BM 138 [zs aXJ,zs s] k) Q h↔W cx (k (zy (decide (s∈M1)))) Q h:=by rw[GY Bx hs,yH]
def á:W cx (.BM 138 [zs aY3,zs s] k) Q h↔W cx (k (zy (decide (s∈SU)))) Q h:=by rw[GY Bx hs,K_]
def tk:W cx (.BM 138 [zs aXB,zs s] k) Q h↔W cx (k (zy (decide (s∈Pb)))) Q h:=by rw[GY Bx hs,rl]
end
end
section
variable(s:Ai)(hs:s.length<9223372036854775807)
def aOF:JN cx 349 [zs s] (zy (decide (s∈Gr))):=by simp[LY,aBi,BD,ZZ hs]
def aOG:JN cx 350 [zs s] (zy (decide (s∈Ks\/s∈Gr))):=by simp[LY,aBj,BD,ZZ hs,tI hs];grind
end
def f169(n:Int)(s:Ai)(hs:zz s<9223372036854775807):JN cx 219 [I n,zs s] (zy (Dh n s)):=by simp[LY,aAM,BD,oF hs,zX hs,Wv hs,Dh];grind
section
variable{Q:HC}{h:Ah}{k:Aa->IT}{s:Ai}{n:Int}
section
variable(hs:s.length<9223372036854775807)
def â:W cx (.BM 349 [zs s] k) Q h↔W cx (k (zy (decide (s∈Gr)))) Q h:=(aOF s hs).BM rfl rfl
def ã:W cx (.BM 350 [zs s] k) Q h↔W cx (k (zy (decide (s∈Ks\/s∈Gr)))) Q h:=(aOG s hs).BM rfl rfl
def Z0:W cx (.BM 219 [I n,zs s] k) Q h↔W cx (k (zy (Dh n s))) Q h:=(f169 n s hs).BM rfl rfl
end
end
end
section
def aOH(c:UInt8):JN cx 397 [z5 .u8 (c.toNat:Int)] (zy (decide (65<=c.toNat/\c.toNat<=90))):=by
 simp[LY,aBx,BD];refine⟨λh=>?_,λh=>?_⟩
 .have e:65<=c.toNat:=by omega
  have a:((c.toNat:Int)<=90)=(c.toNat<=90):=by grind
  simp[e,a]
 .grind
def aBF(s:Ai)(hs:zz s<=A0):JN cx 315 [zs s] (zs (FI s)):=by
 have dG:zz s<=140737488355328:=hs;rw[LY,aBf];refine Bj (λp:Nat×Aa=>[p.2,I (p.1:Int)]) (λp _=>p.1<=zz s/\AX 1 (Cg (FI (s.take p.1))) p.2) (λp=>zz s-p.1) (0,zj) rfl ⟨AV _,.nil⟩ ?_;rintro⟨n,v⟩ h ⟨hn,hv⟩;simp only at hn hv;obtain hlt|Et:=AP n (zz s)
 .have i1:(n:Int)<(zz s:Int):=by omega
  have hb:((Cg (FI (s.take n))).length+1)*1<=A0:=by rw[cL];simp[FI,A0];omega
  simp only[BD,i1,Az,Av,Ap,FT hlt,(aOH _).BM rfl rfl,By n];refine⟨λhe=>?_,λhe=>?_⟩
  .simp only[BD,iU,wrap_u8 (Ab:0<=((s[n].toNat:Int)+32)/\((s[n].toNat:Int)+32)<=255),MZ (a:= z5 .u8 ((s[n].toNat:Int)+32)) (z:=1) rfl Bf,hv.yD hb];refine zw (n+1,_) rfl ⟨hlt,?_⟩ DA;rw[SV hlt,Sd];have e:Cg [Ju s[n]]=[[z5 .u8 ((s[n].toNat:Int)+32)]]:=by simp[Cg,TP he]
   rw[e];exact .mk
  .simp only[BD,MZ (a:= z5 .u8 (s[n].toNat:Int)) (z:=1) rfl Bf,hv.yD hb];refine zw (n+1,_) rfl ⟨hlt,?_⟩ DA;rw[SV hlt,Sd,Pc he];exact .mk
 .have i1:¬(n:Int)<(zz s:Int):=by omega
  have e:s.take n=s:=AF Et;rw[e] at hv;simp[BD,i1,Ag,Av,Ap,hv.P5,hv.Yi]
def f300(a b:Int)(h:Ah):BK cx 360 [z5 yp a,z5 yp b] h (zm (zk 413) [] [.CH [z5 yp a],.CH [z5 yp b]]) h:=by simp[Ad,Ud,BD]
def aOI(c a b:Int)(h:Ah):BK cx 413 [z5 yp c,.CH [z5 yp a],.CH [z5 yp b]] h (zy (decide (a<=c/\c<=b))) h:=by simp[Ad,Ya,BD];grind
def aOJ(c:Int):JN cx 416 [z5 yp c] (zy (decide (65<=c/\c<=90))):=by simp[LY,nZ,BD,f300 _ _ _,Dw,aOI _ _ _ _]
def aF6(s:Ai)(hs:zz s<=A0):JN cx 365 [zs s] (zs (FI s)):=by
 have dG:zz s<=140737488355328:=hs;rw[LY,nB,aJq];have j:Jn [] (zs s)=zt ([zg ((Ib s 0).map PM)],.CC 0 0 (zz s) 1):=by simp[Jn,hs,BR];rfl
 have i:AA (yn zo) [.CC 0 0 (zz s) 1]=zt (I (zz s:Int)):=rfl;simp only[BD,j,i];refine Bj (λn:Nat=>[I (n:Int)]) (λn h=>n<=zz s/\h=[zg ((Ib s n).map PM)]) (λn=>zz s-n) 0 rfl ⟨AV _,rfl⟩ ?_;rintro n h ⟨hn,rfl⟩;obtain hlt|Et:=AP n (zz s)
 .have i1:(n:Int)<(zz s:Int):=by omega
  have g:AA (.EE 1) [.CC 0 0 (zz s) 1,I (n:Int)]=zt (Pt 0 n):=by simp[AA,elemOf,MM,hlt]
  have f:A5 [zg ((Ib s n).map PM)] z1 (Pt 0 n)=zt (z5 .u8 (s[n].toNat:Int)):=yI (by rw[Cc,Zn hlt];rfl);have e:IntKind.i32.wrap (s[n].toNat:Int)=(s[n].toNat:Int):=H_ (by have:=s[n].toNat_lt;omega);simp only[BD,i1,Az,Av,Ap,g,f,Rm,e,(aOJ _).BM rfl rfl,By n];refine⟨λhe=>?_,λhe=>?_⟩
  .have a:65<=s[n].toNat/\s[n].toNat<=90:=by omega
   have d:Cy [zg ((Ib s n).map PM)] 1 (Pt 0 n) (z5 .u8 ((s[n].toNat:Int)-65+97))=zt [zg (((Ib s n).map PM).set n (z5 .u8 ((s[n].toNat:Int)-65+97)))]:=sE (by rwa[Ao,Zm]) rfl;simp[BD,yC,iU,wrap_u8 (Ab:0<=((s[n].toNat:Int)-65)/\((s[n].toNat:Int)-65)<=255),wrap_u8 (Ab:0<=((s[n].toNat:Int)-65+97)/\((s[n].toNat:Int)-65+97)<=255),d];refine zw (n+1) rfl ⟨hlt,?_⟩ Ab;rw[TQ hlt,EI];have c:PM (Ju s[n])= z5 .u8 ((s[n].toNat:Int)-65+97):=by rw[PM];rw[TP a];congr 1;omega
   rw[c]
  .have Xy:¬(65<=s[n].toNat/\s[n].toNat<=90):=by omega
   refine zw (n+1) rfl ⟨hlt,?_⟩ Ab;rw[TQ hlt,Pc Xy,L_ (Zn hlt)]
 .have i1:¬(n:Int)<(zz s:Int):=by omega
  have en:n=zz s:=Ab;subst en;have b:KY [zg ((Ib s (zz s)).map PM)] (.CC 0 0 (zz s) 1)=zt ([.CU],.sl 1 (Cg (FI s))):=by
   have hl:(FI s).length=zz s:=by simp[FI]
   simp only[sD,KY,Hc];rw[Af (by simp[hl])];rw[QE (FI s) (zz s) 0 Ab];simp
  simp[BD,i1,Ag,Av,Ap,b,AX.Yi (s:=FI s) .mk]
end
section
def Uf(l:Ai)(ws:List Ai):Prop:=Ev cx 409 [zs l] [] λr _=>r= .sl 1 (ws.map Cr)
def Sn{l:Ai}{ws:List Ai}(n:Nat)(hr:(IT.run tab n (tab 409 [zs l]) []).map (λx=>(x.1,x.2.1))=zt (zb,[.sl 1 (ws.map Cr)])):Uf l ws:=by let⟨⟨x,vs,h⟩,a,b⟩:=Ns.1 hr;cases b;rw[S2] at a;exact⟨n,_,_,_,a,rfl,_,rfl,rfl⟩
def f236{l:Ai}{ws:List Ai}(hf:Uf l ws)(hw:∀w∈ws,zz w<=A0)(hn:zz ws<9223372036854775807)(name:Ai):JN cx 343 [zs name,zs l] (zs (Cq name ws)):=by
 rw[LY,m7];refine xq (hf.mono λr h1 e=>?_);subst e;have vR:AX 1 (ws.map Cr) (.sl 1 (ws.map Cr)):= .mk;simp only[BD,vR.len];refine Bj (λn:Nat=>[zs [],I (n:Int)]) (λn _=>n<=zz ws/\Cq name ws=Cq name (ws.drop n)) (λn=>zz ws-n) 0 rfl ⟨AV _,rfl⟩ ?_;rintro n h ⟨vV,ha⟩;obtain hlt|Et:=AP n (zz ws)
 .have i1:(n:Int)<((ws.map Cr).length:Int):=EP;have Ug:n<(ws.map Cr).length:=zv hlt
  have a:(ws.map Cr)[n]=[zs ws[n]]:=by simp[Cr]
  rw[AG hlt,Cq] at ha;simp only[BD,i1,Az,Av,Ap,vR.EE Ug,a,(aF6 ws[n] (hw _ (AN hlt))).BM rfl rfl,By n];refine⟨λhe=>?_,λhe=>?_⟩;.rw[ha,Af he]
  .rw[Ac he] at ha;exact zw (n+1) rfl ⟨hlt,ha⟩ Ab
 .have i1:¬(n:Int)<((ws.map Cr).length:Int):=EP;rw[AT Et,Cq] at ha;simp only[BD,i1,Ag,Av,Ap,ha]
def aJv(l name:Ai)(hl:zz l<=A0):JN cx 358 [zs l,zs name] (zs (Cq name (DD [] l))):=by
 have c:zz l<=140737488355328:=hl;rw[LY,aBq];refine Bj (λp:Nat×Nat=>[zs [],I (p.1:Int),I (p.2:Int)])
  (λp _=>(p.1<=p.2/\p.2<=zz l/\Cq name (DD [] l)=Cq name (DD ((l.take p.2).drop p.1) (l.drop p.2)))\/(p.2=zz l+1/\Cq name (DD [] l)=name)) (λp=>zz l+1 -p.2) (0,0) rfl (z2 ⟨Ae _,AV _,AH⟩) ?_
 rintro⟨a,n⟩ h aF5;rcases aF5 with⟨bM,hn,ha⟩|⟨hn,Xy⟩
 .simp only at bM hn ha;have i1:(n:Int)<=(zz l:Int):=Ab;have Qq:((l.take n).drop a).length<=A0:=by simp[A0];omega
  obtain hlt|Et:=AP n (zz l)
  .have b:¬(n:Int)=(zz l:Int):=by omega
   simp[BD,i1,b,Az,Ag,Ap,Av,FT hlt,By n,MY bM hn,(aBF _ Qq).BM rfl rfl];rw[AG hlt,QD] at ha;refine⟨λhe=>?_,λhe=>?_⟩
   .have e:l[n]=32:=by rw[<-PD];exact aCQ he
    rw[Af e,Cq] at ha;refine⟨λhw=>?_,λhw=>?_⟩;.rw[ha,Af hw]
    .rw[Ac hw] at ha;refine zw (n+1,n+1) rfl (z2 ⟨Ae _,hlt,?_⟩) DA;rw[ha,PS]
   .have e:¬l[n]=32:=λe=>he (by rw[e];rfl);rw[Ac e] at ha;refine zw (a,n+1) rfl (z2 ⟨DA,hlt,?_⟩) DA;rw[ha,Zl bM hlt]
  .have e:n=zz l:=by omega
   subst e;simp only[BD,IA,Az,Ap,Av,MY bM hn,By (zz l),(aBF _ Qq).BM rfl rfl];rw[AT (Ae _),Se,Cq,Cq] at ha;refine⟨λhw=>?_,λhw=>?_⟩;.rw[ha,Af hw]
   .rw[Ac hw] at ha;exact zw (zz l+1,zz l+1) rfl (ze ⟨rfl,ha⟩) DA
 .simp only at hn;subst hn;have i1:¬((zz l+1:Nat):Int)<=(zz l:Int):=Ab;simp only[BD,i1,Ag,Ap,Av,Xy]
def Xf:Uf Oy Jt:=Sn 5000 C8
def Xg:Uf Rp IE:=Sn 5000 C8
def aOK(s:Ai):JN cx 203 [zs s] (zs (Cq s Jt)):=by rw[LY,lI,show aJl (zs s)= .BM 343 [zs s,zs Oy] λv=> za zb [v] from rfl];rw[(f236 Xf Bx Bx s).BM rfl rfl];simp_all
def aJw(s:Ai):JN cx 230 [zs s] (zs (Cq s Jt)):=by rw[LY,aAU,show aJm (zs s)= .BM 358 [zs Oy,zs s] λv=> za zb [v] from rfl];rw[(aJv Oy s Bx).BM rfl rfl,Zo];simp_all
def aJx(s:Ai):JN cx 342 [zs s] (zs (Cq s IE)):=by rw[LY,m6,show aJp (zs s)= .BM 343 [zs s,zs Rp] λv=> za zb [v] from rfl];rw[(f236 Xg Bx Bx s).BM rfl rfl];simp_all
end
section
def aOL{v:Aa}{l:List A9}(hv:AL l v)(hn:zz l<9223372036854775807)(h:Ah){f:FuncId}{p:A9->Bool}(hp:∀a∈l,BK cx f [zi a.row] h (zy (p a)) h)(hf:f<=99999):
  BK cx 308 [v,zm (zk f) [] []] h (I (Cn p 0 l)) h:=by
 rw[Ad,Ub];have hlen:(l.map zn).length=zz l:=Ao ..;simp only[BD,AX.len hv];refine Bj (λn:Nat=>[I 0,I (n:Int)]) (λn h1=>n<=zz l/\Cn p 0 l=Cn p n (l.drop n)/\h1=h) (λn=>zz l-n) 0 rfl ⟨AV _,rfl,rfl⟩ ?_;rintro n h1 ⟨vV,ha,rfl⟩;obtain hlt|Et:=AP n (zz l)
 .have i1:(n:Int)<((l.map zn).length:Int):=by rw[hlen];omega
  have c:(l.map zn)[n]'(by rwa[hlen])=zn l[n]:=AH;have b:FN (zn l[n]) 0 (zt 3)=zt (zi (zn l[n])):=by simp[zn]
  rw[AG hlt,Cn] at ha;simp only[BD,Dw,hf,BB,i1,Az,Av,Ap,AX.EE hv (show n<(l.map zn).length by rwa[hlen]),c,b,hp _ (AN hlt)];rw[C5];refine⟨λhe=>?_,λhe=>?_⟩;.rw[ha,Af he]
  .rw[Ac (by simp[he])] at ha;simp[BD,By n];exact zw (n+1) rfl ⟨hlt,ha,rfl⟩ Ab
 .have i1:¬(n:Int)<((l.map zn).length:Int):=by rw[hlen];omega
  rw[AT Et,Cn] at ha;simp only[BD,Dw,hf,i1,Ag,Av,Ap,ha]
def aOM(a:A9)(h:Ah):BK cx 309 [zi a.row] h (zy (QF a)) h:=by simp[Ad,mA,zn,BD,QF];grind
def aF7(a b:Ai)(ha:zz a<=A0)(hb:zz b<=A0):JN cx 239 [zs a,zs b] (zy (decide (FI a=FI b))):=by simp[LY,lM,BD,(aF6 a ha).BM rfl rfl,(aF6 b hb).BM rfl rfl]
def f96{v:Aa}{l:List A9}(hv:AL l v)(hl:∀a∈l,zz a.value<=A0)(hn:zz l<9223372036854775807)(n:Int)(s:Ai)(h:Ah):BK cx 160 [I n,zs s,v] h (zy (Fl n s l)) h:=by
 simp only[Ad,j9,BD,ZX,aOL hv hn h (λa _=>aOM a h) Bf,Fl];refine⟨λh2=>by simp[h2],λh2=>⟨λb=>by simp[h2,b],λb=>⟨λg=>by simp[h2,b,g],λg=>?_⟩⟩⟩;rw[Ac h2,Ac b,Ac g];rcases Ic (l:=l) (k:=0) with⟨f,d⟩|⟨k,a,f,d,i⟩
 .rw[f,d];simp
 .rw[f,i,B2];let⟨hk,e⟩:=Aq.1 d;have c:k<(l.map zn).length:=zv hk
  have o:(l.map zn)[k]=zn a:=by simp[e]
  have i1:(0:Int)<=(k:Int):=Ab;have Qw:=hl a (e▸AN hk);have m:FI gq=gq:=QG Bx;have j:FI i6=i6:=QG Bx;simp[BD,i1,Az,Av,Ap,AX.EE hv c,o,zn,(aF7 a.value gq Qw Bf).BM rfl rfl,(aF7 a.value i6 Qw Bf).BM rfl rfl,m,j];grind
def aJy{v:Aa}{l:List A9}(hv:AL l v)(hl:∀a∈l,zz a.value<=A0)(hn:zz l<9223372036854775807)(n:Int)(s:Ai)(hs:zz s<9223372036854775807)(h:Ah):BK cx 166 [I n,zs s,v] h (zy (Fl n s l)) h:=by
 simp only[Ad,aAz,BD,Wv hs,Fl];refine⟨λh2=>by simp[h2,Dh],λh2=>⟨λb=>by simp[h2,b],λb=>⟨λf=>by simp[h2,b,f],λf=>?_⟩⟩⟩;rw[Ac h2,Ac b,Ac f];have hlen:(l.map zn).length=zz l:=Ao ..;refine Bj (λn:Nat=>[zy zo,I (n:Int)]) (λn h1=>n<=zz l/\l.find? QF=(l.drop n).find? QF/\h1=h) (λn=>zz l-n) 0 rfl ⟨AV _,rfl,rfl⟩ ?_;rintro n h1 ⟨vV,ha,rfl⟩;obtain hlt|Et:=AP n (zz l)
 .have i1:(n:Int)<((l.map zn).length:Int):=by rw[hlen];omega
  have g:(l.map zn)[n]'(by rwa[hlen])=zn l[n]:=AH;rw[AG hlt,DZ] at ha;simp only[BD,AX.len hv,i1,Az,Av,Ap,AX.EE hv (show n<(l.map zn).length by rwa[hlen]),g,zn,(aBF _ (hl _ (AN hlt))).BM rfl rfl,By n];refine⟨λe=>⟨λd=>?_,λd=>?_⟩,λe=>?_⟩
  .have he:QF l[n]=z4:=by simp[QF,e,d]
   rw[he] at ha;rw[ha];exact⟨λc=>by simp[c],λc=>by simp[c]⟩
  .have he:QF l[n]=zo:=by simp[QF,d]
   rw[he] at ha;exact zw (n+1) rfl ⟨hlt,ha,rfl⟩ Ab
  .have he:QF l[n]=zo:=by simp[QF,e]
   rw[he] at ha;exact zw (n+1) rfl ⟨hlt,ha,rfl⟩ Ab
 .have i1:¬(n:Int)<((l.map zn).length:Int):=by rw[hlen];omega
  rw[AT Et,List.find?_nil] at ha;simp only[ha,BD,AX.len hv,i1,Ag,Av,Ap]
end
section
section
variable{h:Ah}{p:Aa}{l:List Item}
def Vy(hs:rp h p l):BK cx 182 [p] h (I (zz l:Int)) h:=by
 rw[Ad,kP];rcases hs with⟨rfl,rfl⟩|⟨id,o,v,rfl,hc,hv⟩
 .simp
 .simp only[BD,Iy,hc.load,Bw,hv.CK]
def Xh(hs:rp h p l)(i:Int):BK cx 183 [p,I i] h (zi (Dc l i).row) h:=by
 simp only[Ad,kQ,BD,AQ,Vy hs];refine⟨λhi=>by rw[Lp (z2 hi)];simp[zq,Item.zero],λhi=>⟨λhl=>by rw[Lp (ze hl)];simp[zq,Item.zero],λhl=>?_⟩⟩;rcases hs with⟨rfl,rfl⟩|⟨id,o,v,rfl,hc,hv⟩
 .simp at hl;omega
 .obtain⟨n,rfl⟩:=Jm (Ab:0<=i);have hn:n<zz l:=Ab;simp only[BD,zp,ER,hc.load,Bw,hv.BG hn,FG hn]
def f39(hs:rp h p l)(hn:zz l<=1000000000):BK cx 196 [p] h (zi (DB l).row) h:=by simp only[Ad,lB,BD,ER,Vy hs,C0 ((zz l:Int)) 1,Xh hs _,DB]
def cP(F:Aa)(h:Ah)(q:Item->Bool):Prop:=∃f caps,F= zm (zk f) [] caps/\f<=99999/\∀a:Item,BK cx f (zi a.row::caps) h (zy (q a)) h
def aF8(hs:rp h p l)(hn:zz l<=1000000000){F:Aa}{q:Item->Bool}(hF:cP F h q):BK cx 325 [p,F] h (I (AZ q l)) h:=by
 obtain⟨f,caps,rfl,hf,hr⟩:=hF;simp only[Ad,mK,BD,Vy hs,C0 ((zz l:Int)) 1];refine Bj (λn:Nat=>[I 0,I ((n:Int)-1)]) (λn h1=>n<=zz l/\AZ q l=AZ q (l.take n)/\h1=h) (λn=>n) (zz l) rfl ⟨Ae _,by rw[Bt],rfl⟩ ?_;rintro n h1 ⟨vV,ha,rfl⟩;cases n with
 |zero=>have i1:¬(0:Int)<=((0:Nat):Int)-1:=Ab;simp[ha,BD,Dw,hf,i1,Ag,Av,Ap,Kt]
 |succ n=>
  have a:((n+1:Nat):Int)-1=(n:Int):=Ab;rcases hs with⟨rfl,rfl⟩|⟨id,o,v,rfl,hc,hv⟩
  .simp at vV
  .rw[Ht Ab] at ha;simp only[BD,zp,Dw,ER,hf,a,MW,Az,Av,Ap,hc.load,Bw,hv.BG (Ab:n<zz l),hr l[n],C0 ((n:Int)) 1];rw[C5];refine⟨λhe=>?_,λhe=>?_⟩;.rw[ha,Af he]
   .rw[Ac (by simp[he])] at ha;exact zw n rfl ⟨Ab,ha,rfl⟩ Ab
def aON{v:Aa}{ws:List Ai}(hv:IL ws v)(hn:zz ws<=1000000000)(s:Ai)(h:Ah):BK cx 396 [v,zs s] h (I (Cn (λw=>decide (s=w)) 0 ws)) h:=by
 simp[Ad,nN,BD,hv.CK];refine Bj (λn:Nat=>[I 0,I (n:Int)]) (λn h1=>n<=zz ws/\Cn (λw=>decide (s=w)) 0 ws=Cn (λw=>decide (s=w)) n (ws.drop n)/\h1=h) (λn=>zz ws-n) 0 rfl ⟨AV _,rfl,rfl⟩ ?_;rintro n h1 ⟨vV,ha,rfl⟩;obtain hlt|Et:=AP n (zz ws)
 .have i1:(n:Int)<(zz ws:Int):=by omega
  rw[AG hlt,Cn] at ha;simp[BD,i1,Az,Av,Ap,hv.BG hlt,Cr,By n];refine⟨λhe=>?_,λhe=>?_⟩;.rw[ha,Af (zv he)]
  .rw[Ac (zv he)] at ha;exact zw (n+1) rfl ⟨hlt,ha,rfl⟩ Ab
 .have i1:¬(n:Int)<(zz ws:Int):=by omega
  rw[AT Et,Cn] at ha;simp[BD,i1,Ag,Av,Ap,ha]
section
variable{v:Aa}{ws:List Ai}(hv:IL ws v)(hn:ws.length<=1000000000)
def aBG(s:Ai)(h:Ah):BK cx 310 [v,zs s] h (zy (decide (s∈ws))) h:=by simp[Ad,mB,BD,aON hv hn s h,ŷ]
def tJ(a:Item)(h:Ah):BK cx 201 [zi a.row,v] h (zy (AU ws a)) h:=by simp only[Ad,lG,BD,ER,aBG hv hn _ h,AU];grind
end
def aOO(a:Item)(h:Ah):BK cx 425 [zi a.row] h (zy (AU O9 a)) h:=by simp only[Ad,oB,BD,ER,yJ,tJ (ws:=O9) Cw Bf a h]
def aOP(a:Item)(h:Ah):BK cx 426 [zi a.row] h (zy (!AU M1 a)) h:=by simp only[Ad,oC,BD,ER,sF,tJ (ws:=M1) Cw Bf a h]
def aOQ(n:Int)(d:n≠4)(c:n≠5)(a:Item)(h:Ah):BK cx 427 [zi a.row,.CH [I n]] h (zy (HG n a)) h:=by have b1:=tJ (ws:=Pb) Cw Bf a h;have b2:=tJ (ws:=SU) Cw Bf a h;have b3:=tJ (ws:=[aXw]) Cw Bf a h;simp only[Ad,oD,BD,ER,ZX,yK,rq,r_,b1,b2,b3,HG,d,c];simp_all
def f264(n:Int)(h:Ah):∃F,BK cx 402 [I n] h F h/\cP F h (HG n)/\F.cells=[F]:=by
 by_cases d:n=4
 .refine⟨zm (zk 425) [] [],?_,⟨_,_,rfl,Bf,λa=>?_⟩,rfl⟩;.rw[Ad,Ue];simp[BD,d,Az,Av,Ap]
  .have:=aOO a h;simpa[HG,d] using this
 .by_cases c:n=5
  .refine⟨zm (zk 426) [] [],?_,⟨_,_,rfl,Bf,λa=>?_⟩,rfl⟩;.rw[Ad,Ue];simp only[BD,c,Az,Av,Ap];simp
   .have:=aOP a h;simpa[HG,c] using this
  .refine⟨zm (zk 427) [] [.CH [I n]],?_,⟨_,_,rfl,Bf,λa=>aOQ n d c a h⟩,rfl⟩;simp[Ad,Ue,BD,d,c,Ag,Av,Ap]
def aOR{d F2:Aa}{q e:Item->Bool}(h1:cP d h q)(h2:cP F2 h e)(a:Item):BK cx 403 [zi a.row,.CH [d],.CH [F2]] h (zy (q a||e a)) h:=by rw[Ad,nT];obtain⟨f,caps,rfl,hf,g⟩:=h1;obtain⟨f',c,rfl,zd,r2⟩:=h2;simp only[BD,Dw,ER,hf,zd,g a,r2 a];simp_all
def aJz(hs:rp h p l)(hn:zz l<=1000000000)(n:Int){F:Aa}{q:Item->Bool}(hF:cP F h q):BK cx 321 [p,I n,F] h (zy (HZ q (HG n) l.reverse)) h:=by
 let⟨G,g,aJA,Km⟩:=f264 n h;have c:F.cells=[F]:=by obtain⟨f,caps,rfl,hf,_⟩:=hF;rfl
 have d:=hF;have hfit:cP (zm (zk 403) [] [.CH [F],.CH [G]]) h (λa=>q a||HG n a):=⟨403,_,rfl,Bf,λa=>aOR hF aJA a⟩;simp only[Ad,mG,BD,Dw,c,g,Km,aF8 hs hn hfit];rw[<-yL l z4];rcases Dy (q:=λa=>q a||HG n a) (l:=l) with⟨h1,h2⟩|⟨k,hk,h1,h2,i⟩
 .simp[h1]
 .have e:(0:Int)<=(k:Int)/\(k:Int).toNat<zz l:=⟨Ab,zv hk⟩;simp only[h1];rw[dif_pos e];rcases hs with⟨rfl,rfl⟩|⟨id,o,v,rfl,hc,hv⟩
  .simp at hk
  .obtain⟨f,caps,rfl,hf,hr⟩:=d;simp[BD,ER,hf,e.1,Az,Av,Ap,hc.load,Bw,hv.BG hk,hr l[k],A3]
def aOS{v:Aa}{ws:List Ai}(hv:IL ws v)(hn:zz ws<=1000000000)(a:Item)(h:Ah):BK cx 322 [zi a.row,.CH [v]] h (zy (AU ws a)) h:=by have b:=tJ hv hn a h;simp only[Ad,mH,BD,ER,b]
def aJB(hs:rp h p l)(hn:zz l<=1000000000)(n:Int){v:Aa}{ws:List Ai}(hv:IL ws v)(hw:zz ws<=1000000000):BK cx 177 [p,I n,v] h (zy (HZ (AU ws) (HG n) l.reverse)) h:=by have hfit:cP (zm (zk 322) [] [.CH [v]]) h (AU ws):=⟨322,_,rfl,Bf,λa=>aOS hv hw a h⟩;simp[Ad,kL,BD,hv.cells,aJz hs hn n hfit]
def aOT(node:Int)(a:Item)(h:Ah):BK cx 405 [zi a.row,.CH [I node]] h (zy (BE node a)) h:=by rw[Ad,nV,zq];simp only[BD,ER,BE]
def aOU(hs:rp h p l)(hn:zz l<=1000000000)(n node:Int):BK cx 331 [p,I n,I node] h (zy (HZ (BE node) (HG n) l.reverse)) h:=by have hfit:cP (zm (zk 405) [] [.CH [I node]]) h (BE node):=⟨405,_,rfl,Bf,λa=>aOT node a h⟩;simp[Ad,mQ,BD,aJz hs hn n hfit]
def aOV(node:Int)(a:Item)(h:Ah):BK cx 326 [zi a.row,.CH [I node]] h (zy (BE node a)) h:=by rw[Ad,mL,zq];simp only[BD,ER,BE]
def cQ(hs:rp h p l)(hn:zz l<=1000000000)(node:Int):BK cx 179 [p,I node] h (I (AZ (BE node) l)) h:=by have hfit:cP (zm (zk 326) [] [.CH [I node]]) h (BE node):=⟨326,_,rfl,Bf,λa=>aOV node a h⟩;simp[Ad,kN,BD,aF8 hs hn hfit]
def aOW(s:Ai)(a:Item)(h:Ah):BK cx 339 [zi a.row,.CH [zs s]] h (zy (AU [s] a)) h:=by have b:=tJ Cw (AH:[s].length<=1000000000) a h;simp only[Ad,mY,BD,ER,D2 (ws:=[s]) (args:=[zs s]) rfl AH,b]
def aBH(hs:rp h p l)(hn:zz l<=1000000000)(s:Ai):BK cx 193 [p,zs s] h (I (AZ (AU [s]) l)) h:=by have hfit:cP (zm (zk 339) [] [.CH [zs s]]) h (AU [s]):=⟨339,_,rfl,Bf,λa=>aOW s a h⟩;simp[Ad,kY,BD,aF8 hs hn hfit]
end
end
section
section
variable{h:Ah}{p v:Aa}{l:List Item}
def aJC(hv:BZ l v)(a:Item){n:Nat}(hn:n<=zz l)(hb:zz l<=1000000000):∃u,BK cx 307 [v,zi a.row,I (n:Int)] h u h/\BZ (l.take n++a::l.drop n) u:=by let⟨t,q,h1⟩:=ys hv (k:= yy) hn;let⟨s,m,h2⟩:=AX.Gg h1 (b:=40) (by rw[Ax];have:A0=140737488355328:=rfl;omega);have j:=AX.JU (a:=a) h2 (b:=40) (by rw[Ax];have:A0=140737488355328:=rfl;omega);let⟨r,i,e⟩:=AX.TR hv (k:= yy) hn;let⟨d,g,c⟩:=AX.i7 (v:= .sl 4 ((l.take n++[a]).map zq)) .mk e (b:=40) (by rw[Aw,Ax,Bi,Bl];have:A0=140737488355328:=rfl;omega);refine⟨d,?_,by rwa[AK] at c⟩;simp only[Ad,lZ,BD,ER,q,m,M2,j,i,g]
def f95{id o:Nat}(hs:Mx h id o l)(hb:zz l<=1000000000)(a:Item):∃u,BK cx 159 [Pt id o,zi a.row] h (yu []) (put h id o u)/\BZ (l++[a]) u:=by let⟨v,hc,hv⟩:=hs;let⟨u,hr,hu⟩:=aJC (h:=h) hv a (Ae _) hb;rw[Bt,EJ] at hu;refine⟨u,?_,hu⟩;simp only[Ad,j8,BD,ER,Tc,Jl,hc.load,Bw,z8 hv,hr,hc.store hu.cells]
def aOX(hs:rp h p l)(hb:zz l<=1000000000)(node:Int):BK cx 332 [p,I node] h (I (Eg node l)) h:=by
 rw[Ad,mR];have a: -1<=AZ (BE node) l/\AZ (BE node) l<zz l+1:=by rcases Dy (q:=BE node) (l:=l) with⟨h1,h2⟩|⟨n,hn,h1,h2,c⟩<;>rw[h1]<;>omega
 simp only[BD,cQ hs hb node,Pd (Ab: -9223372036854775808<=AZ (BE node) l+1) (Ab:AZ (BE node) l+1<9223372036854775808)];rw[Jb];by_cases Gt:AZ (BE node) l<0;.rw[Af Gt];refine Bj (λn:Nat=>[I 0,I (AZ (BE node) l+1)]) (λn h1=>h1=h) (λn=>n) 0 rfl rfl ?_;rintro n h1 rfl;have i1:¬0<=AZ (BE node) l:=Ab;simp[BD,i1,Ag,Av,Ap]
 .rw[Ac Gt];have i0:0<=AZ (BE node) l:=Ab;let⟨m,hm⟩:=Jm i0;refine Bj (λn:Nat=>[I 0,I (n:Int)]) (λn h1=>Fm C1 l (m+1)=Fm C1 l n/\h1=h) (λn=>zz l-n) (m+1) (by rw[hm];rfl) ⟨rfl,rfl⟩ ?_;rw[hm,A3];rintro n h1 ⟨ha,rfl⟩;simp only[BD,MW,Az,Av,Ap,Vy hs];obtain hlt|Et:=AP n (zz l)
  .have i1:(n:Int)<(zz l:Int):=by omega
   rw[TT hlt] at ha;rcases hs with⟨rfl,rfl⟩|⟨id,o,v,rfl,hc,hv⟩
   .simp at hlt
   .simp only[BD,ER,i1,Az,Av,Ap,hc.load,Bw,AX.BG hv hlt,ZX,By n];rw[C5];refine⟨λhe=>?_,λhe=>?_⟩;.rw[ha,Af (by exact he)]
    .rw[Ac (by simp[C1,he])] at ha;exact zw (n+1) rfl ⟨ha,rfl⟩ Ab
  .have i1:¬(n:Int)<(zz l:Int):=by omega
   rw[Sf Et] at ha;simp[BD,i1,Ag,Av,Ap,ha]
def aF9(hv:BZ l v)(i:Int):BK cx 382 [v,I i] h (zi (Dc l i).row) h:=by simp only[Ad,aBu,BD,AQ,hv.CK];refine⟨λhi=>by rw[Lp (z2 hi)];simp[zq,Item.zero],λhi=>⟨λhl=>by rw[Lp (ze hl)];simp[zq,Item.zero],λhl=>?_⟩⟩;obtain⟨n,rfl⟩:=Jm (Ab:0<=i);have hn:n<zz l:=Ab;simp only[BD,zp,ER,hv.BG hn,FG hn]
def aJD(hv:BZ l v)(hb:zz l<=1000000000):BK cx 351 [v] h (zi (DB l).row) h:=by simp only[Ad,aBk,BD,ER,z8 hv,C0 ((zz l:Int)) 1,aF9 hv _,DB]
def f167(a:Item){ws:List Ai}(hv:IL ws v)(hn:zz ws<=1000000000):BK cx 217 [zi a.row,v] h (zy (AU ws a)) h:=by
 simp only[Ad,aAL,BD,ER];refine⟨λh1=>by simp[AU,h1],λh1=>?_⟩;have h1:a.A7=1:=zv h1
 refine Bj (λn:Nat=>[zy zo,I (n:Int)]) (λn h1=>n<=zz ws/\(a.name∈ws↔a.name∈ws.drop n)/\h1=h) (λn=>zz ws-n) 0 rfl ⟨AV _,Iff.rfl,rfl⟩ ?_;rintro n h2 ⟨vV,ha,rfl⟩;obtain hlt|Et:=AP n (zz ws)
 .have i1:(n:Int)<(zz ws:Int):=by omega
  rw[AG hlt,AR] at ha;simp[BD,hv.CK,i1,Az,Av,Ap,hv.BG hlt,Cr,By n];refine⟨λhe=>?_,λhe=>?_⟩;.have:a.name∈ws:=ha.2 (z2 he.symm);simp[AU,h1,this]
  .exact zw (n+1) rfl ⟨hlt,ha.trans ⟨λh=>h.resolve_left (λh=>he h.symm),ze⟩,rfl⟩ Ab
 .have i1:¬(n:Int)<(zz ws:Int):=by omega
  rw[AT Et] at ha;simp[BD,hv.CK,i1,Ag,Av,Ap];have:a.name∉ws:=λh=>zv (ha.1 h)
  simp[AU,this]
def aOY(n:Int)(a:Item)(hs:zz a.name<9223372036854775807):BK cx 411 [zi a.row,I n] h (zy (HG n a)) h:=by
 simp only[Ad,aBz,BD,ER,tj hs,zY hs,á hs,tk hs,Z0 hs,HG,AU];by_cases h1:a.A7=1
 .have j:¬a.A7=3:=by omega
  have i:¬a.A7=2:=Ab;simp[h1,DO,SO,Nr,Ap,Az,gK,forall_const];by_cases d:n=4;.simp[d]
  .by_cases c:n=5;.simp[c]
   .by_cases h2:n=2;.simp[h2];by_cases hl:a.name∈SU<;>simp[hl]
    .by_cases g:n=3;.simp[g];by_cases hl:a.name=aXw<;>simp[hl]
     .simp[d,c,h2,g]
 .simp only[h1,DX,Ve,bO,Av,Ap,Ag,Jl];by_cases d:n=4;.simp[d]
  .by_cases c:n=5;.simp[c]
   .by_cases g:a.A7=3\/a.A7=2;.simp[d,c,g]
    .have j:¬a.A7=3:=λe=>g (z2 e);have i:¬a.A7=2:=λe=>g (ze e);simp[d,c,j,i,Dh,h1]
def aJE(hv:BZ l v)(hb:zz l<=1000000000)(hl:∀a∈l,zz a.name<9223372036854775807){i:Nat}(hi:i<=zz l)(n:Int):BK cx 348 [v,I (i:Int),I n] h (zy (!((l.drop (i+1)).any (HG n)))) h:=by
 simp only[Ad,aBh,BD,By i];refine Bj (λm:Nat=>[zy zo,I (m:Int)]) (λm h1=>(l.drop (i+1)).any (HG n)=(l.drop m).any (HG n)/\h1=h) (λm=>zz l-m) (i+1) rfl ⟨rfl,rfl⟩ ?_;rintro m h1 ⟨ha,rfl⟩;obtain hlt|Et:=AP m (zz l)
 .have i1:(m:Int)<(zz l:Int):=by omega
  rw[AG hlt,J5] at ha;simp only[BD,zp,ER,hv.CK,i1,Az,Av,Ap,hv.BG hlt,aOY n l[m] (hl _ (AN hlt)),By m];rw[C5];refine⟨λhe=>by rw[ha,he];rfl,λhe=>?_⟩;rw[he,GM] at ha;exact zw (m+1) rfl ⟨ha,rfl⟩ Ab
 .have i1:¬(m:Int)<(zz l:Int):=by omega
  rw[AT Et] at ha;simp[BD,hv.CK,i1,Ag,Av,Ap,ha,vK,Jl]
def aJF(hv:BZ l v)(hb:zz l<=1000000000)(hl:∀a∈l,zz a.name<9223372036854775807)(n:Int){w:Aa}{ws:List Ai}(hw:IL ws w)(hn:zz ws<=1000000000):BK cx 214 [v,I n,w] h (zy (HZ (AU ws) (HG n) l.reverse)) h:=by
 have DR:AX 4 (l.map zq) v:=hv;rw[Ad,aAI,<-sG];refine Bj (λm:Nat=>[zy zo,I (m:Int)]) (λm h1=>m<=zz l/\Zq (AU ws) (HG n) l=Zq (AU ws) (HG n) (l.drop m)/\h1=h) (λm=>zz l-m) 0 rfl ⟨AV _,rfl,rfl⟩ ?_;rintro m h1 ⟨hm,ha,rfl⟩;obtain hlt|Et:=AP m (zz l)
 .have i1:(m:Int)<(zz l:Int):=by omega
  rw[AG hlt,Zq] at ha;simp only[BD,zp,ER,DR.CK,i1,Az,Av,Ap,DR.BG hlt,f167 l[m] hw hn,aJE hv hb hl (P4 hlt) n,By m];rw[C5,C5];refine⟨λh1=>⟨λh2=>by rw[ha,h1,h2];rfl,λh2=>?_⟩,λh1=>?_⟩;.rw[h2,Ķ,GM] at ha;exact zw (m+1) rfl ⟨hlt,ha,rfl⟩ Ab
  .rw[h1,bI,GM] at ha;exact zw (m+1) rfl ⟨hlt,ha,rfl⟩ Ab
 .have i1:¬(m:Int)<(zz l:Int):=by omega
  rw[AT Et,Zq] at ha;simp[BD,DR.CK,i1,Ag,Av,Ap,ha]
def cR(hv:BZ l v)(hb:zz l<=1000000000)(node:Int):BK cx 283 [v,I node] h (I (AZ (BE node) l)) h:=by
 rw[Ad,aA0];refine Bj (λn:Nat=>[I (AZ (BE node) (l.take n)),I (n:Int)]) (λn h1=>n<=zz l/\h1=h) (λn=>zz l-n) 0 rfl ⟨AV _,rfl⟩ ?_;rintro n h1 ⟨hn,rfl⟩;obtain hlt|Et:=AP n (zz l)
 .have i1:(n:Int)<(zz l:Int):=by omega
  have e:=Ht (q:=BE node) hlt;simp only[BD,ER,hv.CK,i1,Az,Av,Ap,hv.BG hlt,By n];refine⟨λhe=>?_,λhe=>?_⟩;.rw[Af (by simpa[BE] using he)] at e;exact zw (n+1) (by rw[e]) ⟨hlt,rfl⟩ Ab
  .rw[Ac (by simpa[BE] using he)] at e;exact zw (n+1) (by rw[e]) ⟨hlt,rfl⟩ Ab
 .have i1:¬(n:Int)<(zz l:Int):=by omega
  simp[BD,hv.CK,i1,Ag,Av,Ap,AF Et]
def aBI(hv:BZ l v)(hb:zz l<=1000000000)(s:Ai):BK cx 141 [v,zs s] h (I (AZ (AU [s]) l)) h:=by
 have b:=λa=>f167 (h:=h) a (ws:=[s]) Cw (AH:[s].length<=1000000000);rw[Ad,aAq];refine Bj (λn:Nat=>[I (AZ (AU [s]) (l.take n)),I (n:Int)]) (λn h1=>n<=zz l/\h1=h) (λn=>zz l-n) 0 rfl ⟨AV _,rfl⟩ ?_;rintro n h1 ⟨hn,rfl⟩;obtain hlt|Et:=AP n (zz l)
 .have i1:(n:Int)<(zz l:Int):=by omega
  have e:=Ht (q:=AU [s]) hlt;simp only[BD,zp,ER,hv.CK,i1,Az,Av,Ap,hv.BG hlt,By n,D2 (ws:=[s]) (args:=[zs s]) rfl AH,b l[n]];rw[C5];refine⟨λhe=>?_,λhe=>?_⟩;.rw[Af he] at e;exact zw (n+1) (by rw[e]) ⟨hlt,rfl⟩ Ab
  .rw[Ac (zv he)] at e;exact zw (n+1) (by rw[e]) ⟨hlt,rfl⟩ Ab
 .have i1:¬(n:Int)<(zz l:Int):=by omega
  simp[BD,hv.CK,i1,Ag,Av,Ap,AF Et]
section
variable(hv:BZ l v)(hb:l.length<=1000000000)(hl:∀a∈l,a.name.length<9223372036854775807)
def aOZ(n node:Int):BK cx 292 [v,I n,I node] h (zy (HZ (BE node) (HG n) l.reverse)) h:=by
 rw[Ad,aA8,<-aFq];simp[BD,cR hv hb node];rcases Dy (q:=BE node) (l:=l) with⟨h1,h2⟩|⟨k,hk,h1,h2,c⟩
 .simp[h1]
 .rw[h1];simp[BD,MW,(Ab:¬(k:Int)<0),Az,Av,Ap,aJE hv hb hl (P4 hk) n,A3]
end
def aO0(hv:BZ l v)(hb:zz l<=1000000000)(hl:∀a∈l,zz a.name<9223372036854775807)(node:Int):BK cx 354 [v,I node] h (I (Eg node l)) h:=by
 have DR:AX 4 (l.map zq) v:=hv;simp only[Ad,aBm,Jb,BD,cR hv hb node];rcases Dy (q:=BE node) (l:=l) with⟨h1,h2⟩|⟨k,hk,h1,h2,c⟩
 .simp[h1]
 .rw[h1];simp only[BD,(Ab:¬(k:Int)<0),Ag,Av,Ap,A3,By k];refine Bj (λn:Nat=>[I 0,I (n:Int)]) (λn h1=>Fm C1 l (k+1)=Fm C1 l n/\h1=h) (λn=>zz l-n) (k+1) rfl ⟨rfl,rfl⟩ ?_;rintro n h1 ⟨ha,rfl⟩;obtain hlt|Et:=AP n (zz l)
  .have i1:(n:Int)<(zz l:Int):=by omega
   rw[TT hlt] at ha;simp only[BD,ER,DR.CK,i1,Az,Av,Ap,DR.BG hlt,Z0 (hl _ (AN hlt)),By n];rw[C5];refine⟨λhe=>by rw[ha,Af (by exact he)],λhe=>?_⟩;rw[Ac (by simp[C1,he])] at ha;exact zw (n+1) rfl ⟨ha,rfl⟩ Ab
  .have i1:¬(n:Int)<(zz l:Int):=by omega
   rw[Sf Et] at ha;simp[BD,DR.CK,i1,Ag,Av,Ap,ha]
end
end
section
def Z3(F:Aa)(q:Item->Bool):Prop:=∃f caps,F= zm (zk f) [] caps/\f<=99999/\∀(a:Item) (h:Ah),BK cx f (zi a.row::caps) h (zy (q a)) h
section
variable{h:Ah}{p v:Aa}{l:List Item}
def f42{id o:Nat}(hs:Mx h id o l)(hb:zz l<=1000000000)(h2:2<=zz l):∃u,BK cx 81 [Pt id o] h (zi (DB l).row) (put h id o u)/\BZ (l.take (zz l-1)) u:=by let⟨v,hc,hv⟩:=(show Mx h id o l from hs);let⟨u,e,hu⟩:=ys hv (k:= yy) (Ab:zz l-1<=zz l);refine⟨u,?_,hu⟩;have a:(zz l:Int)-1=((zz l-1:Nat):Int):=Ab;simp only[Ad,ZR,BD,ER,Vy hs.at,f39 hs.at hb,hc.load,Bw,z8 hv,C0 ((zz l:Int)) 1,a,e,hc.store (yx hu),(Ab:¬(zz l:Int)<2),Ag,Av,Ap]
def aBJ{id o:Nat}(hs:Mx h id o l)(hb:zz l<=1000000000){B A:Aa}{b a:Item->Bool}(hB:Z3 B b)(d:Z3 A a):
  ∃u,BK cx 198 [Pt id o,B,A] h (I ((zz l:Int)-((DI b a l).length:Int))) (put h id o u)/\BZ (DI b a l) u:=by
 obtain⟨e,j,rfl,tl,rb⟩:=hB;obtain⟨fa,ca,rfl,hfa,ra⟩:=d;have hlt:=hs.lt;have IJ:Ev cx 198 [Pt id o,zm (zk e) [] j,zm (zk fa) [] ca] h λr h'=>r= I ((zz l:Int)-((DI b a l).length:Int))/\∃u,h'=put h id o u/\BZ (DI b a l) u:=by
  rw[Ev];rw[lD];refine Bj (λn:Nat=>[I ((zz l:Int)-(n:Int))]) (λn h1=>n<=zz l/\(∃u,h1=put h id o u/\BZ (l.take n) u)/\DI b a l=DI b a (l.take n)) (λn=>n) (zz l) AH ⟨Ae _,by rw[Bt];exact hs.jC,by rw[Bt]⟩ ?_;rintro n h1 ⟨hn,⟨u,rfl,hu⟩,ha⟩;have Kn:Mx (put h id o u) id o (l.take n):= .aFr hlt hu;have wL:(l.take n).length=n:=by rw[Ax];omega
  simp only[BD,Vy Kn.at,wL];match n,hn,hu,ha,Kn,wL with
  |0,hn,hu,ha,Kn,wL=>rw[Zr (l:=l.take 0) AH] at ha;simp only[BD,(Ab:¬(1:Int)<((0:Nat):Int)),Ag,Av,Ap];exact⟨_,rfl,by rw[ha];rfl,u,rfl,by rwa[ha]⟩
  |1,hn,hu,ha,Kn,wL=>rw[Zr (l:=l.take 1) (by rw[wL];exact Ae _)] at ha;simp only[BD,(Ab:¬(1:Int)<((1:Nat):Int)),Ag,Av,Ap];exact⟨_,rfl,by rw[ha,wL],u,rfl,by rwa[ha]⟩
  |m+2,hn,hu,ha,Kn,wL=>
   have hm:m+1<zz l:=Ab;have i:((zz l:Int)-((m+2:Nat):Int))+1=(zz l:Int)-((m+1:Nat):Int):=Ab;let⟨c,hr,Ja⟩:=f42 Kn Ab Ab;rw[Zs hm] at hr;have g:(l.take (m+2)).take ((l.take (m+2)).length-1)=l.take (m+1):=by rw[wL,Fj,Ct Ab];rfl
   rw[g] at Ja;rw[jA] at hr;have aJG:=f39 Kn.at Ab;rw[Zs hm] at aJG;rw[eW hm] at ha;simp only[BD,Dw,hfa,tl,(Ab:(1:Int)<((m+2:Nat):Int)),Az,Av,Ap,aJG,rb _ _,hr,ra _ _,Pd (Ab: -9223372036854775808<=((zz l:Int)-((m+2:Nat):Int))+1) (Ab:((zz l:Int)-((m+2:Nat):Int))+1<9223372036854775808),i];rw[C5,C5];refine⟨λUP=>⟨λcD=>?_,λcD=>?_⟩,λUP=>?_⟩
   .have UP:b l[m+1]=zo:=zv UP
    rw[Ac (by simp[UP]),Af cD] at ha;exact⟨_,rfl,by rw[ha,Ax,Ct Ab],c,rfl,by rwa[ha]⟩
   .have UP:b l[m+1]=zo:=zv UP
    rw[Ac (by simp[UP]),Ac (by simp[cD])] at ha;exact zw (m+1) rfl ⟨Ab,⟨c,rfl,Ja⟩,ha⟩ Ab
   .have UP:b l[m+1]=z4:=zv UP
    rw[Af UP] at ha;exact⟨_,rfl,by rw[ha,wL],u,rfl,by rwa[ha]⟩
 obtain⟨r,h',hr,rfl,u,rfl,hu⟩:=IJ.ret;exact⟨u,hr,hu⟩
def Pm:Z3 (zm (zk 199) [] []) Cx:=⟨_,_,rfl,Bf,λa h=>by simp[Ad,lE,BD,ER,Cx]⟩
def zZ{w:Aa}{ws:List Ai}(hw:IL ws w)(hn:zz ws<=1000000000):Z3 (zm (zk 200) [] [.CH [w]]) (AU ws):=⟨_,_,rfl,Bf,λa h=>by simp only[Ad,lF,BD,ER,tJ hw hn a h]⟩
def oG(s:Ai):Z3 (zm (zk 323) [] [.CH [zs s]]) (Di s):=⟨_,_,rfl,Bf,λa h=>by
 simp only[Ad,mI,BD,ER,ß,Di];refine⟨λh1=>by simp[h1],λh1=>?_⟩;rw[C5];refine⟨λh2=>?_,λh2=>?_⟩;.grind
 .have h2:a.name∈Gr:=zv h2
  simp[h2,h1]⟩
def cS:Z3 (zm (zk 340) [] []) CM:=⟨_,_,rfl,Bf,λa h=>by simp only[Ad,mZ,BD,ER,à,CM];refine⟨λh1=>by simp[h1],λh1=>?_⟩;simp[h1]⟩
def oH(node:Int):Z3 (zm (zk 327) [] [.CH [I node]]) (BE node):=⟨_,_,rfl,Bf,λa h=>by simp only[Ad,mM,BD,ER,BE]⟩
section
variable{id o:Nat}(hs:Mx h id o l)(hb:l.length<=1000000000)
def aGa(s:Ai):
  ∃u,BK cx 178 [Pt id o,zs s] h (I ((zz l:Int)-((DI (Di s) Cx l).length:Int))) (put h id o u)/\BZ (DI (Di s) Cx l) u:=by
 let⟨u,hr,hu⟩:=aBJ hs hb (oG s) Pm;exact⟨u,by simp[Ad,kM,BD,hr],hu⟩
def f66{w:Aa}{ws:List Ai}(hw:IL ws w)(hn:zz ws<=1000000000):
  ∃u,BK cx 83 [Pt id o,w] h (I ((zz l:Int)-((DI Cx (AU ws) l).length:Int))) (put h id o u)/\BZ (DI Cx (AU ws) l) u:=by
 let⟨u,hr,hu⟩:=aBJ hs hb Pm (zZ hw hn);exact⟨u,by simp[Ad,zU,BD,IL.cells hw,hr],hu⟩
def aO1:
  ∃u,BK cx 194 [Pt id o] h (I ((zz l:Int)-((DI CM Cx l).length:Int))) (put h id o u)/\BZ (DI CM Cx l) u:=by
 let⟨u,hr,hu⟩:=aBJ hs hb cS Pm;exact⟨u,by simp[Ad,kZ,BD,hr],hu⟩
def aJH(node:Int):
  ∃u,BK cx 184 [Pt id o,I node] h (I ((zz l:Int)-((Hu node l).length:Int))) (put h id o u)/\BZ (Hu node l) u:=by
 by_cases Gt:AZ (BE node) l<0;.let⟨u,e,hu⟩:=hs.jC;refine⟨u,?_,by rwa[Hu,Af Gt]⟩;simp[Hu,Af Gt,Int.sub_self,Ad,XP,BD,cQ hs.at hb node,Gt,Az,Av,Ap];exact e
 .let⟨u,hr,hu⟩:=aBJ hs hb Pm (oH node);refine⟨u,?_,by rwa[Hu,Ac Gt]⟩;simp[Hu,Ac Gt,Ad,XP,BD,cQ hs.at hb node,Gt,Ag,Av,Ap,hr]
end
end
end
section
section
variable{h:Ah}{p v:Aa}{l:List Item}
def aO2(hv:BZ l v){k:Nat}(hk:k<zz l)(hb:zz l<=1000000000):∃u,BK cx 368 [v,I (k:Int)] h u h/\BZ (Bg l k) u:=by let⟨r,j,h1⟩:=ys hv (k:= yy) (Ab:k<=zz l);let⟨q,i,h2⟩:=AX.Gg h1 (Sg (by rw[Ax];omega));let⟨m,g,d⟩:=AX.TR hv (k:= yy) (Ab:k+1<=zz l);let⟨a,e,c⟩:=AX.i7 h2 d (Sg (by rw[Ax,Bi];omega));refine⟨a,?_,c⟩;simp only[Ad,nD,BD,j,i,By k,g,e]
section
variable{id o:Nat}(hs:Mx h id o l)(hb:l.length<=1000000000)
def aBK(node:Int):∃u,BK cx 243 [Pt id o,I node] h (zy (decide (1<=AZ (BE node) l))) (put h id o u)/\BZ (CN node l) u:=by
 by_cases Gt:AZ (BE node) l<1;.let⟨u,e,hu⟩:=hs.jC;refine⟨u,?_,by rwa[CN,Af Gt]⟩;rw[Ad,XW,<-e];simp[BD,cQ hs.at hb node,Gt,Az,Av,Ap,(Ab:¬1<=AZ (BE node) l),DX]
 .rcases Dy with⟨h1,_⟩|⟨k,hk,h1,_⟩
  .rw[h1] at Gt;omega
  .let⟨v,hc,hv⟩:=(show Mx h id o l from hs);let⟨u,hr,hu⟩:=aO2 (h:=h) hv hk hb;refine⟨u,?_,by rwa[CN,Ac Gt,h1]⟩;simp[Ad,XW,BD,cQ hs.at hb node,hc.load,Bw,h1];rw[h1] at Gt;simp[BD,hr,Bw,hc.store (BZ.cells hu),show¬(k:Int)<1 from Gt,Ag,Av,Ap,(Ab:(1:Int)<=(k:Int)),DO]
end
def aO3{id o:Nat}(hs:Mx h id o l)(hb:zz l<=1000000000)(a:Item)(i:Int):∃u,BK cx 335 [Pt id o,zi a.row,I i] h (yu []) (put h id o u)/\BZ (l.take (Fo i (zz l))++a::l.drop (Fo i (zz l))) u:=by
 let⟨v,hc,hv⟩:=(show Mx h id o l from hs);let⟨u,hr,hu⟩:=aJC (h:=h) hv a (n:=Fo i (zz l)) (by rw[Fo];omega) hb;refine⟨u,?_,hu⟩;rw[Ad,mU];have c:(if(zz l:Int)<(if i<1 then 1 else i) then(zz l:Int) else(if i<1 then 1 else i))=((Fo i (zz l):Nat):Int):=by rw[Fo];split<;>split<;>omega
 simp only[BD,ER,Tc,Jl,hc.load,Bw,iY,z8 hv,G_,c,hr,hc.store (BZ.cells hu)]
def aO4(hv:BZ l v)(hne:l≠[])(hb:zz l<=1000000000):BK cx 428 [v] h (.CC (zz h) 0 (zz l) 4) (h++[zg (l.map zq).flatten]):=by
 have c:AA (.GD zo .sl) [v,zj]=zt (zy zo):=by
  obtain rfl|⟨rfl,hv⟩:=hv
  .rfl
  .simp_all
 have a:=LX (h:=h) (ze rfl) hv (zv hne) (by rw[Ao];exact Sg Ab);rw[Ad,oE];simp_all
section
variable{id o n z:Nat}{v w:Aa}{X Y:DG}{AD:List (List Aa)}
section
variable(ha:At h id o v)
def At.next:(Am.put h id o w++[X])[zz h]?=zt X/\At (Am.put h id o w++[X]) id o w/\(Am.put h id o w++[X]).set (zz h) Y=Am.put h id o w++[Y]:=by have e:=Jw (h:=h) (id:=id) (o:=o) (u:=w);refine⟨by rw[<-e];simp,ha.put.HY,?_⟩;simp_all
def At.kx(hv:KY h v=zt (h,v)):MO h 0 (Pt id o)=zt h:=by have a:=ha.same;let⟨cs,hc,e⟩:=ha;simp[MO,hc,Bw,e,hv,CP];rw[IM hc] at a;rw[a]
def At.ky(hr:∀r∈AD,zz r=z):MO (Am.put h id o (.CC (zz h) 0 (zz AD) z)++[zg AD.flatten]) 0 (Pt id o)=zt (Am.put h id o (.sl z AD)++[.CU]):=by obtain⟨d,c,a⟩:=ha.next (w:= .CC (zz h) 0 (zz AD) z) (Y:= .CU);have f1:=Kr hr d;rw[a] at f1;have a2:=(ha.next (w:= .CC (zz h) 0 (zz AD) z) (X:= .CU) (Y:= .CU)).2.1;let⟨cs,hc,e⟩:=c;let⟨TH,JH,g⟩:=a2;simp[MO,hc,Bw,e,f1,CP,JH];rw[<-IM (u:= .sl z AD) JH,jB ha.put,jA]
end
end
def aO5{id o:Nat}(hs:Mx h id o l)(hb:zz l<=1000000000)(node:Int)(a:Item):∃u t,BK cx 406 [Pt id o,I node,zi a.row] h (zy (decide (1<=AZ (BE node) l))) (put h id o u++t)/\BZ (QI node a l) u:=by
 let⟨v,hc,hv⟩:=(show Mx h id o l from hs);by_cases Gt:AZ (BE node) l<1;.refine⟨v,[],?_,by rwa[QI,Af Gt]⟩;have c:=hc.kx (AX.P5 hv);simp[Ad,X8,hc.same,BB,BD,ER,cQ hs.at hb node,Gt,Az,Av,Ap,c,(Ab:¬1<=AZ (BE node) l),DX]
 .rcases Dy (q:=BE node) (l:=l) with⟨h1,_⟩|⟨k,hk,h1,_⟩
  .rw[h1] at Gt;omega
  .have d:¬(k:Int)<1:=by rwa[h1] at Gt
   have hne:l≠[]:=by intro e;subst e;simp at hk
   have hcl:=aO4 (h:=h) hv hne hb;have j:=(hc.HY (t:=[zc (l.map zq).flatten])).store (u:= .CC (zz h) 0 (zz l) 4) rfl;rw[jB hc] at j;obtain⟨s,x,r⟩:=hc.next (w:= .CC (zz h) 0 (zz l) 4) (X:= zg (l.map zq).flatten);have g:=Wo (z:=4) (N_ l) s (i:=k) (zv hk) (q:=a.row) rfl;rw[r] at g;have m:AA (.EE 4) [.CC (zz h) 0 (zz l) 4,I (k:Int)]=zt (Pt (zz h) (k*4)):=Fk hk;have c:=hc.ky (rZ (N_ l) (i:=k) (q:=a.row) rfl);rw[Br,Ao] at c;refine⟨.sl 4 ((l.map zq).set k a.row),[.CU],?_,?_⟩;.rw[Ad,X8];simp only[BD,ER,cQ hs.at hb node,h1,d,Ag,Av,Ap,hc.load,Bw,hcl,j,x.load,m,g,c,(Ab:(1:Int)<=(k:Int)),DO]
   .rw[QI,Ac Gt,h1,A3,BZ,EI];exact .mk
def tK(hv:BZ l v)(hb:zz l<=1000000000)(i:Int):∃r h',BK cx 228 [v,I i] h r h'/\jD h (Kd l i) r h':=by
 have DR:AX 4 (l.map zq) v:=hv;obtain⟨k,hk,Re,hc⟩:∃k,k=min (max 1 i.toNat) (zz l)/\k<=zz l/\Kd l i=l.take k:=⟨_,rfl,Ab,by
  rw[Kd];obtain h1|h1:=Nat.le_total (max 1 i.toNat) (zz l)
  .rw[Ct h1]
  .rw[Nat.min_eq_right h1,Bt,AF h1]⟩
 let⟨u,e,hu⟩:=ys hv (k:= yy) Re;let⟨r,h',a,hr⟩:=Ÿ (h:=h) (l:=l.take k) (v:=u) hu (by rw[Ax];omega);refine⟨r,h',?_,by rwa[hc]⟩;simp[Ad,aAS,BD,DR.CK];refine⟨λh1=>⟨λh2=>?_,λh2=>?_⟩,λh1=>⟨λh2=>?_,λh2=>?_⟩⟩
 .have:(k:Int)=(zz l:Int):=by omega
  simp_all
 .have:(k:Int)=1:=by omega
  simp_all
 .have:(k:Int)=(zz l:Int):=by omega
  rw[this] at e;simp[BD,e,a]
 .have:(k:Int)=i:=by omega
  rw[this] at e;simp[BD,e,a]
def aBL(hv:BZ l v)(hb:zz l<=1000000000):∃u t,BK cx 222 [v] h u (h++t)/\BZ (Kd l ((zz l:Int)-1)) u:=by let⟨r,h',hr,hc⟩:=tK (h:=h) hv hb ((zz l:Int)-1);let⟨u,t,e,hu⟩:=hc.P5;refine⟨u,t,?_,hu⟩;simp[Ad,aAO,BD,z8 hv,C0 ((zz l:Int)) 1,hr,e]
def aJI(hv:BZ l v)(hb:zz l<=1000000000)(node:Int):∃u t,BK cx 218 [v,I node] h u (h++t)/\BZ (Hu node l) u:=by
 by_cases Gt:AZ (BE node) l<0
 .let⟨r,h',hr,hc⟩:=tK (h:=h) hv hb (zz l:Int);let⟨u,t,e,hu⟩:=hc.P5;have a:Kd l (zz l:Int)=l:=by rw[Kd];rw[AF Ab]
  refine⟨u,t,?_,by rw[Wq,Af Gt];rwa [a] at hu⟩;simp[Ad,jq,BD,cR hv hb node,Gt,Az,Av,Ap,z8 hv,hr,e]
 .let⟨r,h',hr,hc⟩:=tK (h:=h) hv hb (AZ (BE node) l);let⟨u,t,e,hu⟩:=hc.P5;refine⟨u,t,?_,by rwa[Wq,Ac Gt]⟩;simp[Ad,jq,BD,cR hv hb node,Gt,Ag,Av,Ap,hr,e]
end
end
section
section
variable{h:Ah}{p v w:Aa}{l:List Item}{ws:List Ai}
def f85(hv:BZ l v)(hb:zz l<=1000000000)(hw:IL ws w)(hn:zz ws<=1000000000):∃u t,BK cx 102 [v,w] h u (h++t)/\BZ (Kd l (AZ (AU ws) l)) u:=by
 have DR:AX 4 (l.map zq) v:=hv;have IJ:Ev cx 102 [v,w] h λr h'=>∃t,h'=h++t/\BZ (Kd l (AZ (AU ws) l)) r:=by
  simp only[Ev,aAi,BD,DR.CK,C0 ((zz l:Int)) 1];refine Bj (λn:Nat=>[zj,I ((n:Int)-1)]) (λn h1=>n<=zz l/\AZ (AU ws) l=AZ (AU ws) (l.take n)/\h1=h) (λn=>n) (zz l) rfl ⟨Ae _,by rw[Bt],rfl⟩ ?_;rintro n h1 ⟨vV,ha,rfl⟩;cases n with
  |zero=>have i1:¬(0:Int)<=((0:Nat):Int)-1:=Ab;let⟨r,h',hr,hc⟩:=tK (h:=h1) hv hb 1;let⟨u,t,e,hu⟩:=hc.P5;rw[KU,Kt] at ha;simp only[BD,i1,Ag,Av,Ap,hr,e];exact⟨_,rfl,t,rfl,by rwa[ha,O_]⟩
  |succ n=>
   have a:((n+1:Nat):Int)-1=(n:Int):=Ab;let⟨r,h',hr,hc⟩:=tK (h:=h1) hv hb (n:Int);let⟨u,t,e,hu⟩:=hc.P5;rw[Ht Ab] at ha;simp only[BD,zp,ER,a,MW,Az,Av,Ap,DR.BG (Ab:n<zz l),f167 l[n] hw hn,hr,e,C0 ((n:Int)) 1];rw[C5];refine⟨λhe=>?_,λhe=>?_⟩;.grind
   .rw[Ac (by simp[he])] at ha;exact zw n rfl ⟨Ab,ha,rfl⟩ Ab
 obtain⟨r,h',hr,t,rfl,hu⟩:=IJ.ret;exact⟨r,t,hr,hu⟩
def f165(hv:BZ l v)(hb:zz l<=1000000000)(hl:∀a∈l,zz a.name<9223372036854775807)(s:Ai)(all:Bool):∃u t,BK cx 215 [v,zs s,zy all] h u (h++t)/\BZ (DI (EX s all) Cx l) u:=by
 have DR:AX 4 (l.map zq) v:=hv;have IJ:Ev cx 215 [v,zs s,zy all] h λr h'=>∃t,h'=h++t/\BZ (DI (EX s all) Cx l) r:=by
  rw[Ev];simp only[aAJ,BD,DR.CK];refine Bj (λn:Nat=>[I (n:Int)]) (λn h1=>n<=zz l/\(l=[]\/1<=n)/\DI (EX s all) Cx l=DI (EX s all) Cx (l.take n)/\h1=h) (λn=>n) (zz l) rfl ⟨Ae _,by cases l<;>simp,by rw[Bt],rfl⟩ ?_;rintro n h1 ⟨vV,h0,ha,rfl⟩;let⟨r,h',hr,hc⟩:=tK (h:=h1) hv hb (n:Int);let⟨u,t,e,hu⟩:=hc.P5;have j:Kd l (n:Int)=l.take n:=by
   rw[Kd];obtain rfl|h0:=h0
   .simp
   .rw[A3,yr h0]
  rw[j] at hu;obtain hlt|Et:=AP 1 n
  .obtain⟨m,rfl⟩:∃m,n=m+2:=⟨n-2,Ab⟩;have hm:m+1<zz l:=Ab;have i1:(1:Int)<((m+2:Nat):Int):=Ab;have D:((m+2:Nat):Int)-1=((m+1:Nat):Int):=Ab;have hs:=hl _ (AN hm);rw[eW hm] at ha;have next:EX s all l[m+1]=zo->AJ cx (λn:Nat=>[I (n:Int)]) (λn h2=>n<=zz l/\(l=[]\/1<=n)/\DI (EX s all) Cx l=DI (EX s all) Cx (l.take n)/\h2=h1) (λn=>n)
     (λx C=>match x with
      | .normal=> .fail
      | .exit i=>if i=0 then .call 228 [v,g C 0] λy=> .P5 y λv22=> za zb [v22] else .fail
      | zb=> .P5 zj λq=> .ret zb [q])
     (λx vs h'=>x=Dm.ret/\∃r,vs=[r]/\∃t,h'=h1++t/\BZ (DI (EX s all) Cx l) r) (m+2) .normal [I ((m+1:Nat):Int)] h1:=λhf=>by
    rw[Ac (by simp[hf]),Ac (by simp[Cx])] at ha;exact zw (m+1) rfl ⟨Ab,ze Ab,ha,rfl⟩ Ab
   have stop:EX s all l[m+1]=z4->∃r,[u]=[r]/\∃A,h1++t=h1++A/\BZ (DI (EX s all) Cx l) r:=λhf=>by rw[Af hf] at ha;exact⟨_,rfl,t,rfl,by rwa[ha]⟩
   simp only[BD,Nat.reduceLeDiff,↓reduceIte,ER,i1,Az,Av,Ap,C0 (((m+2:Nat):Int)) 1,D,DR.BG hm,â hs,ã hs,hr,e];cases all with
   |true=>
    simp only[BD,gK];refine⟨λd=>stop (by simp[EX,CM,d]),λd=>?_⟩;rw[C5];refine⟨λc=>stop ?_,λc=>?_⟩;.simp at c;simp[EX,CM,c]
    .simp at d c;exact next (by simp[EX,CM,d];exact c)
   |false=>
    simp only[BD,Jl];refine⟨λd=>stop (by simp[EX,Di,d]),λd=>?_⟩;rw[C5];refine⟨λc=>stop ?_,λc=>?_⟩;.simp at c;simp[EX,Di,c]
    .refine⟨λB=>stop (by simp[EX,Di,B]),λB=>?_⟩;simp at d c;exact next (by simp[EX,Di,d,c,B])
  .have i1:¬(1:Int)<(n:Int):=by omega
   rw[Zr (l:=l.take n) (by rw[Ax];omega)] at ha;simp only[BD,i1,Ag,Av,Ap,hr,e];exact⟨_,rfl,t,rfl,by rwa[ha]⟩
 obtain⟨r,h',hr,t,rfl,hu⟩:=IJ.ret;exact⟨r,t,hr,hu⟩
def aJK(hv:BZ l v)(hb:zz l<=1000000000)(node:Int):∃u t,BK cx 137 [v,I node] h (yu [u,zy (decide (1<=AZ (BE node) l))]) (h++t)/\BZ (CN node l) u:=by
 have m:∀(h:Ah) b,KY h (zy b)=zt (h,zy b):=λ_ _=>rfl;by_cases Gt:AZ (BE node) l<1
 .let⟨r,h',hr,hc⟩:=tK (h:=h) hv hb (zz l:Int);let⟨u,t,e,hu⟩:=hc.P5;have C:Kd l (zz l:Int)=l:=by rw[Kd];rw[AF Ab]
  refine⟨u,t,?_,by rw[CN,Af Gt];rwa [C] at hu⟩;simp[Ad,j6,BD,cR hv hb node,Gt,Az,Av,Ap,z8 hv,hr,e,m,(Ab:¬1<=AZ (BE node) l),DX]
 .rcases Dy (q:=BE node) (l:=l) with⟨h1,_⟩|⟨k,hk,h1,_⟩
  .rw[h1] at Gt;omega
  .have d:¬(k:Int)<1:=by rwa[h1] at Gt
   let⟨r,h',hr,hc⟩:=tK (h:=h) hv hb (k:Int);have i:Kd l (k:Int)=l.take k:=by rw[Kd];rw[A3,yr Ab]
   rw[i] at hc;rcases hc with⟨h2,_⟩|⟨hne,rfl,rfl⟩
   .have:=Cj List.length h2;rw[Ax,BP] at this;omega
   .let⟨y,s,j⟩:=AX.TR hv (k:= yy) (Ab:k+1<=zz l);have A:(l.take k).length=k:=by rw[Ax];omega
    have x:(h++[zc ((l.take k).map zq).flatten])[zz h]?=zt (zg ((l.take k).map zq).flatten):=AH;have c:=N_ (l.take k);have g:((l.take k).map zq).length=(l.take k).length:=Ao ..;by_cases hd:l.drop (k+1)=[]
    .have a:GF (h++[zc ((l.take k).map zq).flatten]) 4 40 (.CC (zz h) 0 (l.take k).length 4) y=zt (h++[zc ((l.take k).map zq).flatten],.CC (zz h) 0 (l.take k).length 4):=yE (by rwa[hd] at j);have f1:=Kr c x;rw[g,BV _ _ (Ae _),Dl] at f1;refine⟨.sl 4 ((l.take k).map zq),[.CU],?_,?_⟩;.rw[Ad,j6];simp only[BD,cR hv hb node,h1,d,Ag,Av,Ap,By k,s,hr,a,f1,m,Ml,(Ab:(1:Int)<=(k:Int)),DO]
     .rw[CN,Ac Gt,h1,A3,Bg,hd,BB];exact .mk
    .have a:=Kb (b:=40) c Bf x j (zv hd) (by rw[Ao,Ao,Ax,Bi];exact Sg Ab);rw[g,Ao] at a;rw[BV _ _ (Ae _),Dl,Ml,AK] at a;have D:(h++([DG.CU]++[zc ((l.take k).map zq++(l.drop (k+1)).map zq).flatten]))[zz h+1]?=zt (zg ((Bg l k).map zq).flatten):=by rw[Bz Ab];simp[Bg]
     have f1:=Kr (N_ (Bg l k)) D;have vT:(Bg l k).length=(l.take k).length+(l.drop (k+1)).length:=by simp[Bg]
     rw[Ao,vT] at f1;have B:(h++[DG.CU,zc ((l.take k).map zq++(l.drop (k+1)).map zq).flatten]).set (zz h+1) .CU=h++[.CU,.CU]:=by rw[BV _ _ Ab];simp
     simp only[Aw,Bl,CQ,BY] at a f1;rw[B] at f1;refine⟨.sl 4 ((Bg l k).map zq),[.CU,.CU],?_,?_⟩;.rw[Ad,j6];simp only[BD,cR hv hb node,h1,d,Ag,Av,Ap,By k,s,hr,a,f1,m,(Ab:(1:Int)<=(k:Int)),DO]
     .rw[CN,Ac Gt,h1,A3];exact .mk
def aO6(hv:BZ l v)(hb:zz l<=1000000000)(a:Item)(i:Int):∃u,BK cx 356 [v,zi a.row,I i] h u h/\BZ (l.take (Fo i (zz l))++a::l.drop (Fo i (zz l))) u:=by
 have DR:AX 4 (l.map zq) v:=hv;obtain⟨k,tL,hk⟩:∃k,k=Fo i (zz l)/\k<=zz l:=⟨_,rfl,by rw[Fo];omega⟩;let⟨x,d,h1⟩:=ys hv (k:= yy) hk;let⟨t,j,h2⟩:=AX.Gg h1 (b:=40) (Sg (by rw[Ax];omega));have g:=AX.JU (a:=a) h2 (b:=40) (Sg (by rw[Ax];omega));let⟨s,c,r⟩:=AX.TR hv (k:= yy) hk;let⟨q,e,m⟩:=AX.i7 (v:= .sl 4 ((l.take k++[a]).map zq)) .mk r (b:=40) (Sg (by rw[Aw,Ax,Bi,Bl];omega));refine⟨q,?_,by rw[AK] at m;rwa[<-tL]⟩;simp only[Ad,aBo,BD,ER,DR.CK];rw[Fo] at tL;refine⟨λh1=>⟨λh2=>?_,λh2=>?_⟩,λh1=>⟨λh2=>?_,λh2=>?_⟩⟩
 .have:(k:Int)=(zz l:Int):=by omega
  rw[this] at d c;simp only[BD,d,j,M2,g,c,e]
 .have:(k:Int)=1:=by omega
  rw[this] at d c;simp only[BD,d,j,M2,g,c,e]
 .have:(k:Int)=(zz l:Int):=by omega
  rw[this] at d c;simp only[BD,d,j,M2,g,c,e]
 .have:(k:Int)=i:=by omega
  rw[this] at d c;simp only[BD,d,j,M2,g,c,e]
end
end
section
section
variable{h:Ah}{v:Aa}{l:List Cp}{id o:Nat}
def f99(hc:At h id o v)(hv:Dp l v)(hb:zz l<=1000000000):BK cx 197 [Pt id o] h (I (since l)) h:=by
 have hv:AX 3 (l.map z3) v:=hv;simp only[Ad,lC,BD,hc.load,Bw,hv.CK];refine Bj (λn:Nat=>[I (n:Int)]) (λn h1=>n<=zz l/\since l=since (l.take n)/\h1=h) (λn=>n) (zz l) rfl ⟨Ae _,by rw[Bt],rfl⟩ ?_;rintro n h1 ⟨hn,ha,rfl⟩;cases n with
 |zero=>simp only[BD,(Ab:¬(0:Int)<((0:Nat):Int)),Ag,Av,Ap,ha,sg];rfl
 |succ n=>rw[Zx hn] at ha;simp only[BD,(Ab:(0:Int)<((n+1:Nat):Int)),Az,Av,Ap,hc.load,Bw,IK (Ab:0<n+1) (Ab:n+1<9223372036854775807),Fy,hv.BG (show n<zz l from hn),Cp.at0];refine⟨λh0=>zw n rfl ⟨Ab,by rw[ha,Ac h0],rfl⟩ Ab,λh0=>?_⟩;rw[Af (zv h0)] at ha;rw[ha];rfl
def aBM(hv:Dp l v)(hb:zz l<=1000000000):BK cx 227 [v] h (I (since l)) h:=by
 rw[Ad,aAR];refine Bj (λn:Nat=>[I (since (l.take n)),I (n:Int)]) (λn h1=>n<=zz l/\h1=h) (λn=>zz l-n) 0 rfl ⟨AV _,rfl⟩ ?_;rintro n h1 ⟨hn,rfl⟩;obtain hlt|Et:=AP n (zz l)
 .have i1:(n:Int)<(zz l:Int):=by omega
  have a:=Zx hlt;simp only[BD,hv.CK,i1,Az,Av,Ap,hv.BG hlt,Cp.at0,By n];refine⟨λh0=>?_,λh0=>?_⟩;.rw[Af h0] at a;exact zw (n+1) (by rw[a];rfl) ⟨hlt,rfl⟩ Ab
  .rw[Ac h0] at a;exact zw (n+1) (by rw[a]) ⟨hlt,rfl⟩ Ab
 .have i1:¬(n:Int)<(zz l:Int):=by omega
  simp[BD,hv.CK,i1,Ag,Av,Ap,AF Et]
def aJL(hc:At h id o v)(hv:Dp l v)(hb:zz l<=1000000000)(name:Ai):BK cx 329 [Pt id o,zs name] h (I (Oz name l)) h:=by
 simp only[Ad,mO,BD,Iy,hc.load,Bw,hv.CK,C0 ((zz l:Int)) 1];refine Bj (λn:Nat=>[I 0,I ((n:Int)-1)]) (λn h1=>n<=zz l/\Oz name l=Oz name (l.take n)/\h1=h) (λn=>n) (zz l) rfl ⟨Ae _,by rw[Bt],rfl⟩ ?_;rintro n h1 ⟨hn,ha,rfl⟩;cases n with
 |zero=>have i1:¬(0:Int)<=((0:Nat):Int)-1:=Ab;simp[ha,BD,i1,Ag,Av,Ap,sj]
 |succ n=>
  have a:((n+1:Nat):Int)-1=(n:Int):=Ab;rw[SY hn] at ha;simp only[BD,a,MW,Az,Av,Ap,hc.load,Bw,hv.BG (show n<zz l from hn),Cp.at0,Cp.gu,C0 ((n:Int)) 1];refine⟨λh0=>⟨λh1=>?_,λh1=>?_⟩,λh0=>?_⟩;.rw[ha,Ac h0,Af h1]
  .exact zw n rfl ⟨Ab,by rw[ha,Ac h0,Ac h1],rfl⟩ Ab
  .rw[ha,Af (zv h0)]
def aO7(hv:Dp l v)(hb:zz l<=1000000000)(name:Ai):BK cx 352 [v,zs name] h (I (Oz name l)) h:=by
 have DR:=hv;let⟨s,es,Kn,c,g⟩:=Ke l;have f:=aBM (h:=h) hv hb;rw[es] at f;simp only[Ad,aBl,f];refine Bj (λn:Nat=>[I (Oz name (l.take n)),I (n:Int)]) (λn h1=>s<=n/\n<=zz l/\h1=h) (λn=>zz l-n) s (by rw[sK es]) ⟨Ae _,Kn,rfl⟩ ?_;rintro n h1 ⟨b,hn,rfl⟩;obtain hlt|Et:=AP n (zz l)
 .have i1:(n:Int)<(zz l:Int):=by omega
  have a:=SY (name:=name) hlt;rw[Ac (c n hlt b)] at a;simp only[BD,DR.CK,i1,Az,Av,Ap,DR.BG hlt,Cp.gu,By n];refine⟨λh0=>?_,λh0=>?_⟩;.rw[Af h0] at a;exact zw (n+1) (by rw[a]) ⟨Ab,hlt,rfl⟩ Ab
  .rw[Ac h0] at a;exact zw (n+1) (by rw[a]) ⟨Ab,hlt,rfl⟩ Ab
 .have i1:¬(n:Int)<(zz l:Int):=by omega
  simp[BD,DR.CK,i1,Ag,Av,Ap,AF Et]
def f41(hc:At h id o v)(hv:Dp l v)(hb:zz l<=1000000000)(node:Int):BK cx 187 [Pt id o,I node] h (I (HT node l)) h:=by
 simp[Ad,kT,BD,Iy,hc.load,Bw,hv.CK,C0 ((zz l:Int)) 1];refine⟨λh0=>by rw[HT,Af h0],λh0=>?_⟩;rw[HT,Ac h0];refine Bj (λn:Nat=>[I 0,I ((n:Int)-1)]) (λn h1=>n<=zz l/\AZ (SX node) l=AZ (SX node) (l.take n)/\h1=h) (λn=>n) (zz l) rfl ⟨Ae _,by rw[Bt],rfl⟩ ?_;rintro n h1 ⟨hn,ha,rfl⟩;cases n with
 |zero=>have i1:¬(0:Int)<=((0:Nat):Int)-1:=Ab;simp[ha,BD,i1,Ag,Av,Ap,Kt]
 |succ n=>
  have a:((n+1:Nat):Int)-1=(n:Int):=Ab;rw[Ht hn] at ha;simp[BD,a,MW,Az,Av,Ap,hc.load,Bw,hv.BG (show n<zz l from hn),Cp.at0,C0 ((n:Int)) 1];refine⟨λh1=>?_,λh1=>?_⟩;.rw[ha,Af (by simpa[SX] using h1)]
  .exact zw n rfl ⟨Ab,by rw[ha,Ac (by simpa[SX] using h1)],rfl⟩ Ab
def aO8(hv:Dp l v)(hb:zz l<=1000000000)(node:Int):BK cx 221 [v,I node] h (I (HT node l)) h:=by
 have DR:=hv;rw[Ad,aAN];refine Bj (λn:Nat=>[I (HT node (l.take n)),I (n:Int)]) (λn h1=>n<=zz l/\h1=h) (λn=>zz l-n) 0 (by simp[HT,Kt]) ⟨AV _,rfl⟩ ?_;rintro n h1 ⟨hn,rfl⟩;obtain hlt|Et:=AP n (zz l)
 .have i1:(n:Int)<(zz l:Int):=by omega
  have a:HT node (l.take (n+1))=if node=0 then -1 else if l[n].c.node=node then(n:Int) else AZ (SX node) (l.take n):=by rw[HT];rw[Ht hlt];simp[SX]
  simp only[BD,DR.CK,i1,Az,Av,Ap,DR.BG hlt,Cp.at0,By n];refine⟨λh0=>⟨λh1=>?_,λh1=>?_⟩,λh0=>?_⟩;.exact zw (n+1) (by rw[a,Ac h0,Af h1]) ⟨hlt,rfl⟩ Ab
  .exact zw (n+1) (by rw[a,Ac h0,Ac h1,HT,Ac h0]) ⟨hlt,rfl⟩ Ab
  .have h0:node=0:=zv h0
   exact zw (n+1) (by rw[a,Af h0,HT,Af h0]) ⟨hlt,rfl⟩ Ab
 .have i1:¬(n:Int)<(zz l:Int):=by omega
  simp[BD,DR.CK,i1,Ag,Av,Ap,AF Et]
end
section
variable{h:Ah}{v:Aa}{l:List A9}
def aJN(hv:AL l v)(hb:zz l<=1000000000)(x:A9):BK cx 381 [v,zi x.row] h (zy (decide (x∈l))) h:=by
 simp only[Ad,aBt,BD,A9.CS,A9.g0,A9.g1,A9.g2,A9.QH];refine Bj (λn:Nat=>[zy zo,I (n:Int)]) (λn h1=>n<=zz l/\x∉l.take n/\h1=h) (λn=>zz l-n) 0 rfl ⟨AV _,AH,rfl⟩ ?_;rintro n h1 ⟨hn,ha,rfl⟩;obtain hlt|Et:=AP n (zz l)
 .have i1:(n:Int)<(zz l:Int):=by omega
  simp only[BD,hv.CK,i1,Az,Av,Ap,hv.BG hlt,A9.CS,A9.Iu,Ae,sH,ķ,By n];refine⟨λh0=>?_,λh0=>?_⟩;.grind
  .refine zw (n+1) rfl ⟨hlt,?_,rfl⟩ Ab;rw[AB hlt,Ay,Ly];exact⟨ha,by simpa using λe=>h0 e.symm⟩
 .have i1:¬(n:Int)<(zz l:Int):=by omega
  rw[AF Et] at ha;simp[BD,hv.CK,i1,Ag,Av,Ap,Al ha]
def aO9(hv:AL l v)(hb:zz l<=1000000000)(x:A9):BK cx 424 [v,zi x.row] h (I (Cn (λa=>decide (x=a)) 0 l)) h:=by
 simp only[Ad,oA,BD,hv.CK,A9.CS,A9.g0,A9.g1,A9.g2,A9.QH];refine Bj (λn:Nat=>[I 0,I (n:Int)]) (λn h1=>n<=zz l/\Cn (λa=>decide (x=a)) 0 l=Cn (λa=>decide (x=a)) n (l.drop n)/\h1=h) (λn=>zz l-n) 0 rfl ⟨AV _,rfl,rfl⟩ ?_;rintro n h1 ⟨hn,ha,rfl⟩;obtain hlt|Et:=AP n (zz l)
 .have i1:(n:Int)<(zz l:Int):=by omega
  rw[AG hlt,Cn] at ha;simp only[BD,i1,Az,Av,Ap,hv.BG hlt,A9.CS,A9.Iu,Ae,sH,ķ,By n];refine⟨λh0=>?_,λh0=>?_⟩;.grind
  .exact zw (n+1) rfl ⟨hlt,by rw[ha,Ac (zv h0)],rfl⟩ Ab
 .have i1:¬(n:Int)<(zz l:Int):=by omega
  rw[AT Et,Cn] at ha;simp[BD,i1,Ag,Av,Ap,ha]
def aPa(hv:AL l v)(hb:zz l<=1000000000)(x:A9):BK cx 400 [v,zi x.row] h (zy (decide (x∈l))) h:=by
 simp only[Ad,nS,BD,A9.CS,A9.g0,A9.g1,A9.g2,A9.QH,aO9 hv hb x];rcases Ic with⟨h1,h2⟩|⟨n,a,h1,h2,b⟩
 .rw[h1];grind
 .have hm:=CV h2;have he:x=a:=by grind
  simp_all
def tM(F:Aa)(h:Ah)(q:A9->Bool):Prop:=∃f caps,F= zm (zk f) [] caps/\f<=99999/\∀a:A9,BK cx f (zi a.row::caps) h (zy (q a)) h
def aJO{F:Aa}{q:A9->Bool}(hv:AL l v)(hb:zz l<=1000000000)(hF:tM F h q):BK cx 308 [v,F] h (I (Cn q 0 l)) h:=by
 obtain⟨f,caps,rfl,hf,hr⟩:=hF;simp only[Ad,Ub,BD,hv.CK];refine Bj (λn:Nat=>[I 0,I (n:Int)]) (λn h1=>n<=zz l/\Cn q 0 l=Cn q n (l.drop n)/\h1=h) (λn=>zz l-n) 0 rfl ⟨AV _,rfl,rfl⟩ ?_;rintro n h1 ⟨vV,ha,rfl⟩;obtain hlt|Et:=AP n (zz l)
 .have i1:(n:Int)<(zz l:Int):=by omega
  rw[AG hlt,Cn] at ha;simp only[BD,Dw,hf,i1,Az,Av,Ap,hv.BG hlt,A9.CS,A9.Iu,Ae,hr l[n]];rw[C5];refine⟨λhe=>?_,λhe=>?_⟩;.rw[ha,Af he]
  .rw[Ac (by simp[he])] at ha;simp[BD,By n];exact zw (n+1) rfl ⟨hlt,ha,rfl⟩ Ab
 .have i1:¬(n:Int)<(zz l:Int):=by omega
  rw[AT Et,Cn] at ha;simp[BD,Dw,hf,i1,Ag,Av,Ap,ha]
def aJP{F:Aa}{q:A9->Bool}(hv:AL l v)(hb:zz l<=1000000000)(hF:tM F h q):BK cx 190 [v,F] h (zy (l.any q)) h:=by
 simp[Ad,XQ,BD,aJO hv hb hF];have:l.any q=(l.find? q).isSome:=by grind
 rw[this];rcases Ic with⟨h1,h2⟩|⟨n,a,h1,h2,b⟩
 .rw[h1,h2];simp
 .rw[h1,b];simp
def aPb(hv:AL l v)(hb:zz l<=1000000000)(x:A9):BK cx 399 [zi x.row,.CH [v]] h (zy (!decide (x∈l))) h:=by simp only[Ad,nQ,BD,A9.CS,A9.g0,A9.g1,A9.g2,A9.QH,aPa hv hb x]
def aJQ{b:List A9}{w:Aa}(hv:AL l v)(hb:zz l<=1000000000)(hw:AL b w)(PL:zz b<=1000000000):BK cx 398 [v,w] h (zy (decide (∀x∈l,x∈b))) h:=by
 have hF:tM (zm (zk 399) [] [.CH [w]]) h λx=> !decide (x∈b):=⟨399,_,rfl,Bf,λa=>aPb hw PL a⟩;have e:(!l.any λx=> !decide (x∈b))=decide (∀x∈l,x∈b):=by grind
 rw[Ad,nO,<-e];simp[BD,yx hw,aJP hv hb hF]
section
variable{a b:Cp}(ha:bN a)(hb:bN b)
def aPc:BK cx 316 [zi a.row,zi b.row] h (zy (Hg a.c b.c)) h:=by
 have g:=aJQ (h:=h) a.ok ha b.ok hb;have r2:=aJQ (h:=h) b.ok hb a.ok ha;simp only[Ad,mC,BD,zp,Dw,BB,z0,z9,yz,Cp.ź,g,r2];refine⟨λh1=>⟨λh2=>⟨λf=>?_,λf=>?_⟩,λh2=>?_⟩,λh1=>?_⟩
 .have eB:zz a.c.Aj=zz b.c.Aj:=by omega
  simp[Hg,h1,eB,Nr];grind
 .simp[Hg,f]
 .have eB:¬zz a.c.Aj=zz b.c.Aj:=by omega
  simp[Hg,eB]
 .simp[Hg,h1]
def f241:BK cx 281 [zi a.row,zi b.row] h (zy (Hg a.c b.c)) h:=by
 have i:AX 3 (a.c.Aj.map zn) a.v:=a.ok;have vb:AX 3 (b.c.Aj.map zn) b.v:=b.ok;rw[bN] at ha hb;simp only[Ad,aAY,BD,z0,z9,yz,Cp.ź];refine⟨λh1=>?_,λh1=>⟨λh2=>?_,λh2=>?_⟩⟩;.simp[Hg,h1]
 .have eB:¬zz a.c.Aj=zz b.c.Aj:=by omega
  simp[Hg,eB]
 have h1:a.c.name=b.c.name:=zv h1
 have h2:zz a.c.Aj=zz b.c.Aj:=Ab;refine Bj (λn:Nat=>[zy zo,I (n:Int)]) (λn h1=>n<=zz a.c.Aj/\(∀x∈a.c.Aj.take n,x∈b.c.Aj)/\(∀x∈b.c.Aj.take n,x∈a.c.Aj)/\h1=h) (λn=>zz a.c.Aj-n) 0 rfl ⟨AV _,AH,AH,rfl⟩ ?_;rintro n h1 ⟨hn,cD,PV,rfl⟩;obtain hlt|Et:=AP n (zz a.c.Aj)
 .have i1:(n:Int)<(zz a.c.Aj:Int):=by omega
  have aBN:n<zz b.c.Aj:=Ab;have k:=AN hlt;have j:=AN aBN;simp only[BD,Cp.ź,i1,Az,Av,Ap,i.BG hlt,vb.BG aBN,A9.CS,A9.Iu,Ae,aJN b.ok hb _,aJN a.ok ha _,By n];rw[C5,C5];refine⟨λg=>?_,λg=>⟨λf=>?_,λf=>?_⟩⟩
  .have g:a.c.Aj[n]∉b.c.Aj:=zv g
   have:Hg a.c b.c=zo:=by simp only[Hg,UH];exact λh=>g (h.2.2.1 _ k)
   rw[this]
  .have f:b.c.Aj[n]∉a.c.Aj:=zv f
   have:Hg a.c b.c=zo:=by simp only[Hg,UH];exact λh=>f (h.2.2.2 _ j)
   rw[this]
  .have g:a.c.Aj[n]∈b.c.Aj:=zv g
   have f:b.c.Aj[n]∈a.c.Aj:=zv f
   refine zw (n+1) rfl ⟨hlt,?_,?_,rfl⟩ Ab
   .rw[AB hlt];intro x hx;obtain hx|hx:=Ay.1 hx
    .exact cD x hx
    .rw[AM.1 hx];exact g
   .rw[AB aBN];intro x hx;obtain hx|hx:=Ay.1 hx
    .exact PV x hx
    .rw[AM.1 hx];exact f
 .have i1:¬(n:Int)<(zz a.c.Aj:Int):=by omega
  rw[AF Et] at cD;rw[AF Ab] at PV;have:Hg a.c b.c=z4:=by simp[Hg,Cd];exact⟨by assumption,h2,cD,PV⟩
  simp[this,BD,Cp.ź,i1,Ag,Av,Ap]
end
end
end
section
def BN{Q:HC}{h:Ah}{a:Aa}{k:IT}:W cx (.same a a k) Q h↔W cx k Q h:=by refine⟨λhw=>?_,xk (Aa.TW a)⟩;let⟨m,x',Iq,h',hr,q⟩:=hw.succ;simp[IT.step,Aa.TW,BR] at hr;exact C7 ⟨m,x',Iq,h',hr,q⟩
section
variable{h:Ah}{v:Aa}{l:List Cp}{id o:Nat}
def f45{l:List A9}(hv:AL l v)(hb:zz l<=1000000000):∃u,BK cx 146 [v] h u h/\AL l u:=by
 obtain rfl|⟨rfl,hn⟩:=hv
 .refine⟨.sl 3 (l.map zn),?_,.mk⟩;have b:AA (.GD zo .sl) [.sl 3 (l.map zn),zj]=zt (zy zo):=rfl;have c:RY h 3 40 (.sl 3 []) (.sl 3 (l.map zn))=zt (.sl 3 (l.map zn)):=by
   simp[RY,Hz,BR,CP];cases l with
   |nil=>rfl
   |cons a l=>have:(zz l+1)*40<=A0:=Sg (by simp at hb;omega);simp[D0,this]
  rw[Ad,XJ,t146];simp_all
 .refine⟨zj,?_,?_⟩;.have b:AA (.GD zo .sl) [zj,zj]=zt (zy z4):=rfl;rw[Ad,XJ,t146];simp_all
  .exact ze ⟨rfl,hn⟩
def ä{e:Cp}(he:bN e):∃e':Cp,e'.c=e.c/\BK cx 318 [zi e.row] h (zi e'.row) h:=by let⟨u,r,hu⟩:=f45 (h:=h) e.ok he;refine⟨⟨e.c,u,hu⟩,rfl,?_⟩;simp only[Ad,mE,BD,z0,yv,z9,yz,r,yx hu];rfl
def aPd{e:Cp}(he:bN e):∃e':Cp,e'.c=e.c/\BK cx 226 [zi e.row] h (zi e'.row) h:=by let⟨u,r,hu⟩:=AX.Gg e.ok (Sg (by rw[bN] at he;omega));refine⟨⟨e.c,u,hu⟩,rfl,?_⟩;simp only[Ad,aAQ,BD,z0,yv,z9,yz,r,yx hu];rfl
def aJR(hv:Dp l v){k:Nat}(hk:k<zz l)(hb:zz l<=1000000000):∃u,BK cx 317 [v,I (k:Int)] h u h/\Dp (Bg l k) u:=by let⟨q,j,h1⟩:=ys hv (k:= yy) (Ab:k<=zz l);let⟨p,i,h2⟩:=AX.Gg h1 (QJ (by rw[Ax];omega));let⟨m,g,c⟩:=AX.TR hv (k:= yy) (Ab:k+1<=zz l);let⟨a,f,b⟩:=AX.i7 h2 c (QJ (by rw[Ax,Bi];omega));refine⟨a,?_,b⟩;simp only[Ad,mD,BD,j,i,By k,g,f]
def å(hv:Dp l v)(e:Cp){k:Nat}(hk:k<=zz l)(hb:zz l<=1000000000):∃u,BK cx 195 [v,zi e.row,I (k:Int)] h u h/\Dp (l.take k++e::l.drop k) u:=by let⟨t,p,h1⟩:=ys hv (k:= yy) hk;let⟨r,m,h2⟩:=AX.Gg h1 (QJ (by rw[Ax];omega));have j:=AX.JU (a:=e) h2 (QJ (by rw[Ax];omega));let⟨q,i,f⟩:=AX.TR hv (k:= yy) hk;let⟨c,g,b⟩:=AX.i7 (l:=l.take k++[e]) .mk f (QJ (by rw[Aw,Ax,Bi,Bl];omega));refine⟨c,?_,by rwa[AK] at b⟩;simp only[Ad,lA,BD,z0,yv,z9,yz,Cp.QH,p,m,MK z0,j,i,g]
def aGc(hv:Dp l v)(hne:l≠[])(hb:zz l<=1000000000):BK cx 180 [v] h (.CC (zz h) 0 (zz l) 3) (h++[zg (l.map z3).flatten]):=by
 have b:AA (.GD zo .sl) [v,zj]=zt (zy zo):=by
  obtain rfl|⟨rfl,hv⟩:=hv
  .rfl
  .simp_all
 have a:=LX (h:=h) (ze rfl) hv (zv hne) (by rw[Ao];exact QJ Ab);rw[Ad,T8];simp_all
section
variable(hs:Vj h id o l)(hb:l.length<=1000000000)
def f63:∃u,BK cx 79 [Pt id o] h (yu []) (put h id o u)/\Dp (l++[jF]) u:=by let⟨v,hc,hv⟩:=(show Vj h id o l from hs);let⟨u,hr,hu⟩:=å (h:=h) hv jF (Ae (zz l)) hb;rw[Bt,EJ] at hu;refine⟨u,?_,hu⟩;simp[Ad,zR,BD,AQ,Tc,Jl,hc.load,Bw,z8 hv,P_,hr,hc.store (yw hu)]
end
def aPe(hs:Vj h id o l)(hb:zz l<=1000000000){e:Cp}(he:bN e)(i:Int):∃u e',e'.c=e.c/\BK cx 334 [Pt id o,zi e.row,I i] h (yu []) (put h id o u)/\Dp (l.take (CL i (zz l))++e'::l.drop (CL i (zz l))) u:=by
 let⟨v,hc,hv⟩:=(show Vj h id o l from hs);let⟨e',Qu,a⟩:=ä (h:=h) he;let⟨u,hr,hu⟩:=å (h:=h) hv e' (k:=CL i (zz l)) (by rw[CL];omega) hb;refine⟨u,e',Qu,?_,hu⟩;have b:(if(zz l:Int)<(if i<0 then 0 else i) then(zz l:Int) else(if i<0 then 0 else i))=((CL i (zz l):Nat):Int):=by rw[CL];split<;>split<;>omega
 simp only[Ad,mT,BD,z0,yv,z9,yz,Cp.QH,Tc,Jl,hc.load,Bw,iY,z8 hv,G_,b,a,BN,hr,hc.store (yw hu)]
def f65(hs:Vj h id o l)(hb:zz l<=1000000000):∃u,BK cx 82 [Pt id o] h (I ((zz l:Int)-((FC l:Nat):Int))) (put h id o u)/\Dp (l.take (FC l)) u:=by
 let⟨v,hc,hv⟩:=(show Vj h id o l from hs);let⟨s,es,Kn,_⟩:=Ke l;have hcl:FC l<=zz l:=by rw[FC];omega
 let⟨u,b,hu⟩:=ys hv (k:= yy) hcl;refine⟨u,?_,hu⟩;have a:(if since l-1<0 then 0 else since l-1)=((FC l:Nat):Int):=by rw[FC];split<;>omega
 have wL:(l.take (FC l)).length=FC l:=by grind
 have c:At (put h id o u) id o u:=hc.put;simp[Ad,zS,BD,Iy,hc.load,Bw,z8 hv,f99 hc hv hb,BN,C0 (since l) 1,iY,a,b,hc.store (yx hu),c.load,z8 hu,wL,C0 ((zz l:Int)) (((FC l:Nat):Int))]
end
end
section
section
variable{h:Ah}{v:Aa}{l:List Cp}{id o:Nat}
def f30(hs:Vj h id o l)(hb:zz l<=900000000)(hl:∀x∈l,bN x){e:Cp}(he:bN e):∃u e',e'.c=e.c/\BK cx 169 [Pt id o,zi e.row] h (yu []) (put h id o u)/\Dp (Lr e.c l++[e']) u:=by
 let⟨v,hc,hv⟩:=(show Vj h id o l from hs);have DR:AX 3 (l.map z3) v:=hv;have IC:=hs.lt;let⟨s,es,Kn,j,_⟩:=Ke l;have IJ:Ev cx 169 [Pt id o,zi e.row] h λr h'=>r= yu []/\∃(e':Cp) (u:Aa),e'.c=e.c/\h'=put h id o u/\Dp (Lr e.c l++[e']) u:=by
  unfold Ev;rw[kE];by_cases h0:e.c.node=0;.let⟨e',Qu,a⟩:=ä (h:=h) he;let⟨u,r2,hu⟩:=å (h:=h) hv e' (Ae (zz l)) Ab;rw[Bt,EJ] at hu;simp only[BD,Cp.CS,Cp.g0,Cp.g1,Cp.g2,Iy,h0,B3,Az,Ap,Av,Ag,hc.load,Bw,DR.CK];rw[<-h0,Cp.QH];simp only[BD,a,BN,hc.load,Bw,r2,hc.store (Dp.cells hu)];refine⟨_,rfl,rfl,e',u,Qu,rfl,?_⟩;rw[Lr,Ac (λh=>h.1 h0)];exact hu
  .simp only[BD,z0,yv,z9,yz,Cp.QH,Iy,h0,B3,Az,Ap,Av,Ag,hc.load,Bw,DR.CK,C0 ((zz l:Int)) 1];refine Bj (λp:Int×Nat×Nat=>[I p.1,I (p.2.1:Int),I ((p.2.2:Int)-1)])
    (λp h1=>s<=p.2.2/\p.2.2<=zz l/\p.2.1+p.2.2<=zz l/\TX e.c l=p.2.1+TX e.c (l.take p.2.2)/\(OA e.c l=if 0<=OA e.c (l.take p.2.2) then OA e.c (l.take p.2.2) else if p.2.1=0 then -1 else p.1)/\(p.2.1=0\/∃k:Nat,k<zz l/\p.1=(k:Int))/\h1=h)
    (λp=>p.2.2) (0,0,zz l) rfl ⟨Kn,Ae _,AH,AH,by
     rw[Bt];have:∀l:List Cp,-1<=yP e.c l:=by
      intro l;induction l with
      |nil=>exact IA _
      |cons x t ih=>rw[yP];split<;>(try split)<;>(try split)<;>omega
     have:=this l.reverse;simp only[BR];unfold OA;split<;>omega,z2 rfl,rfl⟩ ?_
   rintro⟨A,b,n⟩ h1 ⟨a1,a2,a3,a4,a5,a6,rfl⟩;simp only at a1 a2 a3 a4 a5 a6;have i:=f99 hc hv Ab;rw[es] at i;obtain hlt|Et:=AP s n
   .obtain⟨n,rfl⟩:∃m,n=m+1:=⟨n-1,Ab⟩;have z:((n+1:Nat):Int)-1=(n:Int):=Ab;have hn:n<zz l:=a2;have f:=j n hn Ab;rw[Vk hn,Ac f] at a4;rw[Vl hn,Ac f] at a5;have a:=aPc (h:=h1) (hl _ (AN hn)) he;simp only[BD,z,i,(Ab:(s:Int)<=(n:Int)),Az,Ap,Av,hc.load,Bw,DR.BG hn,Cp.CS,Cp.Iu,Ae,a,By b,C0 ((n:Int)) 1];rw[C5];refine⟨λh2=>?_,λh2=>?_⟩
    .rw[Af h2] at a4 a5;refine zw ((n:Int),b+1,n) rfl ⟨DA,DA,DA,DA,?_,ze ⟨n,hn,rfl⟩,rfl⟩ DA;simp only
     rw[a5];by_cases hf:0<=OA e.c (l.take n);.simp[hf]
     .simp[hf,MW]
    .rw[Ac (by simp[h2])] at a4;rw[Ac (show¬Hg l[n].c e.c=z4 by simp[h2])] at a5;refine zw (A,b,n) rfl ⟨DA,DA,DA,DA,?_,a6,rfl⟩ DA;simp only
     rw[a5];by_cases hf:0<=OA e.c (l.take n);.simp[hf]
     .simp[hf]
   .obtain rfl:n=s:=by omega
    let⟨b1,b2⟩:=Zz (e:=e.c) es;rw[b1,Bw] at a4;rw[b2,Ac Bf] at a5;simp only[BD,i,(Ab:¬(n:Int)<=(n:Int)-1),Ap,Av,Ag];by_cases B:3<=b
    .rcases a6 with a6|⟨k,hk,rfl⟩
     .omega
     rw[Ac Ab] at a5;let⟨g,a,PU⟩:=aJR (h:=h1) hv hk Ab;have bL:(Bg l k).length<=l.length:=by unfold Bg;rw[Aw,Ax,Bi];omega
     have q:At (put h1 id o g) id o g:=hc.put;let⟨e',Qu,r2⟩:=ä (h:=put h1 id o g) he;let⟨w,y,Ja⟩:=å (h:=put h1 id o g) PU e' (Ae (Bg l k).length) Ab;rw[Bt,EJ] at Ja;simp only[BD,(Ab:(3:Int)<=(b:Int)),Az,Ap,Av,hc.load,Bw,a,hc.store (Dp.cells PU),q.load,AX.CK PU,r2,BN,y,q.store (Dp.cells Ja),jA];refine⟨_,rfl,rfl,e',w,Qu,rfl,?_⟩;rw[Lr,Af ⟨h0,Ab⟩,a5,A3];exact Ja
    .let⟨e',Qu,a⟩:=ä (h:=h1) he;let⟨u,r2,hu⟩:=å (h:=h1) hv e' (Ae (zz l)) Ab;rw[Bt,EJ] at hu;simp only[BD,(Ab:¬(3:Int)<=(b:Int)),Ap,Av,Ag,hc.load,Bw,DR.CK,a,BN,r2,hc.store (Dp.cells hu)];refine⟨_,rfl,rfl,e',u,Qu,rfl,?_⟩;rw[Lr,Ac Ab];exact hu
 obtain⟨r,h',hr,rfl,e',u,Qu,rfl,hu⟩:=IJ.ret;exact⟨u,e',Qu,hr,hu⟩
end
end
section
section
variable{h:Ah}{v:Aa}{l:List Cp}{id o:Nat}
def aPf(hs:Vj h id o l)(hb:zz l<=900000000)(node:Int){e:Cp}(he:bN e):∃u t e',e'.c=e.c/\BK cx 407 [Pt id o,I node,zi e.row] h (zy (decide (0<=HT node l))) (put h id o u++t)/\Dp (if HT node l<0 then l else l.set (HT node l).toNat e') u:=by
 let⟨v,hc,hv⟩:=(show Vj h id o l from hs);obtain h1|⟨k,hk,h1⟩:=sL node l
 .refine⟨v,[],e,rfl,?_,by rwa[h1]⟩;have a:=hc.kx (AX.P5 hv);simp only[Ad,X9,hc.same,BB,BD,z0,f41 hc hv Ab node,h1,(Bf:(-1:Int)<0),Az,Av,Ap,a];rfl
 .have hne:l≠[]:=by intro e;subst e;simp at hk
  have hcl:=aGc (h:=h) hv hne Ab;have f:=(hc.HY (t:=[zc (l.map z3).flatten])).store (u:= .CC (zz h) 0 (zz l) 3) rfl;rw[jB hc] at f;let⟨e',Qu,g⟩:=ä (h:=put h id o (.CC (zz h) 0 (zz l) 3)++[zc (l.map z3).flatten]) he;obtain⟨p,r,m⟩:=hc.next (w:= .CC (zz h) 0 (zz l) 3) (X:= zg (l.map z3).flatten);have b:=Wo (z:=3) (Pe l) p (i:=k) (zv hk) (q:=e'.row) rfl;rw[m] at b;have j:AA (.EE 3) [.CC (zz h) 0 (zz l) 3,I (k:Int)]=zt (Pt (zz h) (k*3)):=Fk hk;have a:=hc.ky (rZ (Pe l) (i:=k) (q:=e'.row) rfl);rw[Br,Ao] at a;refine⟨.sl 3 ((l.map z3).set k e'.row),[.CU],e',Qu,?_,?_⟩;.rw[Ad,X9];simp only[BD,z0,yv,z9,yz,Cp.QH,f41 hc hv Ab node,h1,(Ab:¬(k:Int)<0),Ag,Av,Ap,hc.load,Bw,hcl,f,r.load,g,BN,j,b,a,MW,DO]
  .rw[h1,Ac Ab,A3,<-EI];exact .mk
def aJS(hv:Dp l v)(hb:zz l<=900000000){k:Nat}(hk:k<zz l):∃u,BK cx 282 [v,I (k:Int)] h u h/\Dp (Bg l k) u:=by
 have DR:AX 3 (l.map z3) v:=hv;have IJ:Ev cx 282 [v,I (k:Int)] h λr h'=>h'=h/\Dp (Bg l k) r:=by
  rw[Ev];rw[aAZ];refine Bj (λp:Nat×Aa=>[p.2,I (p.1:Int)]) (λp h1=>p.1<=zz l/\Dp (if p.1<=k then l.take p.1 else Bg (l.take p.1) k) p.2/\h1=h) (λp=>zz l-p.1) (0,zj) rfl ⟨AV _,by rw[Af (AV _)];exact .nil,rfl⟩ ?_;rintro⟨n,u⟩ h1 ⟨hn,hu,rfl⟩;simp only at hn hu;have inc:=By n;obtain hlt|Et:=AP n (zz l)
  .have i1:(n:Int)<(zz l:Int):=by omega
   have elem:=DR.BG (k:= yy) hlt;have hlen:(if n<=k then l.take n else Bg (l.take n) k).length<=zz l:=by
    split;.rw[Ax];omega
    .unfold Bg;rw[Aw,Ax,Bi,Ax];omega
   have f:=AX.JU (a:=l[n]) hu (b:=48) (QJ Ab);simp only[BD,DR.CK,i1,Az,Av,Ap,elem,z0,Cp.Iu,Ae,MK z0,f,inc];refine⟨λh0=>?_,λh0=>?_⟩
   .refine zw (n+1,_) rfl ⟨hlt,?_,rfl⟩ DA;have:(if n+1<=k then l.take (n+1) else Bg (l.take (n+1)) k)=(if n<=k then l.take n else Bg (l.take n) k)++[l[n]]:=by
     rw[AB hlt];by_cases c:n<k;.rw[Af Ab,Af Ab]
     .rw[Ac Ab,Ac Ab];unfold Bg;rw[C6 (by rw[Ax];omega),OP (by rw[Ax];omega),AK]
    simp only
    rw[this];exact .mk
   .refine zw (n+1,u) rfl ⟨hlt,?_,rfl⟩ DA;obtain rfl:n=k:=Ab;have:(if n+1<=n then l.take (n+1) else Bg (l.take (n+1)) n)=l.take n:=by rw[Ac Ab];rw[Bg];rw[Fj,Ct Ab,AT (by rw[Ax];omega),BB]
    simp only
    rw[this];rwa[Af (Ae _)] at hu
  .have i1:¬(n:Int)<(zz l:Int):=by omega
   rw[Ac Ab,AF Et] at hu;simp only[BD,DR.CK,i1,Ag,Av,Ap];exact⟨_,rfl,hu⟩
 obtain⟨r,h',hr,rfl,hu⟩:=IJ.ret;exact⟨r,hr,hu⟩
def f82(hv:Dp l v)(hb:zz l<=900000000){e:Cp}(he:bN e)(i:Int):∃u e',e'.c=e.c/\BK cx 99 [v,zi e.row,I i] h u h/\Dp (l.take (CL i (zz l))++e'::l.drop (CL i (zz l))) u:=by
 let⟨e',Qu,y⟩:=aPd (h:=h) he;have key:∀k:Nat,k<=zz l->∃q r p m,AA (.K9 3 zo zo z4) [v,I (k:Int)]=zt q/\AA (yo 3 48) [zj,q]=zt r/\AA (yo 3 48) [r,.sl 3 [e'.row]]=zt (.sl 3 ((l.take k++[e']).map z3))/\AA (.K9 3 zo z4 zo) [v,I (k:Int)]=zt p/\AA (yo 3 48) [.sl 3 ((l.take k++[e']).map z3),p]=zt m/\Dp (l.take k++e'::l.drop k) m:=by intro k hk;let⟨q,j,h1⟩:=ys hv (k:= yy) hk;let⟨r,x,h2⟩:=AX.Gg h1 (b:=48) (QJ (by rw[Ax];omega));have w:=AX.JU (a:=e') h2 (b:=48) (QJ (by rw[Ax];omega));let⟨p,g,A⟩:=AX.TR hv (k:= yy) hk;let⟨m,t,z⟩:=AX.i7 (f:=z3) (l:=l.take k++[e']) .mk A (b:=48) (QJ (by rw[Aw,Ax,Bi,Bl];omega));exact⟨q,r,p,m,j,x,w,g,t,by rwa[AK] at z⟩
 let⟨q,r,p,m,j,x,w,g,t,hu⟩:=key (CL i (zz l)) (by rw[CL];omega);refine⟨m,e',Qu,?_,hu⟩;have DR:AX 3 (l.map z3) v:=hv;rw[Ad,aFX];by_cases h1:i<0
 .have:CL i (zz l)=0:=by rw[CL];omega
  rw[this] at j g;have j:AA (.K9 3 zo zo z4) [v,I 0]=zt q:=j;have g:AA (.K9 3 zo z4 zo) [v,I 0]=zt p:=g;simp only[BD,z0,yv,z9,yz,Cp.QH,h1,Az,Ag,Av,Ap,DR.CK,(Ab:¬(zz l:Int)<0),j,x,y,MK z0,w,g,t]
 .by_cases h2:(zz l:Int)<i
  .have:CL i (zz l)=zz l:=by rw[CL];omega
   rw[this] at j g;simp only[BD,z0,yv,z9,yz,Cp.QH,h1,h2,Az,Ag,Av,Ap,DR.CK,j,x,y,MK z0,w,g,t]
  .have:((CL i (zz l):Nat):Int)=i:=by rw[CL];omega
   rw[this] at j g;simp only[BD,z0,yv,z9,yz,Cp.QH,h1,h2,Ag,Av,Ap,DR.CK,j,x,y,MK z0,w,g,t]
def f84(hv:Dp l v)(hb:zz l<=900000000):∃u,BK cx 101 [v] h u h/\Dp (l.take (FC l)) u:=by
 let⟨s,es,Kn,_⟩:=Ke l;have hcl:FC l<=zz l:=by rw[FC];omega
 obtain⟨u,a,hu⟩:=ys hv hcl;let⟨c,b,Ja⟩:=AX.Gg hu (QJ (by rw[Ax];omega));refine⟨c,?_,Ja⟩;rw[Ad,aAh];by_cases h1:since l-1<0
 .have:FC l=0:=by rw[FC];omega
  rw[this] at a;have a:AA (.K9 3 zo zo z4) [v,I 0]=zt u:=a;simp[BD,aBM hv Ab,C0 (since l) 1,h1,Az,Av,Ap,a,b]
 .have:((FC l:Nat):Int)=since l-1:=by rw[FC];omega
  rw[this] at a;simp[BD,aBM hv Ab,C0 (since l) 1,h1,Ag,Av,Ap,a,b]
def f156(hv:Dp l v)(hb:zz l<=900000000)(hl:∀x∈l,bN x){e:Cp}(he:bN e):∃u e',e'.c=e.c/\BK cx 136 [v,zi e.row] h u h/\Dp (Lr e.c l++[e']) u:=by
 have DR:AX 3 (l.map z3) v:=hv;let⟨s,es,Kn,i,_⟩:=Ke l;have IJ:Ev cx 136 [v,zi e.row] h λr h'=>h'=h/\∃e':Cp,e'.c=e.c/\Dp (Lr e.c l++[e']) r:=by
  rw[Ev];rw[aAo];have q:=aBM (h:=h) hv Ab;rw[es] at q;let⟨b1,b2⟩:=Zz (e:=e.c) es;simp only[BD,Cp.CS,Cp.g0,Cp.g1,Cp.g2,Cp.QH,q];refine Bj (λn:Nat=>[I (OA e.c (l.take n)),I (TX e.c (l.take n):Int),I (n:Int)])
   (λn h1=>s<=n/\n<=zz l/\TX e.c (l.take n)<=n/\((TX e.c (l.take n)=0/\OA e.c (l.take n)= -1)\/∃k:Nat,k<n/\OA e.c (l.take n)=(k:Int))/\h1=h) (λn=>zz l-n) s (by rw[b1,b2];rfl) ⟨Ae _,Kn,Ab,z2 ⟨b1,b2⟩,rfl⟩ ?_
  rintro n h1 ⟨a1,a2,a3,a4,rfl⟩;obtain hlt|Et:=AP n l.length
  .have i1:(n:Int)<(zz l:Int):=by omega
   have j:=i n hlt a1;have b:=Vk (e:=e.c) hlt;have a:=Vl (e:=e.c) hlt;rw[Ac j] at b a;have g:=f241 (h:=h1) (hl _ (AN hlt)) he;simp only[BD,DR.CK,i1,Az,Ap,Av,DR.BG hlt,Cp.CS,Cp.Iu,Ae,g,By (TX e.c (l.take n)),By n];rw[C5];refine⟨λh2=>⟨λm=>?_,λm=>?_⟩,λh2=>?_⟩;.rw[Af h2] at b a;rw[Ac Ab] at a;refine zw (n+1) (by rw[b,a]) ⟨Ab,hlt,Ab,ze ⟨n,Ab,a⟩,rfl⟩ Ab
   .rw[Af h2] at b a;rw[Af Ab] at a;refine zw (n+1) (by rw[b,a]) ⟨Ab,hlt,Ab,ze ?_,rfl⟩ Ab;rw[a];rcases a4 with⟨_,a4⟩|⟨k,hk,a4⟩
    .omega
    .exact⟨k,Ab,a4⟩
   .rw[Ac (by simp[h2])] at b;rw[Ac (show¬Hg l[n].c e.c=z4 by simp[h2])] at a;have f:OA e.c (l.take (n+1))=OA e.c (l.take n):=by rw[a];rcases a4 with⟨_,a4⟩|⟨k,hk,a4⟩<;>rw[a4]<;>simp
    refine zw (n+1) (by rw[b,f];rfl) ⟨Ab,hlt,Ab,?_,rfl⟩ Ab;rw[b,f];obtain a4|⟨k,hk,a4⟩:=a4
    .exact .inl a4
    .exact .inr ⟨k,Ab,a4⟩
  .have i1:¬(n:Int)<(zz l:Int):=by omega
   rw[AF Et] at a3 a4⊢;simp only[BD,DR.CK,i1,Ap,Av,Ag];refine⟨λh2=>⟨λm=>?_,λm=>?_⟩,λh2=>?_⟩
   .rcases a4 with⟨a4,_⟩|⟨k,hk,a4⟩
    .omega
    have Re:k<zz l:=Ab;let⟨t,g,PU⟩:=aJS (h:=h1) hv hb Re;have hlen:(Bg l k).length<=l.length:=by unfold Bg;rw[Aw,Ax,Bi];omega
    let⟨p,e',Qu,r2,Ja⟩:=f82 (h:=h1) PU Ab he ((Bg l k).length:Int);have hcl:CL ((Bg l k).length:Int) (Bg l k).length=(Bg l k).length:=by rw[CL];omega
    rw[hcl,Bt,EJ] at Ja;simp only[BD,a4,g,AX.CK PU,r2];refine⟨_,rfl,e',Qu,?_⟩;rwa[Lr,Af ⟨h2,Ab⟩,a4,A3]
   .let⟨p,e',Qu,r2,Ja⟩:=f82 (h:=h1) hv hb he (zz l:Int);have hcl:CL (zz l:Int) (zz l)=zz l:=by rw[CL];omega
    rw[hcl,Bt,EJ] at Ja;simp only[BD,r2];refine⟨_,rfl,e',Qu,?_⟩;rwa[Lr,Ac Ab]
   .let⟨p,e',Qu,r2,Ja⟩:=f82 (h:=h1) hv hb he (zz l:Int);have hcl:CL (zz l:Int) (zz l)=zz l:=by rw[CL];omega
    rw[hcl,Bt,EJ] at Ja;simp only[BD,r2];refine⟨_,rfl,e',Qu,?_⟩;rwa[Lr,Ac (λh=>h2 h.1)]
 obtain⟨r,h',hr,rfl,e',Qu,hu⟩:=IJ.ret;exact⟨r,e',Qu,hr,hu⟩
end
end
def Xi:List A9->Aa
 |[]=> zj
 |x::l=> .sl 3 ((x::l).map zn)
def Yb{l:List A9}:AL l (Xi l):=by cases l;exact ze ⟨rfl,rfl⟩;exact z2 rfl
def tn{l:List A9}{x:A9}:Xi (l++[x])= .sl 3 ((l++[x]).map zn):=by cases l<;>rfl
structure PN where
 x:Fc
 kv:Aa
 av:Aa
 ok:av=Xi x.Aj
def PN.row(p:PN):List Aa:=[I p.x.kind,I p.x.Gm,p.kv,I p.x.CF,I p.x.A7,zs p.x.name,p.av,zs p.x.data,zs p.x.vz,zs p.x.sys,zy p.x.Cs,I p.x.cont,I p.x.EC]
def PN.CS{p:PN}:zz p.row=13:=rfl
def PN.zero:PN:=⟨{},zj,zj,rfl⟩
def pN(ps:List PN)(x:Int):PN:=ps.getD (x.toNat-1) PN.zero
def Cb(n:Int):List Aa:=[I n]
def Ec(l:List Int)(v:Aa):Prop:=AX 1 (l.map Cb) v
def KR(h:Ah)(kv:Aa)(l:List Int):Prop:=(kv= zj/\l=[])\/∃id cs,kv= .CC id 0 (zz l) 1/\h[id]?=zt (zg (l.map (Aa.int yy)++cs))
def Ii:Aa->Option Nat
 | .CC id _ _ _=>zt id
 |_=>z1
def kz(l:List (Int×Int)):Prop:=(l.map (·.1)).Nodup/\∀p∈l,qm p.1=z4/\qm p.2=z4
def Z4(h:Ah)(m:Option Nat)(f:Int->Int):Prop:=(m=z1/\∀k,f k=0)\/∃(id:Nat) (l:List (Int×Int)),m=zt id/\h[id]?=zt (.map (l.map λx:Int×Int=>(I x.1,I x.2)))/\(∀k,(l.find? λx=>decide (k=x.1)).map (·.2)=if f k=0 then z1 else zt (f k))/\kz l
def GH(a n:Nat)(m:Option Nat)(ps:List PN):List Nat:=a::n::(m.toList++ps.filterMap λp=>Ii p.kv)
structure PA(h:Ah)(a n:Nat)(m:Option Nat)(ps:List PN)(A:Ar):Prop where
 e:A.n=ps.map PN.x
 il:zz A.i=zz A.n
 ha:h[a]?=zt (zg [.CC n 0 (zz ps) 13,ym m])
 hn:h[n]?=zt (zg (ps.map PN.row).flatten)
 ks:∀p∈ps,KR h p.kv p.x.Be
 nd:(GH a n m ps).Nodup
 mp:Z4 h m A.inr
structure Du(h:Ah)(F:Nat->Prop)(h':Ah)(F':Nat->Prop):Prop where
 len:zz h<=zz h'
 old:∀i,i<zz h->¬F i->h'[i]?=h[i]?
 Bu:∀i,F' i->F i\/zz h<=i
section
variable{h h' h'' t:Ah}{F F' F'':Nat->Prop}
def Du.refl:Du h F h F:=⟨Ae _,λ_ _ _=>rfl,λ_ h=> z2 h⟩
def Du.trans(x:Du h F h' F')(y:Du h' F' h'' F''):Du h F h'' F'':=
 ⟨Bv x.len y.len,λi hi hF=>by
  rw[y.old i (JQ hi x.len) (λh=>by obtain h|h:=x.Bu i h;exact hF h;omega)];exact x.old i hi hF,λi hi=>by
  obtain h|h:=y.Bu i hi
  .exact x.Bu i h
  .exact ze (Bv x.len h)⟩
def Du.HY:Du h F (h++t) F:=⟨AH,λi hi _=>Ak hi,λ_ h=> z2 h⟩
end
def PW(h:Ah)(F:Nat->Prop)(a:Nat)(A:Ar):Prop:=∃n m ps,PA h a n m ps A/\∀i,F i↔i∈GH a n m ps
section
variable{h h':Ah}{a n:Nat}{m:Option Nat}{ps:List PN}{A:Ar}{x:Int}{F:Nat->Prop}
def KR.Dj{kv:Aa}{l:List Int}(hk:KR h kv l)(hf:∀id,Ii kv=zt id->h'[id]?=h[id]?):KR h' kv l:=by
 rcases hk with⟨rfl,rfl⟩|⟨id,cs,rfl,hc⟩
 .exact z2 ⟨rfl,rfl⟩
 .exact ze ⟨id,cs,rfl,by rwa[hf id rfl]⟩
def Z4.Dj{f:Int->Int}(hk:Z4 h m f)(hf:∀id,m=zt id->h'[id]?=h[id]?):Z4 h' m f:=by
 obtain h1|⟨id,l,rfl,hc,h2⟩:=hk
 .exact z2 h1
 .exact ze ⟨id,l,rfl,by rwa[hf id rfl],h2⟩
def L1{p:PN}{id:Nat}(hp:p∈ps)(hk:Ii p.kv=zt id):id∈GH a n m ps:=by simp only[GH,AR,Ay];exact ze (ze (ze (Ck.2 ⟨p,hp,hk⟩)))
def PA.Dj(w:PA h a n m ps A)(hf:∀i∈GH a n m ps,h'[i]?=h[i]?):PA h' a n m ps A:=
 ⟨w.e,w.il,by rw[hf a (by simp[GH])];exact w.ha,by rw[hf n (by simp[GH])];exact w.hn,λp hp=>(w.ks p hp).Dj λid hk=>hf id (L1 hp hk),w.nd,w.mp.Dj λid hm=>hf id (by simp[GH,hm])⟩
def PA.lt(w:PA h a n m ps A):∀i∈GH a n m ps,i<zz h:=by
 intro i hi;rw[GH] at hi;simp[AR,Ay,Ck] at hi;obtain rfl|rfl|hi|⟨p,hp,hk⟩:=hi
 .exact(Aq.1 w.ha).1
 .exact(Aq.1 w.hn).1
 .rcases w.mp with⟨rfl,_⟩|⟨id,l,rfl,hc,_⟩
  .simp at hi
  .simp at hi;subst hi;exact(Aq.1 hc).1
 .rcases w.ks p hp with⟨e,_⟩|⟨id,cs,e,hc⟩
  .rw[e] at hk;cases hk
  .rw[e] at hk;cases hk;exact(Aq.1 hc).1
def PW.Dj(w:PW h F a A)(hf:∀i,F i->h'[i]?=h[i]?):PW h' F a A:=by let⟨n,m,ps,w,e⟩:=w;exact⟨n,m,ps,w.Dj λi hi=>hf i ((e i).2 hi),e⟩
def PW.lt(w:PW h F a A){i:Nat}(hi:F i):i<zz h:=by let⟨n,m,ps,w,e⟩:=w;exact w.lt i ((e i).1 hi)
section
variable(w:PA h a n m ps A)
def PA.æ:zz A.n=zz ps:=by rw[w.e,Ao]
def PA.at(hx:A.has x):x.toNat-1<zz ps/\((x.toNat-1:Nat):Int)=x-1:=by have:=w.æ;rw[Ar.has] at hx;omega
def PA.pn(hx:A.has x):ps[x.toNat-1]?=zt (pN ps x)/\(pN ps x).x=A.nd x/\pN ps x∈ps:=by
 have h1:=(w.at hx).1;have h2:ps[x.toNat-1]?=zt ps[x.toNat-1]:=An h1;have b:pN ps x=ps[x.toNat-1]:=by rw[pN];rw[AS,h2];rfl
 refine⟨by rwa[b],?_,by rw[b];exact AN _⟩;rw[Ar.nd];rw[Af hx,w.e,b,AS,Cc,h2];rfl
end
def L2{AD:List (List Aa)}{z i k:Nat}(hr:∀r∈AD,zz r=z)(hk:k<z){r:List Aa}(hi:AD[i]?=zt r):AD.flatten[i*z+k]?=r[k]?:=by
 have h1:(AD.flatten.drop (i*z))[k]?=r[k]?:=by rw[Js hr];let⟨hlt,e⟩:=Aq.1 hi;rw[AG hlt,e,Dt,Ak (by rwa[hr r (e▸AN hlt)])]
 rwa [Cu] at h1
def tN(l:List PN):∀r∈l.map PN.row,zz r=13:=M0 (f:=PN.row) (λ_=>PN.CS) l
def nP(n:Nat)(x:Int):Nat:=(x.toNat-1)*13
section
variable(w:PA h a n m ps A)
def PA.P6(hx:A.has x){k:Nat}(hk:k<13):A5 h z1 (Pt n (nP n x+k))=(pN ps x).row[k]?:=by rw[nP];simp[A5,w.hn,Fu];exact L2 (tN ps) hk (by rw[Cc,(w.pn hx).1];rfl)
def Xj:BK cx 53 [Pt a 0,I x] h (zy (decide (A.has x))) h:=by
 have d:A5 h z1 (Pt a 0)=zt (.CC n 0 (zz ps) 13):=by simp only[A5,w.ha];rfl
 have c:AA (yn zo) [.CC n 0 (zz ps) 13]=zt (I (zz ps:Int)):=rfl;simp only[Ad,zE,abS,d,c];have hl:=w.æ;have b:A.has x↔1<=x/\x<=(zz ps:Int):=by rw[Ar.has];rw[hl]
 refine⟨λh1=>?_,λh1=>?_⟩;.congr 2;rw[Ds,b];exact⟨λh=>⟨h1,h⟩,λh=>h.2⟩
 .rw[Al (λh=>h1 (b.1 h).1)]
def PA.nodes:A5 h z1 (Pt a 0)=zt (.CC n 0 (zz ps) 13):=by simp only[A5,w.ha];rfl
def PA.len:((zz ps:Nat):Int)=A.len:=by rw[Ar.len];rw[w.æ]
end
def aDv(w:PA h a n m ps A){l:List Int}{v:Aa}(hv:Ec l v)(hb:zz l<=1000):BK cx 235 [Pt a 0,v] h (I (if∀x∈l,A.has x then 0 else 3)) h:=by
 have hv:AX 1 (l.map Cb) v:=hv;simp only[Ad,lL,abS,hv.CK];refine Bj (λk:Nat=>[I 0,I (k:Int)]) (λk h1=>k<=zz l/\(∀x∈l.take k,A.has x)/\h1=h) (λk=>zz l-k) 0 rfl ⟨AV _,AH,rfl⟩ ?_;rintro k h1 ⟨hk,ha,rfl⟩;obtain hlt|Et:=AP k (zz l)
 .have i1:(k:Int)<(zz l:Int):=by omega
  have c:A5 h1 z1 (.CH (Cb l[k]))=zt (I l[k]):=rfl;simp only[BD,Wn,i1,hv.BG hlt,c,Xj (x:=l[k]) w,By k];rw[C5];refine⟨λh2=>?_,λh2=>?_⟩
  .have h2:¬A.has l[k]:=zv h2
   rw[Ac (λb=>h2 (b _ (AN hlt)))]
  .have h2:A.has l[k]:=zv h2
   refine zw (k+1) rfl ⟨hlt,?_,rfl⟩ Ab;intro x hx;rw[AB hlt,Ay,AM] at hx;obtain hx|rfl:=hx
   .exact ha x hx
   .exact h2
 .have i1:¬(k:Int)<(zz l:Int):=by omega
  rw[AF Et] at ha;simp[abS,i1,Af ha]
def S3(w:PA h a n m ps A):BK cx 235 [Pt a 0,.sl 1 [[I x]]] h (I (if A.has x then 0 else 3)) h:=by have:=aDv w (l:=[x]) (v:= .sl 1 [[I x]]) .mk AH;exact zv this
def Mj{y:Int}(w:PA h a n m ps A):BK cx 235 [Pt a 0,.sl 1 [[I x],[I y]]] h (I (if A.has x/\A.has y then 0 else 3)) h:=by have:=aDv w (l:=[x,y]) (v:= .sl 1 [[I x],[I y]]) .mk AH;exact zv this
def Hn{x:Int}:AA (.Dk 1) [I x]=zt (.sl 1 [[I x]]):=rfl
def Gk{x y:Int}:AA (.Dk 1) [I x,I y]=zt (.sl 1 [[I x],[I y]]):=rfl
def N4.of(b:N4 A)(hx:A.has x):1<=x/\x<=1000000000:=by have:=b.n;rw[Ar.has] at hx;omega
section
variable(w:PA h a n m ps A)
def JC(b:N4 A)(hx:A.has x):BK cx 152 [Pt a 0,I x] h (Pt n (nP n x)) h:=by
 have hr:=b.of hx;have d:=(w.at hx).2;have c:AA (.EE 13) [.CC n 0 (zz ps) 13,I (x-1)]=zt (Pt n (nP n x)):=by rw[<-d];exact Fk (w.at hx).1
 simp[Ad,XK,abS,w.nodes,C0 x 1,c]
def PA.f0(hx:A.has x):A5 h z1 (Pt n (nP n x))=zt (I (A.nd x).kind):=by have:=w.P6 hx (k:=0) Bf;rwa[<-(w.pn hx).2.1]
def PA.f1(hx:A.has x):A5 h z1 (Pt n (nP n x+1))=zt (I (A.nd x).Gm):=by have:=w.P6 hx (k:=1) Bf;rwa[<-(w.pn hx).2.1]
def PA.f2(hx:A.has x):A5 h z1 (Pt n (nP n x+2))=zt (pN ps x).kv:=by have:=w.P6 hx (k:=2) Bf;exact this
def PA.f4(hx:A.has x):A5 h z1 (Pt n (nP n x+4))=zt (I (A.nd x).A7):=by have:=w.P6 hx (k:=4) Bf;rwa[<-(w.pn hx).2.1]
def PA.f5(hx:A.has x):A5 h z1 (Pt n (nP n x+5))=zt (zs (A.nd x).name):=by have:=w.P6 hx (k:=5) Bf;rwa[<-(w.pn hx).2.1]
def PA.f6(hx:A.has x):A5 h z1 (Pt n (nP n x+6))=zt (pN ps x).av:=by have:=w.P6 hx (k:=6) Bf;exact this
def PA.NJ(hx:A.has x):KR h (pN ps x).kv (A.nd x).Be:=by rw[<-(w.pn hx).2.1];exact w.ks _ (w.pn hx).2.2
def PA.ç(hx:A.has x):(pN ps x).av=Xi (A.nd x).Aj:=by rw[<-(w.pn hx).2.1];exact(pN ps x).ok
def PA.row(hx:A.has x):A5 h (zt 13) (Pt n (nP n x))=zt (zi (pN ps x).row):=by
 have h1:((ps.map PN.row).flatten.drop (nP n x)).take 13=(pN ps x).row/\nP n x+13<=(ps.map PN.row).flatten.length:=by rw[nP];have hlt:=(w.at hx).1;have hg:=(w.pn hx).1;rw[Js (tN ps),Gq (tN ps),Ao];refine⟨?_,Ab⟩;rw[<-IP,AG hlt,Bm,Dt];rw[An hlt,BF] at hg;rw[hg];exact Io PN.CS
 simp only[A5,w.hn,NL];rw[Af h1.2,h1.1]
end
def N6:∀{l:List Int} {cs UO:List Aa},CD (UO++(l.map (Aa.int yy)++cs)) 1 (zz UO) (zz l)=l.map Cb
 |[],_,_=>rfl
 |x::l,cs,UO=>by have:=N6 (l:=l) (cs:=cs) (UO:=UO++[I x]);simp only[AK,Aw,Bl] at this;simp only[Bm,Bn,CD,CQ];rw[J1 rfl];simp[CQ,BY] at this;rw[this];rfl
section
variable{kv:Aa}{l:List Int}(hk:KR h kv l)
def KR.AD:Hz h 1 kv=zt (l.map Cb):=by
 rcases hk with⟨rfl,rfl⟩|⟨id,cs,rfl,hc⟩
 .rfl
 .have:=N6 (l:=l) (cs:=cs) (UO:=[]);simp[BY,BP] at this;simp only[Hz,BR,hc,this];rw[Af AH]
def KR.len:AA (yn zo) [kv]=zt (I (zz l:Int)):=by rcases hk with⟨rfl,rfl⟩|⟨id,cs,rfl,hc⟩<;>rfl
def aDw(hb:zz l<=1000000000):∃v,BK cx 386 [kv] h v h/\Ec l v:=by
 have hr:=hk.AD;rcases hk with⟨rfl,rfl⟩|⟨id,cs,rfl,hc⟩
 .exact⟨zj,by simp[Ad,X6,aFY,BD,show AA (.GD zo .sl) [zj,zj]=zt (zy z4) from rfl],ze ⟨rfl,rfl⟩⟩
 .refine⟨.sl 1 (l.map Cb),?_,.mk⟩;have b:RY h 1 8 (.sl 1 []) (.CC id 0 (zz l) 1)=zt (.sl 1 (l.map Cb)):=by
   rw[RY];rw[hr,CP];cases l with
   |nil=>rfl
   |cons x l=>
    have:(x::l).length*8<=A0:=by have:A0=140737488355328:=rfl;omega
    simp only[Bm,D0,Bn,Ao,BP] at this⊢;rw[Af ⟨trivial,zv this⟩];rfl
  simp[Ad,X6,aFY,BD,show AA (.GD zo .sl) [.CC id 0 (zz l) 1,zj]=zt (zy zo) from rfl,show AA (.Dk 1) []=zt (.sl 1 []) from rfl,b]
end
def JD(h:Ah)(v:Aa)(l:List A9):Prop:=(v= zj/\l=[])\/∃id,v= .CC id 0 (zz l) 3/\h[id]?=zt (zg (l.map zn).flatten)/\id<zz h
def JD.HY{v:Aa}{l:List A9}{t:Ah}(hv:JD h v l):JD (h++t) v l:=by
 obtain h1|⟨id,e,hc,hl⟩:=hv
 .exact z2 h1
 .exact ze ⟨id,e,by rwa[Ak hl],by rw[Aw];omega⟩
def JD.cells{v:Aa}{l:List A9}(hv:JD h v l):v.cells=[v]:=by rcases hv with⟨rfl,_⟩|⟨id,rfl,_,_⟩<;>rfl
structure NQ(h:Ah)(v:Aa)(l:List A9):Prop where
 len:AA (yn zo) [v]=zt (I (zz l:Int))
 at_:∀k (hk:k<zz l),∃p,AA (.EE 3) [v,I (k:Int)]=zt p/\A5 h (zt 3) p=zt (zi l[k].row)
def Z5{v:Aa}{l:List A9}(hv:AL l v):NQ h v l:=⟨z8 hv,λk hk=>⟨_,AX.BG hv hk,rfl⟩⟩
def aGd(l:List A9):∀r∈l.map zn,zz r=3:=M0 (f:=zn) (λ_=>rfl) l
def JD.in_{v:Aa}{l:List A9}(hv:JD h v l):NQ h v l:=by
 rcases hv with⟨rfl,rfl⟩|⟨id,rfl,hc,_⟩
 .exact⟨rfl,λk hk=>by simp at hk⟩
 .refine⟨rfl,λk hk=>⟨Pt id (k*3),Fk hk,?_⟩⟩;simp only[A5,hc,NL];rw[Af (by rw[Gq (aGd l),Ao];omega),Js (aGd l),<-IP,AG hk,Bm,Dt];rfl
def Up(N:Nat)(v:Aa):Prop:=∀id k,v= .CC id 0 k 3->N<=id
def è{v:Aa}{l:List A9}(hv:v=Xi l)(hb:zz l<=1000000000):∃u t,BK cx 100146 [v] h u (h++t)/\JD (h++t) u l/\Up (zz h) u:=by
 cases l with
 |nil=>refine⟨zj,[],?_,z2 ⟨rfl,rfl⟩,λ_ _ e=>nomatch e⟩;simp[BB,Ad,Pl,hv,BD,Xi,show AA (.GD zo .sl) [zj,zj]=zt (zy z4) from rfl]
 |cons x l=>have e:=LX (h:=h) (s:= .sl 3 []) (z:=3) (b:=40) (ze rfl) (AX.mk (z:=3) (AD:=(x::l).map zn)) AH (by rw[Ao];have:A0=140737488355328:=rfl;omega);rw[Ao] at e;refine⟨.CC (zz h) 0 (x::l).length 3,[zg ((x::l).map zn).flatten],?_,ze ⟨zz h,rfl,AH,AH⟩,λ_ _ e=>by injection e with e;omega⟩;simp only[Ad,Pl,hv,BD,Xi,show AA (.GD zo .sl) [.sl 3 ((x::l).map zn),zj]=zt (zy zo) from rfl,show AA (.Dk 3) []=zt (.sl 3 []) from rfl,e]
def Xk(h:Ah)(N:Nat)(x:Fc)(r:List Aa):Prop:=∃K V,r=[I x.kind,I x.Gm,K,I x.CF,I x.A7,zs x.name,V,zs x.data,zs x.vz,zs x.sys,zy x.Cs,I x.cont,I x.EC]/\Ec x.Be K/\JD h V x.Aj/\Up N V
def Xk.HY{x:Fc}{r:List Aa}{t:Ah}{N:Nat}(hr:Xk h N x r):Xk (h++t) N x r:=let⟨K,V,e,h1,h2,b⟩:=hr;⟨K,V,e,h1,h2.HY,b⟩
section
variable(w:PA h a n m ps A)
def aDx(f:N4 A)(hx:A.has x)(b:(A.nd x).Be.length<=1000000000):∃r t,BK cx 295 [Pt n (nP n x)] h (zi r) (h++t)/\Xk (h++t) (zz h) (A.nd x) r:=by let⟨K,e,d⟩:=aDw (w.NJ hx) b;let⟨V,t,r2,c,g⟩:=è (h:=h) (w.ç hx) (f.at_ x);refine⟨_,t,?_,K,V,rfl,d,c,g⟩;have hc:K.cells=[K]:=yx d;have e0:=w.row hx;have ex:=(w.pn hx).2.1;rw[Ad,lW];rw[PN.row,ex] at e0;simp[abS,e0,w.f2 hx,w.f6 hx,e,BN,r2,hc,c.cells]
def aGe(c:N4 A)(b:(A.nd x).Be.length<=1000000000):∃r t,BK cx 162 [Pt a 0,I x] h (yu [zi r,I (if A.has x then 0 else 3)]) (h++t)/\Xk (h++t) (zz h) (A.nd x) r:=by
 by_cases hx:A.has x;.let⟨r,t,d,hr⟩:=aDx w c hx b;have Gy:=hr;obtain⟨K,V,rfl,_⟩:=hr;refine⟨_,t,?_,Gy⟩;simp[Ad,XM,abS,AQ,Hn,S3 (x:=x) w,Af hx,B3,CG,JC w c hx,d]
 .refine⟨_,[],?_,zj,zj,by rw[H6 hx],by rw[H6 hx];exact ze ⟨rfl,rfl⟩,by rw[H6 hx];exact z2 ⟨rfl,rfl⟩,λ_ _ e=>nomatch e⟩;simp[Ad,XM,BB,abS,AQ,Hn,S3 (x:=x) w,Ac hx,B3,KD,DO]
def aDy(d:N4 A)(b:(A.nd x).Be.length<=1000000000):∃v,BK cx 305 [Pt a 0,I x] h v h/\Ec (A.nd x).Be v:=by
 by_cases hx:A.has x;.let⟨K,c,e⟩:=aDw (w.NJ hx) b;refine⟨K,?_,e⟩;simp[Ad,X2,abS,Xj (x:=x) w,As hx,JC w d hx,w.f2 hx,c]
 .refine⟨zj,?_,by rw[H6 hx];exact ze ⟨rfl,rfl⟩⟩;simp[Ad,X2,abS,Xj (x:=x) w,Al hx]
def aJU(b:N4 A):BK cx 401 [Pt a 0,I x] h (I (A.nd x).Gm) h:=by
 by_cases hx:A.has x;.rw[Ad,X7];simp[abS,Xj (x:=x) w,As hx,JC w b hx,w.f1 hx]
 .rw[Ad,X7,H6 hx];simp[abS,Xj (x:=x) w,Al hx]
def aPh:BK cx 147 [Pt a 0] h (I A.len) h:=by have b:AA (yn zo) [.CC n 0 (zz ps) 13]=zt (I (zz ps:Int)):=rfl;simp[Ad,aAt,abS,w.nodes,b,w.len]
def é(b:N4 A):BK cx 233 [Pt a 0,I x] h (I (if A.has x then(if(A.nd x).kind=1 then 0 else 9) else 3)) h:=by
 rw[Ad,lJ];by_cases hx:A.has x
 .simp only[abS,Hn,S3 (x:=x) w,Af hx,B3,CG,JC w b hx,w.f0 hx];by_cases hk:(A.nd x).kind=1;.simp only[hk,abS,CG]
  .simp only[hk,abS]
 .simp only[abS,Hn,S3 (x:=x) w,Ac hx,B3,KD]
end
def ê{l:List PN}:(l.map PN.row).flatten.length=zz l*13:=by rw[Gq (tN l),Ao]
def tO{p:PN}{n':Nat}(hk:Ii p.kv=z1):GH a n' m (ps++[p])=a::n'::(m.toList++ps.filterMap λp=>Ii p.kv):=by rw[GH];rw[E7];simp[hk]
def ë{x:Fc}(hl:zz A.i=zz A.n):(A.add x).inr=A.inr:=by funext k;exact XG hl
def aBP(w:PA h a n m ps A)(hb:zz ps+1<=1000000000)(p:PN)(hk:p.kv= zj)(ř:p.x.Be=[]):
  ∃h',BK cx 157 [Pt a 0,zi p.row] h (I (A.len+1)) h'/\PA h' a (zz h) m (ps++[p]) (A.add p.x)/\(∀i,i<zz h->i≠a->i≠n->h'[i]?=h[i]?)/\zz h'=zz h+1:=by
 have VV:a<zz h:=w.lt a (by simp[GH]);have j:a≠n:=by have:=w.nd;simp[GH] at this;exact this.1.1
 have d:=Kb (h:=h) (id:=n) (AD:=ps.map PN.row) (r2:=[p.row]) (v:= .sl 13 [p.row]) (b:=168) (tN ps) Bf w.hn .mk AH (by rw[Ao];have:A0=140737488355328:=rfl;simp;omega);rw[Ao] at d;simp only[Bl] at d;have PV:(h.set n .CU++[zc (ps.map PN.row++[p.row]).flatten])[a]?=zt (zg [.CC n 0 (zz ps) 13,ym m]):=by rw[Ak (zv VV),Au (DY j)];exact w.ha
 have es:Cy (h.set n .CU++[zc (ps.map PN.row++[p.row]).flatten]) 1 (Pt a 0) (.CC (zz h) 0 (zz ps+1) 13)=zt ((h.set n .CU++[zc (ps.map PN.row++[p.row]).flatten]).set a (zg [.CC (zz h) 0 (zz ps+1) 13,ym m])):=by simp only[Cy,PV];rfl
 have l:A5 ((h.set n .CU++[zc (ps.map PN.row++[p.row]).flatten]).set a (zg [.CC (zz h) 0 (zz ps+1) 13,ym m])) z1 (Pt a 0)=zt (.CC (zz h) 0 (zz ps+1) 13):=by simp[A5];rw[AY EP];rfl
 have o:AA (yn zo) [.CC (zz h) 0 (zz ps+1) 13]=zt (I ((zz ps+1:Nat):Int)):=rfl;have em:AA (.Dk 13) [zi p.row]=zt (.sl 13 [p.row]):=MZ (a:= zi p.row) rfl Bf;refine⟨(h.set n .CU++[zc (ps.map PN.row++[p.row]).flatten]).set a (zg [.CC (zz h) 0 (zz ps+1) 13,ym m]),?_,?_,?_,?_⟩;rotate_left
 .refine⟨by simp[Ar.add,w.e],by simp[Ar.add,w.il],?_,?_,?_,?_,?_⟩;.rw[AY EP];simp
  .rw[Au Ab,Bz AH];simp
  .intro q hq;obtain hq|hq:=Ay.1 hq
   .refine(w.ks q hq).Dj λid IC=>?_;have h1:id∈GH a n m ps:=L1 hq IC;have h2:=w.lt id h1;have c:=w.nd;have k:id∈m.toList++ps.filterMap λp=>Ii p.kv:=Ay.2 (ze (Ck.2 ⟨q,hq,IC⟩));rw[GH] at c;simp only[Cl,AR,Ly] at c;have g:a≠id:=λe=>c.1.2 (e▸k);have f:n≠id:=λe=>c.2.1 (e▸k);rw[Au g,Ak (zv h2),Au f]
   .simp at hq;subst hq;exact z2 ⟨hk,ř⟩
  .rw[tO (by rw[hk];rfl)];have c:=w.nd;rw[GH] at c;simp only[Cl,AR,Ly] at c⊢;refine⟨⟨Ab,c.1.2⟩,λhm=>?_,c.2.2⟩;have:=w.lt (zz h) (by simp only[GH,AR];exact ze (ze hm));omega
  .rw[ë w.il];refine w.mp.Dj λid IC=>?_;have h1:id∈m.toList++ps.filterMap λp=>Ii p.kv:=by simp[IC]
   have h2:=w.lt id (by simp only[GH,AR];exact ze (ze h1));have c:=w.nd;rw[GH] at c;simp only[Cl,AR,Ly] at c;have g:a≠id:=λe=>c.1.2 (e▸h1);have f:n≠id:=λe=>c.2.1 (e▸h1);rw[Au g,Ak (zv h2),Au f]
 .intro i hi h1 h2;rw[Au (DY h1),Ak (zv hi),Au (DY h2)]
 .simp
 .have hl:A.len+1=((zz ps+1:Nat):Int):=by rw[<-w.len];rfl
  rw[PN.row] at em d es l;simp only[Ad,XL,hl,PN.row,abS,Nat.reduceLeDiff,↓reduceIte,AQ,w.nodes,em,d,es,l,o]
def OF{AD:List (List Aa)}{z i k:Nat}(hr:∀r∈AD,zz r=z)(hi:i<zz AD)(hk:k<z){v:Aa}:AD.flatten.take (i*z+k)++[v]++AD.flatten.drop (i*z+k+1)=(AD.set i (AD[i].set k v)).flatten:=by
 have hl:=hr _ (AN hi);rw[<-rY hr hi];have b:AD.flatten.drop (i*z)=AD[i]++AD.flatten.drop (i*z+z):=by
  have e:i*z+z=(i+1)*z:=by rw[B9,Gd]
  rw[e,Js hr,Js hr,AG hi,Dt]
 have d:AD.flatten.take (i*z+k)=AD.flatten.take (i*z)++AD[i].take k:=by rw[aCL,b,C6 Ab]
 have c:AD.flatten.drop (i*z+k+1)=AD[i].drop (k+1)++AD.flatten.drop (i*z+z):=by rw[gM,<-Fi,b,OP Ab]
 rw[d,c,B1,Af Ab];simp
section
variable(w:PA h a n m ps A)(hx:A.has x)
def PA.sto{k:Nat}(hk:k<13){v:Aa}(hv:v.cells=[v]){p:PN}(hp:p.row=(pN ps x).row.set k v){h1:Ah}(hn:h1[n]?=h[n]?):
  Cy h1 1 (Pt n (nP n x+k)) v=zt (h1.set n (zg ((ps.set (x.toNat-1) p).map PN.row).flatten)):=by
 have hlt:=(w.at hx).1;have hg:=(w.pn hx).1;rw[An hlt,BF] at hg;have e:=OF (AD:=ps.map PN.row) (i:=x.toNat-1) (k:=k) (v:=v) (tN ps) (zv hlt) hk;rw[CR,hg,<-hp,<-EI] at e;simp only[nP,Cy,hn,w.hn,hv,Bl,Nr];rw[Af (by rw[Gq (tN ps),Ao];omega),e]
def Z6(p:PN):ps=ps.take (x.toNat-1)++pN ps x::ps.drop (x.toNat-1+1)/\ps.set (x.toNat-1) p=ps.take (x.toNat-1)++p::ps.drop (x.toNat-1+1):=by have hlt:=(w.at hx).1;have hg:=(w.pn hx).1;rw[An hlt,BF] at hg;refine⟨?_,by rw[B1,Af hlt]⟩;conv=>lhs;rw[<-CJ (x.toNat-1) ps,AG hlt,hg]
end
def ì{y:Fc}:(A.set x y).inr=A.inr:=by funext k;exact TY
def PA.vp(w:PA h a n m ps A)(hx:A.has x){p:PN}{h1:Ah}(ho:∀i∈GH a n m ps,Ii (pN ps x).kv≠zt i->h1[i]?=h[i]?)(hk:KR h1 p.kv p.x.Be)
  (hi:Ii p.kv=Ii (pN ps x).kv\/∀j,Ii p.kv=zt j->h.length<=j):PA (h1.set n (.cells ((ps.set (x.toNat-1) p).map PN.row).flatten)) a n m (ps.set (x.toNat-1) p) (A.set x p.x):=by
 have hlt:=(w.at hx).1;have aBR:=(w.pn hx).2.2;obtain⟨B,C⟩:=Z6 w hx p;have nd:=w.nd;have g:∀j,Ii (pN ps x).kv=zt j->j∈m.toList++ps.filterMap λp=>Ii p.kv:=λj hj=>Ay.2 (.inr (Ck.2 ⟨_,aBR,hj⟩));have oI:=nd;unfold GH at oI;simp only[Cl,AR,Ly] at oI;have u:a≠n:=oI.1.1;have l:Ii (pN ps x).kv≠zt a:=λe=>oI.1.2 (g a e);have f:Ii (pN ps x).kv≠zt n:=λe=>oI.2.1 (g n e);have PH:n<h.length:=w.lt n (by simp[GH]);have y:h1[n]?=h[n]?:=ho n (by simp[GH]) f;have z:n<h1.length:=by have:=w.hn;rw[<-y] at this;exact(Aq.1 this).1
 have s:∀j,Ii p.kv=zt j->j≠n/\j≠a:=by
  intro j hj;rcases hi with hi|hi
  .rw[hi] at hj;exact⟨λe=>f (e▸hj),λe=>l (e▸hj)⟩
  .have:=hi j hj;have:=w.lt a (by simp[GH]);omega
 refine⟨?_,?_,?_,?_,?_,?_,?_⟩;.simp only[Ar.set,Af hx];rw[w.e,EI]
 .rw[JV];exact w.il
 .rw[Au (DY u),ho a (by simp[GH]) l,Br];exact w.ha
 .rw[AY z]
 .intro q hq;by_cases c:q=p;.rw[c];exact hk.Dj λid IC=>by rw[Au (DY (s id IC).1)]
  .rw[C] at hq;have d:q∈ps.take (x.toNat-1)++ps.drop (x.toNat-1+1):=by
    rcases Ay.1 hq with b|b
    .exact Ay.2 (.inl b)
    .exact Ay.2 (.inr ((AR.1 b).resolve_left c))
   have zu:q∈ps:=by
    rcases Ay.1 d with b|b
    .exact BJ b
    .exact BO b
   refine(w.ks q zu).Dj λj hj=>?_;have o:j∈GH a n m ps:=L1 zu hj;have v:j≠n:=λe=>oI.2.1 (e▸Ay.2 (.inr (Ck.2 ⟨q,zu,hj⟩)));have Yc:Ii (pN ps x).kv≠zt j:=by
    intro t;have r:=(CO.1 oI.2.2).2.1;rw[B,E7,I3,t] at r;simp only[CO,Cl,AR,Ck] at r;rcases Ay.1 d with b|b
    .exact r.2.2 j ⟨q,b,hj⟩ j (.inl rfl) rfl
    .exact r.2.1.1 ⟨q,b,hj⟩
   rw[Au (DY v),ho j o Yc]
 .have fr:∀j,Ii p.kv=zt j->Ii (pN ps x).kv=zt j\/j∉GH a n m ps:=by
   intro j hj;rcases hi with hi|hi
   .exact .inl (hi▸hj)
   .exact .inr λhm=>by have:=hi j hj;have:=w.lt j hm;omega
  have h1:=nd;unfold GH at h1 fr⊢;rw[B,E7,I3] at h1;rw[B,E7,I3] at fr;rw[C,E7,I3];generalize yq (λp=>Ii p.kv) (ps.take (x.toNat-1))=T at h1 fr⊢;generalize yq (λp=>Ii p.kv) (ps.drop (x.toNat-1+1))=D at h1 fr⊢;cases hp:Ii p.kv with
  |none=>
   cases ho:Ii (pN ps x).kv with
   |none=>rw[ho] at h1;exact h1
   |some k=>rw[ho] at h1;refine h1.sublist ?_;simp
  |some j=>
   have:=fr j hp;cases ho:Ii (pN ps x).kv with
   |none=>rw[ho] at h1 this;simp only[Cl,CO,AR,Ay] at h1 this⊢;grind
   |some k=>rw[ho] at h1 this;simp only[Cl,CO,AR,Ay] at h1 this⊢;grind
 .rw[ì];refine w.mp.Dj λid IC=>?_;have o:id∈m.toList++ps.filterMap λp=>Ii p.kv:=by simp[IC]
  have v:n≠id:=λe=>oI.2.1 (e▸o);have Yc:Ii (pN ps x).kv≠zt id:=by intro iP;exact(CO.1 oI.2.2).2.2 id (by simp[IC]) id (Ck.2 ⟨_,aBR,iP⟩) rfl
  rw[Au v,ho id (by unfold GH;simp only[AR];exact .inr (.inr o)) Yc]
end
end Go.Am
end
