/- Lemmas -/
import Derived.Test.YtgmhlaiafgkmeaaGreatDoorN20
import Derived.Test.YtgmhlaiafgkmeaaGreatDoorN21
import Derived.Test.YtgmhlaiafgkmeaaGreatDoorN22
import Derived.Test.YtgmhlaiafgkmeaaGreatDoorN23
import Derived.Test.YtgmhlaiafgkmeaaGreatDoorN19
set_option linter.all false
section
set_option maxRecDepth 100000
namespace Go.Am
open Go
abbrev U7:=List Aa->Option IT
def O4(g:IT):U7:=λl=>match l with
 |[]=>some (g)
 |_=>none
def Bl(g:Aa->IT):U7:=λl=>match l with
 |[a0]=>some (g a0)
 |_=>none
def A7(g:Aa->Aa->IT):U7:=λl=>match l with
 |[a0,a1]=>some (g a0 a1)
 |_=>none
def D6(g:Aa->Aa->Aa->IT):U7:=λl=>match l with
 |[a0,a1,a2]=>some (g a0 a1 a2)
 |_=>none
def Qs(g:Aa->Aa->Aa->Aa->IT):U7:=λl=>match l with
 |[a0,a1,a2,a3]=>some (g a0 a1 a2 a3)
 |_=>none
def Zk(g:Aa->Aa->Aa->Aa->Aa->IT):U7:=λl=>match l with
 |[a0,a1,a2,a3,a4]=>some (g a0 a1 a2 a3 a4)
 |_=>none
def Mi(f:Nat)(g:U7):Prop:=∀l t,g l=some t->t=AH cx f l
def Kn{f:Nat}{g:IT}(h:AH cx f []=g):Mi f (O4 g):=by
 intro l t ht;unfold O4 at ht;split at ht;.cases ht;exact(h).symm
 .cases ht
def Aq{f:Nat}{g:Aa->IT}(h:∀a0,AH cx f [a0]=g a0):Mi f (Bl g):=by
 intro l t ht;unfold Bl at ht;split at ht;.cases ht;exact(h _).symm
 .cases ht
def Al{f:Nat}{g:Aa->Aa->IT}(h:∀a0 a1,AH cx f [a0,a1]=g a0 a1):Mi f (A7 g):=by
 intro l t ht;unfold A7 at ht;split at ht;.cases ht;exact(h _ _).symm
 .cases ht
def BR{f:Nat}{g:Aa->Aa->Aa->IT}(h:∀a0 a1 a2,AH cx f [a0,a1,a2]=g a0 a1 a2):Mi f (D6 g):=by
 intro l t ht;unfold D6 at ht;split at ht;.cases ht;exact(h _ _ _).symm
 .cases ht
def Mj{f:Nat}{g:Aa->Aa->Aa->Aa->IT}(h:∀a0 a1 a2 a3,AH cx f [a0,a1,a2,a3]=g a0 a1 a2 a3):Mi f (Qs g):=by
 intro l t ht;unfold Qs at ht;split at ht;.cases ht;exact(h _ _ _ _).symm
 .cases ht
def U8{f:Nat}{g:Aa->Aa->Aa->Aa->Aa->IT}(h:∀a0 a1 a2 a3 a4,AH cx f [a0,a1,a2,a3,a4]=g a0 a1 a2 a3 a4):Mi f (Zk g):=by
 intro l t ht;unfold Zk at ht;split at ht;.cases ht;exact(h _ _ _ _ _).symm
 .cases ht
def Z9:List (Nat×U7):=[(16,Bl xN),(18,Bl uR),(20,A7 t20),(23,Bl xO),(26,A7 xP),(27,A7 xQ),(33,A7 uS),(34,Bl xT),(35,Bl xU),(45,A7 uT),(46,A7 t46),(47,O4 xV),(48,A7 xW),(49,Bl xX),(52,A7 xY),(53,Bl t53),(54,A7 xZ),(55,A7 yA),(56,Bl yB),(58,Bl uU),(59,A7 uV),(60,A7 uW),(61,A7 uX),(62,A7 uY),(63,A7 uZ),(64,A7 u0),(65,A7 u5),(66,A7 u6),(67,Bl yC),(68,Bl yD),(69,Bl yE),(70,A7 t70),(71,O4 yF),(86,Bl yG),(87,D6 yH),(88,Bl yI),(89,O4 yJ),(90,Bl yK),(91,A7 yL),(92,O4 yM),(93,A7 yN),(95,O4 yO),(96,A7 yP),(97,A7 yQ),(99,Bl yR),(100,D6 jY),(101,A7 jZ),(102,Zk j0),(103,Qs j1),(104,Bl j2),(105,A7 j3),(106,A7 j6),(107,Bl j7),(108,A7 j8),(109,A7 t109),(110,D6 j9),(111,A7 kC),(112,Bl kD),(113,Bl kE),(114,Bl kF),(115,D6 kG),(116,A7 kH),(117,Bl kI),(118,A7 kJ),(119,Bl kK),(120,Bl kL),(121,Bl kM),(124,D6 kN),(125,A7 kO),(126,Bl kP),(127,A7 t127),(128,D6 kQ),(129,Qs kR),(138,A7 kS),(139,A7 kT),(140,D6 kU),(141,Qs kW),(142,D6 kX),(143,Bl kY),(144,Bl kZ),(145,Bl k5),(146,Bl t146),(147,Bl k6),(148,Bl t148),(149,Bl k7),(150,Bl k8),(151,Bl k9),(152,Bl lA),(153,Bl lB),(154,Bl lC),(155,Bl lD),(156,Bl lE),(157,Bl lF),(158,Bl lG),(159,Bl lH),(160,Bl lI),(161,Bl lJ),(162,Bl lK),(163,Bl lL),(164,Bl t164),(165,A7 lM),(166,Bl lN),(167,Bl lO),(168,Bl lP),(169,Bl lQ),(170,Bl lR),(171,Bl lS),(172,Bl lT),(173,Bl lU),(174,Bl lV),(175,Bl lW),(176,A7 lX),(177,A7 lY),(178,A7 lZ),(179,A7 eF),(182,A7 l8),(183,Bl eG),(184,A7 l9),(185,D6 mA),(187,A7 mB),(188,A7 mC),(190,A7 mD),(191,A7 mE),(192,A7 mF),(193,A7 eH),(194,A7 mG),(195,D6 mH),(196,D6 mI),(197,Bl mJ),(198,D6 mK),(199,A7 mL),(200,Bl mM),(201,A7 mN),(202,A7 mO),(203,D6 mP),(204,Bl mQ),(205,A7 mR),(206,A7 mS),(207,Bl mT),(208,D6 mU),(209,D6 mV),(210,Qs mW),(211,A7 mX),(212,D6 mY),(213,Bl mZ),(214,A7 m0),(215,A7 m6),(216,A7 m7),(217,A7 m8),(218,D6 m9),(219,A7 nA),(220,Bl nB),(221,Zk nC),(222,A7 nD),(224,Bl nE),(225,A7 nF),(226,A7 nG),(227,Bl eI),(228,A7 nH),(229,Bl nI),(230,Bl nJ),(231,A7 nK),(232,D6 nL),(233,A7 nM),(234,Bl nN),(235,A7 nO),(236,A7 nQ),(237,A7 nR),(238,A7 nS),(239,A7 nT),(240,D6 nU),(241,A7 eJ),(242,A7 nV),(243,Bl eK),(244,A7 nW),(245,A7 eL),(250,Bl eM),(251,A7 eN),(253,D6 nX),(256,Bl nY),(257,A7 nZ),(258,A7 n0),(259,A7 n7),(260,Bl n8),(261,Bl eO),(262,D6 n9),(263,A7 oA),(264,O4 oB),(265,A7 oC),(266,A7 oD),(267,Bl oE),(268,A7 oF),(269,A7 oG),(270,Bl oH),(271,D6 oI),(272,A7 oJ),(273,D6 oK),(274,A7 oL),(275,Qs oM),(276,D6 oN),(277,D6 oO),(278,Bl oP),(279,Bl oQ),(280,A7 oR),(281,Bl oS),(282,Bl oT),(283,A7 oU),(284,A7 oV),(285,A7 oW),(286,Bl eP),(287,A7 oX),(288,A7 eQ),(296,A7 eR),(297,D6 eS),(300,Bl oY),(301,A7 oZ),(302,A7 o3),(303,A7 o4),(304,Bl o5),(305,D6 o6),(306,D6 o7),(307,D6 o8),(308,D6 o9),(309,A7 pA),(310,A7 pB),(321,A7 pC),(322,Bl pD),(323,Bl pE),(324,A7 pF),(325,Bl pG),(100069,Bl RF),(100120,Bl RG),(200068,Bl RH)]
def U9:List (Nat×U7)->Prop
 |[]=>True
 |(f,g)::l=>Mi f g/\U9 l
def Va:U9 Z9:=
 ⟨Aq cW,Aq UP,Al cX,Aq cY,Al cZ,Al dA,Al UQ,Aq dD,Aq dE,Al UR,Al dG,Kn dH,Al dI,Aq dJ,Al dK,Aq dL,Al dM,Al dN,Aq dO,Aq US,Al UT,Al UU,Al UW,Al UX,Al UY,Al UZ,Al U4,Al U5,Aq dP,Aq dQ,Aq dR,Al Qo,Kn dS,Aq dT,BR dU,Aq dV,Kn dW,Aq dX,Al dY,Kn dZ,Al eA,Kn eB,Al eC,Al eD,Aq eE,BR Wq,Al Wr,U8 Ws,Mj Wt,Aq Wu,Al Wv,Al Ww,Aq Wx,Al Wy,Al Wz,BR WA,Al WB,Aq WC,Aq WD,Aq WE,BR WG,Al WH,Aq WI,Al WJ,Aq WK,Aq WL,Aq WM,BR WN,Al WO,Aq WQ,Al WR,BR WS,Mj WT,Al WU,Al WV,BR WW,Mj WX,BR WY,Aq WZ,Aq W0,Aq W8,Aq W9,Aq Xa,Aq Xb,Aq Xc,Aq Xd,Aq Xe,Aq Xf,Aq Xg,Aq Xh,Aq Xi,Aq Xj,Aq Xk,Aq Xl,Aq Xm,Aq Xn,Aq Xo,Aq Xp,Aq Xq,Aq Xr,Al Xs,Aq Xt,Aq Xu,Aq Xv,Aq Xw,Aq Xx,Aq Xy,Aq Xz,Aq XA,Aq XB,Aq XC,Al XD,Al XE,Al XF,Al Rr,Al XG,Aq Rs,Al XH,BR XI,Al XJ,Al XK,Al XL,Al XM,Al XN,Al Rt,Al XO,BR XP,BR XQ,Aq XR,BR XS,Al XT,Aq XU,Al XV,Al XW,BR XX,Aq XY,Al XZ,Al X0,Aq X1,BR X2,BR X3,Mj X4,Al X5,BR X6,Aq X7,Al X8,Al X9,Al Ya,Al Yb,BR Yc,Al Yd,Aq Ye,U8 Yf,Al Yg,Aq Yh,Al Yi,Al Yj,Aq Ru,Al Yk,Aq Yl,Aq Ym,Al Yn,BR Yo,Al Yp,Aq Yq,Al Yr,Al Ys,Al Yt,Al Yu,Al Yv,BR Yw,Al Rv,Al Yx,Aq Rw,Al Yy,Al Rx,Aq Ry,Al Rz,BR Yz,Aq YA,Al YB,Al YC,Al YD,Aq YE,Aq RA,BR YF,Al YG,Kn YH,Al YI,Al YJ,Aq YK,Al YL,Al YM,Aq YN,BR YO,Al YP,BR YQ,Al YR,Mj YS,BR YT,BR YU,Aq YV,Aq YW,Al YX,Aq YY,Aq YZ,Al Y0,Al Y1,Al Y2,Aq RB,Al Y3,Al RC,Al RD,BR RE,Aq Y4,Al Y5,Al Y6,Al Y7,Aq Y8,BR Y9,BR Za,BR Zb,BR Zc,Al Zd,Al Ze,Al Zf,Aq Zg,Aq Zh,Al Zi,Aq Zj,Aq Qp,Aq Qq,Aq Qr,trivial⟩
def Zl(f:Nat):List (Nat×U7)->List Aa->Option IT
 |[],_=>none
 |(k,g)::l,args=>if Nat.beq k f then g args else Zl f l args
def RI{f:Nat}{args:List Aa}{t:IT}:∀{l:List (Nat×U7)},U9 l->Zl f l args=some t->t=AH cx f args
 |[],_,h=>by cases h
 |(k,g)::l,ha,h=>by
  simp only[Zl] at h;split at h;.rename_i hk;have hk:k=f:=Gc hk;subst hk;exact ha.1 _ _ h
  .exact RI ha.2 h
noncomputable def gB(f:FuncId)(args:List Aa):IT:=match Zl f Z9 args with
 |some t=>t
 |none=>AH cx f args
def Ko:gB=AH cx:=by
 funext f args;unfold gB;split;.rename_i t h;exact RI Va h
 .rfl
def Mk:Option Ep->Bool
 |some (.ret,[.bool true],_)=>true
 |_=>false
def MC{r:Option Ep}(h:Mk r=true):∃h',r=some (.ret,[.bool true],h'):=by
 unfold Mk at h;split at h;.exact⟨_,rfl⟩
 .cases h
end Go.Am
end
section
namespace Go.Am
open Go
set_option maxRecDepth 100000
section
def u7(s:Ag):Mc cx 243 [.str s] (.bool (decide (s∈GF))):=by rw[We,Rw];rw[show eK (.str s)=sw s (.ret .ret [tt]) (.ret .ret [ff]) GF from rfl,UC];exact⟨λh=>by simp[h],λh=>by simp[h]⟩
section
variable{Q:FB}{h:Ab}{k:Aa->IT}{s:Ag}
@[simp] theorem pH:W cx (.AW 243 [.str s] k) Q h↔W cx (k (.bool (decide (s∈GF)))) Q h:=(u7 s).AW rfl rfl
end
def u9(s:Ag):Mc cx 261 [.str s] (.bool (decide (s∈Kl\/s∈GF))):=by rw[We,RA];rw[show eO (.str s)=sw s (.ret .ret [tt]) (.AW 243 [.str s] λv=> .ret .ret [v]) Kl from rfl,UC];exact⟨λh=>by simp[h],λh=>by simp[h]⟩
def vA(n:Int)(s:Ag):Mc cx 245 [I n,.str s] (.bool (decide (n=3/\s∈G9))):=by
 rw[We,Rx,eL];by_cases h:n=3;.simp[h,G9];by_cases h1:s=[109,105]<;>by_cases h2:s=[109,110]<;>by_cases h3:s=[109,111]<;>by_cases h4:s=[109,115]<;>simp[h1,h2,h3,h4]
 .simp[h]
section
variable{Q:FB}{h:Ab}{k:Aa->IT}{s:Ag}{n:Int}
@[simp] theorem pI:W cx (.AW 261 [.str s] k) Q h↔W cx (k (.bool (decide (s∈Kl\/s∈GF)))) Q h:=(u9 s).AW rfl rfl
@[simp] theorem pJ:W cx (.AW 245 [I n,.str s] k) Q h↔W cx (k (.bool (decide (n=3/\s∈G9)))) Q h:=(vA n s).AW rfl rfl
end
def vB(n:Int)(s:Ag):Mc cx 179 [I n,.str s] (.bool (DW n s)):=by
 rw[We,Rr];rw[show eF (I n) (.str s)= .op (.int .eql) [I n,I 3] λv=> .Ah v (.op (.str .eql) [.str s,S kx] λv=> .Ah v (.ret .ret [tt]) (.AW 245 [I n,.str s] λv=> .ret .ret [v]))
  (.op (.int .eql) [I n,I 2] λv=> .Ah v (sw s (.ret .ret [tt]) (.op (.str .eql) [.str s,S mf] λv=> .ret .ret [v]) [nu,lf])
  (.op (.int .eql) [I n,I 1] λv=> .Ah v (sw s (.ret .ret [tt]) (.ret .ret [ff]) JI) (.ret .ret [ff]))) from rfl]
 by_cases h3:n=3;.by_cases h:s=kx<;>simp[h3,DW,h]
 .by_cases h2:n=2;.by_cases ha:s=nu<;>by_cases hb:s=lf<;>simp[h2,UC,DW,Nb,ha,hb]
  .by_cases h1:n=1;.by_cases h:s∈JI<;>simp[h1,UC,DW,h]
   .simp[h3,h2,h1,DW]
section
variable{Q:FB}{h:Ab}{k:Aa->IT}{s:Ag}{n:Int}
@[simp] theorem pK:W cx (.AW 179 [I n,.str s] k) Q h↔W cx (k (.bool (DW n s))) Q h:=(vB n s).AW rfl rfl
end
end
section
end
section
section
variable{Q:FB}{h:Ab}{k:Aa->IT}{s:Ag}
end
section
variable{Q:FB}{h:Ab}{k:Aa->IT}{s:Ag}{n:Int}
end
end
section
end
section
end
section
end
section
section
variable{U:Type}{f:U->List Aa}{l l2:List U}{v v2:Aa}{z b:Nat}{k k2:IntKind}
end
section
variable{h:Ab}{p:Aa}{l:List Item}
def vC(hs:uE h p l):Fu cx 18 [p] h (I (l.length:Int)) h:=by
 rw[BJ,UP,uR];rcases hs with⟨rfl,rfl⟩|⟨id,o,v,rfl,hc,hv⟩
 .simp
 .simp only[Er,Pe,hc.load,CE,hv.Wh]
def vD{v:Aa}{ws:List Ag}(hv:Mf ws v)(hn:ws.length<=1000000000)(s:Ag)(h:Ab):Fu cx 288 [v,.str s] h (I (E3 (λw=>decide (s=w)) 0 ws)) h:=by
 rw[BJ,RC,eQ];have hv:CY 1 (ws.map FJ) v:=hv;simp only[Er,hv.Wh];refine Ic (λn:Nat=>[I 0,I (n:Int)]) (λn h1=>n<=ws.length/\E3 (λw=>decide (s=w)) 0 ws=E3 (λw=>decide (s=w)) n (ws.drop n)/\h1=h) (λn=>ws.length-n) 0 rfl ⟨D0 _,rfl,rfl⟩ ?_;rintro n h1 ⟨jw,ha,rfl⟩;rcases CD n ws.length with hlt|Jk
 .have i1:(n:Int)<(ws.length:Int):=by omega
  rw[Bs hlt,E3] at ha;simp only[Er,i1,IA,Ks,I7,hv.Qk hlt,FJ,G8 (show n<9223372036854775807 by omega)];refine⟨λhe=>?_,λhe=>?_⟩;.rw[ha,if_pos (by simpa using he)]
  .rw[if_neg (by simpa using he)] at ha;exact D5.next (n+1) rfl ⟨hlt,ha,rfl⟩ (by omega)
 .have i1:¬(n:Int)<(ws.length:Int):=by omega
  rw[Bv Jk,E3] at ha;simp only[Er,i1,Iz,Ks,I7,ha]
def vE{v:Aa}{ws:List Ag}(hv:Mf ws v)(hn:ws.length<=1000000000)(s:Ag)(h:Ab):Fu cx 241 [v,.str s] h (.bool (decide (s∈ws))) h:=by rw[BJ,Rv,eJ];simp only[Er,(vD hv hn s h).call,Wj]
end
end
section
section
variable{h:Ab}{p v:Aa}{l:List Item}
end
end
section
section
variable{h:Ab}{p v:Aa}{l:List Item}
end
end
section
section
variable{h:Ab}{p v:Aa}{l:List Item}
section
variable{id o n z:Nat}{v w:Aa}{X Y:Ig}{Ac:List (List Aa)}
end
end
end
section
section
variable{h:Ab}{p v w:Aa}{l:List Item}{ws:List Ag}
end
end
end Go.Am
end
section
end
section
namespace Go.Am
open Go
set_option maxRecDepth 100000
def vF:List Ce->Aa
 |[]=> .slnil
 |x::l=> .sl 3 ((x::l).map Ce.row)
structure PN where
 x:HV
 kv:Aa
 av:Aa
 ok:av=vF x.CZ
def PN.row(p:PN):List Aa:=[I p.x.kind,I p.x.Wm,p.kv,I p.x.SR,I p.x.ED,.str p.x.name,p.av,.str p.x.data,.str p.x.cJ,.str p.x.sys,.bool p.x.UI,I p.x.cont,I p.x.cK]
def PN.JK{p:PN}:p.row.length=13:=rfl
def PN.zero:PN:=⟨{},.slnil,.slnil,rfl⟩
def pN(ps:List PN)(x:Int):PN:=ps.getD (x.toNat-1) PN.zero
def eT(n:Int):List Aa:=[I n]
def Vb(l:List Int)(v:Aa):Prop:=CY 1 (l.map eT) v
def Kp(h:Ab)(kv:Aa)(l:List Int):Prop:=(kv= .slnil/\l=[])\/∃id cs,kv= .EG id 0 l.length 1/\h[id]?=some (.cells (l.map (Aa.int .i64)++cs))
def eU:Aa->Option Nat
 | .EG id _ _ _=>some id
 |_=>none
def RJ(h:Ab)(m:Option Nat)(f:Int->Int):Prop:=(m=none/\∀k,f k=0)\/∃(id:Nat) (l:List (Int×Int)),m=some id/\h[id]?=some (.map (l.map λx:Int×Int=>(I x.1,I x.2)))/\∀k,(l.find? λx=>decide (k=x.1)).map (·.2)=if f k=0 then none else some (f k)
def Vq(a n:Nat)(m:Option Nat)(ps:List PN):List Nat:=a::n::(m.toList++ps.filterMap λp=>eU p.kv)
structure PA(h:Ab)(a n:Nat)(m:Option Nat)(ps:List PN)(A:Ar):Prop where
 e:A.n=ps.map PN.x
 il:A.i.length=A.n.length
 ha:h[a]?=some (.cells [.EG n 0 ps.length 13,.map m])
 hn:h[n]?=some (.cells (ps.map PN.row).flatten)
 ks:∀p∈ps,Kp h p.kv p.x.Co
 nd:(Vq a n m ps).Nodup
 mp:RJ h m A.inr
section
variable{h h' h'' t:Ab}{F F' F'':Nat->Prop}
end
def PW(h:Ab)(F:Nat->Prop)(a:Nat)(A:Ar):Prop:=∃n m ps,PA h a n m ps A/\∀i,F i↔i∈Vq a n m ps
section
variable{h h':Ab}{a n:Nat}{m:Option Nat}{ps:List PN}{A:Ar}{x:Int}{F:Nat->Prop}
def Kp.JL{kv:Aa}{l:List Int}(hk:Kp h kv l)(hf:∀id,eU kv=some id->h'[id]?=h[id]?):Kp h' kv l:=by
 rcases hk with⟨rfl,rfl⟩|⟨id,cs,rfl,hc⟩
 .exact .inl ⟨rfl,rfl⟩
 .exact .inr ⟨id,cs,rfl,by rw[hf id rfl];exact hc⟩
def RJ.JL{f:Int->Int}(hk:RJ h m f)(hf:∀id,m=some id->h'[id]?=h[id]?):RJ h' m f:=by
 rcases hk with h1|⟨id,l,rfl,hc,h2⟩
 .exact .inl h1
 .exact .inr ⟨id,l,rfl,by rw[hf id rfl];exact hc,h2⟩
def O5{p:PN}{id:Nat}(hp:p∈ps)(hk:eU p.kv=some id):id∈Vq a n m ps:=by unfold Vq;simp only[AP,Aj];exact .inr (.inr (.inr (B6.2 ⟨p,hp,hk⟩)))
def PA.JL(w:PA h a n m ps A)(hf:∀i∈Vq a n m ps,h'[i]?=h[i]?):PA h' a n m ps A:=
 ⟨w.e,w.il,by rw[hf a (by simp[Vq])];exact w.ha,by rw[hf n (by simp[Vq])];exact w.hn,λp hp=>(w.ks p hp).JL λid hk=>hf id (O5 hp hk),w.nd,w.mp.JL λid hm=>hf id (by simp[Vq,hm])⟩
def PA.lt(w:PA h a n m ps A):∀i∈Vq a n m ps,i<h.length:=by
 intro i hi;unfold Vq at hi;simp only[AP,Aj,B6] at hi;rcases hi with rfl|rfl|hi|⟨p,hp,hk⟩
 .exact(Af.1 w.ha).1
 .exact(Af.1 w.hn).1
 .rcases w.mp with⟨rfl,_⟩|⟨id,l,rfl,hc,_⟩
  .simp at hi
  .simp at hi;subst hi;exact(Af.1 hc).1
 .rcases w.ks p hp with⟨e,_⟩|⟨id,cs,e,hc⟩
  .rw[e] at hk;cases hk
  .rw[e] at hk;cases hk;exact(Af.1 hc).1
def PW.JL(w:PW h F a A)(hf:∀i,F i->h'[i]?=h[i]?):PW h' F a A:=by obtain⟨n,m,ps,w,e⟩:=w;exact⟨n,m,ps,w.JL λi hi=>hf i ((e i).2 hi),e⟩
def PW.lt(w:PW h F a A){i:Nat}(hi:F i):i<h.length:=by obtain⟨n,m,ps,w,e⟩:=w;exact w.lt i ((e i).1 hi)
def PA.vG(w:PA h a n m ps A):A.n.length=ps.length:=by rw[w.e,Ds]
def PA.at(w:PA h a n m ps A)(hx:A.has x):x.toNat-1<ps.length/\((x.toNat-1:Nat):Int)=x-1:=by have:=w.vG;unfold Ar.has at hx;omega
def PA.pn(w:PA h a n m ps A)(hx:A.has x):ps[x.toNat-1]?=some (pN ps x)/\(pN ps x).x=A.nd x/\pN ps x∈ps:=by
 have h1:=(w.at hx).1;have h2:ps[x.toNat-1]?=some ps[x.toNat-1]:=Ax h1;have h3:pN ps x=ps[x.toNat-1]:=by unfold pN;rw[Di,h2];rfl
 refine⟨by rw[h3];exact h2,?_,by rw[h3];exact Gp _⟩;unfold Ar.nd;rw[if_pos hx,w.e,h3,Di,Cp,h2];rfl
def pL(l:List PN):∀r∈l.map PN.row,r.length=13:=UB (f:=PN.row) (λ_=>PN.JK) l
def nP(n:Nat)(x:Int):Nat:=(x.toNat-1)*13
def PA.row(w:PA h a n m ps A)(hx:A.has x):Ck h (some 13) (Pt n (nP n x))=some (.agg (pN ps x).row):=by
 have h1:((ps.map PN.row).flatten.drop (nP n x)).take 13=(pN ps x).row/\nP n x+13<=(ps.map PN.row).flatten.length:=by unfold nP;have hlt:=(w.at hx).1;have hg:=(w.pn hx).1;rw[M9 (pL ps),O1 (pL ps),Ds];refine⟨?_,by omega⟩;rw[<-List.map_drop,Bs hlt,Be,BT];rw[Ax hlt,AG] at hg;rw[hg];exact SY PN.JK
 simp only[Ck,w.hn,HS];rw[if_pos h1.2,h1.1]
def Kp.cells{kv:Aa}{l:List Int}(hk:Kp h kv l):kv.cells=[kv]:=by rcases hk with⟨rfl,rfl⟩|⟨id,cs,rfl,hc⟩<;>rfl
def RK(h:Ab)(v:Aa)(l:List Ce):Prop:=(v= .slnil/\l=[])\/∃id,v= .EG id 0 l.length 3/\h[id]?=some (.cells (l.map Ce.row).flatten)/\id<h.length
def RK.cells{v:Aa}{l:List Ce}(hv:RK h v l):v.cells=[v]:=by rcases hv with⟨rfl,_⟩|⟨id,rfl,_,_⟩<;>rfl
end
end Go.Am
end
section
end
section
namespace Go.Am
open Go
set_option maxRecDepth 100000
section
variable{h h':Ab}{a n:Nat}{m:Option Nat}{ps:List PN}{A:Ar}{x:Int}{F:Nat->Prop}
def uQ.set{y:HV}(lm:uQ A)(h2:y.CZ.length<=1000000000)(h3:y.data.length<=1000000000):uQ (A.set x y):=by
 refine⟨by rw[O3];exact lm.n,λx=>?_,λx=>?_⟩<;>rw[cL]<;>split;.exact h2
 .exact lm.at_ x
 .exact h3
 .exact lm.data x
end
end Go.Am
end
section
end
section
end
section
end
section
namespace Go.Am
open Go
set_option maxRecDepth 100000
def N1(a:Nat)(b:BS)(o c t:Aa):List Aa:=[Pt a 0,I b.SR,o,c,I b.mode,I b.uL,t,I b.head,I b.jU,.bool b.jV,I b.ctx.node,I b.ctx.ED,.str b.ctx.name,.bool b.ctx.Z4,.bool b.fs,.bool b.UM,.str b.uM,.bool b.skip,I b.sw,.bool b.stop]
structure BX(h:Ab)(bi a:Nat)(o c t:Aa)(G:Nat->Prop)(b:BS):Prop where
 hb:h[bi]?=some (.cells (N1 a b o c t))
 o:Ie b.Ja o
 t:Vb b.tm t
 w:PW h G a b.a
 nb:¬G bi
section
variable{h:Ab}{bi a:Nat}{o c t:Aa}{G F:Nat->Prop}{b:BS}{x:Int}{m:Nat}
def BX.lt(w:BX h bi a o c t G b):bi<h.length:=(Af.1 w.hb).1
def BX.JL{h':Ab}(w:BX h bi a o c t G b)(hf:∀i,i=bi\/G i->h'[i]?=h[i]?):BX h' bi a o c t G b:=
 ⟨by rw[hf bi (.inl rfl)];exact w.hb,w.o,w.t,w.w.JL λi hi=>hf i (.inr hi),w.nb⟩
end
end Go.Am
end
section
end
section
namespace Go.Am
open Go
set_option maxRecDepth 100000
def A5(bi:Nat)(G:Nat->Prop):Nat->Prop:=λi=>i=bi\/G i
section
variable{h h':Ab}{bi a:Nat}{o c t:Aa}{G G' F:Nat->Prop}{b:BS}{x:Int}{m:Nat}
variable{nm:Ag}{av:Aa}{l:List Ce}{r:List Aa}{sp p:Int}
end
section
variable{h h':Ab}{bi a:Nat}{o c t:Aa}{G G' F:Nat->Prop}{b:BS}{x:Int}{m:Nat}
def BX.put{k:Nat}{v o' c' t':Aa}{b':BS}(w:BX h bi a o c t G b)(e:(N1 a b o c t).set k v=N1 a b' o' c' t')(ea:b'.a=b.a)(ho:Ie b'.Ja o')(ht:Vb b'.tm t'):BX (Am.put h bi k v) bi a o' c' t' G b':=
 ⟨by rw[Ql w.hb,e];exact AD w.lt,ho,ht,by rw[ea];exact w.w.JL λi hi=>SL λe=>w.nb (e▸hi),w.nb⟩
def BX.st{k:Nat}{v v0:Aa}(w:BX h bi a o c t G b)(hk:(N1 a b o c t)[k]?=some v0)(hv:v.cells=[v]):Dy h 1 (Pt bi k) v=some (Am.put h bi k v):=At.store (v:=v0) ⟨_,w.hb,hk⟩ hv
variable{nm:Ag}{av:Aa}{l:List Ce}{r:List Aa}{sp p:Int}
end
end Go.Am
end
section
end
section
end
section
end
section
end
section
end
section
end
section
namespace Go.Am
open Go
set_option maxRecDepth 100000
def JM{U:Type}(enc:U->List Aa)(BI:U->Ab->Prop)(Z:U->Nat)(i:Nat)(Hh:U->Ab->Prop)(s:U):FB:=
 λx vs h1=>(x= .normal/\∃s',vs=enc s'/\BI s' h1/\Z s'<Z s)\/(x= .exit i/\∃s',vs=enc s'/\Hh s' h1)
def JM.next{U:Type}{enc:U->List Aa}{BI Hh:U->Ab->Prop}{Z:U->Nat}{i:Nat}{s:U}{vs:List Aa}{h:Ab}(s':U)(e:vs=enc s')(hi:BI s' h)(hl:Z s'<Z s):JM enc BI Z i Hh s .normal vs h:= .inl ⟨rfl,s',e,hi,hl⟩
def JM.Hh{U:Type}{enc:U->List Aa}{BI Hh:U->Ab->Prop}{Z:U->Nat}{i:Nat}{s:U}{vs:List Aa}{h:Ab}(s':U)(e:vs=enc s')(hi:Hh s' h):JM enc BI Z i Hh s (.exit i) vs h:= .inr ⟨rfl,s',e,hi⟩
def Ha{C:CB}{Q:FB}{h:Ab}{U:Type}{key i:Nat}{init:List Aa}{body:List Aa->IT}{k:C7->List Aa->IT}(enc:U->List Aa)(BI:U->Ab->Prop)(Z:U->Nat)(Hh:U->Ab->Prop)(s0:U)(h0:init=enc s0)(hi:BI s0 h)
  (round:∀s h,BI s h->W C (body (enc s)) (JM enc BI Z i Hh s) h) (hk:∀s h,Hh s h->W C (k (.exit i) (enc s)) Q h):W C (.loop key init body k) Q h:=by
 refine Ic enc BI Z s0 h0 hi λs h hs=>W.mono (round s h hs) ?_;rintro x vs h1 (hn|⟨rfl,s',rfl,hf⟩);.exact .inl hn
 .exact .inr ⟨by simp,hk s' h1 hf⟩
section
variable{h h':Ab}{bi a:Nat}{o c t:Aa}{G G' F:Nat->Prop}{b b':BS}{x:Int}{m:Nat}
variable{nm:Ag}{av:Aa}{l:List Ce}{r:List Aa}{sp p:Int}
end
end Go.Am
end
section
end
section
end
section
end
section
end
section
end
section
namespace Go.Am
open Go
set_option maxRecDepth 100000
structure gC where
 k:Int
 name:Ag
 CZ:List Ce
 ED:Int
 a:Int
 b:Bool
 s:Ag
 r:Int
 n:Int
section
variable{b:BS}{q:gC}{m j:Nat}
end
end Go.Am
end
section
end
section
end
section
namespace Go.Am
open Go
set_option maxRecDepth 100000
structure Vc where
 jV:Bool
 ED:Int
 name:Ag
 CZ:List Ce
 UI:Bool
 jU:Bool
section
variable{h h':Ab}{bi a:Nat}{o c t:Aa}{G G' F:Nat->Prop}{b:BS}{x:Int}{m j:Nat}{q:gC}
variable{nm:Ag}{av:Aa}{l:List Ce}{r:List Aa}{sp p:Int}
end
end Go.Am
end
section
end
section
namespace Go.Am
open Go
set_option maxRecDepth 100000
section
variable{h h':Ab}{bi wi:Nat}{b:BS}{F F2:Nat->Prop}{q:gC}{av:Aa}{j:Nat}
end
structure QO where
 q:gC
 v:Aa
 ok:Ea q.CZ v
end Go.Am
end
section
end
