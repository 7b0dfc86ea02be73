/- Lemmas -/
import Derived.Test.YtkaolmlpcamojaaGreatDoorH20
import Derived.Test.YtkaolmlpcamojaaGreatDoorH21
import Derived.Test.YtkaolmlpcamojaaGreatDoorH22
import Derived.Test.YtkaolmlpcamojaaGreatDoorH23
import Derived.Test.YtkaolmlpcamojaaGreatDoorH18
set_option linter.all false
set_option maxHeartbeats 0
set_option maxRecDepth 100000
section
namespace Go.Am
open Go
abbrev qR:=List Aa->Option IT
def aEi(g:IT):qR:=λl=>match l with
 |[]=>some (g)
 |_=>none
def aEj(g:Aa->IT):qR:=λl=>match l with
 |[a0]=>some (g a0)
 |_=>none
def aEk(g:Aa->Aa->IT):qR:=λl=>match l with
 |[a0,a1]=>some (g a0 a1)
 |_=>none
def aEl(g:Aa->Aa->Aa->IT):qR:=λl=>match l with
 |[a0,a1,a2]=>some (g a0 a1 a2)
 |_=>none
def aEm(g:Aa->Aa->Aa->Aa->IT):qR:=λl=>match l with
 |[a0,a1,a2,a3]=>some (g a0 a1 a2 a3)
 |_=>none
def aEn(g:Aa->Aa->Aa->Aa->Aa->IT):qR:=λl=>match l with
 |[a0,a1,a2,a3,a4]=>some (g a0 a1 a2 a3 a4)
 |_=>none
def Y1(f:Nat)(g:qR):Prop:=∀l t,g l=some t->t=Ca cx f l
def Uy{f:Nat}{g:IT}(h:Ca cx f []=g):Y1 f (aEi g):=by
 intro l t ht;unfold aEi at ht;split at ht;.cases ht;exact(h).symm
 .cases ht
def BO{f:Nat}{g:Aa->IT}(h:∀a0,Ca cx f [a0]=g a0):Y1 f (aEj g):=by
 intro l t ht;unfold aEj at ht;split at ht;.cases ht;exact(h _).symm
 .cases ht
def BF{f:Nat}{g:Aa->Aa->IT}(h:∀a0 a1,Ca cx f [a0,a1]=g a0 a1):Y1 f (aEk g):=by
 intro l t ht;unfold aEk at ht;split at ht;.cases ht;exact(h _ _).symm
 .cases ht
def EJ{f:Nat}{g:Aa->Aa->Aa->IT}(h:∀a0 a1 a2,Ca cx f [a0,a1,a2]=g a0 a1 a2):Y1 f (aEl g):=by
 intro l t ht;unfold aEl at ht;split at ht;.cases ht;exact(h _ _ _).symm
 .cases ht
def Y2{f:Nat}{g:Aa->Aa->Aa->Aa->IT}(h:∀a0 a1 a2 a3,Ca cx f [a0,a1,a2,a3]=g a0 a1 a2 a3):Y1 f (aEm g):=by
 intro l t ht;unfold aEm at ht;split at ht;.cases ht;exact(h _ _ _ _).symm
 .cases ht
def yt{f:Nat}{g:Aa->Aa->Aa->Aa->Aa->IT}(h:∀a0 a1 a2 a3 a4,Ca cx f [a0,a1,a2,a3,a4]=g a0 a1 a2 a3 a4):Y1 f (aEn g):=by
 intro l t ht;unfold aEn at ht;split at ht;.cases ht;exact(h _ _ _ _ _).symm
 .cases ht
def tb0{f:Nat}{g:IT}(h:Ca cx f []=g):Nat×qR:=(f,aEi g)
def GV{f:Nat}{g:Aa->IT}(h:∀a0,Ca cx f [a0]=g a0):Nat×qR:=(f,aEj g)
def Ga{f:Nat}{g:Aa->Aa->IT}(h:∀a0 a1,Ca cx f [a0,a1]=g a0 a1):Nat×qR:=(f,aEk g)
def SB{f:Nat}{g:Aa->Aa->Aa->IT}(h:∀a0 a1 a2,Ca cx f [a0,a1,a2]=g a0 a1 a2):Nat×qR:=(f,aEl g)
def tb4{f:Nat}{g:Aa->Aa->Aa->Aa->IT}(h:∀a0 a1 a2 a3,Ca cx f [a0,a1,a2,a3]=g a0 a1 a2 a3):Nat×qR:=(f,aEm g)
def tb5{f:Nat}{g:Aa->Aa->Aa->Aa->Aa->IT}(h:∀a0 a1 a2 a3 a4,Ca cx f [a0,a1,a2,a3,a4]=g a0 a1 a2 a3 a4):Nat×qR:=(f,aEn g)
def aBP:List (Nat×qR):=[GV aBO,Ga x_,GV ya,GV yb,GV yc,GV wA,Ga yf,Ga yg,Ga yh,Ga NI,Ga GH,Ga L7,Ga KB,Ga wB,Ga yi,Ga yj,tb0 yk,Ga yl,GV ym,Ga wC,tb0 wD,Ga gL,Ga wF,Ga wG,SB wH,Ga wI,Ga Ux,SB gN,SB wJ,GV gO,GV wK,Ga wL,Ga gP,GV wM,SB gQ,GV YX,GV wO,GV wQ,GV YY,GV wR,Ga wS,tb4 gR,Ga gT,tb0 bb,GV gU,SB bc,Ga gV,tb5 bd,tb4 Mp,GV be,Ga gW,Ga gX,GV gY,Ga WR,Ga gZ,GV QZ,SB hC,GV bg,tb0 hZ,tb0 bh,Ga bj,GV iA,GV bk,GV iD,GV WS,Ga WT,Ga WU,tb4 Q0,Ga iE,SB iF,Ga iG,Ga WV,tb4 WW,Ga iI,Ga WX,Ga iJ,Ga iK,Ga iL,SB iM,SB iN,SB iO,SB iP,Ga iQ,Ga iR,GV Ts,GV iS,GV iT,Ga iU,Ga WY,Ga iV,GV iW,Ga iX,Ga Nr,SB iY,Ga WZ,Ga iZ,SB i5,Ga i6,GV i7,SB jA,GV jB,GV jC,SB jD,GV jE,Ga jF,Ga jG,Ga jH,GV jI,tb5 W0,Ga W8,GV W9,Ga jJ,SB jK,Ga jL,Ga Xa,Ga jM,Ga bw,Ga bz,Ga Xb,Ga Xc,SB jN,GV b_,GV jO,GV cf,GV cj,GV cm,GV cq,GV cr,GV ct,GV cu,GV cw,GV cy,GV cz,GV c_,GV da,GV O5,GV db,GV dd,GV de,GV df,GV dg,GV dh,GV di,GV dj,GV dk,GV dr,GV du,GV dv,GV dw,GV dx,GV dy,GV jP,Ga jQ,Ga Xd,Ga jR,SB jS,Ga Tt,GV jT,Ga jU,Ga jV,Ga jW,GV jX,GV jY,Ga Xe,SB jZ,Ga j0,Ga j1,GV j2,Ga j3,Ga j6,Ga j7,Ga j8,Ga j9,SB kC,SB kD,Ga kE,tb4 kF,SB kG,SB kH,tb0 kI,Ga kJ,GV kK,Ga kL,GV kM,GV kN,GV kO,Ga kP,GV kQ,GV kR,Ga Tu,GV Xf,Ga Tv,SB kS,GV kT,Ga eo,GV kU,Ga kW,Ga kX,GV et,GV ey,Ga ez,SB e_,Ga kY,GV kZ,Ga fc,Ga fg,GV Xg,Ga lA,Ga lB,Ga lC,Ga lD,Ga lE,Ga Xh,GV Tw,SB lF,SB lG,Ga lH,SB Xi,SB Xj,Ga lI,GV lJ,Ga lK,SB Xk,GV lL,Ga lM,GV lN,GV lO,Ga lP,GV lQ,Ga fh,GV YZ,GV O6,GV Y0]
def yu:List (Nat×qR)->Prop
 |[]=>True
 |(f,g)::l=>Y1 f g/\yu l
def yv:yu aBP:=
 ⟨BO aBO,BF x_,BO ya,BO yb,BO yc,BO wA,BF yf,BF yg,BF yh,BF NI,BF GH,BF L7,BF KB,BF wB,BF yi,BF yj,Uy yk,BF yl,BO ym,BF wC,Uy wD,BF gL,BF wF,BF wG,EJ wH,BF wI,BF Ux,EJ gN,EJ wJ,BO gO,BO wK,BF wL,BF gP,BO wM,EJ gQ,BO YX,BO wO,BO wQ,BO YY,BO wR,BF wS,Y2 gR,BF gT,Uy bb,BO gU,EJ bc,BF gV,yt bd,Y2 Mp,BO be,BF gW,BF gX,BO gY,BF WR,BF gZ,BO QZ,EJ hC,BO bg,Uy hZ,Uy bh,BF bj,BO iA,BO bk,BO iD,BO WS,BF WT,BF WU,Y2 Q0,BF iE,EJ iF,BF iG,BF WV,Y2 WW,BF iI,BF WX,BF iJ,BF iK,BF iL,EJ iM,EJ iN,EJ iO,EJ iP,BF iQ,BF iR,BO Ts,BO iS,BO iT,BF iU,BF WY,BF iV,BO iW,BF iX,BF Nr,EJ iY,BF WZ,BF iZ,EJ i5,BF i6,BO i7,EJ jA,BO jB,BO jC,EJ jD,BO jE,BF jF,BF jG,BF jH,BO jI,yt W0,BF W8,BO W9,BF jJ,EJ jK,BF jL,BF Xa,BF jM,BF bw,BF bz,BF Xb,BF Xc,EJ jN,BO b_,BO jO,BO cf,BO cj,BO cm,BO cq,BO cr,BO ct,BO cu,BO cw,BO cy,BO cz,BO c_,BO da,BO O5,BO db,BO dd,BO de,BO df,BO dg,BO dh,BO di,BO dj,BO dk,BO dr,BO du,BO dv,BO dw,BO dx,BO dy,BO jP,BF jQ,BF Xd,BF jR,EJ jS,BF Tt,BO jT,BF jU,BF jV,BF jW,BO jX,BO jY,BF Xe,EJ jZ,BF j0,BF j1,BO j2,BF j3,BF j6,BF j7,BF j8,BF j9,EJ kC,EJ kD,BF kE,Y2 kF,EJ kG,EJ kH,Uy kI,BF kJ,BO kK,BF kL,BO kM,BO kN,BO kO,BF kP,BO kQ,BO kR,BF Tu,BO Xf,BF Tv,EJ kS,BO kT,BF eo,BO kU,BF kW,BF kX,BO et,BO ey,BF ez,EJ e_,BF kY,BO kZ,BF fc,BF fg,BO Xg,BF lA,BF lB,BF lC,BF lD,BF lE,BF Xh,BO Tw,EJ lF,EJ lG,BF lH,EJ Xi,EJ Xj,BF lI,BO lJ,BF lK,EJ Xk,BO lL,BF lM,BO lN,BO lO,BF lP,BO lQ,BF fh,BO YZ,BO O6,BO Y0,trivial⟩
def ž(f:Nat):List (Nat×qR)->List Aa->Option IT
 |[],_=>none
 |(k,g)::l,args=>if Nat.beq k f then g args else ž f l args
def fj{f:Nat}{args:List Aa}{t:IT}:∀{l:List (Nat×qR)},yu l->ž f l args=some t->t=Ca cx f args
 |[],_,h=>by cases h
 |(k,g)::l,ha,h=>by
  simp only[ž] at h;split at h;.rename_i hk;have hk:k=f:=Ny hk;subst hk;exact ha.1 _ _ h
  .exact fj ha.2 h
noncomputable def tab(f:FuncId)(args:List Aa):IT:=match ž f aBP args with
 |some t=>t
 |none=>Ca cx f args
def Sk:tab=Ca cx:=by
 funext f args;unfold tab;split;.rename_i t h;exact fj yv h
 .rfl
def Y3:Option Km->Bool
 |some (.ret,[.bool true],_)=>true
 |_=>false
def aK{r:Option Km}(h:Y3 r=true):∃h',r=some (.ret,[.bool true],h'):=by
 unfold Y3 at h;split at h;.exact⟨_,rfl⟩
 .cases h
end Go.Am
end
section
namespace Go.Am
open Go
section
def aMB(s:Aj):JX cx 325 [.str s] (.bool (decide (s∈GF))):=by rw[Ml,j2];rw[show aHr (.str s)=sw s (.ret .ret [tt]) (.ret .ret [ff]) GF from rfl,xb];exact⟨λh=>by simp[h],λh=>by simp[h]⟩
section
variable{Q:HO}{h:Ai}{k:Aa->IT}{s:Aj}
@[simp] theorem yw:W cx (.B6 325 [.str s] k) Q h↔W cx (k (.bool (decide (s∈GF)))) Q h:=(aMB s).B6 rfl rfl
end
def aMC(s:Aj):JX cx 342 [.str s] (.bool (decide (s∈Kf\/s∈GF))):=by rw[Ml,kN];rw[show aHs (.str s)=sw s (.ret .ret [tt]) (.B6 325 [.str s] λv=> .ret .ret [v]) Kf from rfl,xb];exact⟨λh=>by simp[h],λh=>by simp[h]⟩
def aMD(n:Int)(s:Aj):JX cx 329 [I n,.str s] (.bool (decide (n=3/\s∈Ld))):=by
 rw[Ml,j8];by_cases h:n=3;.simp[h,Ld];by_cases h1:s=[109,105]<;>by_cases h2:s=[109,110]<;>by_cases b:s=[109,111]<;>by_cases a:s=[109,115]<;>simp[h1,h2,b,a]
 .simp[h]
section
variable{Q:HO}{h:Ai}{k:Aa->IT}{s:Aj}{n:Int}
@[simp] theorem yx:W cx (.B6 342 [.str s] k) Q h↔W cx (k (.bool (decide (s∈Kf\/s∈GF)))) Q h:=(aMC s).B6 rfl rfl
@[simp] theorem aHx:W cx (.B6 329 [I n,.str s] k) Q h↔W cx (k (.bool (decide (n=3/\s∈Ld)))) Q h:=(aMD n s).B6 rfl rfl
end
def aHy(n:Int)(s:Aj):JX cx 186 [I n,.str s] (.bool (Ez n s)):=by
 rw[Ml,iV];rw[show aHn (I n) (.str s)= .op (.int .eql) [I n,I 3] λv=> .Gm v (.op (.str .eql) [.str s,S aVw] λv=> .Gm v (.ret .ret [tt]) (.B6 329 [I n,.str s] λv=> .ret .ret [v]))
  (.op (.int .eql) [I n,I 2] λv=> .Gm v (sw s (.ret .ret [tt]) (.op (.str .eql) [.str s,S aVs] λv=> .ret .ret [v]) [aWu,aVN])
  (.op (.int .eql) [I n,I 1] λv=> .Gm v (sw s (.ret .ret [tt]) (.ret .ret [ff]) Oe) (.ret .ret [ff]))) from rfl]
 by_cases a:n=3;.by_cases h:s=aVw<;>simp[a,Ez,h]
 .by_cases h2:n=2;.by_cases ha:s=aWu<;>by_cases hb:s=aVN<;>simp[h2,xb,Ez,QQ,ha,hb]
  .by_cases h1:n=1;.by_cases h:s∈Oe<;>simp[h1,xb,Ez,h]
   .simp[a,h2,h1,Ez]
section
variable{Q:HO}{h:Ai}{k:Aa->IT}{s:Aj}{n:Int}
@[simp] theorem Y4:W cx (.B6 186 [I n,.str s] k) Q h↔W cx (k (.bool (Ez n s))) Q h:=(aHy n s).B6 rfl rfl
end
end
section
def f277(s:Aj)(c:UInt8)(hs:s.length<9223372036854775807):JX cx 285 [.str s,.int .u8 (c.toNat:Int)] (.bool (decide (c∈s))):=by
 rw[Ml,Š];refine Bm (λn:Nat=>[.bool false,I (n:Int)]) (λn _=>n<=s.length/\c∉s.take n) (λn=>s.length-n) 0 rfl ⟨AY _,AH⟩ ?_;rintro n h ⟨hn,hc⟩;rcases AR n s.length with hlt|Eh
 .simp only[BE,Fx hlt,BN (Ac:n<9223372036854775807)];refine⟨λ_=>⟨λhe=>?_,λhe=>?_⟩,λh=>absurd (Int.ofNat_lt.2 hlt) h⟩
  .have e:s[n]=c:=by rw[<-VT];exact aBc he
   simp only[Al (show c∈s from e▸AN hlt)]
  .refine AK.next (n+1) rfl ⟨hlt,?_⟩ Ac;rw[AB hlt,Ay,NP];refine⟨hc,λh=>he ?_⟩;rw[BP] at h;rw[<-h]
 .simp only[BE];refine⟨λh=>absurd (Int.ofNat_lt.1 h) Ac,λ_=>?_⟩;rw[AF Eh] at hc;simp[hc]
def aHz(l s:Aj)(hl:l.length<9223372036854775806)(hs:s.length<9223372036854775807):JX cx 139 [.str l,.str s] (.bool (Gd l s)):=by
 rw[Ml,Ĺ];have aME:JX cx 285 [.str s,.int .u8 32] (.bool (decide ((32:UInt8)∈s))):=f277 s 32 hs;simp only[BE,aME.B6 rfl rfl];refine⟨λh=>by simp[Gd,h],λh0=>⟨λh=>by simp[Gd,h],λh1=>?_⟩⟩;refine Bm (λp:Nat×Nat=>[.bool false,I (p.1:Int),I (p.2:Int)])
  (λp _=>(p.1<=p.2/\p.2<=l.length/\(s∈Dr [] l↔s∈Dr ((l.take p.2).drop p.1) (l.drop p.2)))\/(p.2=l.length+1/\s∉Dr [] l)) (λp=>l.length+1 -p.2) (0,0) rfl (.inl ⟨Ag _,AY _,AH⟩) ?_
 rintro⟨a,n⟩ h aEo;rcases aEo with⟨ZO,hn,Y5⟩|⟨hn,ZL⟩
 .simp only at ZO hn Y5;have i1:(n:Int)<=(l.length:Int):=Ac;rcases AR n l.length with hlt|Eh
  .have b:¬(n:Int)=(l.length:Int):=by omega
   simp only[BE,i1,b,AA,Az,forall_const,Aq,Fx hlt,BN (Ac:n<9223372036854775807),MH ZO hn];rw[AG hlt,Qf] at Y5;refine⟨λhe=>?_,λhe=>?_⟩
   .have e:l[n]=32:=by rw[<-VT];exact aBc he
    rw[Af e,AS] at Y5;refine⟨λhw=>?_,λhw=>?_⟩;.have:s∈Dr [] l:=Y5.2 (.inl hw.symm);simp[Gd,h0,h1,this]
    .refine AK.next (n+1,n+1) rfl (.inl ⟨Ag _,hlt,?_⟩) Dv;rw[Y5,Pv];exact⟨λh=>h.resolve_left (λh=>hw h.symm),.inr⟩
   .have e:¬l[n]=32:=λe=>he (by rw[e];rfl);rw[Ad e] at Y5;refine AK.next (a,n+1) rfl (.inl ⟨Dv,hlt,?_⟩) Dv;rw[Y5,Yv ZO hlt]
  .have e:n=l.length:=by omega
   subst e;simp only[BE,GI,AA,Aq,Aw,MH ZO hn,BN (Ac:l.length<9223372036854775807)];rw[AZ (Ag _),Rs] at Y5;rw[BP] at Y5;refine⟨λhw=>?_,λhw=>?_⟩;.have:s∈Dr [] l:=Y5.2 hw.symm;simp[Gd,h0,h1,this]
   .exact AK.next (l.length+1,l.length+1) rfl (.inr ⟨rfl,λh=>hw (Y5.1 h).symm⟩) Dv
 .simp only at hn;subst hn;have i1:¬((l.length+1:Nat):Int)<=(l.length:Int):=Ac;simp only[BE,i1,Az,Aq,Aw];simp[Gd,ZL]
end
section
def HH{Q:HO}{h:Ai}{k:Aa->IT}{l s:Aj}(hl:l.length<9223372036854775806)(hs:s.length<9223372036854775807):W cx (.B6 139 [.str l,.str s] k) Q h↔W cx (k (.bool (Gd l s))) Q h:=(aHz l s hl hs).B6 rfl rfl
section
variable{Q:HO}{h:Ai}{k:Aa->IT}{s:Aj}
def wV(hs:s.length<9223372036854775807):W cx (.B6 139 [.str aVd,.str s] k) Q h↔W cx (k (.bool (decide (s∈Oe)))) Q h:=by rw[HH CA hs,vB]
def lR(hs:s.length<9223372036854775807):W cx (.B6 139 [.str aVS,.str s] k) Q h↔W cx (k (.bool (decide (s∈Ld)))) Q h:=by rw[HH CA hs,fQ]
def VD(hs:s.length<9223372036854775807):W cx (.B6 139 [.str aVz,.str s] k) Q h↔W cx (k (.bool (decide (s∈QQ)))) Q h:=by rw[HH CA hs,pO]
def Y6(hs:s.length<9223372036854775807):W cx (.B6 139 [.str aVq,.str s] k) Q h↔W cx (k (.bool (decide (s∈GF)))) Q h:=by rw[HH CA hs,vC]
def qS(hs:s.length<9223372036854775807):W cx (.B6 139 [.str aVt,.str s] k) Q h↔W cx (k (.bool (decide (s∈Kf)))) Q h:=by rw[HH CA hs,pP]
def nl(hs:s.length<9223372036854775807):W cx (.B6 139 [.str aVM,.str s] k) Q h↔W cx (k (.bool (decide (s∈OW)))) Q h:=by rw[HH CA hs,mb]
def wW(hs:s.length<9223372036854775807):W cx (.B6 139 [.str aVE,.str s] k) Q h↔W cx (k (.bool (decide (s∈MK)))) Q h:=by rw[HH CA hs,vD]
def yy(hs:s.length<9223372036854775807):W cx (.B6 139 [.str aWA,.str s] k) Q h↔W cx (k (.bool (decide (s∈Sb)))) Q h:=by rw[HH CA hs,xc]
def np(hs:s.length<9223372036854775807):W cx (.B6 139 [.str aVp,.str s] k) Q h↔W cx (k (.bool (decide (s∈QR)))) Q h:=by rw[HH CA hs,mc]
end
def aMF(s:Aj)(hs:s.length<9223372036854775807):JX cx 350 [.str s] (.bool (decide (s∈GF))):=by rw[Ml,ū];simp only[BE,Y6 hs]
def aMG(s:Aj)(hs:s.length<9223372036854775807):JX cx 351 [.str s] (.bool (decide (s∈Kf\/s∈GF))):=by rw[Ml,Ŭ];simp only[BE,Y6 hs,qS hs];refine⟨λh=>by simp[h],λh=>by simp[h]⟩
def f169(n:Int)(s:Aj)(hs:s.length<9223372036854775807):JX cx 220 [I n,.str s] (.bool (Ez n s)):=by rw[Ml,Ő];simp only[BE,lR hs,wV hs,VD hs,Ez];refine⟨λh=>by simp[h],λh1=>⟨λh2=>⟨λa=>by simp[h2,a],λa=>by simp[h2,a]⟩,λh2=>⟨λa=>by simp[a],λa=>by simp[h1,h2,a]⟩⟩⟩
section
variable{Q:HO}{h:Ai}{k:Aa->IT}{s:Aj}{n:Int}
def yz(hs:s.length<9223372036854775807):W cx (.B6 350 [.str s] k) Q h↔W cx (k (.bool (decide (s∈GF)))) Q h:=(aMF s hs).B6 rfl rfl
def y_(hs:s.length<9223372036854775807):W cx (.B6 351 [.str s] k) Q h↔W cx (k (.bool (decide (s∈Kf\/s∈GF)))) Q h:=(aMG s hs).B6 rfl rfl
def qT(hs:s.length<9223372036854775807):W cx (.B6 220 [I n,.str s] k) Q h↔W cx (k (.bool (Ez n s))) Q h:=(f169 n s hs).B6 rfl rfl
end
end
section
def aMH(c:UInt8):JX cx 398 [.int .u8 (c.toNat:Int)] (.bool (decide (65<=c.toNat/\c.toNat<=90))):=by
 rw[Ml,Ź];simp only[BE];refine⟨λh=>?_,λh=>?_⟩
 .have e:65<=c.toNat:=by omega
  have a:((c.toNat:Int)<=90)=(c.toNat<=90):=by rw[eq_iff_iff];omega
  simp[e,a]
 .have e:¬65<=c.toNat:=by omega
  simp[e]
def aEp(s:Aj)(hs:s.length<=AW):JX cx 316 [.str s] (.str (FZ s)):=by
 have WB:s.length<=140737488355328:=hs;rw[Ml,Ũ];refine Bm (λp:Nat×Aa=>[p.2,I (p.1:Int)]) (λp _=>p.1<=s.length/\AU 1 (Ce (FZ (s.take p.1))) p.2) (λp=>s.length-p.1) (0,.slnil) rfl ⟨AY _,.nil⟩ ?_;rintro⟨n,v⟩ h ⟨hn,hv⟩;simp only at hn hv;rcases AR n s.length with hlt|Eh
 .have i1:(n:Int)<(s.length:Int):=by omega
  have hb:((Ce (FZ (s.take n))).length+1)*1<=AW:=by rw[aH];simp[FZ,AW];omega
  simp only[BE,i1,AA,Aw,Aq,Fx hlt,(aMH _).B6 rfl rfl,BN (Ac:n<9223372036854775807)];refine⟨λhe=>?_,λhe=>?_⟩
  .simp only[BE,fK,wrap_u8 (Ac:0<=((s[n].toNat:Int)+32)/\((s[n].toNat:Int)+32)<=255),MI (a:= .int .u8 ((s[n].toNat:Int)+32)) (z:=1) rfl AP,hv.pJ hb];refine AK.next (n+1,_) rfl ⟨hlt,?_⟩ Dv;rw[Sc hlt,Rr];have e:Ce [Jc s[n]]=[[.int .u8 ((s[n].toNat:Int)+32)]]:=by simp[Ce,Tb he]
   rw[e];exact .mk
  .simp only[BE,MI (a:= .int .u8 (s[n].toNat:Int)) (z:=1) rfl AP,hv.pJ hb];refine AK.next (n+1,_) rfl ⟨hlt,?_⟩ Dv;rw[Sc hlt,Rr,OX he];exact .mk
 .have i1:¬(n:Int)<(s.length:Int):=by omega
  have e:s.take n=s:=AF Eh;rw[e] at hv;simp only[BE,i1,Az,Aw,Aq,hv.PH,hv.Xr]
def f300(a b:Int)(h:Ai):BG cx 361 [.int .i32 a,.int .i32 b] h (.func (.func 414) [] [.CI [.int .i32 a],.CI [.int .i32 b]]) h:=by rw[Ae,Tv];simp only[BE]
def aMI(c a b:Int)(h:Ai):BG cx 414 [.int .i32 c,.CI [.int .i32 a],.CI [.int .i32 b]] h (.bool (decide (a<=c/\c<=b))) h:=by rw[Ae,Xk];simp only[BE];refine⟨λh=>by simp[h],λh=>by simp[h]⟩
def aMJ(c:Int):JX cx 417 [.int .i32 c] (.bool (decide (65<=c/\c<=90))):=by rw[Ml,lL];simp only[BE,Nat.reduceLeDiff,↓reduceIte,(f300 _ _ _).Ab,Dh,(aMI _ _ _ _).Ab]
def aEq(s:Aj)(hs:s.length<=AW):JX cx 366 [.str s] (.str (FZ s)):=by
 have WB:s.length<=140737488355328:=hs;rw[Ml,kT,aHu];have j:I4 [] (.str s)=some ([.cells ((HU s 0).map Pr)],.CE 0 0 s.length 1):=by simp only[I4,hs,BJ];rfl
 have i:AD (.len false) [.CE 0 0 s.length 1]=some (I (s.length:Int)):=rfl;simp only[BE,j,i];refine Bm (λn:Nat=>[I (n:Int)]) (λn h=>n<=s.length/\h=[.cells ((HU s n).map Pr)]) (λn=>s.length-n) 0 rfl ⟨AY _,rfl⟩ ?_;rintro n h ⟨hn,rfl⟩;rcases AR n s.length with hlt|Eh
 .have i1:(n:Int)<(s.length:Int):=by omega
  have g:AD (.Ff 1) [.CE 0 0 s.length 1,I (n:Int)]=some (Pt 0 n):=by simp[AD,elemOf,Mx,hlt]
  have f:A7 [.cells ((HU s n).map Pr)] none (Pt 0 n)=some (.int .u8 (s[n].toNat:Int)):=vE (by rw[Cn,Yx hlt];rfl);have e:IntKind.i32.wrap (s[n].toNat:Int)=(s[n].toNat:Int):=w_ (by have:=s[n].toNat_lt;omega);simp only[BE,i1,AA,Aw,Aq,g,f,QN,e,(aMJ _).B6 rfl rfl,BN (Ac:n<9223372036854775807)];refine⟨λhe=>?_,λhe=>?_⟩
  .have a:65<=s[n].toNat/\s[n].toNat<=90:=by omega
   have d:Cv [.cells ((HU s n).map Pr)] 1 (Pt 0 n) (.int .u8 ((s[n].toNat:Int)-65+97))=some [.cells (((HU s n).map Pr).set n (.int .u8 ((s[n].toNat:Int)-65+97)))]:=pS (by rw[Ao,Yw];exact hlt) rfl;simp only[BE,u9,fK,wrap_u8 (Ac:0<=((s[n].toNat:Int)-65)/\((s[n].toNat:Int)-65)<=255),wrap_u8 (Ac:0<=((s[n].toNat:Int)-65+97)/\((s[n].toNat:Int)-65+97)<=255),d];refine AK.next (n+1) rfl ⟨hlt,?_⟩ Ac;rw[Tc hlt,Et];have c:Pr (Jc s[n])= .int .u8 ((s[n].toNat:Int)-65+97):=by unfold Pr;rw[Tb a];congr 1;omega
   rw[c]
  .have ZL:¬(65<=s[n].toNat/\s[n].toNat<=90):=by omega
   refine AK.next (n+1) rfl ⟨hlt,?_⟩ Ac;rw[Tc hlt,OX ZL,xd (Yx hlt)]
 .have i1:¬(n:Int)<(s.length:Int):=by omega
  have en:n=s.length:=Ac;subst en;have b:KT [.cells ((HU s s.length).map Pr)] (.CE 0 0 s.length 1)=some ([.CR],.sl 1 (Ce (FZ s))):=by
   have hl:(FZ s).length=s.length:=by simp[FZ]
   rw[pQ];simp only[KT,GM];rw[Af (by simp[hl])];rw[Qg (FZ s) s.length 0 Ac];simp
  simp only[BE,i1,Az,Aw,Aq,b,AU.Xr (s:=FZ s) .mk]
end
section
def Tx(l:Aj)(ws:List Aj):Prop:=Ev cx 410 [.str l] [] λr _=>r= .sl 1 (ws.map Cu)
def Rz{l:Aj}{ws:List Aj}(n:Nat)(hr:(IT.run tab n (tab 410 [.str l]) []).map (λx=>(x.1,x.2.1))=some (.ret,[.sl 1 (ws.map Cu)])):Tx l ws:=by obtain⟨⟨x,vs,h⟩,a,b⟩:=M6.1 hr;cases b;rw[Sk] at a;exact⟨n,_,_,_,a,rfl,_,rfl,rfl⟩
def aHA{l:Aj}{ws:List Aj}(hf:Tx l ws)(hw:∀w∈ws,w.length<=AW)(hn:ws.length<9223372036854775807)(name:Aj):JX cx 344 [.str name,.str l] (.str (Cp name ws)):=by
 rw[Ml,kP];refine sy (hf.mono λr h1 e=>?_);subst e;have sL:AU 1 (ws.map Cu) (.sl 1 (ws.map Cu)):= .mk;simp only[BE,sL.len];refine Bm (λn:Nat=>[.str [],I (n:Int)]) (λn _=>n<=ws.length/\Cp name ws=Cp name (ws.drop n)) (λn=>ws.length-n) 0 rfl ⟨AY _,rfl⟩ ?_;rintro n h ⟨za,ha⟩;rcases AR n ws.length with hlt|Eh
 .have i1:(n:Int)<((ws.map Cu).length:Int):=Ei;have Tz:n<(ws.map Cu).length:=by simpa using hlt
  have a:(ws.map Cu)[n]=[.str ws[n]]:=by simp[Cu]
  rw[AG hlt,Cp] at ha;simp only[BE,i1,AA,Aw,Aq,sL.Ff Tz,a,(aEq ws[n] (hw _ (AN hlt))).B6 rfl rfl,BN (Ac:n<9223372036854775807)];refine⟨λhe=>?_,λhe=>?_⟩;.rw[ha,Af he]
  .rw[Ad he] at ha;exact AK.next (n+1) rfl ⟨hlt,ha⟩ Ac
 .have i1:¬(n:Int)<((ws.map Cu).length:Int):=Ei;rw[AZ Eh,Cp] at ha;simp only[BE,i1,Az,Aw,Aq,ha]
def aHB(l name:Aj)(hl:l.length<=AW):JX cx 359 [.str l,.str name] (.str (Cp name (Dr [] l))):=by
 have c:l.length<=140737488355328:=hl;rw[Ml,ų];refine Bm (λp:Nat×Nat=>[.str [],I (p.1:Int),I (p.2:Int)])
  (λp _=>(p.1<=p.2/\p.2<=l.length/\Cp name (Dr [] l)=Cp name (Dr ((l.take p.2).drop p.1) (l.drop p.2)))\/(p.2=l.length+1/\Cp name (Dr [] l)=name)) (λp=>l.length+1 -p.2) (0,0) rfl (.inl ⟨Ag _,AY _,AH⟩) ?_
 rintro⟨a,n⟩ h aEo;rcases aEo with⟨ZO,hn,ha⟩|⟨hn,ZL⟩
 .simp only at ZO hn ha;have i1:(n:Int)<=(l.length:Int):=Ac;have PC:((l.take n).drop a).length<=AW:=by simp[AW];omega
  rcases AR n l.length with hlt|Eh
  .have b:¬(n:Int)=(l.length:Int):=by omega
   simp only[BE,i1,b,AA,Az,Aq,Aw,Fx hlt,BN (Ac:n<9223372036854775807),MH ZO hn,(aEp _ PC).B6 rfl rfl];rw[AG hlt,Qf] at ha;refine⟨λhe=>?_,λhe=>?_⟩
   .have e:l[n]=32:=by rw[<-VT];exact aBc he
    rw[Af e,Cp] at ha;refine⟨λhw=>?_,λhw=>?_⟩;.rw[ha,Af hw]
    .rw[Ad hw] at ha;refine AK.next (n+1,n+1) rfl (.inl ⟨Ag _,hlt,?_⟩) Dv;rw[ha,Pv]
   .have e:¬l[n]=32:=λe=>he (by rw[e];rfl);rw[Ad e] at ha;refine AK.next (a,n+1) rfl (.inl ⟨Dv,hlt,?_⟩) Dv;rw[ha,Yv ZO hlt]
  .have e:n=l.length:=by omega
   subst e;simp only[BE,GI,AA,Aq,Aw,MH ZO hn,BN (Ac:l.length<9223372036854775807),(aEp _ PC).B6 rfl rfl];rw[AZ (Ag _),Rs,Cp,Cp] at ha;refine⟨λhw=>?_,λhw=>?_⟩;.rw[ha,Af hw]
   .rw[Ad hw] at ha;exact AK.next (l.length+1,l.length+1) rfl (.inr ⟨rfl,ha⟩) Dv
 .simp only at hn;subst hn;have i1:¬((l.length+1:Nat):Int)<=(l.length:Int):=Ac;simp only[BE,i1,Az,Aq,Aw,ZL]
def Wh:Tx Mu Jb:=Rz 5000 Dg
def Wi:Tx Of Ip:=Rz 5000 Dg
def aMK(s:Aj):JX cx 204 [.str s] (.str (Cp s Jb)):=by rw[Ml,jI,show aHp (.str s)= .B6 344 [.str s,.str Mu] λv=> .ret .ret [v] from rfl];rw[(aHA (l:=Mu) Wh CA CA s).B6 rfl rfl];simp only[BE]
def aHC(s:Aj):JX cx 231 [.str s] (.str (Cp s Jb)):=by rw[Ml,ř,show aHq (.str s)= .B6 359 [.str Mu,.str s] λv=> .ret .ret [v] from rfl];rw[(aHB Mu s CA).B6 rfl rfl,Yy];simp only[BE]
def aHD(s:Aj):JX cx 343 [.str s] (.str (Cp s Ip)):=by rw[Ml,kO,show aHt (.str s)= .B6 344 [.str s,.str Of] λv=> .ret .ret [v] from rfl];rw[(aHA (l:=Of) Wi CA CA s).B6 rfl rfl];simp only[BE]
end
section
def aML{v:Aa}{l:List A5}(hv:Bi l v)(hn:l.length<9223372036854775807)(h:Ai){f:FuncId}{p:A5->Bool}(hp:∀a∈l,BG cx f [.agg a.row] h (.bool (p a)) h)(hf:f<=99999):
  BG cx 309 [v,.func (.func f) [] []] h (I (Co p 0 l)) h:=by
 rw[Ae,Tt];have hlen:(l.map A5.row).length=l.length:=Ao ..;simp only[BE,AU.len hv];refine Bm (λn:Nat=>[I 0,I (n:Int)]) (λn h1=>n<=l.length/\Co p 0 l=Co p n (l.drop n)/\h1=h) (λn=>l.length-n) 0 rfl ⟨AY _,rfl,rfl⟩ ?_;rintro n h1 ⟨za,ha,rfl⟩;rcases AR n l.length with hlt|Eh
 .have i1:(n:Int)<((l.map A5.row).length:Int):=by rw[hlen];omega
  have c:(l.map A5.row)[n]'(by rw[hlen];exact hlt)=A5.row l[n]:=AH;have b:Fu (A5.row l[n]) 0 (some 3)=some (.agg (A5.row l[n])):=by simp[A5.row]
  rw[AG hlt,Co] at ha;simp only[BE,↓reduceIte,Dh,hf,By,i1,AA,Aw,Aq,AU.Ff hv (show n<(l.map A5.row).length by rw[hlen];exact hlt),c,b,(hp _ (AN hlt)).Ab];rw[CS];refine⟨λhe=>?_,λhe=>?_⟩;.rw[ha,Af he]
  .rw[Ad (by simp[he])] at ha;simp only[BE,BN (Ac:n<9223372036854775807)];exact AK.next (n+1) rfl ⟨hlt,ha,rfl⟩ Ac
 .have i1:¬(n:Int)<((l.map A5.row).length:Int):=by rw[hlen];omega
  rw[AZ Eh,Co] at ha;simp only[BE,↓reduceIte,Dh,hf,i1,Az,Aw,Aq,ha]
def aMM(a:A5)(h:Ai):BG cx 310 [.agg a.row] h (.bool (Ps a)) h:=by rw[Ae,jT,A5.row];simp only[BE,Ps];refine⟨λh=>by simp[h],λh=>by simp[h]⟩
def aHE(a b:Aj)(ha:a.length<=AW)(hb:b.length<=AW):JX cx 240 [.str a,.str b] (.bool (decide (FZ a=FZ b))):=by rw[Ml,jM];simp only[BE,(aEq a ha).B6 rfl rfl,(aEq b hb).B6 rfl rfl]
def f96{v:Aa}{l:List A5}(hv:Bi l v)(hl:∀a∈l,a.value.length<=AW)(hn:l.length<9223372036854775807)(n:Int)(s:Aj)(h:Ai):BG cx 161 [I n,.str s,v] h (.bool (Fp n s l)) h:=by
 rw[Ae,iF];simp only[BE,Y4,(aML hv hn h (λa _=>aMM a h) AP).Ab,Fp];refine⟨λh2=>by simp[h2],λh2=>⟨λb=>by simp[h2,b],λb=>⟨λg=>by simp[h2,b,g],λg=>?_⟩⟩⟩;rw[Ad h2,Ad b,Ad g];rcases HV (p:=Ps) (l:=l) (k:=0) with⟨f,d⟩|⟨k,a,f,d,i⟩
 .rw[f,d];simp
 .rw[f,i,BW];obtain⟨hk,e⟩:=An.1 d;have c:k<(l.map A5.row).length:=by simpa using hk
  have o:(l.map A5.row)[k]=A5.row a:=by simp[e]
  have i1:(0:Int)<=(k:Int):=Ac;have R2:a.value.length<=AW:=hl a (e▸AN hk);have m:FZ zZ=zZ:=Vz CA;have j:FZ fR=fR:=Vz CA;simp only[BE,i1,AA,Aw,Aq,AU.Ff hv c,o,A5.row,(aHE a.value zZ R2 AP).B6 rfl rfl,(aHE a.value fR R2 AP).B6 rfl rfl,m,j];refine⟨λh=>by simp[h],λh=>by simp[h]⟩
def aHF{v:Aa}{l:List A5}(hv:Bi l v)(hl:∀a∈l,a.value.length<=AW)(hn:l.length<9223372036854775807)(n:Int)(s:Aj)(hs:s.length<9223372036854775807)(h:Ai):BG cx 167 [I n,.str s,v] h (.bool (Fp n s l)) h:=by
 rw[Ae,Ń];simp only[BE,VD hs,Fp];refine⟨λh2=>by simp[h2,Ez],λh2=>⟨λb=>by simp[h2,b],λb=>⟨λf=>by simp[h2,b,f],λf=>?_⟩⟩⟩;rw[Ad h2,Ad b,Ad f];have hlen:(l.map A5.row).length=l.length:=Ao ..;refine Bm (λn:Nat=>[.bool false,I (n:Int)]) (λn h1=>n<=l.length/\l.find? Ps=(l.drop n).find? Ps/\h1=h) (λn=>l.length-n) 0 rfl ⟨AY _,rfl,rfl⟩ ?_;rintro n h1 ⟨za,ha,rfl⟩;rcases AR n l.length with hlt|Eh
 .have i1:(n:Int)<((l.map A5.row).length:Int):=by rw[hlen];omega
  have g:(l.map A5.row)[n]'(by rw[hlen];exact hlt)=A5.row l[n]:=AH;rw[AG hlt,GQ] at ha;simp only[BE,AU.len hv,i1,AA,Aw,Aq,AU.Ff hv (show n<(l.map A5.row).length by rw[hlen];exact hlt),g,A5.row,(aEp _ (hl _ (AN hlt))).B6 rfl rfl,BN (Ac:n<9223372036854775807)];refine⟨λe=>⟨λd=>?_,λd=>?_⟩,λe=>?_⟩
  .have he:Ps l[n]=true:=by simp[Ps,e,d]
   rw[he] at ha;rw[ha];exact⟨λc=>by simp[c],λc=>by simp[c]⟩
  .have he:Ps l[n]=false:=by simp[Ps,d]
   rw[he] at ha;exact AK.next (n+1) rfl ⟨hlt,ha,rfl⟩ Ac
  .have he:Ps l[n]=false:=by simp[Ps,e]
   rw[he] at ha;exact AK.next (n+1) rfl ⟨hlt,ha,rfl⟩ Ac
 .have i1:¬(n:Int)<((l.map A5.row).length:Int):=by rw[hlen];omega
  rw[AZ Eh,List.find?_nil] at ha;rw[ha];simp only[BE,AU.len hv,i1,Az,Aw,Aq]
end
section
section
variable{U:Type}{f:U->List Aa}{l l2:List U}{v v2:Aa}{z b:Nat}{k k2:IntKind}
end
section
variable{h:Ai}{p:Aa}{l:List Item}
def Uz(hs:me h p l):BG cx 183 [p] h (I (l.length:Int)) h:=by
 rw[Ae,iT];rcases hs with⟨rfl,rfl⟩|⟨id,o,v,rfl,hc,hv⟩
 .simp
 .simp only[BE,Ik,hc.load,Bt,hv.CN]
def Wj(hs:me h p l)(i:Int):BG cx 184 [p,I i] h (.agg (EI l i).row) h:=by
 rw[Ae,iU];simp only[BE,↓reduceIte,AT,(Uz hs).Ab];refine⟨λhi=>by rw[OZ (.inl hi)];simp[Item.row,Item.zero],λhi=>⟨λhl=>by rw[OZ (.inr hl)];simp[Item.row,Item.zero],λhl=>?_⟩⟩;rcases hs with⟨rfl,rfl⟩|⟨id,o,v,rfl,hc,hv⟩
 .simp at hl;omega
 .obtain⟨n,rfl⟩:=I3 (Ac:0<=i);have hn:n<l.length:=Ac;simp only[BE,Nat.reduceLeDiff,↓reduceIte,E9,hc.load,Bt,hv.BL hn,HE hn]
def f39(hs:me h p l)(hn:l.length<=1000000000):BG cx 197 [p] h (.agg (Fy l).row) h:=by rw[Ae,jB];simp only[BE,E9,(Uz hs).Ab,Da (Ac: -9223372036854775808<=(l.length:Int)-1) (Ac:(l.length:Int)-1<9223372036854775808),(Wj hs _).Ab,Fy]
def Wk(F:Aa)(h:Ai)(q:Item->Bool):Prop:=∃f caps,F= .func (.func f) [] caps/\f<=99999/\∀a:Item,BG cx f (.agg a.row::caps) h (.bool (q a)) h
def Wk.Ji{F:Aa}{q:Item->Bool}(hF:Wk F h q)(a:Item){k:Aa->IT}{Q:HO}:W cx (.Ji F [.agg a.row] k) Q h↔W cx (k (.bool (q a))) Q h:=by obtain⟨f,caps,rfl,hf,hr⟩:=hF;rw[Nn];simp only[Dh,hf,↓reduceIte,BT,Cs,Oc,(hr a).Ab]
def aEr(hs:me h p l)(hn:l.length<=1000000000){F:Aa}{q:Item->Bool}(hF:Wk F h q):BG cx 326 [p,F] h (I (AV q l)) h:=by
 obtain⟨f,caps,rfl,hf,hr⟩:=hF;rw[Ae,j3];simp only[BE,(Uz hs).Ab,Da (Ac: -9223372036854775808<=(l.length:Int)-1) (Ac:(l.length:Int)-1<9223372036854775808)];refine Bm (λn:Nat=>[I 0,I ((n:Int)-1)]) (λn h1=>n<=l.length/\AV q l=AV q (l.take n)/\h1=h) (λn=>n) l.length rfl ⟨Ag _,by rw[Bx],rfl⟩ ?_;rintro n h1 ⟨za,ha,rfl⟩;cases n with
 |zero=>have i1:¬(0:Int)<=((0:Nat):Int)-1:=Ac;rw[ha];simp only[BE,↓reduceIte,Dh,hf,i1,Az,Aw,Aq,Kg]
 |succ n=>
  have i1:(0:Int)<=((n+1:Nat):Int)-1:=Ac;have a:((n+1:Nat):Int)-1=(n:Int):=Ac;rcases hs with⟨rfl,rfl⟩|⟨id,o,v,rfl,hc,hv⟩
  .simp at za
  .rw[Hb Ac] at ha;simp only[BE,Nat.reduceLeDiff,↓reduceIte,Dh,E9,hf,a,(Ac:(0:Int)<=(n:Int)),AA,Aw,Aq,hc.load,Bt,hv.BL (Ac:n<l.length),(hr l[n]).Ab,Da (Ac: -9223372036854775808<=(n:Int)-1) (Ac:(n:Int)-1<9223372036854775808)];rw[CS];refine⟨λhe=>?_,λhe=>?_⟩;.rw[ha,Af he]
   .rw[Ad (by simp[he])] at ha;exact AK.next n rfl ⟨Ac,ha,rfl⟩ Ac
def aMN{v:Aa}{ws:List Aj}(hv:Js ws v)(hn:ws.length<=1000000000)(s:Aj)(h:Ai):BG cx 397 [v,.str s] h (I (Co (λw=>decide (s=w)) 0 ws)) h:=by
 rw[Ae,lB];have hv:AU 1 (ws.map Cu) v:=hv;simp only[BE,hv.CN];refine Bm (λn:Nat=>[I 0,I (n:Int)]) (λn h1=>n<=ws.length/\Co (λw=>decide (s=w)) 0 ws=Co (λw=>decide (s=w)) n (ws.drop n)/\h1=h) (λn=>ws.length-n) 0 rfl ⟨AY _,rfl,rfl⟩ ?_;rintro n h1 ⟨za,ha,rfl⟩;rcases AR n ws.length with hlt|Eh
 .have i1:(n:Int)<(ws.length:Int):=by omega
  rw[AG hlt,Co] at ha;simp only[BE,i1,AA,Aw,Aq,hv.BL hlt,Cu,BN (Ac:n<9223372036854775807)];refine⟨λhe=>?_,λhe=>?_⟩;.rw[ha,Af (by simpa using he)]
  .rw[Ad (by simpa using he)] at ha;exact AK.next (n+1) rfl ⟨hlt,ha,rfl⟩ Ac
 .have i1:¬(n:Int)<(ws.length:Int):=by omega
  rw[AZ Eh,Co] at ha;simp only[BE,i1,Az,Aw,Aq,ha]
def ſ{v:Aa}{ws:List Aj}(hv:Js ws v)(hn:ws.length<=1000000000)(s:Aj)(h:Ai):BG cx 311 [v,.str s] h (.bool (decide (s∈ws))) h:=by rw[Ae,jU];simp only[BE,(aMN hv hn s h).Ab,ğ]
def qU{v:Aa}{ws:List Aj}(hv:Js ws v)(hn:ws.length<=1000000000)(a:Item)(h:Ai):BG cx 202 [.agg a.row,v] h (.bool (Bw ws a)) h:=by rw[Ae,jG];simp only[BE,E9,(ſ hv hn _ h).Ab,Bw];refine⟨λh1=>by simp[h1],λh1=>by simp[h1]⟩
def aMO(a:Item)(h:Ai):BG cx 426 [.agg a.row] h (.bool (Bw OW a)) h:=by rw[Ae,lN];simp only[BE,E9,vF,(qU (ws:=OW) C1 AP a h).Ab]
def aMP(a:Item)(h:Ai):BG cx 427 [.agg a.row] h (.bool (!Bw MK a)) h:=by rw[Ae,lO];simp only[BE,E9,pT,(qU (ws:=MK) C1 AP a h).Ab]
def aMQ(n:Int)(j:n≠4)(i:n≠5)(a:Item)(h:Ai):BG cx 428 [.agg a.row,.CI [I n]] h (.bool (JZ n a)) h:=by have b1:=qU (ws:=QR) C1 AP a h;have b2:=qU (ws:=Sb) C1 AP a h;have b3:=qU (ws:=[aVD]) C1 AP a h;rw[Ae,lP];simp only[BE,E9,Y4,vG,mf,mg,b1.Ab,b2.Ab,b3.Ab,JZ,j,i];refine⟨λh1=>by simp[h1],λh1=>⟨λh2=>by simp[h2],λh2=>?_⟩⟩;rw[CS];simp only[h1,h2,aFq,DF];refine⟨λd=>by simp[d],λd=>⟨λe=>?_,λe=>⟨λc=>by simp[d,c],λc=>by simp[d,e,c]⟩⟩⟩;rw[CS];exact⟨λc=>by simp[d,e,c],λc=>⟨λg=>Ac,λg=>by simp[d,c,g]⟩⟩
def f264(n:Int)(h:Ai):∃F,BG cx 403 [I n] h F h/\Wk F h (JZ n)/\F.cells=[F]:=by
 by_cases d:n=4
 .refine⟨.func (.func 426) [] [],?_,⟨_,_,rfl,AP,λa=>?_⟩,rfl⟩;.rw[Ae,Tw];simp only[BE,d,AA,Aw,Aq]
  .have:=aMO a h;simpa[JZ,d] using this
 .by_cases c:n=5
  .refine⟨.func (.func 427) [] [],?_,⟨_,_,rfl,AP,λa=>?_⟩,rfl⟩;.rw[Ae,Tw];simp only[BE,c,AA,Aw,Aq];simp
   .have:=aMP a h;simpa[JZ,c] using this
  .refine⟨.func (.func 428) [] [.CI [I n]],?_,⟨_,_,rfl,AP,λa=>aMQ n d c a h⟩,rfl⟩;rw[Ae,Tw];simp only[BE,d,c,Az,Aw,Aq]
def aMR{d F2:Aa}{q e:Item->Bool}(h1:Wk d h q)(h2:Wk F2 h e)(a:Item):BG cx 404 [.agg a.row,.CI [d],.CI [F2]] h (.bool (q a||e a)) h:=by have j:=λk Q=>h1.Ji a (k:=k) (Q:=Q);have i:=λk Q=>h2.Ji a (k:=k) (Q:=Q);rw[Ae,lF];obtain⟨f,caps,rfl,hf,g⟩:=h1;obtain⟨f',c,rfl,vf,r2⟩:=h2;simp only[BE,↓reduceIte,Dh,E9,hf,vf,(g a).Ab,(r2 a).Ab];rw[CS];exact⟨λh=>by simp[h],λh=>by simp[h]⟩
def aHG(hs:me h p l)(hn:l.length<=1000000000)(n:Int){F:Aa}{q:Item->Bool}(hF:Wk F h q):BG cx 322 [p,I n,F] h (.bool (Kn q (JZ n) l.reverse)) h:=by
 obtain⟨G,g,aHH,J8⟩:=f264 n h;have c:F.cells=[F]:=by obtain⟨f,caps,rfl,hf,_⟩:=hF;rfl
 have d:=hF;have hfit:Wk (.func (.func 404) [] [.CI [F],.CI [G]]) h (λa=>q a||JZ n a):=⟨404,_,rfl,AP,λa=>aMR hF aHH a⟩;rw[Ae,jZ];simp only[BE,↓reduceIte,Dh,c,g.Ab,J8,(aEr hs hn hfit).Ab];rw[<-vH l true];rcases Dj (q:=λa=>q a||JZ n a) (l:=l) with⟨h1,h2⟩|⟨k,hk,h1,h2,i⟩
 .simp[h1]
 .have e:(0:Int)<=(k:Int)/\(k:Int).toNat<l.length:=⟨Ac,by simpa using hk⟩;simp only[h1];rw[sD e];rcases hs with⟨rfl,rfl⟩|⟨id,o,v,rfl,hc,hv⟩
  .simp at hk
  .obtain⟨f,caps,rfl,hf,hr⟩:=d;simp only[BE,Nat.reduceLeDiff,↓reduceIte,E9,hf,e.1,AA,Aw,Aq,hc.load,Bt,hv.BL hk,(hr l[k]).Ab,AX]
def aMS{v:Aa}{ws:List Aj}(hv:Js ws v)(hn:ws.length<=1000000000)(a:Item)(h:Ai):BG cx 323 [.agg a.row,.CI [v]] h (.bool (Bw ws a)) h:=by have b:=qU hv hn a h;rw[Ae,j0];simp only[BE,E9,b.Ab]
def aMT(hs:me h p l)(hn:l.length<=1000000000)(n:Int){v:Aa}{ws:List Aj}(hv:Js ws v)(hw:ws.length<=1000000000):BG cx 178 [p,I n,v] h (.bool (Kn (Bw ws) (JZ n) l.reverse)) h:=by have hfit:Wk (.func (.func 323) [] [.CI [v]]) h (Bw ws):=⟨323,_,rfl,AP,λa=>aMS hv hw a h⟩;rw[Ae,iP];simp only[BE,hv.cells,(aHG hs hn n hfit).Ab]
def aMU(node:Int)(a:Item)(h:Ai):BG cx 406 [.agg a.row,.CI [I node]] h (.bool (Bz node a)) h:=by rw[Ae,lH,Item.row];simp only[BE,E9,Bz]
def aMV(hs:me h p l)(hn:l.length<=1000000000)(n node:Int):BG cx 332 [p,I n,I node] h (.bool (Kn (Bz node) (JZ n) l.reverse)) h:=by have hfit:Wk (.func (.func 406) [] [.CI [I node]]) h (Bz node):=⟨406,_,rfl,AP,λa=>aMU node a h⟩;rw[Ae,kD];simp only[BE,(aHG hs hn n hfit).Ab]
def aMW(node:Int)(a:Item)(h:Ai):BG cx 327 [.agg a.row,.CI [I node]] h (.bool (Bz node a)) h:=by rw[Ae,j6,Item.row];simp only[BE,E9,Bz]
def aL(hs:me h p l)(hn:l.length<=1000000000)(node:Int):BG cx 180 [p,I node] h (I (AV (Bz node) l)) h:=by have hfit:Wk (.func (.func 327) [] [.CI [I node]]) h (Bz node):=⟨327,_,rfl,AP,λa=>aMW node a h⟩;rw[Ae,iR];simp only[BE,(aEr hs hn hfit).Ab]
def aMX(s:Aj)(a:Item)(h:Ai):BG cx 340 [.agg a.row,.CI [.str s]] h (.bool (Bw [s] a)) h:=by have b:=qU (ws:=[s]) C1 (AH:[s].length<=1000000000) a h;rw[Ae,kL];simp only[BE,E9,Ea (ws:=[s]) (args:=[.str s]) rfl AH,b.Ab]
def aAa(hs:me h p l)(hn:l.length<=1000000000)(s:Aj):BG cx 194 [p,.str s] h (I (AV (Bw [s]) l)) h:=by have hfit:Wk (.func (.func 340) [] [.CI [.str s]]) h (Bw [s]):=⟨340,_,rfl,AP,λa=>aMX s a h⟩;rw[Ae,i6];simp only[BE,(aEr hs hn hfit).Ab]
end
end
section
section
variable{h:Ai}{p v:Aa}{l:List Item}
def aHI(hv:BZ l v)(a:Item){n:Nat}(hn:n<=l.length)(hb:l.length<=1000000000):∃u,BG cx 308 [v,.agg a.row,I (n:Int)] h u h/\BZ (l.take n++a::l.drop n) u:=by
 have RP:(l.length+1)*40<=AW:=by have:AW=140737488355328:=rfl;omega
 obtain⟨t,q,h1⟩:=AU.ML hv (k:= .i64) hn;obtain⟨s,m,h2⟩:=AU.FL h1 (b:=40) (by rw[Ax];have:AW=140737488355328:=rfl;omega);have j:=AU.JD (a:=a) h2 (b:=40) (by rw[Ax];have:AW=140737488355328:=rfl;omega);obtain⟨r,i,e⟩:=AU.Td hv (k:= .i64) hn;obtain⟨d,g,c⟩:=AU.fS (v:= .sl 4 ((l.take n++[a]).map Item.row)) .mk e (b:=40) (by rw[Au,Ax,Be,A9];have:AW=140737488355328:=rfl;omega);refine⟨d,?_,by rw[AI] at c;exact c⟩;rw[Ae,jS];simp only[BE,E9,q,m,MM,j,i,g]
def f95{id o:Nat}(hs:Mm h id o l)(hb:l.length<=1000000000)(a:Item):∃u,BG cx 160 [Pt id o,.agg a.row] h (.tuple []) (put h id o u)/\BZ (l++[a]) u:=by obtain⟨v,hc,hv⟩:=hs;obtain⟨u,hr,hu⟩:=aHI (h:=h) hv a (n:=l.length) (Ag _) hb;rw[Bx,Eu] at hu;refine⟨u,?_,hu⟩;rw[Ae,iE];simp only[BE,E9,Sx,I2,hc.load,Bt,AU.CN hv,hr.Ab,hc.store hu.cells]
def aMZ(hs:me h p l)(hb:l.length<=1000000000)(node:Int):BG cx 333 [p,I node] h (I (D2 node l)) h:=by
 rw[Ae,kE];have a: -1<=AV (Bz node) l/\AV (Bz node) l<l.length+1:=by rcases Dj (q:=Bz node) (l:=l) with⟨h1,h2⟩|⟨n,hn,h1,h2,c⟩<;>rw[h1]<;>omega
 simp only[BE,(aL hs hb node).Ab,OY (Ac: -9223372036854775808<=AV (Bz node) l+1) (Ac:AV (Bz node) l+1<9223372036854775808)];rw[IS];by_cases F7:AV (Bz node) l<0;.rw[Af F7];refine Bm (λn:Nat=>[I 0,I (AV (Bz node) l+1)]) (λn h1=>h1=h) (λn=>n) 0 rfl rfl ?_;rintro n h1 rfl;have i1:¬0<=AV (Bz node) l:=Ac;simp only[BE,i1,Az,Aw,Aq]
 .rw[Ad F7];have i0:0<=AV (Bz node) l:=Ac;obtain⟨m,hm⟩:=I3 i0;refine Bm (λn:Nat=>[I 0,I (n:Int)]) (λn h1=>E2 Hc l (m+1)=E2 Hc l n/\h1=h) (λn=>l.length-n) (m+1) (by rw[hm];rfl) ⟨rfl,rfl⟩ ?_;rw[hm,AX];rintro n h1 ⟨ha,rfl⟩;simp only[BE,(Ac:(0:Int)<=(m:Int)),AA,Aw,Aq,(Uz hs).Ab];rcases AR n l.length with hlt|Eh
  .have i1:(n:Int)<(l.length:Int):=by omega
   rw[Te hlt] at ha;rcases hs with⟨rfl,rfl⟩|⟨id,o,v,rfl,hc,hv⟩
   .simp at hlt
   .simp only[BE,E9,i1,AA,Aw,Aq,hc.load,Bt,AU.BL hv hlt,Y4,BN (Ac:n<9223372036854775807)];rw[CS];refine⟨λhe=>?_,λhe=>?_⟩;.rw[ha,Af (by exact he)]
    .rw[Ad (by simp[Hc,he])] at ha;exact AK.next (n+1) rfl ⟨ha,rfl⟩ Ac
  .have i1:¬(n:Int)<(l.length:Int):=by omega
   rw[Rt Eh] at ha;simp only[BE,i1,Az,Aw,Aq,ha]
def aHJ(hv:BZ l v)(i:Int):BG cx 383 [v,I i] h (.agg (EI l i).row) h:=by have hv:AU 4 (l.map Item.row) v:=hv;rw[Ae,ŷ];simp only[BE,↓reduceIte,AT,hv.CN];refine⟨λhi=>by rw[OZ (.inl hi)];simp[Item.row,Item.zero],λhi=>⟨λhl=>by rw[OZ (.inr hl)];simp[Item.row,Item.zero],λhl=>?_⟩⟩;obtain⟨n,rfl⟩:=I3 (Ac:0<=i);have hn:n<l.length:=Ac;simp only[BE,Nat.reduceLeDiff,↓reduceIte,E9,hv.BL hn,HE hn]
def aM0(hv:BZ l v)(hb:l.length<=1000000000):BG cx 352 [v] h (.agg (Fy l).row) h:=by rw[Ae,ŭ];simp only[BE,E9,AU.CN hv,Da (Ac: -9223372036854775808<=(l.length:Int)-1) (Ac:(l.length:Int)-1<9223372036854775808),(aHJ hv _).Ab,Fy]
def f167(a:Item){ws:List Aj}(hv:Js ws v)(hn:ws.length<=1000000000):BG cx 218 [.agg a.row,v] h (.bool (Bw ws a)) h:=by
 rw[Ae,ŏ];simp only[BE,E9];refine⟨λh1=>by simp[Bw,h1],λh1=>?_⟩;have h1:a.Bb=1:=by simpa using h1
 have hv:AU 1 (ws.map Cu) v:=hv;refine Bm (λn:Nat=>[.bool false,I (n:Int)]) (λn h1=>n<=ws.length/\(a.name∈ws↔a.name∈ws.drop n)/\h1=h) (λn=>ws.length-n) 0 rfl ⟨AY _,aFo,rfl⟩ ?_;rintro n h2 ⟨za,ha,rfl⟩;rcases AR n ws.length with hlt|Eh
 .have i1:(n:Int)<(ws.length:Int):=by omega
  rw[AG hlt,AS] at ha;simp only[BE,hv.CN,i1,AA,Aw,Aq,hv.BL hlt,Cu,BN (Ac:n<9223372036854775807)];refine⟨λhe=>?_,λhe=>?_⟩;.have:a.name∈ws:=ha.2 (.inl he.symm);simp[Bw,h1,this]
  .exact AK.next (n+1) rfl ⟨hlt,ha.trans ⟨λh=>h.resolve_left (λh=>he h.symm),.inr⟩,rfl⟩ Ac
 .have i1:¬(n:Int)<(ws.length:Int):=by omega
  rw[AZ Eh] at ha;simp only[BE,hv.CN,i1,Az,Aw,Aq];have:a.name∉ws:=λh=>by simpa using ha.1 h
  simp[Bw,this]
def aM1(n:Int)(a:Item)(hs:a.name.length<9223372036854775807):BG cx 412 [.agg a.row,I n] h (.bool (JZ n a)) h:=by
 rw[Ae,Ż];simp only[BE,E9,nl hs,wW hs,yy hs,np hs,qT hs,JZ,Bw];by_cases h1:a.Bb=1
 .have j:¬a.Bb=3:=by omega
  have i:¬a.Bb=2:=Ac;simp only[h1,Dw,R5,M5,Aq,AA,Sv,forall_const];by_cases d:n=4;.simp[d]
  .by_cases c:n=5;.simp[c]
   .by_cases h2:n=2;.simp[h2];by_cases hl:a.name∈Sb<;>simp[hl]
    .by_cases g:n=3;.simp[g];by_cases hl:a.name=aVD<;>simp[hl]
     .simp[d,c,h2,g]
 .simp only[h1,DG,Ui,ZS,Aw,Aq,Az,I2];by_cases d:n=4;.simp[d]
  .by_cases c:n=5;.simp[c]
   .by_cases g:a.Bb=3\/a.Bb=2;.simp[d,c,g]
    .have j:¬a.Bb=3:=λe=>g (.inl e);have i:¬a.Bb=2:=λe=>g (.inr e);simp[d,c,j,i,Ez,h1]
def aHK(hv:BZ l v)(hb:l.length<=1000000000)(hl:∀a∈l,a.name.length<9223372036854775807){i:Nat}(hi:i<=l.length)(n:Int):BG cx 349 [v,I (i:Int),I n] h (.bool (!((l.drop (i+1)).any (JZ n)))) h:=by
 have hv:AU 4 (l.map Item.row) v:=hv;rw[Ae,Ū];simp only[BE,BN (Ac:i<9223372036854775807)];refine Bm (λm:Nat=>[.bool false,I (m:Int)]) (λm h1=>(l.drop (i+1)).any (JZ n)=(l.drop m).any (JZ n)/\h1=h) (λm=>l.length-m) (i+1) rfl ⟨rfl,rfl⟩ ?_;rintro m h1 ⟨ha,rfl⟩;rcases AR m l.length with hlt|Eh
 .have i1:(m:Int)<(l.length:Int):=by omega
  rw[AG hlt,NV] at ha;simp only[BE,Nat.reduceLeDiff,↓reduceIte,E9,hv.CN,i1,AA,Aw,Aq,hv.BL hlt,(aM1 n l[m] (hl _ (AN hlt))).Ab,BN (Ac:m<9223372036854775807)];rw[CS];refine⟨λhe=>by rw[ha,he];rfl,λhe=>?_⟩;rw[he,Ht] at ha;exact AK.next (m+1) rfl ⟨ha,rfl⟩ Ac
 .have i1:¬(m:Int)<(l.length:Int):=by omega
  rw[AZ Eh] at ha;simp only[BE,↓reduceIte,hv.CN,i1,Az,Aw,Aq,ha,UX,I2]
def aM2(hv:BZ l v)(hb:l.length<=1000000000)(hl:∀a∈l,a.name.length<9223372036854775807)(n:Int){w:Aa}{ws:List Aj}(hw:Js ws w)(hn:ws.length<=1000000000):BG cx 215 [v,I n,w] h (.bool (Kn (Bw ws) (JZ n) l.reverse)) h:=by
 have DH:AU 4 (l.map Item.row) v:=hv;rw[Ae,Ō,<-pU];refine Bm (λm:Nat=>[.bool false,I (m:Int)]) (λm h1=>m<=l.length/\YA (Bw ws) (JZ n) l=YA (Bw ws) (JZ n) (l.drop m)/\h1=h) (λm=>l.length-m) 0 rfl ⟨AY _,rfl,rfl⟩ ?_;rintro m h1 ⟨hm,ha,rfl⟩;rcases AR m l.length with hlt|Eh
 .have i1:(m:Int)<(l.length:Int):=by omega
  rw[AG hlt,YA] at ha;simp only[BE,Nat.reduceLeDiff,↓reduceIte,E9,DH.CN,i1,AA,Aw,Aq,DH.BL hlt,(f167 l[m] hw hn).Ab,(aHK hv hb hl (M8 hlt) n).Ab,BN (Ac:m<9223372036854775807)];rw[CS,CS];refine⟨λh1=>⟨λh2=>by rw[ha,h1,h2];rfl,λh2=>?_⟩,λh1=>?_⟩;.rw[h2,Þ,Ht] at ha;exact AK.next (m+1) rfl ⟨hlt,ha,rfl⟩ Ac
  .rw[h1,à,Ht] at ha;exact AK.next (m+1) rfl ⟨hlt,ha,rfl⟩ Ac
 .have i1:¬(m:Int)<(l.length:Int):=by omega
  rw[AZ Eh,YA] at ha;simp only[BE,↓reduceIte,DH.CN,i1,Az,Aw,Aq,ha]
def aM(hv:BZ l v)(hb:l.length<=1000000000)(node:Int):BG cx 284 [v,I node] h (I (AV (Bz node) l)) h:=by
 have hv:AU 4 (l.map Item.row) v:=hv;rw[Ae,ş];refine Bm (λn:Nat=>[I (AV (Bz node) (l.take n)),I (n:Int)]) (λn h1=>n<=l.length/\h1=h) (λn=>l.length-n) 0 rfl ⟨AY _,rfl⟩ ?_;rintro n h1 ⟨hn,rfl⟩;rcases AR n l.length with hlt|Eh
 .have i1:(n:Int)<(l.length:Int):=by omega
  have e:=Hb (q:=Bz node) hlt;simp only[BE,E9,hv.CN,i1,AA,Aw,Aq,hv.BL hlt,BN (Ac:n<9223372036854775807)];refine⟨λhe=>?_,λhe=>?_⟩;.rw[Af (by simpa[Bz] using he)] at e;exact AK.next (n+1) (by rw[e]) ⟨hlt,rfl⟩ Ac
  .rw[Ad (by simpa[Bz] using he)] at e;exact AK.next (n+1) (by rw[e]) ⟨hlt,rfl⟩ Ac
 .have i1:¬(n:Int)<(l.length:Int):=by omega
  simp only[BE,hv.CN,i1,Az,Aw,Aq,AF Eh]
def aAb(hv:BZ l v)(hb:l.length<=1000000000)(s:Aj):BG cx 142 [v,.str s] h (I (AV (Bw [s]) l)) h:=by
 have hv:AU 4 (l.map Item.row) v:=hv;have b:=λa=>f167 (h:=h) a (ws:=[s]) C1 (AH:[s].length<=1000000000);rw[Ae,ĺ];refine Bm (λn:Nat=>[I (AV (Bw [s]) (l.take n)),I (n:Int)]) (λn h1=>n<=l.length/\h1=h) (λn=>l.length-n) 0 rfl ⟨AY _,rfl⟩ ?_;rintro n h1 ⟨hn,rfl⟩;rcases AR n l.length with hlt|Eh
 .have i1:(n:Int)<(l.length:Int):=by omega
  have e:=Hb (q:=Bw [s]) hlt;simp only[BE,Nat.reduceLeDiff,↓reduceIte,E9,hv.CN,i1,AA,Aw,Aq,hv.BL hlt,BN (Ac:n<9223372036854775807),Ea (ws:=[s]) (args:=[.str s]) rfl AH,(b l[n]).Ab];rw[CS];refine⟨λhe=>?_,λhe=>?_⟩;.rw[Af he] at e;exact AK.next (n+1) (by rw[e]) ⟨hlt,rfl⟩ Ac
  .rw[Ad (by simpa using he)] at e;exact AK.next (n+1) (by rw[e]) ⟨hlt,rfl⟩ Ac
 .have i1:¬(n:Int)<(l.length:Int):=by omega
  simp only[BE,↓reduceIte,hv.CN,i1,Az,Aw,Aq,AF Eh]
def aM3(hv:BZ l v)(hb:l.length<=1000000000)(hl:∀a∈l,a.name.length<9223372036854775807)(n node:Int):BG cx 293 [v,I n,I node] h (.bool (Kn (Bz node) (JZ n) l.reverse)) h:=by
 rw[Ae,Ţ,<-aDH];simp only[BE,(aM hv hb node).Ab];rcases Dj (q:=Bz node) (l:=l) with⟨h1,h2⟩|⟨k,hk,h1,h2,c⟩
 .simp[h1]
 .rw[h1];simp only[BE,(Ac:(0:Int)<=(k:Int)),(Ac:¬(k:Int)<0),AA,Aw,Aq,(aHK hv hb hl (M8 hk) n).Ab,AX]
def aM4(hv:BZ l v)(hb:l.length<=1000000000)(hl:∀a∈l,a.name.length<9223372036854775807)(node:Int):BG cx 355 [v,I node] h (I (D2 node l)) h:=by
 have DH:AU 4 (l.map Item.row) v:=hv;rw[Ae,ů,IS];simp only[BE,(aM hv hb node).Ab];rcases Dj (q:=Bz node) (l:=l) with⟨h1,h2⟩|⟨k,hk,h1,h2,c⟩
 .simp[h1]
 .rw[h1];simp only[BE,(Ac:¬(k:Int)<0),Az,Aw,Aq,AX,BN (Ac:k<9223372036854775807)];refine Bm (λn:Nat=>[I 0,I (n:Int)]) (λn h1=>E2 Hc l (k+1)=E2 Hc l n/\h1=h) (λn=>l.length-n) (k+1) rfl ⟨rfl,rfl⟩ ?_;rintro n h1 ⟨ha,rfl⟩;rcases AR n l.length with hlt|Eh
  .have i1:(n:Int)<(l.length:Int):=by omega
   rw[Te hlt] at ha;simp only[BE,E9,DH.CN,i1,AA,Aw,Aq,DH.BL hlt,qT (hl _ (AN hlt)),BN (Ac:n<9223372036854775807)];rw[CS];refine⟨λhe=>by rw[ha,Af (by exact he)],λhe=>?_⟩;rw[Ad (by simp[Hc,he])] at ha;exact AK.next (n+1) rfl ⟨ha,rfl⟩ Ac
  .have i1:¬(n:Int)<(l.length:Int):=by omega
   rw[Rt Eh] at ha;simp only[BE,DH.CN,i1,Az,Aw,Aq,ha]
end
end
section
def Y7(F:Aa)(q:Item->Bool):Prop:=∃f caps,F= .func (.func f) [] caps/\f<=99999/\∀(a:Item) (h:Ai),BG cx f (.agg a.row::caps) h (.bool (q a)) h
section
variable{h:Ai}{p v:Aa}{l:List Item}
def f42{id o:Nat}(hs:Mm h id o l)(hb:l.length<=1000000000)(h2:2<=l.length):∃u,BG cx 82 [Pt id o] h (.agg (Fy l).row) (put h id o u)/\BZ (l.take (l.length-1)) u:=by obtain⟨v,hc,hv⟩:=(show Mm h id o l from hs);obtain⟨u,e,hu⟩:=AU.ML hv (k:= .i64) (Ac:l.length-1<=l.length);refine⟨u,?_,hu⟩;have a:(l.length:Int)-1=((l.length-1:Nat):Int):=Ac;rw[Ae,YY];simp only[BE,E9,(Uz hs.at).Ab,(f39 hs.at hb).Ab,hc.load,Bt,AU.CN hv,Da (Ac: -9223372036854775808<=(l.length:Int)-1) (Ac:(l.length:Int)-1<9223372036854775808),a,e,hc.store (AU.cells hu),(Ac:¬(l.length:Int)<2),Az,Aw,Aq]
def aAc{id o:Nat}(hs:Mm h id o l)(hb:l.length<=1000000000){B A:Aa}{b a:Item->Bool}(hB:Y7 B b)(d:Y7 A a):
  ∃u,BG cx 199 [Pt id o,B,A] h (I ((l.length:Int)-((DN b a l).length:Int))) (put h id o u)/\BZ (DN b a l) u:=by
 obtain⟨e,j,rfl,nr,rb⟩:=hB;obtain⟨fa,ca,rfl,hfa,ra⟩:=d;have hlt:=hs.lt;have I9:Ev cx 199 [Pt id o,.func (.func e) [] j,.func (.func fa) [] ca] h λr h'=>r= I ((l.length:Int)-((DN b a l).length:Int))/\∃u,h'=put h id o u/\BZ (DN b a l) u:=by
  unfold Ev;rw[jD];refine Bm (λn:Nat=>[I ((l.length:Int)-(n:Int))]) (λn h1=>n<=l.length/\(∃u,h1=put h id o u/\BZ (l.take n) u)/\DN b a l=DN b a (l.take n)) (λn=>n) l.length AH ⟨Ag _,by rw[Bx];exact hs.fW,by rw[Bx]⟩ ?_;rintro n h1 ⟨hn,⟨u,rfl,hu⟩,ha⟩;have J9:Mm (put h id o u) id o (l.take n):= .aDI hlt hu;have tK:(l.take n).length=n:=by rw[Ax];omega
  simp only[BE,↓reduceIte,(Uz J9.at).Ab,tK];match n,hn,hu,ha,J9,tK with
  |0,hn,hu,ha,J9,tK=>rw[YB (l:=l.take 0) AH] at ha;simp only[BE,(Ac:¬(1:Int)<((0:Nat):Int)),Az,Aw,Aq];exact⟨_,rfl,by rw[ha];rfl,u,rfl,by rw[ha];exact hu⟩
  |1,hn,hu,ha,J9,tK=>rw[YB (l:=l.take 1) (by rw[tK];exact Ag _)] at ha;simp only[BE,(Ac:¬(1:Int)<((1:Nat):Int)),Az,Aw,Aq];exact⟨_,rfl,by rw[ha,tK],u,rfl,by rw[ha];exact hu⟩
  |m+2,hn,hu,ha,J9,tK=>
   have hm:m+1<l.length:=Ac;have i:((l.length:Int)-((m+2:Nat):Int))+1=(l.length:Int)-((m+1:Nat):Int):=Ac;obtain⟨c,hr,IG⟩:=f42 J9 Ac Ac;rw[YC hm] at hr;have g:(l.take (m+2)).take ((l.take (m+2)).length-1)=l.take (m+1):=by rw[tK,FC,Cq Ac];rfl
   rw[g] at IG;rw[fU] at hr;have aHL:=f39 J9.at Ac;rw[YC hm] at aHL;rw[cJ hm] at ha;simp only[BE,↓reduceIte,Dh,hfa,nr,(Ac:(1:Int)<((m+2:Nat):Int)),AA,Aw,Aq,aHL.Ab,(rb _ _).Ab,hr.Ab,(ra _ _).Ab,OY (Ac: -9223372036854775808<=((l.length:Int)-((m+2:Nat):Int))+1) (Ac:((l.length:Int)-((m+2:Nat):Int))+1<9223372036854775808),i];rw[CS,CS];refine⟨λTZ=>⟨λZ9=>?_,λZ9=>?_⟩,λTZ=>?_⟩
   .have TZ:b l[m+1]=false:=by simpa using TZ
    rw[Ad (by simp[TZ]),Af Z9] at ha;exact⟨_,rfl,by rw[ha,Ax,Cq Ac],c,rfl,by rw[ha];exact IG⟩
   .have TZ:b l[m+1]=false:=by simpa using TZ
    rw[Ad (by simp[TZ]),Ad (by simp[Z9])] at ha;exact AK.next (m+1) rfl ⟨Ac,⟨c,rfl,IG⟩,ha⟩ Ac
   .have TZ:b l[m+1]=true:=by simpa using TZ
    rw[Af TZ] at ha;exact⟨_,rfl,by rw[ha,tK],u,rfl,by rw[ha];exact hu⟩
 obtain⟨r,h',hr,rfl,u,rfl,hu⟩:=I9.ret;exact⟨u,hr,hu⟩
def O7:Y7 (.func (.func 200) [] []) CY:=⟨_,_,rfl,AP,λa h=>by rw[Ae,jE];simp only[BE,E9,CY]⟩
def wX{w:Aa}{ws:List Aj}(hw:Js ws w)(hn:ws.length<=1000000000):Y7 (.func (.func 201) [] [.CI [w]]) (Bw ws):=⟨_,_,rfl,AP,λa h=>by rw[Ae,jF];simp only[BE,E9,(qU hw hn a h).Ab]⟩
def lS(s:Aj):Y7 (.func (.func 324) [] [.CI [.str s]]) (EA s):=⟨_,_,rfl,AP,λa h=>by
 rw[Ae,j1];simp only[BE,E9,yw,EA];refine⟨λh1=>by simp[h1],λh1=>?_⟩;rw[CS];refine⟨λh2=>?_,λh2=>?_⟩
 .have h2:a.name∉GF:=by simpa using h2
  simp[h2]
 .have h2:a.name∈GF:=by simpa using h2
  have h1:a.Bb=1:=by simpa using h1
  simp[h2,h1]⟩
def aN:Y7 (.func (.func 341) [] []) CK:=⟨_,_,rfl,AP,λa h=>by
 rw[Ae,kM];simp only[BE,E9,yx,CK];refine⟨λh1=>by simp[h1],λh1=>?_⟩;have h1:a.Bb=1:=by simpa using h1
 simp[h1]⟩
def lT(node:Int):Y7 (.func (.func 328) [] [.CI [I node]]) (Bz node):=⟨_,_,rfl,AP,λa h=>by rw[Ae,j7];simp only[BE,E9,Bz]⟩
def aHM{id o:Nat}(hs:Mm h id o l)(hb:l.length<=1000000000)(s:Aj):
  ∃u,BG cx 179 [Pt id o,.str s] h (I ((l.length:Int)-((DN (EA s) CY l).length:Int))) (put h id o u)/\BZ (DN (EA s) CY l) u:=by
 obtain⟨u,hr,hu⟩:=aAc hs hb (lS s) O7;exact⟨u,by rw[Ae,iQ];simp only[BE,hr.Ab],hu⟩
def f66{id o:Nat}(hs:Mm h id o l)(hb:l.length<=1000000000){w:Aa}{ws:List Aj}(hw:Js ws w)(hn:ws.length<=1000000000):
  ∃u,BG cx 84 [Pt id o,w] h (I ((l.length:Int)-((DN CY (Bw ws) l).length:Int))) (put h id o u)/\BZ (DN CY (Bw ws) l) u:=by
 obtain⟨u,hr,hu⟩:=aAc hs hb O7 (wX hw hn);exact⟨u,by rw[Ae,wS];simp only[BE,Js.cells hw,hr.Ab],hu⟩
def aM6{id o:Nat}(hs:Mm h id o l)(hb:l.length<=1000000000):
  ∃u,BG cx 195 [Pt id o] h (I ((l.length:Int)-((DN CK CY l).length:Int))) (put h id o u)/\BZ (DN CK CY l) u:=by
 obtain⟨u,hr,hu⟩:=aAc hs hb aN O7;exact⟨u,by rw[Ae,i7];simp only[BE,hr.Ab],hu⟩
def aHN{id o:Nat}(hs:Mm h id o l)(hb:l.length<=1000000000)(node:Int):
  ∃u,BG cx 185 [Pt id o,I node] h (I ((l.length:Int)-((Hd node l).length:Int))) (put h id o u)/\BZ (Hd node l) u:=by
 by_cases F7:AV (Bz node) l<0;.obtain⟨u,e,hu⟩:=hs.fW;refine⟨u,?_,by rw[Hd,Af F7];exact hu⟩;rw[Hd,Af F7,Int.sub_self,Ae,WY];simp only[BE,(aL hs.at hb node).Ab,F7,AA,Aw,Aq];exact e
 .obtain⟨u,hr,hu⟩:=aAc hs hb O7 (lT node);refine⟨u,?_,by rw[Hd,Ad F7];exact hu⟩;rw[Hd,Ad F7,Ae,WY];simp only[BE,(aL hs.at hb node).Ab,F7,Az,Aw,Aq,hr.Ab]
end
end
section
section
variable{h:Ai}{p v:Aa}{l:List Item}
def aM7(hv:BZ l v){k:Nat}(hk:k<l.length)(hb:l.length<=1000000000):∃u,BG cx 369 [v,I (k:Int)] h u h/\BZ (Bg l k) u:=by obtain⟨r,j,h1⟩:=AU.ML hv (k:= .i64) (Ac:k<=l.length);obtain⟨q,i,h2⟩:=AU.FL h1 (b:=40) (Ru (by rw[Ax];omega));obtain⟨m,g,d⟩:=AU.Td hv (k:= .i64) (Ac:k+1<=l.length);obtain⟨a,e,c⟩:=AU.fS h2 d (b:=40) (Ru (by rw[Ax,Be];omega));refine⟨a,?_,c⟩;rw[Ae,kW];simp only[BE,j,i,BN (Ac:k<9223372036854775807),g,e]
def aAd{id o:Nat}(hs:Mm h id o l)(hb:l.length<=1000000000)(node:Int):∃u,BG cx 244 [Pt id o,I node] h (.bool (decide (1<=AV (Bz node) l))) (put h id o u)/\BZ (CX node l) u:=by
 by_cases F7:AV (Bz node) l<1;.obtain⟨u,e,hu⟩:=hs.fW;refine⟨u,?_,by rw[CX,Af F7];exact hu⟩;rw[Ae,Xc,<-e];simp only[BE,(aL hs.at hb node).Ab,F7,AA,Aw,Aq,(Ac:¬1<=AV (Bz node) l),DG]
 .rcases Dj (q:=Bz node) (l:=l) with⟨h1,_⟩|⟨k,hk,h1,_⟩
  .rw[h1] at F7;omega
  .obtain⟨v,hc,hv⟩:=(show Mm h id o l from hs);obtain⟨u,hr,hu⟩:=aM7 (h:=h) hv hk hb;refine⟨u,?_,by rw[CX,Ad F7,h1];exact hu⟩;rw[Ae,Xc];simp only[BE,(aL hs.at hb node).Ab,hc.load,Bt,h1];rw[h1] at F7;simp only[BE,hr.Ab,Bt,hc.store (BZ.cells hu),show¬(k:Int)<1 from F7,Az,Aw,Aq,(Ac:(1:Int)<=(k:Int)),Dw]
def aM8{id o:Nat}(hs:Mm h id o l)(hb:l.length<=1000000000)(a:Item)(i:Int):∃u,BG cx 336 [Pt id o,.agg a.row,I i] h (.tuple []) (put h id o u)/\BZ (l.take (E3 i l.length)++a::l.drop (E3 i l.length)) u:=by
 obtain⟨v,hc,hv⟩:=(show Mm h id o l from hs);obtain⟨u,hr,hu⟩:=aHI (h:=h) hv a (n:=E3 i l.length) (by unfold E3;omega) hb;refine⟨u,?_,hu⟩;rw[Ae,kH];have c:(if(l.length:Int)<(if i<1 then 1 else i) then(l.length:Int) else(if i<1 then 1 else i))=((E3 i l.length:Nat):Int):=by unfold E3;split<;>split<;>omega
 simp only[BE,E9,Sx,I2,hc.load,Bt,fO,AU.CN hv,wz,c,hr.Ab,hc.store (BZ.cells hu)]
def aM9(hv:BZ l v)(hne:l≠[])(hb:l.length<=1000000000):BG cx 429 [v] h (.CE h.length 0 l.length 4) (h++[.cells (l.map Item.row).flatten]):=by
 have d:AD (.Gu false .sl) [v,.slnil]=some (.bool false):=by
  rcases hv with rfl|⟨rfl,hv⟩
  .rfl
  .exact absurd (by simpa using hv) hne
 have c:AD (.Dk 4) []=some (.sl 4 []):=rfl;have a:=LN (h:=h) (s:= .sl 4 []) (z:=4) (b:=40) (.inr rfl) hv (by simpa using hne) (by rw[Ao];exact Ru Ac);rw[Ao] at a;rw[Ae,lQ];simp only[BE,d,c,a]
section
variable{id o n z:Nat}{v w:Aa}{X Y:Dx}{AE:List (List Aa)}
def At.next(ha:At h id o v):(Am.put h id o w++[X])[h.length]?=some X/\At (Am.put h id o w++[X]) id o w/\(Am.put h id o w++[X]).set h.length Y=Am.put h id o w++[Y]:=by have e:=JN (h:=h) (id:=id) (o:=o) (u:=w);refine⟨by rw[<-e];simp,ha.put.HQ,?_⟩;rw[BH _ _ Ac,<-e,C5];rfl
def At.fk(ha:At h id o v)(hv:KT h v=some (h,v)):Mz h 0 (Pt id o)=some h:=by have a:=ha.same;obtain⟨cs,hc,e⟩:=ha;simp only[Mz,hc,Bt,e,hv,Ct];rw[Iw hc] at a;rw[a]
def At.fm(ha:At h id o v)(hr:∀r∈AE,r.length=z):Mz (Am.put h id o (.CE h.length 0 AE.length z)++[.cells AE.flatten]) 0 (Pt id o)=some (Am.put h id o (.sl z AE)++[.CR]):=by obtain⟨d,c,a⟩:=ha.next (w:= .CE h.length 0 AE.length z) (X:= .cells AE.flatten) (Y:= .CR);have f1:=Ke hr d;rw[a] at f1;have a2:=(ha.next (w:= .CE h.length 0 AE.length z) (X:= .CR) (Y:= .CR)).2.1;obtain⟨cs,hc,e⟩:=c;obtain⟨S4,I7,g⟩:=a2;simp only[Mz,hc,Bt,e,f1,Ct,I7];rw[<-Iw (u:= .sl z AE) I7,fV ha.put,fU]
end
def aNa{id o:Nat}(hs:Mm h id o l)(hb:l.length<=1000000000)(node:Int)(a:Item):∃u t,BG cx 407 [Pt id o,I node,.agg a.row] h (.bool (decide (1<=AV (Bz node) l))) (put h id o u++t)/\BZ (Qj node a l) u:=by
 obtain⟨v,hc,hv⟩:=(show Mm h id o l from hs);by_cases F7:AV (Bz node) l<1;.refine⟨v,[],?_,by rw[Qj,Af F7];exact hv⟩;have c:=hc.fk (AU.PH hv);rw[Ae,Xi,hc.same,By];simp only[BE,E9,(aL hs.at hb node).Ab,F7,AA,Aw,Aq,c,(Ac:¬1<=AV (Bz node) l),DG]
 .rcases Dj (q:=Bz node) (l:=l) with⟨h1,_⟩|⟨k,hk,h1,_⟩
  .rw[h1] at F7;omega
  .have d:¬(k:Int)<1:=by rw[h1] at F7;exact F7
   have hne:l≠[]:=by intro e;subst e;simp at hk
   have hcl:=aM9 (h:=h) hv hne hb;have j:=(hc.HQ (t:=[Dx.cells (l.map Item.row).flatten])).store (u:= .CE h.length 0 l.length 4) rfl;rw[fV hc] at j;obtain⟨s,x,r⟩:=hc.next (w:= .CE h.length 0 l.length 4) (X:= .cells (l.map Item.row).flatten) (Y:= .cells ((l.map Item.row).set k a.row).flatten);have g:=Vy (z:=4) (xf l) s (i:=k) (by simpa using hk) (q:=a.row) rfl;rw[r] at g;have m:AD (.Ff 4) [.CE h.length 0 l.length 4,I (k:Int)]=some (Pt h.length (k*4)):=E1 hk;have c:=hc.fm (pL (xf l) (i:=k) (q:=a.row) rfl);rw[Bq,Ao] at c;refine⟨.sl 4 ((l.map Item.row).set k a.row),[.CR],?_,?_⟩;.rw[Ae,Xi];simp only[BE,E9,(aL hs.at hb node).Ab,h1,d,Az,Aw,Aq,hc.load,Bt,hcl.Ab,j,x.load,m,g,c,(Ac:(1:Int)<=(k:Int)),Dw]
   .rw[Qj,Ad F7,h1,AX,BZ,Et];exact .mk
def qV(hv:BZ l v)(hb:l.length<=1000000000)(i:Int):∃r h',BG cx 229 [v,I i] h r h'/\fX h (J0 l i) r h':=by
 have DH:AU 4 (l.map Item.row) v:=hv;obtain⟨k,hk,QF,hc⟩:∃k,k=min (max 1 i.toNat) l.length/\k<=l.length/\J0 l i=l.take k:=⟨_,rfl,Ac,by
  unfold J0;rcases Nat.le_total (max 1 i.toNat) l.length with h1|h1
  .rw[Cq h1]
  .rw[Nat.min_eq_right h1,Bx,AF h1]⟩
 obtain⟨u,e,hu⟩:=AU.ML hv (k:= .i64) QF;obtain⟨r,h',a,hr⟩:=Ġ (h:=h) (l:=l.take k) (v:=u) hu (by rw[Ax];omega);refine⟨r,h',?_,by rw[hc];exact hr⟩;rw[Ae,ŗ];simp only[BE,DH.CN];refine⟨λh1=>⟨λh2=>?_,λh2=>?_⟩,λh1=>⟨λh2=>?_,λh2=>?_⟩⟩
 .have:(k:Int)=(l.length:Int):=by omega
  rw[this] at e;simp only[BE,e,a]
 .have:(k:Int)=1:=by omega
  rw[this] at e;simp only[BE,e,a]
 .have:(k:Int)=(l.length:Int):=by omega
  rw[this] at e;simp only[BE,e,a]
 .have:(k:Int)=i:=by omega
  rw[this] at e;simp only[BE,e,a]
def aAe(hv:BZ l v)(hb:l.length<=1000000000):∃u t,BG cx 223 [v] h u (h++t)/\BZ (J0 l ((l.length:Int)-1)) u:=by obtain⟨r,h',hr,hc⟩:=qV (h:=h) hv hb ((l.length:Int)-1);obtain⟨u,t,e,hu⟩:=hc.PH;refine⟨u,t,?_,hu⟩;rw[Ae,œ];simp only[BE,AU.CN hv,Da (Ac: -9223372036854775808<=(l.length:Int)-1) (Ac:(l.length:Int)-1<9223372036854775808),hr.Ab,e]
def aHO(hv:BZ l v)(hb:l.length<=1000000000)(node:Int):∃u t,BG cx 219 [v,I node] h u (h++t)/\BZ (Hd node l) u:=by
 by_cases F7:AV (Bz node) l<0
 .obtain⟨r,h',hr,hc⟩:=qV (h:=h) hv hb (l.length:Int);obtain⟨u,t,e,hu⟩:=hc.PH;have a:J0 l (l.length:Int)=l:=by unfold J0;rw[AF Ac]
  refine⟨u,t,?_,by rw[VB,Af F7];rwa [a] at hu⟩;rw[Ae,bt];simp only[BE,(aM hv hb node).Ab,F7,AA,Aw,Aq,AU.CN hv,hr.Ab,e]
 .obtain⟨r,h',hr,hc⟩:=qV (h:=h) hv hb (AV (Bz node) l);obtain⟨u,t,e,hu⟩:=hc.PH;refine⟨u,t,?_,by rw[VB,Ad F7];exact hu⟩;rw[Ae,bt];simp only[BE,(aM hv hb node).Ab,F7,Az,Aw,Aq,hr.Ab,e]
end
end
section
section
variable{h:Ai}{p v w:Aa}{l:List Item}{ws:List Aj}
def f85(hv:BZ l v)(hb:l.length<=1000000000)(hw:Js ws w)(hn:ws.length<=1000000000):∃u t,BG cx 103 [v,w] h u (h++t)/\BZ (J0 l (AV (Bw ws) l)) u:=by
 have DH:AU 4 (l.map Item.row) v:=hv;have I9:Ev cx 103 [v,w] h λr h'=>∃t,h'=h++t/\BZ (J0 l (AV (Bw ws) l)) r:=by
  unfold Ev;rw[Ĳ];simp only[BE,DH.CN,Da (Ac: -9223372036854775808<=(l.length:Int)-1) (Ac:(l.length:Int)-1<9223372036854775808)];refine Bm (λn:Nat=>[.slnil,I ((n:Int)-1)]) (λn h1=>n<=l.length/\AV (Bw ws) l=AV (Bw ws) (l.take n)/\h1=h) (λn=>n) l.length rfl ⟨Ag _,by rw[Bx],rfl⟩ ?_;rintro n h1 ⟨za,ha,rfl⟩;cases n with
  |zero=>have i1:¬(0:Int)<=((0:Nat):Int)-1:=Ac;obtain⟨r,h',hr,hc⟩:=qV (h:=h1) hv hb 1;obtain⟨u,t,e,hu⟩:=hc.PH;rw[KN,Kg] at ha;simp only[BE,↓reduceIte,i1,Az,Aw,Aq,hr.Ab,e];exact⟨_,rfl,t,rfl,by rw[ha,xg];exact hu⟩
  |succ n=>
   have a:((n+1:Nat):Int)-1=(n:Int):=Ac;obtain⟨r,h',hr,hc⟩:=qV (h:=h1) hv hb (n:Int);obtain⟨u,t,e,hu⟩:=hc.PH;rw[Hb Ac] at ha;simp only[BE,Nat.reduceLeDiff,↓reduceIte,E9,a,(Ac:(0:Int)<=(n:Int)),AA,Aw,Aq,DH.BL (Ac:n<l.length),(f167 l[n] hw hn).Ab,hr.Ab,e,Da (Ac: -9223372036854775808<=(n:Int)-1) (Ac:(n:Int)-1<9223372036854775808)];rw[CS];refine⟨λhe=>?_,λhe=>?_⟩;.rw[Af he] at ha;exact⟨_,rfl,t,rfl,by rw[ha];exact hu⟩
   .rw[Ad (by simp[he])] at ha;exact AK.next n rfl ⟨Ac,ha,rfl⟩ Ac
 obtain⟨r,h',hr,t,rfl,hu⟩:=I9.ret;exact⟨r,t,hr,hu⟩
def f165(hv:BZ l v)(hb:l.length<=1000000000)(hl:∀a∈l,a.name.length<9223372036854775807)(s:Aj)(all:Bool):∃u t,BG cx 216 [v,.str s,.bool all] h u (h++t)/\BZ (DN (EU s all) CY l) u:=by
 have DH:AU 4 (l.map Item.row) v:=hv;have I9:Ev cx 216 [v,.str s,.bool all] h λr h'=>∃t,h'=h++t/\BZ (DN (EU s all) CY l) r:=by
  unfold Ev;rw[ō];simp only[BE,DH.CN];refine Bm (λn:Nat=>[I (n:Int)]) (λn h1=>n<=l.length/\(l=[]\/1<=n)/\DN (EU s all) CY l=DN (EU s all) CY (l.take n)/\h1=h) (λn=>n) l.length rfl ⟨Ag _,by cases l<;>simp,by rw[Bx],rfl⟩ ?_;rintro n h1 ⟨za,h0,ha,rfl⟩;have HN:DN (EU s all) CY l=l.take n->∃u t,KT h1 u=some (h1++t,u):=λ_=>⟨.slnil,[],by rw[By];rfl⟩;obtain⟨r,h',hr,hc⟩:=qV (h:=h1) hv hb (n:Int);obtain⟨u,t,e,hu⟩:=hc.PH;have j:J0 l (n:Int)=l.take n:=by
   unfold J0;rcases h0 with rfl|h0
   .simp
   .rw[AX,yI h0]
  rw[j] at hu;rcases AR 1 n with hlt|Eh
  .obtain⟨m,rfl⟩:∃m,n=m+2:=⟨n-2,Ac⟩;have hm:m+1<l.length:=Ac;have i1:(1:Int)<((m+2:Nat):Int):=Ac;have D:((m+2:Nat):Int)-1=((m+1:Nat):Int):=Ac;have hs:=hl _ (AN hm);rw[cJ hm] at ha;have next:EU s all l[m+1]=false->AK cx (λn:Nat=>[I (n:Int)]) (λn h2=>n<=l.length/\(l=[]\/1<=n)/\DN (EU s all) CY l=DN (EU s all) CY (l.take n)/\h2=h1) (λn=>n)
     (λx C=>match x with
      | .normal=> .fail
      | .exit i=>if i=0 then .call 229 [v,g C 0] λy=> .PH y λv22=> .ret .ret [v22] else .fail
      | .ret=> .PH .slnil λq=> .ret .ret [q])
     (λx vs h'=>x=DU.ret/\∃r,vs=[r]/\∃t,h'=h1++t/\BZ (DN (EU s all) CY l) r) (m+2) .normal [I ((m+1:Nat):Int)] h1:=λhf=>by
    rw[Ad (by simp[hf]),Ad (by simp[CY])] at ha;exact AK.next (m+1) rfl ⟨Ac,.inr Ac,ha,rfl⟩ Ac
   have stop:EU s all l[m+1]=true->∃r,[u]=[r]/\∃A,h1++t=h1++A/\BZ (DN (EU s all) CY l) r:=λhf=>by rw[Af hf] at ha;exact⟨_,rfl,t,rfl,by rw[ha];exact hu⟩
   simp only[BE,Nat.reduceLeDiff,↓reduceIte,E9,i1,AA,Aw,Aq,Da (Ac: -9223372036854775808<=((m+2:Nat):Int)-1) (Ac:((m+2:Nat):Int)-1<9223372036854775808),D,DH.BL hm,yz hs,y_ hs,hr.Ab,e];cases all with
   |true=>
    simp only[BE,Sv];refine⟨λd=>stop (by simp[EU,CK,d]),λd=>?_⟩;rw[CS];refine⟨λc=>stop ?_,λc=>?_⟩;.simp at c;simp[EU,CK,c]
    .simp at d c;exact next (by simp[EU,CK,d];exact c)
   |false=>
    simp only[BE,I2];refine⟨λd=>stop (by simp[EU,EA,d]),λd=>?_⟩;rw[CS];refine⟨λc=>stop ?_,λc=>?_⟩;.simp at c;simp[EU,EA,c]
    .refine⟨λB=>stop (by simp[EU,EA,B]),λB=>?_⟩;simp at d c;exact next (by simp[EU,EA,d,c,B])
  .have i1:¬(1:Int)<(n:Int):=by omega
   rw[YB (l:=l.take n) (by rw[Ax];omega)] at ha;simp only[BE,↓reduceIte,i1,Az,Aw,Aq,hr.Ab,e];exact⟨_,rfl,t,rfl,by rw[ha];exact hu⟩
 obtain⟨r,h',hr,t,rfl,hu⟩:=I9.ret;exact⟨r,t,hr,hu⟩
def aHQ(hv:BZ l v)(hb:l.length<=1000000000)(node:Int):∃u t,BG cx 138 [v,I node] h (.tuple [u,.bool (decide (1<=AV (Bz node) l))]) (h++t)/\BZ (CX node l) u:=by
 have m:∀(h:Ai) b,KT h (.bool b)=some (h,.bool b):=λ_ _=>rfl;by_cases F7:AV (Bz node) l<1
 .obtain⟨r,h',hr,hc⟩:=qV (h:=h) hv hb (l.length:Int);obtain⟨u,t,e,hu⟩:=hc.PH;have C:J0 l (l.length:Int)=l:=by unfold J0;rw[AF Ac]
  refine⟨u,t,?_,by rw[CX,Af F7];rwa [C] at hu⟩;rw[Ae,iB];simp only[BE,(aM hv hb node).Ab,F7,AA,Aw,Aq,AU.CN hv,hr.Ab,e,m,(Ac:¬1<=AV (Bz node) l),DG]
 .rcases Dj (q:=Bz node) (l:=l) with⟨h1,_⟩|⟨k,hk,h1,_⟩
  .rw[h1] at F7;omega
  .have d:¬(k:Int)<1:=by rw[h1] at F7;exact F7
   obtain⟨r,h',hr,hc⟩:=qV (h:=h) hv hb (k:Int);have i:J0 l (k:Int)=l.take k:=by unfold J0;rw[AX,yI Ac]
   rw[i] at hc;rcases hc with⟨h2,_⟩|⟨hne,rfl,rfl⟩
   .have:=Cc List.length h2;rw[Ax,BR] at this;omega
   .obtain⟨y,s,j⟩:=AU.Td hv (k:= .i64) (Ac:k+1<=l.length);have A:(l.take k).length=k:=by rw[Ax];omega
    have x:(h++[Dx.cells ((l.take k).map Item.row).flatten])[h.length]?=some (.cells ((l.take k).map Item.row).flatten):=AH;have c:=xf (l.take k);have g:((l.take k).map Item.row).length=(l.take k).length:=Ao ..;by_cases hd:l.drop (k+1)=[]
    .have a:Gj (h++[Dx.cells ((l.take k).map Item.row).flatten]) 4 40 (.CE h.length 0 (l.take k).length 4) y=some (h++[Dx.cells ((l.take k).map Item.row).flatten],.CE h.length 0 (l.take k).length 4):=vA (by rw[hd] at j;exact j);have f1:=Ke c x;rw[g,BH _ _ (Ag _),C5] at f1;refine⟨.sl 4 ((l.take k).map Item.row),[.CR],?_,?_⟩;.rw[Ae,iB];simp only[BE,(aM hv hb node).Ab,h1,d,Az,Aw,Aq,BN (Ac:k<9223372036854775807),s,hr.Ab,a,f1,m,Mb,(Ac:(1:Int)<=(k:Int)),Dw]
     .rw[CX,Ad F7,h1,AX,Bg,hd,By];exact .mk
    .have a:=JY (b:=40) c AP x j (by simpa using hd) (by rw[Ao,Ao,Ax,Be];exact Ru Ac);rw[g,Ao] at a;rw[BH _ _ (Ag _),C5,Mb,AI] at a;have D:(h++([Dx.CR]++[Dx.cells ((l.take k).map Item.row++(l.drop (k+1)).map Item.row).flatten]))[h.length+1]?=some (.cells ((Bg l k).map Item.row).flatten):=by rw[Bk Ac];simp[Bg]
     have f1:=Ke (xf (Bg l k)) D;have sN:(Bg l k).length=(l.take k).length+(l.drop (k+1)).length:=by simp[Bg]
     rw[Ao,sN] at f1;have B:(h++[Dx.CR,Dx.cells ((l.take k).map Item.row++(l.drop (k+1)).map Item.row).flatten]).set (h.length+1) .CR=h++[.CR,.CR]:=by rw[BH _ _ Ac];simp
     simp only[Au,A9,Cs,BT] at a f1;rw[B] at f1;refine⟨.sl 4 ((Bg l k).map Item.row),[.CR,.CR],?_,?_⟩;.rw[Ae,iB];simp only[BE,(aM hv hb node).Ab,h1,d,Az,Aw,Aq,BN (Ac:k<9223372036854775807),s,hr.Ab,a,f1,m,(Ac:(1:Int)<=(k:Int)),Dw]
     .rw[CX,Ad F7,h1,AX];exact .mk
def aNc(hv:BZ l v)(hb:l.length<=1000000000)(a:Item)(i:Int):∃u,BG cx 357 [v,.agg a.row,I i] h u h/\BZ (l.take (E3 i l.length)++a::l.drop (E3 i l.length)) u:=by
 have DH:AU 4 (l.map Item.row) v:=hv;obtain⟨k,qW,hk⟩:∃k,k=E3 i l.length/\k<=l.length:=⟨_,rfl,by unfold E3;omega⟩;obtain⟨x,d,h1⟩:=AU.ML hv (k:= .i64) hk;obtain⟨t,j,h2⟩:=AU.FL h1 (b:=40) (Ru (by rw[Ax];omega));have g:=AU.JD (a:=a) h2 (b:=40) (Ru (by rw[Ax];omega));obtain⟨s,c,r⟩:=AU.Td hv (k:= .i64) hk;obtain⟨q,e,m⟩:=AU.fS (v:= .sl 4 ((l.take k++[a]).map Item.row)) .mk r (b:=40) (Ru (by rw[Au,Ax,Be,A9];omega));refine⟨q,?_,by rw[AI] at m;rw[<-qW];exact m⟩;rw[Ae,ű];simp only[BE,E9,DH.CN];unfold E3 at qW;refine⟨λh1=>⟨λh2=>?_,λh2=>?_⟩,λh1=>⟨λh2=>?_,λh2=>?_⟩⟩
 .have:(k:Int)=(l.length:Int):=by omega
  rw[this] at d c;simp only[BE,d,j,MM,g,c,e]
 .have:(k:Int)=1:=by omega
  rw[this] at d c;simp only[BE,d,j,MM,g,c,e]
 .have:(k:Int)=(l.length:Int):=by omega
  rw[this] at d c;simp only[BE,d,j,MM,g,c,e]
 .have:(k:Int)=i:=by omega
  rw[this] at d c;simp only[BE,d,j,MM,g,c,e]
end
end
section
section
variable{e:Ck}{d:Aa}
end
section
variable{h:Ai}{v:Aa}{l:List Ck}{id o:Nat}
def f99(hc:At h id o v)(hv:Dt l v)(hb:l.length<=1000000000):BG cx 198 [Pt id o] h (I (since l)) h:=by
 have hv:AU 3 (l.map Ck.row) v:=hv;rw[Ae,jC];simp only[BE,hc.load,Bt,hv.CN];refine Bm (λn:Nat=>[I (n:Int)]) (λn h1=>n<=l.length/\since l=since (l.take n)/\h1=h) (λn=>n) l.length rfl ⟨Ag _,by rw[Bx],rfl⟩ ?_;rintro n h1 ⟨hn,ha,rfl⟩;cases n with
 |zero=>simp only[BE,(Ac:¬(0:Int)<((0:Nat):Int)),Az,Aw,Aq,ha,mi];rfl
 |succ n=>rw[YH hn] at ha;simp only[BE,(Ac:(0:Int)<((n+1:Nat):Int)),AA,Aw,Aq,hc.load,Bt,Iv (Ac:0<n+1) (Ac:n+1<9223372036854775807),Fb,hv.BL (show n<l.length from hn),Ck.at0];refine⟨λh0=>AK.next n rfl ⟨Ac,by rw[ha,Ad h0],rfl⟩ Ac,λh0=>?_⟩;rw[Af (by simpa using h0)] at ha;rw[ha];rfl
def aAf(hv:Dt l v)(hb:l.length<=1000000000):BG cx 228 [v] h (I (since l)) h:=by
 have hv:AU 3 (l.map Ck.row) v:=hv;rw[Ae,Ŗ];refine Bm (λn:Nat=>[I (since (l.take n)),I (n:Int)]) (λn h1=>n<=l.length/\h1=h) (λn=>l.length-n) 0 rfl ⟨AY _,rfl⟩ ?_;rintro n h1 ⟨hn,rfl⟩;rcases AR n l.length with hlt|Eh
 .have i1:(n:Int)<(l.length:Int):=by omega
  have a:=YH hlt;simp only[BE,hv.CN,i1,AA,Aw,Aq,hv.BL hlt,Ck.at0,BN (Ac:n<9223372036854775807)];refine⟨λh0=>?_,λh0=>?_⟩;.rw[Af h0] at a;exact AK.next (n+1) (by rw[a];rfl) ⟨hlt,rfl⟩ Ac
  .rw[Ad h0] at a;exact AK.next (n+1) (by rw[a]) ⟨hlt,rfl⟩ Ac
 .have i1:¬(n:Int)<(l.length:Int):=by omega
  simp only[BE,hv.CN,i1,Az,Aw,Aq,AF Eh]
def aNd(hc:At h id o v)(hv:Dt l v)(hb:l.length<=1000000000)(name:Aj):BG cx 330 [Pt id o,.str name] h (I (Oh name l)) h:=by
 have hv:AU 3 (l.map Ck.row) v:=hv;rw[Ae,j9];simp only[BE,Ik,hc.load,Bt,hv.CN,Da (Ac: -9223372036854775808<=(l.length:Int)-1) (Ac:(l.length:Int)-1<9223372036854775808)];refine Bm (λn:Nat=>[I 0,I ((n:Int)-1)]) (λn h1=>n<=l.length/\Oh name l=Oh name (l.take n)/\h1=h) (λn=>n) l.length rfl ⟨Ag _,by rw[Bx],rfl⟩ ?_;rintro n h1 ⟨hn,ha,rfl⟩;cases n with
 |zero=>have i1:¬(0:Int)<=((0:Nat):Int)-1:=Ac;rw[ha];simp only[BE,i1,Az,Aw,Aq,mj]
 |succ n=>
  have a:((n+1:Nat):Int)-1=(n:Int):=Ac;rw[Sd hn] at ha;simp only[BE,a,(Ac:(0:Int)<=(n:Int)),AA,Aw,Aq,hc.load,Bt,hv.BL (show n<l.length from hn),Ck.at0,Ck.aa,Da (Ac: -9223372036854775808<=(n:Int)-1) (Ac:(n:Int)-1<9223372036854775808)];refine⟨λh0=>⟨λh1=>?_,λh1=>?_⟩,λh0=>?_⟩;.rw[ha,Ad h0,Af h1]
  .exact AK.next n rfl ⟨Ac,by rw[ha,Ad h0,Ad h1],rfl⟩ Ac
  .rw[ha,Af (by simpa using h0)]
def aNe(hv:Dt l v)(hb:l.length<=1000000000)(name:Aj):BG cx 353 [v,.str name] h (I (Oh name l)) h:=by
 have DH:AU 3 (l.map Ck.row) v:=hv;obtain⟨s,es,J9,c,g⟩:=J1 l;have f:=aAf (h:=h) hv hb;rw[es] at f;rw[Ae,Ů];simp only[f.Ab];refine Bm (λn:Nat=>[I (Oh name (l.take n)),I (n:Int)]) (λn h1=>s<=n/\n<=l.length/\h1=h) (λn=>l.length-n) s (by rw[pY es]) ⟨Ag _,J9,rfl⟩ ?_;rintro n h1 ⟨b,hn,rfl⟩;rcases AR n l.length with hlt|Eh
 .have i1:(n:Int)<(l.length:Int):=by omega
  have a:=Sd (name:=name) hlt;rw[Ad (c n hlt b)] at a;simp only[BE,DH.CN,i1,AA,Aw,Aq,DH.BL hlt,Ck.aa,BN (Ac:n<9223372036854775807)];refine⟨λh0=>?_,λh0=>?_⟩;.rw[Af h0] at a;exact AK.next (n+1) (by rw[a]) ⟨Ac,hlt,rfl⟩ Ac
  .rw[Ad h0] at a;exact AK.next (n+1) (by rw[a]) ⟨Ac,hlt,rfl⟩ Ac
 .have i1:¬(n:Int)<(l.length:Int):=by omega
  simp only[BE,DH.CN,i1,Az,Aw,Aq,AF Eh]
def f41(hc:At h id o v)(hv:Dt l v)(hb:l.length<=1000000000)(node:Int):BG cx 188 [Pt id o,I node] h (I (HF node l)) h:=by
 have hv:AU 3 (l.map Ck.row) v:=hv;rw[Ae,iX];simp only[BE,Ik,hc.load,Bt,hv.CN,Da (Ac: -9223372036854775808<=(l.length:Int)-1) (Ac:(l.length:Int)-1<9223372036854775808)];refine⟨λh0=>by rw[HF,Af h0],λh0=>?_⟩;rw[HF,Ad h0];refine Bm (λn:Nat=>[I 0,I ((n:Int)-1)]) (λn h1=>n<=l.length/\AV (Ql node) l=AV (Ql node) (l.take n)/\h1=h) (λn=>n) l.length rfl ⟨Ag _,by rw[Bx],rfl⟩ ?_;rintro n h1 ⟨hn,ha,rfl⟩;cases n with
 |zero=>have i1:¬(0:Int)<=((0:Nat):Int)-1:=Ac;rw[ha];simp only[BE,i1,Az,Aw,Aq,Kg]
 |succ n=>
  have a:((n+1:Nat):Int)-1=(n:Int):=Ac;rw[Hb hn] at ha;simp only[BE,a,(Ac:(0:Int)<=(n:Int)),AA,Aw,Aq,hc.load,Bt,hv.BL (show n<l.length from hn),Ck.at0,Da (Ac: -9223372036854775808<=(n:Int)-1) (Ac:(n:Int)-1<9223372036854775808)];refine⟨λh1=>?_,λh1=>?_⟩;.rw[ha,Af (by simpa[Ql] using h1)]
  .exact AK.next n rfl ⟨Ac,by rw[ha,Ad (by simpa[Ql] using h1)],rfl⟩ Ac
def aNg(hv:Dt l v)(hb:l.length<=1000000000)(node:Int):BG cx 222 [v,I node] h (I (HF node l)) h:=by
 have DH:AU 3 (l.map Ck.row) v:=hv;rw[Ae,Œ];refine Bm (λn:Nat=>[I (HF node (l.take n)),I (n:Int)]) (λn h1=>n<=l.length/\h1=h) (λn=>l.length-n) 0 (by simp[HF,Kg]) ⟨AY _,rfl⟩ ?_;rintro n h1 ⟨hn,rfl⟩;rcases AR n l.length with hlt|Eh
 .have i1:(n:Int)<(l.length:Int):=by omega
  have a:HF node (l.take (n+1))=if node=0 then -1 else if l[n].c.node=node then(n:Int) else AV (Ql node) (l.take n):=by unfold HF;rw[Hb hlt];simp[Ql]
  simp only[BE,DH.CN,i1,AA,Aw,Aq,DH.BL hlt,Ck.at0,BN (Ac:n<9223372036854775807)];refine⟨λh0=>⟨λh1=>?_,λh1=>?_⟩,λh0=>?_⟩;.exact AK.next (n+1) (by rw[a,Ad h0,Af h1]) ⟨hlt,rfl⟩ Ac
  .exact AK.next (n+1) (by rw[a,Ad h0,Ad h1,HF,Ad h0]) ⟨hlt,rfl⟩ Ac
  .have h0:node=0:=by simpa using h0
   exact AK.next (n+1) (by rw[a,Af h0,HF,Af h0]) ⟨hlt,rfl⟩ Ac
 .have i1:¬(n:Int)<(l.length:Int):=by omega
  simp only[BE,DH.CN,i1,Az,Aw,Aq,AF Eh]
end
section
variable{h:Ai}{v:Aa}{l:List A5}
def aHS(hv:Bi l v)(hb:l.length<=1000000000)(x:A5):BG cx 382 [v,.agg x.row] h (.bool (decide (x∈l))) h:=by
 have hv:AU 3 (l.map A5.row) v:=hv;rw[Ae,Ŷ];simp only[BE,A5.CP,A5.g0,A5.g1,A5.g2,A5.Qh];refine Bm (λn:Nat=>[.bool false,I (n:Int)]) (λn h1=>n<=l.length/\x∉l.take n/\h1=h) (λn=>l.length-n) 0 rfl ⟨AY _,AH,rfl⟩ ?_;rintro n h1 ⟨hn,ha,rfl⟩;rcases AR n l.length with hlt|Eh
 .have i1:(n:Int)<(l.length:Int):=by omega
  simp only[BE,hv.CN,i1,AA,Aw,Aq,hv.BL hlt,A5.CP,A5.If,Ag,pV,ß,BN (Ac:n<9223372036854775807)];refine⟨λh0=>?_,λh0=>?_⟩
  .have:x∈l:=by rw[<-h0];exact AN hlt
   simp[this]
  .refine AK.next (n+1) rfl ⟨hlt,?_,rfl⟩ Ac;rw[AB hlt,Ay,NP];exact⟨ha,by simpa using λe=>h0 e.symm⟩
 .have i1:¬(n:Int)<(l.length:Int):=by omega
  rw[AF Eh] at ha;simp only[BE,hv.CN,i1,Az,Aw,Aq,Ah ha]
def aNh(hv:Bi l v)(hb:l.length<=1000000000)(x:A5):BG cx 425 [v,.agg x.row] h (I (Co (λa=>decide (x=a)) 0 l)) h:=by
 have hv:AU 3 (l.map A5.row) v:=hv;rw[Ae,lM];simp only[BE,hv.CN,A5.CP,A5.g0,A5.g1,A5.g2,A5.Qh];refine Bm (λn:Nat=>[I 0,I (n:Int)]) (λn h1=>n<=l.length/\Co (λa=>decide (x=a)) 0 l=Co (λa=>decide (x=a)) n (l.drop n)/\h1=h) (λn=>l.length-n) 0 rfl ⟨AY _,rfl,rfl⟩ ?_;rintro n h1 ⟨hn,ha,rfl⟩;rcases AR n l.length with hlt|Eh
 .have i1:(n:Int)<(l.length:Int):=by omega
  rw[AG hlt,Co] at ha;simp only[BE,i1,AA,Aw,Aq,hv.BL hlt,A5.CP,A5.If,Ag,pV,ß,BN (Ac:n<9223372036854775807)];refine⟨λh0=>?_,λh0=>?_⟩;.rw[ha,Af (by simpa using h0)]
  .exact AK.next (n+1) rfl ⟨hlt,by rw[ha,Ad (by simpa using h0)],rfl⟩ Ac
 .have i1:¬(n:Int)<(l.length:Int):=by omega
  rw[AZ Eh,Co] at ha;simp only[BE,i1,Az,Aw,Aq,ha]
def aNi(hv:Bi l v)(hb:l.length<=1000000000)(x:A5):BG cx 401 [v,.agg x.row] h (.bool (decide (x∈l))) h:=by
 rw[Ae,lE];simp only[BE,A5.CP,A5.g0,A5.g1,A5.g2,A5.Qh,(aNh hv hb x).Ab];rcases HV (p:=λa=>decide (x=a)) (l:=l) (k:=0) with⟨h1,h2⟩|⟨n,a,h1,h2,b⟩
 .rw[h1];have:x∉l:=λhm=>by have:=Jz.1 h2 x hm;simp at this
  simp[this]
 .have hm:=CC h2;have he:x=a:=by simpa using VR b
  have hx:x∈l:=by rw[he];exact hm
  rw[h1];simp[hx]
def qX(F:Aa)(h:Ai)(q:A5->Bool):Prop:=∃f caps,F= .func (.func f) [] caps/\f<=99999/\∀a:A5,BG cx f (.agg a.row::caps) h (.bool (q a)) h
def aHT{F:Aa}{q:A5->Bool}(hv:Bi l v)(hb:l.length<=1000000000)(hF:qX F h q):BG cx 309 [v,F] h (I (Co q 0 l)) h:=by
 have hv:AU 3 (l.map A5.row) v:=hv;obtain⟨f,caps,rfl,hf,hr⟩:=hF;rw[Ae,Tt];simp only[BE,hv.CN];refine Bm (λn:Nat=>[I 0,I (n:Int)]) (λn h1=>n<=l.length/\Co q 0 l=Co q n (l.drop n)/\h1=h) (λn=>l.length-n) 0 rfl ⟨AY _,rfl,rfl⟩ ?_;rintro n h1 ⟨za,ha,rfl⟩;rcases AR n l.length with hlt|Eh
 .have i1:(n:Int)<(l.length:Int):=by omega
  rw[AG hlt,Co] at ha;simp only[BE,↓reduceIte,Dh,hf,i1,AA,Aw,Aq,hv.BL hlt,A5.CP,A5.If,Ag,(hr l[n]).Ab];rw[CS];refine⟨λhe=>?_,λhe=>?_⟩;.rw[ha,Af he]
  .rw[Ad (by simp[he])] at ha;simp only[BE,BN (Ac:n<9223372036854775807)];exact AK.next (n+1) rfl ⟨hlt,ha,rfl⟩ Ac
 .have i1:¬(n:Int)<(l.length:Int):=by omega
  rw[AZ Eh,Co] at ha;simp only[BE,↓reduceIte,Dh,hf,i1,Az,Aw,Aq,ha]
def aHU{F:Aa}{q:A5->Bool}(hv:Bi l v)(hb:l.length<=1000000000)(hF:qX F h q):BG cx 191 [v,F] h (.bool (l.any q)) h:=by
 rw[Ae,WZ];simp only[BE,(aHT hv hb hF).Ab];have:l.any q=(l.find? q).isSome:=by rw[Pk,List.find?_isSome,TV]
 rw[this];rcases HV (p:=q) (l:=l) (k:=0) with⟨h1,h2⟩|⟨n,a,h1,h2,b⟩
 .rw[h1,h2];simp
 .rw[h1,b];simp
def aNj(hv:Bi l v)(hb:l.length<=1000000000)(x:A5):BG cx 400 [.agg x.row,.CI [v]] h (.bool (!decide (x∈l))) h:=by rw[Ae,lD];simp only[BE,A5.CP,A5.g0,A5.g1,A5.g2,A5.Qh,(aNi hv hb x).Ab]
def aHV{b:List A5}{w:Aa}(hv:Bi l v)(hb:l.length<=1000000000)(hw:Bi b w)(OC:b.length<=1000000000):BG cx 399 [v,w] h (.bool (decide (∀x∈l,x∈b))) h:=by
 have hF:qX (.func (.func 400) [] [.CI [w]]) h λx=> !decide (x∈b):=⟨400,_,rfl,AP,λa=>aNj hw OC a⟩;have e:(!l.any λx=> !decide (x∈b))=decide (∀x∈l,x∈b):=by rw[Pk];simp
 rw[Ae,lC,<-e];simp only[BE,AU.cells hw,(aHU hv hb hF).Ab]
def aNk{a b:Ck}(ha:ZQ a)(hb:ZQ b):BG cx 317 [.agg a.row,.agg b.row] h (.bool (GO a.c b.c)) h:=by
 have g:=aHV (h:=h) a.ok ha b.ok hb;have r2:=aHV (h:=h) b.ok hb a.ok ha;rw[Ae,jV];simp only[BE,Nat.reduceLeDiff,↓reduceIte,Dh,By,Ck.CP,Ck.g1,Ck.g2,Ck.Ģ,g.Ab,r2.Ab];refine⟨λh1=>⟨λh2=>⟨λf=>?_,λf=>?_⟩,λh2=>?_⟩,λh1=>?_⟩
 .have bP:a.c.Av.length=b.c.Av.length:=by omega
  simp only[GO,h1,bP,M5];congr 3
  rw[eq_iff_iff];exact⟨λh=>⟨f,h⟩,λh=>h.2⟩
 .simp[GO,f]
 .have bP:¬a.c.Av.length=b.c.Av.length:=by omega
  simp[GO,bP]
 .simp[GO,h1]
def f241{a b:Ck}(ha:ZQ a)(hb:ZQ b):BG cx 282 [.agg a.row,.agg b.row] h (.bool (GO a.c b.c)) h:=by
 have i:AU 3 (a.c.Av.map A5.row) a.v:=a.ok;have vb:AU 3 (b.c.Av.map A5.row) b.v:=b.ok;unfold ZQ at ha hb;rw[Ae,ŝ];simp only[BE,Ck.CP,Ck.g1,Ck.g2,Ck.Ģ];refine⟨λh1=>?_,λh1=>⟨λh2=>?_,λh2=>?_⟩⟩;.simp[GO,h1]
 .have bP:¬a.c.Av.length=b.c.Av.length:=by omega
  simp[GO,bP]
 have h1:a.c.name=b.c.name:=by simpa using h1
 have h2:a.c.Av.length=b.c.Av.length:=Ac;refine Bm (λn:Nat=>[.bool false,I (n:Int)]) (λn h1=>n<=a.c.Av.length/\(∀x∈a.c.Av.take n,x∈b.c.Av)/\(∀x∈b.c.Av.take n,x∈a.c.Av)/\h1=h) (λn=>a.c.Av.length-n) 0 rfl ⟨AY _,AH,AH,rfl⟩ ?_;rintro n h1 ⟨hn,Z9,Pz,rfl⟩;rcases AR n a.c.Av.length with hlt|Eh
 .have i1:(n:Int)<(a.c.Av.length:Int):=by omega
  have aAg:n<b.c.Av.length:=Ac;have k:=AN hlt;have j:=AN aAg;simp only[BE,Ck.Ģ,i1,AA,Aw,Aq,i.BL hlt,vb.BL aAg,A5.CP,A5.If,Ag,(aHS b.ok hb _).Ab,(aHS a.ok ha _).Ab,BN (Ac:n<9223372036854775807)];rw[CS,CS];refine⟨λg=>?_,λg=>⟨λf=>?_,λf=>?_⟩⟩
  .have g:a.c.Av[n]∉b.c.Av:=by simpa using g
   have:GO a.c b.c=false:=by simp only[GO,TQ];exact λh=>g (h.2.2.1 _ k)
   rw[this]
  .have f:b.c.Av[n]∉a.c.Av:=by simpa using f
   have:GO a.c b.c=false:=by simp only[GO,TQ];exact λh=>f (h.2.2.2 _ j)
   rw[this]
  .have g:a.c.Av[n]∈b.c.Av:=by simpa using g
   have f:b.c.Av[n]∈a.c.Av:=by simpa using f
   refine AK.next (n+1) rfl ⟨hlt,?_,?_,rfl⟩ Ac
   .rw[AB hlt];intro x hx;rcases Ay.1 hx with hx|hx
    .exact Z9 x hx
    .rw[BP.1 hx];exact g
   .rw[AB aAg];intro x hx;rcases Ay.1 hx with hx|hx
    .exact Pz x hx
    .rw[BP.1 hx];exact f
 .have i1:¬(n:Int)<(a.c.Av.length:Int):=by omega
  rw[AF Eh] at Z9;rw[AF Ac] at Pz;have:GO a.c b.c=true:=by simp only[GO,CO];exact⟨by assumption,h2,Z9,Pz⟩
  rw[this];simp only[BE,Ck.Ģ,i1,Az,Aw,Aq]
end
end
section
def BK{Q:HO}{h:Ai}{a:Aa}{k:IT}:W cx (.same a a k) Q h↔W cx k Q h:=by refine⟨λhw=>?_,so (Aa.Th a)⟩;obtain⟨m,x',Ia,h',hr,q⟩:=hw.succ;simp only[IT.step,Aa.Th,BJ] at hr;exact C9 ⟨m,x',Ia,h',hr,q⟩
section
variable{h:Ai}{v:Aa}{l:List Ck}{id o:Nat}
def f45{l:List A5}(hv:Bi l v)(hb:l.length<=1000000000):∃u,BG cx 147 [v] h u h/\Bi l u:=by
 have hv:AU 3 (l.map A5.row) v:=hv;rcases hv with rfl|⟨rfl,hn⟩
 .refine⟨.sl 3 (l.map A5.row),?_,.mk⟩;have b:AD (.Gu false .sl) [.sl 3 (l.map A5.row),.slnil]=some (.bool false):=rfl;have f:AD (.Dk 3) []=some (.sl 3 []):=rfl;have c:Rh h 3 40 (.sl 3 []) (.sl 3 (l.map A5.row))=some (.sl 3 (l.map A5.row)):=by
   simp only[Rh,Hj,BJ,Ct];cases l with
   |nil=>rfl
   |cons a l=>have:(l.length+1)*40<=AW:=Ru (by simp at hb;omega);simp[DM,this]
  rw[Ae,WS,aEg];simp only[BE,b,f,c]
 .refine⟨.slnil,?_,?_⟩;.have b:AD (.Gu false .sl) [.slnil,.slnil]=some (.bool true):=rfl;rw[Ae,WS,aEg];simp only[BE,b]
  .exact .inr ⟨rfl,hn⟩
def zb{e:Ck}(he:ZQ e):∃a:Ck,a.c=e.c/\BG cx 319 [.agg e.row] h (.agg a.row) h:=by obtain⟨u,r,hu⟩:=f45 (h:=h) e.ok he;refine⟨⟨e.c,u,hu⟩,rfl,?_⟩;rw[Ae,jX];simp only[BE,Ck.CP,Ck.g0,Ck.g1,Ck.g2,r.Ab,AU.cells hu];rfl
def aNl{e:Ck}(he:ZQ e):∃a:Ck,a.c=e.c/\BG cx 227 [.agg e.row] h (.agg a.row) h:=by obtain⟨u,r,hu⟩:=AU.FL (f:=A5.row) e.ok (b:=40) (Ru (by unfold ZQ at he;omega));refine⟨⟨e.c,u,hu⟩,rfl,?_⟩;rw[Ae,ŕ];simp only[BE,Ck.CP,Ck.g0,Ck.g1,Ck.g2,r,AU.cells hu];rfl
def aNm(hv:Dt l v){k:Nat}(hk:k<l.length)(hb:l.length<=1000000000):∃u,BG cx 318 [v,I (k:Int)] h u h/\Dt (Bg l k) u:=by obtain⟨r,m,h1⟩:=AU.ML hv (k:= .i64) (Ac:k<=l.length);obtain⟨q,j,h2⟩:=AU.FL h1 (b:=48) (Qk (by rw[Ax];omega));obtain⟨p,i,f⟩:=AU.Td hv (k:= .i64) (Ac:k+1<=l.length);obtain⟨a,g,c⟩:=AU.fS h2 f (b:=48) (Qk (by rw[Ax,Be];omega));refine⟨a,?_,c⟩;rw[Ae,jW];simp only[BE,m,j,BN (Ac:k<9223372036854775807),i,g]
def zc(hv:Dt l v)(e:Ck){k:Nat}(hk:k<=l.length)(hb:l.length<=1000000000):∃u,BG cx 196 [v,.agg e.row,I (k:Int)] h u h/\Dt (l.take k++e::l.drop k) u:=by obtain⟨x,r,h1⟩:=AU.ML hv (k:= .i64) hk;obtain⟨w,q,h2⟩:=AU.FL h1 (b:=48) (Qk (by rw[Ax];omega));have p:=AU.JD (a:=e) h2 (b:=48) (Qk (by rw[Ax];omega));obtain⟨t,m,i⟩:=AU.Td hv (k:= .i64) hk;obtain⟨g,j,c⟩:=AU.fS (f:=Ck.row) (l:=l.take k++[e]) .mk i (b:=48) (Qk (by rw[Au,Ax,Be,A9];omega));refine⟨g,?_,by rw[AI] at c;exact c⟩;rw[Ae,jA];simp only[BE,Ck.CP,Ck.g0,Ck.g1,Ck.g2,Ck.Qh,r,q,Mv Ck.CP,p,m,j]
def aEs(hv:Dt l v)(hne:l≠[])(hb:l.length<=1000000000):BG cx 181 [v] h (.CE h.length 0 l.length 3) (h++[.cells (l.map Ck.row).flatten]):=by
 have f:AD (.Gu false .sl) [v,.slnil]=some (.bool false):=by
  rcases hv with rfl|⟨rfl,hv⟩
  .rfl
  .exact absurd (by simpa using hv) hne
 have c:AD (.Dk 3) []=some (.sl 3 []):=rfl;have a:=LN (h:=h) (s:= .sl 3 []) (z:=3) (b:=48) (.inr rfl) hv (by simpa using hne) (by rw[Ao];exact Qk Ac);rw[Ao] at a;rw[Ae,Ts];simp only[BE,f,c,a]
def f63(hs:Um h id o l)(hb:l.length<=1000000000):∃u,BG cx 80 [Pt id o] h (.tuple []) (put h id o u)/\Dt (l++[fZ]) u:=by obtain⟨v,hc,hv⟩:=(show Um h id o l from hs);obtain⟨u,hr,hu⟩:=zc (h:=h) hv fZ (Ag l.length) hb;rw[Bx,Eu] at hu;refine⟨u,?_,hu⟩;rw[Ae,wQ];simp only[BE,↓reduceIte,AT,Sx,I2,hc.load,Bt,AU.CN hv,xh,hr.Ab,hc.store (Dt.cells hu)]
def aNo(hs:Um h id o l)(hb:l.length<=1000000000){e:Ck}(he:ZQ e)(i:Int):∃u a,a.c=e.c/\BG cx 335 [Pt id o,.agg e.row,I i] h (.tuple []) (put h id o u)/\Dt (l.take (CJ i l.length)++a::l.drop (CJ i l.length)) u:=by
 obtain⟨v,hc,hv⟩:=(show Um h id o l from hs);obtain⟨a,P7,b⟩:=zb (h:=h) he;obtain⟨u,hr,hu⟩:=zc (h:=h) hv a (k:=CJ i l.length) (by unfold CJ;omega) hb;refine⟨u,a,P7,?_,hu⟩;have f:(if(l.length:Int)<(if i<0 then 0 else i) then(l.length:Int) else(if i<0 then 0 else i))=((CJ i l.length:Nat):Int):=by unfold CJ;split<;>split<;>omega
 rw[Ae,kG];simp only[BE,Ck.CP,Ck.g0,Ck.g1,Ck.g2,Ck.Qh,Sx,I2,hc.load,Bt,fO,AU.CN hv,wz,f,b.Ab,BK,hr.Ab,hc.store (Dt.cells hu)]
def f65(hs:Um h id o l)(hb:l.length<=1000000000):∃u,BG cx 83 [Pt id o] h (I ((l.length:Int)-((EV l:Nat):Int))) (put h id o u)/\Dt (l.take (EV l)) u:=by
 obtain⟨v,hc,hv⟩:=(show Um h id o l from hs);obtain⟨s,es,J9,_⟩:=J1 l;have hcl:EV l<=l.length:=by unfold EV;omega
 obtain⟨u,b,hu⟩:=AU.ML hv (k:= .i64) hcl;refine⟨u,?_,hu⟩;have a:(if since l-1<0 then 0 else since l-1)=((EV l:Nat):Int):=by unfold EV;split<;>omega
 have tK:(l.take (EV l)).length=EV l:=by rw[Ax];omega
 have c:At (put h id o u) id o u:=hc.put;rw[Ae,wR];simp only[BE,Ik,hc.load,Bt,AU.CN hv,(f99 hc hv hb).Ab,BK,Da (Ac: -9223372036854775808<=since l-1) (Ac:since l-1<9223372036854775808),fO,a,b,hc.store (AU.cells hu),c.load,AU.CN hu,tK,Da (Ac: -9223372036854775808<=(l.length:Int)-((EV l:Nat):Int)) (Ac:(l.length:Int)-((EV l:Nat):Int)<9223372036854775808)]
end
end
section
section
variable{e:Cb}{l:List Ck}{n s:Nat}
end
section
variable{h:Ai}{v:Aa}{l:List Ck}{id o:Nat}
def f30(hs:Um h id o l)(hb:l.length<=900000000)(hl:∀x∈l,ZQ x){e:Ck}(he:ZQ e):∃u a,a.c=e.c/\BG cx 170 [Pt id o,.agg e.row] h (.tuple []) (put h id o u)/\Dt (Lg e.c l++[a]) u:=by
 obtain⟨v,hc,hv⟩:=(show Um h id o l from hs);have DH:AU 3 (l.map Ck.row) v:=hv;have Im:=hs.lt;obtain⟨s,es,J9,q,_⟩:=J1 l;have I9:Ev cx 170 [Pt id o,.agg e.row] h λr h'=>r= .tuple []/\∃(a:Ck) (u:Aa),a.c=e.c/\h'=put h id o u/\Dt (Lg e.c l++[a]) u:=by
  unfold Ev;rw[iI];by_cases h0:e.c.node=0;.obtain⟨a,P7,b⟩:=zb (h:=h) he;obtain⟨u,r2,hu⟩:=zc (h:=h) hv a (Ag l.length) Ac;rw[Bx,Eu] at hu;simp only[BE,Ck.CP,Ck.g0,Ck.g1,Ck.g2,Ik,h0,B7,AA,Aq,Aw,Az,hc.load,Bt,DH.CN];rw[<-h0,Ck.Qh];simp only[BE,b.Ab,BK,hc.load,Bt,r2.Ab,hc.store (Dt.cells hu)];refine⟨_,rfl,rfl,a,u,P7,rfl,?_⟩;rw[Lg,Ad (λh=>h.1 h0)];exact hu
  .simp only[BE,Ck.CP,Ck.g0,Ck.g1,Ck.g2,Ck.Qh,Ik,h0,B7,AA,Aq,Aw,Az,hc.load,Bt,DH.CN,Da (Ac: -9223372036854775808<=(l.length:Int)-1) (Ac:(l.length:Int)-1<9223372036854775808)];refine Bm (λp:Int×Nat×Nat=>[I p.1,I (p.2.1:Int),I ((p.2.2:Int)-1)])
    (λp h1=>s<=p.2.2/\p.2.2<=l.length/\p.2.1+p.2.2<=l.length/\Ti e.c l=p.2.1+Ti e.c (l.take p.2.2)/\(Oi e.c l=if 0<=Oi e.c (l.take p.2.2) then Oi e.c (l.take p.2.2) else if p.2.1=0 then -1 else p.1)/\(p.2.1=0\/∃k:Nat,k<l.length/\p.1=(k:Int))/\h1=h)
    (λp=>p.2.2) (0,0,l.length) rfl ⟨J9,Ag _,AH,AH,by
     rw[Bx];have:∀l:List Ck,-1<=vL e.c l:=by
      intro l;induction l with
      |nil=>exact GI _
      |cons x t ih=>rw[vL];split<;>(try split)<;>(try split)<;>omega
     have:=this l.reverse;simp only[BJ];unfold Oi;split<;>omega,.inl rfl,rfl⟩ ?_
   rintro⟨B,f,n⟩ h1 ⟨a1,a2,a3,a4,a5,a6,rfl⟩;simp only at a1 a2 a3 a4 a5 a6;have j:=f99 hc hv Ac;rw[es] at j;rcases AR s n with hlt|Eh
   .obtain⟨n,rfl⟩:∃m,n=m+1:=⟨n-1,Ac⟩;have A:((n+1:Nat):Int)-1=(n:Int):=Ac;have hn:n<l.length:=a2;have g:=q n hn Ac;rw[Un hn,Ad g] at a4;rw[Uo hn,Ad g] at a5;have b:=aNk (h:=h1) (hl _ (AN hn)) he;simp only[BE,A,j.Ab,(Ac:(s:Int)<=(n:Int)),AA,Aq,Aw,hc.load,Bt,DH.BL hn,Ck.CP,Ck.If,Ag,b.Ab,BN (Ac:f<9223372036854775807),Da (Ac: -9223372036854775808<=(n:Int)-1) (Ac:(n:Int)-1<9223372036854775808)];rw[CS];refine⟨λh2=>?_,λh2=>?_⟩
    .rw[Af h2] at a4 a5;refine AK.next ((n:Int),f+1,n) rfl ⟨Dv,Dv,Dv,Dv,?_,.inr ⟨n,hn,rfl⟩,rfl⟩ Dv;simp only
     rw[a5];by_cases hf:0<=Oi e.c (l.take n);.simp[hf]
     .simp[hf,(Ac:(0:Int)<=(n:Int))]
    .rw[Ad (by simp[h2])] at a4;rw[Ad (show¬GO l[n].c e.c=true by simp[h2])] at a5;refine AK.next (B,f,n) rfl ⟨Dv,Dv,Dv,Dv,?_,a6,rfl⟩ Dv;simp only
     rw[a5];by_cases hf:0<=Oi e.c (l.take n);.simp[hf]
     .simp[hf]
   .obtain rfl:n=s:=by omega
    obtain⟨b1,b2⟩:=YJ (e:=e.c) es;rw[b1,Bt] at a4;rw[b2,Ad AP] at a5;simp only[BE,j.Ab,(Ac:¬(n:Int)<=(n:Int)-1),Aq,Aw,Az];by_cases C:3<=f
    .rcases a6 with a6|⟨k,hk,rfl⟩
     .omega
     rw[Ad Ac] at a5;obtain⟨i,b,Py⟩:=aNm (h:=h1) hv hk Ac;have ZN:(Bg l k).length<=l.length:=by unfold Bg;rw[Au,Ax,Be];omega
     have w:At (put h1 id o i) id o i:=hc.put;obtain⟨a,P7,r2⟩:=zb (h:=put h1 id o i) he;obtain⟨y,z,IG⟩:=zc (h:=put h1 id o i) Py a (Ag (Bg l k).length) Ac;rw[Bx,Eu] at IG;simp only[BE,(Ac:(3:Int)<=(f:Int)),AA,Aq,Aw,hc.load,Bt,b.Ab,hc.store (Dt.cells Py),w.load,AU.CN Py,r2.Ab,BK,z.Ab,w.store (Dt.cells IG),fU];refine⟨_,rfl,rfl,a,y,P7,rfl,?_⟩;rw[Lg,Af ⟨h0,Ac⟩,a5,AX];exact IG
    .obtain⟨a,P7,b⟩:=zb (h:=h1) he;obtain⟨u,r2,hu⟩:=zc (h:=h1) hv a (Ag l.length) Ac;rw[Bx,Eu] at hu;simp only[BE,(Ac:¬(3:Int)<=(f:Int)),Aq,Aw,Az,hc.load,Bt,DH.CN,b.Ab,BK,r2.Ab,hc.store (Dt.cells hu)];refine⟨_,rfl,rfl,a,u,P7,rfl,?_⟩;rw[Lg,Ad Ac];exact hu
 obtain⟨r,h',hr,rfl,a,u,P7,rfl,hu⟩:=I9.ret;exact⟨u,a,P7,hr,hu⟩
end
end
section
section
variable{h:Ai}{v:Aa}{l:List Ck}{id o:Nat}
def aNp(hs:Um h id o l)(hb:l.length<=900000000)(node:Int){e:Ck}(he:ZQ e):∃u t a,a.c=e.c/\BG cx 408 [Pt id o,I node,.agg e.row] h (.bool (decide (0<=HF node l))) (put h id o u++t)/\Dt (if HF node l<0 then l else l.set (HF node l).toNat a) u:=by
 obtain⟨v,hc,hv⟩:=(show Um h id o l from hs);rcases pZ node l with h1|⟨k,hk,h1⟩
 .refine⟨v,[],e,rfl,?_,by rw[h1];exact hv⟩;have b:=hc.fk (AU.PH hv);rw[Ae,Xj,hc.same,By];simp only[BE,Ck.CP,(f41 hc hv Ac node).Ab,h1,(AP:(-1:Int)<0),AA,Aw,Aq,b];rfl
 .have hne:l≠[]:=by intro e;subst e;simp at hk
  have hcl:=aEs (h:=h) hv hne Ac;have g:=(hc.HQ (t:=[Dx.cells (l.map Ck.row).flatten])).store (u:= .CE h.length 0 l.length 3) rfl;rw[fV hc] at g;obtain⟨a,P7,j⟩:=zb (h:=put h id o (.CE h.length 0 l.length 3)++[Dx.cells (l.map Ck.row).flatten]) he;obtain⟨r,x,p⟩:=hc.next (w:= .CE h.length 0 l.length 3) (X:= .cells (l.map Ck.row).flatten) (Y:= .cells ((l.map Ck.row).set k a.row).flatten);have f:=Vy (z:=3) (O1 l) r (i:=k) (by simpa using hk) (q:=a.row) rfl;rw[p] at f;have m:AD (.Ff 3) [.CE h.length 0 l.length 3,I (k:Int)]=some (Pt h.length (k*3)):=E1 hk;have b:=hc.fm (pL (O1 l) (i:=k) (q:=a.row) rfl);rw[Bq,Ao] at b;refine⟨.sl 3 ((l.map Ck.row).set k a.row),[.CR],a,P7,?_,?_⟩;.rw[Ae,Xj];simp only[BE,Ck.CP,Ck.g0,Ck.g1,Ck.g2,Ck.Qh,(f41 hc hv Ac node).Ab,h1,(Ac:¬(k:Int)<0),Az,Aw,Aq,hc.load,Bt,hcl.Ab,g,x.load,j.Ab,BK,m,f,b,(Ac:(0:Int)<=(k:Int)),Dw]
  .rw[h1,Ad Ac,AX,<-Et];exact .mk
def aHW(hv:Dt l v)(hb:l.length<=900000000){k:Nat}(hk:k<l.length):∃u,BG cx 283 [v,I (k:Int)] h u h/\Dt (Bg l k) u:=by
 have DH:AU 3 (l.map Ck.row) v:=hv;have I9:Ev cx 283 [v,I (k:Int)] h λr h'=>h'=h/\Dt (Bg l k) r:=by
  unfold Ev;rw[Ş];refine Bm (λp:Nat×Aa=>[p.2,I (p.1:Int)]) (λp h1=>p.1<=l.length/\Dt (if p.1<=k then l.take p.1 else Bg (l.take p.1) k) p.2/\h1=h) (λp=>l.length-p.1) (0,.slnil) rfl ⟨AY _,by rw[Af (AY _)];exact .nil,rfl⟩ ?_;rintro⟨n,u⟩ h1 ⟨hn,hu,rfl⟩;simp only at hn hu;have inc:=BN (Ac:n<9223372036854775807);rcases AR n l.length with hlt|Eh
  .have i1:(n:Int)<(l.length:Int):=by omega
   have elem:=DH.BL (k:= .i64) hlt;have hlen:(if n<=k then l.take n else Bg (l.take n) k).length<=l.length:=by
    split;.rw[Ax];omega
    .unfold Bg;rw[Au,Ax,Be,Ax];omega
   have f:=AU.JD (a:=l[n]) hu (b:=48) (Qk Ac);simp only[BE,DH.CN,i1,AA,Aw,Aq,elem,Ck.CP,Ck.If,Ag,Mv Ck.CP,f,inc];refine⟨λh0=>?_,λh0=>?_⟩
   .refine AK.next (n+1,_) rfl ⟨hlt,?_,rfl⟩ Dv;have h0:n≠k:=Ac;have:(if n+1<=k then l.take (n+1) else Bg (l.take (n+1)) k)=(if n<=k then l.take n else Bg (l.take n) k)++[l[n]]:=by
     rw[AB hlt];by_cases c:n<k;.rw[Af Ac,Af Ac]
     .rw[Ad Ac,Ad Ac];unfold Bg;rw[CM (by rw[Ax];omega),Jp (by rw[Ax];omega),AI]
    simp only
    rw[this];exact .mk
   .refine AK.next (n+1,u) rfl ⟨hlt,?_,rfl⟩ Dv;obtain rfl:n=k:=Ac;have:(if n+1<=n then l.take (n+1) else Bg (l.take (n+1)) n)=l.take n:=by rw[Ad Ac];unfold Bg;rw[FC,Cq Ac,AZ (by rw[Ax];omega),By]
    simp only
    rw[this];rw[Af (Ag _)] at hu;exact hu
  .have i1:¬(n:Int)<(l.length:Int):=by omega
   rw[Ad Ac,AF Eh] at hu;simp only[BE,DH.CN,i1,Az,Aw,Aq];exact⟨_,rfl,hu⟩
 obtain⟨r,h',hr,rfl,hu⟩:=I9.ret;exact⟨r,hr,hu⟩
def f82(hv:Dt l v)(hb:l.length<=900000000){e:Ck}(he:ZQ e)(i:Int):∃u m,m.c=e.c/\BG cx 100 [v,.agg e.row,I i] h u h/\Dt (l.take (CJ i l.length)++m::l.drop (CJ i l.length)) u:=by
 obtain⟨m,P7,z⟩:=aNl (h:=h) he;have key:∀k:Nat,k<=l.length->∃r t q p,AD (.K6 3 false false true) [v,I (k:Int)]=some r/\AD (.append 3 48) [.slnil,r]=some t/\AD (.append 3 48) [t,.sl 3 [m.row]]=some (.sl 3 ((l.take k++[m]).map Ck.row))/\AD (.K6 3 false true false) [v,I (k:Int)]=some q/\AD (.append 3 48) [.sl 3 ((l.take k++[m]).map Ck.row),q]=some p/\Dt (l.take k++m::l.drop k) p:=by intro k hk;obtain⟨r,j,h1⟩:=AU.ML hv (k:= .i64) hk;obtain⟨t,y,h2⟩:=AU.FL h1 (b:=48) (Qk (by rw[Ax];omega));have x:=AU.JD (a:=m) h2 (b:=48) (Qk (by rw[Ax];omega));obtain⟨q,g,B⟩:=AU.Td hv (k:= .i64) hk;obtain⟨p,w,A⟩:=AU.fS (f:=Ck.row) (l:=l.take k++[m]) .mk B (b:=48) (Qk (by rw[Au,Ax,Be,A9];omega));exact⟨r,t,q,p,j,y,x,g,w,by rw[AI] at A;exact A⟩
 obtain⟨r,t,q,p,j,y,x,g,w,hu⟩:=key (CJ i l.length) (by unfold CJ;omega);refine⟨p,m,P7,?_,hu⟩;have DH:AU 3 (l.map Ck.row) v:=hv;rw[Ae,İ];by_cases h1:i<0
 .have:CJ i l.length=0:=by unfold CJ;omega
  rw[this] at j g;have j:AD (.K6 3 false false true) [v,I 0]=some r:=j;have g:AD (.K6 3 false true false) [v,I 0]=some q:=g;simp only[BE,Ck.CP,Ck.g0,Ck.g1,Ck.g2,Ck.Qh,h1,AA,Az,Aw,Aq,DH.CN,(Ac:¬(l.length:Int)<0),j,y,z.Ab,Mv Ck.CP,x,g,w]
 .by_cases h2:(l.length:Int)<i
  .have:CJ i l.length=l.length:=by unfold CJ;omega
   rw[this] at j g;simp only[BE,Ck.CP,Ck.g0,Ck.g1,Ck.g2,Ck.Qh,h1,h2,AA,Az,Aw,Aq,DH.CN,j,y,z.Ab,Mv Ck.CP,x,g,w]
  .have:((CJ i l.length:Nat):Int)=i:=by unfold CJ;omega
   rw[this] at j g;simp only[BE,Ck.CP,Ck.g0,Ck.g1,Ck.g2,Ck.Qh,h1,h2,Az,Aw,Aq,DH.CN,j,y,z.Ab,Mv Ck.CP,x,g,w]
def f84(hv:Dt l v)(hb:l.length<=900000000):∃u,BG cx 102 [v] h u h/\Dt (l.take (EV l)) u:=by
 obtain⟨s,es,J9,_⟩:=J1 l;have hcl:EV l<=l.length:=by unfold EV;omega
 obtain⟨u,a,hu⟩:=AU.ML hv (k:= .i64) hcl;obtain⟨f,c,IG⟩:=AU.FL hu (b:=48) (Qk (by rw[Ax];omega));refine⟨f,?_,IG⟩;rw[Ae,ı];by_cases h1:since l-1<0
 .have:EV l=0:=by unfold EV;omega
  rw[this] at a;have a:AD (.K6 3 false false true) [v,I 0]=some u:=a;simp only[BE,(aAf hv Ac).Ab,Da (Ac: -9223372036854775808<=since l-1) (Ac:since l-1<9223372036854775808),h1,AA,Aw,Aq,a,c]
 .have:((EV l:Nat):Int)=since l-1:=by unfold EV;omega
  rw[this] at a;simp only[BE,(aAf hv Ac).Ab,Da (Ac: -9223372036854775808<=since l-1) (Ac:since l-1<9223372036854775808),h1,Az,Aw,Aq,a,c]
def aHX(hv:Dt l v)(hb:l.length<=900000000)(hl:∀x∈l,ZQ x){e:Ck}(he:ZQ e):∃u a,a.c=e.c/\BG cx 137 [v,.agg e.row] h u h/\Dt (Lg e.c l++[a]) u:=by
 have DH:AU 3 (l.map Ck.row) v:=hv;obtain⟨s,es,J9,j,_⟩:=J1 l;have I9:Ev cx 137 [v,.agg e.row] h λr h'=>h'=h/\∃a:Ck,a.c=e.c/\Dt (Lg e.c l++[a]) r:=by
  unfold Ev;rw[ĸ];have t:=aAf (h:=h) hv Ac;rw[es] at t;obtain⟨b1,b2⟩:=YJ (e:=e.c) es;simp only[BE,Ck.CP,Ck.g0,Ck.g1,Ck.g2,Ck.Qh,t.Ab];refine Bm (λn:Nat=>[I (Oi e.c (l.take n)),I (Ti e.c (l.take n):Int),I (n:Int)])
   (λn h1=>s<=n/\n<=l.length/\Ti e.c (l.take n)<=n/\((Ti e.c (l.take n)=0/\Oi e.c (l.take n)= -1)\/∃k:Nat,k<n/\Oi e.c (l.take n)=(k:Int))/\h1=h) (λn=>l.length-n) s (by rw[b1,b2];rfl) ⟨Ag _,J9,Ac,.inl ⟨b1,b2⟩,rfl⟩ ?_
  rintro n h1 ⟨a1,a2,a3,a4,rfl⟩;rcases AR n l.length with hlt|Eh
  .have i1:(n:Int)<(l.length:Int):=by omega
   have m:=j n hlt a1;have f:=Un (e:=e.c) hlt;have b:=Uo (e:=e.c) hlt;rw[Ad m] at f b;have i:=f241 (h:=h1) (hl _ (AN hlt)) he;simp only[BE,DH.CN,i1,AA,Aq,Aw,DH.BL hlt,Ck.CP,Ck.If,Ag,i.Ab,BN (Ac:Ti e.c (l.take n)<9223372036854775807),BN (Ac:n<9223372036854775807)];rw[CS];refine⟨λh2=>⟨λp=>?_,λp=>?_⟩,λh2=>?_⟩;.rw[Af h2] at f b;rw[Ad Ac] at b;refine AK.next (n+1) (by rw[f,b]) ⟨Ac,hlt,Ac,.inr ⟨n,Ac,b⟩,rfl⟩ Ac
   .rw[Af h2] at f b;rw[Af Ac] at b;refine AK.next (n+1) (by rw[f,b]) ⟨Ac,hlt,Ac,.inr ?_,rfl⟩ Ac;rw[b];rcases a4 with⟨_,a4⟩|⟨k,hk,a4⟩
    .omega
    .exact⟨k,Ac,a4⟩
   .rw[Ad (by simp[h2])] at f;rw[Ad (show¬GO l[n].c e.c=true by simp[h2])] at b;have g:Oi e.c (l.take (n+1))=Oi e.c (l.take n):=by rw[b];rcases a4 with⟨_,a4⟩|⟨k,hk,a4⟩<;>rw[a4]<;>simp
    refine AK.next (n+1) (by rw[f,g];rfl) ⟨Ac,hlt,Ac,?_,rfl⟩ Ac;rw[f,g];rcases a4 with a4|⟨k,hk,a4⟩
    .exact .inl a4
    .exact .inr ⟨k,Ac,a4⟩
  .have i1:¬(n:Int)<(l.length:Int):=by omega
   rw[AF Eh] at a3 a4⊢;simp only[BE,DH.CN,i1,Aq,Aw,Az];refine⟨λh2=>⟨λp=>?_,λp=>?_⟩,λh2=>?_⟩
   .rcases a4 with⟨a4,_⟩|⟨k,hk,a4⟩
    .omega
    have QF:k<l.length:=Ac;obtain⟨w,i,Py⟩:=aHW (h:=h1) hv hb QF;have hlen:(Bg l k).length<=l.length:=by unfold Bg;rw[Au,Ax,Be];omega
    obtain⟨q,a,P7,r2,IG⟩:=f82 (h:=h1) Py Ac he ((Bg l k).length:Int);have hcl:CJ ((Bg l k).length:Int) (Bg l k).length=(Bg l k).length:=by unfold CJ;omega
    rw[hcl,Bx,Eu] at IG;simp only[BE,a4,i.Ab,AU.CN Py,r2.Ab];refine⟨_,rfl,a,P7,?_⟩;rw[Lg,Af ⟨h2,Ac⟩,a4,AX];exact IG
   .obtain⟨q,a,P7,r2,IG⟩:=f82 (h:=h1) hv hb he (l.length:Int);have hcl:CJ (l.length:Int) l.length=l.length:=by unfold CJ;omega
    rw[hcl,Bx,Eu] at IG;simp only[BE,r2.Ab];refine⟨_,rfl,a,P7,?_⟩;rw[Lg,Ad Ac];exact IG
   .obtain⟨q,a,P7,r2,IG⟩:=f82 (h:=h1) hv hb he (l.length:Int);have hcl:CJ (l.length:Int) l.length=l.length:=by unfold CJ;omega
    rw[hcl,Bx,Eu] at IG;simp only[BE,r2.Ab];refine⟨_,rfl,a,P7,?_⟩;rw[Lg,Ad (λh=>h2 h.1)];exact IG
 obtain⟨r,h',hr,rfl,a,P7,hu⟩:=I9.ret;exact⟨r,a,P7,hr,hu⟩
end
end
def Wl:List A5->Aa
 |[]=> .slnil
 |x::l=> .sl 3 ((x::l).map A5.row)
def Xl{l:List A5}:Bi l (Wl l):=by cases l;exact .inr ⟨rfl,rfl⟩;exact .inl rfl
def nu{l:List A5}{x:A5}:Wl (l++[x])= .sl 3 ((l++[x]).map A5.row):=by cases l<;>rfl
structure PN where
 x:EW
 kv:Aa
 av:Aa
 ok:av=Wl x.Av
def PN.row(p:PN):List Aa:=[I p.x.kind,I p.x.FV,p.kv,I p.x.CG,I p.x.Bb,.str p.x.name,p.av,.str p.x.data,.str p.x.qp,.str p.x.sys,.bool p.x.CL,I p.x.cont,I p.x.Eo]
def PN.CP{p:PN}:p.row.length=13:=rfl
def PN.zero:PN:=⟨{},.slnil,.slnil,rfl⟩
def pN(ps:List PN)(x:Int):PN:=ps.getD (x.toNat-1) PN.zero
def B8(n:Int):List Aa:=[I n]
def DX(l:List Int)(v:Aa):Prop:=AU 1 (l.map B8) v
def KD(h:Ai)(kv:Aa)(l:List Int):Prop:=(kv= .slnil/\l=[])\/∃id cs,kv= .CE id 0 l.length 1/\h[id]?=some (.cells (l.map (Aa.int .i64)++cs))
def HY:Aa->Option Nat
 | .CE id _ _ _=>some id
 |_=>none
def fo(l:List (Int×Int)):Prop:=(l.map (·.1)).Nodup/\∀p∈l,k_ p.1=true/\k_ p.2=true
def Y8(h:Ai)(m:Option Nat)(f:Int->Int):Prop:=(m=none/\∀k,f k=0)\/∃(id:Nat) (l:List (Int×Int)),m=some id/\h[id]?=some (.map (l.map λx:Int×Int=>(I x.1,I x.2)))/\(∀k,(l.find? λx=>decide (k=x.1)).map (·.2)=if f k=0 then none else some (f k))/\fo l
def Gt(a n:Nat)(m:Option Nat)(ps:List PN):List Nat:=a::n::(m.toList++ps.filterMap λp=>HY p.kv)
structure PA(h:Ai)(a n:Nat)(m:Option Nat)(ps:List PN)(A:Ar):Prop where
 e:A.n=ps.map PN.x
 il:A.i.length=A.n.length
 ha:h[a]?=some (.cells [.CE n 0 ps.length 13,.map m])
 hn:h[n]?=some (.cells (ps.map PN.row).flatten)
 ks:∀p∈ps,KD h p.kv p.x.Bc
 nd:(Gt a n m ps).Nodup
 mp:Y8 h m A.inr
structure DC(h:Ai)(F:Nat->Prop)(h':Ai)(F':Nat->Prop):Prop where
 len:h.length<=h'.length
 old:∀i,i<h.length->¬F i->h'[i]?=h[i]?
 Bs:∀i,F' i->F i\/h.length<=i
section
variable{h h' h'' t:Ai}{F F' F'':Nat->Prop}
def DC.refl:DC h F h F:=⟨Ag _,λ_ _ _=>rfl,λ_ h=> .inl h⟩
def DC.trans(x:DC h F h' F')(y:DC h' F' h'' F''):DC h F h'' F'':=
 ⟨Br x.len y.len,λi hi hF=>by
  rw[y.old i (Jv hi x.len) (λh=>by rcases x.Bs i h with h|h;exact hF h;omega)];exact x.old i hi hF,λi hi=>by
  rcases y.Bs i hi with h|h
  .exact x.Bs i h
  .exact .inr (Br x.len h)⟩
def DC.HQ:DC h F (h++t) F:=⟨AH,λi hi _=>Ak hi,λ_ h=> .inl h⟩
end
def PW(h:Ai)(F:Nat->Prop)(a:Nat)(A:Ar):Prop:=∃n m ps,PA h a n m ps A/\∀i,F i↔i∈Gt a n m ps
section
variable{h h':Ai}{a n:Nat}{m:Option Nat}{ps:List PN}{A:Ar}{x:Int}{F:Nat->Prop}
def KD.Dl{kv:Aa}{l:List Int}(hk:KD h kv l)(hf:∀id,HY kv=some id->h'[id]?=h[id]?):KD h' kv l:=by
 rcases hk with⟨rfl,rfl⟩|⟨id,cs,rfl,hc⟩
 .exact .inl ⟨rfl,rfl⟩
 .exact .inr ⟨id,cs,rfl,by rw[hf id rfl];exact hc⟩
def Y8.Dl{f:Int->Int}(hk:Y8 h m f)(hf:∀id,m=some id->h'[id]?=h[id]?):Y8 h' m f:=by
 rcases hk with h1|⟨id,l,rfl,hc,h2⟩
 .exact .inl h1
 .exact .inr ⟨id,l,rfl,by rw[hf id rfl];exact hc,h2⟩
def LR{p:PN}{id:Nat}(hp:p∈ps)(hk:HY p.kv=some id):id∈Gt a n m ps:=by unfold Gt;simp only[AS,Ay];exact .inr (.inr (.inr (Cj.2 ⟨p,hp,hk⟩)))
def PA.Dl(w:PA h a n m ps A)(hf:∀i∈Gt a n m ps,h'[i]?=h[i]?):PA h' a n m ps A:=
 ⟨w.e,w.il,by rw[hf a (by simp[Gt])];exact w.ha,by rw[hf n (by simp[Gt])];exact w.hn,λp hp=>(w.ks p hp).Dl λid hk=>hf id (LR hp hk),w.nd,w.mp.Dl λid hm=>hf id (by simp[Gt,hm])⟩
def PA.lt(w:PA h a n m ps A):∀i∈Gt a n m ps,i<h.length:=by
 intro i hi;unfold Gt at hi;simp only[AS,Ay,Cj] at hi;rcases hi with rfl|rfl|hi|⟨p,hp,hk⟩
 .exact(An.1 w.ha).1
 .exact(An.1 w.hn).1
 .rcases w.mp with⟨rfl,_⟩|⟨id,l,rfl,hc,_⟩
  .simp at hi
  .simp at hi;subst hi;exact(An.1 hc).1
 .rcases w.ks p hp with⟨e,_⟩|⟨id,cs,e,hc⟩
  .rw[e] at hk;cases hk
  .rw[e] at hk;cases hk;exact(An.1 hc).1
def PW.Dl(w:PW h F a A)(hf:∀i,F i->h'[i]?=h[i]?):PW h' F a A:=by obtain⟨n,m,ps,w,e⟩:=w;exact⟨n,m,ps,w.Dl λi hi=>hf i ((e i).2 hi),e⟩
def PW.lt(w:PW h F a A){i:Nat}(hi:F i):i<h.length:=by obtain⟨n,m,ps,w,e⟩:=w;exact w.lt i ((e i).1 hi)
def PA.zd(w:PA h a n m ps A):A.n.length=ps.length:=by rw[w.e,Ao]
def PA.at(w:PA h a n m ps A)(hx:A.has x):x.toNat-1<ps.length/\((x.toNat-1:Nat):Int)=x-1:=by have:=w.zd;unfold Ar.has at hx;omega
def PA.pn(w:PA h a n m ps A)(hx:A.has x):ps[x.toNat-1]?=some (pN ps x)/\(pN ps x).x=A.nd x/\pN ps x∈ps:=by
 have h1:=(w.at hx).1;have h2:ps[x.toNat-1]?=some ps[x.toNat-1]:=Ap h1;have b:pN ps x=ps[x.toNat-1]:=by unfold pN;rw[AJ,h2];rfl
 refine⟨by rw[b];exact h2,?_,by rw[b];exact AN _⟩;unfold Ar.nd;rw[Af hx,w.e,b,AJ,Cn,h2];rfl
def LS{AE:List (List Aa)}{z i k:Nat}(hr:∀r∈AE,r.length=z)(hk:k<z){r:List Aa}(hi:AE[i]?=some r):AE.flatten[i*z+k]?=r[k]?:=by
 have h1:(AE.flatten.drop (i*z))[k]?=r[k]?:=by rw[Ja hr];obtain⟨hlt,e⟩:=An.1 hi;rw[AG hlt,e,CZ,Ak (by rw[hr r (e▸AN hlt)];exact hk)]
 rwa [Cr] at h1
def qY(l:List PN):∀r∈l.map PN.row,r.length=13:=MJ (f:=PN.row) (λ_=>PN.CP) l
def nP(n:Nat)(x:Int):Nat:=(x.toNat-1)*13
def PA.Qd(w:PA h a n m ps A)(hx:A.has x){k:Nat}(hk:k<13):A7 h none (Pt n (nP n x+k))=(pN ps x).row[k]?:=by unfold nP;simp only[A7,w.hn,E8];exact LS (qY ps) hk (by rw[Cn,(w.pn hx).1];rfl)
def Wm(w:PA h a n m ps A):BG cx 54 [Pt a 0,I x] h (.bool (decide (A.has x))) h:=by
 have d:A7 h none (Pt a 0)=some (.CE n 0 ps.length 13):=by simp only[A7,w.ha];rfl
 have c:AD (.len false) [.CE n 0 ps.length 13]=some (I (ps.length:Int)):=rfl;rw[Ae,wC];simp only[abS,d,c];have hl:=w.zd;have b:A.has x↔1<=x/\x<=(ps.length:Int):=by unfold Ar.has;rw[hl]
 refine⟨λh1=>?_,λh1=>?_⟩;.congr 2;rw[Dd,b];exact⟨λh=>⟨h1,h⟩,λh=>h.2⟩
 .rw[Ah (λh=>h1 (b.1 h).1)]
def PA.nodes(w:PA h a n m ps A):A7 h none (Pt a 0)=some (.CE n 0 ps.length 13):=by simp only[A7,w.ha];rfl
def PA.len(w:PA h a n m ps A):((ps.length:Nat):Int)=A.len:=by unfold Ar.len;rw[w.zd]
def aBT(w:PA h a n m ps A){l:List Int}{v:Aa}(hv:DX l v)(hb:l.length<=1000):BG cx 236 [Pt a 0,v] h (I (if∀x∈l,A.has x then 0 else 3)) h:=by
 have hv:AU 1 (l.map B8) v:=hv;rw[Ae,jL];simp only[abS,hv.CN];refine Bm (λk:Nat=>[I 0,I (k:Int)]) (λk h1=>k<=l.length/\(∀x∈l.take k,A.has x)/\h1=h) (λk=>l.length-k) 0 rfl ⟨AY _,AH,rfl⟩ ?_;rintro k h1 ⟨hk,ha,rfl⟩;rcases AR k l.length with hlt|Eh
 .have i1:(k:Int)<(l.length:Int):=by omega
  have c:A7 h1 none (.CI (B8 l[k]))=some (I l[k]):=rfl;simp only[BE,ZP,i1,hv.BL hlt,c,(Wm (x:=l[k]) w).Ab,BN (Ac:k<9223372036854775807)];rw[CS];refine⟨λh2=>?_,λh2=>?_⟩
  .have h2:¬A.has l[k]:=by simpa using h2
   rw[Ad (λb=>h2 (b _ (AN hlt)))]
  .have h2:A.has l[k]:=by simpa using h2
   refine AK.next (k+1) rfl ⟨hlt,?_,rfl⟩ Ac;intro x hx;rw[AB hlt,Ay,BP] at hx;rcases hx with hx|rfl
   .exact ha x hx
   .exact h2
 .have i1:¬(k:Int)<(l.length:Int):=by omega
  rw[AF Eh] at ha;simp only[abS,i1,Af ha]
def UA(w:PA h a n m ps A):BG cx 236 [Pt a 0,.sl 1 [[I x]]] h (I (if A.has x then 0 else 3)) h:=by have:=aBT w (l:=[x]) (v:= .sl 1 [[I x]]) .mk AH;simpa using this
def L9{y:Int}(w:PA h a n m ps A):BG cx 236 [Pt a 0,.sl 1 [[I x],[I y]]] h (I (if A.has x/\A.has y then 0 else 3)) h:=by have:=aBT w (l:=[x,y]) (v:= .sl 1 [[I x],[I y]]) .mk AH;simpa using this
def HI{x:Int}:AD (.Dk 1) [I x]=some (.sl 1 [[I x]]):=rfl
def FO{x y:Int}:AD (.Dk 1) [I x,I y]=some (.sl 1 [[I x],[I y]]):=rfl
def NS.of(b:NS A)(hx:A.has x):1<=x/\x<=1000000000:=by have:=b.n;unfold Ar.has at hx;omega
def Jg(w:PA h a n m ps A)(b:NS A)(hx:A.has x):BG cx 153 [Pt a 0,I x] h (Pt n (nP n x)) h:=by
 have hr:=b.of hx;have d:=(w.at hx).2;have c:AD (.Ff 13) [.CE n 0 ps.length 13,I (x-1)]=some (Pt n (nP n x)):=by rw[<-d];exact E1 (w.at hx).1
 rw[Ae,WT];simp only[abS,w.nodes,Da (Ac: -9223372036854775808<=x-1) (Ac:x-1<9223372036854775808),c]
def PA.f0(w:PA h a n m ps A)(hx:A.has x):A7 h none (Pt n (nP n x))=some (I (A.nd x).kind):=by have:=w.Qd hx (k:=0) AP;rw[<-(w.pn hx).2.1];exact this
def PA.f1(w:PA h a n m ps A)(hx:A.has x):A7 h none (Pt n (nP n x+1))=some (I (A.nd x).FV):=by have:=w.Qd hx (k:=1) AP;rw[<-(w.pn hx).2.1];exact this
def PA.f2(w:PA h a n m ps A)(hx:A.has x):A7 h none (Pt n (nP n x+2))=some (pN ps x).kv:=by have:=w.Qd hx (k:=2) AP;exact this
def PA.f4(w:PA h a n m ps A)(hx:A.has x):A7 h none (Pt n (nP n x+4))=some (I (A.nd x).Bb):=by have:=w.Qd hx (k:=4) AP;rw[<-(w.pn hx).2.1];exact this
def PA.f5(w:PA h a n m ps A)(hx:A.has x):A7 h none (Pt n (nP n x+5))=some (.str (A.nd x).name):=by have:=w.Qd hx (k:=5) AP;rw[<-(w.pn hx).2.1];exact this
def PA.f6(w:PA h a n m ps A)(hx:A.has x):A7 h none (Pt n (nP n x+6))=some (pN ps x).av:=by have:=w.Qd hx (k:=6) AP;exact this
def PA.Nl(w:PA h a n m ps A)(hx:A.has x):KD h (pN ps x).kv (A.nd x).Bc:=by rw[<-(w.pn hx).2.1];exact w.ks _ (w.pn hx).2.2
def PA.ze(w:PA h a n m ps A)(hx:A.has x):(pN ps x).av=Wl (A.nd x).Av:=by rw[<-(w.pn hx).2.1];exact(pN ps x).ok
def PA.row(w:PA h a n m ps A)(hx:A.has x):A7 h (some 13) (Pt n (nP n x))=some (.agg (pN ps x).row):=by
 have h1:((ps.map PN.row).flatten.drop (nP n x)).take 13=(pN ps x).row/\nP n x+13<=(ps.map PN.row).flatten.length:=by unfold nP;have hlt:=(w.at hx).1;have hg:=(w.pn hx).1;rw[Ja (qY ps),FY (qY ps),Ao];refine⟨?_,Ac⟩;rw[<-JR,AG hlt,Bj,CZ];rw[Ap hlt,BC] at hg;rw[hg];exact H8 PN.CP
 simp only[A7,w.hn,No];rw[Af h1.2,h1.1]
def NL:∀{l:List Int} {cs Z4:List Aa},Cz (Z4++(l.map (Aa.int .i64)++cs)) 1 Z4.length l.length=l.map B8
 |[],_,_=>rfl
 |x::l,cs,Z4=>by have:=NL (l:=l) (cs:=cs) (Z4:=Z4++[I x]);simp only[AI,Au,A9] at this;simp only[Bj,Bd,Cz,Cs];rw[JL rfl];simp only[Cs,BT] at this;rw[this];rfl
def KD.AE{kv:Aa}{l:List Int}(hk:KD h kv l):Hj h 1 kv=some (l.map B8):=by
 rcases hk with⟨rfl,rfl⟩|⟨id,cs,rfl,hc⟩
 .rfl
 .have:=NL (l:=l) (cs:=cs) (Z4:=[]);simp only[BT,BR] at this;simp only[Hj,BJ,hc,this];rw[Af AH]
def KD.len{kv:Aa}{l:List Int}(hk:KD h kv l):AD (.len false) [kv]=some (I (l.length:Int)):=by rcases hk with⟨rfl,rfl⟩|⟨id,cs,rfl,hc⟩<;>rfl
def aBU{kv:Aa}{l:List Int}(hk:KD h kv l)(hb:l.length<=1000000000):∃v,BG cx 387 [kv] h v h/\DX l v:=by
 have hr:=hk.AE;rcases hk with⟨rfl,rfl⟩|⟨id,cs,rfl,hc⟩
 .exact⟨.slnil,by rw[Ae,Xg,aEh];simp only[BE,show AD (.Gu false .sl) [.slnil,.slnil]=some (.bool true) from rfl],.inr ⟨rfl,rfl⟩⟩
 .refine⟨.sl 1 (l.map B8),?_,.mk⟩;have b:Rh h 1 8 (.sl 1 []) (.CE id 0 l.length 1)=some (.sl 1 (l.map B8)):=by
   unfold Rh;rw[hr,Ct];cases l with
   |nil=>rfl
   |cons x l=>
    have:(x::l).length*8<=AW:=by have:AW=140737488355328:=rfl;omega
    simp only[Bj,DM,Bd,Ao,BR] at this⊢;rw[Af ⟨trivial,by simpa using this⟩];rfl
  rw[Ae,Xg,aEh];simp only[BE,show AD (.Gu false .sl) [.CE id 0 l.length 1,.slnil]=some (.bool false) from rfl,show AD (.Dk 1) []=some (.sl 1 []) from rfl,b]
def Jh(h:Ai)(v:Aa)(l:List A5):Prop:=(v= .slnil/\l=[])\/∃id,v= .CE id 0 l.length 3/\h[id]?=some (.cells (l.map A5.row).flatten)/\id<h.length
def Jh.HQ{v:Aa}{l:List A5}{t:Ai}(hv:Jh h v l):Jh (h++t) v l:=by
 rcases hv with h1|⟨id,e,hc,hl⟩
 .exact .inl h1
 .exact .inr ⟨id,e,by rw[Ak hl];exact hc,by rw[Au];omega⟩
def Jh.cells{v:Aa}{l:List A5}(hv:Jh h v l):v.cells=[v]:=by rcases hv with⟨rfl,_⟩|⟨id,rfl,_,_⟩<;>rfl
structure Ns(h:Ai)(v:Aa)(l:List A5):Prop where
 len:AD (.len false) [v]=some (I (l.length:Int))
 at_:∀k (hk:k<l.length),∃p,AD (.Ff 3) [v,I (k:Int)]=some p/\A7 h (some 3) p=some (.agg l[k].row)
def Y9{v:Aa}{l:List A5}(hv:Bi l v):Ns h v l:=⟨AU.CN hv,λk hk=>⟨_,AU.BL hv hk,rfl⟩⟩
def aEt(l:List A5):∀r∈l.map A5.row,r.length=3:=MJ (f:=A5.row) (λ_=>rfl) l
def Jh.in_{v:Aa}{l:List A5}(hv:Jh h v l):Ns h v l:=by
 rcases hv with⟨rfl,rfl⟩|⟨id,rfl,hc,_⟩
 .exact⟨rfl,λk hk=>by simp at hk⟩
 .refine⟨rfl,λk hk=>⟨Pt id (k*3),E1 hk,?_⟩⟩;simp only[A7,hc,No];rw[Af (by rw[FY (aEt l),Ao];omega),Ja (aEt l),<-JR,AG hk,Bj,CZ];rfl
def Up(N:Nat)(v:Aa):Prop:=∀id k,v= .CE id 0 k 3->N<=id
def zf{v:Aa}{l:List A5}(hv:v=Wl l)(hb:l.length<=1000000000):∃u t,BG cx 100147 [v] h u (h++t)/\Jh (h++t) u l/\Up h.length u:=by
 cases l with
 |nil=>refine⟨.slnil,[],?_,.inl ⟨rfl,rfl⟩,λ_ _ e=>nomatch e⟩;rw[By,Ae,O6,hv];simp only[BE,Wl,show AD (.Gu false .sl) [.slnil,.slnil]=some (.bool true) from rfl]
 |cons x l=>have e:=LN (h:=h) (s:= .sl 3 []) (z:=3) (b:=40) (.inr rfl) (AU.mk (z:=3) (AE:=(x::l).map A5.row)) AH (by rw[Ao];have:AW=140737488355328:=rfl;omega);rw[Ao] at e;refine⟨.CE h.length 0 (x::l).length 3,[.cells ((x::l).map A5.row).flatten],?_,.inr ⟨h.length,rfl,AH,AH⟩,λ_ _ e=>by injection e with e;omega⟩;rw[Ae,O6,hv];simp only[BE,Wl,show AD (.Gu false .sl) [.sl 3 ((x::l).map A5.row),.slnil]=some (.bool false) from rfl,show AD (.Dk 3) []=some (.sl 3 []) from rfl,e]
def Wn(h:Ai)(N:Nat)(x:EW)(r:List Aa):Prop:=∃K V,r=[I x.kind,I x.FV,K,I x.CG,I x.Bb,.str x.name,V,.str x.data,.str x.qp,.str x.sys,.bool x.CL,I x.cont,I x.Eo]/\DX x.Bc K/\Jh h V x.Av/\Up N V
def Wn.HQ{x:EW}{r:List Aa}{t:Ai}{N:Nat}(hr:Wn h N x r):Wn (h++t) N x r:=let⟨K,V,e,h1,h2,b⟩:=hr;⟨K,V,e,h1,h2.HQ,b⟩
def aBV(w:PA h a n m ps A)(f:NS A)(hx:A.has x)(b:(A.nd x).Bc.length<=1000000000):∃r t,BG cx 296 [Pt n (nP n x)] h (.agg r) (h++t)/\Wn (h++t) h.length (A.nd x) r:=by obtain⟨K,e,d⟩:=aBU (w.Nl hx) b;obtain⟨V,t,r2,c,g⟩:=zf (h:=h) (w.ze hx) (f.at_ x);refine⟨_,t,?_,K,V,rfl,d,c,g⟩;have hc:K.cells=[K]:=AU.cells d;have e0:=w.row hx;have i:(pN ps x).row=_:=rfl;have ex:=(w.pn hx).2.1;rw[Ae,jP];rw[PN.row,ex] at e0;simp only[abS,e0,w.f2 hx,w.f6 hx,e.Ab,BK,r2.Ab,hc,c.cells]
def aHZ(w:PA h a n m ps A)(c:NS A)(b:(A.nd x).Bc.length<=1000000000):∃r t,BG cx 163 [Pt a 0,I x] h (.tuple [.agg r,I (if A.has x then 0 else 3)]) (h++t)/\Wn (h++t) h.length (A.nd x) r:=by
 by_cases hx:A.has x;.obtain⟨r,t,d,hr⟩:=aBV w c hx b;have Gc:=hr;obtain⟨K,V,rfl,_⟩:=hr;refine⟨_,t,?_,Gc⟩;rw[Ae,WV];simp only[abS,↓reduceIte,AT,HI,(UA (x:=x) w).Ab,Af hx,B7,CF,(Jg w c hx).Ab,d.Ab]
 .refine⟨_,[],?_,.slnil,.slnil,by rw[HR hx],by rw[HR hx];exact .inr ⟨rfl,rfl⟩,by rw[HR hx];exact .inl ⟨rfl,rfl⟩,λ_ _ e=>nomatch e⟩;rw[Ae,WV,By];simp only[abS,↓reduceIte,AT,HI,(UA (x:=x) w).Ab,Ad hx,B7,(AP:¬(3:Int)=0),Dw]
def aBW(w:PA h a n m ps A)(d:NS A)(b:(A.nd x).Bc.length<=1000000000):∃v,BG cx 306 [Pt a 0,I x] h v h/\DX (A.nd x).Bc v:=by
 by_cases hx:A.has x;.obtain⟨K,c,e⟩:=aBU (w.Nl hx) b;refine⟨K,?_,e⟩;rw[Ae,Xd];simp only[abS,(Wm (x:=x) w).Ab,Al hx,(Jg w d hx).Ab,w.f2 hx,c.Ab]
 .refine⟨.slnil,?_,by rw[HR hx];exact .inr ⟨rfl,rfl⟩⟩;rw[Ae,Xd];simp only[abS,(Wm (x:=x) w).Ab,Ah hx]
def aH0(w:PA h a n m ps A)(b:NS A):BG cx 402 [Pt a 0,I x] h (I (A.nd x).FV) h:=by
 by_cases hx:A.has x;.rw[Ae,Xh];simp only[abS,(Wm (x:=x) w).Ab,Al hx,(Jg w b hx).Ab,w.f1 hx]
 .rw[Ae,Xh,HR hx];simp only[abS,(Wm (x:=x) w).Ab,Ah hx]
def aNr(w:PA h a n m ps A):BG cx 148 [Pt a 0] h (I A.len) h:=by have b:AD (.len false) [.CE n 0 ps.length 13]=some (I (ps.length:Int)):=rfl;rw[Ae,Ľ];simp only[abS,w.nodes,b,w.len]
def zg(w:PA h a n m ps A)(b:NS A):BG cx 234 [Pt a 0,I x] h (I (if A.has x then(if(A.nd x).kind=1 then 0 else 9) else 3)) h:=by
 rw[Ae,jJ];by_cases hx:A.has x
 .simp only[abS,HI,(UA (x:=x) w).Ab,Af hx,B7,CF,(Jg w b hx).Ab,w.f0 hx];by_cases hk:(A.nd x).kind=1;.simp only[hk,abS,CF]
  .simp only[hk,abS]
 .simp only[abS,HI,(UA (x:=x) w).Ab,Ad hx,B7,(AP:¬(3:Int)=0)]
def zh{l:List PN}:(l.map PN.row).flatten.length=l.length*13:=by rw[FY (qY l),Ao]
def qZ{p:PN}{n':Nat}(hk:HY p.kv=none):Gt a n' m (ps++[p])=a::n'::(m.toList++ps.filterMap λp=>HY p.kv):=by unfold Gt;rw[EO];simp[hk]
def zi{x:EW}(hl:A.i.length=A.n.length):(A.add x).inr=A.inr:=by funext k;exact WN hl
def aAi(w:PA h a n m ps A)(hb:ps.length+1<=1000000000)(p:PN)(hk:p.kv= .slnil)(ā:p.x.Bc=[]):
  ∃h',BG cx 158 [Pt a 0,.agg p.row] h (I (A.len+1)) h'/\PA h' a h.length m (ps++[p]) (A.add p.x)/\(∀i,i<h.length->i≠a->i≠n->h'[i]?=h[i]?)/\h'.length=h.length+1:=by
 have WC:a<h.length:=w.lt a (by simp[Gt]);have Pn:n<h.length:=w.lt n (by simp[Gt]);have j:a≠n:=by have:=w.nd;simp[Gt] at this;exact this.1.1
 have d:=JY (h:=h) (id:=n) (AE:=ps.map PN.row) (r2:=[p.row]) (v:= .sl 13 [p.row]) (b:=168) (qY ps) AP w.hn .mk AH (by rw[Ao];have:AW=140737488355328:=rfl;simp;omega);rw[Ao] at d;simp only[A9] at d;have Pz:(h.set n .CR++[Dx.cells (ps.map PN.row++[p.row]).flatten])[a]?=some (.cells [.CE n 0 ps.length 13,.map m]):=by rw[Ak (by simpa using WC),As (Dz j)];exact w.ha
 have es:Cv (h.set n .CR++[Dx.cells (ps.map PN.row++[p.row]).flatten]) 1 (Pt a 0) (.CE h.length 0 (ps.length+1) 13)=some ((h.set n .CR++[Dx.cells (ps.map PN.row++[p.row]).flatten]).set a (.cells [.CE h.length 0 (ps.length+1) 13,.map m])):=by simp only[Cv,Pz];rfl
 have l:A7 ((h.set n .CR++[Dx.cells (ps.map PN.row++[p.row]).flatten]).set a (.cells [.CE h.length 0 (ps.length+1) 13,.map m])) none (Pt a 0)=some (.CE h.length 0 (ps.length+1) 13):=by simp only[A7];rw[AO Ei];rfl
 have o:AD (.len false) [.CE h.length 0 (ps.length+1) 13]=some (I ((ps.length+1:Nat):Int)):=rfl;have em:AD (.Dk 13) [.agg p.row]=some (.sl 13 [p.row]):=MI (a:= .agg p.row) rfl AP;refine⟨(h.set n .CR++[Dx.cells (ps.map PN.row++[p.row]).flatten]).set a (.cells [.CE h.length 0 (ps.length+1) 13,.map m]),?_,?_,?_,?_⟩;rotate_left
 .refine⟨by simp[Ar.add,w.e],by simp[Ar.add,w.il],?_,?_,?_,?_,?_⟩;.rw[AO Ei];simp
  .rw[As Ac,Bk AH];simp
  .intro q hq;rcases Ay.1 hq with hq|hq
   .refine(w.ks q hq).Dl λid Im=>?_;have h1:id∈Gt a n m ps:=LR hq Im;have h2:=w.lt id h1;have c:=w.nd;have k:id∈m.toList++ps.filterMap λp=>HY p.kv:=Ay.2 (.inr (Cj.2 ⟨q,hq,Im⟩));unfold Gt at c;simp only[B5,AS,NP] at c;have g:a≠id:=λe=>c.1.2 (e▸k);have f:n≠id:=λe=>c.2.1 (e▸k);rw[As g,Ak (by simpa using h2),As f]
   .simp at hq;subst hq;exact .inl ⟨hk,ā⟩
  .rw[qZ (by rw[hk];rfl)];have c:=w.nd;unfold Gt at c;simp only[B5,AS,NP] at c⊢;refine⟨⟨Ac,c.1.2⟩,λhm=>?_,c.2.2⟩;have:=w.lt h.length (by unfold Gt;simp only[AS];exact .inr (.inr hm));omega
  .rw[zi w.il];refine w.mp.Dl λid Im=>?_;have h1:id∈m.toList++ps.filterMap λp=>HY p.kv:=by simp[Im]
   have h2:=w.lt id (by unfold Gt;simp only[AS];exact .inr (.inr h1));have c:=w.nd;unfold Gt at c;simp only[B5,AS,NP] at c;have g:a≠id:=λe=>c.1.2 (e▸h1);have f:n≠id:=λe=>c.2.1 (e▸h1);rw[As g,Ak (by simpa using h2),As f]
 .intro i hi h1 h2;rw[As (Dz h1),Ak (by simpa using hi),As (Dz h2)]
 .simp
 .have hl:A.len+1=((ps.length+1:Nat):Int):=by rw[<-w.len];rfl
  rw[PN.row] at em d es l;rw[Ae,WU,hl,PN.row];simp only[abS,Nat.reduceLeDiff,↓reduceIte,AT,w.nodes,em,d,es,l,o]
def Oo{AE:List (List Aa)}{z i k:Nat}(hr:∀r∈AE,r.length=z)(hi:i<AE.length)(hk:k<z){v:Aa}:AE.flatten.take (i*z+k)++[v]++AE.flatten.drop (i*z+k+1)=(AE.set i (AE[i].set k v)).flatten:=by
 have hl:=hr _ (AN hi);rw[<-pK hr hi];have b:AE.flatten.drop (i*z)=AE[i]++AE.flatten.drop (i*z+z):=by
  have e:i*z+z=(i+1)*z:=by rw[BI,D6]
  rw[e,Ja hr,Ja hr,AG hi,CZ]
 have d:AE.flatten.take (i*z+k)=AE.flatten.take (i*z)++AE[i].take k:=by rw[aA7,b,CM Ac]
 have c:AE.flatten.drop (i*z+k+1)=AE[i].drop (k+1)++AE.flatten.drop (i*z+z):=by rw[Sw,<-Em,b,Jp Ac]
 rw[d,c,B0,Af Ac];simp
def PA.sto(w:PA h a n m ps A)(hx:A.has x){k:Nat}(hk:k<13){v:Aa}(hv:v.cells=[v]){p:PN}(hp:p.row=(pN ps x).row.set k v){h1:Ai}(hn:h1[n]?=h[n]?):
  Cv h1 1 (Pt n (nP n x+k)) v=some (h1.set n (.cells ((ps.set (x.toNat-1) p).map PN.row).flatten)):=by
 have hlt:=(w.at hx).1;have hg:=(w.pn hx).1;rw[Ap hlt,BC] at hg;have e:=Oo (AE:=ps.map PN.row) (i:=x.toNat-1) (k:=k) (v:=v) (qY ps) (by simpa using hlt) hk;rw[C0,hg,<-hp,<-Et] at e;unfold nP;simp only[Cv,hn,w.hn,hv,A9,M5];rw[Af (by rw[FY (qY ps),Ao];omega),e]
def Za(w:PA h a n m ps A)(hx:A.has x)(p:PN):ps=ps.take (x.toNat-1)++pN ps x::ps.drop (x.toNat-1+1)/\ps.set (x.toNat-1) p=ps.take (x.toNat-1)++p::ps.drop (x.toNat-1+1):=by have hlt:=(w.at hx).1;have hg:=(w.pn hx).1;rw[Ap hlt,BC] at hg;refine⟨?_,by rw[B0,Af hlt]⟩;conv=>lhs;rw[<-CH (x.toNat-1) ps,AG hlt,hg]
def zj{y:EW}:(A.set x y).inr=A.inr:=by funext k;exact Tj
def PA.qi(w:PA h a n m ps A)(hx:A.has x){p:PN}{h1:Ai}(ho:∀i∈Gt a n m ps,HY (pN ps x).kv≠some i->h1[i]?=h[i]?)(hk:KD h1 p.kv p.x.Bc)
  (hi:HY p.kv=HY (pN ps x).kv\/∀j,HY p.kv=some j->h.length<=j):PA (h1.set n (.cells ((ps.set (x.toNat-1) p).map PN.row).flatten)) a n m (ps.set (x.toNat-1) p) (A.set x p.x):=by
 have hlt:=(w.at hx).1;have aAk:=(w.pn hx).2.2;obtain⟨B,C⟩:=Za w hx p;have nd:=w.nd;have g:∀j,HY (pN ps x).kv=some j->j∈m.toList++ps.filterMap λp=>HY p.kv:=λj hj=>Ay.2 (.inr (Cj.2 ⟨_,aAk,hj⟩));have lU:=nd;unfold Gt at lU;simp only[B5,AS,NP] at lU;have u:a≠n:=lU.1.1;have l:HY (pN ps x).kv≠some a:=λe=>lU.1.2 (g a e);have f:HY (pN ps x).kv≠some n:=λe=>lU.2.1 (g n e);have Pn:n<h.length:=w.lt n (by simp[Gt]);have y:h1[n]?=h[n]?:=ho n (by simp[Gt]) f;have z:n<h1.length:=by have:=w.hn;rw[<-y] at this;exact(An.1 this).1
 have s:∀j,HY p.kv=some j->j≠n/\j≠a:=by
  intro j hj;rcases hi with hi|hi
  .rw[hi] at hj;exact⟨λe=>f (e▸hj),λe=>l (e▸hj)⟩
  .have:=hi j hj;have:=w.lt a (by simp[Gt]);omega
 refine⟨?_,?_,?_,?_,?_,?_,?_⟩;.simp only[Ar.set,Af hx];rw[w.e,Et]
 .rw[JE];exact w.il
 .rw[As (Dz u),ho a (by simp[Gt]) l,Bq];exact w.ha
 .rw[AO z]
 .intro q hq;by_cases c:q=p;.rw[c];exact hk.Dl λid Im=>by rw[As (Dz (s id Im).1)]
  .rw[C] at hq;have d:q∈ps.take (x.toNat-1)++ps.drop (x.toNat-1+1):=by
    rcases Ay.1 hq with b|b
    .exact Ay.2 (.inl b)
    .exact Ay.2 (.inr ((AS.1 b).resolve_left c))
   have vz:q∈ps:=by
    rcases Ay.1 d with b|b
    .exact Bp b
    .exact BD b
   refine(w.ks q vz).Dl λj hj=>?_;have o:j∈Gt a n m ps:=LR vz hj;have v:j≠n:=λe=>lU.2.1 (e▸Ay.2 (.inr (Cj.2 ⟨q,vz,hj⟩)));have VE:HY (pN ps x).kv≠some j:=by
    intro t;have r:=(B3.1 lU.2.2).2.1;rw[B,EO,IJ,t] at r;simp only[B3,B5,AS,Cj] at r;rcases Ay.1 d with b|b
    .exact r.2.2 j ⟨q,b,hj⟩ j (.inl rfl) rfl
    .exact r.2.1.1 ⟨q,b,hj⟩
   rw[As (Dz v),ho j o VE]
 .have fr:∀j,HY p.kv=some j->HY (pN ps x).kv=some j\/j∉Gt a n m ps:=by
   intro j hj;rcases hi with hi|hi
   .exact .inl (hi▸hj)
   .exact .inr λhm=>by have:=hi j hj;have:=w.lt j hm;omega
  have h1:=nd;unfold Gt at h1 fr⊢;rw[B,EO,IJ] at h1;rw[B,EO,IJ] at fr;rw[C,EO,IJ];generalize List.filterMap (λp=>HY p.kv) (ps.take (x.toNat-1))=T at h1 fr⊢;generalize List.filterMap (λp=>HY p.kv) (ps.drop (x.toNat-1+1))=D at h1 fr⊢;cases hp:HY p.kv with
  |none=>
   cases ho:HY (pN ps x).kv with
   |none=>rw[ho] at h1;exact h1
   |some k=>rw[ho] at h1;refine h1.sublist ?_;simp
  |some j=>
   have:=fr j hp;cases ho:HY (pN ps x).kv with
   |none=>rw[ho] at h1 this;simp only[B5,B3,AS,Ay] at h1 this⊢;grind
   |some k=>rw[ho] at h1 this;simp only[B5,B3,AS,Ay] at h1 this⊢;grind
 .rw[zj];refine w.mp.Dl λid Im=>?_;have o:id∈m.toList++ps.filterMap λp=>HY p.kv:=by simp[Im]
  have v:n≠id:=λe=>lU.2.1 (e▸o);have VE:HY (pN ps x).kv≠some id:=by intro fG;exact(B3.1 lU.2.2).2.2 id (by simp[Im]) id (Cj.2 ⟨_,aAk,fG⟩) rfl
  rw[As v,ho id (by unfold Gt;simp only[AS];exact .inr (.inr o)) VE]
end
end Go.Am
end
