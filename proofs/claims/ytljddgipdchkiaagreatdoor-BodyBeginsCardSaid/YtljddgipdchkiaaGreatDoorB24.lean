/- Lemmas -/
import Derived.Test.YtljddgipdchkiaaGreatDoorB20
import Derived.Test.YtljddgipdchkiaaGreatDoorB21
import Derived.Test.YtljddgipdchkiaaGreatDoorB22
import Derived.Test.YtljddgipdchkiaaGreatDoorB23
import Derived.Test.YtljddgipdchkiaaGreatDoorB18
set_option linter.all false
set_option maxHeartbeats 0
set_option maxRecDepth 100000
section
namespace Go.Am
open Go
abbrev nE:=List Aa->Option IT
def aB9(g:IT):nE:=λl=>match l with
 |[]=>some (g)
 |_=>none
def aCa(g:Aa->IT):nE:=λl=>match l with
 |[a0]=>some (g a0)
 |_=>none
def aCb(g:Aa->Aa->IT):nE:=λl=>match l with
 |[a0,a1]=>some (g a0 a1)
 |_=>none
def aCc(g:Aa->Aa->Aa->IT):nE:=λl=>match l with
 |[a0,a1,a2]=>some (g a0 a1 a2)
 |_=>none
def aCd(g:Aa->Aa->Aa->Aa->IT):nE:=λl=>match l with
 |[a0,a1,a2,a3]=>some (g a0 a1 a2 a3)
 |_=>none
def aCe(g:Aa->Aa->Aa->Aa->Aa->IT):nE:=λl=>match l with
 |[a0,a1,a2,a3,a4]=>some (g a0 a1 a2 a3 a4)
 |_=>none
def X6(f:Nat)(g:nE):Prop:=∀l t,g l=some t->t=Ca cx f l
def TL{f:Nat}{g:IT}(h:Ca cx f []=g):X6 f (aB9 g):=by
 intro l t ht;unfold aB9 at ht;split at ht;.cases ht;exact(h).symm
 .cases ht
def BN{f:Nat}{g:Aa->IT}(h:∀a0,Ca cx f [a0]=g a0):X6 f (aCa g):=by
 intro l t ht;unfold aCa at ht;split at ht;.cases ht;exact(h _).symm
 .cases ht
def BD{f:Nat}{g:Aa->Aa->IT}(h:∀a0 a1,Ca cx f [a0,a1]=g a0 a1):X6 f (aCb g):=by
 intro l t ht;unfold aCb at ht;split at ht;.cases ht;exact(h _ _).symm
 .cases ht
def EB{f:Nat}{g:Aa->Aa->Aa->IT}(h:∀a0 a1 a2,Ca cx f [a0,a1,a2]=g a0 a1 a2):X6 f (aCc g):=by
 intro l t ht;unfold aCc at ht;split at ht;.cases ht;exact(h _ _ _).symm
 .cases ht
def X7{f:Nat}{g:Aa->Aa->Aa->Aa->IT}(h:∀a0 a1 a2 a3,Ca cx f [a0,a1,a2,a3]=g a0 a1 a2 a3):X6 f (aCd g):=by
 intro l t ht;unfold aCd at ht;split at ht;.cases ht;exact(h _ _ _ _).symm
 .cases ht
def td{f:Nat}{g:Aa->Aa->Aa->Aa->Aa->IT}(h:∀a0 a1 a2 a3 a4,Ca cx f [a0,a1,a2,a3,a4]=g a0 a1 a2 a3 a4):X6 f (aCe g):=by
 intro l t ht;unfold aCe at ht;split at ht;.cases ht;exact(h _ _ _ _ _).symm
 .cases ht
def tb0{f:Nat}{g:IT}(h:Ca cx f []=g):Nat×nE:=(f,aB9 g)
def GK{f:Nat}{g:Aa->IT}(h:∀a0,Ca cx f [a0]=g a0):Nat×nE:=(f,aCa g)
def FV{f:Nat}{g:Aa->Aa->IT}(h:∀a0 a1,Ca cx f [a0,a1]=g a0 a1):Nat×nE:=(f,aCb g)
def RI{f:Nat}{g:Aa->Aa->Aa->IT}(h:∀a0 a1 a2,Ca cx f [a0,a1,a2]=g a0 a1 a2):Nat×nE:=(f,aCc g)
def tb4{f:Nat}{g:Aa->Aa->Aa->Aa->IT}(h:∀a0 a1 a2 a3,Ca cx f [a0,a1,a2,a3]=g a0 a1 a2 a3):Nat×nE:=(f,aCd g)
def tb5{f:Nat}{g:Aa->Aa->Aa->Aa->Aa->IT}(h:∀a0 a1 a2 a3 a4,Ca cx f [a0,a1,a2,a3,a4]=g a0 a1 a2 a3 a4):Nat×nE:=(f,aCe g)
def ş:List (Nat×nE):=[FV qw,GK qx,GK qy,GK qz,GK rj,GK sN,FV rq,FV PQ,FV Ou,FV r_,FV sd,FV sg,FV si,FV sj,FV sk,FV sm,tb0 sn,FV so,GK sq,FV sP,tb0 sQ,FV dQ,FV sR,FV sS,RI sT,FV sU,FV TK,RI dS,RI sV,GK dU,GK sW,FV sX,FV dW,GK sY,RI dX,GK X2,GK sZ,GK tC,GK X3,GK tD,FV tE,tb4 dY,FV eB,tb0 wY,GK eC,RI eD,FV eE,tb5 eF,tb4 LY,GK eH,FV eI,FV eJ,GK eK,FV wZ,FV xA,GK Qr,RI xB,GK xC,tb0 xD,tb0 xE,FV xF,GK xG,GK xH,GK eM,GK VK,FV VL,FV VM,tb4 Qs,FV eO,RI eP,FV eQ,FV VN,tb4 VO,FV eS,FV VP,FV eT,FV eU,FV eV,RI eW,RI eX,RI eY,RI eZ,FV fA,FV fB,GK SH,GK fC,GK fD,FV fE,FV VQ,FV fF,GK fG,FV fH,FV M0,RI fI,FV VR,FV fJ,RI fK,FV fL,GK fM,RI fN,GK fO,GK fP,RI fQ,GK fR,FV fS,FV fU,FV fV,GK fW,tb5 VS,FV VT,GK VU,FV fX,RI VV,FV fY,FV VW,FV fZ,FV gA,FV gB,FV VX,FV VY,RI xO,GK xP,GK xQ,GK xR,GK xS,GK xT,GK xU,GK xV,GK xW,GK xX,GK xY,GK xZ,GK yA,GK yB,GK yC,GK yD,GK yE,GK yF,GK yG,GK yH,GK yI,GK yJ,GK yK,GK yL,GK yM,GK yN,GK yO,GK yP,GK yQ,GK yR,GK yS,GK gC,FV gD,FV VZ,FV gE,RI gF,FV SI,GK gG,FV gH,FV gI,FV gJ,GK gK,GK gL,FV V0,RI gM,FV gN,FV gO,GK gP,FV gQ,FV gR,FV gS,FV gT,FV gU,RI gV,RI gW,FV gX,tb4 gY,RI gZ,RI hC,tb0 hZ,FV iA,GK iB,FV iC,GK iD,GK iE,GK iF,FV iG,GK iH,GK iI,FV SJ,GK V4,FV SK,RI iJ,GK iK,FV iL,GK iM,FV iN,FV yW,GK yX,GK yY,FV yZ,RI zA,FV zB,GK zC,FV zD,FV zE,GK V5,FV iO,FV iP,FV iQ,FV iR,FV iS,FV V6,GK SL,RI iT,RI iU,FV iV,RI V8,RI V9,FV iW,GK iX,FV iY,RI Wa,GK iZ,FV i5,GK i6,GK i7,FV jA,GK jB,FV zF,GK X4,GK Ov,GK X5]
def tg:List (Nat×nE)->Prop
 |[]=>True
 |(f,g)::l=>X6 f g/\tg l
def th:tg ş:=
 ⟨BD qw,BN qx,BN qy,BN qz,BN rj,BN sN,BD rq,BD PQ,BD Ou,BD r_,BD sd,BD sg,BD si,BD sj,BD sk,BD sm,TL sn,BD so,BN sq,BD sP,TL sQ,BD dQ,BD sR,BD sS,EB sT,BD sU,BD TK,EB dS,EB sV,BN dU,BN sW,BD sX,BD dW,BN sY,EB dX,BN X2,BN sZ,BN tC,BN X3,BN tD,BD tE,X7 dY,BD eB,TL wY,BN eC,EB eD,BD eE,td eF,X7 LY,BN eH,BD eI,BD eJ,BN eK,BD wZ,BD xA,BN Qr,EB xB,BN xC,TL xD,TL xE,BD xF,BN xG,BN xH,BN eM,BN VK,BD VL,BD VM,X7 Qs,BD eO,EB eP,BD eQ,BD VN,X7 VO,BD eS,BD VP,BD eT,BD eU,BD eV,EB eW,EB eX,EB eY,EB eZ,BD fA,BD fB,BN SH,BN fC,BN fD,BD fE,BD VQ,BD fF,BN fG,BD fH,BD M0,EB fI,BD VR,BD fJ,EB fK,BD fL,BN fM,EB fN,BN fO,BN fP,EB fQ,BN fR,BD fS,BD fU,BD fV,BN fW,td VS,BD VT,BN VU,BD fX,EB VV,BD fY,BD VW,BD fZ,BD gA,BD gB,BD VX,BD VY,EB xO,BN xP,BN xQ,BN xR,BN xS,BN xT,BN xU,BN xV,BN xW,BN xX,BN xY,BN xZ,BN yA,BN yB,BN yC,BN yD,BN yE,BN yF,BN yG,BN yH,BN yI,BN yJ,BN yK,BN yL,BN yM,BN yN,BN yO,BN yP,BN yQ,BN yR,BN yS,BN gC,BD gD,BD VZ,BD gE,EB gF,BD SI,BN gG,BD gH,BD gI,BD gJ,BN gK,BN gL,BD V0,EB gM,BD gN,BD gO,BN gP,BD gQ,BD gR,BD gS,BD gT,BD gU,EB gV,EB gW,BD gX,X7 gY,EB gZ,EB hC,TL hZ,BD iA,BN iB,BD iC,BN iD,BN iE,BN iF,BD iG,BN iH,BN iI,BD SJ,BN V4,BD SK,EB iJ,BN iK,BD iL,BN iM,BD iN,BD yW,BN yX,BN yY,BD yZ,EB zA,BD zB,BN zC,BD zD,BD zE,BN V5,BD iO,BD iP,BD iQ,BD iR,BD iS,BD V6,BN SL,EB iT,EB iU,BD iV,EB V8,EB V9,BD iW,BN iX,BD iY,EB Wa,BN iZ,BD i5,BN i6,BN i7,BD jA,BN jB,BD zF,BN X4,BN Ov,BN X5,trivial⟩
def ā(f:Nat):List (Nat×nE)->List Aa->Option IT
 |[],_=>none
 |(k,g)::l,args=>if Nat.beq k f then g args else ā f l args
def zG{f:Nat}{args:List Aa}{t:IT}:∀{l:List (Nat×nE)},tg l->ā f l args=some t->t=Ca cx f args
 |[],_,h=>by cases h
 |(k,g)::l,ha,h=>by
  simp only[ā] at h;split at h;.rename_i hk;have hk:k=f:=M5 hk;subst hk;exact ha.1 _ _ h
  .exact zG ha.2 h
noncomputable def Š(f:FuncId)(args:List Aa):IT:=match ā f ş args with
 |some t=>t
 |none=>Ca cx f args
def Rw:Š=Ca cx:=by
 funext f args;unfold Š;split;.rename_i t h;exact zG th h
 .rfl
def X8:Option J6->Bool
 |some (.ret,[.bool true],_)=>true
 |_=>false
def Zm{r:Option J6}(h:X8 r=true):∃h',r=some (.ret,[.bool true],h'):=by
 unfold X8 at h;split at h;.exact⟨_,rfl⟩
 .cases h
end Go.Am
end
section
namespace Go.Am
open Go
section
def aJZ(s:Ao):Jj cx 325 [.str s] (.bool (decide (s∈Gs))):=by rw[Lk,gP];rw[show aFc (.str s)=sw s (.ret .ret [tt]) (.ret .ret [ff]) Gs from rfl,py];exact⟨λh=>by simp[h],λh=>by simp[h]⟩
section
variable{Q:Hb}{h:Ah}{k:Aa->IT}{s:Ao}
@[simp] theorem tj:W cx (.BV 325 [.str s] k) Q h↔W cx (k (.bool (decide (s∈Gs)))) Q h:=(aJZ s).BV rfl rfl
end
def aJ0(s:Ao):Jj cx 342 [.str s] (.bool (decide (s∈J1\/s∈Gs))):=by rw[Lk,iE];rw[show aFd (.str s)=sw s (.ret .ret [tt]) (.BV 325 [.str s] λv=> .ret .ret [v]) J1 from rfl,py];exact⟨λh=>by simp[h],λh=>by simp[h]⟩
def aJ1(n:Int)(s:Ao):Jj cx 329 [I n,.str s] (.bool (decide (n=3/\s∈KL))):=by
 rw[Lk,gT];by_cases h:n=3;.simp[h,KL];by_cases h1:s=[109,105]<;>by_cases h2:s=[109,110]<;>by_cases b:s=[109,111]<;>by_cases a:s=[109,115]<;>simp[h1,h2,b,a]
 .simp[h]
section
variable{Q:Hb}{h:Ah}{k:Aa->IT}{s:Ao}{n:Int}
@[simp] theorem tk:W cx (.BV 342 [.str s] k) Q h↔W cx (k (.bool (decide (s∈J1\/s∈Gs)))) Q h:=(aJ0 s).BV rfl rfl
@[simp] theorem aFi:W cx (.BV 329 [I n,.str s] k) Q h↔W cx (k (.bool (decide (n=3/\s∈KL)))) Q h:=(aJ1 n s).BV rfl rfl
end
def aFj(n:Int)(s:Ao):Jj cx 186 [I n,.str s] (.bool (Er n s)):=by
 rw[Lk,fF];rw[show aE8 (I n) (.str s)= .op (.int .eql) [I n,I 3] λv=> .Gc v (.op (.str .eql) [.str s,S aSG] λv=> .Gc v (.ret .ret [tt]) (.BV 329 [I n,.str s] λv=> .ret .ret [v]))
  (.op (.int .eql) [I n,I 2] λv=> .Gc v (sw s (.ret .ret [tt]) (.op (.str .eql) [.str s,S aTu] λv=> .ret .ret [v]) [aTJ,aS4])
  (.op (.int .eql) [I n,I 1] λv=> .Gc v (sw s (.ret .ret [tt]) (.ret .ret [ff]) NC) (.ret .ret [ff]))) from rfl]
 by_cases a:n=3;.by_cases h:s=aSG<;>simp[a,Er,h]
 .by_cases h2:n=2;.by_cases ha:s=aTJ<;>by_cases hb:s=aS4<;>simp[h2,py,Er,Qi,ha,hb]
  .by_cases h1:n=1;.by_cases h:s∈NC<;>simp[h1,py,Er,h]
   .simp[a,h2,h1,Er]
section
variable{Q:Hb}{h:Ah}{k:Aa->IT}{s:Ao}{n:Int}
@[simp] theorem X9:W cx (.BV 186 [I n,.str s] k) Q h↔W cx (k (.bool (Er n s))) Q h:=(aFj n s).BV rfl rfl
end
end
section
def f277(s:Ao)(c:UInt8)(hs:s.length<9223372036854775807):Jj cx 285 [.str s,.int .u8 (c.toNat:Int)] (.bool (decide (c∈s))):=by
 rw[Lk,â];refine Bf (λn:Nat=>[.bool false,I (n:Int)]) (λn _=>n<=s.length/\c∉s.take n) (λn=>s.length-n) 0 rfl ⟨AQ _,AH⟩ ?_;rintro n h ⟨hn,hc⟩;rcases AN n s.length with hlt|D6
 .simp only[BC,Fw hlt,BI (Ab:n<9223372036854775807)];refine⟨λ_=>⟨λhe=>?_,λhe=>?_⟩,λh=>absurd (Int.ofNat_lt.2 hlt) h⟩
  .have e:s[n]=c:=by rw[<-UN];exact ķ he
   simp only[AA (show c∈s from e▸AL hlt)]
  .refine AK.next (n+1) rfl ⟨hlt,?_⟩ Ab;rw[AB hlt,Ax,Nh];refine⟨hc,λh=>he ?_⟩;rw[DB] at h;rw[<-h]
 .simp only[BC];refine⟨λh=>absurd (Int.ofNat_lt.1 h) Ab,λ_=>?_⟩;rw[AG D6] at hc;simp[hc]
def aFk(l s:Ao)(hl:l.length<9223372036854775806)(hs:s.length<9223372036854775807):Jj cx 139 [.str l,.str s] (.bool (FY l s)):=by
 rw[Lk,S_];have aJ2:Jj cx 285 [.str s,.int .u8 32] (.bool (decide ((32:UInt8)∈s))):=f277 s 32 hs;simp only[BC,aJ2.BV rfl rfl];refine⟨λh=>by simp[FY,h],λh0=>⟨λh=>by simp[FY,h],λh1=>?_⟩⟩;refine Bf (λp:Nat×Nat=>[.bool false,I (p.1:Int),I (p.2:Int)])
  (λp _=>(p.1<=p.2/\p.2<=l.length/\(s∈Dg [] l↔s∈Dg ((l.take p.2).drop p.1) (l.drop p.2)))\/(p.2=l.length+1/\s∉Dg [] l)) (λp=>l.length+1 -p.2) (0,0) rfl (.inl ⟨Ag _,AQ _,AH⟩) ?_
 rintro⟨a,n⟩ h aCf;rcases aCf with⟨YQ,hn,Ya⟩|⟨hn,YN⟩
 .simp only at YQ hn Ya;have i1:(n:Int)<=(l.length:Int):=Ab;rcases AN n l.length with hlt|D6
  .have b:¬(n:Int)=(l.length:Int):=by omega
   simp only[BC,i1,b,Av,Au,forall_const,An,Fw hlt,BI (Ab:n<9223372036854775807),Mj YQ hn];rw[AF hlt,PC] at Ya;refine⟨λhe=>?_,λhe=>?_⟩
   .have e:l[n]=32:=by rw[<-UN];exact ķ he
    rw[Ae e,AT] at Ya;refine⟨λhw=>?_,λhw=>?_⟩;.have:s∈Dg [] l:=Ya.2 (.inl hw.symm);simp[FY,h0,h1,this]
    .refine AK.next (n+1,n+1) rfl (.inl ⟨Ag _,hlt,?_⟩) Dq;rw[Ya,OQ];exact⟨λh=>h.resolve_left (λh=>hw h.symm),.inr⟩
   .have e:¬l[n]=32:=λe=>he (by rw[e];rfl);rw[Ac e] at Ya;refine AK.next (a,n+1) rfl (.inl ⟨Dq,hlt,?_⟩) Dq;rw[Ya,Xz YQ hlt]
  .have e:n=l.length:=by omega
   subst e;simp only[BC,Gw,Av,An,Aq,Mj YQ hn,BI (Ab:l.length<9223372036854775807)];rw[AO (Ag _),QR] at Ya;rw[DB] at Ya;refine⟨λhw=>?_,λhw=>?_⟩;.have:s∈Dg [] l:=Ya.2 hw.symm;simp[FY,h0,h1,this]
   .exact AK.next (l.length+1,l.length+1) rfl (.inr ⟨rfl,λh=>hw (Ya.1 h).symm⟩) Dq
 .simp only at hn;subst hn;have i1:¬((l.length+1:Nat):Int)<=(l.length:Int):=Ab;simp only[BC,i1,Au,An,Aq];simp[FY,YN]
end
section
def HW{Q:Hb}{h:Ah}{k:Aa->IT}{l s:Ao}(hl:l.length<9223372036854775806)(hs:s.length<9223372036854775807):W cx (.BV 139 [.str l,.str s] k) Q h↔W cx (k (.bool (FY l s))) Q h:=(aFk l s hl hs).BV rfl rfl
section
variable{Q:Hb}{h:Ah}{k:Aa->IT}{s:Ao}
def tH(hs:s.length<9223372036854775807):W cx (.BV 139 [.str aSx,.str s] k) Q h↔W cx (k (.bool (decide (s∈NC)))) Q h:=by rw[HW EF hs,rJ]
def jC(hs:s.length<9223372036854775807):W cx (.BV 139 [.str aS7,.str s] k) Q h↔W cx (k (.bool (decide (s∈KL)))) Q h:=by rw[HW EF hs,cX]
def UC(hs:s.length<9223372036854775807):W cx (.BV 139 [.str aSK,.str s] k) Q h↔W cx (k (.bool (decide (s∈Qi)))) Q h:=by rw[HW EF hs,mJ]
def Yb(hs:s.length<9223372036854775807):W cx (.BV 139 [.str aSE,.str s] k) Q h↔W cx (k (.bool (decide (s∈Gs)))) Q h:=by rw[HW EF hs,rK]
def nF(hs:s.length<9223372036854775807):W cx (.BV 139 [.str aSF,.str s] k) Q h↔W cx (k (.bool (decide (s∈J1)))) Q h:=by rw[HW EF hs,mK]
def fy(hs:s.length<9223372036854775807):W cx (.BV 139 [.str aS3,.str s] k) Q h↔W cx (k (.bool (decide (s∈Oh)))) Q h:=by rw[HW EF hs,dx]
def tI(hs:s.length<9223372036854775807):W cx (.BV 139 [.str aSU,.str s] k) Q h↔W cx (k (.bool (decide (s∈Mm)))) Q h:=by rw[HW EF hs,rL]
def tl(hs:s.length<9223372036854775807):W cx (.BV 139 [.str aTL,.str s] k) Q h↔W cx (k (.bool (decide (s∈Ro)))) Q h:=by rw[HW EF hs,pz]
def f_(hs:s.length<9223372036854775807):W cx (.BV 139 [.str aSD,.str s] k) Q h↔W cx (k (.bool (decide (s∈Qj)))) Q h:=by rw[HW EF hs,dy]
end
def aJ3(s:Ao)(hs:s.length<9223372036854775807):Jj cx 350 [.str s] (.bool (decide (s∈Gs))):=by rw[Lk,ì];simp only[BC,Yb hs]
def aJ4(s:Ao)(hs:s.length<9223372036854775807):Jj cx 351 [.str s] (.bool (decide (s∈J1\/s∈Gs))):=by rw[Lk,í];simp only[BC,Yb hs,nF hs];refine⟨λh=>by simp[h],λh=>by simp[h]⟩
def f169(n:Int)(s:Ao)(hs:s.length<9223372036854775807):Jj cx 220 [I n,.str s] (.bool (Er n s)):=by rw[Lk,Ï];simp only[BC,jC hs,tH hs,UC hs,Er];refine⟨λh=>by simp[h],λh1=>⟨λh2=>⟨λa=>by simp[h2,a],λa=>by simp[h2,a]⟩,λh2=>⟨λa=>by simp[a],λa=>by simp[h1,h2,a]⟩⟩⟩
section
variable{Q:Hb}{h:Ah}{k:Aa->IT}{s:Ao}{n:Int}
def tn(hs:s.length<9223372036854775807):W cx (.BV 350 [.str s] k) Q h↔W cx (k (.bool (decide (s∈Gs)))) Q h:=(aJ3 s hs).BV rfl rfl
def tq(hs:s.length<9223372036854775807):W cx (.BV 351 [.str s] k) Q h↔W cx (k (.bool (decide (s∈J1\/s∈Gs)))) Q h:=(aJ4 s hs).BV rfl rfl
def nG(hs:s.length<9223372036854775807):W cx (.BV 220 [I n,.str s] k) Q h↔W cx (k (.bool (Er n s))) Q h:=(f169 n s hs).BV rfl rfl
end
end
section
def aJ5(c:UInt8):Jj cx 398 [.int .u8 (c.toNat:Int)] (.bool (decide (65<=c.toNat/\c.toNat<=90))):=by
 rw[Lk,ü];simp only[BC];refine⟨λh=>?_,λh=>?_⟩
 .have e:65<=c.toNat:=by omega
  have a:((c.toNat:Int)<=90)=(c.toNat<=90):=by rw[eq_iff_iff];omega
  simp[e,a]
 .have e:¬65<=c.toNat:=by omega
  simp[e]
def tJ(s:Ao)(hs:s.length<=AM):Jj cx 316 [.str s] (.str (DR s)):=by
 have Vw:s.length<=140737488355328:=hs;rw[Lk,é];refine Bf (λp:Nat×Aa=>[p.2,I (p.1:Int)]) (λp _=>p.1<=s.length/\AU 1 (Cd (DR (s.take p.1))) p.2) (λp=>s.length-p.1) (0,.slnil) rfl ⟨AQ _,.nil⟩ ?_;rintro⟨n,v⟩ h ⟨hn,hv⟩;simp only at hn hv;rcases AN n s.length with hlt|D6
 .have i1:(n:Int)<(s.length:Int):=by omega
  have hb:((Cd (DR (s.take n))).length+1)*1<=AM:=by rw[Zh];simp[DR,AM];omega
  simp only[BC,i1,Av,Aq,An,Fw hlt,(aJ5 _).BV rfl rfl,BI (Ab:n<9223372036854775807)];refine⟨λhe=>?_,λhe=>?_⟩
  .simp only[BC,cR,wrap_u8 (Ab:0<=((s[n].toNat:Int)+32)/\((s[n].toNat:Int)+32)<=255),Mk (a:= .int .u8 ((s[n].toNat:Int)+32)) (z:=1) rfl AX,hv.pq hb];refine AK.next (n+1,_) rfl ⟨hlt,?_⟩ Dq;rw[Rp hlt,QQ];have e:Cd [I0 s[n]]=[[.int .u8 ((s[n].toNat:Int)+32)]]:=by simp[Cd,Sn he]
   rw[e];exact .mk
  .simp only[BC,Mk (a:= .int .u8 (s[n].toNat:Int)) (z:=1) rfl AX,hv.pq hb];refine AK.next (n+1,_) rfl ⟨hlt,?_⟩ Dq;rw[Rp hlt,QQ,Oi he];exact .mk
 .have i1:¬(n:Int)<(s.length:Int):=by omega
  have e:s.take n=s:=AG D6;rw[e] at hv;simp only[BC,i1,Au,Aq,An,hv.O3,hv.Wh]
def f300(a b:Int)(h:Ah):BH cx 361 [.int .i32 a,.int .i32 b] h (.func (.func 414) [] [.CG [.int .i32 a],.CG [.int .i32 b]]) h:=by rw[Af,SK];simp only[BC]
def aJ6(c a b:Int)(h:Ah):BH cx 414 [.int .i32 c,.CG [.int .i32 a],.CG [.int .i32 b]] h (.bool (decide (a<=c/\c<=b))) h:=by rw[Af,Wa];simp only[BC];refine⟨λh=>by simp[h],λh=>by simp[h]⟩
def aJ7(c:Int):Jj cx 417 [.int .i32 c] (.bool (decide (65<=c/\c<=90))):=by rw[Lk,iZ];simp only[BC,Nat.reduceLeDiff,↓reduceIte,(f300 _ _ _).Ad,Di,(aJ6 _ _ _ _).Ad]
def aCg(s:Ao)(hs:s.length<=AM):Jj cx 366 [.str s] (.str (DR s)):=by
 have Vw:s.length<=140737488355328:=hs;rw[Lk,iK,aFf];have i:IQ [] (.str s)=some ([.cells ((HH s 0).map OL)],.CE 0 0 s.length 1):=by simp only[IQ,hs,BL];rfl
 have g:AE (.len false) [.CE 0 0 s.length 1]=some (I (s.length:Int)):=rfl;simp only[BC,i,g];refine Bf (λn:Nat=>[I (n:Int)]) (λn h=>n<=s.length/\h=[.cells ((HH s n).map OL)]) (λn=>s.length-n) 0 rfl ⟨AQ _,rfl⟩ ?_;rintro n h ⟨hn,rfl⟩;rcases AN n s.length with hlt|D6
 .have i1:(n:Int)<(s.length:Int):=by omega
  have f:AE (.E2 1) [.CE 0 0 s.length 1,I (n:Int)]=some (Pt 0 n):=by simp[AE,elemOf,L8,hlt]
  have e:Bd [.cells ((HH s n).map OL)] none (Pt 0 n)=some (.int .u8 (s[n].toNat:Int)):=rM (by rw[Cl,XB hlt];rfl);have d:IntKind.i32.wrap (s[n].toNat:Int)=(s[n].toNat:Int):=pv (by have:=s[n].toNat_lt;omega);simp only[BC,i1,Av,Aq,An,f,e,Qf,d,(aJ7 _).BV rfl rfl,BI (Ab:n<9223372036854775807)];refine⟨λhe=>?_,λhe=>?_⟩
  .have š:65<=s[n].toNat/\s[n].toNat<=90:=by omega
   have c:Cx [.cells ((HH s n).map OL)] 1 (Pt 0 n) (.int .u8 ((s[n].toNat:Int)-65+97))=some [.cells (((HH s n).map OL).set n (.int .u8 ((s[n].toNat:Int)-65+97)))]:=mM (by rw[Ak,XA];exact hlt) rfl;simp only[BC,rH,cR,wrap_u8 (Ab:0<=((s[n].toNat:Int)-65)/\((s[n].toNat:Int)-65)<=255),wrap_u8 (Ab:0<=((s[n].toNat:Int)-65+97)/\((s[n].toNat:Int)-65+97)<=255),c];refine AK.next (n+1) rfl ⟨hlt,?_⟩ Ab;rw[So hlt,Ek];have b:OL (I0 s[n])= .int .u8 ((s[n].toNat:Int)-65+97):=by unfold OL;rw[Sn š];congr 1;omega
   rw[b]
  .have YN:¬(65<=s[n].toNat/\s[n].toNat<=90):=by omega
   refine AK.next (n+1) rfl ⟨hlt,?_⟩ Ab;rw[So hlt,Oi YN,p_ (XB hlt)]
 .have i1:¬(n:Int)<(s.length:Int):=by omega
  have en:n=s.length:=Ab;subst en;have a:Kw [.cells ((HH s s.length).map OL)] (.CE 0 0 s.length 1)=some ([.CO],.sl 1 (Cd (DR s))):=by
   have hl:(DR s).length=s.length:=by simp[DR]
   rw[mL];simp only[Kw,IK];rw[Ae (by simp[hl])];rw[PD (DR s) s.length 0 Ab];simp
  simp only[BC,i1,Au,Aq,An,a,AU.Wh (s:=DR s) .mk]
end
section
def SM(l:Ao)(ws:List Ao):Prop:=Ev cx 410 [.str l] [] λr _=>r= .sl 1 (ws.map BZ)
def QX{l:Ao}{ws:List Ao}(n:Nat)(hr:(IT.run Š n (Š 410 [.str l]) []).map (λx=>(x.1,x.2.1))=some (.ret,[.sl 1 (ws.map BZ)])):SM l ws:=by obtain⟨⟨x,vs,h⟩,a,b⟩:=ME.1 hr;cases b;rw[Rw] at a;exact⟨n,_,_,_,a,rfl,_,rfl,rfl⟩
def aFl{l:Ao}{ws:List Ao}(hf:SM l ws)(hw:∀w∈ws,w.length<=AM)(hn:ws.length<9223372036854775807)(name:Ao):Jj cx 344 [.str name,.str l] (.str (Co name ws)):=by
 rw[Lk,iG];refine k_ (hf.mono λr h1 e=>?_);subst e;have o7:AU 1 (ws.map BZ) (.sl 1 (ws.map BZ)):= .mk;simp only[BC,o7.len];refine Bf (λn:Nat=>[.str [],I (n:Int)]) (λn _=>n<=ws.length/\Co name ws=Co name (ws.drop n)) (λn=>ws.length-n) 0 rfl ⟨AQ _,rfl⟩ ?_;rintro n h ⟨zH,ha⟩;rcases AN n ws.length with hlt|D6
 .have i1:(n:Int)<((ws.map BZ).length:Int):=Ee;have SN:n<(ws.map BZ).length:=by simpa using hlt
  have a:(ws.map BZ)[n]=[.str ws[n]]:=by simp[BZ]
  rw[AF hlt,Co] at ha;simp only[BC,i1,Av,Aq,An,o7.E2 SN,a,(aCg ws[n] (hw _ (AL hlt))).BV rfl rfl,BI (Ab:n<9223372036854775807)];refine⟨λhe=>?_,λhe=>?_⟩;.rw[ha,Ae he]
  .rw[Ac he] at ha;exact AK.next (n+1) rfl ⟨hlt,ha⟩ Ab
 .have i1:¬(n:Int)<((ws.map BZ).length:Int):=Ee;rw[AO D6,Co] at ha;simp only[BC,i1,Au,Aq,An,ha]
def aFm(l name:Ao)(hl:l.length<=AM):Jj cx 359 [.str l,.str name] (.str (Co name (Dg [] l))):=by
 have c:l.length<=140737488355328:=hl;rw[Lk,ô];refine Bf (λp:Nat×Nat=>[.str [],I (p.1:Int),I (p.2:Int)])
  (λp _=>(p.1<=p.2/\p.2<=l.length/\Co name (Dg [] l)=Co name (Dg ((l.take p.2).drop p.1) (l.drop p.2)))\/(p.2=l.length+1/\Co name (Dg [] l)=name)) (λp=>l.length+1 -p.2) (0,0) rfl (.inl ⟨Ag _,AQ _,AH⟩) ?_
 rintro⟨a,n⟩ h aCf;rcases aCf with⟨YQ,hn,ha⟩|⟨hn,YN⟩
 .simp only at YQ hn ha;have i1:(n:Int)<=(l.length:Int):=Ab;have OW:((l.take n).drop a).length<=AM:=by simp[AM];omega
  rcases AN n l.length with hlt|D6
  .have b:¬(n:Int)=(l.length:Int):=by omega
   simp only[BC,i1,b,Av,Au,An,Aq,Fw hlt,BI (Ab:n<9223372036854775807),Mj YQ hn,(tJ _ OW).BV rfl rfl];rw[AF hlt,PC] at ha;refine⟨λhe=>?_,λhe=>?_⟩
   .have e:l[n]=32:=by rw[<-UN];exact ķ he
    rw[Ae e,Co] at ha;refine⟨λhw=>?_,λhw=>?_⟩;.rw[ha,Ae hw]
    .rw[Ac hw] at ha;refine AK.next (n+1,n+1) rfl (.inl ⟨Ag _,hlt,?_⟩) Dq;rw[ha,OQ]
   .have e:¬l[n]=32:=λe=>he (by rw[e];rfl);rw[Ac e] at ha;refine AK.next (a,n+1) rfl (.inl ⟨Dq,hlt,?_⟩) Dq;rw[ha,Xz YQ hlt]
  .have e:n=l.length:=by omega
   subst e;simp only[BC,Gw,Av,An,Aq,Mj YQ hn,BI (Ab:l.length<9223372036854775807),(tJ _ OW).BV rfl rfl];rw[AO (Ag _),QR,Co,Co] at ha;refine⟨λhw=>?_,λhw=>?_⟩;.rw[ha,Ae hw]
   .rw[Ac hw] at ha;exact AK.next (l.length+1,l.length+1) rfl (.inr ⟨rfl,ha⟩) Dq
 .simp only at hn;subst hn;have i1:¬((l.length+1:Nat):Int)<=(l.length:Int):=Ab;simp only[BC,i1,Au,An,Aq,YN]
def Ve:SM L5 IZ:=QX 5000 Da
def Vf:SM ND H7:=QX 5000 Da
def aJ8(s:Ao):Jj cx 204 [.str s] (.str (Co s IZ)):=by rw[Lk,fW,show aFa (.str s)= .BV 344 [.str s,.str L5] λv=> .ret .ret [v] from rfl];rw[(aFl (l:=L5) Ve EF EF s).BV rfl rfl];simp only[BC]
def aFn(s:Ao):Jj cx 231 [.str s] (.str (Co s IZ)):=by rw[Lk,Ù,show aFb (.str s)= .BV 359 [.str L5,.str s] λv=> .ret .ret [v] from rfl];rw[(aFm L5 s EF).BV rfl rfl,XC];simp only[BC]
def aFo(s:Ao):Jj cx 343 [.str s] (.str (Co s H7)):=by rw[Lk,iF,show aFe (.str s)= .BV 344 [.str s,.str ND] λv=> .ret .ret [v] from rfl];rw[(aFl (l:=ND) Vf EF EF s).BV rfl rfl];simp only[BC]
end
section
def aJ9{v:Aa}{l:List A3}(hv:Br l v)(hn:l.length<9223372036854775807)(h:Ah){f:FuncId}{p:A3->Bool}(hp:∀a∈l,BH cx f [.agg a.row] h (.bool (p a)) h)(hf:f<=99999):
  BH cx 309 [v,.func (.func f) [] []] h (I (B8 p 0 l)) h:=by
 rw[Af,SI];have hlen:(l.map A3.row).length=l.length:=Ak ..;simp only[BC,AU.len hv];refine Bf (λn:Nat=>[I 0,I (n:Int)]) (λn h1=>n<=l.length/\B8 p 0 l=B8 p n (l.drop n)/\h1=h) (λn=>l.length-n) 0 rfl ⟨AQ _,rfl,rfl⟩ ?_;rintro n h1 ⟨zH,ha,rfl⟩;rcases AN n l.length with hlt|D6
 .have i1:(n:Int)<((l.map A3.row).length:Int):=by rw[hlen];omega
  have c:(l.map A3.row)[n]'(by rw[hlen];exact hlt)=A3.row l[n]:=AH;have b:Ft (A3.row l[n]) 0 (some 3)=some (.agg (A3.row l[n])):=by simp[A3.row]
  rw[AF hlt,B8] at ha;simp only[BC,↓reduceIte,Di,hf,BE,i1,Av,Aq,An,AU.E2 hv (show n<(l.map A3.row).length by rw[hlen];exact hlt),c,b,(hp _ (AL hlt)).Ad];rw[Cu];refine⟨λhe=>?_,λhe=>?_⟩;.rw[ha,Ae he]
  .rw[Ac (by simp[he])] at ha;simp only[BC,BI (Ab:n<9223372036854775807)];exact AK.next (n+1) rfl ⟨hlt,ha,rfl⟩ Ab
 .have i1:¬(n:Int)<((l.map A3.row).length:Int):=by rw[hlen];omega
  rw[AO D6,B8] at ha;simp only[BC,↓reduceIte,Di,hf,i1,Au,Aq,An,ha]
def aKa(a:A3)(h:Ah):BH cx 310 [.agg a.row] h (.bool (ON a)) h:=by rw[Af,gG,A3.row];simp only[BC,ON];refine⟨λh=>by simp[h],λh=>by simp[h]⟩
def Ă(a b:Ao)(ha:a.length<=AM)(hb:b.length<=AM):Jj cx 240 [.str a,.str b] (.bool (decide (DR a=DR b))):=by rw[Lk,fZ];simp only[BC,(aCg a ha).BV rfl rfl,(aCg b hb).BV rfl rfl]
def f96{v:Aa}{l:List A3}(hv:Br l v)(hl:∀a∈l,a.value.length<=AM)(hn:l.length<9223372036854775807)(n:Int)(s:Ao)(h:Ah):BH cx 161 [I n,.str s,v] h (.bool (Fl n s l)) h:=by
 rw[Af,eP];simp only[BC,X9,(aJ9 hv hn h (λa _=>aKa a h) AX).Ad,Fl];refine⟨λh2=>by simp[h2],λh2=>⟨λb=>by simp[h2,b],λb=>⟨λg=>by simp[h2,b,g],λg=>?_⟩⟩⟩;rw[Ac h2,Ac b,Ac g];rcases GQ (p:=ON) (l:=l) (k:=0) with⟨f,d⟩|⟨k,a,f,d,i⟩
 .rw[f,d];simp
 .rw[f,i,BU];obtain⟨hk,e⟩:=Al.1 d;have c:k<(l.map A3.row).length:=by simpa using hk
  have o:(l.map A3.row)[k]=A3.row a:=by simp[e]
  have i1:(0:Int)<=(k:Int):=Ab;have Ri:a.value.length<=AM:=hl a (e▸AL hk);have m:DR wH=wH:=Uz EF;have j:DR cY=cY:=Uz EF;simp only[BC,i1,Av,Aq,An,AU.E2 hv c,o,A3.row,(Ă a.value wH Ri AX).BV rfl rfl,(Ă a.value cY Ri AX).BV rfl rfl,m,j];refine⟨λh=>by simp[h],λh=>by simp[h]⟩
def aFp{v:Aa}{l:List A3}(hv:Br l v)(hl:∀a∈l,a.value.length<=AM)(hn:l.length<9223372036854775807)(n:Int)(s:Ao)(hs:s.length<9223372036854775807)(h:Ah):BH cx 167 [I n,.str s,v] h (.bool (Fl n s l)) h:=by
 rw[Af,Â];simp only[BC,UC hs,Fl];refine⟨λh2=>by simp[h2,Er],λh2=>⟨λb=>by simp[h2,b],λb=>⟨λf=>by simp[h2,b,f],λf=>?_⟩⟩⟩;rw[Ac h2,Ac b,Ac f];have hlen:(l.map A3.row).length=l.length:=Ak ..;refine Bf (λn:Nat=>[.bool false,I (n:Int)]) (λn h1=>n<=l.length/\l.find? ON=(l.drop n).find? ON/\h1=h) (λn=>l.length-n) 0 rfl ⟨AQ _,rfl,rfl⟩ ?_;rintro n h1 ⟨zH,ha,rfl⟩;rcases AN n l.length with hlt|D6
 .have i1:(n:Int)<((l.map A3.row).length:Int):=by rw[hlen];omega
  have g:(l.map A3.row)[n]'(by rw[hlen];exact hlt)=A3.row l[n]:=AH;rw[AF hlt,GG] at ha;simp only[BC,AU.len hv,i1,Av,Aq,An,AU.E2 hv (show n<(l.map A3.row).length by rw[hlen];exact hlt),g,A3.row,(tJ _ (hl _ (AL hlt))).BV rfl rfl,BI (Ab:n<9223372036854775807)];refine⟨λe=>⟨λd=>?_,λd=>?_⟩,λe=>?_⟩
  .have he:ON l[n]=true:=by simp[ON,e,d]
   rw[he] at ha;rw[ha];exact⟨λc=>by simp[c],λc=>by simp[c]⟩
  .have he:ON l[n]=false:=by simp[ON,d]
   rw[he] at ha;exact AK.next (n+1) rfl ⟨hlt,ha,rfl⟩ Ab
  .have he:ON l[n]=false:=by simp[ON,e]
   rw[he] at ha;exact AK.next (n+1) rfl ⟨hlt,ha,rfl⟩ Ab
 .have i1:¬(n:Int)<((l.map A3.row).length:Int):=by rw[hlen];omega
  rw[AO D6,List.find?_nil] at ha;rw[ha];simp only[BC,AU.len hv,i1,Au,Aq,An]
end
section
section
variable{U:Type}{f:U->List Aa}{l l2:List U}{v v2:Aa}{z b:Nat}{k k2:IntKind}
end
section
variable{h:Ah}{p:Aa}{l:List Item}
def Vg(hs:jm h p l):BH cx 183 [p] h (I (l.length:Int)) h:=by
 rw[Af,fD];rcases hs with⟨rfl,rfl⟩|⟨id,o,v,rfl,hc,hv⟩
 .simp
 .simp only[BC,HY,hc.load,Bs,hv.CL]
def Yc(hs:jm h p l)(i:Int):BH cx 184 [p,I i] h (.agg (Hv l i).row) h:=by
 rw[Af,fE];simp only[BC,↓reduceIte,AP,(Vg hs).Ad];refine⟨λhi=>by rw[Ok (.inl hi)];simp[Item.row,Item.zero],λhi=>⟨λhl=>by rw[Ok (.inr hl)];simp[Item.row,Item.zero],λhl=>?_⟩⟩;rcases hs with⟨rfl,rfl⟩|⟨id,o,v,rfl,hc,hv⟩
 .simp at hl;omega
 .obtain⟨n,rfl⟩:=IM (Ab:0<=i);have hn:n<l.length:=Ab;simp only[BC,Nat.reduceLeDiff,↓reduceIte,Fa,hc.load,Bs,hv.BJ hn,H8 hn]
def f39(hs:jm h p l)(hn:l.length<=1000000000):BH cx 197 [p] h (.agg (Fx l).row) h:=by rw[Af,fO];simp only[BC,Fa,(Vg hs).Ad,C3 (Ab: -9223372036854775808<=(l.length:Int)-1) (Ab:(l.length:Int)-1<9223372036854775808),(Yc hs _).Ad,Fx]
def Vh(F:Aa)(h:Ah)(q:Item->Bool):Prop:=∃f caps,F= .func (.func f) [] caps/\f<=99999/\∀a:Item,BH cx f (.agg a.row::caps) h (.bool (q a)) h
def Vh.Ja{F:Aa}{q:Item->Bool}(hF:Vh F h q)(a:Item){k:Aa->IT}{Q:Hb}:W cx (.Ja F [.agg a.row] k) Q h↔W cx (k (.bool (q a))) Q h:=by obtain⟨f,caps,rfl,hf,hr⟩:=hF;rw[MU];simp only[Di,hf,↓reduceIte,BQ,CJ,Mi,(hr a).Ad]
def aCh(hs:jm h p l)(hn:l.length<=1000000000){F:Aa}{q:Item->Bool}(hF:Vh F h q):BH cx 326 [p,F] h (I (AR q l)) h:=by
 obtain⟨f,caps,rfl,hf,hr⟩:=hF;rw[Af,gQ];simp only[BC,(Vg hs).Ad,C3 (Ab: -9223372036854775808<=(l.length:Int)-1) (Ab:(l.length:Int)-1<9223372036854775808)];refine Bf (λn:Nat=>[I 0,I ((n:Int)-1)]) (λn h1=>n<=l.length/\AR q l=AR q (l.take n)/\h1=h) (λn=>n) l.length rfl ⟨Ag _,by rw[Bv],rfl⟩ ?_;rintro n h1 ⟨zH,ha,rfl⟩;cases n with
 |zero=>have i1:¬(0:Int)<=((0:Nat):Int)-1:=Ab;rw[ha];simp only[BC,↓reduceIte,Di,hf,i1,Au,Aq,An,J2]
 |succ n=>
  have i1:(0:Int)<=((n+1:Nat):Int)-1:=Ab;have a:((n+1:Nat):Int)-1=(n:Int):=Ab;rcases hs with⟨rfl,rfl⟩|⟨id,o,v,rfl,hc,hv⟩
  .simp at zH
  .rw[GR Ab] at ha;simp only[BC,Nat.reduceLeDiff,↓reduceIte,Di,Fa,hf,a,(Ab:(0:Int)<=(n:Int)),Av,Aq,An,hc.load,Bs,hv.BJ (Ab:n<l.length),(hr l[n]).Ad,C3 (Ab: -9223372036854775808<=(n:Int)-1) (Ab:(n:Int)-1<9223372036854775808)];rw[Cu];refine⟨λhe=>?_,λhe=>?_⟩;.rw[ha,Ae he]
   .rw[Ac (by simp[he])] at ha;exact AK.next n rfl ⟨Ab,ha,rfl⟩ Ab
def aKb{v:Aa}{ws:List Ao}(hv:HI ws v)(hn:ws.length<=1000000000)(s:Ao)(h:Ah):BH cx 397 [v,.str s] h (I (B8 (λw=>decide (s=w)) 0 ws)) h:=by
 rw[Af,iP];have hv:AU 1 (ws.map BZ) v:=hv;simp only[BC,hv.CL];refine Bf (λn:Nat=>[I 0,I (n:Int)]) (λn h1=>n<=ws.length/\B8 (λw=>decide (s=w)) 0 ws=B8 (λw=>decide (s=w)) n (ws.drop n)/\h1=h) (λn=>ws.length-n) 0 rfl ⟨AQ _,rfl,rfl⟩ ?_;rintro n h1 ⟨zH,ha,rfl⟩;rcases AN n ws.length with hlt|D6
 .have i1:(n:Int)<(ws.length:Int):=by omega
  rw[AF hlt,B8] at ha;simp only[BC,i1,Av,Aq,An,hv.BJ hlt,BZ,BI (Ab:n<9223372036854775807)];refine⟨λhe=>?_,λhe=>?_⟩;.rw[ha,Ae (by simpa using he)]
  .rw[Ac (by simpa using he)] at ha;exact AK.next (n+1) rfl ⟨hlt,ha,rfl⟩ Ab
 .have i1:¬(n:Int)<(ws.length:Int):=by omega
  rw[AO D6,B8] at ha;simp only[BC,i1,Au,Aq,An,ha]
def ă{v:Aa}{ws:List Ao}(hv:HI ws v)(hn:ws.length<=1000000000)(s:Ao)(h:Ah):BH cx 311 [v,.str s] h (.bool (decide (s∈ws))) h:=by rw[Af,gH];simp only[BC,(aKb hv hn s h).Ad,zn]
def nH{v:Aa}{ws:List Ao}(hv:HI ws v)(hn:ws.length<=1000000000)(a:Item)(h:Ah):BH cx 202 [.agg a.row,v] h (.bool (By ws a)) h:=by rw[Af,fU];simp only[BC,Fa,(ă hv hn _ h).Ad,By];refine⟨λh1=>by simp[h1],λh1=>by simp[h1]⟩
def aKc(a:Item)(h:Ah):BH cx 426 [.agg a.row] h (.bool (By Oh a)) h:=by rw[Af,i6];simp only[BC,Fa,rN,(nH (ws:=Oh) C0 AX a h).Ad]
def aKd(a:Item)(h:Ah):BH cx 427 [.agg a.row] h (.bool (!By Mm a)) h:=by rw[Af,i7];simp only[BC,Fa,mN,(nH (ws:=Mm) C0 AX a h).Ad]
def aKe(n:Int)(j:n≠4)(i:n≠5)(a:Item)(h:Ah):BH cx 428 [.agg a.row,.CG [I n]] h (.bool (JN n a)) h:=by have b1:=nH (ws:=Qj) C0 AX a h;have b2:=nH (ws:=Ro) C0 AX a h;have b3:=nH (ws:=[aSW]) C0 AX a h;rw[Af,jA];simp only[BC,Fa,X9,rO,dz,d_,b1.Ad,b2.Ad,b3.Ad,JN,j,i];refine⟨λh1=>by simp[h1],λh1=>⟨λh2=>by simp[h2],λh2=>?_⟩⟩;rw[Cu];simp only[h1,h2,or_self,Ea];refine⟨λd=>by simp[d],λd=>⟨λe=>?_,λe=>⟨λc=>by simp[d,c],λc=>by simp[d,e,c]⟩⟩⟩;rw[Cu];exact⟨λc=>by simp[d,e,c],λc=>⟨λg=>Ab,λg=>by simp[d,c,g]⟩⟩
def f264(n:Int)(h:Ah):∃F,BH cx 403 [I n] h F h/\Vh F h (JN n)/\F.cells=[F]:=by
 by_cases d:n=4
 .refine⟨.func (.func 426) [] [],?_,⟨_,_,rfl,AX,λa=>?_⟩,rfl⟩;.rw[Af,SL];simp only[BC,d,Av,Aq,An]
  .have:=aKc a h;simpa[JN,d] using this
 .by_cases c:n=5
  .refine⟨.func (.func 427) [] [],?_,⟨_,_,rfl,AX,λa=>?_⟩,rfl⟩;.rw[Af,SL];simp only[BC,c,Av,Aq,An];simp
   .have:=aKd a h;simpa[JN,c] using this
  .refine⟨.func (.func 428) [] [.CG [I n]],?_,⟨_,_,rfl,AX,λa=>aKe n d c a h⟩,rfl⟩;rw[Af,SL];simp only[BC,d,c,Au,Aq,An]
def aKf{d F2:Aa}{q e:Item->Bool}(h1:Vh d h q)(h2:Vh F2 h e)(a:Item):BH cx 404 [.agg a.row,.CG [d],.CG [F2]] h (.bool (q a||e a)) h:=by have j:=λk Q=>h1.Ja a (k:=k) (Q:=Q);have i:=λk Q=>h2.Ja a (k:=k) (Q:=Q);rw[Af,iT];obtain⟨f,caps,rfl,hf,g⟩:=h1;obtain⟨f',c,rfl,nu,r2⟩:=h2;simp only[BC,↓reduceIte,Di,Fa,hf,nu,(g a).Ad,(r2 a).Ad];rw[Cu];exact⟨λh=>by simp[h],λh=>by simp[h]⟩
def aFq(hs:jm h p l)(hn:l.length<=1000000000)(n:Int){F:Aa}{q:Item->Bool}(hF:Vh F h q):BH cx 322 [p,I n,F] h (.bool (J7 q (JN n) l.reverse)) h:=by
 obtain⟨G,g,aFr,JV⟩:=f264 n h;have c:F.cells=[F]:=by obtain⟨f,caps,rfl,hf,_⟩:=hF;rfl
 have d:=hF;have hfit:Vh (.func (.func 404) [] [.CG [F],.CG [G]]) h (λa=>q a||JN n a):=⟨404,_,rfl,AX,λa=>aKf hF aFr a⟩;rw[Af,gM];simp only[BC,↓reduceIte,Di,c,g.Ad,JV,(aCh hs hn hfit).Ad];rw[<-rP l true];rcases Dc (q:=λa=>q a||JN n a) (l:=l) with⟨h1,h2⟩|⟨k,hk,h1,h2,i⟩
 .simp[h1]
 .have e:(0:Int)<=(k:Int)/\(k:Int).toNat<l.length:=⟨Ab,by simpa using hk⟩;simp only[h1];rw[oV e];rcases hs with⟨rfl,rfl⟩|⟨id,o,v,rfl,hc,hv⟩
  .simp at hk
  .obtain⟨f,caps,rfl,hf,hr⟩:=d;simp only[BC,Nat.reduceLeDiff,↓reduceIte,Fa,hf,e.1,Av,Aq,An,hc.load,Bs,hv.BJ hk,(hr l[k]).Ad,AV]
def aKg{v:Aa}{ws:List Ao}(hv:HI ws v)(hn:ws.length<=1000000000)(a:Item)(h:Ah):BH cx 323 [.agg a.row,.CG [v]] h (.bool (By ws a)) h:=by have b:=nH hv hn a h;rw[Af,gN];simp only[BC,Fa,b.Ad]
def aKh(hs:jm h p l)(hn:l.length<=1000000000)(n:Int){v:Aa}{ws:List Ao}(hv:HI ws v)(hw:ws.length<=1000000000):BH cx 178 [p,I n,v] h (.bool (J7 (By ws) (JN n) l.reverse)) h:=by have hfit:Vh (.func (.func 323) [] [.CG [v]]) h (By ws):=⟨323,_,rfl,AX,λa=>aKg hv hw a h⟩;rw[Af,eZ];simp only[BC,hv.cells,(aFq hs hn n hfit).Ad]
def aKi(node:Int)(a:Item)(h:Ah):BH cx 406 [.agg a.row,.CG [I node]] h (.bool (Bw node a)) h:=by rw[Af,iV,Item.row];simp only[BC,Fa,Bw]
def aKj(hs:jm h p l)(hn:l.length<=1000000000)(n node:Int):BH cx 332 [p,I n,I node] h (.bool (J7 (Bw node) (JN n) l.reverse)) h:=by have hfit:Vh (.func (.func 406) [] [.CG [I node]]) h (Bw node):=⟨406,_,rfl,AX,λa=>aKi node a h⟩;rw[Af,gW];simp only[BC,(aFq hs hn n hfit).Ad]
def aKk(node:Int)(a:Item)(h:Ah):BH cx 327 [.agg a.row,.CG [I node]] h (.bool (Bw node a)) h:=by rw[Af,gR,Item.row];simp only[BC,Fa,Bw]
def Zn(hs:jm h p l)(hn:l.length<=1000000000)(node:Int):BH cx 180 [p,I node] h (I (AR (Bw node) l)) h:=by have hfit:Vh (.func (.func 327) [] [.CG [I node]]) h (Bw node):=⟨327,_,rfl,AX,λa=>aKk node a h⟩;rw[Af,fB];simp only[BC,(aCh hs hn hfit).Ad]
def aKl(s:Ao)(a:Item)(h:Ah):BH cx 340 [.agg a.row,.CG [.str s]] h (.bool (By [s] a)) h:=by have b:=nH (ws:=[s]) C0 (AH:[s].length<=1000000000) a h;rw[Af,iC];simp only[BC,Fa,DF (ws:=[s]) (args:=[.str s]) rfl AH,b.Ad]
def aCi(hs:jm h p l)(hn:l.length<=1000000000)(s:Ao):BH cx 194 [p,.str s] h (I (AR (By [s]) l)) h:=by have hfit:Vh (.func (.func 340) [] [.CG [.str s]]) h (By [s]):=⟨340,_,rfl,AX,λa=>aKl s a h⟩;rw[Af,fL];simp only[BC,(aCh hs hn hfit).Ad]
end
end
section
section
variable{h:Ah}{p v:Aa}{l:List Item}
def aFs(hv:B1 l v)(a:Item){n:Nat}(hn:n<=l.length)(hb:l.length<=1000000000):∃u,BH cx 308 [v,.agg a.row,I (n:Int)] h u h/\B1 (l.take n++a::l.drop n) u:=by
 have Q9:(l.length+1)*40<=AM:=by have:AM=140737488355328:=rfl;omega
 obtain⟨t,q,h1⟩:=AU.Mn hv (k:= .i64) hn;obtain⟨s,m,h2⟩:=AU.Gt h1 (b:=40) (by rw[As];have:AM=140737488355328:=rfl;omega);have j:=AU.Ki (a:=a) h2 (b:=40) (by rw[As];have:AM=140737488355328:=rfl;omega);obtain⟨r,i,e⟩:=AU.Sp hv (k:= .i64) hn;obtain⟨d,g,c⟩:=AU.cZ (v:= .sl 4 ((l.take n++[a]).map Item.row)) .mk e (b:=40) (by rw[Aw,As,Bb,Bi];have:AM=140737488355328:=rfl;omega);refine⟨d,?_,by rw[AI] at c;exact c⟩;rw[Af,gF];simp only[BC,Fa,q,m,Mo,j,i,g]
def f95{id o:Nat}(hs:LV h id o l)(hb:l.length<=1000000000)(a:Item):∃u,BH cx 160 [Pt id o,.agg a.row] h (.tuple []) (put h id o u)/\B1 (l++[a]) u:=by obtain⟨v,hc,hv⟩:=hs;obtain⟨u,hr,hu⟩:=aFs (h:=h) hv a (n:=l.length) (Ag _) hb;rw[Bv,El] at hu;refine⟨u,?_,hu⟩;rw[Af,eO];simp only[BC,Fa,RE,IL,hc.load,Bs,AU.CL hv,hr.Ad,hc.store hu.cells]
def aKm(hs:jm h p l)(hb:l.length<=1000000000)(node:Int):BH cx 333 [p,I node] h (I (D0 node l)) h:=by
 rw[Af,gX];have a: -1<=AR (Bw node) l/\AR (Bw node) l<l.length+1:=by rcases Dc (q:=Bw node) (l:=l) with⟨h1,h2⟩|⟨n,hn,h1,h2,c⟩<;>rw[h1]<;>omega
 simp only[BC,(Zn hs hb node).Ad,Oj (Ab: -9223372036854775808<=AR (Bw node) l+1) (Ab:AR (Bw node) l+1<9223372036854775808)];rw[IB];by_cases FQ:AR (Bw node) l<0;.rw[Ae FQ];refine Bf (λn:Nat=>[I 0,I (AR (Bw node) l+1)]) (λn h1=>h1=h) (λn=>n) 0 rfl rfl ?_;rintro n h1 rfl;have i1:¬0<=AR (Bw node) l:=Ab;simp only[BC,i1,Au,Aq,An]
 .rw[Ac FQ];have i0:0<=AR (Bw node) l:=Ab;obtain⟨m,hm⟩:=IM i0;refine Bf (λn:Nat=>[I 0,I (n:Int)]) (λn h1=>EY GS l (m+1)=EY GS l n/\h1=h) (λn=>l.length-n) (m+1) (by rw[hm];rfl) ⟨rfl,rfl⟩ ?_;rw[hm,AV];rintro n h1 ⟨ha,rfl⟩;simp only[BC,(Ab:(0:Int)<=(m:Int)),Av,Aq,An,(Vg hs).Ad];rcases AN n l.length with hlt|D6
  .have i1:(n:Int)<(l.length:Int):=by omega
   rw[Sq hlt] at ha;rcases hs with⟨rfl,rfl⟩|⟨id,o,v,rfl,hc,hv⟩
   .simp at hlt
   .simp only[BC,Fa,i1,Av,Aq,An,hc.load,Bs,AU.BJ hv hlt,X9,BI (Ab:n<9223372036854775807)];rw[Cu];refine⟨λhe=>?_,λhe=>?_⟩;.rw[ha,Ae (by exact he)]
    .rw[Ac (by simp[GS,he])] at ha;exact AK.next (n+1) rfl ⟨ha,rfl⟩ Ab
  .have i1:¬(n:Int)<(l.length:Int):=by omega
   rw[QS D6] at ha;simp only[BC,i1,Au,Aq,An,ha]
def aFt(hv:B1 l v)(i:Int):BH cx 383 [v,I i] h (.agg (Hv l i).row) h:=by have hv:AU 4 (l.map Item.row) v:=hv;rw[Af,ú];simp only[BC,↓reduceIte,AP,hv.CL];refine⟨λhi=>by rw[Ok (.inl hi)];simp[Item.row,Item.zero],λhi=>⟨λhl=>by rw[Ok (.inr hl)];simp[Item.row,Item.zero],λhl=>?_⟩⟩;obtain⟨n,rfl⟩:=IM (Ab:0<=i);have hn:n<l.length:=Ab;simp only[BC,Nat.reduceLeDiff,↓reduceIte,Fa,hv.BJ hn,H8 hn]
def aKn(hv:B1 l v)(hb:l.length<=1000000000):BH cx 352 [v] h (.agg (Fx l).row) h:=by rw[Af,î];simp only[BC,Fa,AU.CL hv,C3 (Ab: -9223372036854775808<=(l.length:Int)-1) (Ab:(l.length:Int)-1<9223372036854775808),(aFt hv _).Ad,Fx]
def f167(a:Item){ws:List Ao}(hv:HI ws v)(hn:ws.length<=1000000000):BH cx 218 [.agg a.row,v] h (.bool (By ws a)) h:=by
 rw[Af,Î];simp only[BC,Fa];refine⟨λh1=>by simp[By,h1],λh1=>?_⟩;have h1:a.A7=1:=by simpa using h1
 have hv:AU 1 (ws.map BZ) v:=hv;refine Bf (λn:Nat=>[.bool false,I (n:Int)]) (λn h1=>n<=ws.length/\(a.name∈ws↔a.name∈ws.drop n)/\h1=h) (λn=>ws.length-n) 0 rfl ⟨AQ _,aDb,rfl⟩ ?_;rintro n h2 ⟨zH,ha,rfl⟩;rcases AN n ws.length with hlt|D6
 .have i1:(n:Int)<(ws.length:Int):=by omega
  rw[AF hlt,AT] at ha;simp only[BC,hv.CL,i1,Av,Aq,An,hv.BJ hlt,BZ,BI (Ab:n<9223372036854775807)];refine⟨λhe=>?_,λhe=>?_⟩;.have:a.name∈ws:=ha.2 (.inl he.symm);simp[By,h1,this]
  .exact AK.next (n+1) rfl ⟨hlt,ha.trans ⟨λh=>h.resolve_left (λh=>he h.symm),.inr⟩,rfl⟩ Ab
 .have i1:¬(n:Int)<(ws.length:Int):=by omega
  rw[AO D6] at ha;simp only[BC,hv.CL,i1,Au,Aq,An];have:a.name∉ws:=λh=>by simpa using ha.1 h
  simp[By,this]
def aKo(n:Int)(a:Item)(hs:a.name.length<9223372036854775807):BH cx 412 [.agg a.row,I n] h (.bool (JN n a)) h:=by
 rw[Af,þ];simp only[BC,Fa,fy hs,tI hs,tl hs,f_ hs,nG hs,JN,By];by_cases h1:a.A7=1
 .have j:¬a.A7=3:=by omega
  have i:¬a.A7=2:=Ab;simp only[h1,Dp,Rk,MD,An,Av,RC,forall_const];by_cases d:n=4;.simp[d]
  .by_cases c:n=5;.simp[c]
   .by_cases h2:n=2;.simp[h2];by_cases hl:a.name∈Ro<;>simp[hl]
    .by_cases g:n=3;.simp[g];by_cases hl:a.name=aSW<;>simp[hl]
     .simp[d,c,h2,g]
 .simp only[h1,Dy,Tu,YU,Aq,An,Au,IL];by_cases d:n=4;.simp[d]
  .by_cases c:n=5;.simp[c]
   .by_cases g:a.A7=3\/a.A7=2;.simp[d,c,g]
    .have j:¬a.A7=3:=λe=>g (.inl e);have i:¬a.A7=2:=λe=>g (.inr e);simp[d,c,j,i,Er,h1]
def aFu(hv:B1 l v)(hb:l.length<=1000000000)(hl:∀a∈l,a.name.length<9223372036854775807){i:Nat}(hi:i<=l.length)(n:Int):BH cx 349 [v,I (i:Int),I n] h (.bool (!((l.drop (i+1)).any (JN n)))) h:=by
 have hv:AU 4 (l.map Item.row) v:=hv;rw[Af,ë];simp only[BC,BI (Ab:i<9223372036854775807)];refine Bf (λm:Nat=>[.bool false,I (m:Int)]) (λm h1=>(l.drop (i+1)).any (JN n)=(l.drop m).any (JN n)/\h1=h) (λm=>l.length-m) (i+1) rfl ⟨rfl,rfl⟩ ?_;rintro m h1 ⟨ha,rfl⟩;rcases AN m l.length with hlt|D6
 .have i1:(m:Int)<(l.length:Int):=by omega
  rw[AF hlt,JH] at ha;simp only[BC,Nat.reduceLeDiff,↓reduceIte,Fa,hv.CL,i1,Av,Aq,An,hv.BJ hlt,(aKo n l[m] (hl _ (AL hlt))).Ad,BI (Ab:m<9223372036854775807)];rw[Cu];refine⟨λhe=>by rw[ha,he];rfl,λhe=>?_⟩;rw[he,EV] at ha;exact AK.next (m+1) rfl ⟨ha,rfl⟩ Ab
 .have i1:¬(m:Int)<(l.length:Int):=by omega
  rw[AO D6] at ha;simp only[BC,↓reduceIte,hv.CL,i1,Au,Aq,An,ha,MH,IL]
def aKp(hv:B1 l v)(hb:l.length<=1000000000)(hl:∀a∈l,a.name.length<9223372036854775807)(n:Int){w:Aa}{ws:List Ao}(hw:HI ws w)(hn:ws.length<=1000000000):BH cx 215 [v,I n,w] h (.bool (J7 (By ws) (JN n) l.reverse)) h:=by
 have DC:AU 4 (l.map Item.row) v:=hv;rw[Af,Ë,<-mO];refine Bf (λm:Nat=>[.bool false,I (m:Int)]) (λm h1=>m<=l.length/\XE (By ws) (JN n) l=XE (By ws) (JN n) (l.drop m)/\h1=h) (λm=>l.length-m) 0 rfl ⟨AQ _,rfl,rfl⟩ ?_;rintro m h1 ⟨hm,ha,rfl⟩;rcases AN m l.length with hlt|D6
 .have i1:(m:Int)<(l.length:Int):=by omega
  rw[AF hlt,XE] at ha;simp only[BC,Nat.reduceLeDiff,↓reduceIte,Fa,DC.CL,i1,Av,Aq,An,DC.BJ hlt,(f167 l[m] hw hn).Ad,(aFu hv hb hl (MG hlt) n).Ad,BI (Ab:m<9223372036854775807)];rw[Cu,Cu];refine⟨λh1=>⟨λh2=>by rw[ha,h1,h2];rfl,λh2=>?_⟩,λh1=>?_⟩;.rw[h2,w_,EV] at ha;exact AK.next (m+1) rfl ⟨hlt,ha,rfl⟩ Ab
  .rw[h1,xb,EV] at ha;exact AK.next (m+1) rfl ⟨hlt,ha,rfl⟩ Ab
 .have i1:¬(m:Int)<(l.length:Int):=by omega
  rw[AO D6,XE] at ha;simp only[BC,↓reduceIte,DC.CL,i1,Au,Aq,An,ha]
def Zo(hv:B1 l v)(hb:l.length<=1000000000)(node:Int):BH cx 284 [v,I node] h (I (AR (Bw node) l)) h:=by
 have hv:AU 4 (l.map Item.row) v:=hv;rw[Af,á];refine Bf (λn:Nat=>[I (AR (Bw node) (l.take n)),I (n:Int)]) (λn h1=>n<=l.length/\h1=h) (λn=>l.length-n) 0 rfl ⟨AQ _,rfl⟩ ?_;rintro n h1 ⟨hn,rfl⟩;rcases AN n l.length with hlt|D6
 .have i1:(n:Int)<(l.length:Int):=by omega
  have e:=GR (q:=Bw node) hlt;simp only[BC,Fa,hv.CL,i1,Av,Aq,An,hv.BJ hlt,BI (Ab:n<9223372036854775807)];refine⟨λhe=>?_,λhe=>?_⟩;.rw[Ae (by simpa[Bw] using he)] at e;exact AK.next (n+1) (by rw[e]) ⟨hlt,rfl⟩ Ab
  .rw[Ac (by simpa[Bw] using he)] at e;exact AK.next (n+1) (by rw[e]) ⟨hlt,rfl⟩ Ab
 .have i1:¬(n:Int)<(l.length:Int):=by omega
  simp only[BC,hv.CL,i1,Au,Aq,An,AG D6]
def aCj(hv:B1 l v)(hb:l.length<=1000000000)(s:Ao):BH cx 142 [v,.str s] h (I (AR (By [s]) l)) h:=by
 have hv:AU 4 (l.map Item.row) v:=hv;have b:=λa=>f167 (h:=h) a (ws:=[s]) C0 (AH:[s].length<=1000000000);rw[Af,T_];refine Bf (λn:Nat=>[I (AR (By [s]) (l.take n)),I (n:Int)]) (λn h1=>n<=l.length/\h1=h) (λn=>l.length-n) 0 rfl ⟨AQ _,rfl⟩ ?_;rintro n h1 ⟨hn,rfl⟩;rcases AN n l.length with hlt|D6
 .have i1:(n:Int)<(l.length:Int):=by omega
  have e:=GR (q:=By [s]) hlt;simp only[BC,Nat.reduceLeDiff,↓reduceIte,Fa,hv.CL,i1,Av,Aq,An,hv.BJ hlt,BI (Ab:n<9223372036854775807),DF (ws:=[s]) (args:=[.str s]) rfl AH,(b l[n]).Ad];rw[Cu];refine⟨λhe=>?_,λhe=>?_⟩;.rw[Ae he] at e;exact AK.next (n+1) (by rw[e]) ⟨hlt,rfl⟩ Ab
  .rw[Ac (by simpa using he)] at e;exact AK.next (n+1) (by rw[e]) ⟨hlt,rfl⟩ Ab
 .have i1:¬(n:Int)<(l.length:Int):=by omega
  simp only[BC,↓reduceIte,hv.CL,i1,Au,Aq,An,AG D6]
def aKq(hv:B1 l v)(hb:l.length<=1000000000)(hl:∀a∈l,a.name.length<9223372036854775807)(n node:Int):BH cx 293 [v,I n,I node] h (.bool (J7 (Bw node) (JN n) l.reverse)) h:=by
 rw[Af,ã,<-aBA];simp only[BC,(Zo hv hb node).Ad];rcases Dc (q:=Bw node) (l:=l) with⟨h1,h2⟩|⟨k,hk,h1,h2,c⟩
 .simp[h1]
 .rw[h1];simp only[BC,(Ab:(0:Int)<=(k:Int)),(Ab:¬(k:Int)<0),Av,Aq,An,(aFu hv hb hl (MG hk) n).Ad,AV]
def aKr(hv:B1 l v)(hb:l.length<=1000000000)(hl:∀a∈l,a.name.length<9223372036854775807)(node:Int):BH cx 355 [v,I node] h (I (D0 node l)) h:=by
 have DC:AU 4 (l.map Item.row) v:=hv;rw[Af,ð,IB];simp only[BC,(Zo hv hb node).Ad];rcases Dc (q:=Bw node) (l:=l) with⟨h1,h2⟩|⟨k,hk,h1,h2,c⟩
 .simp[h1]
 .rw[h1];simp only[BC,(Ab:¬(k:Int)<0),Au,Aq,An,AV,BI (Ab:k<9223372036854775807)];refine Bf (λn:Nat=>[I 0,I (n:Int)]) (λn h1=>EY GS l (k+1)=EY GS l n/\h1=h) (λn=>l.length-n) (k+1) rfl ⟨rfl,rfl⟩ ?_;rintro n h1 ⟨ha,rfl⟩;rcases AN n l.length with hlt|D6
  .have i1:(n:Int)<(l.length:Int):=by omega
   rw[Sq hlt] at ha;simp only[BC,Fa,DC.CL,i1,Av,Aq,An,DC.BJ hlt,nG (hl _ (AL hlt)),BI (Ab:n<9223372036854775807)];rw[Cu];refine⟨λhe=>by rw[ha,Ae (by exact he)],λhe=>?_⟩;rw[Ac (by simp[GS,he])] at ha;exact AK.next (n+1) rfl ⟨ha,rfl⟩ Ab
  .have i1:¬(n:Int)<(l.length:Int):=by omega
   rw[QS D6] at ha;simp only[BC,DC.CL,i1,Au,Aq,An,ha]
end
end
section
def Yd(F:Aa)(q:Item->Bool):Prop:=∃f caps,F= .func (.func f) [] caps/\f<=99999/\∀(a:Item) (h:Ah),BH cx f (.agg a.row::caps) h (.bool (q a)) h
section
variable{h:Ah}{p v:Aa}{l:List Item}
def f42{id o:Nat}(hs:LV h id o l)(hb:l.length<=1000000000)(h2:2<=l.length):∃u,BH cx 82 [Pt id o] h (.agg (Fx l).row) (put h id o u)/\B1 (l.take (l.length-1)) u:=by obtain⟨v,hc,hv⟩:=(show LV h id o l from hs);obtain⟨u,e,hu⟩:=AU.Mn hv (k:= .i64) (Ab:l.length-1<=l.length);refine⟨u,?_,hu⟩;have a:(l.length:Int)-1=((l.length-1:Nat):Int):=Ab;rw[Af,X3];simp only[BC,Fa,(Vg hs.at).Ad,(f39 hs.at hb).Ad,hc.load,Bs,AU.CL hv,C3 (Ab: -9223372036854775808<=(l.length:Int)-1) (Ab:(l.length:Int)-1<9223372036854775808),a,e,hc.store (AU.cells hu),(Ab:¬(l.length:Int)<2),Au,Aq,An]
def Ą{id o:Nat}(hs:LV h id o l)(hb:l.length<=1000000000){B A:Aa}{b a:Item->Bool}(hB:Yd B b)(d:Yd A a):
  ∃u,BH cx 199 [Pt id o,B,A] h (I ((l.length:Int)-((DO b a l).length:Int))) (put h id o u)/\B1 (DO b a l) u:=by
 obtain⟨e,j,rfl,gd,rb⟩:=hB;obtain⟨fa,ca,rfl,hfa,ra⟩:=d;have hlt:=hs.lt;have Ji:Ev cx 199 [Pt id o,.func (.func e) [] j,.func (.func fa) [] ca] h λr h'=>r= I ((l.length:Int)-((DO b a l).length:Int))/\∃u,h'=put h id o u/\B1 (DO b a l) u:=by
  unfold Ev;rw[fQ];refine Bf (λn:Nat=>[I ((l.length:Int)-(n:Int))]) (λn h1=>n<=l.length/\(∃u,h1=put h id o u/\B1 (l.take n) u)/\DO b a l=DO b a (l.take n)) (λn=>n) l.length AH ⟨Ag _,by rw[Bv];exact hs.dE,by rw[Bv]⟩ ?_;rintro n h1 ⟨hn,⟨u,rfl,hu⟩,ha⟩;have JW:LV (put h id o u) id o (l.take n):= .aBB hlt hu;have pV:(l.take n).length=n:=by rw[As];omega
  simp only[BC,↓reduceIte,(Vg JW.at).Ad,pV];match n,hn,hu,ha,JW,pV with
  |0,hn,hu,ha,JW,pV=>rw[XF (l:=l.take 0) AH] at ha;simp only[BC,(Ab:¬(1:Int)<((0:Nat):Int)),Au,Aq,An];exact⟨_,rfl,by rw[ha];rfl,u,rfl,by rw[ha];exact hu⟩
  |1,hn,hu,ha,JW,pV=>rw[XF (l:=l.take 1) (by rw[pV];exact Ag _)] at ha;simp only[BC,(Ab:¬(1:Int)<((1:Nat):Int)),Au,Aq,An];exact⟨_,rfl,by rw[ha,pV],u,rfl,by rw[ha];exact hu⟩
  |m+2,hn,hu,ha,JW,pV=>
   have hm:m+1<l.length:=Ab;have i:((l.length:Int)-((m+2:Nat):Int))+1=(l.length:Int)-((m+1:Nat):Int):=Ab;obtain⟨c,hr,Jr⟩:=f42 JW Ab Ab;rw[XG hm] at hr;have g:(l.take (m+2)).take ((l.take (m+2)).length-1)=l.take (m+1):=by rw[pV,FA,Cp Ab];rfl
   rw[g] at Jr;rw[dB] at hr;have aFv:=f39 JW.at Ab;rw[XG hm] at aFv;rw[aH hm] at ha;simp only[BC,↓reduceIte,Di,hfa,gd,(Ab:(1:Int)<((m+2:Nat):Int)),Av,Aq,An,aFv.Ad,(rb _ _).Ad,hr.Ad,(ra _ _).Ad,Oj (Ab: -9223372036854775808<=((l.length:Int)-((m+2:Nat):Int))+1) (Ab:((l.length:Int)-((m+2:Nat):Int))+1<9223372036854775808),i];rw[Cu,Cu];refine⟨λTc=>⟨λZa=>?_,λZa=>?_⟩,λTc=>?_⟩
   .have Tc:b l[m+1]=false:=by simpa using Tc
    rw[Ac (by simp[Tc]),Ae Za] at ha;exact⟨_,rfl,by rw[ha,As,Cp Ab],c,rfl,by rw[ha];exact Jr⟩
   .have Tc:b l[m+1]=false:=by simpa using Tc
    rw[Ac (by simp[Tc]),Ac (by simp[Za])] at ha;exact AK.next (m+1) rfl ⟨Ab,⟨c,rfl,Jr⟩,ha⟩ Ab
   .have Tc:b l[m+1]=true:=by simpa using Tc
    rw[Ae Tc] at ha;exact⟨_,rfl,by rw[ha,pV],u,rfl,by rw[ha];exact hu⟩
 obtain⟨r,h',hr,rfl,u,rfl,hu⟩:=Ji.ret;exact⟨u,hr,hu⟩
def Ow:Yd (.func (.func 200) [] []) CX:=⟨_,_,rfl,AX,λa h=>by rw[Af,fR];simp only[BC,Fa,CX]⟩
def tK{w:Aa}{ws:List Ao}(hw:HI ws w)(hn:ws.length<=1000000000):Yd (.func (.func 201) [] [.CG [w]]) (By ws):=⟨_,_,rfl,AX,λa h=>by rw[Af,fS];simp only[BC,Fa,(nH hw hn a h).Ad]⟩
def jD(s:Ao):Yd (.func (.func 324) [] [.CG [.str s]]) (Es s):=⟨_,_,rfl,AX,λa h=>by
 rw[Af,gO];simp only[BC,Fa,tj,Es];refine⟨λh1=>by simp[h1],λh1=>?_⟩;rw[Cu];refine⟨λh2=>?_,λh2=>?_⟩
 .have h2:a.name∉Gs:=by simpa using h2
  simp[h2]
 .have h2:a.name∈Gs:=by simpa using h2
  have h1:a.A7=1:=by simpa using h1
  simp[h2,h1]⟩
def Zp:Yd (.func (.func 341) [] []) CM:=⟨_,_,rfl,AX,λa h=>by
 rw[Af,iD];simp only[BC,Fa,tk,CM];refine⟨λh1=>by simp[h1],λh1=>?_⟩;have h1:a.A7=1:=by simpa using h1
 simp[h1]⟩
def jE(node:Int):Yd (.func (.func 328) [] [.CG [I node]]) (Bw node):=⟨_,_,rfl,AX,λa h=>by rw[Af,gS];simp only[BC,Fa,Bw]⟩
def aFw{id o:Nat}(hs:LV h id o l)(hb:l.length<=1000000000)(s:Ao):
  ∃u,BH cx 179 [Pt id o,.str s] h (I ((l.length:Int)-((DO (Es s) CX l).length:Int))) (put h id o u)/\B1 (DO (Es s) CX l) u:=by
 obtain⟨u,hr,hu⟩:=Ą hs hb (jD s) Ow;exact⟨u,by rw[Af,fA];simp only[BC,hr.Ad],hu⟩
def f66{id o:Nat}(hs:LV h id o l)(hb:l.length<=1000000000){w:Aa}{ws:List Ao}(hw:HI ws w)(hn:ws.length<=1000000000):
  ∃u,BH cx 84 [Pt id o,w] h (I ((l.length:Int)-((DO CX (By ws) l).length:Int))) (put h id o u)/\B1 (DO CX (By ws) l) u:=by
 obtain⟨u,hr,hu⟩:=Ą hs hb Ow (tK hw hn);exact⟨u,by rw[Af,tE];simp only[BC,HI.cells hw,hr.Ad],hu⟩
def aKt{id o:Nat}(hs:LV h id o l)(hb:l.length<=1000000000):
  ∃u,BH cx 195 [Pt id o] h (I ((l.length:Int)-((DO CM CX l).length:Int))) (put h id o u)/\B1 (DO CM CX l) u:=by
 obtain⟨u,hr,hu⟩:=Ą hs hb Zp Ow;exact⟨u,by rw[Af,fM];simp only[BC,hr.Ad],hu⟩
def aFx{id o:Nat}(hs:LV h id o l)(hb:l.length<=1000000000)(node:Int):
  ∃u,BH cx 185 [Pt id o,I node] h (I ((l.length:Int)-((GU node l).length:Int))) (put h id o u)/\B1 (GU node l) u:=by
 by_cases FQ:AR (Bw node) l<0;.obtain⟨u,e,hu⟩:=hs.dE;refine⟨u,?_,by rw[GU,Ae FQ];exact hu⟩;rw[GU,Ae FQ,Int.sub_self,Af,VQ];simp only[BC,(Zn hs.at hb node).Ad,FQ,Av,Aq,An];exact e
 .obtain⟨u,hr,hu⟩:=Ą hs hb Ow (jE node);refine⟨u,?_,by rw[GU,Ac FQ];exact hu⟩;rw[GU,Ac FQ,Af,VQ];simp only[BC,(Zn hs.at hb node).Ad,FQ,Au,Aq,An,hr.Ad]
end
end
section
section
variable{h:Ah}{p v:Aa}{l:List Item}
def aKu(hv:B1 l v){k:Nat}(hk:k<l.length)(hb:l.length<=1000000000):∃u,BH cx 369 [v,I (k:Int)] h u h/\B1 (Be l k) u:=by obtain⟨r,j,h1⟩:=AU.Mn hv (k:= .i64) (Ab:k<=l.length);obtain⟨q,i,h2⟩:=AU.Gt h1 (b:=40) (QT (by rw[As];omega));obtain⟨m,g,d⟩:=AU.Sp hv (k:= .i64) (Ab:k+1<=l.length);obtain⟨a,e,c⟩:=AU.cZ h2 d (b:=40) (QT (by rw[As,Bb];omega));refine⟨a,?_,c⟩;rw[Af,iN];simp only[BC,j,i,BI (Ab:k<9223372036854775807),g,e]
def aCk{id o:Nat}(hs:LV h id o l)(hb:l.length<=1000000000)(node:Int):∃u,BH cx 244 [Pt id o,I node] h (.bool (decide (1<=AR (Bw node) l))) (put h id o u)/\B1 (CY node l) u:=by
 by_cases FQ:AR (Bw node) l<1;.obtain⟨u,e,hu⟩:=hs.dE;refine⟨u,?_,by rw[CY,Ae FQ];exact hu⟩;rw[Af,VY,<-e];simp only[BC,(Zn hs.at hb node).Ad,FQ,Av,Aq,An,(Ab:¬1<=AR (Bw node) l),Dy]
 .rcases Dc (q:=Bw node) (l:=l) with⟨h1,_⟩|⟨k,hk,h1,_⟩
  .rw[h1] at FQ;omega
  .obtain⟨v,hc,hv⟩:=(show LV h id o l from hs);obtain⟨u,hr,hu⟩:=aKu (h:=h) hv hk hb;refine⟨u,?_,by rw[CY,Ac FQ,h1];exact hu⟩;rw[Af,VY];simp only[BC,(Zn hs.at hb node).Ad,hc.load,Bs,h1];rw[h1] at FQ;simp only[BC,hr.Ad,Bs,hc.store (B1.cells hu),show¬(k:Int)<1 from FQ,Au,Aq,An,(Ab:(1:Int)<=(k:Int)),Dp]
def aKv{id o:Nat}(hs:LV h id o l)(hb:l.length<=1000000000)(a:Item)(i:Int):∃u,BH cx 336 [Pt id o,.agg a.row,I i] h (.tuple []) (put h id o u)/\B1 (l.take (EZ i l.length)++a::l.drop (EZ i l.length)) u:=by
 obtain⟨v,hc,hv⟩:=(show LV h id o l from hs);obtain⟨u,hr,hu⟩:=aFs (h:=h) hv a (n:=EZ i l.length) (by unfold EZ;omega) hb;refine⟨u,?_,hu⟩;rw[Af,hC];have c:(if(l.length:Int)<(if i<1 then 1 else i) then(l.length:Int) else(if i<1 then 1 else i))=((EZ i l.length:Nat):Int):=by unfold EZ;split<;>split<;>omega
 simp only[BC,Fa,RE,IL,hc.load,Bs,cV,AU.CL hv,po,c,hr.Ad,hc.store (B1.cells hu)]
def aKw(hv:B1 l v)(hne:l≠[])(hb:l.length<=1000000000):BH cx 429 [v] h (.CE h.length 0 l.length 4) (h++[.cells (l.map Item.row).flatten]):=by
 have d:AE (.Gy false .sl) [v,.slnil]=some (.bool false):=by
  rcases hv with rfl|⟨rfl,hv⟩
  .rfl
  .exact absurd (by simpa using hv) hne
 have c:AE (.Dh 4) []=some (.sl 4 []):=rfl;have a:=Lj (h:=h) (s:= .sl 4 []) (z:=4) (b:=40) (.inr rfl) hv (by simpa using hne) (by rw[Ak];exact QT Ab);rw[Ak] at a;rw[Af,jB];simp only[BC,d,c,a]
section
variable{id o n z:Nat}{v w:Aa}{X Y:Dw}{AD:List (List Aa)}
def At.next(ha:At h id o v):(Am.put h id o w++[X])[h.length]?=some X/\At (Am.put h id o w++[X]) id o w/\(Am.put h id o w++[X]).set h.length Y=Am.put h id o w++[Y]:=by have e:=JD (h:=h) (id:=id) (o:=o) (u:=w);refine⟨by rw[<-e];simp,ha.put.IA,?_⟩;rw[BM _ _ Ab,<-e,C6];rfl
def At.zI(ha:At h id o v)(hv:Kw h v=some (h,v)):Ma h 0 (Pt id o)=some h:=by have a:=ha.same;obtain⟨cs,hc,e⟩:=ha;simp only[Ma,hc,Bs,e,hv,Ct];rw[If hc] at a;rw[a]
def At.zJ(ha:At h id o v)(hr:∀r∈AD,r.length=z):Ma (Am.put h id o (.CE h.length 0 AD.length z)++[.cells AD.flatten]) 0 (Pt id o)=some (Am.put h id o (.sl z AD)++[.CO]):=by obtain⟨d,c,a⟩:=ha.next (w:= .CE h.length 0 AD.length z) (X:= .cells AD.flatten) (Y:= .CO);have f1:=J0 hr d;rw[a] at f1;have a2:=(ha.next (w:= .CE h.length 0 AD.length z) (X:= .CO) (Y:= .CO)).2.1;obtain⟨cs,hc,e⟩:=c;obtain⟨Se,IV,g⟩:=a2;simp only[Ma,hc,Bs,e,f1,Ct,IV];rw[<-If (u:= .sl z AD) IV,dD ha.put,dB]
end
def aKx{id o:Nat}(hs:LV h id o l)(hb:l.length<=1000000000)(node:Int)(a:Item):∃u t,BH cx 407 [Pt id o,I node,.agg a.row] h (.bool (decide (1<=AR (Bw node) l))) (put h id o u++t)/\B1 (PG node a l) u:=by
 obtain⟨v,hc,hv⟩:=(show LV h id o l from hs);by_cases FQ:AR (Bw node) l<1;.refine⟨v,[],?_,by rw[PG,Ae FQ];exact hv⟩;have c:=hc.zI (AU.O3 hv);rw[Af,V8,hc.same,BE];simp only[BC,Fa,(Zn hs.at hb node).Ad,FQ,Av,Aq,An,c,(Ab:¬1<=AR (Bw node) l),Dy]
 .rcases Dc (q:=Bw node) (l:=l) with⟨h1,_⟩|⟨k,hk,h1,_⟩
  .rw[h1] at FQ;omega
  .have Ţ:¬(k:Int)<1:=by rw[h1] at FQ;exact FQ
   have hne:l≠[]:=by intro e;subst e;simp at hk
   have hcl:=aKw (h:=h) hv hne hb;have g:=(hc.IA (t:=[Dw.cells (l.map Item.row).flatten])).store (u:= .CE h.length 0 l.length 4) rfl;rw[dD hc] at g;obtain⟨r,s,m⟩:=hc.next (w:= .CE h.length 0 l.length 4) (X:= .cells (l.map Item.row).flatten) (Y:= .cells ((l.map Item.row).set k a.row).flatten);have d:=Uy (z:=4) (qb l) r (i:=k) (by simpa using hk) (q:=a.row) rfl;rw[m] at d;have j:AE (.E2 4) [.CE h.length 0 l.length 4,I (k:Int)]=some (Pt h.length (k*4)):=EX hk;have c:=hc.zJ (mI (qb l) (i:=k) (q:=a.row) rfl);rw[Bn,Ak] at c;refine⟨.sl 4 ((l.map Item.row).set k a.row),[.CO],?_,?_⟩;.rw[Af,V8];simp only[BC,Fa,(Zn hs.at hb node).Ad,h1,Ţ,Au,Aq,An,hc.load,Bs,hcl.Ad,g,s.load,j,d,c,(Ab:(1:Int)<=(k:Int)),Dp]
   .rw[PG,Ac FQ,h1,AV,B1,Ek];exact .mk
def nI(hv:B1 l v)(hb:l.length<=1000000000)(i:Int):∃r h',BH cx 229 [v,I i] h r h'/\dF h (KM l i) r h':=by
 have DC:AU 4 (l.map Item.row) v:=hv;obtain⟨k,hk,P7,hc⟩:∃k,k=min (max 1 i.toNat) l.length/\k<=l.length/\KM l i=l.take k:=⟨_,rfl,Ab,by
  unfold KM;rcases Nat.le_total (max 1 i.toNat) l.length with h1|h1
  .rw[Cp h1]
  .rw[Nat.min_eq_right h1,Bv,AG h1]⟩
 obtain⟨u,e,hu⟩:=AU.Mn hv (k:= .i64) P7;obtain⟨r,h',a,hr⟩:=zp (h:=h) (l:=l.take k) (v:=u) hu (by rw[As];omega);refine⟨r,h',?_,by rw[hc];exact hr⟩;rw[Af,Ö];simp only[BC,DC.CL];refine⟨λh1=>⟨λh2=>?_,λh2=>?_⟩,λh1=>⟨λh2=>?_,λh2=>?_⟩⟩
 .have:(k:Int)=(l.length:Int):=by omega
  rw[this] at e;simp only[BC,e,a]
 .have:(k:Int)=1:=by omega
  rw[this] at e;simp only[BC,e,a]
 .have:(k:Int)=(l.length:Int):=by omega
  rw[this] at e;simp only[BC,e,a]
 .have:(k:Int)=i:=by omega
  rw[this] at e;simp only[BC,e,a]
def aFy(hv:B1 l v)(hb:l.length<=1000000000):∃u t,BH cx 223 [v] h u (h++t)/\B1 (KM l ((l.length:Int)-1)) u:=by obtain⟨r,h',hr,hc⟩:=nI (h:=h) hv hb ((l.length:Int)-1);obtain⟨u,t,e,hu⟩:=hc.O3;refine⟨u,t,?_,hu⟩;rw[Af,Ò];simp only[BC,AU.CL hv,C3 (Ab: -9223372036854775808<=(l.length:Int)-1) (Ab:(l.length:Int)-1<9223372036854775808),hr.Ad,e]
def aFz(hv:B1 l v)(hb:l.length<=1000000000)(node:Int):∃u t,BH cx 219 [v,I node] h u (h++t)/\B1 (GU node l) u:=by
 by_cases FQ:AR (Bw node) l<0
 .obtain⟨r,h',hr,hc⟩:=nI (h:=h) hv hb (l.length:Int);obtain⟨u,t,e,hu⟩:=hc.O3;have a:KM l (l.length:Int)=l:=by unfold KM;rw[AG Ab]
  refine⟨u,t,?_,by rw[UB,Ae FQ];rwa [a] at hu⟩;rw[Af,xM];simp only[BC,(Zo hv hb node).Ad,FQ,Av,Aq,An,AU.CL hv,hr.Ad,e]
 .obtain⟨r,h',hr,hc⟩:=nI (h:=h) hv hb (AR (Bw node) l);obtain⟨u,t,e,hu⟩:=hc.O3;refine⟨u,t,?_,by rw[UB,Ac FQ];exact hu⟩;rw[Af,xM];simp only[BC,(Zo hv hb node).Ad,FQ,Au,Aq,An,hr.Ad,e]
end
end
section
section
variable{h:Ah}{p v w:Aa}{l:List Item}{ws:List Ao}
def f85(hv:B1 l v)(hb:l.length<=1000000000)(hw:HI ws w)(hn:ws.length<=1000000000):∃u t,BH cx 103 [v,w] h u (h++t)/\B1 (KM l (AR (By ws) l)) u:=by
 have DC:AU 4 (l.map Item.row) v:=hv;have Ji:Ev cx 103 [v,w] h λr h'=>∃t,h'=h++t/\B1 (KM l (AR (By ws) l)) r:=by
  unfold Ev;rw[J_];simp only[BC,DC.CL,C3 (Ab: -9223372036854775808<=(l.length:Int)-1) (Ab:(l.length:Int)-1<9223372036854775808)];refine Bf (λn:Nat=>[.slnil,I ((n:Int)-1)]) (λn h1=>n<=l.length/\AR (By ws) l=AR (By ws) (l.take n)/\h1=h) (λn=>n) l.length rfl ⟨Ag _,by rw[Bv],rfl⟩ ?_;rintro n h1 ⟨zH,ha,rfl⟩;cases n with
  |zero=>have i1:¬(0:Int)<=((0:Nat):Int)-1:=Ab;obtain⟨r,h',hr,hc⟩:=nI (h:=h1) hv hb 1;obtain⟨u,t,e,hu⟩:=hc.O3;rw[Kq,J2] at ha;simp only[BC,↓reduceIte,i1,Au,Aq,An,hr.Ad,e];exact⟨_,rfl,t,rfl,by rw[ha,qc];exact hu⟩
  |succ n=>
   have a:((n+1:Nat):Int)-1=(n:Int):=Ab;obtain⟨r,h',hr,hc⟩:=nI (h:=h1) hv hb (n:Int);obtain⟨u,t,e,hu⟩:=hc.O3;rw[GR Ab] at ha;simp only[BC,Nat.reduceLeDiff,↓reduceIte,Fa,a,(Ab:(0:Int)<=(n:Int)),Av,Aq,An,DC.BJ (Ab:n<l.length),(f167 l[n] hw hn).Ad,hr.Ad,e,C3 (Ab: -9223372036854775808<=(n:Int)-1) (Ab:(n:Int)-1<9223372036854775808)];rw[Cu];refine⟨λhe=>?_,λhe=>?_⟩;.rw[Ae he] at ha;exact⟨_,rfl,t,rfl,by rw[ha];exact hu⟩
   .rw[Ac (by simp[he])] at ha;exact AK.next n rfl ⟨Ab,ha,rfl⟩ Ab
 obtain⟨r,h',hr,t,rfl,hu⟩:=Ji.ret;exact⟨r,t,hr,hu⟩
def f165(hv:B1 l v)(hb:l.length<=1000000000)(hl:∀a∈l,a.name.length<9223372036854775807)(s:Ao)(all:Bool):∃u t,BH cx 216 [v,.str s,.bool all] h u (h++t)/\B1 (DO (EN s all) CX l) u:=by
 have DC:AU 4 (l.map Item.row) v:=hv;have Ji:Ev cx 216 [v,.str s,.bool all] h λr h'=>∃t,h'=h++t/\B1 (DO (EN s all) CX l) r:=by
  unfold Ev;rw[Ì];simp only[BC,DC.CL];refine Bf (λn:Nat=>[I (n:Int)]) (λn h1=>n<=l.length/\(l=[]\/1<=n)/\DO (EN s all) CX l=DO (EN s all) CX (l.take n)/\h1=h) (λn=>n) l.length rfl ⟨Ag _,by cases l<;>simp,by rw[Bv],rfl⟩ ?_;rintro n h1 ⟨zH,h0,ha,rfl⟩;have HC:DO (EN s all) CX l=l.take n->∃u t,Kw h1 u=some (h1++t,u):=λ_=>⟨.slnil,[],by rw[BE];rfl⟩;obtain⟨r,h',hr,hc⟩:=nI (h:=h1) hv hb (n:Int);obtain⟨u,t,e,hu⟩:=hc.O3;have j:KM l (n:Int)=l.take n:=by
   unfold KM;rcases h0 with rfl|h0
   .simp
   .rw[AV,uR h0]
  rw[j] at hu;rcases AN 1 n with hlt|D6
  .obtain⟨m,rfl⟩:∃m,n=m+2:=⟨n-2,Ab⟩;have hm:m+1<l.length:=Ab;have i1:(1:Int)<((m+2:Nat):Int):=Ab;have D:((m+2:Nat):Int)-1=((m+1:Nat):Int):=Ab;have hs:=hl _ (AL hm);rw[aH hm] at ha;have next:EN s all l[m+1]=false->AK cx (λn:Nat=>[I (n:Int)]) (λn h2=>n<=l.length/\(l=[]\/1<=n)/\DO (EN s all) CX l=DO (EN s all) CX (l.take n)/\h2=h1) (λn=>n)
     (λx C=>match x with
      | .normal=> .fail
      | .exit i=>if i=0 then .call 229 [v,g C 0] λy=> .O3 y λv22=> .ret .ret [v22] else .fail
      | .ret=> .O3 .slnil λq=> .ret .ret [q])
     (λx vs h'=>x=DQ.ret/\∃r,vs=[r]/\∃t,h'=h1++t/\B1 (DO (EN s all) CX l) r) (m+2) .normal [I ((m+1:Nat):Int)] h1:=λhf=>by
    rw[Ac (by simp[hf]),Ac (by simp[CX])] at ha;exact AK.next (m+1) rfl ⟨Ab,.inr Ab,ha,rfl⟩ Ab
   have stop:EN s all l[m+1]=true->∃r,[u]=[r]/\∃A,h1++t=h1++A/\B1 (DO (EN s all) CX l) r:=λhf=>by rw[Ae hf] at ha;exact⟨_,rfl,t,rfl,by rw[ha];exact hu⟩
   simp only[BC,Nat.reduceLeDiff,↓reduceIte,Fa,i1,Av,Aq,An,C3 (Ab: -9223372036854775808<=((m+2:Nat):Int)-1) (Ab:((m+2:Nat):Int)-1<9223372036854775808),D,DC.BJ hm,tn hs,tq hs,hr.Ad,e];cases all with
   |true=>
    simp only[BC,RC];refine⟨λd=>stop (by simp[EN,CM,d]),λd=>?_⟩;rw[Cu];refine⟨λc=>stop ?_,λc=>?_⟩;.simp at c;simp[EN,CM,c]
    .simp at d c;exact next (by simp[EN,CM,d];exact c)
   |false=>
    simp only[BC,IL];refine⟨λd=>stop (by simp[EN,Es,d]),λd=>?_⟩;rw[Cu];refine⟨λc=>stop ?_,λc=>?_⟩;.simp at c;simp[EN,Es,c]
    .refine⟨λB=>stop (by simp[EN,Es,B]),λB=>?_⟩;simp at d c;exact next (by simp[EN,Es,d,c,B])
  .have i1:¬(1:Int)<(n:Int):=by omega
   rw[XF (l:=l.take n) (by rw[As];omega)] at ha;simp only[BC,↓reduceIte,i1,Au,Aq,An,hr.Ad,e];exact⟨_,rfl,t,rfl,by rw[ha];exact hu⟩
 obtain⟨r,h',hr,t,rfl,hu⟩:=Ji.ret;exact⟨r,t,hr,hu⟩
def aKz(hv:B1 l v)(hb:l.length<=1000000000)(node:Int):∃u t,BH cx 138 [v,I node] h (.tuple [u,.bool (decide (1<=AR (Bw node) l))]) (h++t)/\B1 (CY node l) u:=by
 have j:∀(h:Ah) b,Kw h (.bool b)=some (h,.bool b):=λ_ _=>rfl;by_cases FQ:AR (Bw node) l<1
 .obtain⟨r,h',hr,hc⟩:=nI (h:=h) hv hb (l.length:Int);obtain⟨u,t,e,hu⟩:=hc.O3;have B:KM l (l.length:Int)=l:=by unfold KM;rw[AG Ab]
  refine⟨u,t,?_,by rw[CY,Ae FQ];rwa [B] at hu⟩;rw[Af,eL];simp only[BC,(Zo hv hb node).Ad,FQ,Av,Aq,An,AU.CL hv,hr.Ad,e,j,(Ab:¬1<=AR (Bw node) l),Dy]
 .rcases Dc (q:=Bw node) (l:=l) with⟨h1,_⟩|⟨k,hk,h1,_⟩
  .rw[h1] at FQ;omega
  .have Ţ:¬(k:Int)<1:=by rw[h1] at FQ;exact FQ
   obtain⟨r,h',hr,hc⟩:=nI (h:=h) hv hb (k:Int);have g:KM l (k:Int)=l.take k:=by unfold KM;rw[AV,uR Ab]
   rw[g] at hc;rcases hc with⟨h2,_⟩|⟨hne,rfl,rfl⟩
   .have:=Cb List.length h2;rw[As,BP] at this;omega
   .obtain⟨x,m,i⟩:=AU.Sp hv (k:= .i64) (Ab:k+1<=l.length);have y:(l.take k).length=k:=by rw[As];omega
    have s:(h++[Dw.cells ((l.take k).map Item.row).flatten])[h.length]?=some (.cells ((l.take k).map Item.row).flatten):=AH;have c:=qb (l.take k);have d:((l.take k).map Item.row).length=(l.take k).length:=Ak ..;by_cases hd:l.drop (k+1)=[]
    .have a:F8 (h++[Dw.cells ((l.take k).map Item.row).flatten]) 4 40 (.CE h.length 0 (l.take k).length 4) x=some (h++[Dw.cells ((l.take k).map Item.row).flatten],.CE h.length 0 (l.take k).length 4):=rI (by rw[hd] at i;exact i);have f1:=J0 c s;rw[d,BM _ _ (Ag _),C6] at f1;refine⟨.sl 4 ((l.take k).map Item.row),[.CO],?_,?_⟩;.rw[Af,eL];simp only[BC,(Zo hv hb node).Ad,h1,Ţ,Au,Aq,An,BI (Ab:k<9223372036854775807),m,hr.Ad,a,f1,j,P1,(Ab:(1:Int)<=(k:Int)),Dp]
     .rw[CY,Ac FQ,h1,AV,Be,hd,BE];exact .mk
    .have a:=JM (b:=40) c AX s i (by simpa using hd) (by rw[Ak,Ak,As,Bb];exact QT Ab);rw[d,Ak] at a;rw[BM _ _ (Ag _),C6,P1,AI] at a;have C:(h++([Dw.CO]++[Dw.cells ((l.take k).map Item.row++(l.drop (k+1)).map Item.row).flatten]))[h.length+1]?=some (.cells ((Be l k).map Item.row).flatten):=by rw[Bl Ab];simp[Be]
     have f1:=J0 (qb (Be l k)) C;have o9:(Be l k).length=(l.take k).length+(l.drop (k+1)).length:=by simp[Be]
     rw[Ak,o9] at f1;have A:(h++[Dw.CO,Dw.cells ((l.take k).map Item.row++(l.drop (k+1)).map Item.row).flatten]).set (h.length+1) .CO=h++[.CO,.CO]:=by rw[BM _ _ Ab];simp
     simp only[Aw,Bi,CJ,BQ] at a f1;rw[A] at f1;refine⟨.sl 4 ((Be l k).map Item.row),[.CO,.CO],?_,?_⟩;.rw[Af,eL];simp only[BC,(Zo hv hb node).Ad,h1,Ţ,Au,Aq,An,BI (Ab:k<9223372036854775807),m,hr.Ad,a,f1,j,(Ab:(1:Int)<=(k:Int)),Dp]
     .rw[CY,Ac FQ,h1,AV];exact .mk
def aKA(hv:B1 l v)(hb:l.length<=1000000000)(a:Item)(i:Int):∃u,BH cx 357 [v,.agg a.row,I i] h u h/\B1 (l.take (EZ i l.length)++a::l.drop (EZ i l.length)) u:=by
 have DC:AU 4 (l.map Item.row) v:=hv;obtain⟨k,nJ,hk⟩:∃k,k=EZ i l.length/\k<=l.length:=⟨_,rfl,by unfold EZ;omega⟩;obtain⟨x,d,h1⟩:=AU.Mn hv (k:= .i64) hk;obtain⟨t,j,h2⟩:=AU.Gt h1 (b:=40) (QT (by rw[As];omega));have g:=AU.Ki (a:=a) h2 (b:=40) (QT (by rw[As];omega));obtain⟨s,c,r⟩:=AU.Sp hv (k:= .i64) hk;obtain⟨q,e,m⟩:=AU.cZ (v:= .sl 4 ((l.take k++[a]).map Item.row)) .mk r (b:=40) (QT (by rw[Aw,As,Bb,Bi];omega));refine⟨q,?_,by rw[AI] at m;rw[<-nJ];exact m⟩;rw[Af,ò];simp only[BC,Fa,DC.CL];unfold EZ at nJ;refine⟨λh1=>⟨λh2=>?_,λh2=>?_⟩,λh1=>⟨λh2=>?_,λh2=>?_⟩⟩
 .have:(k:Int)=(l.length:Int):=by omega
  rw[this] at d c;simp only[BC,d,j,Mo,g,c,e]
 .have:(k:Int)=1:=by omega
  rw[this] at d c;simp only[BC,d,j,Mo,g,c,e]
 .have:(k:Int)=(l.length:Int):=by omega
  rw[this] at d c;simp only[BC,d,j,Mo,g,c,e]
 .have:(k:Int)=i:=by omega
  rw[this] at d c;simp only[BC,d,j,Mo,g,c,e]
end
end
section
section
variable{e:Cj}{d:Aa}
end
section
variable{h:Ah}{v:Aa}{l:List Cj}{id o:Nat}
def f99(hc:At h id o v)(hv:Dk l v)(hb:l.length<=1000000000):BH cx 198 [Pt id o] h (I (since l)) h:=by
 have hv:AU 3 (l.map Cj.row) v:=hv;rw[Af,fP];simp only[BC,hc.load,Bs,hv.CL];refine Bf (λn:Nat=>[I (n:Int)]) (λn h1=>n<=l.length/\since l=since (l.take n)/\h1=h) (λn=>n) l.length rfl ⟨Ag _,by rw[Bv],rfl⟩ ?_;rintro n h1 ⟨hn,ha,rfl⟩;cases n with
 |zero=>simp only[BC,(Ab:¬(0:Int)<((0:Nat):Int)),Au,Aq,An,ha,eo];rfl
 |succ n=>rw[XL hn] at ha;simp only[BC,(Ab:(0:Int)<((n+1:Nat):Int)),Av,Aq,An,hc.load,Bs,Ie (Ab:0<n+1) (Ab:n+1<9223372036854775807),E9,hv.BJ (show n<l.length from hn),Cj.at0];refine⟨λh0=>AK.next n rfl ⟨Ab,by rw[ha,Ac h0],rfl⟩ Ab,λh0=>?_⟩;rw[Ae (by simpa using h0)] at ha;rw[ha];rfl
def ą(hv:Dk l v)(hb:l.length<=1000000000):BH cx 228 [v] h (I (since l)) h:=by
 have hv:AU 3 (l.map Cj.row) v:=hv;rw[Af,Õ];refine Bf (λn:Nat=>[I (since (l.take n)),I (n:Int)]) (λn h1=>n<=l.length/\h1=h) (λn=>l.length-n) 0 rfl ⟨AQ _,rfl⟩ ?_;rintro n h1 ⟨hn,rfl⟩;rcases AN n l.length with hlt|D6
 .have i1:(n:Int)<(l.length:Int):=by omega
  have a:=XL hlt;simp only[BC,hv.CL,i1,Av,Aq,An,hv.BJ hlt,Cj.at0,BI (Ab:n<9223372036854775807)];refine⟨λh0=>?_,λh0=>?_⟩;.rw[Ae h0] at a;exact AK.next (n+1) (by rw[a];rfl) ⟨hlt,rfl⟩ Ab
  .rw[Ac h0] at a;exact AK.next (n+1) (by rw[a]) ⟨hlt,rfl⟩ Ab
 .have i1:¬(n:Int)<(l.length:Int):=by omega
  simp only[BC,hv.CL,i1,Au,Aq,An,AG D6]
def aKB(hc:At h id o v)(hv:Dk l v)(hb:l.length<=1000000000)(name:Ao):BH cx 330 [Pt id o,.str name] h (I (NF name l)) h:=by
 have hv:AU 3 (l.map Cj.row) v:=hv;rw[Af,gU];simp only[BC,HY,hc.load,Bs,hv.CL,C3 (Ab: -9223372036854775808<=(l.length:Int)-1) (Ab:(l.length:Int)-1<9223372036854775808)];refine Bf (λn:Nat=>[I 0,I ((n:Int)-1)]) (λn h1=>n<=l.length/\NF name l=NF name (l.take n)/\h1=h) (λn=>n) l.length rfl ⟨Ag _,by rw[Bv],rfl⟩ ?_;rintro n h1 ⟨hn,ha,rfl⟩;cases n with
 |zero=>have i1:¬(0:Int)<=((0:Nat):Int)-1:=Ab;rw[ha];simp only[BC,i1,Au,Aq,An,et]
 |succ n=>
  have a:((n+1:Nat):Int)-1=(n:Int):=Ab;rw[Rq hn] at ha;simp only[BC,a,(Ab:(0:Int)<=(n:Int)),Av,Aq,An,hc.load,Bs,hv.BJ (show n<l.length from hn),Cj.at0,Cj.wI,C3 (Ab: -9223372036854775808<=(n:Int)-1) (Ab:(n:Int)-1<9223372036854775808)];refine⟨λh0=>⟨λh1=>?_,λh1=>?_⟩,λh0=>?_⟩;.rw[ha,Ac h0,Ae h1]
  .exact AK.next n rfl ⟨Ab,by rw[ha,Ac h0,Ac h1],rfl⟩ Ab
  .rw[ha,Ae (by simpa using h0)]
def aKC(hv:Dk l v)(hb:l.length<=1000000000)(name:Ao):BH cx 353 [v,.str name] h (I (NF name l)) h:=by
 have DC:AU 3 (l.map Cj.row) v:=hv;obtain⟨s,es,JW,c,g⟩:=JO l;have f:=ą (h:=h) hv hb;rw[es] at f;rw[Af,ï];simp only[f.Ad];refine Bf (λn:Nat=>[I (NF name (l.take n)),I (n:Int)]) (λn h1=>s<=n/\n<=l.length/\h1=h) (λn=>l.length-n) s (by rw[mS es]) ⟨Ag _,JW,rfl⟩ ?_;rintro n h1 ⟨b,hn,rfl⟩;rcases AN n l.length with hlt|D6
 .have i1:(n:Int)<(l.length:Int):=by omega
  have a:=Rq (name:=name) hlt;rw[Ac (c n hlt b)] at a;simp only[BC,DC.CL,i1,Av,Aq,An,DC.BJ hlt,Cj.wI,BI (Ab:n<9223372036854775807)];refine⟨λh0=>?_,λh0=>?_⟩;.rw[Ae h0] at a;exact AK.next (n+1) (by rw[a]) ⟨Ab,hlt,rfl⟩ Ab
  .rw[Ac h0] at a;exact AK.next (n+1) (by rw[a]) ⟨Ab,hlt,rfl⟩ Ab
 .have i1:¬(n:Int)<(l.length:Int):=by omega
  simp only[BC,DC.CL,i1,Au,Aq,An,AG D6]
def f41(hc:At h id o v)(hv:Dk l v)(hb:l.length<=1000000000)(node:Int):BH cx 188 [Pt id o,I node] h (I (Hw node l)) h:=by
 have hv:AU 3 (l.map Cj.row) v:=hv;rw[Af,fH];simp only[BC,HY,hc.load,Bs,hv.CL,C3 (Ab: -9223372036854775808<=(l.length:Int)-1) (Ab:(l.length:Int)-1<9223372036854775808)];refine⟨λh0=>by rw[Hw,Ae h0],λh0=>?_⟩;rw[Hw,Ac h0];refine Bf (λn:Nat=>[I 0,I ((n:Int)-1)]) (λn h1=>n<=l.length/\AR (PI node) l=AR (PI node) (l.take n)/\h1=h) (λn=>n) l.length rfl ⟨Ag _,by rw[Bv],rfl⟩ ?_;rintro n h1 ⟨hn,ha,rfl⟩;cases n with
 |zero=>have i1:¬(0:Int)<=((0:Nat):Int)-1:=Ab;rw[ha];simp only[BC,i1,Au,Aq,An,J2]
 |succ n=>
  have a:((n+1:Nat):Int)-1=(n:Int):=Ab;rw[GR hn] at ha;simp only[BC,a,(Ab:(0:Int)<=(n:Int)),Av,Aq,An,hc.load,Bs,hv.BJ (show n<l.length from hn),Cj.at0,C3 (Ab: -9223372036854775808<=(n:Int)-1) (Ab:(n:Int)-1<9223372036854775808)];refine⟨λh1=>?_,λh1=>?_⟩;.rw[ha,Ae (by simpa[PI] using h1)]
  .exact AK.next n rfl ⟨Ab,by rw[ha,Ac (by simpa[PI] using h1)],rfl⟩ Ab
def aKE(hv:Dk l v)(hb:l.length<=1000000000)(node:Int):BH cx 222 [v,I node] h (I (Hw node l)) h:=by
 have DC:AU 3 (l.map Cj.row) v:=hv;rw[Af,Ñ];refine Bf (λn:Nat=>[I (Hw node (l.take n)),I (n:Int)]) (λn h1=>n<=l.length/\h1=h) (λn=>l.length-n) 0 (by simp[Hw,J2]) ⟨AQ _,rfl⟩ ?_;rintro n h1 ⟨hn,rfl⟩;rcases AN n l.length with hlt|D6
 .have i1:(n:Int)<(l.length:Int):=by omega
  have a:Hw node (l.take (n+1))=if node=0 then -1 else if l[n].c.node=node then(n:Int) else AR (PI node) (l.take n):=by unfold Hw;rw[GR hlt];simp[PI]
  simp only[BC,DC.CL,i1,Av,Aq,An,DC.BJ hlt,Cj.at0,BI (Ab:n<9223372036854775807)];refine⟨λh0=>⟨λh1=>?_,λh1=>?_⟩,λh0=>?_⟩;.exact AK.next (n+1) (by rw[a,Ac h0,Ae h1]) ⟨hlt,rfl⟩ Ab
  .exact AK.next (n+1) (by rw[a,Ac h0,Ac h1,Hw,Ac h0]) ⟨hlt,rfl⟩ Ab
  .have h0:node=0:=by simpa using h0
   exact AK.next (n+1) (by rw[a,Ae h0,Hw,Ae h0]) ⟨hlt,rfl⟩ Ab
 .have i1:¬(n:Int)<(l.length:Int):=by omega
  simp only[BC,DC.CL,i1,Au,Aq,An,AG D6]
end
section
variable{h:Ah}{v:Aa}{l:List A3}
def aFC(hv:Br l v)(hb:l.length<=1000000000)(x:A3):BH cx 382 [v,.agg x.row] h (.bool (decide (x∈l))) h:=by
 have hv:AU 3 (l.map A3.row) v:=hv;rw[Af,ù];simp only[BC,A3.CK,A3.g0,A3.g1,A3.g2,A3.PE];refine Bf (λn:Nat=>[.bool false,I (n:Int)]) (λn h1=>n<=l.length/\x∉l.take n/\h1=h) (λn=>l.length-n) 0 rfl ⟨AQ _,AH,rfl⟩ ?_;rintro n h1 ⟨hn,ha,rfl⟩;rcases AN n l.length with hlt|D6
 .have i1:(n:Int)<(l.length:Int):=by omega
  simp only[BC,hv.CL,i1,Av,Aq,An,hv.BJ hlt,A3.CK,A3.HU,Ag,mP,xa,BI (Ab:n<9223372036854775807)];refine⟨λh0=>?_,λh0=>?_⟩
  .have:x∈l:=by rw[<-h0];exact AL hlt
   simp[this]
  .refine AK.next (n+1) rfl ⟨hlt,?_,rfl⟩ Ab;rw[AB hlt,Ax,Nh];exact⟨ha,by simpa using λe=>h0 e.symm⟩
 .have i1:¬(n:Int)<(l.length:Int):=by omega
  rw[AG D6] at ha;simp only[BC,hv.CL,i1,Au,Aq,An,Ay ha]
def aKF(hv:Br l v)(hb:l.length<=1000000000)(x:A3):BH cx 425 [v,.agg x.row] h (I (B8 (λa=>decide (x=a)) 0 l)) h:=by
 have hv:AU 3 (l.map A3.row) v:=hv;rw[Af,i5];simp only[BC,hv.CL,A3.CK,A3.g0,A3.g1,A3.g2,A3.PE];refine Bf (λn:Nat=>[I 0,I (n:Int)]) (λn h1=>n<=l.length/\B8 (λa=>decide (x=a)) 0 l=B8 (λa=>decide (x=a)) n (l.drop n)/\h1=h) (λn=>l.length-n) 0 rfl ⟨AQ _,rfl,rfl⟩ ?_;rintro n h1 ⟨hn,ha,rfl⟩;rcases AN n l.length with hlt|D6
 .have i1:(n:Int)<(l.length:Int):=by omega
  rw[AF hlt,B8] at ha;simp only[BC,i1,Av,Aq,An,hv.BJ hlt,A3.CK,A3.HU,Ag,mP,xa,BI (Ab:n<9223372036854775807)];refine⟨λh0=>?_,λh0=>?_⟩;.rw[ha,Ae (by simpa using h0)]
  .exact AK.next (n+1) rfl ⟨hlt,by rw[ha,Ac (by simpa using h0)],rfl⟩ Ab
 .have i1:¬(n:Int)<(l.length:Int):=by omega
  rw[AO D6,B8] at ha;simp only[BC,i1,Au,Aq,An,ha]
def aKG(hv:Br l v)(hb:l.length<=1000000000)(x:A3):BH cx 401 [v,.agg x.row] h (.bool (decide (x∈l))) h:=by
 rw[Af,iS];simp only[BC,A3.CK,A3.g0,A3.g1,A3.g2,A3.PE,(aKF hv hb x).Ad];rcases GQ (p:=λa=>decide (x=a)) (l:=l) (k:=0) with⟨h1,h2⟩|⟨n,a,h1,h2,b⟩
 .rw[h1];have:x∉l:=λhm=>by have:=Jp.1 h2 x hm;simp at this
  simp[this]
 .have hm:=CC h2;have he:x=a:=by simpa using UL b
  have hx:x∈l:=by rw[he];exact hm
  rw[h1];simp[hx]
def nK(F:Aa)(h:Ah)(q:A3->Bool):Prop:=∃f caps,F= .func (.func f) [] caps/\f<=99999/\∀a:A3,BH cx f (.agg a.row::caps) h (.bool (q a)) h
def aFD{F:Aa}{q:A3->Bool}(hv:Br l v)(hb:l.length<=1000000000)(hF:nK F h q):BH cx 309 [v,F] h (I (B8 q 0 l)) h:=by
 have hv:AU 3 (l.map A3.row) v:=hv;obtain⟨f,caps,rfl,hf,hr⟩:=hF;rw[Af,SI];simp only[BC,hv.CL];refine Bf (λn:Nat=>[I 0,I (n:Int)]) (λn h1=>n<=l.length/\B8 q 0 l=B8 q n (l.drop n)/\h1=h) (λn=>l.length-n) 0 rfl ⟨AQ _,rfl,rfl⟩ ?_;rintro n h1 ⟨zH,ha,rfl⟩;rcases AN n l.length with hlt|D6
 .have i1:(n:Int)<(l.length:Int):=by omega
  rw[AF hlt,B8] at ha;simp only[BC,↓reduceIte,Di,hf,i1,Av,Aq,An,hv.BJ hlt,A3.CK,A3.HU,Ag,(hr l[n]).Ad];rw[Cu];refine⟨λhe=>?_,λhe=>?_⟩;.rw[ha,Ae he]
  .rw[Ac (by simp[he])] at ha;simp only[BC,BI (Ab:n<9223372036854775807)];exact AK.next (n+1) rfl ⟨hlt,ha,rfl⟩ Ab
 .have i1:¬(n:Int)<(l.length:Int):=by omega
  rw[AO D6,B8] at ha;simp only[BC,↓reduceIte,Di,hf,i1,Au,Aq,An,ha]
def aFE{F:Aa}{q:A3->Bool}(hv:Br l v)(hb:l.length<=1000000000)(hF:nK F h q):BH cx 191 [v,F] h (.bool (l.any q)) h:=by
 rw[Af,VR];simp only[BC,(aFD hv hb hF).Ad];have:l.any q=(l.find? q).isSome:=by rw[Lv,aOq,Nj]
 rw[this];rcases GQ (p:=q) (l:=l) (k:=0) with⟨h1,h2⟩|⟨n,a,h1,h2,b⟩
 .rw[h1,h2];simp
 .rw[h1,b];simp
def aKH(hv:Br l v)(hb:l.length<=1000000000)(x:A3):BH cx 400 [.agg x.row,.CG [v]] h (.bool (!decide (x∈l))) h:=by rw[Af,iR];simp only[BC,A3.CK,A3.g0,A3.g1,A3.g2,A3.PE,(aKG hv hb x).Ad]
def aFF{b:List A3}{w:Aa}(hv:Br l v)(hb:l.length<=1000000000)(hw:Br b w)(NZ:b.length<=1000000000):BH cx 399 [v,w] h (.bool (decide (∀x∈l,x∈b))) h:=by
 have hF:nK (.func (.func 400) [] [.CG [w]]) h λx=> !decide (x∈b):=⟨400,_,rfl,AX,λa=>aKH hw NZ a⟩;have e:(!l.any λx=> !decide (x∈b))=decide (∀x∈l,x∈b):=by rw[Lv];simp
 rw[Af,iQ,<-e];simp only[BC,AU.cells hw,(aFE hv hb hF).Ad]
def aKI{a b:Cj}(ha:Zk a)(hb:Zk b):BH cx 317 [.agg a.row,.agg b.row] h (.bool (GC a.c b.c)) h:=by
 have g:=aFF (h:=h) a.ok ha b.ok hb;have r2:=aFF (h:=h) b.ok hb a.ok ha;rw[Af,gI];simp only[BC,Nat.reduceLeDiff,↓reduceIte,Di,BE,Cj.CK,Cj.g1,Cj.g2,Cj.zr,g.Ad,r2.Ad];refine⟨λh1=>⟨λh2=>⟨λf=>?_,λf=>?_⟩,λh2=>?_⟩,λh1=>?_⟩
 .have ZU:a.c.Az.length=b.c.Az.length:=by omega
  simp only[GC,h1,ZU,MD];congr 3
  rw[eq_iff_iff];exact⟨λh=>⟨f,h⟩,λh=>h.2⟩
 .simp[GC,f]
 .have ZU:¬a.c.Az.length=b.c.Az.length:=by omega
  simp[GC,ZU]
 .simp[GC,h1]
def f241{a b:Cj}(ha:Zk a)(hb:Zk b):BH cx 282 [.agg a.row,.agg b.row] h (.bool (GC a.c b.c)) h:=by
 have i:AU 3 (a.c.Az.map A3.row) a.v:=a.ok;have vb:AU 3 (b.c.Az.map A3.row) b.v:=b.ok;unfold Zk at ha hb;rw[Af,ß];simp only[BC,Cj.CK,Cj.g1,Cj.g2,Cj.zr];refine⟨λh1=>?_,λh1=>⟨λh2=>?_,λh2=>?_⟩⟩;.simp[GC,h1]
 .have ZU:¬a.c.Az.length=b.c.Az.length:=by omega
  simp[GC,ZU]
 have h1:a.c.name=b.c.name:=by simpa using h1
 have h2:a.c.Az.length=b.c.Az.length:=Ab;refine Bf (λn:Nat=>[.bool false,I (n:Int)]) (λn h1=>n<=a.c.Az.length/\(∀x∈a.c.Az.take n,x∈b.c.Az)/\(∀x∈b.c.Az.take n,x∈a.c.Az)/\h1=h) (λn=>a.c.Az.length-n) 0 rfl ⟨AQ _,AH,AH,rfl⟩ ?_;rintro n h1 ⟨hn,Za,OV,rfl⟩;rcases AN n a.c.Az.length with hlt|D6
 .have i1:(n:Int)<(a.c.Az.length:Int):=by omega
  have Ć:n<b.c.Az.length:=Ab;have k:=AL hlt;have j:=AL Ć;simp only[BC,Cj.zr,i1,Av,Aq,An,i.BJ hlt,vb.BJ Ć,A3.CK,A3.HU,Ag,(aFC b.ok hb _).Ad,(aFC a.ok ha _).Ad,BI (Ab:n<9223372036854775807)];rw[Cu,Cu];refine⟨λg=>?_,λg=>⟨λf=>?_,λf=>?_⟩⟩
  .have g:a.c.Az[n]∉b.c.Az:=by simpa using g
   have:GC a.c b.c=false:=by simp only[GC,S3];exact λh=>g (h.2.2.1 _ k)
   rw[this]
  .have f:b.c.Az[n]∉a.c.Az:=by simpa using f
   have:GC a.c b.c=false:=by simp only[GC,S3];exact λh=>f (h.2.2.2 _ j)
   rw[this]
  .have g:a.c.Az[n]∈b.c.Az:=by simpa using g
   have f:b.c.Az[n]∈a.c.Az:=by simpa using f
   refine AK.next (n+1) rfl ⟨hlt,?_,?_,rfl⟩ Ab
   .rw[AB hlt];intro x hx;rcases Ax.1 hx with hx|hx
    .exact Za x hx
    .rw[DB.1 hx];exact g
   .rw[AB Ć];intro x hx;rcases Ax.1 hx with hx|hx
    .exact OV x hx
    .rw[DB.1 hx];exact f
 .have i1:¬(n:Int)<(a.c.Az.length:Int):=by omega
  rw[AG D6] at Za;rw[AG Ab] at OV;have:GC a.c b.c=true:=by simp only[GC,Cz];exact⟨by assumption,h2,Za,OV⟩
  rw[this];simp only[BC,Cj.zr,i1,Au,Aq,An]
end
end
section
def BK{Q:Hb}{h:Ah}{a:Aa}{k:IT}:W cx (.same a a k) Q h↔W cx k Q h:=by refine⟨λhw=>?_,kq (Aa.Su a)⟩;obtain⟨m,x',HQ,h',hr,q⟩:=hw.succ;simp only[IT.step,Aa.Su,BL] at hr;exact C2 ⟨m,x',HQ,h',hr,q⟩
section
variable{h:Ah}{v:Aa}{l:List Cj}{id o:Nat}
def f45{l:List A3}(hv:Br l v)(hb:l.length<=1000000000):∃u,BH cx 147 [v] h u h/\Br l u:=by
 have hv:AU 3 (l.map A3.row) v:=hv;rcases hv with rfl|⟨rfl,hn⟩
 .refine⟨.sl 3 (l.map A3.row),?_,.mk⟩;have b:AE (.Gy false .sl) [.sl 3 (l.map A3.row),.slnil]=some (.bool false):=rfl;have f:AE (.Dh 3) []=some (.sl 3 []):=rfl;have c:QF h 3 40 (.sl 3 []) (.sl 3 (l.map A3.row))=some (.sl 3 (l.map A3.row)):=by
   simp only[QF,GY,BL,Ct];cases l with
   |nil=>rfl
   |cons a l=>have:(l.length+1)*40<=AM:=QT (by simp at hb;omega);simp[DI,this]
  rw[Af,VK,aB7];simp only[BC,b,f,c]
 .refine⟨.slnil,?_,?_⟩;.have b:AE (.Gy false .sl) [.slnil,.slnil]=some (.bool true):=rfl;rw[Af,VK,aB7];simp only[BC,b]
  .exact .inr ⟨rfl,hn⟩
def tr{e:Cj}(he:Zk e):∃a:Cj,a.c=e.c/\BH cx 319 [.agg e.row] h (.agg a.row) h:=by obtain⟨u,r,hu⟩:=f45 (h:=h) e.ok he;refine⟨⟨e.c,u,hu⟩,rfl,?_⟩;rw[Af,gK];simp only[BC,Cj.CK,Cj.g0,Cj.g1,Cj.g2,r.Ad,AU.cells hu];rfl
def aKJ{e:Cj}(he:Zk e):∃a:Cj,a.c=e.c/\BH cx 227 [.agg e.row] h (.agg a.row) h:=by obtain⟨u,r,hu⟩:=AU.Gt (f:=A3.row) e.ok (b:=40) (QT (by unfold Zk at he;omega));refine⟨⟨e.c,u,hu⟩,rfl,?_⟩;rw[Af,Ô];simp only[BC,Cj.CK,Cj.g0,Cj.g1,Cj.g2,r,AU.cells hu];rfl
def aKK(hv:Dk l v){k:Nat}(hk:k<l.length)(hb:l.length<=1000000000):∃u,BH cx 318 [v,I (k:Int)] h u h/\Dk (Be l k) u:=by obtain⟨r,m,h1⟩:=AU.Mn hv (k:= .i64) (Ab:k<=l.length);obtain⟨q,j,h2⟩:=AU.Gt h1 (b:=48) (PH (by rw[As];omega));obtain⟨p,i,f⟩:=AU.Sp hv (k:= .i64) (Ab:k+1<=l.length);obtain⟨a,g,c⟩:=AU.cZ h2 f (b:=48) (PH (by rw[As,Bb];omega));refine⟨a,?_,c⟩;rw[Af,gJ];simp only[BC,m,j,BI (Ab:k<9223372036854775807),i,g]
def tv(hv:Dk l v)(e:Cj){k:Nat}(hk:k<=l.length)(hb:l.length<=1000000000):∃u,BH cx 196 [v,.agg e.row,I (k:Int)] h u h/\Dk (l.take k++e::l.drop k) u:=by obtain⟨x,r,h1⟩:=AU.Mn hv (k:= .i64) hk;obtain⟨w,q,h2⟩:=AU.Gt h1 (b:=48) (PH (by rw[As];omega));have p:=AU.Ki (a:=e) h2 (b:=48) (PH (by rw[As];omega));obtain⟨t,m,i⟩:=AU.Sp hv (k:= .i64) hk;obtain⟨g,j,c⟩:=AU.cZ (f:=Cj.row) (l:=l.take k++[e]) .mk i (b:=48) (PH (by rw[Aw,As,Bb,Bi];omega));refine⟨g,?_,by rw[AI] at c;exact c⟩;rw[Af,fN];simp only[BC,Cj.CK,Cj.g0,Cj.g1,Cj.g2,Cj.PE,r,q,L6 Cj.CK,p,m,j]
def aCl(hv:Dk l v)(hne:l≠[])(hb:l.length<=1000000000):BH cx 181 [v] h (.CE h.length 0 l.length 3) (h++[.cells (l.map Cj.row).flatten]):=by
 have f:AE (.Gy false .sl) [v,.slnil]=some (.bool false):=by
  rcases hv with rfl|⟨rfl,hv⟩
  .rfl
  .exact absurd (by simpa using hv) hne
 have c:AE (.Dh 3) []=some (.sl 3 []):=rfl;have a:=Lj (h:=h) (s:= .sl 3 []) (z:=3) (b:=48) (.inr rfl) hv (by simpa using hne) (by rw[Ak];exact PH Ab);rw[Ak] at a;rw[Af,SH];simp only[BC,f,c,a]
def f63(hs:Tx h id o l)(hb:l.length<=1000000000):∃u,BH cx 80 [Pt id o] h (.tuple []) (put h id o u)/\Dk (l++[dH]) u:=by obtain⟨v,hc,hv⟩:=(show Tx h id o l from hs);obtain⟨u,hr,hu⟩:=tv (h:=h) hv dH (Ag l.length) hb;rw[Bv,El] at hu;refine⟨u,?_,hu⟩;rw[Af,tC];simp only[BC,↓reduceIte,AP,RE,IL,hc.load,Bs,AU.CL hv,qd,hr.Ad,hc.store (Dk.cells hu)]
def aKL(hs:Tx h id o l)(hb:l.length<=1000000000){e:Cj}(he:Zk e)(i:Int):∃u a,a.c=e.c/\BH cx 335 [Pt id o,.agg e.row,I i] h (.tuple []) (put h id o u)/\Dk (l.take (CH i l.length)++a::l.drop (CH i l.length)) u:=by
 obtain⟨v,hc,hv⟩:=(show Tx h id o l from hs);obtain⟨a,Qy,b⟩:=tr (h:=h) he;obtain⟨u,hr,hu⟩:=tv (h:=h) hv a (k:=CH i l.length) (by unfold CH;omega) hb;refine⟨u,a,Qy,?_,hu⟩;have f:(if(l.length:Int)<(if i<0 then 0 else i) then(l.length:Int) else(if i<0 then 0 else i))=((CH i l.length:Nat):Int):=by unfold CH;split<;>split<;>omega
 rw[Af,gZ];simp only[BC,Cj.CK,Cj.g0,Cj.g1,Cj.g2,Cj.PE,RE,IL,hc.load,Bs,cV,AU.CL hv,po,f,b.Ad,BK,hr.Ad,hc.store (Dk.cells hu)]
def f65(hs:Tx h id o l)(hb:l.length<=1000000000):∃u,BH cx 83 [Pt id o] h (I ((l.length:Int)-((EO l:Nat):Int))) (put h id o u)/\Dk (l.take (EO l)) u:=by
 obtain⟨v,hc,hv⟩:=(show Tx h id o l from hs);obtain⟨s,es,JW,_⟩:=JO l;have hcl:EO l<=l.length:=by unfold EO;omega
 obtain⟨u,b,hu⟩:=AU.Mn hv (k:= .i64) hcl;refine⟨u,?_,hu⟩;have a:(if since l-1<0 then 0 else since l-1)=((EO l:Nat):Int):=by unfold EO;split<;>omega
 have pV:(l.take (EO l)).length=EO l:=by rw[As];omega
 have c:At (put h id o u) id o u:=hc.put;rw[Af,tD];simp only[BC,HY,hc.load,Bs,AU.CL hv,(f99 hc hv hb).Ad,BK,C3 (Ab: -9223372036854775808<=since l-1) (Ab:since l-1<9223372036854775808),cV,a,b,hc.store (AU.cells hu),c.load,AU.CL hu,pV,C3 (Ab: -9223372036854775808<=(l.length:Int)-((EO l:Nat):Int)) (Ab:(l.length:Int)-((EO l:Nat):Int)<9223372036854775808)]
end
end
section
section
variable{e:Cs}{l:List Cj}{n s:Nat}
end
section
variable{h:Ah}{v:Aa}{l:List Cj}{id o:Nat}
def f30(hs:Tx h id o l)(hb:l.length<=900000000)(hl:∀x∈l,Zk x){e:Cj}(he:Zk e):∃u a,a.c=e.c/\BH cx 170 [Pt id o,.agg e.row] h (.tuple []) (put h id o u)/\Dk (LF e.c l++[a]) u:=by
 obtain⟨v,hc,hv⟩:=(show Tx h id o l from hs);have DC:AU 3 (l.map Cj.row) v:=hv;have Ij:=hs.lt;obtain⟨s,es,JW,q,_⟩:=JO l;have Ji:Ev cx 170 [Pt id o,.agg e.row] h λr h'=>r= .tuple []/\∃(a:Cj) (u:Aa),a.c=e.c/\h'=put h id o u/\Dk (LF e.c l++[a]) u:=by
  unfold Ev;rw[eS];by_cases h0:e.c.node=0;.obtain⟨a,Qy,b⟩:=tr (h:=h) he;obtain⟨u,r2,hu⟩:=tv (h:=h) hv a (Ag l.length) Ab;rw[Bv,El] at hu;simp only[BC,Cj.CK,Cj.g0,Cj.g1,Cj.g2,HY,h0,BW,Av,An,Aq,Au,hc.load,Bs,DC.CL];rw[<-h0,Cj.PE];simp only[BC,b.Ad,BK,hc.load,Bs,r2.Ad,hc.store (Dk.cells hu)];refine⟨_,rfl,rfl,a,u,Qy,rfl,?_⟩;rw[LF,Ac (λh=>h.1 h0)];exact hu
  .simp only[BC,Cj.CK,Cj.g0,Cj.g1,Cj.g2,Cj.PE,HY,h0,BW,Av,An,Aq,Au,hc.load,Bs,DC.CL,C3 (Ab: -9223372036854775808<=(l.length:Int)-1) (Ab:(l.length:Int)-1<9223372036854775808)];refine Bf (λp:Int×Nat×Nat=>[I p.1,I (p.2.1:Int),I ((p.2.2:Int)-1)])
    (λp h1=>s<=p.2.2/\p.2.2<=l.length/\p.2.1+p.2.2<=l.length/\Sv e.c l=p.2.1+Sv e.c (l.take p.2.2)/\(NG e.c l=if 0<=NG e.c (l.take p.2.2) then NG e.c (l.take p.2.2) else if p.2.1=0 then -1 else p.1)/\(p.2.1=0\/∃k:Nat,k<l.length/\p.1=(k:Int))/\h1=h)
    (λp=>p.2.2) (0,0,l.length) rfl ⟨JW,Ag _,AH,AH,by
     rw[Bv];have:∀l:List Cj,-1<=rT e.c l:=by
      intro l;induction l with
      |nil=>exact Gw _
      |cons x t ih=>rw[rT];split<;>(try split)<;>(try split)<;>omega
     have:=this l.reverse;simp only[BL];unfold NG;split<;>omega,.inl rfl,rfl⟩ ?_
   rintro⟨B,f,n⟩ h1 ⟨a1,a2,a3,a4,a5,a6,rfl⟩;simp only at a1 a2 a3 a4 a5 a6;have j:=f99 hc hv Ab;rw[es] at j;rcases AN s n with hlt|D6
   .obtain⟨n,rfl⟩:∃m,n=m+1:=⟨n-1,Ab⟩;have A:((n+1:Nat):Int)-1=(n:Int):=Ab;have hn:n<l.length:=a2;have g:=q n hn Ab;rw[Tz hn,Ac g] at a4;rw[TA hn,Ac g] at a5;have b:=aKI (h:=h1) (hl _ (AL hn)) he;simp only[BC,A,j.Ad,(Ab:(s:Int)<=(n:Int)),Av,An,Aq,hc.load,Bs,DC.BJ hn,Cj.CK,Cj.HU,Ag,b.Ad,BI (Ab:f<9223372036854775807),C3 (Ab: -9223372036854775808<=(n:Int)-1) (Ab:(n:Int)-1<9223372036854775808)];rw[Cu];refine⟨λh2=>?_,λh2=>?_⟩
    .rw[Ae h2] at a4 a5;refine AK.next ((n:Int),f+1,n) rfl ⟨Dq,Dq,Dq,Dq,?_,.inr ⟨n,hn,rfl⟩,rfl⟩ Dq;simp only
     rw[a5];by_cases hf:0<=NG e.c (l.take n);.simp[hf]
     .simp[hf,(Ab:(0:Int)<=(n:Int))]
    .rw[Ac (by simp[h2])] at a4;rw[Ac (show¬GC l[n].c e.c=true by simp[h2])] at a5;refine AK.next (B,f,n) rfl ⟨Dq,Dq,Dq,Dq,?_,a6,rfl⟩ Dq;simp only
     rw[a5];by_cases hf:0<=NG e.c (l.take n);.simp[hf]
     .simp[hf]
   .obtain rfl:n=s:=by omega
    obtain⟨b1,b2⟩:=XN (e:=e.c) es;rw[b1,Bs] at a4;rw[b2,Ac AX] at a5;simp only[BC,j.Ad,(Ab:¬(n:Int)<=(n:Int)-1),An,Aq,Au];by_cases C:3<=f
    .rcases a6 with a6|⟨k,hk,rfl⟩
     .omega
     rw[Ac Ab] at a5;obtain⟨i,b,OU⟩:=aKK (h:=h1) hv hk Ab;have YP:(Be l k).length<=l.length:=by unfold Be;rw[Aw,As,Bb];omega
     have w:At (put h1 id o i) id o i:=hc.put;obtain⟨a,Qy,r2⟩:=tr (h:=put h1 id o i) he;obtain⟨y,z,Jr⟩:=tv (h:=put h1 id o i) OU a (Ag (Be l k).length) Ab;rw[Bv,El] at Jr;simp only[BC,(Ab:(3:Int)<=(f:Int)),Av,An,Aq,hc.load,Bs,b.Ad,hc.store (Dk.cells OU),w.load,AU.CL OU,r2.Ad,BK,z.Ad,w.store (Dk.cells Jr),dB];refine⟨_,rfl,rfl,a,y,Qy,rfl,?_⟩;rw[LF,Ae ⟨h0,Ab⟩,a5,AV];exact Jr
    .obtain⟨a,Qy,b⟩:=tr (h:=h1) he;obtain⟨u,r2,hu⟩:=tv (h:=h1) hv a (Ag l.length) Ab;rw[Bv,El] at hu;simp only[BC,(Ab:¬(3:Int)<=(f:Int)),An,Aq,Au,hc.load,Bs,DC.CL,b.Ad,BK,r2.Ad,hc.store (Dk.cells hu)];refine⟨_,rfl,rfl,a,u,Qy,rfl,?_⟩;rw[LF,Ac Ab];exact hu
 obtain⟨r,h',hr,rfl,a,u,Qy,rfl,hu⟩:=Ji.ret;exact⟨u,a,Qy,hr,hu⟩
end
end
section
section
variable{h:Ah}{v:Aa}{l:List Cj}{id o:Nat}
def aKM(hs:Tx h id o l)(hb:l.length<=900000000)(node:Int){e:Cj}(he:Zk e):∃u t a,a.c=e.c/\BH cx 408 [Pt id o,I node,.agg e.row] h (.bool (decide (0<=Hw node l))) (put h id o u++t)/\Dk (if Hw node l<0 then l else l.set (Hw node l).toNat a) u:=by
 obtain⟨v,hc,hv⟩:=(show Tx h id o l from hs);rcases mT node l with h1|⟨k,hk,h1⟩
 .refine⟨v,[],e,rfl,?_,by rw[h1];exact hv⟩;have b:=hc.zI (AU.O3 hv);rw[Af,V9,hc.same,BE];simp only[BC,Cj.CK,(f41 hc hv Ab node).Ad,h1,(AX:(-1:Int)<0),Av,Aq,An,b];rfl
 .have hne:l≠[]:=by intro e;subst e;simp at hk
  have hcl:=aCl (h:=h) hv hne Ab;have g:=(hc.IA (t:=[Dw.cells (l.map Cj.row).flatten])).store (u:= .CE h.length 0 l.length 3) rfl;rw[dD hc] at g;obtain⟨a,Qy,j⟩:=tr (h:=put h id o (.CE h.length 0 l.length 3)++[Dw.cells (l.map Cj.row).flatten]) he;obtain⟨r,x,p⟩:=hc.next (w:= .CE h.length 0 l.length 3) (X:= .cells (l.map Cj.row).flatten) (Y:= .cells ((l.map Cj.row).set k a.row).flatten);have f:=Uy (z:=3) (Om l) r (i:=k) (by simpa using hk) (q:=a.row) rfl;rw[p] at f;have m:AE (.E2 3) [.CE h.length 0 l.length 3,I (k:Int)]=some (Pt h.length (k*3)):=EX hk;have b:=hc.zJ (mI (Om l) (i:=k) (q:=a.row) rfl);rw[Bn,Ak] at b;refine⟨.sl 3 ((l.map Cj.row).set k a.row),[.CO],a,Qy,?_,?_⟩;.rw[Af,V9];simp only[BC,Cj.CK,Cj.g0,Cj.g1,Cj.g2,Cj.PE,(f41 hc hv Ab node).Ad,h1,(Ab:¬(k:Int)<0),Au,Aq,An,hc.load,Bs,hcl.Ad,g,x.load,j.Ad,BK,m,f,b,(Ab:(0:Int)<=(k:Int)),Dp]
  .rw[h1,Ac Ab,AV,<-Ek];exact .mk
def aFG(hv:Dk l v)(hb:l.length<=900000000){k:Nat}(hk:k<l.length):∃u,BH cx 283 [v,I (k:Int)] h u h/\Dk (Be l k) u:=by
 have DC:AU 3 (l.map Cj.row) v:=hv;have Ji:Ev cx 283 [v,I (k:Int)] h λr h'=>h'=h/\Dk (Be l k) r:=by
  unfold Ev;rw[à];refine Bf (λp:Nat×Aa=>[p.2,I (p.1:Int)]) (λp h1=>p.1<=l.length/\Dk (if p.1<=k then l.take p.1 else Be (l.take p.1) k) p.2/\h1=h) (λp=>l.length-p.1) (0,.slnil) rfl ⟨AQ _,by rw[Ae (AQ _)];exact .nil,rfl⟩ ?_;rintro⟨n,u⟩ h1 ⟨hn,hu,rfl⟩;simp only at hn hu;have inc:=BI (Ab:n<9223372036854775807);rcases AN n l.length with hlt|D6
  .have i1:(n:Int)<(l.length:Int):=by omega
   have elem:=DC.BJ (k:= .i64) hlt;have hlen:(if n<=k then l.take n else Be (l.take n) k).length<=l.length:=by
    split;.rw[As];omega
    .unfold Be;rw[Aw,As,Bb,As];omega
   have c:=AU.Ki (a:=l[n]) hu (b:=48) (PH Ab);simp only[BC,DC.CL,i1,Av,Aq,An,elem,Cj.CK,Cj.HU,Ag,L6 Cj.CK,c,inc];refine⟨λh0=>?_,λh0=>?_⟩
   .refine AK.next (n+1,_) rfl ⟨hlt,?_,rfl⟩ Dq;have h0:n≠k:=Ab;have:(if n+1<=k then l.take (n+1) else Be (l.take (n+1)) k)=(if n<=k then l.take n else Be (l.take n) k)++[l[n]]:=by
     rw[AB hlt];by_cases Ţ:n<k;.rw[Ae Ab,Ae Ab]
     .rw[Ac Ab,Ac Ab];unfold Be;rw[CI (by rw[As];omega),Jg (by rw[As];omega),AI]
    simp only
    rw[this];exact .mk
   .refine AK.next (n+1,u) rfl ⟨hlt,?_,rfl⟩ Dq;obtain rfl:n=k:=Ab;have:(if n+1<=n then l.take (n+1) else Be (l.take (n+1)) n)=l.take n:=by rw[Ac Ab];unfold Be;rw[FA,Cp Ab,AO (by rw[As];omega),BE]
    simp only
    rw[this];rw[Ae (Ag _)] at hu;exact hu
  .have i1:¬(n:Int)<(l.length:Int):=by omega
   rw[Ac Ab,AG D6] at hu;simp only[BC,DC.CL,i1,Au,Aq,An];exact⟨_,rfl,hu⟩
 obtain⟨r,h',hr,rfl,hu⟩:=Ji.ret;exact⟨r,hr,hu⟩
def f82(hv:Dk l v)(hb:l.length<=900000000){e:Cj}(he:Zk e)(i:Int):∃u m,m.c=e.c/\BH cx 100 [v,.agg e.row,I i] h u h/\Dk (l.take (CH i l.length)++m::l.drop (CH i l.length)) u:=by
 obtain⟨m,Qy,z⟩:=aKJ (h:=h) he;have key:∀k:Nat,k<=l.length->∃r t q p,AE (.KA 3 false false true) [v,I (k:Int)]=some r/\AE (.append 3 48) [.slnil,r]=some t/\AE (.append 3 48) [t,.sl 3 [m.row]]=some (.sl 3 ((l.take k++[m]).map Cj.row))/\AE (.KA 3 false true false) [v,I (k:Int)]=some q/\AE (.append 3 48) [.sl 3 ((l.take k++[m]).map Cj.row),q]=some p/\Dk (l.take k++m::l.drop k) p:=by intro k hk;obtain⟨r,j,h1⟩:=AU.Mn hv (k:= .i64) hk;obtain⟨t,y,h2⟩:=AU.Gt h1 (b:=48) (PH (by rw[As];omega));have x:=AU.Ki (a:=m) h2 (b:=48) (PH (by rw[As];omega));obtain⟨q,g,B⟩:=AU.Sp hv (k:= .i64) hk;obtain⟨p,w,A⟩:=AU.cZ (f:=Cj.row) (l:=l.take k++[m]) .mk B (b:=48) (PH (by rw[Aw,As,Bb,Bi];omega));exact⟨r,t,q,p,j,y,x,g,w,by rw[AI] at A;exact A⟩
 obtain⟨r,t,q,p,j,y,x,g,w,hu⟩:=key (CH i l.length) (by unfold CH;omega);refine⟨p,m,Qy,?_,hu⟩;have DC:AU 3 (l.map Cj.row) v:=hv;rw[Af,H_];by_cases h1:i<0
 .have:CH i l.length=0:=by unfold CH;omega
  rw[this] at j g;have j:AE (.KA 3 false false true) [v,I 0]=some r:=j;have g:AE (.KA 3 false true false) [v,I 0]=some q:=g;simp only[BC,Cj.CK,Cj.g0,Cj.g1,Cj.g2,Cj.PE,h1,Av,Au,Aq,An,DC.CL,(Ab:¬(l.length:Int)<0),j,y,z.Ad,L6 Cj.CK,x,g,w]
 .by_cases h2:(l.length:Int)<i
  .have:CH i l.length=l.length:=by unfold CH;omega
   rw[this] at j g;simp only[BC,Cj.CK,Cj.g0,Cj.g1,Cj.g2,Cj.PE,h1,h2,Av,Au,Aq,An,DC.CL,j,y,z.Ad,L6 Cj.CK,x,g,w]
  .have:((CH i l.length:Nat):Int)=i:=by unfold CH;omega
   rw[this] at j g;simp only[BC,Cj.CK,Cj.g0,Cj.g1,Cj.g2,Cj.PE,h1,h2,Au,Aq,An,DC.CL,j,y,z.Ad,L6 Cj.CK,x,g,w]
def f84(hv:Dk l v)(hb:l.length<=900000000):∃u,BH cx 102 [v] h u h/\Dk (l.take (EO l)) u:=by
 obtain⟨s,es,JW,_⟩:=JO l;have hcl:EO l<=l.length:=by unfold EO;omega
 obtain⟨u,a,hu⟩:=AU.Mn hv (k:= .i64) hcl;obtain⟨f,c,Jr⟩:=AU.Gt hu (b:=48) (PH (by rw[As];omega));refine⟨f,?_,Jr⟩;rw[Af,I_];by_cases h1:since l-1<0
 .have:EO l=0:=by unfold EO;omega
  rw[this] at a;have a:AE (.KA 3 false false true) [v,I 0]=some u:=a;simp only[BC,(ą hv Ab).Ad,C3 (Ab: -9223372036854775808<=since l-1) (Ab:since l-1<9223372036854775808),h1,Av,Aq,An,a,c]
 .have:((EO l:Nat):Int)=since l-1:=by unfold EO;omega
  rw[this] at a;simp only[BC,(ą hv Ab).Ad,C3 (Ab: -9223372036854775808<=since l-1) (Ab:since l-1<9223372036854775808),h1,Au,Aq,An,a,c]
def aKN(hv:Dk l v)(hb:l.length<=900000000)(hl:∀x∈l,Zk x){e:Cj}(he:Zk e):∃u a,a.c=e.c/\BH cx 137 [v,.agg e.row] h u h/\Dk (LF e.c l++[a]) u:=by
 have DC:AU 3 (l.map Cj.row) v:=hv;obtain⟨s,es,JW,j,_⟩:=JO l;have Ji:Ev cx 137 [v,.agg e.row] h λr h'=>h'=h/\∃a:Cj,a.c=e.c/\Dk (LF e.c l++[a]) r:=by
  unfold Ev;rw[R_];have t:=ą (h:=h) hv Ab;rw[es] at t;obtain⟨b1,b2⟩:=XN (e:=e.c) es;simp only[BC,Cj.CK,Cj.g0,Cj.g1,Cj.g2,Cj.PE,t.Ad];refine Bf (λn:Nat=>[I (NG e.c (l.take n)),I (Sv e.c (l.take n):Int),I (n:Int)])
   (λn h1=>s<=n/\n<=l.length/\Sv e.c (l.take n)<=n/\((Sv e.c (l.take n)=0/\NG e.c (l.take n)= -1)\/∃k:Nat,k<n/\NG e.c (l.take n)=(k:Int))/\h1=h) (λn=>l.length-n) s (by rw[b1,b2];rfl) ⟨Ag _,JW,Ab,.inl ⟨b1,b2⟩,rfl⟩ ?_
  rintro n h1 ⟨a1,a2,a3,a4,rfl⟩;rcases AN n l.length with hlt|D6
  .have i1:(n:Int)<(l.length:Int):=by omega
   have m:=j n hlt a1;have f:=Tz (e:=e.c) hlt;have b:=TA (e:=e.c) hlt;rw[Ac m] at f b;have i:=f241 (h:=h1) (hl _ (AL hlt)) he;simp only[BC,DC.CL,i1,Av,An,Aq,DC.BJ hlt,Cj.CK,Cj.HU,Ag,i.Ad,BI (Ab:Sv e.c (l.take n)<9223372036854775807),BI (Ab:n<9223372036854775807)];rw[Cu];refine⟨λh2=>⟨λp=>?_,λp=>?_⟩,λh2=>?_⟩;.rw[Ae h2] at f b;rw[Ac Ab] at b;refine AK.next (n+1) (by rw[f,b]) ⟨Ab,hlt,Ab,.inr ⟨n,Ab,b⟩,rfl⟩ Ab
   .rw[Ae h2] at f b;rw[Ae Ab] at b;refine AK.next (n+1) (by rw[f,b]) ⟨Ab,hlt,Ab,.inr ?_,rfl⟩ Ab;rw[b];rcases a4 with⟨_,a4⟩|⟨k,hk,a4⟩
    .omega
    .exact⟨k,Ab,a4⟩
   .rw[Ac (by simp[h2])] at f;rw[Ac (show¬GC l[n].c e.c=true by simp[h2])] at b;have g:NG e.c (l.take (n+1))=NG e.c (l.take n):=by rw[b];rcases a4 with⟨_,a4⟩|⟨k,hk,a4⟩<;>rw[a4]<;>simp
    refine AK.next (n+1) (by rw[f,g];rfl) ⟨Ab,hlt,Ab,?_,rfl⟩ Ab;rw[f,g];rcases a4 with a4|⟨k,hk,a4⟩
    .exact .inl a4
    .exact .inr ⟨k,Ab,a4⟩
  .have i1:¬(n:Int)<(l.length:Int):=by omega
   rw[AG D6] at a3 a4⊢;simp only[BC,DC.CL,i1,An,Aq,Au];refine⟨λh2=>⟨λp=>?_,λp=>?_⟩,λh2=>?_⟩
   .rcases a4 with⟨a4,_⟩|⟨k,hk,a4⟩
    .omega
    have P7:k<l.length:=Ab;obtain⟨w,i,OU⟩:=aFG (h:=h1) hv hb P7;have hlen:(Be l k).length<=l.length:=by unfold Be;rw[Aw,As,Bb];omega
    obtain⟨q,a,Qy,r2,Jr⟩:=f82 (h:=h1) OU Ab he ((Be l k).length:Int);have hcl:CH ((Be l k).length:Int) (Be l k).length=(Be l k).length:=by unfold CH;omega
    rw[hcl,Bv,El] at Jr;simp only[BC,a4,i.Ad,AU.CL OU,r2.Ad];refine⟨_,rfl,a,Qy,?_⟩;rw[LF,Ae ⟨h2,Ab⟩,a4,AV];exact Jr
   .obtain⟨q,a,Qy,r2,Jr⟩:=f82 (h:=h1) hv hb he (l.length:Int);have hcl:CH (l.length:Int) l.length=l.length:=by unfold CH;omega
    rw[hcl,Bv,El] at Jr;simp only[BC,r2.Ad];refine⟨_,rfl,a,Qy,?_⟩;rw[LF,Ac Ab];exact Jr
   .obtain⟨q,a,Qy,r2,Jr⟩:=f82 (h:=h1) hv hb he (l.length:Int);have hcl:CH (l.length:Int) l.length=l.length:=by unfold CH;omega
    rw[hcl,Bv,El] at Jr;simp only[BC,r2.Ad];refine⟨_,rfl,a,Qy,?_⟩;rw[LF,Ac (λh=>h2 h.1)];exact Jr
 obtain⟨r,h',hr,rfl,a,Qy,hu⟩:=Ji.ret;exact⟨r,a,Qy,hr,hu⟩
end
end
def Vi:List A3->Aa
 |[]=> .slnil
 |x::l=> .sl 3 ((x::l).map A3.row)
def Wb{l:List A3}:Br l (Vi l):=by cases l;exact .inr ⟨rfl,rfl⟩;exact .inl rfl
def gg{l:List A3}{x:A3}:Vi (l++[x])= .sl 3 ((l++[x]).map A3.row):=by cases l<;>rfl
structure PN where
 x:EP
 kv:Aa
 av:Aa
 ok:av=Vi x.Az
def PN.row(p:PN):List Aa:=[I p.x.kind,I p.x.FL,p.kv,I p.x.Cf,I p.x.A7,.str p.x.name,p.av,.str p.x.data,.str p.x.Gi,.str p.x.sys,.bool p.x.Cq,I p.x.cont,I p.x.Ei]
def PN.CK{p:PN}:p.row.length=13:=rfl
def PN.zero:PN:=⟨{},.slnil,.slnil,rfl⟩
def pN(ps:List PN)(x:Int):PN:=ps.getD (x.toNat-1) PN.zero
def Cn(n:Int):List Aa:=[I n]
def D1(l:List Int)(v:Aa):Prop:=AU 1 (l.map Cn) v
def Kn(h:Ah)(kv:Aa)(l:List Int):Prop:=(kv= .slnil/\l=[])\/∃id cs,kv= .CE id 0 l.length 1/\h[id]?=some (.cells (l.map (Aa.int .i64)++cs))
def HL:Aa->Option Nat
 | .CE id _ _ _=>some id
 |_=>none
def zK(l:List (Int×Int)):Prop:=(l.map (·.1)).Nodup/\∀p∈l,dd p.1=true/\dd p.2=true
def Ye(h:Ah)(m:Option Nat)(f:Int->Int):Prop:=(m=none/\∀k,f k=0)\/∃(id:Nat) (l:List (Int×Int)),m=some id/\h[id]?=some (.map (l.map λx:Int×Int=>(I x.1,I x.2)))/\(∀k,(l.find? λx=>decide (k=x.1)).map (·.2)=if f k=0 then none else some (f k))/\zK l
def Ga(a n:Nat)(m:Option Nat)(ps:List PN):List Nat:=a::n::(m.toList++ps.filterMap λp=>HL p.kv)
structure PA(h:Ah)(a n:Nat)(m:Option Nat)(ps:List PN)(A:Ar):Prop where
 e:A.n=ps.map PN.x
 il:A.i.length=A.n.length
 ha:h[a]?=some (.cells [.CE n 0 ps.length 13,.map m])
 hn:h[n]?=some (.cells (ps.map PN.row).flatten)
 ks:∀p∈ps,Kn h p.kv p.x.A6
 nd:(Ga a n m ps).Nodup
 mp:Ye h m A.inr
structure DA(h:Ah)(F:Nat->Prop)(h':Ah)(F':Nat->Prop):Prop where
 len:h.length<=h'.length
 old:∀i,i<h.length->¬F i->h'[i]?=h[i]?
 Bt:∀i,F' i->F i\/h.length<=i
section
variable{h h' h'' t:Ah}{F F' F'':Nat->Prop}
def DA.refl:DA h F h F:=⟨Ag _,λ_ _ _=>rfl,λ_ h=> .inl h⟩
def DA.trans(x:DA h F h' F')(y:DA h' F' h'' F''):DA h F h'' F'':=
 ⟨Bu x.len y.len,λi hi hF=>by
  rw[y.old i (LK hi x.len) (λh=>by rcases x.Bt i h with h|h;exact hF h;omega)];exact x.old i hi hF,λi hi=>by
  rcases y.Bt i hi with h|h
  .exact x.Bt i h
  .exact .inr (Bu x.len h)⟩
def DA.IA:DA h F (h++t) F:=⟨AH,λi hi _=>Aj hi,λ_ h=> .inl h⟩
end
def PW(h:Ah)(F:Nat->Prop)(a:Nat)(A:Ar):Prop:=∃n m ps,PA h a n m ps A/\∀i,F i↔i∈Ga a n m ps
section
variable{h h':Ah}{a n:Nat}{m:Option Nat}{ps:List PN}{A:Ar}{x:Int}{F:Nat->Prop}
def Kn.Df{kv:Aa}{l:List Int}(hk:Kn h kv l)(hf:∀id,HL kv=some id->h'[id]?=h[id]?):Kn h' kv l:=by
 rcases hk with⟨rfl,rfl⟩|⟨id,cs,rfl,hc⟩
 .exact .inl ⟨rfl,rfl⟩
 .exact .inr ⟨id,cs,rfl,by rw[hf id rfl];exact hc⟩
def Ye.Df{f:Int->Int}(hk:Ye h m f)(hf:∀id,m=some id->h'[id]?=h[id]?):Ye h' m f:=by
 rcases hk with h1|⟨id,l,rfl,hc,h2⟩
 .exact .inl h1
 .exact .inr ⟨id,l,rfl,by rw[hf id rfl];exact hc,h2⟩
def Lp{p:PN}{id:Nat}(hp:p∈ps)(hk:HL p.kv=some id):id∈Ga a n m ps:=by unfold Ga;simp only[AT,Ax];exact .inr (.inr (.inr (Ci.2 ⟨p,hp,hk⟩)))
def PA.Df(w:PA h a n m ps A)(hf:∀i∈Ga a n m ps,h'[i]?=h[i]?):PA h' a n m ps A:=
 ⟨w.e,w.il,by rw[hf a (by simp[Ga])];exact w.ha,by rw[hf n (by simp[Ga])];exact w.hn,λp hp=>(w.ks p hp).Df λid hk=>hf id (Lp hp hk),w.nd,w.mp.Df λid hm=>hf id (by simp[Ga,hm])⟩
def PA.lt(w:PA h a n m ps A):∀i∈Ga a n m ps,i<h.length:=by
 intro i hi;unfold Ga at hi;simp only[AT,Ax,Ci] at hi;rcases hi with rfl|rfl|hi|⟨p,hp,hk⟩
 .exact(Al.1 w.ha).1
 .exact(Al.1 w.hn).1
 .rcases w.mp with⟨rfl,_⟩|⟨id,l,rfl,hc,_⟩
  .simp at hi
  .simp at hi;subst hi;exact(Al.1 hc).1
 .rcases w.ks p hp with⟨e,_⟩|⟨id,cs,e,hc⟩
  .rw[e] at hk;cases hk
  .rw[e] at hk;cases hk;exact(Al.1 hc).1
def PW.Df(w:PW h F a A)(hf:∀i,F i->h'[i]?=h[i]?):PW h' F a A:=by obtain⟨n,m,ps,w,e⟩:=w;exact⟨n,m,ps,w.Df λi hi=>hf i ((e i).2 hi),e⟩
def PW.lt(w:PW h F a A){i:Nat}(hi:F i):i<h.length:=by obtain⟨n,m,ps,w,e⟩:=w;exact w.lt i ((e i).1 hi)
def PA.tw(w:PA h a n m ps A):A.n.length=ps.length:=by rw[w.e,Ak]
def PA.at(w:PA h a n m ps A)(hx:A.has x):x.toNat-1<ps.length/\((x.toNat-1:Nat):Int)=x-1:=by have:=w.tw;unfold Ar.has at hx;omega
def PA.pn(w:PA h a n m ps A)(hx:A.has x):ps[x.toNat-1]?=some (pN ps x)/\(pN ps x).x=A.nd x/\pN ps x∈ps:=by
 have h1:=(w.at hx).1;have h2:ps[x.toNat-1]?=some ps[x.toNat-1]:=Ai h1;have b:pN ps x=ps[x.toNat-1]:=by unfold pN;rw[AJ,h2];rfl
 refine⟨by rw[b];exact h2,?_,by rw[b];exact AL _⟩;unfold Ar.nd;rw[Ae hx,w.e,b,AJ,Cl,h2];rfl
def Lq{AD:List (List Aa)}{z i k:Nat}(hr:∀r∈AD,r.length=z)(hk:k<z){r:List Aa}(hi:AD[i]?=some r):AD.flatten[i*z+k]?=r[k]?:=by
 have h1:(AD.flatten.drop (i*z))[k]?=r[k]?:=by rw[IY hr];obtain⟨hlt,e⟩:=Al.1 hi;rw[AF hlt,e,CT,Aj (by rw[hr r (e▸AL hlt)];exact hk)]
 rwa [Cr] at h1
def nL(l:List PN):∀r∈l.map PN.row,r.length=13:=Ml (f:=PN.row) (λ_=>PN.CK) l
def nP(n:Nat)(x:Int):Nat:=(x.toNat-1)*13
def PA.Py(w:PA h a n m ps A)(hx:A.has x){k:Nat}(hk:k<13):Bd h none (Pt n (nP n x+k))=(pN ps x).row[k]?:=by unfold nP;simp only[Bd,w.hn,E7];exact Lq (nL ps) hk (by rw[Cl,(w.pn hx).1];rfl)
def Vj(w:PA h a n m ps A):BH cx 54 [Pt a 0,I x] h (.bool (decide (A.has x))) h:=by
 have d:Bd h none (Pt a 0)=some (.CE n 0 ps.length 13):=by simp only[Bd,w.ha];rfl
 have c:AE (.len false) [.CE n 0 ps.length 13]=some (I (ps.length:Int)):=rfl;rw[Af,sP];simp only[abS,d,c];have hl:=w.tw;have b:A.has x↔1<=x/\x<=(ps.length:Int):=by unfold Ar.has;rw[hl]
 refine⟨λh1=>?_,λh1=>?_⟩;.congr 2;rw[C5,b];exact⟨λh=>⟨h1,h⟩,λh=>h.2⟩
 .rw[Ay (λh=>h1 (b.1 h).1)]
def PA.nodes(w:PA h a n m ps A):Bd h none (Pt a 0)=some (.CE n 0 ps.length 13):=by simp only[Bd,w.ha];rfl
def PA.len(w:PA h a n m ps A):((ps.length:Nat):Int)=A.len:=by unfold Ar.len;rw[w.tw]
def ţ(w:PA h a n m ps A){l:List Int}{v:Aa}(hv:D1 l v)(hb:l.length<=1000):BH cx 236 [Pt a 0,v] h (I (if∀x∈l,A.has x then 0 else 3)) h:=by
 have hv:AU 1 (l.map Cn) v:=hv;rw[Af,fY];simp only[abS,hv.CL];refine Bf (λk:Nat=>[I 0,I (k:Int)]) (λk h1=>k<=l.length/\(∀x∈l.take k,A.has x)/\h1=h) (λk=>l.length-k) 0 rfl ⟨AQ _,AH,rfl⟩ ?_;rintro k h1 ⟨hk,ha,rfl⟩;rcases AN k l.length with hlt|D6
 .have i1:(k:Int)<(l.length:Int):=by omega
  have c:Bd h1 none (.CG (Cn l[k]))=some (I l[k]):=rfl;simp only[BC,aC,i1,hv.BJ hlt,c,(Vj (x:=l[k]) w).Ad,BI (Ab:k<9223372036854775807)];rw[Cu];refine⟨λh2=>?_,λh2=>?_⟩
  .have h2:¬A.has l[k]:=by simpa using h2
   rw[Ac (λb=>h2 (b _ (AL hlt)))]
  .have h2:A.has l[k]:=by simpa using h2
   refine AK.next (k+1) rfl ⟨hlt,?_,rfl⟩ Ab;intro x hx;rw[AB hlt,Ax,DB] at hx;rcases hx with hx|rfl
   .exact ha x hx
   .exact h2
 .have i1:¬(k:Int)<(l.length:Int):=by omega
  rw[AG D6] at ha;simp only[abS,i1,Ae ha]
def TM(w:PA h a n m ps A):BH cx 236 [Pt a 0,.sl 1 [[I x]]] h (I (if A.has x then 0 else 3)) h:=by have:=ţ w (l:=[x]) (v:= .sl 1 [[I x]]) .mk AH;simpa using this
def LI{y:Int}(w:PA h a n m ps A):BH cx 236 [Pt a 0,.sl 1 [[I x],[I y]]] h (I (if A.has x/\A.has y then 0 else 3)) h:=by have:=ţ w (l:=[x,y]) (v:= .sl 1 [[I x],[I y]]) .mk AH;simpa using this
def Hz{x:Int}:AE (.Dh 1) [I x]=some (.sl 1 [[I x]]):=rfl
def FI{x y:Int}:AE (.Dh 1) [I x,I y]=some (.sl 1 [[I x],[I y]]):=rfl
def MZ.of(b:MZ A)(hx:A.has x):1<=x/\x<=1000000000:=by have:=b.n;unfold Ar.has at hx;omega
def IH(w:PA h a n m ps A)(b:MZ A)(hx:A.has x):BH cx 153 [Pt a 0,I x] h (Pt n (nP n x)) h:=by
 have hr:=b.of hx;have d:=(w.at hx).2;have c:AE (.E2 13) [.CE n 0 ps.length 13,I (x-1)]=some (Pt n (nP n x)):=by rw[<-d];exact EX (w.at hx).1
 rw[Af,VL];simp only[abS,w.nodes,C3 (Ab: -9223372036854775808<=x-1) (Ab:x-1<9223372036854775808),c]
def PA.f0(w:PA h a n m ps A)(hx:A.has x):Bd h none (Pt n (nP n x))=some (I (A.nd x).kind):=by have:=w.Py hx (k:=0) AX;rw[<-(w.pn hx).2.1];exact this
def PA.f1(w:PA h a n m ps A)(hx:A.has x):Bd h none (Pt n (nP n x+1))=some (I (A.nd x).FL):=by have:=w.Py hx (k:=1) AX;rw[<-(w.pn hx).2.1];exact this
def PA.f2(w:PA h a n m ps A)(hx:A.has x):Bd h none (Pt n (nP n x+2))=some (pN ps x).kv:=by have:=w.Py hx (k:=2) AX;exact this
def PA.f4(w:PA h a n m ps A)(hx:A.has x):Bd h none (Pt n (nP n x+4))=some (I (A.nd x).A7):=by have:=w.Py hx (k:=4) AX;rw[<-(w.pn hx).2.1];exact this
def PA.f5(w:PA h a n m ps A)(hx:A.has x):Bd h none (Pt n (nP n x+5))=some (.str (A.nd x).name):=by have:=w.Py hx (k:=5) AX;rw[<-(w.pn hx).2.1];exact this
def PA.f6(w:PA h a n m ps A)(hx:A.has x):Bd h none (Pt n (nP n x+6))=some (pN ps x).av:=by have:=w.Py hx (k:=6) AX;exact this
def PA.MK(w:PA h a n m ps A)(hx:A.has x):Kn h (pN ps x).kv (A.nd x).A6:=by rw[<-(w.pn hx).2.1];exact w.ks _ (w.pn hx).2.2
def PA.jq(w:PA h a n m ps A)(hx:A.has x):(pN ps x).av=Vi (A.nd x).Az:=by rw[<-(w.pn hx).2.1];exact(pN ps x).ok
def PA.row(w:PA h a n m ps A)(hx:A.has x):Bd h (some 13) (Pt n (nP n x))=some (.agg (pN ps x).row):=by
 have h1:((ps.map PN.row).flatten.drop (nP n x)).take 13=(pN ps x).row/\nP n x+13<=(ps.map PN.row).flatten.length:=by unfold nP;have hlt:=(w.at hx).1;have hg:=(w.pn hx).1;rw[IY (nL ps),FO (nL ps),Ak];refine⟨?_,Ab⟩;rw[<-JG,AF hlt,Bk,CT];rw[Ai hlt,Bz] at hg;rw[hg];exact HO PN.CK
 simp only[Bd,w.hn,MV];rw[Ae h1.2,h1.1]
def Nd:∀{l:List Int} {cs Y5:List Aa},CA (Y5++(l.map (Aa.int .i64)++cs)) 1 Y5.length l.length=l.map Cn
 |[],_,_=>rfl
 |x::l,cs,Y5=>by have:=Nd (l:=l) (cs:=cs) (Y5:=Y5++[I x]);simp only[AI,Aw,Bi] at this;simp only[Bk,A9,CA,CJ];rw[JA rfl];simp only[CJ,BQ] at this;rw[this];rfl
def Kn.AD{kv:Aa}{l:List Int}(hk:Kn h kv l):GY h 1 kv=some (l.map Cn):=by
 rcases hk with⟨rfl,rfl⟩|⟨id,cs,rfl,hc⟩
 .rfl
 .have:=Nd (l:=l) (cs:=cs) (Y5:=[]);simp only[BQ,BP] at this;simp only[GY,BL,hc,this];rw[Ae AH]
def Kn.len{kv:Aa}{l:List Int}(hk:Kn h kv l):AE (.len false) [kv]=some (I (l.length:Int)):=by rcases hk with⟨rfl,rfl⟩|⟨id,cs,rfl,hc⟩<;>rfl
def Ť{kv:Aa}{l:List Int}(hk:Kn h kv l)(hb:l.length<=1000000000):∃v,BH cx 387 [kv] h v h/\D1 l v:=by
 have hr:=hk.AD;rcases hk with⟨rfl,rfl⟩|⟨id,cs,rfl,hc⟩
 .exact⟨.slnil,by rw[Af,V5,aB8];simp only[BC,show AE (.Gy false .sl) [.slnil,.slnil]=some (.bool true) from rfl],.inr ⟨rfl,rfl⟩⟩
 .refine⟨.sl 1 (l.map Cn),?_,.mk⟩;have b:QF h 1 8 (.sl 1 []) (.CE id 0 l.length 1)=some (.sl 1 (l.map Cn)):=by
   unfold QF;rw[hr,Ct];cases l with
   |nil=>rfl
   |cons x l=>
    have:(x::l).length*8<=AM:=by have:AM=140737488355328:=rfl;omega
    simp only[Bk,DI,A9,Ak,BP] at this⊢;rw[Ae ⟨trivial,by simpa using this⟩];rfl
  rw[Af,V5,aB8];simp only[BC,show AE (.Gy false .sl) [.CE id 0 l.length 1,.slnil]=some (.bool false) from rfl,show AE (.Dh 1) []=some (.sl 1 []) from rfl,b]
def I7(h:Ah)(v:Aa)(l:List A3):Prop:=(v= .slnil/\l=[])\/∃id,v= .CE id 0 l.length 3/\h[id]?=some (.cells (l.map A3.row).flatten)/\id<h.length
def I7.IA{v:Aa}{l:List A3}{t:Ah}(hv:I7 h v l):I7 (h++t) v l:=by
 rcases hv with h1|⟨id,e,hc,hl⟩
 .exact .inl h1
 .exact .inr ⟨id,e,by rw[Aj hl];exact hc,by rw[Aw];omega⟩
def I7.cells{v:Aa}{l:List A3}(hv:I7 h v l):v.cells=[v]:=by rcases hv with⟨rfl,_⟩|⟨id,rfl,_,_⟩<;>rfl
structure M1(h:Ah)(v:Aa)(l:List A3):Prop where
 len:AE (.len false) [v]=some (I (l.length:Int))
 at_:∀k (hk:k<l.length),∃p,AE (.E2 3) [v,I (k:Int)]=some p/\Bd h (some 3) p=some (.agg l[k].row)
def Yf{v:Aa}{l:List A3}(hv:Br l v):M1 h v l:=⟨AU.CL hv,λk hk=>⟨_,AU.BJ hv hk,rfl⟩⟩
def aCm(l:List A3):∀r∈l.map A3.row,r.length=3:=Ml (f:=A3.row) (λ_=>rfl) l
def I7.in_{v:Aa}{l:List A3}(hv:I7 h v l):M1 h v l:=by
 rcases hv with⟨rfl,rfl⟩|⟨id,rfl,hc,_⟩
 .exact⟨rfl,λk hk=>by simp at hk⟩
 .refine⟨rfl,λk hk=>⟨Pt id (k*3),EX hk,?_⟩⟩;simp only[Bd,hc,MV];rw[Ae (by rw[FO (aCm l),Ak];omega),IY (aCm l),<-JG,AF hk,Bk,CT];rfl
def Up(N:Nat)(v:Aa):Prop:=∀id k,v= .CE id 0 k 3->N<=id
def tz{v:Aa}{l:List A3}(hv:v=Vi l)(hb:l.length<=1000000000):∃u t,BH cx 100147 [v] h u (h++t)/\I7 (h++t) u l/\Up h.length u:=by
 cases l with
 |nil=>refine⟨.slnil,[],?_,.inl ⟨rfl,rfl⟩,λ_ _ e=>nomatch e⟩;rw[BE,Af,Ov,hv];simp only[BC,Vi,show AE (.Gy false .sl) [.slnil,.slnil]=some (.bool true) from rfl]
 |cons x l=>have e:=Lj (h:=h) (s:= .sl 3 []) (z:=3) (b:=40) (.inr rfl) (AU.mk (z:=3) (AD:=(x::l).map A3.row)) AH (by rw[Ak];have:AM=140737488355328:=rfl;omega);rw[Ak] at e;refine⟨.CE h.length 0 (x::l).length 3,[.cells ((x::l).map A3.row).flatten],?_,.inr ⟨h.length,rfl,AH,AH⟩,λ_ _ e=>by injection e with e;omega⟩;rw[Af,Ov,hv];simp only[BC,Vi,show AE (.Gy false .sl) [.sl 3 ((x::l).map A3.row),.slnil]=some (.bool false) from rfl,show AE (.Dh 3) []=some (.sl 3 []) from rfl,e]
def Vk(h:Ah)(N:Nat)(x:EP)(r:List Aa):Prop:=∃K V,r=[I x.kind,I x.FL,K,I x.Cf,I x.A7,.str x.name,V,.str x.data,.str x.Gi,.str x.sys,.bool x.Cq,I x.cont,I x.Ei]/\D1 x.A6 K/\I7 h V x.Az/\Up N V
def Vk.IA{x:EP}{r:List Aa}{t:Ah}{N:Nat}(hr:Vk h N x r):Vk (h++t) N x r:=let⟨K,V,e,h1,h2,b⟩:=hr;⟨K,V,e,h1,h2.IA,b⟩
def ť(w:PA h a n m ps A)(e:MZ A)(hx:A.has x)(ć:(A.nd x).A6.length<=1000000000):∃r t,BH cx 296 [Pt n (nP n x)] h (.agg r) (h++t)/\Vk (h++t) h.length (A.nd x) r:=by obtain⟨K,d,c⟩:=Ť (w.MK hx) ć;obtain⟨V,t,r2,b,f⟩:=tz (h:=h) (w.jq hx) (e.at_ x);refine⟨_,t,?_,K,V,rfl,c,b,f⟩;have hc:K.cells=[K]:=AU.cells c;have e0:=w.row hx;have g:(pN ps x).row=_:=rfl;have ex:=(w.pn hx).2.1;rw[Af,gC];rw[PN.row,ex] at e0;simp only[abS,e0,w.f2 hx,w.f6 hx,d.Ad,BK,r2.Ad,hc,b.cells]
def aFI(w:PA h a n m ps A)(b:MZ A)(ć:(A.nd x).A6.length<=1000000000):∃r t,BH cx 163 [Pt a 0,I x] h (.tuple [.agg r,I (if A.has x then 0 else 3)]) (h++t)/\Vk (h++t) h.length (A.nd x) r:=by
 by_cases hx:A.has x;.obtain⟨r,t,c,hr⟩:=ť w b hx ć;have FX:=hr;obtain⟨K,V,rfl,_⟩:=hr;refine⟨_,t,?_,FX⟩;rw[Af,VN];simp only[abS,↓reduceIte,AP,Hz,(TM (x:=x) w).Ad,Ae hx,BW,Cw,(IH w b hx).Ad,c.Ad]
 .refine⟨_,[],?_,.slnil,.slnil,by rw[HE hx],by rw[HE hx];exact .inr ⟨rfl,rfl⟩,by rw[HE hx];exact .inl ⟨rfl,rfl⟩,λ_ _ e=>nomatch e⟩;rw[Af,VN,BE];simp only[abS,↓reduceIte,AP,Hz,(TM (x:=x) w).Ad,Ac hx,BW,(AX:¬(3:Int)=0),Dp]
def Ŧ(w:PA h a n m ps A)(c:MZ A)(ć:(A.nd x).A6.length<=1000000000):∃v,BH cx 306 [Pt a 0,I x] h v h/\D1 (A.nd x).A6 v:=by
 by_cases hx:A.has x;.obtain⟨K,b,d⟩:=Ť (w.MK hx) ć;refine⟨K,?_,d⟩;rw[Af,VZ];simp only[abS,(Vj (x:=x) w).Ad,AA hx,(IH w c hx).Ad,w.f2 hx,b.Ad]
 .refine⟨.slnil,?_,by rw[HE hx];exact .inr ⟨rfl,rfl⟩⟩;rw[Af,VZ];simp only[abS,(Vj (x:=x) w).Ad,Ay hx]
def aFJ(w:PA h a n m ps A)(b:MZ A):BH cx 402 [Pt a 0,I x] h (I (A.nd x).FL) h:=by
 by_cases hx:A.has x;.rw[Af,V6];simp only[abS,(Vj (x:=x) w).Ad,AA hx,(IH w b hx).Ad,w.f1 hx]
 .rw[Af,V6,HE hx];simp only[abS,(Vj (x:=x) w).Ad,Ay hx]
def aKP(w:PA h a n m ps A):BH cx 148 [Pt a 0] h (I A.len) h:=by have b:AE (.len false) [.CE n 0 ps.length 13]=some (I (ps.length:Int)):=rfl;rw[Af,W_];simp only[abS,w.nodes,b,w.len]
def nM(w:PA h a n m ps A)(b:MZ A):BH cx 234 [Pt a 0,I x] h (I (if A.has x then(if(A.nd x).kind=1 then 0 else 9) else 3)) h:=by
 rw[Af,fX];by_cases hx:A.has x
 .simp only[abS,Hz,(TM (x:=x) w).Ad,Ae hx,BW,Cw,(IH w b hx).Ad,w.f0 hx];by_cases hk:(A.nd x).kind=1;.simp only[hk,abS,Cw]
  .simp only[hk,abS]
 .simp only[abS,Hz,(TM (x:=x) w).Ad,Ac hx,BW,(AX:¬(3:Int)=0)]
def t_{l:List PN}:(l.map PN.row).flatten.length=l.length*13:=by rw[FO (nL l),Ak]
def nN{p:PN}{n':Nat}(hk:HL p.kv=none):Ga a n' m (ps++[p])=a::n'::(m.toList++ps.filterMap λp=>HL p.kv):=by unfold Ga;rw[EI];simp[hk]
def ua{x:EP}(hl:A.i.length=A.n.length):(A.add x).inr=A.inr:=by funext k;exact VH hl
def ub(w:PA h a n m ps A)(hb:ps.length+1<=1000000000)(p:PN)(hk:p.kv= .slnil)(yi:p.x.A6=[]):
  ∃h',BH cx 158 [Pt a 0,.agg p.row] h (I (A.len+1)) h'/\PA h' a h.length m (ps++[p]) (A.add p.x)/\(∀i,i<h.length->i≠a->i≠n->h'[i]?=h[i]?)/\h'.length=h.length+1:=by
 have Vx:a<h.length:=w.lt a (by simp[Ga]);have OH:n<h.length:=w.lt n (by simp[Ga]);have Ĉ:a≠n:=by have:=w.nd;simp[Ga] at this;exact this.1.1
 have d:=JM (h:=h) (id:=n) (AD:=ps.map PN.row) (r2:=[p.row]) (v:= .sl 13 [p.row]) (b:=168) (nL ps) AX w.hn .mk AH (by rw[Ak];have:AM=140737488355328:=rfl;simp;omega);rw[Ak] at d;simp only[Bi] at d;have OV:(h.set n .CO++[Dw.cells (ps.map PN.row++[p.row]).flatten])[a]?=some (.cells [.CE n 0 ps.length 13,.map m]):=by rw[Aj (by simpa using Vx),Ap (DG Ĉ)];exact w.ha
 have es:Cx (h.set n .CO++[Dw.cells (ps.map PN.row++[p.row]).flatten]) 1 (Pt a 0) (.CE h.length 0 (ps.length+1) 13)=some ((h.set n .CO++[Dw.cells (ps.map PN.row++[p.row]).flatten]).set a (.cells [.CE h.length 0 (ps.length+1) 13,.map m])):=by simp only[Cx,OV];rfl
 have k:Bd ((h.set n .CO++[Dw.cells (ps.map PN.row++[p.row]).flatten]).set a (.cells [.CE h.length 0 (ps.length+1) 13,.map m])) none (Pt a 0)=some (.CE h.length 0 (ps.length+1) 13):=by simp only[Bd];rw[AS Ee];rfl
 have l:AE (.len false) [.CE h.length 0 (ps.length+1) 13]=some (I ((ps.length+1:Nat):Int)):=rfl;have em:AE (.Dh 13) [.agg p.row]=some (.sl 13 [p.row]):=Mk (a:= .agg p.row) rfl AX;refine⟨(h.set n .CO++[Dw.cells (ps.map PN.row++[p.row]).flatten]).set a (.cells [.CE h.length 0 (ps.length+1) 13,.map m]),?_,?_,?_,?_⟩;rotate_left
 .refine⟨by simp[Ar.add,w.e],by simp[Ar.add,w.il],?_,?_,?_,?_,?_⟩;.rw[AS Ee];simp
  .rw[Ap Ab,Bl AH];simp
  .intro q hq;rcases Ax.1 hq with hq|hq
   .refine(w.ks q hq).Df λid Ij=>?_;have h1:id∈Ga a n m ps:=Lp hq Ij;have h2:=w.lt id h1;have c:=w.nd;have j:id∈m.toList++ps.filterMap λp=>HL p.kv:=Ax.2 (.inr (Ci.2 ⟨q,hq,Ij⟩));unfold Ga at c;simp only[B5,AT,Nh] at c;have g:a≠id:=λe=>c.1.2 (e▸j);have f:n≠id:=λe=>c.2.1 (e▸j);rw[Ap g,Aj (by simpa using h2),Ap f]
   .simp at hq;subst hq;exact .inl ⟨hk,yi⟩
  .rw[nN (by rw[hk];rfl)];have c:=w.nd;unfold Ga at c;simp only[B5,AT,Nh] at c⊢;refine⟨⟨Ab,c.1.2⟩,λhm=>?_,c.2.2⟩;have:=w.lt h.length (by unfold Ga;simp only[AT];exact .inr (.inr hm));omega
  .rw[ua w.il];refine w.mp.Df λid Ij=>?_;have h1:id∈m.toList++ps.filterMap λp=>HL p.kv:=by simp[Ij]
   have h2:=w.lt id (by unfold Ga;simp only[AT];exact .inr (.inr h1));have c:=w.nd;unfold Ga at c;simp only[B5,AT,Nh] at c;have g:a≠id:=λe=>c.1.2 (e▸h1);have f:n≠id:=λe=>c.2.1 (e▸h1);rw[Ap g,Aj (by simpa using h2),Ap f]
 .intro i hi h1 h2;rw[Ap (DG h1),Aj (by simpa using hi),Ap (DG h2)]
 .simp
 .have hl:A.len+1=((ps.length+1:Nat):Int):=by rw[<-w.len];rfl
  rw[PN.row] at em d es k;rw[Af,VM,hl,PN.row];simp only[abS,Nat.reduceLeDiff,↓reduceIte,AP,w.nodes,em,d,es,k,l]
def NN{AD:List (List Aa)}{z i k:Nat}(hr:∀r∈AD,r.length=z)(hi:i<AD.length)(hk:k<z){v:Aa}:AD.flatten.take (i*z+k)++[v]++AD.flatten.drop (i*z+k+1)=(AD.set i (AD[i].set k v)).flatten:=by
 have hl:=hr _ (AL hi);rw[<-mH hr hi];have b:AD.flatten.drop (i*z)=AD[i]++AD.flatten.drop (i*z+z):=by
  have e:i*z+z=(i+1)*z:=by rw[BG,D4]
  rw[e,IY hr,IY hr,AF hi,CT]
 have d:AD.flatten.take (i*z+k)=AD.flatten.take (i*z)++AD[i].take k:=by rw[Ĳ,b,CI Ab]
 have c:AD.flatten.drop (i*z+k+1)=AD[i].drop (k+1)++AD.flatten.drop (i*z+z):=by rw[RD,<-Eg,b,Jg Ab]
 rw[d,c,BY,Ae Ab];simp
def PA.sto(w:PA h a n m ps A)(hx:A.has x){k:Nat}(hk:k<13){v:Aa}(hv:v.cells=[v]){p:PN}(hp:p.row=(pN ps x).row.set k v){h1:Ah}(hn:h1[n]?=h[n]?):
  Cx h1 1 (Pt n (nP n x+k)) v=some (h1.set n (.cells ((ps.set (x.toNat-1) p).map PN.row).flatten)):=by
 have hlt:=(w.at hx).1;have hg:=(w.pn hx).1;rw[Ai hlt,Bz] at hg;have e:=NN (AD:=ps.map PN.row) (i:=x.toNat-1) (k:=k) (v:=v) (nL ps) (by simpa using hlt) hk;rw[CU,hg,<-hp,<-Ek] at e;unfold nP;simp only[Cx,hn,w.hn,hv,Bi,MD];rw[Ae (by rw[FO (nL ps),Ak];omega),e]
def Yg(w:PA h a n m ps A)(hx:A.has x)(p:PN):ps=ps.take (x.toNat-1)++pN ps x::ps.drop (x.toNat-1+1)/\ps.set (x.toNat-1) p=ps.take (x.toNat-1)++p::ps.drop (x.toNat-1+1):=by have hlt:=(w.at hx).1;have hg:=(w.pn hx).1;rw[Ai hlt,Bz] at hg;refine⟨?_,by rw[BY,Ae hlt]⟩;conv=>lhs;rw[<-CF (x.toNat-1) ps,AF hlt,hg]
def uc{y:EP}:(A.set x y).inr=A.inr:=by funext k;exact Sw
def PA.jf(w:PA h a n m ps A)(hx:A.has x){p:PN}{h1:Ah}(ho:∀i∈Ga a n m ps,HL (pN ps x).kv≠some i->h1[i]?=h[i]?)(hk:Kn h1 p.kv p.x.A6)
  (hi:HL p.kv=HL (pN ps x).kv\/∀j,HL p.kv=some j->h.length<=j):PA (h1.set n (.cells ((ps.set (x.toNat-1) p).map PN.row).flatten)) a n m (ps.set (x.toNat-1) p) (A.set x p.x):=by
 have hlt:=(w.at hx).1;have ĉ:=(w.pn hx).2.2;obtain⟨y,z⟩:=Yg w hx p;have nd:=w.nd;have f:∀j,HL (pN ps x).kv=some j->j∈m.toList++ps.filterMap λp=>HL p.kv:=λj hj=>Ax.2 (.inr (Ci.2 ⟨_,ĉ,hj⟩));have jF:=nd;unfold Ga at jF;simp only[B5,AT,Nh] at jF;have Ĉ:a≠n:=jF.1.1;have g:HL (pN ps x).kv≠some a:=λe=>jF.1.2 (f a e);have Ţ:HL (pN ps x).kv≠some n:=λe=>jF.2.1 (f n e);have OH:n<h.length:=w.lt n (by simp[Ga]);have u:h1[n]?=h[n]?:=ho n (by simp[Ga]) Ţ;have v:n<h1.length:=by have:=w.hn;rw[<-u] at this;exact(Al.1 this).1
 have r:∀j,HL p.kv=some j->j≠n/\j≠a:=by
  intro j hj;rcases hi with hi|hi
  .rw[hi] at hj;exact⟨λe=>Ţ (e▸hj),λe=>g (e▸hj)⟩
  .have:=hi j hj;have:=w.lt a (by simp[Ga]);omega
 refine⟨?_,?_,?_,?_,?_,?_,?_⟩;.simp only[Ar.set,Ae hx];rw[w.e,Ek]
 .rw[Ju];exact w.il
 .rw[Ap (DG Ĉ),ho a (by simp[Ga]) g,Bn];exact w.ha
 .rw[AS v]
 .intro q hq;by_cases c:q=p;.rw[c];exact hk.Df λid Ij=>by rw[Ap (DG (r id Ij).1)]
  .rw[z] at hq;have d:q∈ps.take (x.toNat-1)++ps.drop (x.toNat-1+1):=by
    rcases Ax.1 hq with b|b
    .exact Ax.2 (.inl b)
    .exact Ax.2 (.inr ((AT.1 b).resolve_left c))
   have ot:q∈ps:=by
    rcases Ax.1 d with b|b
    .exact Bm b
    .exact BB b
   refine(w.ks q ot).Df λj hj=>?_;have l:j∈Ga a n m ps:=Lp ot hj;have t:j≠n:=λe=>jF.2.1 (e▸Ax.2 (.inr (Ci.2 ⟨q,ot,hj⟩)));have Vl:HL (pN ps x).kv≠some j:=by
    intro s;have o:=(B2.1 jF.2.2).2.1;rw[y,EI,Ir,s] at o;simp only[B2,B5,AT,Ci] at o;rcases Ax.1 d with b|b
    .exact o.2.2 j ⟨q,b,hj⟩ j (.inl rfl) rfl
    .exact o.2.1.1 ⟨q,b,hj⟩
   rw[Ap (DG t),ho j l Vl]
 .have fr:∀j,HL p.kv=some j->HL (pN ps x).kv=some j\/j∉Ga a n m ps:=by
   intro j hj;rcases hi with hi|hi
   .exact .inl (hi▸hj)
   .exact .inr λhm=>by have:=hi j hj;have:=w.lt j hm;omega
  have h1:=nd;unfold Ga at h1 fr⊢;rw[y,EI,Ir] at h1;rw[y,EI,Ir] at fr;rw[z,EI,Ir];generalize List.filterMap (λp=>HL p.kv) (ps.take (x.toNat-1))=T at h1 fr⊢;generalize List.filterMap (λp=>HL p.kv) (ps.drop (x.toNat-1+1))=D at h1 fr⊢;cases hp:HL p.kv with
  |none=>
   cases ho:HL (pN ps x).kv with
   |none=>rw[ho] at h1;exact h1
   |some k=>rw[ho] at h1;refine h1.sublist ?_;simp
  |some j=>
   have:=fr j hp;cases ho:HL (pN ps x).kv with
   |none=>rw[ho] at h1 this;simp only[B5,B2,AT,Ax] at h1 this⊢;grind
   |some k=>rw[ho] at h1 this;simp only[B5,B2,AT,Ax] at h1 this⊢;grind
 .rw[uc];refine w.mp.Df λid Ij=>?_;have l:id∈m.toList++ps.filterMap λp=>HL p.kv:=by simp[Ij]
  have t:n≠id:=λe=>jF.2.1 (e▸l);have Vl:HL (pN ps x).kv≠some id:=by intro cN;exact(B2.1 jF.2.2).2.2 id (by simp[Ij]) id (Ci.2 ⟨_,ĉ,cN⟩) rfl
  rw[Ap t,ho id (by unfold Ga;simp only[AT];exact .inr (.inr l)) Vl]
end
end Go.Am
end
