/- Lemmas -/
import Derived.Test.YtkaolmlpcamojaaGreatDoorC20
import Derived.Test.YtkaolmlpcamojaaGreatDoorC21
import Derived.Test.YtkaolmlpcamojaaGreatDoorC22
import Derived.Test.YtkaolmlpcamojaaGreatDoorC23
import Derived.Test.YtkaolmlpcamojaaGreatDoorC18
set_option linter.all false
set_option maxHeartbeats 0
set_option maxRecDepth 100000
section
namespace Go.Am
open Go
abbrev oW:=List Aa->Option IT
def aDl(g:IT):oW:=λl=>match l with
 |[]=>some (g)
 |_=>none
def aDm(g:Aa->IT):oW:=λl=>match l with
 |[a0]=>some (g a0)
 |_=>none
def aDn(g:Aa->Aa->IT):oW:=λl=>match l with
 |[a0,a1]=>some (g a0 a1)
 |_=>none
def aDo(g:Aa->Aa->Aa->IT):oW:=λl=>match l with
 |[a0,a1,a2]=>some (g a0 a1 a2)
 |_=>none
def aDp(g:Aa->Aa->Aa->Aa->IT):oW:=λl=>match l with
 |[a0,a1,a2,a3]=>some (g a0 a1 a2 a3)
 |_=>none
def aDq(g:Aa->Aa->Aa->Aa->Aa->IT):oW:=λl=>match l with
 |[a0,a1,a2,a3,a4]=>some (g a0 a1 a2 a3 a4)
 |_=>none
def YD(f:Nat)(g:oW):Prop:=∀l t,g l=some t->t=B9 cx f l
def Ug{f:Nat}{g:IT}(h:B9 cx f []=g):YD f (aDl g):=by
 intro l t ht;unfold aDl at ht;split at ht;.cases ht;exact(h).symm
 .cases ht
def BP{f:Nat}{g:Aa->IT}(h:∀a0,B9 cx f [a0]=g a0):YD f (aDm g):=by
 intro l t ht;unfold aDm at ht;split at ht;.cases ht;exact(h _).symm
 .cases ht
def BE{f:Nat}{g:Aa->Aa->IT}(h:∀a0 a1,B9 cx f [a0,a1]=g a0 a1):YD f (aDn g):=by
 intro l t ht;unfold aDn at ht;split at ht;.cases ht;exact(h _ _).symm
 .cases ht
def EG{f:Nat}{g:Aa->Aa->Aa->IT}(h:∀a0 a1 a2,B9 cx f [a0,a1,a2]=g a0 a1 a2):YD f (aDo g):=by
 intro l t ht;unfold aDo at ht;split at ht;.cases ht;exact(h _ _ _).symm
 .cases ht
def YE{f:Nat}{g:Aa->Aa->Aa->Aa->IT}(h:∀a0 a1 a2 a3,B9 cx f [a0,a1,a2,a3]=g a0 a1 a2 a3):YD f (aDp g):=by
 intro l t ht;unfold aDp at ht;split at ht;.cases ht;exact(h _ _ _ _).symm
 .cases ht
def wk{f:Nat}{g:Aa->Aa->Aa->Aa->Aa->IT}(h:∀a0 a1 a2 a3 a4,B9 cx f [a0,a1,a2,a3,a4]=g a0 a1 a2 a3 a4):YD f (aDq g):=by
 intro l t ht;unfold aDq at ht;split at ht;.cases ht;exact(h _ _ _ _ _).symm
 .cases ht
def tb0{f:Nat}{g:IT}(h:B9 cx f []=g):Nat×oW:=(f,aDl g)
def GL{f:Nat}{g:Aa->IT}(h:∀a0,B9 cx f [a0]=g a0):Nat×oW:=(f,aDm g)
def FX{f:Nat}{g:Aa->Aa->IT}(h:∀a0 a1,B9 cx f [a0,a1]=g a0 a1):Nat×oW:=(f,aDn g)
def Sa{f:Nat}{g:Aa->Aa->Aa->IT}(h:∀a0 a1 a2,B9 cx f [a0,a1,a2]=g a0 a1 a2):Nat×oW:=(f,aDo g)
def tb4{f:Nat}{g:Aa->Aa->Aa->Aa->IT}(h:∀a0 a1 a2 a3,B9 cx f [a0,a1,a2,a3]=g a0 a1 a2 a3):Nat×oW:=(f,aDp g)
def tb5{f:Nat}{g:Aa->Aa->Aa->Aa->Aa->IT}(h:∀a0 a1 a2 a3 a4,B9 cx f [a0,a1,a2,a3,a4]=g a0 a1 a2 a3 a4):Nat×oW:=(f,aDq g)
def aAS:List (Nat×oW):=[GL u_,FX vd,GL ve,GL vf,GL vg,GL uJ,FX vj,FX vn,FX vo,FX vp,FX Ip,FX vq,FX vr,FX Yy,FX vt,FX vu,tb0 vy,FX vz,GL v_,FX uK,tb0 uL,FX eW,FX uM,FX uN,Sa uO,FX uP,FX Uf,Sa eY,Sa uQ,GL eZ,GL uR,FX uS,FX fA,GL uT,Sa fB,GL Yz,GL uU,GL uV,GL YA,GL uW,FX uX,tb4 fC,FX fE,tb0 yZ,GL fF,Sa zA,FX fG,tb5 zB,tb4 L4,GL zC,FX fH,FX fI,GL fJ,FX fK,FX fL,GL QF,Sa zD,GL zE,tb0 zF,tb0 fM,FX zG,GL fN,GL zH,GL fP,GL Wp,FX Wq,FX Ws,tb4 QG,FX fQ,Sa fR,FX fS,FX Wt,tb4 Wu,FX fV,FX Wv,FX fW,FX fX,FX fY,Sa fZ,Sa gA,Sa gB,Sa gC,FX gD,FX gE,GL S6,GL gF,GL gG,FX gH,FX Ww,FX gI,GL gJ,FX gK,FX M8,Sa gL,FX Wx,FX gM,Sa gN,FX gO,GL gP,Sa gQ,GL gR,GL gS,Sa gT,GL gU,FX gV,FX gW,FX gX,GL gY,tb5 Wy,FX Wz,GL WA,FX gZ,Sa hC,FX hZ,FX WB,FX iA,FX zN,FX zO,FX WC,FX WD,Sa iB,GL iC,GL iD,GL zP,GL zQ,GL zR,GL zS,GL zT,GL Lf,GL zU,GL zV,GL zW,GL zX,GL zY,GL zZ,GL aa,GL ae,GL af,GL ag,GL ah,GL aj,GL ak,GL ao,GL WE,GL WG,GL iE,GL WH,GL WI,GL M9,GL QI,GL iF,GL iG,FX iH,FX WJ,FX iI,Sa iJ,FX S7,GL iK,FX iL,FX iM,FX iN,GL iO,GL iP,FX WK,Sa iQ,FX iR,FX iS,GL iT,FX iU,FX iV,FX iW,FX iX,FX iY,Sa iZ,Sa i5,FX i6,tb4 i7,Sa jA,Sa jB,tb0 jC,FX jD,GL jE,FX jF,GL jG,GL jH,GL jI,FX jJ,GL jK,GL jL,FX S8,GL WL,FX S9,Sa jM,GL jN,FX ax,GL jO,FX jP,FX jQ,GL ay,GL jR,FX jS,Sa jT,FX az,GL a_,FX bb,FX bc,GL WM,FX jU,FX jV,FX jW,FX jX,FX jY,FX WN,GL Ta,Sa jZ,Sa j0,FX j1,Sa WO,Sa WQ,FX j2,GL j3,FX j6,Sa WR,GL j7,FX j8,GL j9,GL kC,FX kD,GL kE,FX bd,GL YB,GL OI,GL YC]
def wm:List (Nat×oW)->Prop
 |[]=>True
 |(f,g)::l=>YD f g/\wm l
def wq:wm aAS:=
 ⟨BP u_,BE vd,BP ve,BP vf,BP vg,BP uJ,BE vj,BE vn,BE vo,BE vp,BE Ip,BE vq,BE vr,BE Yy,BE vt,BE vu,Ug vy,BE vz,BP v_,BE uK,Ug uL,BE eW,BE uM,BE uN,EG uO,BE uP,BE Uf,EG eY,EG uQ,BP eZ,BP uR,BE uS,BE fA,BP uT,EG fB,BP Yz,BP uU,BP uV,BP YA,BP uW,BE uX,YE fC,BE fE,Ug yZ,BP fF,EG zA,BE fG,wk zB,YE L4,BP zC,BE fH,BE fI,BP fJ,BE fK,BE fL,BP QF,EG zD,BP zE,Ug zF,Ug fM,BE zG,BP fN,BP zH,BP fP,BP Wp,BE Wq,BE Ws,YE QG,BE fQ,EG fR,BE fS,BE Wt,YE Wu,BE fV,BE Wv,BE fW,BE fX,BE fY,EG fZ,EG gA,EG gB,EG gC,BE gD,BE gE,BP S6,BP gF,BP gG,BE gH,BE Ww,BE gI,BP gJ,BE gK,BE M8,EG gL,BE Wx,BE gM,EG gN,BE gO,BP gP,EG gQ,BP gR,BP gS,EG gT,BP gU,BE gV,BE gW,BE gX,BP gY,wk Wy,BE Wz,BP WA,BE gZ,EG hC,BE hZ,BE WB,BE iA,BE zN,BE zO,BE WC,BE WD,EG iB,BP iC,BP iD,BP zP,BP zQ,BP zR,BP zS,BP zT,BP Lf,BP zU,BP zV,BP zW,BP zX,BP zY,BP zZ,BP aa,BP ae,BP af,BP ag,BP ah,BP aj,BP ak,BP ao,BP WE,BP WG,BP iE,BP WH,BP WI,BP M9,BP QI,BP iF,BP iG,BE iH,BE WJ,BE iI,EG iJ,BE S7,BP iK,BE iL,BE iM,BE iN,BP iO,BP iP,BE WK,EG iQ,BE iR,BE iS,BP iT,BE iU,BE iV,BE iW,BE iX,BE iY,EG iZ,EG i5,BE i6,YE i7,EG jA,EG jB,Ug jC,BE jD,BP jE,BE jF,BP jG,BP jH,BP jI,BE jJ,BP jK,BP jL,BE S8,BP WL,BE S9,EG jM,BP jN,BE ax,BP jO,BE jP,BE jQ,BP ay,BP jR,BE jS,EG jT,BE az,BP a_,BE bb,BE bc,BP WM,BE jU,BE jV,BE jW,BE jX,BE jY,BE WN,BP Ta,EG jZ,EG j0,BE j1,EG WO,EG WQ,BE j2,BP j3,BE j6,EG WR,BP j7,BE j8,BP j9,BP kC,BE kD,BP kE,BE bd,BP YB,BP OI,BP YC,trivial⟩
def ŉ(f:Nat):List (Nat×oW)->List Aa->Option IT
 |[],_=>none
 |(k,g)::l,args=>if Nat.beq k f then g args else ŉ f l args
def be{f:Nat}{args:List Aa}{t:IT}:∀{l:List (Nat×oW)},wm l->ŉ f l args=some t->t=B9 cx f args
 |[],_,h=>by cases h
 |(k,g)::l,ha,h=>by
  simp only[ŉ] at h;split at h;.rename_i hk;have hk:k=f:=Nh hk;subst hk;exact ha.1 _ _ h
  .exact be ha.2 h
noncomputable def tab(f:FuncId)(args:List Aa):IT:=match ŉ f aAS args with
 |some t=>t
 |none=>B9 cx f args
def RR:tab=B9 cx:=by
 funext f args;unfold tab;split;.rename_i t h;exact be wq h
 .rfl
def YF:Option Ka->Bool
 |some (.ret,[.bool true],_)=>true
 |_=>false
def ZM{r:Option Ka}(h:YF r=true):∃h',r=some (.ret,[.bool true],h'):=by
 unfold YF at h;split at h;.exact⟨_,rfl⟩
 .cases h
end Go.Am
end
section
namespace Go.Am
open Go
section
def aLM(s:Ai):JM cx 325 [.str s] (.bool (decide (s∈Gx))):=by rw[L0,iT];rw[show aGG (.str s)=sw s (.ret .ret [tt]) (.ret .ret [ff]) Gx from rfl,t_];exact⟨λh=>by simp[h],λh=>by simp[h]⟩
section
variable{Q:HG}{h:Ah}{k:Aa->IT}{s:Ai}
@[simp] theorem wv:W cx (.B7 325 [.str s] k) Q h↔W cx (k (.bool (decide (s∈Gx)))) Q h:=(aLM s).B7 rfl rfl
end
def aLN(s:Ai):JM cx 342 [.str s] (.bool (decide (s∈J1\/s∈Gx))):=by rw[L0,jH];rw[show aGH (.str s)=sw s (.ret .ret [tt]) (.B7 325 [.str s] λv=> .ret .ret [v]) J1 from rfl,t_];exact⟨λh=>by simp[h],λh=>by simp[h]⟩
def aLO(n:Int)(s:Ai):JM cx 329 [I n,.str s] (.bool (decide (n=3/\s∈KQ))):=by
 rw[L0,iX];by_cases h:n=3;.simp[h,KQ];by_cases h1:s=[109,105]<;>by_cases h2:s=[109,110]<;>by_cases b:s=[109,111]<;>by_cases a:s=[109,115]<;>simp[h1,h2,b,a]
 .simp[h]
section
variable{Q:HG}{h:Ah}{k:Aa->IT}{s:Ai}{n:Int}
@[simp] theorem wz:W cx (.B7 342 [.str s] k) Q h↔W cx (k (.bool (decide (s∈J1\/s∈Gx)))) Q h:=(aLN s).B7 rfl rfl
@[simp] theorem aGM:W cx (.B7 329 [I n,.str s] k) Q h↔W cx (k (.bool (decide (n=3/\s∈KQ)))) Q h:=(aLO n s).B7 rfl rfl
end
def aGN(n:Int)(s:Ai):JM cx 186 [I n,.str s] (.bool (Ew n s)):=by
 rw[L0,gI];rw[show aGC (I n) (.str s)= .op (.int .eql) [I n,I 3] λv=> .Gg v (.op (.str .eql) [.str s,S aUn] λv=> .Gg v (.ret .ret [tt]) (.B7 329 [I n,.str s] λv=> .ret .ret [v]))
  (.op (.int .eql) [I n,I 2] λv=> .Gg v (sw s (.ret .ret [tt]) (.op (.str .eql) [.str s,S aUz] λv=> .ret .ret [v]) [aVn,aUG])
  (.op (.int .eql) [I n,I 1] λv=> .Gg v (sw s (.ret .ret [tt]) (.ret .ret [ff]) NS) (.ret .ret [ff]))) from rfl]
 by_cases a:n=3;.by_cases h:s=aUn<;>simp[a,Ew,h]
 .by_cases h2:n=2;.by_cases ha:s=aVn<;>by_cases hb:s=aUG<;>simp[h2,t_,Ew,Qv,ha,hb]
  .by_cases h1:n=1;.by_cases h:s∈NS<;>simp[h1,t_,Ew,h]
   .simp[a,h2,h1,Ew]
section
variable{Q:HG}{h:Ah}{k:Aa->IT}{s:Ai}{n:Int}
@[simp] theorem YG:W cx (.B7 186 [I n,.str s] k) Q h↔W cx (k (.bool (Ew n s))) Q h:=(aGN n s).B7 rfl rfl
end
end
section
def f277(s:Ai)(c:UInt8)(hs:s.length<9223372036854775807):JM cx 285 [.str s,.int .u8 (c.toNat:Int)] (.bool (decide (c∈s))):=by
 rw[L0,ħ];refine Bi (λn:Nat=>[.bool false,I (n:Int)]) (λn _=>n<=s.length/\c∉s.take n) (λn=>s.length-n) 0 rfl ⟨AV _,AH⟩ ?_;rintro n h ⟨hn,hc⟩;rcases AP n s.length with hlt|Eg
 .simp only[BD,Fw hlt,BM (Ab:n<9223372036854775807)];refine⟨λ_=>⟨λhe=>?_,λhe=>?_⟩,λh=>absurd (Int.ofNat_lt.2 hlt) h⟩
  .have e:s[n]=c:=by rw[<-Vt];exact aAf he
   simp only[As (show c∈s from e▸AL hlt)]
  .refine AK.next (n+1) rfl ⟨hlt,?_⟩ Ab;rw[AB hlt,Ax,MN];refine⟨hc,λh=>he ?_⟩;rw[BG] at h;rw[<-h]
 .simp only[BD];refine⟨λh=>absurd (Int.ofNat_lt.1 h) Ab,λ_=>?_⟩;rw[AF Eg] at hc;simp[hc]
def aGO(l s:Ai)(hl:l.length<9223372036854775806)(hs:s.length<9223372036854775807):JM cx 139 [.str l,.str s] (.bool (F0 l s)):=by
 rw[L0,Ā];have aLP:JM cx 285 [.str s,.int .u8 32] (.bool (decide ((32:UInt8)∈s))):=f277 s 32 hs;simp only[BD,aLP.B7 rfl rfl];refine⟨λh=>by simp[F0,h],λh0=>⟨λh=>by simp[F0,h],λh1=>?_⟩⟩;refine Bi (λp:Nat×Nat=>[.bool false,I (p.1:Int),I (p.2:Int)])
  (λp _=>(p.1<=p.2/\p.2<=l.length/\(s∈Du [] l↔s∈Du ((l.take p.2).drop p.1) (l.drop p.2)))\/(p.2=l.length+1/\s∉Du [] l)) (λp=>l.length+1 -p.2) (0,0) rfl (.inl ⟨Ag _,AV _,AH⟩) ?_
 rintro⟨a,n⟩ h aDr;rcases aDr with⟨Zl,hn,YH⟩|⟨hn,Zi⟩
 .simp only at Zl hn YH;have i1:(n:Int)<=(l.length:Int):=Ab;rcases AP n l.length with hlt|Eg
  .have b:¬(n:Int)=(l.length:Int):=by omega
   simp only[BD,i1,b,AA,Az,forall_const,Aq,Fw hlt,BM (Ab:n<9223372036854775807),Mo Zl hn];rw[AG hlt,PT] at YH;refine⟨λhe=>?_,λhe=>?_⟩
   .have e:l[n]=32:=by rw[<-Vt];exact aAf he
    rw[Af e,AS] at YH;refine⟨λhw=>?_,λhw=>?_⟩;.have:s∈Du [] l:=YH.2 (.inl hw.symm);simp[F0,h0,h1,this]
    .refine AK.next (n+1,n+1) rfl (.inl ⟨Ag _,hlt,?_⟩) Dx;rw[YH,O6];exact⟨λh=>h.resolve_left (λh=>hw h.symm),.inr⟩
   .have e:¬l[n]=32:=λe=>he (by rw[e];rfl);rw[Ad e] at YH;refine AK.next (a,n+1) rfl (.inl ⟨Dx,hlt,?_⟩) Dx;rw[YH,X5 Zl hlt]
  .have e:n=l.length:=by omega
   subst e;simp only[BD,GB,AA,Aq,Av,Mo Zl hn,BM (Ab:l.length<9223372036854775807)];rw[AW (Ag _),Re] at YH;rw[BG] at YH;refine⟨λhw=>?_,λhw=>?_⟩;.have:s∈Du [] l:=YH.2 hw.symm;simp[F0,h0,h1,this]
   .exact AK.next (l.length+1,l.length+1) rfl (.inr ⟨rfl,λh=>hw (YH.1 h).symm⟩) Dx
 .simp only at hn;subst hn;have i1:¬((l.length+1:Nat):Int)<=(l.length:Int):=Ab;simp only[BD,i1,Az,Aq,Av];simp[F0,Zi]
end
section
def IL{Q:HG}{h:Ah}{k:Aa->IT}{l s:Ai}(hl:l.length<9223372036854775806)(hs:s.length<9223372036854775807):W cx (.B7 139 [.str l,.str s] k) Q h↔W cx (k (.bool (F0 l s))) Q h:=(aGO l s hl hs).B7 rfl rfl
section
variable{Q:HG}{h:Ah}{k:Aa->IT}{s:Ai}
def u9(hs:s.length<9223372036854775807):W cx (.B7 139 [.str aUb,.str s] k) Q h↔W cx (k (.bool (decide (s∈NS)))) Q h:=by rw[IL C4 hs,tL]
def kF(hs:s.length<9223372036854775807):W cx (.B7 139 [.str aUJ,.str s] k) Q h↔W cx (k (.bool (decide (s∈KQ)))) Q h:=by rw[IL C4 hs,eD]
def Vg(hs:s.length<9223372036854775807):W cx (.B7 139 [.str aUt,.str s] k) Q h↔W cx (k (.bool (decide (s∈Qv)))) Q h:=by rw[IL C4 hs,nS]
def YI(hs:s.length<9223372036854775807):W cx (.B7 139 [.str aUk,.str s] k) Q h↔W cx (k (.bool (decide (s∈Gx)))) Q h:=by rw[IL C4 hs,tM]
def oX(hs:s.length<9223372036854775807):W cx (.B7 139 [.str aUm,.str s] k) Q h↔W cx (k (.bool (decide (s∈J1)))) Q h:=by rw[IL C4 hs,nT]
def ke(hs:s.length<9223372036854775807):W cx (.B7 139 [.str aUF,.str s] k) Q h↔W cx (k (.bool (decide (s∈Oz)))) Q h:=by rw[IL C4 hs,jf]
def vA(hs:s.length<9223372036854775807):W cx (.B7 139 [.str aUA,.str s] k) Q h↔W cx (k (.bool (decide (s∈Mr)))) Q h:=by rw[IL C4 hs,tN]
def w_(hs:s.length<9223372036854775807):W cx (.B7 139 [.str aVq,.str s] k) Q h↔W cx (k (.bool (decide (s∈RK)))) Q h:=by rw[IL C4 hs,ua]
def kg(hs:s.length<9223372036854775807):W cx (.B7 139 [.str aUj,.str s] k) Q h↔W cx (k (.bool (decide (s∈Qw)))) Q h:=by rw[IL C4 hs,jg]
end
def aLQ(s:Ai)(hs:s.length<9223372036854775807):JM cx 350 [.str s] (.bool (decide (s∈Gx))):=by rw[L0,ĵ];simp only[BD,YI hs]
def aLR(s:Ai)(hs:s.length<9223372036854775807):JM cx 351 [.str s] (.bool (decide (s∈J1\/s∈Gx))):=by rw[L0,Ķ];simp only[BD,YI hs,oX hs];refine⟨λh=>by simp[h],λh=>by simp[h]⟩
def f169(n:Int)(s:Ai)(hs:s.length<9223372036854775807):JM cx 220 [I n,.str s] (.bool (Ew n s)):=by rw[L0,ė];simp only[BD,kF hs,u9 hs,Vg hs,Ew];refine⟨λh=>by simp[h],λh1=>⟨λh2=>⟨λa=>by simp[h2,a],λa=>by simp[h2,a]⟩,λh2=>⟨λa=>by simp[a],λa=>by simp[h1,h2,a]⟩⟩⟩
section
variable{Q:HG}{h:Ah}{k:Aa->IT}{s:Ai}{n:Int}
def xa(hs:s.length<9223372036854775807):W cx (.B7 350 [.str s] k) Q h↔W cx (k (.bool (decide (s∈Gx)))) Q h:=(aLQ s hs).B7 rfl rfl
def xb(hs:s.length<9223372036854775807):W cx (.B7 351 [.str s] k) Q h↔W cx (k (.bool (decide (s∈J1\/s∈Gx)))) Q h:=(aLR s hs).B7 rfl rfl
def oY(hs:s.length<9223372036854775807):W cx (.B7 220 [I n,.str s] k) Q h↔W cx (k (.bool (Ew n s))) Q h:=(f169 n s hs).B7 rfl rfl
end
end
section
def aLS(c:UInt8):JM cx 398 [.int .u8 (c.toNat:Int)] (.bool (decide (65<=c.toNat/\c.toNat<=90))):=by
 rw[L0,ń];simp only[BD];refine⟨λh=>?_,λh=>?_⟩
 .have e:65<=c.toNat:=by omega
  have a:((c.toNat:Int)<=90)=(c.toNat<=90):=by rw[eq_iff_iff];omega
  simp[e,a]
 .have e:¬65<=c.toNat:=by omega
  simp[e]
def aDs(s:Ai)(hs:s.length<=AX):JM cx 316 [.str s] (.str (Fo s)):=by
 have Wa:s.length<=140737488355328:=hs;rw[L0,Ĳ];refine Bi (λp:Nat×Aa=>[p.2,I (p.1:Int)]) (λp _=>p.1<=s.length/\AU 1 (Cf (Fo (s.take p.1))) p.2) (λp=>s.length-p.1) (0,.slnil) rfl ⟨AV _,.nil⟩ ?_;rintro⟨n,v⟩ h ⟨hn,hv⟩;simp only at hn hv;rcases AP n s.length with hlt|Eg
 .have i1:(n:Int)<(s.length:Int):=by omega
  have hb:((Cf (Fo (s.take n))).length+1)*1<=AX:=by rw[ZI];simp[Fo,AX];omega
  simp only[BD,i1,AA,Av,Aq,Fw hlt,(aLS _).B7 rfl rfl,BM (Ab:n<9223372036854775807)];refine⟨λhe=>?_,λhe=>?_⟩
  .simp only[BD,dW,wrap_u8 (Ab:0<=((s[n].toNat:Int)+32)/\((s[n].toNat:Int)+32)<=255),Mp (a:= .int .u8 ((s[n].toNat:Int)+32)) (z:=1) rfl AM,hv.tJ hb];refine AK.next (n+1,_) rfl ⟨hlt,?_⟩ Dx;rw[RL hlt,Rd];have e:Cf [I5 s[n]]=[[.int .u8 ((s[n].toNat:Int)+32)]]:=by simp[Cf,SL he]
   rw[e];exact .mk
  .simp only[BD,Mp (a:= .int .u8 (s[n].toNat:Int)) (z:=1) rfl AM,hv.tJ hb];refine AK.next (n+1,_) rfl ⟨hlt,?_⟩ Dx;rw[RL hlt,Rd,OA he];exact .mk
 .have i1:¬(n:Int)<(s.length:Int):=by omega
  have e:s.take n=s:=AF Eg;rw[e] at hv;simp only[BD,i1,Az,Av,Aq,hv.Pk,hv.WV]
def f300(a b:Int)(h:Ah):BL cx 361 [.int .i32 a,.int .i32 b] h (.func (.func 414) [] [.CH [.int .i32 a],.CH [.int .i32 b]]) h:=by rw[Ae,S9];simp only[BD]
def aLT(c a b:Int)(h:Ah):BL cx 414 [.int .i32 c,.CH [.int .i32 a],.CH [.int .i32 b]] h (.bool (decide (a<=c/\c<=b))) h:=by rw[Ae,WR];simp only[BD];refine⟨λh=>by simp[h],λh=>by simp[h]⟩
def aLU(c:Int):JM cx 417 [.int .i32 c] (.bool (decide (65<=c/\c<=90))):=by rw[L0,j7];simp only[BD,Nat.reduceLeDiff,↓reduceIte,(f300 _ _ _).Ac,Dp,(aLT _ _ _ _).Ac]
def aDt(s:Ai)(hs:s.length<=AX):JM cx 366 [.str s] (.str (Fo s)):=by
 have Wa:s.length<=140737488355328:=hs;rw[L0,jN,aGJ];have j:IW [] (.str s)=some ([.cells ((HO s 0).map O1)],.CF 0 0 s.length 1):=by simp only[IW,hs,BN];rfl
 have i:AD (.len false) [.CF 0 0 s.length 1]=some (I (s.length:Int)):=rfl;simp only[BD,j,i];refine Bi (λn:Nat=>[I (n:Int)]) (λn h=>n<=s.length/\h=[.cells ((HO s n).map O1)]) (λn=>s.length-n) 0 rfl ⟨AV _,rfl⟩ ?_;rintro n h ⟨hn,rfl⟩;rcases AP n s.length with hlt|Eg
 .have i1:(n:Int)<(s.length:Int):=by omega
  have g:AD (.Fl 1) [.CF 0 0 s.length 1,I (n:Int)]=some (Pt 0 n):=by simp[AD,elemOf,Me,hlt]
  have f:A8 [.cells ((HO s n).map O1)] none (Pt 0 n)=some (.int .u8 (s[n].toNat:Int)):=tO (by rw[Cm,X7 hlt];rfl);have e:IntKind.i32.wrap (s[n].toNat:Int)=(s[n].toNat:Int):=tw (by have:=s[n].toNat_lt;omega);simp only[BD,i1,AA,Av,Aq,g,f,Qt,e,(aLU _).B7 rfl rfl,BM (Ab:n<9223372036854775807)];refine⟨λhe=>?_,λhe=>?_⟩
  .have a:65<=s[n].toNat/\s[n].toNat<=90:=by omega
   have d:Cv [.cells ((HO s n).map O1)] 1 (Pt 0 n) (.int .u8 ((s[n].toNat:Int)-65+97))=some [.cells (((HO s n).map O1).set n (.int .u8 ((s[n].toNat:Int)-65+97)))]:=nV (by rw[An,X6];exact hlt) rfl;simp only[BD,tI,dW,wrap_u8 (Ab:0<=((s[n].toNat:Int)-65)/\((s[n].toNat:Int)-65)<=255),wrap_u8 (Ab:0<=((s[n].toNat:Int)-65+97)/\((s[n].toNat:Int)-65+97)<=255),d];refine AK.next (n+1) rfl ⟨hlt,?_⟩ Ab;rw[SM hlt,Eo];have c:O1 (I5 s[n])= .int .u8 ((s[n].toNat:Int)-65+97):=by unfold O1;rw[SL a];congr 1;omega
   rw[c]
  .have Zi:¬(65<=s[n].toNat/\s[n].toNat<=90):=by omega
   refine AK.next (n+1) rfl ⟨hlt,?_⟩ Ab;rw[SM hlt,OA Zi,ub (X7 hlt)]
 .have i1:¬(n:Int)<(s.length:Int):=by omega
  have en:n=s.length:=Ab;subst en;have b:KA [.cells ((HO s s.length).map O1)] (.CF 0 0 s.length 1)=some ([.CR],.sl 1 (Cf (Fo s))):=by
   have hl:(Fo s).length=s.length:=by simp[Fo]
   rw[nU];simp only[KA,IS];rw[Af (by simp[hl])];rw[PU (Fo s) s.length 0 Ab];simp
  simp only[BD,i1,Az,Av,Aq,b,AU.WV (s:=Fo s) .mk]
end
section
def Tb(l:Ai)(ws:List Ai):Prop:=Ev cx 410 [.str l] [] λr _=>r= .sl 1 (ws.map Cr)
def Rk{l:Ai}{ws:List Ai}(n:Nat)(hr:(IT.run tab n (tab 410 [.str l]) []).map (λx=>(x.1,x.2.1))=some (.ret,[.sl 1 (ws.map Cr)])):Tb l ws:=by obtain⟨⟨x,vs,h⟩,a,b⟩:=MP.1 hr;cases b;rw[RR] at a;exact⟨n,_,_,_,a,rfl,_,rfl,rfl⟩
def aGP{l:Ai}{ws:List Ai}(hf:Tb l ws)(hw:∀w∈ws,w.length<=AX)(hn:ws.length<9223372036854775807)(name:Ai):JM cx 344 [.str name,.str l] (.str (Cq name ws)):=by
 rw[L0,jJ];refine ph (hf.mono λr h1 e=>?_);subst e;have qT:AU 1 (ws.map Cr) (.sl 1 (ws.map Cr)):= .mk;simp only[BD,qT.len];refine Bi (λn:Nat=>[.str [],I (n:Int)]) (λn _=>n<=ws.length/\Cq name ws=Cq name (ws.drop n)) (λn=>ws.length-n) 0 rfl ⟨AV _,rfl⟩ ?_;rintro n h ⟨kh,ha⟩;rcases AP n ws.length with hlt|Eg
 .have i1:(n:Int)<((ws.map Cr).length:Int):=Ei;have Tc:n<(ws.map Cr).length:=by simpa using hlt
  have a:(ws.map Cr)[n]=[.str ws[n]]:=by simp[Cr]
  rw[AG hlt,Cq] at ha;simp only[BD,i1,AA,Av,Aq,qT.Fl Tc,a,(aDt ws[n] (hw _ (AL hlt))).B7 rfl rfl,BM (Ab:n<9223372036854775807)];refine⟨λhe=>?_,λhe=>?_⟩;.rw[ha,Af he]
  .rw[Ad he] at ha;exact AK.next (n+1) rfl ⟨hlt,ha⟩ Ab
 .have i1:¬(n:Int)<((ws.map Cr).length:Int):=Ei;rw[AW Eg,Cq] at ha;simp only[BD,i1,Az,Av,Aq,ha]
def aGQ(l name:Ai)(hl:l.length<=AX):JM cx 359 [.str l,.str name] (.str (Cq name (Du [] l))):=by
 have c:l.length<=140737488355328:=hl;rw[L0,Ľ];refine Bi (λp:Nat×Nat=>[.str [],I (p.1:Int),I (p.2:Int)])
  (λp _=>(p.1<=p.2/\p.2<=l.length/\Cq name (Du [] l)=Cq name (Du ((l.take p.2).drop p.1) (l.drop p.2)))\/(p.2=l.length+1/\Cq name (Du [] l)=name)) (λp=>l.length+1 -p.2) (0,0) rfl (.inl ⟨Ag _,AV _,AH⟩) ?_
 rintro⟨a,n⟩ h aDr;rcases aDr with⟨Zl,hn,ha⟩|⟨hn,Zi⟩
 .simp only at Zl hn ha;have i1:(n:Int)<=(l.length:Int):=Ab;have Pc:((l.take n).drop a).length<=AX:=by simp[AX];omega
  rcases AP n l.length with hlt|Eg
  .have b:¬(n:Int)=(l.length:Int):=by omega
   simp only[BD,i1,b,AA,Az,Aq,Av,Fw hlt,BM (Ab:n<9223372036854775807),Mo Zl hn,(aDs _ Pc).B7 rfl rfl];rw[AG hlt,PT] at ha;refine⟨λhe=>?_,λhe=>?_⟩
   .have e:l[n]=32:=by rw[<-Vt];exact aAf he
    rw[Af e,Cq] at ha;refine⟨λhw=>?_,λhw=>?_⟩;.rw[ha,Af hw]
    .rw[Ad hw] at ha;refine AK.next (n+1,n+1) rfl (.inl ⟨Ag _,hlt,?_⟩) Dx;rw[ha,O6]
   .have e:¬l[n]=32:=λe=>he (by rw[e];rfl);rw[Ad e] at ha;refine AK.next (a,n+1) rfl (.inl ⟨Dx,hlt,?_⟩) Dx;rw[ha,X5 Zl hlt]
  .have e:n=l.length:=by omega
   subst e;simp only[BD,GB,AA,Aq,Av,Mo Zl hn,BM (Ab:l.length<9223372036854775807),(aDs _ Pc).B7 rfl rfl];rw[AW (Ag _),Re,Cq,Cq] at ha;refine⟨λhw=>?_,λhw=>?_⟩;.rw[ha,Af hw]
   .rw[Ad hw] at ha;exact AK.next (l.length+1,l.length+1) rfl (.inr ⟨rfl,ha⟩) Dx
 .simp only at hn;subst hn;have i1:¬((l.length+1:Nat):Int)<=(l.length:Int):=Ab;simp only[BD,i1,Az,Aq,Av,Zi]
def VN:Tb Mb I4:=Rk 5000 Dk
def VO:Tb NT Ig:=Rk 5000 Dk
def aLV(s:Ai):JM cx 204 [.str s] (.str (Cq s I4)):=by rw[L0,gY,show aGE (.str s)= .B7 344 [.str s,.str Mb] λv=> .ret .ret [v] from rfl];rw[(aGP (l:=Mb) VN C4 C4 s).B7 rfl rfl];simp only[BD]
def aGR(s:Ai):JM cx 231 [.str s] (.str (Cq s I4)):=by rw[L0,Ġ,show aGF (.str s)= .B7 359 [.str Mb,.str s] λv=> .ret .ret [v] from rfl];rw[(aGQ Mb s C4).B7 rfl rfl,X8];simp only[BD]
def aGS(s:Ai):JM cx 343 [.str s] (.str (Cq s Ig)):=by rw[L0,jI,show aGI (.str s)= .B7 344 [.str s,.str NT] λv=> .ret .ret [v] from rfl];rw[(aGP (l:=NT) VO C4 C4 s).B7 rfl rfl];simp only[BD]
end
section
def aLW{v:Aa}{l:List A5}(hv:Bt l v)(hn:l.length<9223372036854775807)(h:Ah){f:FuncId}{p:A5->Bool}(hp:∀a∈l,BL cx f [.agg a.row] h (.bool (p a)) h)(hf:f<=99999):
  BL cx 309 [v,.func (.func f) [] []] h (I (Cn p 0 l)) h:=by
 rw[Ae,S7];have hlen:(l.map A5.row).length=l.length:=An ..;simp only[BD,AU.len hv];refine Bi (λn:Nat=>[I 0,I (n:Int)]) (λn h1=>n<=l.length/\Cn p 0 l=Cn p n (l.drop n)/\h1=h) (λn=>l.length-n) 0 rfl ⟨AV _,rfl,rfl⟩ ?_;rintro n h1 ⟨kh,ha,rfl⟩;rcases AP n l.length with hlt|Eg
 .have i1:(n:Int)<((l.map A5.row).length:Int):=by rw[hlen];omega
  have c:(l.map A5.row)[n]'(by rw[hlen];exact hlt)=A5.row l[n]:=AH;have b:Ft (A5.row l[n]) 0 (some 3)=some (.agg (A5.row l[n])):=by simp[A5.row]
  rw[AG hlt,Cn] at ha;simp only[BD,↓reduceIte,Dp,hf,By,i1,AA,Av,Aq,AU.Fl hv (show n<(l.map A5.row).length by rw[hlen];exact hlt),c,b,(hp _ (AL hlt)).Ac];rw[CS];refine⟨λhe=>?_,λhe=>?_⟩;.rw[ha,Af he]
  .rw[Ad (by simp[he])] at ha;simp only[BD,BM (Ab:n<9223372036854775807)];exact AK.next (n+1) rfl ⟨hlt,ha,rfl⟩ Ab
 .have i1:¬(n:Int)<((l.map A5.row).length:Int):=by rw[hlen];omega
  rw[AW Eg,Cn] at ha;simp only[BD,↓reduceIte,Dp,hf,i1,Az,Av,Aq,ha]
def aLX(a:A5)(h:Ah):BL cx 310 [.agg a.row] h (.bool (O3 a)) h:=by rw[Ae,iK,A5.row];simp only[BD,O3];refine⟨λh=>by simp[h],λh=>by simp[h]⟩
def aDu(a b:Ai)(ha:a.length<=AX)(hb:b.length<=AX):JM cx 240 [.str a,.str b] (.bool (decide (Fo a=Fo b))):=by rw[L0,iA];simp only[BD,(aDt a ha).B7 rfl rfl,(aDt b hb).B7 rfl rfl]
def f96{v:Aa}{l:List A5}(hv:Bt l v)(hl:∀a∈l,a.value.length<=AX)(hn:l.length<9223372036854775807)(n:Int)(s:Ai)(h:Ah):BL cx 161 [I n,.str s,v] h (.bool (Fj n s l)) h:=by
 rw[Ae,fR];simp only[BD,YG,(aLW hv hn h (λa _=>aLX a h) AM).Ac,Fj];refine⟨λh2=>by simp[h2],λh2=>⟨λb=>by simp[h2,b],λb=>⟨λg=>by simp[h2,b,g],λg=>?_⟩⟩⟩;rw[Ad h2,Ad b,Ad g];rcases HP (p:=O3) (l:=l) (k:=0) with⟨f,d⟩|⟨k,a,f,d,i⟩
 .rw[f,d];simp
 .rw[f,i,BV];obtain⟨hk,e⟩:=Ak.1 d;have c:k<(l.map A5.row).length:=by simpa using hk
  have o:(l.map A5.row)[k]=A5.row a:=by simp[e]
  have i1:(0:Int)<=(k:Int):=Ab;have QV:a.value.length<=AX:=hl a (e▸AL hk);have m:Fo yJ=yJ:=PV C4;have j:Fo eE=eE:=PV C4;simp only[BD,i1,AA,Av,Aq,AU.Fl hv c,o,A5.row,(aDu a.value yJ QV AM).B7 rfl rfl,(aDu a.value eE QV AM).B7 rfl rfl,m,j];refine⟨λh=>by simp[h],λh=>by simp[h]⟩
def aGT{v:Aa}{l:List A5}(hv:Bt l v)(hl:∀a∈l,a.value.length<=AX)(hn:l.length<9223372036854775807)(n:Int)(s:Ai)(hs:s.length<9223372036854775807)(h:Ah):BL cx 167 [I n,.str s,v] h (.bool (Fj n s l)) h:=by
 rw[Ae,Ċ];simp only[BD,Vg hs,Fj];refine⟨λh2=>by simp[h2,Ew],λh2=>⟨λb=>by simp[h2,b],λb=>⟨λf=>by simp[h2,b,f],λf=>?_⟩⟩⟩;rw[Ad h2,Ad b,Ad f];have hlen:(l.map A5.row).length=l.length:=An ..;refine Bi (λn:Nat=>[.bool false,I (n:Int)]) (λn h1=>n<=l.length/\l.find? O3=(l.drop n).find? O3/\h1=h) (λn=>l.length-n) 0 rfl ⟨AV _,rfl,rfl⟩ ?_;rintro n h1 ⟨kh,ha,rfl⟩;rcases AP n l.length with hlt|Eg
 .have i1:(n:Int)<((l.map A5.row).length:Int):=by rw[hlen];omega
  have g:(l.map A5.row)[n]'(by rw[hlen];exact hlt)=A5.row l[n]:=AH;rw[AG hlt,FF] at ha;simp only[BD,AU.len hv,i1,AA,Av,Aq,AU.Fl hv (show n<(l.map A5.row).length by rw[hlen];exact hlt),g,A5.row,(aDs _ (hl _ (AL hlt))).B7 rfl rfl,BM (Ab:n<9223372036854775807)];refine⟨λe=>⟨λd=>?_,λd=>?_⟩,λe=>?_⟩
  .have he:O3 l[n]=true:=by simp[O3,e,d]
   rw[he] at ha;rw[ha];exact⟨λc=>by simp[c],λc=>by simp[c]⟩
  .have he:O3 l[n]=false:=by simp[O3,d]
   rw[he] at ha;exact AK.next (n+1) rfl ⟨hlt,ha,rfl⟩ Ab
  .have he:O3 l[n]=false:=by simp[O3,e]
   rw[he] at ha;exact AK.next (n+1) rfl ⟨hlt,ha,rfl⟩ Ab
 .have i1:¬(n:Int)<((l.map A5.row).length:Int):=by rw[hlen];omega
  rw[AW Eg,List.find?_nil] at ha;rw[ha];simp only[BD,AU.len hv,i1,Az,Av,Aq]
end
section
section
variable{U:Type}{f:U->List Aa}{l l2:List U}{v v2:Aa}{z b:Nat}{k k2:IntKind}
end
section
variable{h:Ah}{p:Aa}{l:List Item}
def VP(hs:jh h p l):BL cx 183 [p] h (I (l.length:Int)) h:=by
 rw[Ae,gG];rcases hs with⟨rfl,rfl⟩|⟨id,o,v,rfl,hc,hv⟩
 .simp
 .simp only[BD,Ib,hc.load,Bv,hv.CN]
def YJ(hs:jh h p l)(i:Int):BL cx 184 [p,I i] h (.agg (Hh l i).row) h:=by
 rw[Ae,gH];simp only[BD,↓reduceIte,AR,(VP hs).Ac];refine⟨λhi=>by rw[OC (.inl hi)];simp[Item.row,Item.zero],λhi=>⟨λhl=>by rw[OC (.inr hl)];simp[Item.row,Item.zero],λhl=>?_⟩⟩;rcases hs with⟨rfl,rfl⟩|⟨id,o,v,rfl,hc,hv⟩
 .simp at hl;omega
 .obtain⟨n,rfl⟩:=IV (Ab:0<=i);have hn:n<l.length:=Ab;simp only[BD,Nat.reduceLeDiff,↓reduceIte,E9,hc.load,Bv,hv.BK hn,Ih hn]
def f39(hs:jh h p l)(hn:l.length<=1000000000):BL cx 197 [p] h (.agg (Fx l).row) h:=by rw[Ae,gR];simp only[BD,E9,(VP hs).Ac,Da (Ab: -9223372036854775808<=(l.length:Int)-1) (Ab:(l.length:Int)-1<9223372036854775808),(YJ hs _).Ac,Fx]
def VQ(F:Aa)(h:Ah)(q:Item->Bool):Prop:=∃f caps,F= .func (.func f) [] caps/\f<=99999/\∀a:Item,BL cx f (.agg a.row::caps) h (.bool (q a)) h
def VQ.Jd{F:Aa}{q:Item->Bool}(hF:VQ F h q)(a:Item){k:Aa->IT}{Q:HG}:W cx (.Jd F [.agg a.row] k) Q h↔W cx (k (.bool (q a))) Q h:=by obtain⟨f,caps,rfl,hf,hr⟩:=hF;rw[M5];simp only[Dp,hf,↓reduceIte,BR,CC,NQ,(hr a).Ac]
def aDv(hs:jh h p l)(hn:l.length<=1000000000){F:Aa}{q:Item->Bool}(hF:VQ F h q):BL cx 326 [p,F] h (I (AT q l)) h:=by
 obtain⟨f,caps,rfl,hf,hr⟩:=hF;rw[Ae,iU];simp only[BD,(VP hs).Ac,Da (Ab: -9223372036854775808<=(l.length:Int)-1) (Ab:(l.length:Int)-1<9223372036854775808)];refine Bi (λn:Nat=>[I 0,I ((n:Int)-1)]) (λn h1=>n<=l.length/\AT q l=AT q (l.take n)/\h1=h) (λn=>n) l.length rfl ⟨Ag _,by rw[Bx],rfl⟩ ?_;rintro n h1 ⟨kh,ha,rfl⟩;cases n with
 |zero=>have i1:¬(0:Int)<=((0:Nat):Int)-1:=Ab;rw[ha];simp only[BD,↓reduceIte,Dp,hf,i1,Az,Av,Aq,J3]
 |succ n=>
  have i1:(0:Int)<=((n+1:Nat):Int)-1:=Ab;have a:((n+1:Nat):Int)-1=(n:Int):=Ab;rcases hs with⟨rfl,rfl⟩|⟨id,o,v,rfl,hc,hv⟩
  .simp at kh
  .rw[GR Ab] at ha;simp only[BD,Nat.reduceLeDiff,↓reduceIte,Dp,E9,hf,a,(Ab:(0:Int)<=(n:Int)),AA,Av,Aq,hc.load,Bv,hv.BK (Ab:n<l.length),(hr l[n]).Ac,Da (Ab: -9223372036854775808<=(n:Int)-1) (Ab:(n:Int)-1<9223372036854775808)];rw[CS];refine⟨λhe=>?_,λhe=>?_⟩;.rw[ha,Af he]
   .rw[Ad (by simp[he])] at ha;exact AK.next n rfl ⟨Ab,ha,rfl⟩ Ab
def aLY{v:Aa}{ws:List Ai}(hv:Im ws v)(hn:ws.length<=1000000000)(s:Ai)(h:Ah):BL cx 397 [v,.str s] h (I (Cn (λw=>decide (s=w)) 0 ws)) h:=by
 rw[Ae,jV];have hv:AU 1 (ws.map Cr) v:=hv;simp only[BD,hv.CN];refine Bi (λn:Nat=>[I 0,I (n:Int)]) (λn h1=>n<=ws.length/\Cn (λw=>decide (s=w)) 0 ws=Cn (λw=>decide (s=w)) n (ws.drop n)/\h1=h) (λn=>ws.length-n) 0 rfl ⟨AV _,rfl,rfl⟩ ?_;rintro n h1 ⟨kh,ha,rfl⟩;rcases AP n ws.length with hlt|Eg
 .have i1:(n:Int)<(ws.length:Int):=by omega
  rw[AG hlt,Cn] at ha;simp only[BD,i1,AA,Av,Aq,hv.BK hlt,Cr,BM (Ab:n<9223372036854775807)];refine⟨λhe=>?_,λhe=>?_⟩;.rw[ha,Af (by simpa using he)]
  .rw[Ad (by simpa using he)] at ha;exact AK.next (n+1) rfl ⟨hlt,ha,rfl⟩ Ab
 .have i1:¬(n:Int)<(ws.length:Int):=by omega
  rw[AW Eg,Cn] at ha;simp only[BD,i1,Az,Av,Aq,ha]
def Ŋ{v:Aa}{ws:List Ai}(hv:Im ws v)(hn:ws.length<=1000000000)(s:Ai)(h:Ah):BL cx 311 [v,.str s] h (.bool (decide (s∈ws))) h:=by rw[Ae,iL];simp only[BD,(aLY hv hn s h).Ac,ã]
def oZ{v:Aa}{ws:List Ai}(hv:Im ws v)(hn:ws.length<=1000000000)(a:Item)(h:Ah):BL cx 202 [.agg a.row,v] h (.bool (Bn ws a)) h:=by rw[Ae,gW];simp only[BD,E9,(Ŋ hv hn _ h).Ac,Bn];refine⟨λh1=>by simp[h1],λh1=>by simp[h1]⟩
def aLZ(a:Item)(h:Ah):BL cx 426 [.agg a.row] h (.bool (Bn Oz a)) h:=by rw[Ae,j9];simp only[BD,E9,tP,(oZ (ws:=Oz) Cc AM a h).Ac]
def aL0(a:Item)(h:Ah):BL cx 427 [.agg a.row] h (.bool (!Bn Mr a)) h:=by rw[Ae,kC];simp only[BD,E9,nW,(oZ (ws:=Mr) Cc AM a h).Ac]
def aL1(n:Int)(j:n≠4)(i:n≠5)(a:Item)(h:Ah):BL cx 428 [.agg a.row,.CH [I n]] h (.bool (Hw n a)) h:=by have b1:=oZ (ws:=Qw) Cc AM a h;have b2:=oZ (ws:=RK) Cc AM a h;have b3:=oZ (ws:=[aUx]) Cc AM a h;rw[Ae,kD];simp only[BD,E9,YG,tQ,ji,jj,b1.Ac,b2.Ac,b3.Ac,Hw,j,i];refine⟨λh1=>by simp[h1],λh1=>⟨λh2=>by simp[h2],λh2=>?_⟩⟩;rw[CS];simp only[h1,h2,or_self,DQ];refine⟨λd=>by simp[d],λd=>⟨λe=>?_,λe=>⟨λc=>by simp[d,c],λc=>by simp[d,e,c]⟩⟩⟩;rw[CS];exact⟨λc=>by simp[d,e,c],λc=>⟨λg=>Ab,λg=>by simp[d,c,g]⟩⟩
def f264(n:Int)(h:Ah):∃F,BL cx 403 [I n] h F h/\VQ F h (Hw n)/\F.cells=[F]:=by
 by_cases d:n=4
 .refine⟨.func (.func 426) [] [],?_,⟨_,_,rfl,AM,λa=>?_⟩,rfl⟩;.rw[Ae,Ta];simp only[BD,d,AA,Av,Aq]
  .have:=aLZ a h;simpa[Hw,d] using this
 .by_cases c:n=5
  .refine⟨.func (.func 427) [] [],?_,⟨_,_,rfl,AM,λa=>?_⟩,rfl⟩;.rw[Ae,Ta];simp only[BD,c,AA,Av,Aq];simp
   .have:=aL0 a h;simpa[Hw,c] using this
  .refine⟨.func (.func 428) [] [.CH [I n]],?_,⟨_,_,rfl,AM,λa=>aL1 n d c a h⟩,rfl⟩;rw[Ae,Ta];simp only[BD,d,c,Az,Av,Aq]
def aL2{d F2:Aa}{q e:Item->Bool}(h1:VQ d h q)(h2:VQ F2 h e)(a:Item):BL cx 404 [.agg a.row,.CH [d],.CH [F2]] h (.bool (q a||e a)) h:=by have j:=λk Q=>h1.Jd a (k:=k) (Q:=Q);have i:=λk Q=>h2.Jd a (k:=k) (Q:=Q);rw[Ae,jZ];obtain⟨f,caps,rfl,hf,g⟩:=h1;obtain⟨f',c,rfl,rp,r2⟩:=h2;simp only[BD,↓reduceIte,Dp,E9,hf,rp,(g a).Ac,(r2 a).Ac];rw[CS];exact⟨λh=>by simp[h],λh=>by simp[h]⟩
def aGU(hs:jh h p l)(hn:l.length<=1000000000)(n:Int){F:Aa}{q:Item->Bool}(hF:VQ F h q):BL cx 322 [p,I n,F] h (.bool (HI q (Hw n) l.reverse)) h:=by
 obtain⟨G,g,aGV,JU⟩:=f264 n h;have c:F.cells=[F]:=by obtain⟨f,caps,rfl,hf,_⟩:=hF;rfl
 have d:=hF;have hfit:VQ (.func (.func 404) [] [.CH [F],.CH [G]]) h (λa=>q a||Hw n a):=⟨404,_,rfl,AM,λa=>aL2 hF aGV a⟩;rw[Ae,iQ];simp only[BD,↓reduceIte,Dp,c,g.Ac,JU,(aDv hs hn hfit).Ac];rw[<-tR l true];rcases Dl (q:=λa=>q a||Hw n a) (l:=l) with⟨h1,h2⟩|⟨k,hk,h1,h2,i⟩
 .simp[h1]
 .have e:(0:Int)<=(k:Int)/\(k:Int).toNat<l.length:=⟨Ab,by simpa using hk⟩;simp only[h1];rw[qN e];rcases hs with⟨rfl,rfl⟩|⟨id,o,v,rfl,hc,hv⟩
  .simp at hk
  .obtain⟨f,caps,rfl,hf,hr⟩:=d;simp only[BD,Nat.reduceLeDiff,↓reduceIte,E9,hf,e.1,AA,Av,Aq,hc.load,Bv,hv.BK hk,(hr l[k]).Ac,AY]
def aL3{v:Aa}{ws:List Ai}(hv:Im ws v)(hn:ws.length<=1000000000)(a:Item)(h:Ah):BL cx 323 [.agg a.row,.CH [v]] h (.bool (Bn ws a)) h:=by have b:=oZ hv hn a h;rw[Ae,iR];simp only[BD,E9,b.Ac]
def aGW(hs:jh h p l)(hn:l.length<=1000000000)(n:Int){v:Aa}{ws:List Ai}(hv:Im ws v)(hw:ws.length<=1000000000):BL cx 178 [p,I n,v] h (.bool (HI (Bn ws) (Hw n) l.reverse)) h:=by have hfit:VQ (.func (.func 323) [] [.CH [v]]) h (Bn ws):=⟨323,_,rfl,AM,λa=>aL3 hv hw a h⟩;rw[Ae,gC];simp only[BD,hv.cells,(aGU hs hn n hfit).Ac]
def aL4(node:Int)(a:Item)(h:Ah):BL cx 406 [.agg a.row,.CH [I node]] h (.bool (Br node a)) h:=by rw[Ae,j1,Item.row];simp only[BD,E9,Br]
def aGX(hs:jh h p l)(hn:l.length<=1000000000)(n node:Int):BL cx 332 [p,I n,I node] h (.bool (HI (Br node) (Hw n) l.reverse)) h:=by have hfit:VQ (.func (.func 406) [] [.CH [I node]]) h (Br node):=⟨406,_,rfl,AM,λa=>aL4 node a h⟩;rw[Ae,i5];simp only[BD,(aGU hs hn n hfit).Ac]
def aL5(node:Int)(a:Item)(h:Ah):BL cx 327 [.agg a.row,.CH [I node]] h (.bool (Br node a)) h:=by rw[Ae,iV,Item.row];simp only[BD,E9,Br]
def ZN(hs:jh h p l)(hn:l.length<=1000000000)(node:Int):BL cx 180 [p,I node] h (I (AT (Br node) l)) h:=by have hfit:VQ (.func (.func 327) [] [.CH [I node]]) h (Br node):=⟨327,_,rfl,AM,λa=>aL5 node a h⟩;rw[Ae,gE];simp only[BD,(aDv hs hn hfit).Ac]
def aL6(s:Ai)(a:Item)(h:Ah):BL cx 340 [.agg a.row,.CH [.str s]] h (.bool (Bn [s] a)) h:=by have b:=oZ (ws:=[s]) Cc (AH:[s].length<=1000000000) a h;rw[Ae,jF];simp only[BD,E9,DR (ws:=[s]) (args:=[.str s]) rfl AH,b.Ac]
def ŋ(hs:jh h p l)(hn:l.length<=1000000000)(s:Ai):BL cx 194 [p,.str s] h (I (AT (Bn [s]) l)) h:=by have hfit:VQ (.func (.func 340) [] [.CH [.str s]]) h (Bn [s]):=⟨340,_,rfl,AM,λa=>aL6 s a h⟩;rw[Ae,gO];simp only[BD,(aDv hs hn hfit).Ac]
end
end
section
section
variable{h:Ah}{p v:Aa}{l:List Item}
def aGY(hv:BY l v)(a:Item){n:Nat}(hn:n<=l.length)(hb:l.length<=1000000000):∃u,BL cx 308 [v,.agg a.row,I (n:Int)] h u h/\BY (l.take n++a::l.drop n) u:=by
 have Ru:(l.length+1)*40<=AX:=by have:AX=140737488355328:=rfl;omega
 obtain⟨t,q,h1⟩:=AU.Ms hv (k:= .i64) hn;obtain⟨s,m,h2⟩:=AU.Gy h1 (b:=40) (by rw[Aw];have:AX=140737488355328:=rfl;omega);have j:=AU.J2 (a:=a) h2 (b:=40) (by rw[Aw];have:AX=140737488355328:=rfl;omega);obtain⟨r,i,e⟩:=AU.SN hv (k:= .i64) hn;obtain⟨d,g,c⟩:=AU.eF (v:= .sl 4 ((l.take n++[a]).map Item.row)) .mk e (b:=40) (by rw[Au,Aw,Bd,Be];have:AX=140737488355328:=rfl;omega);refine⟨d,?_,by rw[AI] at c;exact c⟩;rw[Ae,iJ];simp only[BD,E9,q,m,Mt,j,i,g]
def f95{id o:Nat}(hs:L1 h id o l)(hb:l.length<=1000000000)(a:Item):∃u,BL cx 160 [Pt id o,.agg a.row] h (.tuple []) (put h id o u)/\BY (l++[a]) u:=by obtain⟨v,hc,hv⟩:=hs;obtain⟨u,hr,hu⟩:=aGY (h:=h) hv a (n:=l.length) (Ag _) hb;rw[Bx,Ep] at hu;refine⟨u,?_,hu⟩;rw[Ae,fQ];simp only[BD,E9,R5,IU,hc.load,Bv,AU.CN hv,hr.Ac,hc.store hu.cells]
def aL7(hs:jh h p l)(hb:l.length<=1000000000)(node:Int):BL cx 333 [p,I node] h (I (D3 node l)) h:=by
 rw[Ae,i6];have a: -1<=AT (Br node) l/\AT (Br node) l<l.length+1:=by rcases Dl (q:=Br node) (l:=l) with⟨h1,h2⟩|⟨n,hn,h1,h2,c⟩<;>rw[h1]<;>omega
 simp only[BD,(ZN hs hb node).Ac,OB (Ab: -9223372036854775808<=AT (Br node) l+1) (Ab:AT (Br node) l+1<9223372036854775808)];rw[IH];by_cases FU:AT (Br node) l<0;.rw[Af FU];refine Bi (λn:Nat=>[I 0,I (AT (Br node) l+1)]) (λn h1=>h1=h) (λn=>n) 0 rfl rfl ?_;rintro n h1 rfl;have i1:¬0<=AT (Br node) l:=Ab;simp only[BD,i1,Az,Av,Aq]
 .rw[Ad FU];have i0:0<=AT (Br node) l:=Ab;obtain⟨m,hm⟩:=IV i0;refine Bi (λn:Nat=>[I 0,I (n:Int)]) (λn h1=>EZ GS l (m+1)=EZ GS l n/\h1=h) (λn=>l.length-n) (m+1) (by rw[hm];rfl) ⟨rfl,rfl⟩ ?_;rw[hm,AY];rintro n h1 ⟨ha,rfl⟩;simp only[BD,(Ab:(0:Int)<=(m:Int)),AA,Av,Aq,(VP hs).Ac];rcases AP n l.length with hlt|Eg
  .have i1:(n:Int)<(l.length:Int):=by omega
   rw[SO hlt] at ha;rcases hs with⟨rfl,rfl⟩|⟨id,o,v,rfl,hc,hv⟩
   .simp at hlt
   .simp only[BD,E9,i1,AA,Av,Aq,hc.load,Bv,AU.BK hv hlt,YG,BM (Ab:n<9223372036854775807)];rw[CS];refine⟨λhe=>?_,λhe=>?_⟩;.rw[ha,Af (by exact he)]
    .rw[Ad (by simp[GS,he])] at ha;exact AK.next (n+1) rfl ⟨ha,rfl⟩ Ab
  .have i1:¬(n:Int)<(l.length:Int):=by omega
   rw[Rf Eg] at ha;simp only[BD,i1,Az,Av,Aq,ha]
def aGZ(hv:BY l v)(i:Int):BL cx 383 [v,I i] h (.agg (Hh l i).row) h:=by have hv:AU 4 (l.map Item.row) v:=hv;rw[Ae,Ł];simp only[BD,↓reduceIte,AR,hv.CN];refine⟨λhi=>by rw[OC (.inl hi)];simp[Item.row,Item.zero],λhi=>⟨λhl=>by rw[OC (.inr hl)];simp[Item.row,Item.zero],λhl=>?_⟩⟩;obtain⟨n,rfl⟩:=IV (Ab:0<=i);have hn:n<l.length:=Ab;simp only[BD,Nat.reduceLeDiff,↓reduceIte,E9,hv.BK hn,Ih hn]
def aL8(hv:BY l v)(hb:l.length<=1000000000):BL cx 352 [v] h (.agg (Fx l).row) h:=by rw[Ae,ķ];simp only[BD,E9,AU.CN hv,Da (Ab: -9223372036854775808<=(l.length:Int)-1) (Ab:(l.length:Int)-1<9223372036854775808),(aGZ hv _).Ac,Fx]
def f167(a:Item){ws:List Ai}(hv:Im ws v)(hn:ws.length<=1000000000):BL cx 218 [.agg a.row,v] h (.bool (Bn ws a)) h:=by
 rw[Ae,Ė];simp only[BD,E9];refine⟨λh1=>by simp[Bn,h1],λh1=>?_⟩;have h1:a.Bc=1:=by simpa using h1
 have hv:AU 1 (ws.map Cr) v:=hv;refine Bi (λn:Nat=>[.bool false,I (n:Int)]) (λn h1=>n<=ws.length/\(a.name∈ws↔a.name∈ws.drop n)/\h1=h) (λn=>ws.length-n) 0 rfl ⟨AV _,aEF,rfl⟩ ?_;rintro n h2 ⟨kh,ha,rfl⟩;rcases AP n ws.length with hlt|Eg
 .have i1:(n:Int)<(ws.length:Int):=by omega
  rw[AG hlt,AS] at ha;simp only[BD,hv.CN,i1,AA,Av,Aq,hv.BK hlt,Cr,BM (Ab:n<9223372036854775807)];refine⟨λhe=>?_,λhe=>?_⟩;.have:a.name∈ws:=ha.2 (.inl he.symm);simp[Bn,h1,this]
  .exact AK.next (n+1) rfl ⟨hlt,ha.trans ⟨λh=>h.resolve_left (λh=>he h.symm),.inr⟩,rfl⟩ Ab
 .have i1:¬(n:Int)<(ws.length:Int):=by omega
  rw[AW Eg] at ha;simp only[BD,hv.CN,i1,Az,Av,Aq];have:a.name∉ws:=λh=>by simpa using ha.1 h
  simp[Bn,this]
def aL9(n:Int)(a:Item)(hs:a.name.length<9223372036854775807):BL cx 412 [.agg a.row,I n] h (.bool (Hw n a)) h:=by
 rw[Ae,ņ];simp only[BD,E9,ke hs,vA hs,w_ hs,kg hs,oY hs,Hw,Bn];by_cases h1:a.Bc=1
 .have j:¬a.Bc=3:=by omega
  have i:¬a.Bc=2:=Ab;simp only[h1,Dz,RG,MO,Aq,AA,R2,forall_const];by_cases d:n=4;.simp[d]
  .by_cases c:n=5;.simp[c]
   .by_cases h2:n=2;.simp[h2];by_cases hl:a.name∈RK<;>simp[hl]
    .by_cases g:n=3;.simp[g];by_cases hl:a.name=aUx<;>simp[hl]
     .simp[d,c,h2,g]
 .simp only[h1,DH,T1,Zn,Av,Aq,Az,IU];by_cases d:n=4;.simp[d]
  .by_cases c:n=5;.simp[c]
   .by_cases g:a.Bc=3\/a.Bc=2;.simp[d,c,g]
    .have j:¬a.Bc=3:=λe=>g (.inl e);have i:¬a.Bc=2:=λe=>g (.inr e);simp[d,c,j,i,Ew,h1]
def aG0(hv:BY l v)(hb:l.length<=1000000000)(hl:∀a∈l,a.name.length<9223372036854775807){i:Nat}(hi:i<=l.length)(n:Int):BL cx 349 [v,I (i:Int),I n] h (.bool (!((l.drop (i+1)).any (Hw n)))) h:=by
 have hv:AU 4 (l.map Item.row) v:=hv;rw[Ae,Ĵ];simp only[BD,BM (Ab:i<9223372036854775807)];refine Bi (λm:Nat=>[.bool false,I (m:Int)]) (λm h1=>(l.drop (i+1)).any (Hw n)=(l.drop m).any (Hw n)/\h1=h) (λm=>l.length-m) (i+1) rfl ⟨rfl,rfl⟩ ?_;rintro m h1 ⟨ha,rfl⟩;rcases AP m l.length with hlt|Eg
 .have i1:(m:Int)<(l.length:Int):=by omega
  rw[AG hlt,Nx] at ha;simp only[BD,Nat.reduceLeDiff,↓reduceIte,E9,hv.CN,i1,AA,Av,Aq,hv.BK hlt,(aL9 n l[m] (hl _ (AL hlt))).Ac,BM (Ab:m<9223372036854775807)];rw[CS];refine⟨λhe=>by rw[ha,he];rfl,λhe=>?_⟩;rw[he,Hl] at ha;exact AK.next (m+1) rfl ⟨ha,rfl⟩ Ab
 .have i1:¬(m:Int)<(l.length:Int):=by omega
  rw[AW Eg] at ha;simp only[BD,↓reduceIte,hv.CN,i1,Az,Av,Aq,ha,UA,IU]
def aDw(hv:BY l v)(hb:l.length<=1000000000)(hl:∀a∈l,a.name.length<9223372036854775807)(n:Int){w:Aa}{ws:List Ai}(hw:Im ws w)(hn:ws.length<=1000000000):BL cx 215 [v,I n,w] h (.bool (HI (Bn ws) (Hw n) l.reverse)) h:=by
 have DJ:AU 4 (l.map Item.row) v:=hv;rw[Ae,ē,<-nX];refine Bi (λm:Nat=>[.bool false,I (m:Int)]) (λm h1=>m<=l.length/\Ya (Bn ws) (Hw n) l=Ya (Bn ws) (Hw n) (l.drop m)/\h1=h) (λm=>l.length-m) 0 rfl ⟨AV _,rfl,rfl⟩ ?_;rintro m h1 ⟨hm,ha,rfl⟩;rcases AP m l.length with hlt|Eg
 .have i1:(m:Int)<(l.length:Int):=by omega
  rw[AG hlt,Ya] at ha;simp only[BD,Nat.reduceLeDiff,↓reduceIte,E9,DJ.CN,i1,AA,Av,Aq,DJ.BK hlt,(f167 l[m] hw hn).Ac,(aG0 hv hb hl (MR hlt) n).Ac,BM (Ab:m<9223372036854775807)];rw[CS,CS];refine⟨λh1=>⟨λh2=>by rw[ha,h1,h2];rfl,λh2=>?_⟩,λh1=>?_⟩;.rw[h2,zu,Hl] at ha;exact AK.next (m+1) rfl ⟨hlt,ha,rfl⟩ Ab
  .rw[h1,zx,Hl] at ha;exact AK.next (m+1) rfl ⟨hlt,ha,rfl⟩ Ab
 .have i1:¬(m:Int)<(l.length:Int):=by omega
  rw[AW Eg,Ya] at ha;simp only[BD,↓reduceIte,DJ.CN,i1,Az,Av,Aq,ha]
def ZO(hv:BY l v)(hb:l.length<=1000000000)(node:Int):BL cx 284 [v,I node] h (I (AT (Br node) l)) h:=by
 have hv:AU 4 (l.map Item.row) v:=hv;rw[Ae,Ħ];refine Bi (λn:Nat=>[I (AT (Br node) (l.take n)),I (n:Int)]) (λn h1=>n<=l.length/\h1=h) (λn=>l.length-n) 0 rfl ⟨AV _,rfl⟩ ?_;rintro n h1 ⟨hn,rfl⟩;rcases AP n l.length with hlt|Eg
 .have i1:(n:Int)<(l.length:Int):=by omega
  have e:=GR (q:=Br node) hlt;simp only[BD,E9,hv.CN,i1,AA,Av,Aq,hv.BK hlt,BM (Ab:n<9223372036854775807)];refine⟨λhe=>?_,λhe=>?_⟩;.rw[Af (by simpa[Br] using he)] at e;exact AK.next (n+1) (by rw[e]) ⟨hlt,rfl⟩ Ab
  .rw[Ad (by simpa[Br] using he)] at e;exact AK.next (n+1) (by rw[e]) ⟨hlt,rfl⟩ Ab
 .have i1:¬(n:Int)<(l.length:Int):=by omega
  simp only[BD,hv.CN,i1,Az,Av,Aq,AF Eg]
def Ō(hv:BY l v)(hb:l.length<=1000000000)(s:Ai):BL cx 142 [v,.str s] h (I (AT (Bn [s]) l)) h:=by
 have hv:AU 4 (l.map Item.row) v:=hv;have b:=λa=>f167 (h:=h) a (ws:=[s]) Cc (AH:[s].length<=1000000000);rw[Ae,ā];refine Bi (λn:Nat=>[I (AT (Bn [s]) (l.take n)),I (n:Int)]) (λn h1=>n<=l.length/\h1=h) (λn=>l.length-n) 0 rfl ⟨AV _,rfl⟩ ?_;rintro n h1 ⟨hn,rfl⟩;rcases AP n l.length with hlt|Eg
 .have i1:(n:Int)<(l.length:Int):=by omega
  have e:=GR (q:=Bn [s]) hlt;simp only[BD,Nat.reduceLeDiff,↓reduceIte,E9,hv.CN,i1,AA,Av,Aq,hv.BK hlt,BM (Ab:n<9223372036854775807),DR (ws:=[s]) (args:=[.str s]) rfl AH,(b l[n]).Ac];rw[CS];refine⟨λhe=>?_,λhe=>?_⟩;.rw[Af he] at e;exact AK.next (n+1) (by rw[e]) ⟨hlt,rfl⟩ Ab
  .rw[Ad (by simpa using he)] at e;exact AK.next (n+1) (by rw[e]) ⟨hlt,rfl⟩ Ab
 .have i1:¬(n:Int)<(l.length:Int):=by omega
  simp only[BD,↓reduceIte,hv.CN,i1,Az,Av,Aq,AF Eg]
def aG1(hv:BY l v)(hb:l.length<=1000000000)(hl:∀a∈l,a.name.length<9223372036854775807)(n node:Int):BL cx 293 [v,I n,I node] h (.bool (HI (Br node) (Hw n) l.reverse)) h:=by
 rw[Ae,ī,<-aCI];simp only[BD,(ZO hv hb node).Ac];rcases Dl (q:=Br node) (l:=l) with⟨h1,h2⟩|⟨k,hk,h1,h2,c⟩
 .simp[h1]
 .rw[h1];simp only[BD,(Ab:(0:Int)<=(k:Int)),(Ab:¬(k:Int)<0),AA,Av,Aq,(aG0 hv hb hl (MR hk) n).Ac,AY]
def aMa(hv:BY l v)(hb:l.length<=1000000000)(hl:∀a∈l,a.name.length<9223372036854775807)(node:Int):BL cx 355 [v,I node] h (I (D3 node l)) h:=by
 have DJ:AU 4 (l.map Item.row) v:=hv;rw[Ae,Ĺ,IH];simp only[BD,(ZO hv hb node).Ac];rcases Dl (q:=Br node) (l:=l) with⟨h1,h2⟩|⟨k,hk,h1,h2,c⟩
 .simp[h1]
 .rw[h1];simp only[BD,(Ab:¬(k:Int)<0),Az,Av,Aq,AY,BM (Ab:k<9223372036854775807)];refine Bi (λn:Nat=>[I 0,I (n:Int)]) (λn h1=>EZ GS l (k+1)=EZ GS l n/\h1=h) (λn=>l.length-n) (k+1) rfl ⟨rfl,rfl⟩ ?_;rintro n h1 ⟨ha,rfl⟩;rcases AP n l.length with hlt|Eg
  .have i1:(n:Int)<(l.length:Int):=by omega
   rw[SO hlt] at ha;simp only[BD,E9,DJ.CN,i1,AA,Av,Aq,DJ.BK hlt,oY (hl _ (AL hlt)),BM (Ab:n<9223372036854775807)];rw[CS];refine⟨λhe=>by rw[ha,Af (by exact he)],λhe=>?_⟩;rw[Ad (by simp[GS,he])] at ha;exact AK.next (n+1) rfl ⟨ha,rfl⟩ Ab
  .have i1:¬(n:Int)<(l.length:Int):=by omega
   rw[Rf Eg] at ha;simp only[BD,DJ.CN,i1,Az,Av,Aq,ha]
end
end
section
def YK(F:Aa)(q:Item->Bool):Prop:=∃f caps,F= .func (.func f) [] caps/\f<=99999/\∀(a:Item) (h:Ah),BL cx f (.agg a.row::caps) h (.bool (q a)) h
section
variable{h:Ah}{p v:Aa}{l:List Item}
def f42{id o:Nat}(hs:L1 h id o l)(hb:l.length<=1000000000)(h2:2<=l.length):∃u,BL cx 82 [Pt id o] h (.agg (Fx l).row) (put h id o u)/\BY (l.take (l.length-1)) u:=by obtain⟨v,hc,hv⟩:=(show L1 h id o l from hs);obtain⟨u,e,hu⟩:=AU.Ms hv (k:= .i64) (Ab:l.length-1<=l.length);refine⟨u,?_,hu⟩;have a:(l.length:Int)-1=((l.length-1:Nat):Int):=Ab;rw[Ae,YA];simp only[BD,E9,(VP hs.at).Ac,(f39 hs.at hb).Ac,hc.load,Bv,AU.CN hv,Da (Ab: -9223372036854775808<=(l.length:Int)-1) (Ab:(l.length:Int)-1<9223372036854775808),a,e,hc.store (AU.cells hu),(Ab:¬(l.length:Int)<2),Az,Av,Aq]
def ō{id o:Nat}(hs:L1 h id o l)(hb:l.length<=1000000000){B A:Aa}{b a:Item->Bool}(hB:YK B b)(d:YK A a):
  ∃u,BL cx 199 [Pt id o,B,A] h (I ((l.length:Int)-((Dq b a l).length:Int))) (put h id o u)/\BY (Dq b a l) u:=by
 obtain⟨e,j,rfl,ki,rb⟩:=hB;obtain⟨fa,ca,rfl,hfa,ra⟩:=d;have hlt:=hs.lt;have I2:Ev cx 199 [Pt id o,.func (.func e) [] j,.func (.func fa) [] ca] h λr h'=>r= I ((l.length:Int)-((Dq b a l).length:Int))/\∃u,h'=put h id o u/\BY (Dq b a l) u:=by
  unfold Ev;rw[gT];refine Bi (λn:Nat=>[I ((l.length:Int)-(n:Int))]) (λn h1=>n<=l.length/\(∃u,h1=put h id o u/\BY (l.take n) u)/\Dq b a l=Dq b a (l.take n)) (λn=>n) l.length AH ⟨Ag _,by rw[Bx];exact hs.eJ,by rw[Bx]⟩ ?_;rintro n h1 ⟨hn,⟨u,rfl,hu⟩,ha⟩;have JV:L1 (put h id o u) id o (l.take n):= .aCJ hlt hu;have rP:(l.take n).length=n:=by rw[Aw];omega
  simp only[BD,↓reduceIte,(VP JV.at).Ac,rP];match n,hn,hu,ha,JV,rP with
  |0,hn,hu,ha,JV,rP=>rw[Yb (l:=l.take 0) AH] at ha;simp only[BD,(Ab:¬(1:Int)<((0:Nat):Int)),Az,Av,Aq];exact⟨_,rfl,by rw[ha];rfl,u,rfl,by rw[ha];exact hu⟩
  |1,hn,hu,ha,JV,rP=>rw[Yb (l:=l.take 1) (by rw[rP];exact Ag _)] at ha;simp only[BD,(Ab:¬(1:Int)<((1:Nat):Int)),Az,Av,Aq];exact⟨_,rfl,by rw[ha,rP],u,rfl,by rw[ha];exact hu⟩
  |m+2,hn,hu,ha,JV,rP=>
   have hm:m+1<l.length:=Ab;have i:((l.length:Int)-((m+2:Nat):Int))+1=(l.length:Int)-((m+1:Nat):Int):=Ab;obtain⟨c,hr,Jh⟩:=f42 JV Ab Ab;rw[Yc hm] at hr;have g:(l.take (m+2)).take ((l.take (m+2)).length-1)=l.take (m+1):=by rw[rP,FA,Cs Ab];rfl
   rw[g] at Jh;rw[eH] at hr;have aG2:=f39 JV.at Ab;rw[Yc hm] at aG2;rw[bB hm] at ha;simp only[BD,↓reduceIte,Dp,hfa,ki,(Ab:(1:Int)<((m+2:Nat):Int)),AA,Av,Aq,aG2.Ac,(rb _ _).Ac,hr.Ac,(ra _ _).Ac,OB (Ab: -9223372036854775808<=((l.length:Int)-((m+2:Nat):Int))+1) (Ab:((l.length:Int)-((m+2:Nat):Int))+1<9223372036854775808),i];rw[CS,CS];refine⟨λTJ=>⟨λZB=>?_,λZB=>?_⟩,λTJ=>?_⟩
   .have TJ:b l[m+1]=false:=by simpa using TJ
    rw[Ad (by simp[TJ]),Af ZB] at ha;exact⟨_,rfl,by rw[ha,Aw,Cs Ab],c,rfl,by rw[ha];exact Jh⟩
   .have TJ:b l[m+1]=false:=by simpa using TJ
    rw[Ad (by simp[TJ]),Ad (by simp[ZB])] at ha;exact AK.next (m+1) rfl ⟨Ab,⟨c,rfl,Jh⟩,ha⟩ Ab
   .have TJ:b l[m+1]=true:=by simpa using TJ
    rw[Af TJ] at ha;exact⟨_,rfl,by rw[ha,rP],u,rfl,by rw[ha];exact hu⟩
 obtain⟨r,h',hr,rfl,u,rfl,hu⟩:=I2.ret;exact⟨u,hr,hu⟩
def OJ:YK (.func (.func 200) [] []) Cu:=⟨_,_,rfl,AM,λa h=>by rw[Ae,gU];simp only[BD,E9,Cu]⟩
def vB{w:Aa}{ws:List Ai}(hw:Im ws w)(hn:ws.length<=1000000000):YK (.func (.func 201) [] [.CH [w]]) (Bn ws):=⟨_,_,rfl,AM,λa h=>by rw[Ae,gV];simp only[BD,E9,(oZ hw hn a h).Ac]⟩
def kG(s:Ai):YK (.func (.func 324) [] [.CH [.str s]]) (C2 s):=⟨_,_,rfl,AM,λa h=>by
 rw[Ae,iS];simp only[BD,E9,wv,C2];refine⟨λh1=>by simp[h1],λh1=>?_⟩;rw[CS];refine⟨λh2=>?_,λh2=>?_⟩
 .have h2:a.name∉Gx:=by simpa using h2
  simp[h2]
 .have h2:a.name∈Gx:=by simpa using h2
  have h1:a.Bc=1:=by simpa using h1
  simp[h2,h1]⟩
def ZP:YK (.func (.func 341) [] []) CJ:=⟨_,_,rfl,AM,λa h=>by
 rw[Ae,jG];simp only[BD,E9,wz,CJ];refine⟨λh1=>by simp[h1],λh1=>?_⟩;have h1:a.Bc=1:=by simpa using h1
 simp[h1]⟩
def kH(node:Int):YK (.func (.func 328) [] [.CH [I node]]) (Br node):=⟨_,_,rfl,AM,λa h=>by rw[Ae,iW];simp only[BD,E9,Br]⟩
def aDx{id o:Nat}(hs:L1 h id o l)(hb:l.length<=1000000000)(s:Ai):
  ∃u,BL cx 179 [Pt id o,.str s] h (I ((l.length:Int)-((Dq (C2 s) Cu l).length:Int))) (put h id o u)/\BY (Dq (C2 s) Cu l) u:=by
 obtain⟨u,hr,hu⟩:=ō hs hb (kG s) OJ;exact⟨u,by rw[Ae,gD];simp only[BD,hr.Ac],hu⟩
def f66{id o:Nat}(hs:L1 h id o l)(hb:l.length<=1000000000){w:Aa}{ws:List Ai}(hw:Im ws w)(hn:ws.length<=1000000000):
  ∃u,BL cx 84 [Pt id o,w] h (I ((l.length:Int)-((Dq Cu (Bn ws) l).length:Int))) (put h id o u)/\BY (Dq Cu (Bn ws) l) u:=by
 obtain⟨u,hr,hu⟩:=ō hs hb OJ (vB hw hn);exact⟨u,by rw[Ae,uX];simp only[BD,Im.cells hw,hr.Ac],hu⟩
def aMb{id o:Nat}(hs:L1 h id o l)(hb:l.length<=1000000000):
  ∃u,BL cx 195 [Pt id o] h (I ((l.length:Int)-((Dq CJ Cu l).length:Int))) (put h id o u)/\BY (Dq CJ Cu l) u:=by
 obtain⟨u,hr,hu⟩:=ō hs hb ZP OJ;exact⟨u,by rw[Ae,gP];simp only[BD,hr.Ac],hu⟩
def aG3{id o:Nat}(hs:L1 h id o l)(hb:l.length<=1000000000)(node:Int):
  ∃u,BL cx 185 [Pt id o,I node] h (I ((l.length:Int)-((GU node l).length:Int))) (put h id o u)/\BY (GU node l) u:=by
 by_cases FU:AT (Br node) l<0;.obtain⟨u,e,hu⟩:=hs.eJ;refine⟨u,?_,by rw[GU,Af FU];exact hu⟩;rw[GU,Af FU,Int.sub_self,Ae,Ww];simp only[BD,(ZN hs.at hb node).Ac,FU,AA,Av,Aq];exact e
 .obtain⟨u,hr,hu⟩:=ō hs hb OJ (kH node);refine⟨u,?_,by rw[GU,Ad FU];exact hu⟩;rw[GU,Ad FU,Ae,Ww];simp only[BD,(ZN hs.at hb node).Ac,FU,Az,Av,Aq,hr.Ac]
end
end
section
section
variable{h:Ah}{p v:Aa}{l:List Item}
def aMc(hv:BY l v){k:Nat}(hk:k<l.length)(hb:l.length<=1000000000):∃u,BL cx 369 [v,I (k:Int)] h u h/\BY (Bf l k) u:=by obtain⟨r,j,h1⟩:=AU.Ms hv (k:= .i64) (Ab:k<=l.length);obtain⟨q,i,h2⟩:=AU.Gy h1 (b:=40) (Rg (by rw[Aw];omega));obtain⟨m,g,d⟩:=AU.SN hv (k:= .i64) (Ab:k+1<=l.length);obtain⟨a,e,c⟩:=AU.eF h2 d (b:=40) (Rg (by rw[Aw,Bd];omega));refine⟨a,?_,c⟩;rw[Ae,jP];simp only[BD,j,i,BM (Ab:k<9223372036854775807),g,e]
def Ŏ{id o:Nat}(hs:L1 h id o l)(hb:l.length<=1000000000)(node:Int):∃u,BL cx 244 [Pt id o,I node] h (.bool (decide (1<=AT (Br node) l))) (put h id o u)/\BY (CW node l) u:=by
 by_cases FU:AT (Br node) l<1;.obtain⟨u,e,hu⟩:=hs.eJ;refine⟨u,?_,by rw[CW,Af FU];exact hu⟩;rw[Ae,WD,<-e];simp only[BD,(ZN hs.at hb node).Ac,FU,AA,Av,Aq,(Ab:¬1<=AT (Br node) l),DH]
 .rcases Dl (q:=Br node) (l:=l) with⟨h1,_⟩|⟨k,hk,h1,_⟩
  .rw[h1] at FU;omega
  .obtain⟨v,hc,hv⟩:=(show L1 h id o l from hs);obtain⟨u,hr,hu⟩:=aMc (h:=h) hv hk hb;refine⟨u,?_,by rw[CW,Ad FU,h1];exact hu⟩;rw[Ae,WD];simp only[BD,(ZN hs.at hb node).Ac,hc.load,Bv,h1];rw[h1] at FU;simp only[BD,hr.Ac,Bv,hc.store (BY.cells hu),show¬(k:Int)<1 from FU,Az,Av,Aq,(Ab:(1:Int)<=(k:Int)),Dz]
def aMd{id o:Nat}(hs:L1 h id o l)(hb:l.length<=1000000000)(a:Item)(i:Int):∃u,BL cx 336 [Pt id o,.agg a.row,I i] h (.tuple []) (put h id o u)/\BY (l.take (E0 i l.length)++a::l.drop (E0 i l.length)) u:=by
 obtain⟨v,hc,hv⟩:=(show L1 h id o l from hs);obtain⟨u,hr,hu⟩:=aGY (h:=h) hv a (n:=E0 i l.length) (by unfold E0;omega) hb;refine⟨u,?_,hu⟩;rw[Ae,jB];have c:(if(l.length:Int)<(if i<1 then 1 else i) then(l.length:Int) else(if i<1 then 1 else i))=((E0 i l.length:Nat):Int):=by unfold E0;split<;>split<;>omega
 simp only[BD,E9,R5,IU,hc.load,Bv,eB,AU.CN hv,tr,c,hr.Ac,hc.store (BY.cells hu)]
def aMe(hv:BY l v)(hne:l≠[])(hb:l.length<=1000000000):BL cx 429 [v] h (.CF h.length 0 l.length 4) (h++[.cells (l.map Item.row).flatten]):=by
 have d:AD (.Ga false .sl) [v,.slnil]=some (.bool false):=by
  rcases hv with rfl|⟨rfl,hv⟩
  .rfl
  .exact absurd (by simpa using hv) hne
 have c:AD (.Dm 4) []=some (.sl 4 []):=rfl;have a:=Lr (h:=h) (s:= .sl 4 []) (z:=4) (b:=40) (.inr rfl) hv (by simpa using hne) (by rw[An];exact Rg Ab);rw[An] at a;rw[Ae,kE];simp only[BD,d,c,a]
section
variable{id o n z:Nat}{v w:Aa}{X Y:DA}{AE:List (List Aa)}
def At.next(ha:At h id o v):(Am.put h id o w++[X])[h.length]?=some X/\At (Am.put h id o w++[X]) id o w/\(Am.put h id o w++[X]).set h.length Y=Am.put h id o w++[Y]:=by have e:=I7 (h:=h) (id:=id) (o:=o) (u:=w);refine⟨by rw[<-e];simp,ha.put.HJ,?_⟩;rw[BO _ _ Ab,<-e,De];rfl
def At.bg(ha:At h id o v)(hv:KA h v=some (h,v)):Mg h 0 (Pt id o)=some h:=by have a:=ha.same;obtain⟨cs,hc,e⟩:=ha;simp only[Mg,hc,Bv,e,hv,Cw];rw[Io hc] at a;rw[a]
def At.bh(ha:At h id o v)(hr:∀r∈AE,r.length=z):Mg (Am.put h id o (.CF h.length 0 AE.length z)++[.cells AE.flatten]) 0 (Pt id o)=some (Am.put h id o (.sl z AE)++[.CR]):=by obtain⟨d,c,a⟩:=ha.next (w:= .CF h.length 0 AE.length z) (X:= .cells AE.flatten) (Y:= .CR);have f1:=J0 hr d;rw[a] at f1;have a2:=(ha.next (w:= .CF h.length 0 AE.length z) (X:= .CR) (Y:= .CR)).2.1;obtain⟨cs,hc,e⟩:=c;obtain⟨SE,I0,g⟩:=a2;simp only[Mg,hc,Bv,e,f1,Cw,I0];rw[<-Io (u:= .sl z AE) I0,eI ha.put,eH]
end
def aMf{id o:Nat}(hs:L1 h id o l)(hb:l.length<=1000000000)(node:Int)(a:Item):∃u t,BL cx 407 [Pt id o,I node,.agg a.row] h (.bool (decide (1<=AT (Br node) l))) (put h id o u++t)/\BY (PZ node a l) u:=by
 obtain⟨v,hc,hv⟩:=(show L1 h id o l from hs);by_cases FU:AT (Br node) l<1;.refine⟨v,[],?_,by rw[PZ,Af FU];exact hv⟩;have c:=hc.bg (AU.Pk hv);rw[Ae,WO,hc.same,By];simp only[BD,E9,(ZN hs.at hb node).Ac,FU,AA,Av,Aq,c,(Ab:¬1<=AT (Br node) l),DH]
 .rcases Dl (q:=Br node) (l:=l) with⟨h1,_⟩|⟨k,hk,h1,_⟩
  .rw[h1] at FU;omega
  .have d:¬(k:Int)<1:=by rw[h1] at FU;exact FU
   have hne:l≠[]:=by intro e;subst e;simp at hk
   have hcl:=aMe (h:=h) hv hne hb;have j:=(hc.HJ (t:=[DA.cells (l.map Item.row).flatten])).store (u:= .CF h.length 0 l.length 4) rfl;rw[eI hc] at j;obtain⟨s,x,r⟩:=hc.next (w:= .CF h.length 0 l.length 4) (X:= .cells (l.map Item.row).flatten) (Y:= .cells ((l.map Item.row).set k a.row).flatten);have g:=Vb (z:=4) (ud l) s (i:=k) (by simpa using hk) (q:=a.row) rfl;rw[r] at g;have m:AD (.Fl 4) [.CF h.length 0 l.length 4,I (k:Int)]=some (Pt h.length (k*4)):=EY hk;have c:=hc.bh (nQ (ud l) (i:=k) (q:=a.row) rfl);rw[Bq,An] at c;refine⟨.sl 4 ((l.map Item.row).set k a.row),[.CR],?_,?_⟩;.rw[Ae,WO];simp only[BD,E9,(ZN hs.at hb node).Ac,h1,d,Az,Av,Aq,hc.load,Bv,hcl.Ac,j,x.load,m,g,c,(Ab:(1:Int)<=(k:Int)),Dz]
   .rw[PZ,Ad FU,h1,AY,BY,Eo];exact .mk
def o7(hv:BY l v)(hb:l.length<=1000000000)(i:Int):∃r h',BL cx 229 [v,I i] h r h'/\eK h (Km l i) r h':=by
 have DJ:AU 4 (l.map Item.row) v:=hv;obtain⟨k,hk,Ql,hc⟩:∃k,k=min (max 1 i.toNat) l.length/\k<=l.length/\Km l i=l.take k:=⟨_,rfl,Ab,by
  unfold Km;rcases Nat.le_total (max 1 i.toNat) l.length with h1|h1
  .rw[Cs h1]
  .rw[Nat.min_eq_right h1,Bx,AF h1]⟩
 obtain⟨u,e,hu⟩:=AU.Ms hv (k:= .i64) Ql;obtain⟨r,h',a,hr⟩:=ä (h:=h) (l:=l.take k) (v:=u) hu (by rw[Aw];omega);refine⟨r,h',?_,by rw[hc];exact hr⟩;rw[Ae,Ğ];simp only[BD,DJ.CN];refine⟨λh1=>⟨λh2=>?_,λh2=>?_⟩,λh1=>⟨λh2=>?_,λh2=>?_⟩⟩
 .have:(k:Int)=(l.length:Int):=by omega
  rw[this] at e;simp only[BD,e,a]
 .have:(k:Int)=1:=by omega
  rw[this] at e;simp only[BD,e,a]
 .have:(k:Int)=(l.length:Int):=by omega
  rw[this] at e;simp only[BD,e,a]
 .have:(k:Int)=i:=by omega
  rw[this] at e;simp only[BD,e,a]
def aDy(hv:BY l v)(hb:l.length<=1000000000):∃u t,BL cx 223 [v] h u (h++t)/\BY (Km l ((l.length:Int)-1)) u:=by obtain⟨r,h',hr,hc⟩:=o7 (h:=h) hv hb ((l.length:Int)-1);obtain⟨u,t,e,hu⟩:=hc.Pk;refine⟨u,t,?_,hu⟩;rw[Ae,Ě];simp only[BD,AU.CN hv,Da (Ab: -9223372036854775808<=(l.length:Int)-1) (Ab:(l.length:Int)-1<9223372036854775808),hr.Ac,e]
def aG4(hv:BY l v)(hb:l.length<=1000000000)(node:Int):∃u t,BL cx 219 [v,I node] h u (h++t)/\BY (GU node l) u:=by
 by_cases FU:AT (Br node) l<0
 .obtain⟨r,h',hr,hc⟩:=o7 (h:=h) hv hb (l.length:Int);obtain⟨u,t,e,hu⟩:=hc.Pk;have a:Km l (l.length:Int)=l:=by unfold Km;rw[AF Ab]
  refine⟨u,t,?_,by rw[Ve,Af FU];rwa [a] at hu⟩;rw[Ae,zL];simp only[BD,(ZO hv hb node).Ac,FU,AA,Av,Aq,AU.CN hv,hr.Ac,e]
 .obtain⟨r,h',hr,hc⟩:=o7 (h:=h) hv hb (AT (Br node) l);obtain⟨u,t,e,hu⟩:=hc.Pk;refine⟨u,t,?_,by rw[Ve,Ad FU];exact hu⟩;rw[Ae,zL];simp only[BD,(ZO hv hb node).Ac,FU,Az,Av,Aq,hr.Ac,e]
end
end
section
section
variable{h:Ah}{p v w:Aa}{l:List Item}{ws:List Ai}
def f85(hv:BY l v)(hb:l.length<=1000000000)(hw:Im ws w)(hn:ws.length<=1000000000):∃u t,BL cx 103 [v,w] h u (h++t)/\BY (Km l (AT (Bn ws) l)) u:=by
 have DJ:AU 4 (l.map Item.row) v:=hv;have I2:Ev cx 103 [v,w] h λr h'=>∃t,h'=h++t/\BY (Km l (AT (Bn ws) l)) r:=by
  unfold Ev;rw[õ];simp only[BD,DJ.CN,Da (Ab: -9223372036854775808<=(l.length:Int)-1) (Ab:(l.length:Int)-1<9223372036854775808)];refine Bi (λn:Nat=>[.slnil,I ((n:Int)-1)]) (λn h1=>n<=l.length/\AT (Bn ws) l=AT (Bn ws) (l.take n)/\h1=h) (λn=>n) l.length rfl ⟨Ag _,by rw[Bx],rfl⟩ ?_;rintro n h1 ⟨kh,ha,rfl⟩;cases n with
  |zero=>have i1:¬(0:Int)<=((0:Nat):Int)-1:=Ab;obtain⟨r,h',hr,hc⟩:=o7 (h:=h1) hv hb 1;obtain⟨u,t,e,hu⟩:=hc.Pk;rw[Ku,J3] at ha;simp only[BD,↓reduceIte,i1,Az,Av,Aq,hr.Ac,e];exact⟨_,rfl,t,rfl,by rw[ha,ue];exact hu⟩
  |succ n=>
   have a:((n+1:Nat):Int)-1=(n:Int):=Ab;obtain⟨r,h',hr,hc⟩:=o7 (h:=h1) hv hb (n:Int);obtain⟨u,t,e,hu⟩:=hc.Pk;rw[GR Ab] at ha;simp only[BD,Nat.reduceLeDiff,↓reduceIte,E9,a,(Ab:(0:Int)<=(n:Int)),AA,Av,Aq,DJ.BK (Ab:n<l.length),(f167 l[n] hw hn).Ac,hr.Ac,e,Da (Ab: -9223372036854775808<=(n:Int)-1) (Ab:(n:Int)-1<9223372036854775808)];rw[CS];refine⟨λhe=>?_,λhe=>?_⟩;.rw[Af he] at ha;exact⟨_,rfl,t,rfl,by rw[ha];exact hu⟩
   .rw[Ad (by simp[he])] at ha;exact AK.next n rfl ⟨Ab,ha,rfl⟩ Ab
 obtain⟨r,h',hr,t,rfl,hu⟩:=I2.ret;exact⟨r,t,hr,hu⟩
def f165(hv:BY l v)(hb:l.length<=1000000000)(hl:∀a∈l,a.name.length<9223372036854775807)(s:Ai)(all:Bool):∃u t,BL cx 216 [v,.str s,.bool all] h u (h++t)/\BY (Dq (EA s all) Cu l) u:=by
 have DJ:AU 4 (l.map Item.row) v:=hv;have I2:Ev cx 216 [v,.str s,.bool all] h λr h'=>∃t,h'=h++t/\BY (Dq (EA s all) Cu l) r:=by
  unfold Ev;rw[Ĕ];simp only[BD,DJ.CN];refine Bi (λn:Nat=>[I (n:Int)]) (λn h1=>n<=l.length/\(l=[]\/1<=n)/\Dq (EA s all) Cu l=Dq (EA s all) Cu (l.take n)/\h1=h) (λn=>n) l.length rfl ⟨Ag _,by cases l<;>simp,by rw[Bx],rfl⟩ ?_;rintro n h1 ⟨kh,h0,ha,rfl⟩;have HF:Dq (EA s all) Cu l=l.take n->∃u t,KA h1 u=some (h1++t,u):=λ_=>⟨.slnil,[],by rw[By];rfl⟩;obtain⟨r,h',hr,hc⟩:=o7 (h:=h1) hv hb (n:Int);obtain⟨u,t,e,hu⟩:=hc.Pk;have j:Km l (n:Int)=l.take n:=by
   unfold Km;rcases h0 with rfl|h0
   .simp
   .rw[AY,wR h0]
  rw[j] at hu;rcases AP 1 n with hlt|Eg
  .obtain⟨m,rfl⟩:∃m,n=m+2:=⟨n-2,Ab⟩;have hm:m+1<l.length:=Ab;have i1:(1:Int)<((m+2:Nat):Int):=Ab;have D:((m+2:Nat):Int)-1=((m+1:Nat):Int):=Ab;have hs:=hl _ (AL hm);rw[bB hm] at ha;have next:EA s all l[m+1]=false->AK cx (λn:Nat=>[I (n:Int)]) (λn h2=>n<=l.length/\(l=[]\/1<=n)/\Dq (EA s all) Cu l=Dq (EA s all) Cu (l.take n)/\h2=h1) (λn=>n)
     (λx C=>match x with
      | .normal=> .fail
      | .exit i=>if i=0 then .call 229 [v,g C 0] λy=> .Pk y λv22=> .ret .ret [v22] else .fail
      | .ret=> .Pk .slnil λq=> .ret .ret [q])
     (λx vs h'=>x=DX.ret/\∃r,vs=[r]/\∃t,h'=h1++t/\BY (Dq (EA s all) Cu l) r) (m+2) .normal [I ((m+1:Nat):Int)] h1:=λhf=>by
    rw[Ad (by simp[hf]),Ad (by simp[Cu])] at ha;exact AK.next (m+1) rfl ⟨Ab,.inr Ab,ha,rfl⟩ Ab
   have stop:EA s all l[m+1]=true->∃r,[u]=[r]/\∃A,h1++t=h1++A/\BY (Dq (EA s all) Cu l) r:=λhf=>by rw[Af hf] at ha;exact⟨_,rfl,t,rfl,by rw[ha];exact hu⟩
   simp only[BD,Nat.reduceLeDiff,↓reduceIte,E9,i1,AA,Av,Aq,Da (Ab: -9223372036854775808<=((m+2:Nat):Int)-1) (Ab:((m+2:Nat):Int)-1<9223372036854775808),D,DJ.BK hm,xa hs,xb hs,hr.Ac,e];cases all with
   |true=>
    simp only[BD,R2];refine⟨λd=>stop (by simp[EA,CJ,d]),λd=>?_⟩;rw[CS];refine⟨λc=>stop ?_,λc=>?_⟩;.simp at c;simp[EA,CJ,c]
    .simp at d c;exact next (by simp[EA,CJ,d];exact c)
   |false=>
    simp only[BD,IU];refine⟨λd=>stop (by simp[EA,C2,d]),λd=>?_⟩;rw[CS];refine⟨λc=>stop ?_,λc=>?_⟩;.simp at c;simp[EA,C2,c]
    .refine⟨λB=>stop (by simp[EA,C2,B]),λB=>?_⟩;simp at d c;exact next (by simp[EA,C2,d,c,B])
  .have i1:¬(1:Int)<(n:Int):=by omega
   rw[Yb (l:=l.take n) (by rw[Aw];omega)] at ha;simp only[BD,↓reduceIte,i1,Az,Av,Aq,hr.Ac,e];exact⟨_,rfl,t,rfl,by rw[ha];exact hu⟩
 obtain⟨r,h',hr,t,rfl,hu⟩:=I2.ret;exact⟨r,t,hr,hu⟩
def aG7(hv:BY l v)(hb:l.length<=1000000000)(node:Int):∃u t,BL cx 138 [v,I node] h (.tuple [u,.bool (decide (1<=AT (Br node) l))]) (h++t)/\BY (CW node l) u:=by
 have m:∀(h:Ah) b,KA h (.bool b)=some (h,.bool b):=λ_ _=>rfl;by_cases FU:AT (Br node) l<1
 .obtain⟨r,h',hr,hc⟩:=o7 (h:=h) hv hb (l.length:Int);obtain⟨u,t,e,hu⟩:=hc.Pk;have C:Km l (l.length:Int)=l:=by unfold Km;rw[AF Ab]
  refine⟨u,t,?_,by rw[CW,Af FU];rwa [C] at hu⟩;rw[Ae,fO];simp only[BD,(ZO hv hb node).Ac,FU,AA,Av,Aq,AU.CN hv,hr.Ac,e,m,(Ab:¬1<=AT (Br node) l),DH]
 .rcases Dl (q:=Br node) (l:=l) with⟨h1,_⟩|⟨k,hk,h1,_⟩
  .rw[h1] at FU;omega
  .have d:¬(k:Int)<1:=by rw[h1] at FU;exact FU
   obtain⟨r,h',hr,hc⟩:=o7 (h:=h) hv hb (k:Int);have i:Km l (k:Int)=l.take k:=by unfold Km;rw[AY,wR Ab]
   rw[i] at hc;rcases hc with⟨h2,_⟩|⟨hne,rfl,rfl⟩
   .have:=Ca List.length h2;rw[Aw,BJ] at this;omega
   .obtain⟨y,s,j⟩:=AU.SN hv (k:= .i64) (Ab:k+1<=l.length);have A:(l.take k).length=k:=by rw[Aw];omega
    have x:(h++[DA.cells ((l.take k).map Item.row).flatten])[h.length]?=some (.cells ((l.take k).map Item.row).flatten):=AH;have c:=ud (l.take k);have g:((l.take k).map Item.row).length=(l.take k).length:=An ..;by_cases hd:l.drop (k+1)=[]
    .have a:Gb (h++[DA.cells ((l.take k).map Item.row).flatten]) 4 40 (.CF h.length 0 (l.take k).length 4) y=some (h++[DA.cells ((l.take k).map Item.row).flatten],.CF h.length 0 (l.take k).length 4):=tK (by rw[hd] at j;exact j);have f1:=J0 c x;rw[g,BO _ _ (Ag _),De] at f1;refine⟨.sl 4 ((l.take k).map Item.row),[.CR],?_,?_⟩;.rw[Ae,fO];simp only[BD,(ZO hv hb node).Ac,h1,d,Az,Av,Aq,BM (Ab:k<9223372036854775807),s,hr.Ac,a,f1,m,Qf,(Ab:(1:Int)<=(k:Int)),Dz]
     .rw[CW,Ad FU,h1,AY,Bf,hd,By];exact .mk
    .have a:=JN (b:=40) c AM x j (by simpa using hd) (by rw[An,An,Aw,Bd];exact Rg Ab);rw[g,An] at a;rw[BO _ _ (Ag _),De,Qf,AI] at a;have D:(h++([DA.CR]++[DA.cells ((l.take k).map Item.row++(l.drop (k+1)).map Item.row).flatten]))[h.length+1]?=some (.cells ((Bf l k).map Item.row).flatten):=by rw[Bm Ab];simp[Bf]
     have f1:=J0 (ud (Bf l k)) D;have qV:(Bf l k).length=(l.take k).length+(l.drop (k+1)).length:=by simp[Bf]
     rw[An,qV] at f1;have B:(h++[DA.CR,DA.cells ((l.take k).map Item.row++(l.drop (k+1)).map Item.row).flatten]).set (h.length+1) .CR=h++[.CR,.CR]:=by rw[BO _ _ Ab];simp
     simp only[Au,Be,CC,BR] at a f1;rw[B] at f1;refine⟨.sl 4 ((Bf l k).map Item.row),[.CR,.CR],?_,?_⟩;.rw[Ae,fO];simp only[BD,(ZO hv hb node).Ac,h1,d,Az,Av,Aq,BM (Ab:k<9223372036854775807),s,hr.Ac,a,f1,m,(Ab:(1:Int)<=(k:Int)),Dz]
     .rw[CW,Ad FU,h1,AY];exact .mk
def aMg(hv:BY l v)(hb:l.length<=1000000000)(a:Item)(i:Int):∃u,BL cx 357 [v,.agg a.row,I i] h u h/\BY (l.take (E0 i l.length)++a::l.drop (E0 i l.length)) u:=by
 have DJ:AU 4 (l.map Item.row) v:=hv;obtain⟨k,o8,hk⟩:∃k,k=E0 i l.length/\k<=l.length:=⟨_,rfl,by unfold E0;omega⟩;obtain⟨x,d,h1⟩:=AU.Ms hv (k:= .i64) hk;obtain⟨t,j,h2⟩:=AU.Gy h1 (b:=40) (Rg (by rw[Aw];omega));have g:=AU.J2 (a:=a) h2 (b:=40) (Rg (by rw[Aw];omega));obtain⟨s,c,r⟩:=AU.SN hv (k:= .i64) hk;obtain⟨q,e,m⟩:=AU.eF (v:= .sl 4 ((l.take k++[a]).map Item.row)) .mk r (b:=40) (Rg (by rw[Au,Aw,Bd,Be];omega));refine⟨q,?_,by rw[AI] at m;rw[<-o8];exact m⟩;rw[Ae,Ļ];simp only[BD,E9,DJ.CN];unfold E0 at o8;refine⟨λh1=>⟨λh2=>?_,λh2=>?_⟩,λh1=>⟨λh2=>?_,λh2=>?_⟩⟩
 .have:(k:Int)=(l.length:Int):=by omega
  rw[this] at d c;simp only[BD,d,j,Mt,g,c,e]
 .have:(k:Int)=1:=by omega
  rw[this] at d c;simp only[BD,d,j,Mt,g,c,e]
 .have:(k:Int)=(l.length:Int):=by omega
  rw[this] at d c;simp only[BD,d,j,Mt,g,c,e]
 .have:(k:Int)=i:=by omega
  rw[this] at d c;simp only[BD,d,j,Mt,g,c,e]
end
end
section
section
variable{e:Cl}{d:Aa}
end
section
variable{h:Ah}{v:Aa}{l:List Cl}{id o:Nat}
def f99(hc:At h id o v)(hv:Dw l v)(hb:l.length<=1000000000):BL cx 198 [Pt id o] h (I (since l)) h:=by
 have hv:AU 3 (l.map Cl.row) v:=hv;rw[Ae,gS];simp only[BD,hc.load,Bv,hv.CN];refine Bi (λn:Nat=>[I (n:Int)]) (λn h1=>n<=l.length/\since l=since (l.take n)/\h1=h) (λn=>n) l.length rfl ⟨Ag _,by rw[Bx],rfl⟩ ?_;rintro n h1 ⟨hn,ha,rfl⟩;cases n with
 |zero=>simp only[BD,(Ab:¬(0:Int)<((0:Nat):Int)),Az,Av,Aq,ha,jl];rfl
 |succ n=>rw[Yh hn] at ha;simp only[BD,(Ab:(0:Int)<((n+1:Nat):Int)),AA,Av,Aq,hc.load,Bv,Il (Ab:0<n+1) (Ab:n+1<9223372036854775807),E8,hv.BK (show n<l.length from hn),Cl.at0];refine⟨λh0=>AK.next n rfl ⟨Ab,by rw[ha,Ad h0],rfl⟩ Ab,λh0=>?_⟩;rw[Af (by simpa using h0)] at ha;rw[ha];rfl
def ŏ(hv:Dw l v)(hb:l.length<=1000000000):BL cx 228 [v] h (I (since l)) h:=by
 have hv:AU 3 (l.map Cl.row) v:=hv;rw[Ae,ĝ];refine Bi (λn:Nat=>[I (since (l.take n)),I (n:Int)]) (λn h1=>n<=l.length/\h1=h) (λn=>l.length-n) 0 rfl ⟨AV _,rfl⟩ ?_;rintro n h1 ⟨hn,rfl⟩;rcases AP n l.length with hlt|Eg
 .have i1:(n:Int)<(l.length:Int):=by omega
  have a:=Yh hlt;simp only[BD,hv.CN,i1,AA,Av,Aq,hv.BK hlt,Cl.at0,BM (Ab:n<9223372036854775807)];refine⟨λh0=>?_,λh0=>?_⟩;.rw[Af h0] at a;exact AK.next (n+1) (by rw[a];rfl) ⟨hlt,rfl⟩ Ab
  .rw[Ad h0] at a;exact AK.next (n+1) (by rw[a]) ⟨hlt,rfl⟩ Ab
 .have i1:¬(n:Int)<(l.length:Int):=by omega
  simp only[BD,hv.CN,i1,Az,Av,Aq,AF Eg]
def aMh(hc:At h id o v)(hv:Dw l v)(hb:l.length<=1000000000)(name:Ai):BL cx 330 [Pt id o,.str name] h (I (NU name l)) h:=by
 have hv:AU 3 (l.map Cl.row) v:=hv;rw[Ae,iY];simp only[BD,Ib,hc.load,Bv,hv.CN,Da (Ab: -9223372036854775808<=(l.length:Int)-1) (Ab:(l.length:Int)-1<9223372036854775808)];refine Bi (λn:Nat=>[I 0,I ((n:Int)-1)]) (λn h1=>n<=l.length/\NU name l=NU name (l.take n)/\h1=h) (λn=>n) l.length rfl ⟨Ag _,by rw[Bx],rfl⟩ ?_;rintro n h1 ⟨hn,ha,rfl⟩;cases n with
 |zero=>have i1:¬(0:Int)<=((0:Nat):Int)-1:=Ab;rw[ha];simp only[BD,i1,Az,Av,Aq,jm]
 |succ n=>
  have a:((n+1:Nat):Int)-1=(n:Int):=Ab;rw[RM hn] at ha;simp only[BD,a,(Ab:(0:Int)<=(n:Int)),AA,Av,Aq,hc.load,Bv,hv.BK (show n<l.length from hn),Cl.at0,Cl.yK,Da (Ab: -9223372036854775808<=(n:Int)-1) (Ab:(n:Int)-1<9223372036854775808)];refine⟨λh0=>⟨λh1=>?_,λh1=>?_⟩,λh0=>?_⟩;.rw[ha,Ad h0,Af h1]
  .exact AK.next n rfl ⟨Ab,by rw[ha,Ad h0,Ad h1],rfl⟩ Ab
  .rw[ha,Af (by simpa using h0)]
def aMi(hv:Dw l v)(hb:l.length<=1000000000)(name:Ai):BL cx 353 [v,.str name] h (I (NU name l)) h:=by
 have DJ:AU 3 (l.map Cl.row) v:=hv;obtain⟨s,es,JV,c,g⟩:=JO l;have f:=ŏ (h:=h) hv hb;rw[es] at f;rw[Ae,ĸ];simp only[f.Ac];refine Bi (λn:Nat=>[I (NU name (l.take n)),I (n:Int)]) (λn h1=>s<=n/\n<=l.length/\h1=h) (λn=>l.length-n) s (by rw[oB es]) ⟨Ag _,JV,rfl⟩ ?_;rintro n h1 ⟨b,hn,rfl⟩;rcases AP n l.length with hlt|Eg
 .have i1:(n:Int)<(l.length:Int):=by omega
  have a:=RM (name:=name) hlt;rw[Ad (c n hlt b)] at a;simp only[BD,DJ.CN,i1,AA,Av,Aq,DJ.BK hlt,Cl.yK,BM (Ab:n<9223372036854775807)];refine⟨λh0=>?_,λh0=>?_⟩;.rw[Af h0] at a;exact AK.next (n+1) (by rw[a]) ⟨Ab,hlt,rfl⟩ Ab
  .rw[Ad h0] at a;exact AK.next (n+1) (by rw[a]) ⟨Ab,hlt,rfl⟩ Ab
 .have i1:¬(n:Int)<(l.length:Int):=by omega
  simp only[BD,DJ.CN,i1,Az,Av,Aq,AF Eg]
def f41(hc:At h id o v)(hv:Dw l v)(hb:l.length<=1000000000)(node:Int):BL cx 188 [Pt id o,I node] h (I (Hy node l)) h:=by
 have hv:AU 3 (l.map Cl.row) v:=hv;rw[Ae,gK];simp only[BD,Ib,hc.load,Bv,hv.CN,Da (Ab: -9223372036854775808<=(l.length:Int)-1) (Ab:(l.length:Int)-1<9223372036854775808)];refine⟨λh0=>by rw[Hy,Af h0],λh0=>?_⟩;rw[Hy,Ad h0];refine Bi (λn:Nat=>[I 0,I ((n:Int)-1)]) (λn h1=>n<=l.length/\AT (P1 node) l=AT (P1 node) (l.take n)/\h1=h) (λn=>n) l.length rfl ⟨Ag _,by rw[Bx],rfl⟩ ?_;rintro n h1 ⟨hn,ha,rfl⟩;cases n with
 |zero=>have i1:¬(0:Int)<=((0:Nat):Int)-1:=Ab;rw[ha];simp only[BD,i1,Az,Av,Aq,J3]
 |succ n=>
  have a:((n+1:Nat):Int)-1=(n:Int):=Ab;rw[GR hn] at ha;simp only[BD,a,(Ab:(0:Int)<=(n:Int)),AA,Av,Aq,hc.load,Bv,hv.BK (show n<l.length from hn),Cl.at0,Da (Ab: -9223372036854775808<=(n:Int)-1) (Ab:(n:Int)-1<9223372036854775808)];refine⟨λh1=>?_,λh1=>?_⟩;.rw[ha,Af (by simpa[P1] using h1)]
  .exact AK.next n rfl ⟨Ab,by rw[ha,Ad (by simpa[P1] using h1)],rfl⟩ Ab
def aMk(hv:Dw l v)(hb:l.length<=1000000000)(node:Int):BL cx 222 [v,I node] h (I (Hy node l)) h:=by
 have DJ:AU 3 (l.map Cl.row) v:=hv;rw[Ae,ę];refine Bi (λn:Nat=>[I (Hy node (l.take n)),I (n:Int)]) (λn h1=>n<=l.length/\h1=h) (λn=>l.length-n) 0 (by simp[Hy,J3]) ⟨AV _,rfl⟩ ?_;rintro n h1 ⟨hn,rfl⟩;rcases AP n l.length with hlt|Eg
 .have i1:(n:Int)<(l.length:Int):=by omega
  have a:Hy node (l.take (n+1))=if node=0 then -1 else if l[n].c.node=node then(n:Int) else AT (P1 node) (l.take n):=by unfold Hy;rw[GR hlt];simp[P1]
  simp only[BD,DJ.CN,i1,AA,Av,Aq,DJ.BK hlt,Cl.at0,BM (Ab:n<9223372036854775807)];refine⟨λh0=>⟨λh1=>?_,λh1=>?_⟩,λh0=>?_⟩;.exact AK.next (n+1) (by rw[a,Ad h0,Af h1]) ⟨hlt,rfl⟩ Ab
  .exact AK.next (n+1) (by rw[a,Ad h0,Ad h1,Hy,Ad h0]) ⟨hlt,rfl⟩ Ab
  .have h0:node=0:=by simpa using h0
   exact AK.next (n+1) (by rw[a,Af h0,Hy,Af h0]) ⟨hlt,rfl⟩ Ab
 .have i1:¬(n:Int)<(l.length:Int):=by omega
  simp only[BD,DJ.CN,i1,Az,Av,Aq,AF Eg]
end
section
variable{h:Ah}{v:Aa}{l:List A5}
def aG9(hv:Bt l v)(hb:l.length<=1000000000)(x:A5):BL cx 382 [v,.agg x.row] h (.bool (decide (x∈l))) h:=by
 have hv:AU 3 (l.map A5.row) v:=hv;rw[Ae,ŀ];simp only[BD,A5.CP,A5.g0,A5.g1,A5.g2,A5.PX];refine Bi (λn:Nat=>[.bool false,I (n:Int)]) (λn h1=>n<=l.length/\x∉l.take n/\h1=h) (λn=>l.length-n) 0 rfl ⟨AV _,AH,rfl⟩ ?_;rintro n h1 ⟨hn,ha,rfl⟩;rcases AP n l.length with hlt|Eg
 .have i1:(n:Int)<(l.length:Int):=by omega
  simp only[BD,hv.CN,i1,AA,Av,Aq,hv.BK hlt,A5.CP,A5.H7,Ag,nY,zw,BM (Ab:n<9223372036854775807)];refine⟨λh0=>?_,λh0=>?_⟩
  .have:x∈l:=by rw[<-h0];exact AL hlt
   simp[this]
  .refine AK.next (n+1) rfl ⟨hlt,?_,rfl⟩ Ab;rw[AB hlt,Ax,MN];exact⟨ha,by simpa using λe=>h0 e.symm⟩
 .have i1:¬(n:Int)<(l.length:Int):=by omega
  rw[AF Eg] at ha;simp only[BD,hv.CN,i1,Az,Av,Aq,Ap ha]
def aMl(hv:Bt l v)(hb:l.length<=1000000000)(x:A5):BL cx 425 [v,.agg x.row] h (I (Cn (λa=>decide (x=a)) 0 l)) h:=by
 have hv:AU 3 (l.map A5.row) v:=hv;rw[Ae,j8];simp only[BD,hv.CN,A5.CP,A5.g0,A5.g1,A5.g2,A5.PX];refine Bi (λn:Nat=>[I 0,I (n:Int)]) (λn h1=>n<=l.length/\Cn (λa=>decide (x=a)) 0 l=Cn (λa=>decide (x=a)) n (l.drop n)/\h1=h) (λn=>l.length-n) 0 rfl ⟨AV _,rfl,rfl⟩ ?_;rintro n h1 ⟨hn,ha,rfl⟩;rcases AP n l.length with hlt|Eg
 .have i1:(n:Int)<(l.length:Int):=by omega
  rw[AG hlt,Cn] at ha;simp only[BD,i1,AA,Av,Aq,hv.BK hlt,A5.CP,A5.H7,Ag,nY,zw,BM (Ab:n<9223372036854775807)];refine⟨λh0=>?_,λh0=>?_⟩;.rw[ha,Af (by simpa using h0)]
  .exact AK.next (n+1) rfl ⟨hlt,by rw[ha,Ad (by simpa using h0)],rfl⟩ Ab
 .have i1:¬(n:Int)<(l.length:Int):=by omega
  rw[AW Eg,Cn] at ha;simp only[BD,i1,Az,Av,Aq,ha]
def aMm(hv:Bt l v)(hb:l.length<=1000000000)(x:A5):BL cx 401 [v,.agg x.row] h (.bool (decide (x∈l))) h:=by
 rw[Ae,jY];simp only[BD,A5.CP,A5.g0,A5.g1,A5.g2,A5.PX,(aMl hv hb x).Ac];rcases HP (p:=λa=>decide (x=a)) (l:=l) (k:=0) with⟨h1,h2⟩|⟨n,a,h1,h2,b⟩
 .rw[h1];have:x∉l:=λhm=>by have:=Js.1 h2 x hm;simp at this
  simp[this]
 .have hm:=CD h2;have he:x=a:=by simpa using Vr b
  have hx:x∈l:=by rw[he];exact hm
  rw[h1];simp[hx]
def o9(F:Aa)(h:Ah)(q:A5->Bool):Prop:=∃f caps,F= .func (.func f) [] caps/\f<=99999/\∀a:A5,BL cx f (.agg a.row::caps) h (.bool (q a)) h
def aHa{F:Aa}{q:A5->Bool}(hv:Bt l v)(hb:l.length<=1000000000)(hF:o9 F h q):BL cx 309 [v,F] h (I (Cn q 0 l)) h:=by
 have hv:AU 3 (l.map A5.row) v:=hv;obtain⟨f,caps,rfl,hf,hr⟩:=hF;rw[Ae,S7];simp only[BD,hv.CN];refine Bi (λn:Nat=>[I 0,I (n:Int)]) (λn h1=>n<=l.length/\Cn q 0 l=Cn q n (l.drop n)/\h1=h) (λn=>l.length-n) 0 rfl ⟨AV _,rfl,rfl⟩ ?_;rintro n h1 ⟨kh,ha,rfl⟩;rcases AP n l.length with hlt|Eg
 .have i1:(n:Int)<(l.length:Int):=by omega
  rw[AG hlt,Cn] at ha;simp only[BD,↓reduceIte,Dp,hf,i1,AA,Av,Aq,hv.BK hlt,A5.CP,A5.H7,Ag,(hr l[n]).Ac];rw[CS];refine⟨λhe=>?_,λhe=>?_⟩;.rw[ha,Af he]
  .rw[Ad (by simp[he])] at ha;simp only[BD,BM (Ab:n<9223372036854775807)];exact AK.next (n+1) rfl ⟨hlt,ha,rfl⟩ Ab
 .have i1:¬(n:Int)<(l.length:Int):=by omega
  rw[AW Eg,Cn] at ha;simp only[BD,↓reduceIte,Dp,hf,i1,Az,Av,Aq,ha]
def aHb{F:Aa}{q:A5->Bool}(hv:Bt l v)(hb:l.length<=1000000000)(hF:o9 F h q):BL cx 191 [v,F] h (.bool (l.any q)) h:=by
 rw[Ae,Wx];simp only[BD,(aHa hv hb hF).Ac];have:l.any q=(l.find? q).isSome:=by rw[OU,List.find?_isSome,TF]
 rw[this];rcases HP (p:=q) (l:=l) (k:=0) with⟨h1,h2⟩|⟨n,a,h1,h2,b⟩
 .rw[h1,h2];simp
 .rw[h1,b];simp
def aMn(hv:Bt l v)(hb:l.length<=1000000000)(x:A5):BL cx 400 [.agg x.row,.CH [v]] h (.bool (!decide (x∈l))) h:=by rw[Ae,jX];simp only[BD,A5.CP,A5.g0,A5.g1,A5.g2,A5.PX,(aMm hv hb x).Ac]
def aHc{b:List A5}{w:Aa}(hv:Bt l v)(hb:l.length<=1000000000)(hw:Bt b w)(Od:b.length<=1000000000):BL cx 399 [v,w] h (.bool (decide (∀x∈l,x∈b))) h:=by
 have hF:o9 (.func (.func 400) [] [.CH [w]]) h λx=> !decide (x∈b):=⟨400,_,rfl,AM,λa=>aMn hw Od a⟩;have e:(!l.any λx=> !decide (x∈b))=decide (∀x∈l,x∈b):=by rw[OU];simp
 rw[Ae,jW,<-e];simp only[BD,AU.cells hw,(aHb hv hb hF).Ac]
def aMo{a b:Cl}(ha:ZL a)(hb:ZL b):BL cx 317 [.agg a.row,.agg b.row] h (.bool (GG a.c b.c)) h:=by
 have g:=aHc (h:=h) a.ok ha b.ok hb;have r2:=aHc (h:=h) b.ok hb a.ok ha;rw[Ae,iM];simp only[BD,Nat.reduceLeDiff,↓reduceIte,Dp,By,Cl.CP,Cl.g1,Cl.g2,Cl.æ,g.Ac,r2.Ac];refine⟨λh1=>⟨λh2=>⟨λf=>?_,λf=>?_⟩,λh2=>?_⟩,λh1=>?_⟩
 .have aI:a.c.Ay.length=b.c.Ay.length:=by omega
  simp only[GG,h1,aI,MO];congr 3
  rw[eq_iff_iff];exact⟨λh=>⟨f,h⟩,λh=>h.2⟩
 .simp[GG,f]
 .have aI:¬a.c.Ay.length=b.c.Ay.length:=by omega
  simp[GG,aI]
 .simp[GG,h1]
def f241{a b:Cl}(ha:ZL a)(hb:ZL b):BL cx 282 [.agg a.row,.agg b.row] h (.bool (GG a.c b.c)) h:=by
 have i:AU 3 (a.c.Ay.map A5.row) a.v:=a.ok;have vb:AU 3 (b.c.Ay.map A5.row) b.v:=b.ok;unfold ZL at ha hb;rw[Ae,Ĥ];simp only[BD,Cl.CP,Cl.g1,Cl.g2,Cl.æ];refine⟨λh1=>?_,λh1=>⟨λh2=>?_,λh2=>?_⟩⟩;.simp[GG,h1]
 .have aI:¬a.c.Ay.length=b.c.Ay.length:=by omega
  simp[GG,aI]
 have h1:a.c.name=b.c.name:=by simpa using h1
 have h2:a.c.Ay.length=b.c.Ay.length:=Ab;refine Bi (λn:Nat=>[.bool false,I (n:Int)]) (λn h1=>n<=a.c.Ay.length/\(∀x∈a.c.Ay.take n,x∈b.c.Ay)/\(∀x∈b.c.Ay.take n,x∈a.c.Ay)/\h1=h) (λn=>a.c.Ay.length-n) 0 rfl ⟨AV _,AH,AH,rfl⟩ ?_;rintro n h1 ⟨hn,ZB,Pb,rfl⟩;rcases AP n a.c.Ay.length with hlt|Eg
 .have i1:(n:Int)<(a.c.Ay.length:Int):=by omega
  have Ő:n<b.c.Ay.length:=Ab;have k:=AL hlt;have j:=AL Ő;simp only[BD,Cl.æ,i1,AA,Av,Aq,i.BK hlt,vb.BK Ő,A5.CP,A5.H7,Ag,(aG9 b.ok hb _).Ac,(aG9 a.ok ha _).Ac,BM (Ab:n<9223372036854775807)];rw[CS,CS];refine⟨λg=>?_,λg=>⟨λf=>?_,λf=>?_⟩⟩
  .have g:a.c.Ay[n]∉b.c.Ay:=by simpa using g
   have:GG a.c b.c=false:=by simp only[GG,TA];exact λh=>g (h.2.2.1 _ k)
   rw[this]
  .have f:b.c.Ay[n]∉a.c.Ay:=by simpa using f
   have:GG a.c b.c=false:=by simp only[GG,TA];exact λh=>f (h.2.2.2 _ j)
   rw[this]
  .have g:a.c.Ay[n]∈b.c.Ay:=by simpa using g
   have f:b.c.Ay[n]∈a.c.Ay:=by simpa using f
   refine AK.next (n+1) rfl ⟨hlt,?_,?_,rfl⟩ Ab
   .rw[AB hlt];intro x hx;rcases Ax.1 hx with hx|hx
    .exact ZB x hx
    .rw[BG.1 hx];exact g
   .rw[AB Ő];intro x hx;rcases Ax.1 hx with hx|hx
    .exact Pb x hx
    .rw[BG.1 hx];exact f
 .have i1:¬(n:Int)<(a.c.Ay.length:Int):=by omega
  rw[AF Eg] at ZB;rw[AF Ab] at Pb;have:GG a.c b.c=true:=by simp only[GG,C0];exact⟨by assumption,h2,ZB,Pb⟩
  rw[this];simp only[BD,Cl.æ,i1,Az,Av,Aq]
end
end
section
def BI{Q:HG}{h:Ah}{a:Aa}{k:IT}:W cx (.same a a k) Q h↔W cx k Q h:=by refine⟨λhw=>?_,oz (Aa.SR a)⟩;obtain⟨m,x',HZ,h',hr,q⟩:=hw.succ;simp only[IT.step,Aa.SR,BN] at hr;exact C9 ⟨m,x',HZ,h',hr,q⟩
section
variable{h:Ah}{v:Aa}{l:List Cl}{id o:Nat}
def f45{l:List A5}(hv:Bt l v)(hb:l.length<=1000000000):∃u,BL cx 147 [v] h u h/\Bt l u:=by
 have hv:AU 3 (l.map A5.row) v:=hv;rcases hv with rfl|⟨rfl,hn⟩
 .refine⟨.sl 3 (l.map A5.row),?_,.mk⟩;have b:AD (.Ga false .sl) [.sl 3 (l.map A5.row),.slnil]=some (.bool false):=rfl;have f:AD (.Dm 3) []=some (.sl 3 []):=rfl;have c:Q3 h 3 40 (.sl 3 []) (.sl 3 (l.map A5.row))=some (.sl 3 (l.map A5.row)):=by
   simp only[Q3,GZ,BN,Cw];cases l with
   |nil=>rfl
   |cons a l=>have:(l.length+1)*40<=AX:=Rg (by simp at hb;omega);simp[DO,this]
  rw[Ae,Wp,aDj];simp only[BD,b,f,c]
 .refine⟨.slnil,?_,?_⟩;.have b:AD (.Ga false .sl) [.slnil,.slnil]=some (.bool true):=rfl;rw[Ae,Wp,aDj];simp only[BD,b]
  .exact .inr ⟨rfl,hn⟩
def xc{e:Cl}(he:ZL e):∃a:Cl,a.c=e.c/\BL cx 319 [.agg e.row] h (.agg a.row) h:=by obtain⟨u,r,hu⟩:=f45 (h:=h) e.ok he;refine⟨⟨e.c,u,hu⟩,rfl,?_⟩;rw[Ae,iO];simp only[BD,Cl.CP,Cl.g0,Cl.g1,Cl.g2,r.Ac,AU.cells hu];rfl
def aMp{e:Cl}(he:ZL e):∃a:Cl,a.c=e.c/\BL cx 227 [.agg e.row] h (.agg a.row) h:=by obtain⟨u,r,hu⟩:=AU.Gy (f:=A5.row) e.ok (b:=40) (Rg (by unfold ZL at he;omega));refine⟨⟨e.c,u,hu⟩,rfl,?_⟩;rw[Ae,Ĝ];simp only[BD,Cl.CP,Cl.g0,Cl.g1,Cl.g2,r,AU.cells hu];rfl
def aMq(hv:Dw l v){k:Nat}(hk:k<l.length)(hb:l.length<=1000000000):∃u,BL cx 318 [v,I (k:Int)] h u h/\Dw (Bf l k) u:=by obtain⟨r,m,h1⟩:=AU.Ms hv (k:= .i64) (Ab:k<=l.length);obtain⟨q,j,h2⟩:=AU.Gy h1 (b:=48) (P0 (by rw[Aw];omega));obtain⟨p,i,f⟩:=AU.SN hv (k:= .i64) (Ab:k+1<=l.length);obtain⟨a,g,c⟩:=AU.eF h2 f (b:=48) (P0 (by rw[Aw,Bd];omega));refine⟨a,?_,c⟩;rw[Ae,iN];simp only[BD,m,j,BM (Ab:k<9223372036854775807),i,g]
def xd(hv:Dw l v)(e:Cl){k:Nat}(hk:k<=l.length)(hb:l.length<=1000000000):∃u,BL cx 196 [v,.agg e.row,I (k:Int)] h u h/\Dw (l.take k++e::l.drop k) u:=by obtain⟨x,r,h1⟩:=AU.Ms hv (k:= .i64) hk;obtain⟨w,q,h2⟩:=AU.Gy h1 (b:=48) (P0 (by rw[Aw];omega));have p:=AU.J2 (a:=e) h2 (b:=48) (P0 (by rw[Aw];omega));obtain⟨t,m,i⟩:=AU.SN hv (k:= .i64) hk;obtain⟨g,j,c⟩:=AU.eF (f:=Cl.row) (l:=l.take k++[e]) .mk i (b:=48) (P0 (by rw[Au,Aw,Bd,Be];omega));refine⟨g,?_,by rw[AI] at c;exact c⟩;rw[Ae,gQ];simp only[BD,Cl.CP,Cl.g0,Cl.g1,Cl.g2,Cl.PX,r,q,Mc Cl.CP,p,m,j]
def aDz(hv:Dw l v)(hne:l≠[])(hb:l.length<=1000000000):BL cx 181 [v] h (.CF h.length 0 l.length 3) (h++[.cells (l.map Cl.row).flatten]):=by
 have f:AD (.Ga false .sl) [v,.slnil]=some (.bool false):=by
  rcases hv with rfl|⟨rfl,hv⟩
  .rfl
  .exact absurd (by simpa using hv) hne
 have c:AD (.Dm 3) []=some (.sl 3 []):=rfl;have a:=Lr (h:=h) (s:= .sl 3 []) (z:=3) (b:=48) (.inr rfl) hv (by simpa using hne) (by rw[An];exact P0 Ab);rw[An] at a;rw[Ae,S6];simp only[BD,f,c,a]
def f63(hs:T5 h id o l)(hb:l.length<=1000000000):∃u,BL cx 80 [Pt id o] h (.tuple []) (put h id o u)/\Dw (l++[eM]) u:=by obtain⟨v,hc,hv⟩:=(show T5 h id o l from hs);obtain⟨u,hr,hu⟩:=xd (h:=h) hv eM (Ag l.length) hb;rw[Bx,Ep] at hu;refine⟨u,?_,hu⟩;rw[Ae,uV];simp only[BD,↓reduceIte,AR,R5,IU,hc.load,Bv,AU.CN hv,uf,hr.Ac,hc.store (Dw.cells hu)]
def aMr(hs:T5 h id o l)(hb:l.length<=1000000000){e:Cl}(he:ZL e)(i:Int):∃u a,a.c=e.c/\BL cx 335 [Pt id o,.agg e.row,I i] h (.tuple []) (put h id o u)/\Dw (l.take (CI i l.length)++a::l.drop (CI i l.length)) u:=by
 obtain⟨v,hc,hv⟩:=(show T5 h id o l from hs);obtain⟨a,QT,b⟩:=xc (h:=h) he;obtain⟨u,hr,hu⟩:=xd (h:=h) hv a (k:=CI i l.length) (by unfold CI;omega) hb;refine⟨u,a,QT,?_,hu⟩;have f:(if(l.length:Int)<(if i<0 then 0 else i) then(l.length:Int) else(if i<0 then 0 else i))=((CI i l.length:Nat):Int):=by unfold CI;split<;>split<;>omega
 rw[Ae,jA];simp only[BD,Cl.CP,Cl.g0,Cl.g1,Cl.g2,Cl.PX,R5,IU,hc.load,Bv,eB,AU.CN hv,tr,f,b.Ac,BI,hr.Ac,hc.store (Dw.cells hu)]
def f65(hs:T5 h id o l)(hb:l.length<=1000000000):∃u,BL cx 83 [Pt id o] h (I ((l.length:Int)-((ER l:Nat):Int))) (put h id o u)/\Dw (l.take (ER l)) u:=by
 obtain⟨v,hc,hv⟩:=(show T5 h id o l from hs);obtain⟨s,es,JV,_⟩:=JO l;have hcl:ER l<=l.length:=by unfold ER;omega
 obtain⟨u,b,hu⟩:=AU.Ms hv (k:= .i64) hcl;refine⟨u,?_,hu⟩;have a:(if since l-1<0 then 0 else since l-1)=((ER l:Nat):Int):=by unfold ER;split<;>omega
 have rP:(l.take (ER l)).length=ER l:=by rw[Aw];omega
 have c:At (put h id o u) id o u:=hc.put;rw[Ae,uW];simp only[BD,Ib,hc.load,Bv,AU.CN hv,(f99 hc hv hb).Ac,BI,Da (Ab: -9223372036854775808<=since l-1) (Ab:since l-1<9223372036854775808),eB,a,b,hc.store (AU.cells hu),c.load,AU.CN hu,rP,Da (Ab: -9223372036854775808<=(l.length:Int)-((ER l:Nat):Int)) (Ab:(l.length:Int)-((ER l:Nat):Int)<9223372036854775808)]
end
end
section
section
variable{e:Cp}{l:List Cl}{n s:Nat}
end
section
variable{h:Ah}{v:Aa}{l:List Cl}{id o:Nat}
def f30(hs:T5 h id o l)(hb:l.length<=900000000)(hl:∀x∈l,ZL x){e:Cl}(he:ZL e):∃u a,a.c=e.c/\BL cx 170 [Pt id o,.agg e.row] h (.tuple []) (put h id o u)/\Dw (LJ e.c l++[a]) u:=by
 obtain⟨v,hc,hv⟩:=(show T5 h id o l from hs);have DJ:AU 3 (l.map Cl.row) v:=hv;have Ie:=hs.lt;obtain⟨s,es,JV,q,_⟩:=JO l;have I2:Ev cx 170 [Pt id o,.agg e.row] h λr h'=>r= .tuple []/\∃(a:Cl) (u:Aa),a.c=e.c/\h'=put h id o u/\Dw (LJ e.c l++[a]) u:=by
  unfold Ev;rw[fV];by_cases h0:e.c.node=0;.obtain⟨a,QT,b⟩:=xc (h:=h) he;obtain⟨u,r2,hu⟩:=xd (h:=h) hv a (Ag l.length) Ab;rw[Bx,Ep] at hu;simp only[BD,Cl.CP,Cl.g0,Cl.g1,Cl.g2,Ib,h0,BW,AA,Aq,Av,Az,hc.load,Bv,DJ.CN];rw[<-h0,Cl.PX];simp only[BD,b.Ac,BI,hc.load,Bv,r2.Ac,hc.store (Dw.cells hu)];refine⟨_,rfl,rfl,a,u,QT,rfl,?_⟩;rw[LJ,Ad (λh=>h.1 h0)];exact hu
  .simp only[BD,Cl.CP,Cl.g0,Cl.g1,Cl.g2,Cl.PX,Ib,h0,BW,AA,Aq,Av,Az,hc.load,Bv,DJ.CN,Da (Ab: -9223372036854775808<=(l.length:Int)-1) (Ab:(l.length:Int)-1<9223372036854775808)];refine Bi (λp:Int×Nat×Nat=>[I p.1,I (p.2.1:Int),I ((p.2.2:Int)-1)])
    (λp h1=>s<=p.2.2/\p.2.2<=l.length/\p.2.1+p.2.2<=l.length/\SU e.c l=p.2.1+SU e.c (l.take p.2.2)/\(NV e.c l=if 0<=NV e.c (l.take p.2.2) then NV e.c (l.take p.2.2) else if p.2.1=0 then -1 else p.1)/\(p.2.1=0\/∃k:Nat,k<l.length/\p.1=(k:Int))/\h1=h)
    (λp=>p.2.2) (0,0,l.length) rfl ⟨JV,Ag _,AH,AH,by
     rw[Bx];have:∀l:List Cl,-1<=tV e.c l:=by
      intro l;induction l with
      |nil=>exact GB _
      |cons x t ih=>rw[tV];split<;>(try split)<;>(try split)<;>omega
     have:=this l.reverse;simp only[BN];unfold NV;split<;>omega,.inl rfl,rfl⟩ ?_
   rintro⟨B,f,n⟩ h1 ⟨a1,a2,a3,a4,a5,a6,rfl⟩;simp only at a1 a2 a3 a4 a5 a6;have j:=f99 hc hv Ab;rw[es] at j;rcases AP s n with hlt|Eg
   .obtain⟨n,rfl⟩:∃m,n=m+1:=⟨n-1,Ab⟩;have A:((n+1:Nat):Int)-1=(n:Int):=Ab;have hn:n<l.length:=a2;have g:=q n hn Ab;rw[T6 hn,Ad g] at a4;rw[T7 hn,Ad g] at a5;have b:=aMo (h:=h1) (hl _ (AL hn)) he;simp only[BD,A,j.Ac,(Ab:(s:Int)<=(n:Int)),AA,Aq,Av,hc.load,Bv,DJ.BK hn,Cl.CP,Cl.H7,Ag,b.Ac,BM (Ab:f<9223372036854775807),Da (Ab: -9223372036854775808<=(n:Int)-1) (Ab:(n:Int)-1<9223372036854775808)];rw[CS];refine⟨λh2=>?_,λh2=>?_⟩
    .rw[Af h2] at a4 a5;refine AK.next ((n:Int),f+1,n) rfl ⟨Dx,Dx,Dx,Dx,?_,.inr ⟨n,hn,rfl⟩,rfl⟩ Dx;simp only
     rw[a5];by_cases hf:0<=NV e.c (l.take n);.simp[hf]
     .simp[hf,(Ab:(0:Int)<=(n:Int))]
    .rw[Ad (by simp[h2])] at a4;rw[Ad (show¬GG l[n].c e.c=true by simp[h2])] at a5;refine AK.next (B,f,n) rfl ⟨Dx,Dx,Dx,Dx,?_,a6,rfl⟩ Dx;simp only
     rw[a5];by_cases hf:0<=NV e.c (l.take n);.simp[hf]
     .simp[hf]
   .obtain rfl:n=s:=by omega
    obtain⟨b1,b2⟩:=Yj (e:=e.c) es;rw[b1,Bv] at a4;rw[b2,Ad AM] at a5;simp only[BD,j.Ac,(Ab:¬(n:Int)<=(n:Int)-1),Aq,Av,Az];by_cases C:3<=f
    .rcases a6 with a6|⟨k,hk,rfl⟩
     .omega
     rw[Ad Ab] at a5;obtain⟨i,b,O9⟩:=aMq (h:=h1) hv hk Ab;have Zk:(Bf l k).length<=l.length:=by unfold Bf;rw[Au,Aw,Bd];omega
     have w:At (put h1 id o i) id o i:=hc.put;obtain⟨a,QT,r2⟩:=xc (h:=put h1 id o i) he;obtain⟨y,z,Jh⟩:=xd (h:=put h1 id o i) O9 a (Ag (Bf l k).length) Ab;rw[Bx,Ep] at Jh;simp only[BD,(Ab:(3:Int)<=(f:Int)),AA,Aq,Av,hc.load,Bv,b.Ac,hc.store (Dw.cells O9),w.load,AU.CN O9,r2.Ac,BI,z.Ac,w.store (Dw.cells Jh),eH];refine⟨_,rfl,rfl,a,y,QT,rfl,?_⟩;rw[LJ,Af ⟨h0,Ab⟩,a5,AY];exact Jh
    .obtain⟨a,QT,b⟩:=xc (h:=h1) he;obtain⟨u,r2,hu⟩:=xd (h:=h1) hv a (Ag l.length) Ab;rw[Bx,Ep] at hu;simp only[BD,(Ab:¬(3:Int)<=(f:Int)),Aq,Av,Az,hc.load,Bv,DJ.CN,b.Ac,BI,r2.Ac,hc.store (Dw.cells hu)];refine⟨_,rfl,rfl,a,u,QT,rfl,?_⟩;rw[LJ,Ad Ab];exact hu
 obtain⟨r,h',hr,rfl,a,u,QT,rfl,hu⟩:=I2.ret;exact⟨u,a,QT,hr,hu⟩
end
end
section
section
variable{h:Ah}{v:Aa}{l:List Cl}{id o:Nat}
def aMt(hs:T5 h id o l)(hb:l.length<=900000000)(node:Int){e:Cl}(he:ZL e):∃u t a,a.c=e.c/\BL cx 408 [Pt id o,I node,.agg e.row] h (.bool (decide (0<=Hy node l))) (put h id o u++t)/\Dw (if Hy node l<0 then l else l.set (Hy node l).toNat a) u:=by
 obtain⟨v,hc,hv⟩:=(show T5 h id o l from hs);rcases oC node l with h1|⟨k,hk,h1⟩
 .refine⟨v,[],e,rfl,?_,by rw[h1];exact hv⟩;have b:=hc.bg (AU.Pk hv);rw[Ae,WQ,hc.same,By];simp only[BD,Cl.CP,(f41 hc hv Ab node).Ac,h1,(AM:(-1:Int)<0),AA,Av,Aq,b];rfl
 .have hne:l≠[]:=by intro e;subst e;simp at hk
  have hcl:=aDz (h:=h) hv hne Ab;have g:=(hc.HJ (t:=[DA.cells (l.map Cl.row).flatten])).store (u:= .CF h.length 0 l.length 3) rfl;rw[eI hc] at g;obtain⟨a,QT,j⟩:=xc (h:=put h id o (.CF h.length 0 l.length 3)++[DA.cells (l.map Cl.row).flatten]) he;obtain⟨r,x,p⟩:=hc.next (w:= .CF h.length 0 l.length 3) (X:= .cells (l.map Cl.row).flatten) (Y:= .cells ((l.map Cl.row).set k a.row).flatten);have f:=Vb (z:=3) (OD l) r (i:=k) (by simpa using hk) (q:=a.row) rfl;rw[p] at f;have m:AD (.Fl 3) [.CF h.length 0 l.length 3,I (k:Int)]=some (Pt h.length (k*3)):=EY hk;have b:=hc.bh (nQ (OD l) (i:=k) (q:=a.row) rfl);rw[Bq,An] at b;refine⟨.sl 3 ((l.map Cl.row).set k a.row),[.CR],a,QT,?_,?_⟩;.rw[Ae,WQ];simp only[BD,Cl.CP,Cl.g0,Cl.g1,Cl.g2,Cl.PX,(f41 hc hv Ab node).Ac,h1,(Ab:¬(k:Int)<0),Az,Av,Aq,hc.load,Bv,hcl.Ac,g,x.load,j.Ac,BI,m,f,b,(Ab:(0:Int)<=(k:Int)),Dz]
  .rw[h1,Ad Ab,AY,<-Eo];exact .mk
def aHd(hv:Dw l v)(hb:l.length<=900000000){k:Nat}(hk:k<l.length):∃u,BL cx 283 [v,I (k:Int)] h u h/\Dw (Bf l k) u:=by
 have DJ:AU 3 (l.map Cl.row) v:=hv;have I2:Ev cx 283 [v,I (k:Int)] h λr h'=>h'=h/\Dw (Bf l k) r:=by
  unfold Ev;rw[ĥ];refine Bi (λp:Nat×Aa=>[p.2,I (p.1:Int)]) (λp h1=>p.1<=l.length/\Dw (if p.1<=k then l.take p.1 else Bf (l.take p.1) k) p.2/\h1=h) (λp=>l.length-p.1) (0,.slnil) rfl ⟨AV _,by rw[Af (AV _)];exact .nil,rfl⟩ ?_;rintro⟨n,u⟩ h1 ⟨hn,hu,rfl⟩;simp only at hn hu;have inc:=BM (Ab:n<9223372036854775807);rcases AP n l.length with hlt|Eg
  .have i1:(n:Int)<(l.length:Int):=by omega
   have elem:=DJ.BK (k:= .i64) hlt;have hlen:(if n<=k then l.take n else Bf (l.take n) k).length<=l.length:=by
    split;.rw[Aw];omega
    .unfold Bf;rw[Au,Aw,Bd,Aw];omega
   have f:=AU.J2 (a:=l[n]) hu (b:=48) (P0 Ab);simp only[BD,DJ.CN,i1,AA,Av,Aq,elem,Cl.CP,Cl.H7,Ag,Mc Cl.CP,f,inc];refine⟨λh0=>?_,λh0=>?_⟩
   .refine AK.next (n+1,_) rfl ⟨hlt,?_,rfl⟩ Dx;have h0:n≠k:=Ab;have:(if n+1<=k then l.take (n+1) else Bf (l.take (n+1)) k)=(if n<=k then l.take n else Bf (l.take n) k)++[l[n]]:=by
     rw[AB hlt];by_cases c:n<k;.rw[Af Ab,Af Ab]
     .rw[Ad Ab,Ad Ab];unfold Bf;rw[CL (by rw[Aw];omega),Jk (by rw[Aw];omega),AI]
    simp only
    rw[this];exact .mk
   .refine AK.next (n+1,u) rfl ⟨hlt,?_,rfl⟩ Dx;obtain rfl:n=k:=Ab;have:(if n+1<=n then l.take (n+1) else Bf (l.take (n+1)) n)=l.take n:=by rw[Ad Ab];unfold Bf;rw[FA,Cs Ab,AW (by rw[Aw];omega),By]
    simp only
    rw[this];rw[Af (Ag _)] at hu;exact hu
  .have i1:¬(n:Int)<(l.length:Int):=by omega
   rw[Ad Ab,AF Eg] at hu;simp only[BD,DJ.CN,i1,Az,Av,Aq];exact⟨_,rfl,hu⟩
 obtain⟨r,h',hr,rfl,hu⟩:=I2.ret;exact⟨r,hr,hu⟩
def f82(hv:Dw l v)(hb:l.length<=900000000){e:Cl}(he:ZL e)(i:Int):∃u m,m.c=e.c/\BL cx 100 [v,.agg e.row,I i] h u h/\Dw (l.take (CI i l.length)++m::l.drop (CI i l.length)) u:=by
 obtain⟨m,QT,z⟩:=aMp (h:=h) he;have key:∀k:Nat,k<=l.length->∃r t q p,AD (.K0 3 false false true) [v,I (k:Int)]=some r/\AD (.append 3 48) [.slnil,r]=some t/\AD (.append 3 48) [t,.sl 3 [m.row]]=some (.sl 3 ((l.take k++[m]).map Cl.row))/\AD (.K0 3 false true false) [v,I (k:Int)]=some q/\AD (.append 3 48) [.sl 3 ((l.take k++[m]).map Cl.row),q]=some p/\Dw (l.take k++m::l.drop k) p:=by intro k hk;obtain⟨r,j,h1⟩:=AU.Ms hv (k:= .i64) hk;obtain⟨t,y,h2⟩:=AU.Gy h1 (b:=48) (P0 (by rw[Aw];omega));have x:=AU.J2 (a:=m) h2 (b:=48) (P0 (by rw[Aw];omega));obtain⟨q,g,B⟩:=AU.SN hv (k:= .i64) hk;obtain⟨p,w,A⟩:=AU.eF (f:=Cl.row) (l:=l.take k++[m]) .mk B (b:=48) (P0 (by rw[Au,Aw,Bd,Be];omega));exact⟨r,t,q,p,j,y,x,g,w,by rw[AI] at A;exact A⟩
 obtain⟨r,t,q,p,j,y,x,g,w,hu⟩:=key (CI i l.length) (by unfold CI;omega);refine⟨p,m,QT,?_,hu⟩;have DJ:AU 3 (l.map Cl.row) v:=hv;rw[Ae,ó];by_cases h1:i<0
 .have:CI i l.length=0:=by unfold CI;omega
  rw[this] at j g;have j:AD (.K0 3 false false true) [v,I 0]=some r:=j;have g:AD (.K0 3 false true false) [v,I 0]=some q:=g;simp only[BD,Cl.CP,Cl.g0,Cl.g1,Cl.g2,Cl.PX,h1,AA,Az,Av,Aq,DJ.CN,(Ab:¬(l.length:Int)<0),j,y,z.Ac,Mc Cl.CP,x,g,w]
 .by_cases h2:(l.length:Int)<i
  .have:CI i l.length=l.length:=by unfold CI;omega
   rw[this] at j g;simp only[BD,Cl.CP,Cl.g0,Cl.g1,Cl.g2,Cl.PX,h1,h2,AA,Az,Av,Aq,DJ.CN,j,y,z.Ac,Mc Cl.CP,x,g,w]
  .have:((CI i l.length:Nat):Int)=i:=by unfold CI;omega
   rw[this] at j g;simp only[BD,Cl.CP,Cl.g0,Cl.g1,Cl.g2,Cl.PX,h1,h2,Az,Av,Aq,DJ.CN,j,y,z.Ac,Mc Cl.CP,x,g,w]
def f84(hv:Dw l v)(hb:l.length<=900000000):∃u,BL cx 102 [v] h u h/\Dw (l.take (ER l)) u:=by
 obtain⟨s,es,JV,_⟩:=JO l;have hcl:ER l<=l.length:=by unfold ER;omega
 obtain⟨u,a,hu⟩:=AU.Ms hv (k:= .i64) hcl;obtain⟨f,c,Jh⟩:=AU.Gy hu (b:=48) (P0 (by rw[Aw];omega));refine⟨f,?_,Jh⟩;rw[Ae,ô];by_cases h1:since l-1<0
 .have:ER l=0:=by unfold ER;omega
  rw[this] at a;have a:AD (.K0 3 false false true) [v,I 0]=some u:=a;simp only[BD,(ŏ hv Ab).Ac,Da (Ab: -9223372036854775808<=since l-1) (Ab:since l-1<9223372036854775808),h1,AA,Av,Aq,a,c]
 .have:((ER l:Nat):Int)=since l-1:=by unfold ER;omega
  rw[this] at a;simp only[BD,(ŏ hv Ab).Ac,Da (Ab: -9223372036854775808<=since l-1) (Ab:since l-1<9223372036854775808),h1,Az,Av,Aq,a,c]
def aMv(hv:Dw l v)(hb:l.length<=900000000)(hl:∀x∈l,ZL x){e:Cl}(he:ZL e):∃u a,a.c=e.c/\BL cx 137 [v,.agg e.row] h u h/\Dw (LJ e.c l++[a]) u:=by
 have DJ:AU 3 (l.map Cl.row) v:=hv;obtain⟨s,es,JV,j,_⟩:=JO l;have I2:Ev cx 137 [v,.agg e.row] h λr h'=>h'=h/\∃a:Cl,a.c=e.c/\Dw (LJ e.c l++[a]) r:=by
  unfold Ev;rw[ÿ];have t:=ŏ (h:=h) hv Ab;rw[es] at t;obtain⟨b1,b2⟩:=Yj (e:=e.c) es;simp only[BD,Cl.CP,Cl.g0,Cl.g1,Cl.g2,Cl.PX,t.Ac];refine Bi (λn:Nat=>[I (NV e.c (l.take n)),I (SU e.c (l.take n):Int),I (n:Int)])
   (λn h1=>s<=n/\n<=l.length/\SU e.c (l.take n)<=n/\((SU e.c (l.take n)=0/\NV e.c (l.take n)= -1)\/∃k:Nat,k<n/\NV e.c (l.take n)=(k:Int))/\h1=h) (λn=>l.length-n) s (by rw[b1,b2];rfl) ⟨Ag _,JV,Ab,.inl ⟨b1,b2⟩,rfl⟩ ?_
  rintro n h1 ⟨a1,a2,a3,a4,rfl⟩;rcases AP n l.length with hlt|Eg
  .have i1:(n:Int)<(l.length:Int):=by omega
   have m:=j n hlt a1;have f:=T6 (e:=e.c) hlt;have b:=T7 (e:=e.c) hlt;rw[Ad m] at f b;have i:=f241 (h:=h1) (hl _ (AL hlt)) he;simp only[BD,DJ.CN,i1,AA,Aq,Av,DJ.BK hlt,Cl.CP,Cl.H7,Ag,i.Ac,BM (Ab:SU e.c (l.take n)<9223372036854775807),BM (Ab:n<9223372036854775807)];rw[CS];refine⟨λh2=>⟨λp=>?_,λp=>?_⟩,λh2=>?_⟩;.rw[Af h2] at f b;rw[Ad Ab] at b;refine AK.next (n+1) (by rw[f,b]) ⟨Ab,hlt,Ab,.inr ⟨n,Ab,b⟩,rfl⟩ Ab
   .rw[Af h2] at f b;rw[Af Ab] at b;refine AK.next (n+1) (by rw[f,b]) ⟨Ab,hlt,Ab,.inr ?_,rfl⟩ Ab;rw[b];rcases a4 with⟨_,a4⟩|⟨k,hk,a4⟩
    .omega
    .exact⟨k,Ab,a4⟩
   .rw[Ad (by simp[h2])] at f;rw[Ad (show¬GG l[n].c e.c=true by simp[h2])] at b;have g:NV e.c (l.take (n+1))=NV e.c (l.take n):=by rw[b];rcases a4 with⟨_,a4⟩|⟨k,hk,a4⟩<;>rw[a4]<;>simp
    refine AK.next (n+1) (by rw[f,g];rfl) ⟨Ab,hlt,Ab,?_,rfl⟩ Ab;rw[f,g];rcases a4 with a4|⟨k,hk,a4⟩
    .exact .inl a4
    .exact .inr ⟨k,Ab,a4⟩
  .have i1:¬(n:Int)<(l.length:Int):=by omega
   rw[AF Eg] at a3 a4⊢;simp only[BD,DJ.CN,i1,Aq,Av,Az];refine⟨λh2=>⟨λp=>?_,λp=>?_⟩,λh2=>?_⟩
   .rcases a4 with⟨a4,_⟩|⟨k,hk,a4⟩
    .omega
    have Ql:k<l.length:=Ab;obtain⟨w,i,O9⟩:=aHd (h:=h1) hv hb Ql;have hlen:(Bf l k).length<=l.length:=by unfold Bf;rw[Au,Aw,Bd];omega
    obtain⟨q,a,QT,r2,Jh⟩:=f82 (h:=h1) O9 Ab he ((Bf l k).length:Int);have hcl:CI ((Bf l k).length:Int) (Bf l k).length=(Bf l k).length:=by unfold CI;omega
    rw[hcl,Bx,Ep] at Jh;simp only[BD,a4,i.Ac,AU.CN O9,r2.Ac];refine⟨_,rfl,a,QT,?_⟩;rw[LJ,Af ⟨h2,Ab⟩,a4,AY];exact Jh
   .obtain⟨q,a,QT,r2,Jh⟩:=f82 (h:=h1) hv hb he (l.length:Int);have hcl:CI (l.length:Int) l.length=l.length:=by unfold CI;omega
    rw[hcl,Bx,Ep] at Jh;simp only[BD,r2.Ac];refine⟨_,rfl,a,QT,?_⟩;rw[LJ,Ad Ab];exact Jh
   .obtain⟨q,a,QT,r2,Jh⟩:=f82 (h:=h1) hv hb he (l.length:Int);have hcl:CI (l.length:Int) l.length=l.length:=by unfold CI;omega
    rw[hcl,Bx,Ep] at Jh;simp only[BD,r2.Ac];refine⟨_,rfl,a,QT,?_⟩;rw[LJ,Ad (λh=>h2 h.1)];exact Jh
 obtain⟨r,h',hr,rfl,a,QT,hu⟩:=I2.ret;exact⟨r,a,QT,hr,hu⟩
end
end
def VR:List A5->Aa
 |[]=> .slnil
 |x::l=> .sl 3 ((x::l).map A5.row)
def WS{l:List A5}:Bt l (VR l):=by cases l;exact .inr ⟨rfl,rfl⟩;exact .inl rfl
def kj{l:List A5}{x:A5}:VR (l++[x])= .sl 3 ((l++[x]).map A5.row):=by cases l<;>rfl
structure PN where
 x:ES
 kv:Aa
 av:Aa
 ok:av=VR x.Ay
def PN.row(p:PN):List Aa:=[I p.x.kind,I p.x.FM,p.kv,I p.x.CQ,I p.x.Bc,.str p.x.name,p.av,.str p.x.data,.str p.x.pub,.str p.x.sys,.bool p.x.CK,I p.x.cont,I p.x.Em]
def PN.CP{p:PN}:p.row.length=13:=rfl
def PN.zero:PN:=⟨{},.slnil,.slnil,rfl⟩
def pN(ps:List PN)(x:Int):PN:=ps.getD (x.toNat-1) PN.zero
def Ce(n:Int):List Aa:=[I n]
def D4(l:List Int)(v:Aa):Prop:=AU 1 (l.map Ce) v
def Kq(h:Ah)(kv:Aa)(l:List Int):Prop:=(kv= .slnil/\l=[])\/∃id cs,kv= .CF id 0 l.length 1/\h[id]?=some (.cells (l.map (Aa.int .i64)++cs))
def HT:Aa->Option Nat
 | .CF id _ _ _=>some id
 |_=>none
def bj(l:List (Int×Int)):Prop:=(l.map (·.1)).Nodup/\∀p∈l,ir p.1=true/\ir p.2=true
def YL(h:Ah)(m:Option Nat)(f:Int->Int):Prop:=(m=none/\∀k,f k=0)\/∃(id:Nat) (l:List (Int×Int)),m=some id/\h[id]?=some (.map (l.map λx:Int×Int=>(I x.1,I x.2)))/\(∀k,(l.find? λx=>decide (k=x.1)).map (·.2)=if f k=0 then none else some (f k))/\bj l
def Gm(a n:Nat)(m:Option Nat)(ps:List PN):List Nat:=a::n::(m.toList++ps.filterMap λp=>HT p.kv)
structure PA(h:Ah)(a n:Nat)(m:Option Nat)(ps:List PN)(A:Ar):Prop where
 e:A.n=ps.map PN.x
 il:A.i.length=A.n.length
 ha:h[a]?=some (.cells [.CF n 0 ps.length 13,.map m])
 hn:h[n]?=some (.cells (ps.map PN.row).flatten)
 ks:∀p∈ps,Kq h p.kv p.x.Bb
 nd:(Gm a n m ps).Nodup
 mp:YL h m A.inr
structure DC(h:Ah)(F:Nat->Prop)(h':Ah)(F':Nat->Prop):Prop where
 len:h.length<=h'.length
 old:∀i,i<h.length->¬F i->h'[i]?=h[i]?
 Bu:∀i,F' i->F i\/h.length<=i
section
variable{h h' h'' t:Ah}{F F' F'':Nat->Prop}
def DC.refl:DC h F h F:=⟨Ag _,λ_ _ _=>rfl,λ_ h=> .inl h⟩
def DC.trans(x:DC h F h' F')(y:DC h' F' h'' F''):DC h F h'' F'':=
 ⟨Bs x.len y.len,λi hi hF=>by
  rw[y.old i (Jp hi x.len) (λh=>by rcases x.Bu i h with h|h;exact hF h;omega)];exact x.old i hi hF,λi hi=>by
  rcases y.Bu i hi with h|h
  .exact x.Bu i h
  .exact .inr (Bs x.len h)⟩
def DC.HJ:DC h F (h++t) F:=⟨AH,λi hi _=>Aj hi,λ_ h=> .inl h⟩
end
def PW(h:Ah)(F:Nat->Prop)(a:Nat)(A:Ar):Prop:=∃n m ps,PA h a n m ps A/\∀i,F i↔i∈Gm a n m ps
section
variable{h h':Ah}{a n:Nat}{m:Option Nat}{ps:List PN}{A:Ar}{x:Int}{F:Nat->Prop}
def Kq.Dj{kv:Aa}{l:List Int}(hk:Kq h kv l)(hf:∀id,HT kv=some id->h'[id]?=h[id]?):Kq h' kv l:=by
 rcases hk with⟨rfl,rfl⟩|⟨id,cs,rfl,hc⟩
 .exact .inl ⟨rfl,rfl⟩
 .exact .inr ⟨id,cs,rfl,by rw[hf id rfl];exact hc⟩
def YL.Dj{f:Int->Int}(hk:YL h m f)(hf:∀id,m=some id->h'[id]?=h[id]?):YL h' m f:=by
 rcases hk with h1|⟨id,l,rfl,hc,h2⟩
 .exact .inl h1
 .exact .inr ⟨id,l,rfl,by rw[hf id rfl];exact hc,h2⟩
def Lv{p:PN}{id:Nat}(hp:p∈ps)(hk:HT p.kv=some id):id∈Gm a n m ps:=by unfold Gm;simp only[AS,Ax];exact .inr (.inr (.inr (Ck.2 ⟨p,hp,hk⟩)))
def PA.Dj(w:PA h a n m ps A)(hf:∀i∈Gm a n m ps,h'[i]?=h[i]?):PA h' a n m ps A:=
 ⟨w.e,w.il,by rw[hf a (by simp[Gm])];exact w.ha,by rw[hf n (by simp[Gm])];exact w.hn,λp hp=>(w.ks p hp).Dj λid hk=>hf id (Lv hp hk),w.nd,w.mp.Dj λid hm=>hf id (by simp[Gm,hm])⟩
def PA.lt(w:PA h a n m ps A):∀i∈Gm a n m ps,i<h.length:=by
 intro i hi;unfold Gm at hi;simp only[AS,Ax,Ck] at hi;rcases hi with rfl|rfl|hi|⟨p,hp,hk⟩
 .exact(Ak.1 w.ha).1
 .exact(Ak.1 w.hn).1
 .rcases w.mp with⟨rfl,_⟩|⟨id,l,rfl,hc,_⟩
  .simp at hi
  .simp at hi;subst hi;exact(Ak.1 hc).1
 .rcases w.ks p hp with⟨e,_⟩|⟨id,cs,e,hc⟩
  .rw[e] at hk;cases hk
  .rw[e] at hk;cases hk;exact(Ak.1 hc).1
def PW.Dj(w:PW h F a A)(hf:∀i,F i->h'[i]?=h[i]?):PW h' F a A:=by obtain⟨n,m,ps,w,e⟩:=w;exact⟨n,m,ps,w.Dj λi hi=>hf i ((e i).2 hi),e⟩
def PW.lt(w:PW h F a A){i:Nat}(hi:F i):i<h.length:=by obtain⟨n,m,ps,w,e⟩:=w;exact w.lt i ((e i).1 hi)
def PA.xe(w:PA h a n m ps A):A.n.length=ps.length:=by rw[w.e,An]
def PA.at(w:PA h a n m ps A)(hx:A.has x):x.toNat-1<ps.length/\((x.toNat-1:Nat):Int)=x-1:=by have:=w.xe;unfold Ar.has at hx;omega
def PA.pn(w:PA h a n m ps A)(hx:A.has x):ps[x.toNat-1]?=some (pN ps x)/\(pN ps x).x=A.nd x/\pN ps x∈ps:=by
 have h1:=(w.at hx).1;have h2:ps[x.toNat-1]?=some ps[x.toNat-1]:=Al h1;have b:pN ps x=ps[x.toNat-1]:=by unfold pN;rw[AJ,h2];rfl
 refine⟨by rw[b];exact h2,?_,by rw[b];exact AL _⟩;unfold Ar.nd;rw[Af hx,w.e,b,AJ,Cm,h2];rfl
def Lw{AE:List (List Aa)}{z i k:Nat}(hr:∀r∈AE,r.length=z)(hk:k<z){r:List Aa}(hi:AE[i]?=some r):AE.flatten[i*z+k]?=r[k]?:=by
 have h1:(AE.flatten.drop (i*z))[k]?=r[k]?:=by rw[I3 hr];obtain⟨hlt,e⟩:=Ak.1 hi;rw[AG hlt,e,CZ,Aj (by rw[hr r (e▸AL hlt)];exact hk)]
 rwa [Ct] at h1
def pA(l:List PN):∀r∈l.map PN.row,r.length=13:=Mq (f:=PN.row) (λ_=>PN.CP) l
def nP(n:Nat)(x:Int):Nat:=(x.toNat-1)*13
def PA.PR(w:PA h a n m ps A)(hx:A.has x){k:Nat}(hk:k<13):A8 h none (Pt n (nP n x+k))=(pN ps x).row[k]?:=by unfold nP;simp only[A8,w.hn,E6];exact Lw (pA ps) hk (by rw[Cm,(w.pn hx).1];rfl)
def VS(w:PA h a n m ps A):BL cx 54 [Pt a 0,I x] h (.bool (decide (A.has x))) h:=by
 have d:A8 h none (Pt a 0)=some (.CF n 0 ps.length 13):=by simp only[A8,w.ha];rfl
 have c:AD (.len false) [.CF n 0 ps.length 13]=some (I (ps.length:Int)):=rfl;rw[Ae,uK];simp only[abS,d,c];have hl:=w.xe;have b:A.has x↔1<=x/\x<=(ps.length:Int):=by unfold Ar.has;rw[hl]
 refine⟨λh1=>?_,λh1=>?_⟩;.congr 2;rw[Dd,b];exact⟨λh=>⟨h1,h⟩,λh=>h.2⟩
 .rw[Ap (λh=>h1 (b.1 h).1)]
def PA.nodes(w:PA h a n m ps A):A8 h none (Pt a 0)=some (.CF n 0 ps.length 13):=by simp only[A8,w.ha];rfl
def PA.len(w:PA h a n m ps A):((ps.length:Nat):Int)=A.len:=by unfold Ar.len;rw[w.xe]
def aAW(w:PA h a n m ps A){l:List Int}{v:Aa}(hv:D4 l v)(hb:l.length<=1000):BL cx 236 [Pt a 0,v] h (I (if∀x∈l,A.has x then 0 else 3)) h:=by
 have hv:AU 1 (l.map Ce) v:=hv;rw[Ae,hZ];simp only[abS,hv.CN];refine Bi (λk:Nat=>[I 0,I (k:Int)]) (λk h1=>k<=l.length/\(∀x∈l.take k,A.has x)/\h1=h) (λk=>l.length-k) 0 rfl ⟨AV _,AH,rfl⟩ ?_;rintro k h1 ⟨hk,ha,rfl⟩;rcases AP k l.length with hlt|Eg
 .have i1:(k:Int)<(l.length:Int):=by omega
  have c:A8 h1 none (.CH (Ce l[k]))=some (I l[k]):=rfl;simp only[BD,lO,i1,hv.BK hlt,c,(VS (x:=l[k]) w).Ac,BM (Ab:k<9223372036854775807)];rw[CS];refine⟨λh2=>?_,λh2=>?_⟩
  .have h2:¬A.has l[k]:=by simpa using h2
   rw[Ad (λb=>h2 (b _ (AL hlt)))]
  .have h2:A.has l[k]:=by simpa using h2
   refine AK.next (k+1) rfl ⟨hlt,?_,rfl⟩ Ab;intro x hx;rw[AB hlt,Ax,BG] at hx;rcases hx with hx|rfl
   .exact ha x hx
   .exact h2
 .have i1:¬(k:Int)<(l.length:Int):=by omega
  rw[AF Eg] at ha;simp only[abS,i1,Af ha]
def Uh(w:PA h a n m ps A):BL cx 236 [Pt a 0,.sl 1 [[I x]]] h (I (if A.has x then 0 else 3)) h:=by have:=aAW w (l:=[x]) (v:= .sl 1 [[I x]]) .mk AH;simpa using this
def LN{y:Int}(w:PA h a n m ps A):BL cx 236 [Pt a 0,.sl 1 [[I x],[I y]]] h (I (if A.has x/\A.has y then 0 else 3)) h:=by have:=aAW w (l:=[x,y]) (v:= .sl 1 [[I x],[I y]]) .mk AH;simpa using this
def HA{x:Int}:AD (.Dm 1) [I x]=some (.sl 1 [[I x]]):=rfl
def FJ{x y:Int}:AD (.Dm 1) [I x,I y]=some (.sl 1 [[I x],[I y]]):=rfl
def Nw.of(b:Nw A)(hx:A.has x):1<=x/\x<=1000000000:=by have:=b.n;unfold Ar.has at hx;omega
def Jb(w:PA h a n m ps A)(b:Nw A)(hx:A.has x):BL cx 153 [Pt a 0,I x] h (Pt n (nP n x)) h:=by
 have hr:=b.of hx;have d:=(w.at hx).2;have c:AD (.Fl 13) [.CF n 0 ps.length 13,I (x-1)]=some (Pt n (nP n x)):=by rw[<-d];exact EY (w.at hx).1
 rw[Ae,Wq];simp only[abS,w.nodes,Da (Ab: -9223372036854775808<=x-1) (Ab:x-1<9223372036854775808),c]
def PA.f0(w:PA h a n m ps A)(hx:A.has x):A8 h none (Pt n (nP n x))=some (I (A.nd x).kind):=by have:=w.PR hx (k:=0) AM;rw[<-(w.pn hx).2.1];exact this
def PA.f1(w:PA h a n m ps A)(hx:A.has x):A8 h none (Pt n (nP n x+1))=some (I (A.nd x).FM):=by have:=w.PR hx (k:=1) AM;rw[<-(w.pn hx).2.1];exact this
def PA.f2(w:PA h a n m ps A)(hx:A.has x):A8 h none (Pt n (nP n x+2))=some (pN ps x).kv:=by have:=w.PR hx (k:=2) AM;exact this
def PA.f4(w:PA h a n m ps A)(hx:A.has x):A8 h none (Pt n (nP n x+4))=some (I (A.nd x).Bc):=by have:=w.PR hx (k:=4) AM;rw[<-(w.pn hx).2.1];exact this
def PA.f5(w:PA h a n m ps A)(hx:A.has x):A8 h none (Pt n (nP n x+5))=some (.str (A.nd x).name):=by have:=w.PR hx (k:=5) AM;rw[<-(w.pn hx).2.1];exact this
def PA.f6(w:PA h a n m ps A)(hx:A.has x):A8 h none (Pt n (nP n x+6))=some (pN ps x).av:=by have:=w.PR hx (k:=6) AM;exact this
def PA.M4(w:PA h a n m ps A)(hx:A.has x):Kq h (pN ps x).kv (A.nd x).Bb:=by rw[<-(w.pn hx).2.1];exact w.ks _ (w.pn hx).2.2
def PA.xf(w:PA h a n m ps A)(hx:A.has x):(pN ps x).av=VR (A.nd x).Ay:=by rw[<-(w.pn hx).2.1];exact(pN ps x).ok
def PA.row(w:PA h a n m ps A)(hx:A.has x):A8 h (some 13) (Pt n (nP n x))=some (.agg (pN ps x).row):=by
 have h1:((ps.map PN.row).flatten.drop (nP n x)).take 13=(pN ps x).row/\nP n x+13<=(ps.map PN.row).flatten.length:=by unfold nP;have hlt:=(w.at hx).1;have hg:=(w.pn hx).1;rw[I3 (pA ps),FQ (pA ps),An];refine⟨?_,Ab⟩;rw[<-JG,AG hlt,Bl,CZ];rw[Al hlt,BB] at hg;rw[hg];exact HX PN.CP
 simp only[A8,w.hn,M6];rw[Af h1.2,h1.1]
def Nq:∀{l:List Int} {cs Zx:List Aa},CA (Zx++(l.map (Aa.int .i64)++cs)) 1 Zx.length l.length=l.map Ce
 |[],_,_=>rfl
 |x::l,cs,Zx=>by have:=Nq (l:=l) (cs:=cs) (Zx:=Zx++[I x]);simp only[AI,Au,Be] at this;simp only[Bl,A9,CA,CC];rw[JC rfl];simp only[CC,BR] at this;rw[this];rfl
def Kq.AE{kv:Aa}{l:List Int}(hk:Kq h kv l):GZ h 1 kv=some (l.map Ce):=by
 rcases hk with⟨rfl,rfl⟩|⟨id,cs,rfl,hc⟩
 .rfl
 .have:=Nq (l:=l) (cs:=cs) (Zx:=[]);simp only[BR,BJ] at this;simp only[GZ,BN,hc,this];rw[Af AH]
def Kq.len{kv:Aa}{l:List Int}(hk:Kq h kv l):AD (.len false) [kv]=some (I (l.length:Int)):=by rcases hk with⟨rfl,rfl⟩|⟨id,cs,rfl,hc⟩<;>rfl
def aAX{kv:Aa}{l:List Int}(hk:Kq h kv l)(hb:l.length<=1000000000):∃v,BL cx 387 [kv] h v h/\D4 l v:=by
 have hr:=hk.AE;rcases hk with⟨rfl,rfl⟩|⟨id,cs,rfl,hc⟩
 .exact⟨.slnil,by rw[Ae,WM,aDk];simp only[BD,show AD (.Ga false .sl) [.slnil,.slnil]=some (.bool true) from rfl],.inr ⟨rfl,rfl⟩⟩
 .refine⟨.sl 1 (l.map Ce),?_,.mk⟩;have b:Q3 h 1 8 (.sl 1 []) (.CF id 0 l.length 1)=some (.sl 1 (l.map Ce)):=by
   unfold Q3;rw[hr,Cw];cases l with
   |nil=>rfl
   |cons x l=>
    have:(x::l).length*8<=AX:=by have:AX=140737488355328:=rfl;omega
    simp only[Bl,DO,A9,An,BJ] at this⊢;rw[Af ⟨trivial,by simpa using this⟩];rfl
  rw[Ae,WM,aDk];simp only[BD,show AD (.Ga false .sl) [.CF id 0 l.length 1,.slnil]=some (.bool false) from rfl,show AD (.Dm 1) []=some (.sl 1 []) from rfl,b]
def Jc(h:Ah)(v:Aa)(l:List A5):Prop:=(v= .slnil/\l=[])\/∃id,v= .CF id 0 l.length 3/\h[id]?=some (.cells (l.map A5.row).flatten)/\id<h.length
def Jc.HJ{v:Aa}{l:List A5}{t:Ah}(hv:Jc h v l):Jc (h++t) v l:=by
 rcases hv with h1|⟨id,e,hc,hl⟩
 .exact .inl h1
 .exact .inr ⟨id,e,by rw[Aj hl];exact hc,by rw[Au];omega⟩
def Jc.cells{v:Aa}{l:List A5}(hv:Jc h v l):v.cells=[v]:=by rcases hv with⟨rfl,_⟩|⟨id,rfl,_,_⟩<;>rfl
structure Na(h:Ah)(v:Aa)(l:List A5):Prop where
 len:AD (.len false) [v]=some (I (l.length:Int))
 at_:∀k (hk:k<l.length),∃p,AD (.Fl 3) [v,I (k:Int)]=some p/\A8 h (some 3) p=some (.agg l[k].row)
def YM{v:Aa}{l:List A5}(hv:Bt l v):Na h v l:=⟨AU.CN hv,λk hk=>⟨_,AU.BK hv hk,rfl⟩⟩
def aDA(l:List A5):∀r∈l.map A5.row,r.length=3:=Mq (f:=A5.row) (λ_=>rfl) l
def Jc.in_{v:Aa}{l:List A5}(hv:Jc h v l):Na h v l:=by
 rcases hv with⟨rfl,rfl⟩|⟨id,rfl,hc,_⟩
 .exact⟨rfl,λk hk=>by simp at hk⟩
 .refine⟨rfl,λk hk=>⟨Pt id (k*3),EY hk,?_⟩⟩;simp only[A8,hc,M6];rw[Af (by rw[FQ (aDA l),An];omega),I3 (aDA l),<-JG,AG hk,Bl,CZ];rfl
def Up(N:Nat)(v:Aa):Prop:=∀id k,v= .CF id 0 k 3->N<=id
def xg{v:Aa}{l:List A5}(hv:v=VR l)(hb:l.length<=1000000000):∃u t,BL cx 100147 [v] h u (h++t)/\Jc (h++t) u l/\Up h.length u:=by
 cases l with
 |nil=>refine⟨.slnil,[],?_,.inl ⟨rfl,rfl⟩,λ_ _ e=>nomatch e⟩;rw[By,Ae,OI,hv];simp only[BD,VR,show AD (.Ga false .sl) [.slnil,.slnil]=some (.bool true) from rfl]
 |cons x l=>have e:=Lr (h:=h) (s:= .sl 3 []) (z:=3) (b:=40) (.inr rfl) (AU.mk (z:=3) (AE:=(x::l).map A5.row)) AH (by rw[An];have:AX=140737488355328:=rfl;omega);rw[An] at e;refine⟨.CF h.length 0 (x::l).length 3,[.cells ((x::l).map A5.row).flatten],?_,.inr ⟨h.length,rfl,AH,AH⟩,λ_ _ e=>by injection e with e;omega⟩;rw[Ae,OI,hv];simp only[BD,VR,show AD (.Ga false .sl) [.sl 3 ((x::l).map A5.row),.slnil]=some (.bool false) from rfl,show AD (.Dm 3) []=some (.sl 3 []) from rfl,e]
def VT(h:Ah)(N:Nat)(x:ES)(r:List Aa):Prop:=∃K V,r=[I x.kind,I x.FM,K,I x.CQ,I x.Bc,.str x.name,V,.str x.data,.str x.pub,.str x.sys,.bool x.CK,I x.cont,I x.Em]/\D4 x.Bb K/\Jc h V x.Ay/\Up N V
def VT.HJ{x:ES}{r:List Aa}{t:Ah}{N:Nat}(hr:VT h N x r):VT (h++t) N x r:=let⟨K,V,e,h1,h2,b⟩:=hr;⟨K,V,e,h1,h2.HJ,b⟩
def aAY(w:PA h a n m ps A)(e:Nw A)(hx:A.has x)(ő:(A.nd x).Bb.length<=1000000000):∃r t,BL cx 296 [Pt n (nP n x)] h (.agg r) (h++t)/\VT (h++t) h.length (A.nd x) r:=by obtain⟨K,d,c⟩:=aAX (w.M4 hx) ő;obtain⟨V,t,r2,b,f⟩:=xg (h:=h) (w.xf hx) (e.at_ x);refine⟨_,t,?_,K,V,rfl,c,b,f⟩;have hc:K.cells=[K]:=AU.cells c;have e0:=w.row hx;have g:(pN ps x).row=_:=rfl;have ex:=(w.pn hx).2.1;rw[Ae,iG];rw[PN.row,ex] at e0;simp only[abS,e0,w.f2 hx,w.f6 hx,d.Ac,BI,r2.Ac,hc,b.cells]
def aHf(w:PA h a n m ps A)(b:Nw A)(ő:(A.nd x).Bb.length<=1000000000):∃r t,BL cx 163 [Pt a 0,I x] h (.tuple [.agg r,I (if A.has x then 0 else 3)]) (h++t)/\VT (h++t) h.length (A.nd x) r:=by
 by_cases hx:A.has x;.obtain⟨r,t,c,hr⟩:=aAY w b hx ő;have FZ:=hr;obtain⟨K,V,rfl,_⟩:=hr;refine⟨_,t,?_,FZ⟩;rw[Ae,Wt];simp only[abS,↓reduceIte,AR,HA,(Uh (x:=x) w).Ac,Af hx,BW,Cy,(Jb w b hx).Ac,c.Ac]
 .refine⟨_,[],?_,.slnil,.slnil,by rw[HK hx],by rw[HK hx];exact .inr ⟨rfl,rfl⟩,by rw[HK hx];exact .inl ⟨rfl,rfl⟩,λ_ _ e=>nomatch e⟩;rw[Ae,Wt,By];simp only[abS,↓reduceIte,AR,HA,(Uh (x:=x) w).Ac,Ad hx,BW,(AM:¬(3:Int)=0),Dz]
def aAZ(w:PA h a n m ps A)(c:Nw A)(ő:(A.nd x).Bb.length<=1000000000):∃v,BL cx 306 [Pt a 0,I x] h v h/\D4 (A.nd x).Bb v:=by
 by_cases hx:A.has x;.obtain⟨K,b,d⟩:=aAX (w.M4 hx) ő;refine⟨K,?_,d⟩;rw[Ae,WJ];simp only[abS,(VS (x:=x) w).Ac,As hx,(Jb w c hx).Ac,w.f2 hx,b.Ac]
 .refine⟨.slnil,?_,by rw[HK hx];exact .inr ⟨rfl,rfl⟩⟩;rw[Ae,WJ];simp only[abS,(VS (x:=x) w).Ac,Ap hx]
def aHg(w:PA h a n m ps A)(b:Nw A):BL cx 402 [Pt a 0,I x] h (I (A.nd x).FM) h:=by
 by_cases hx:A.has x;.rw[Ae,WN];simp only[abS,(VS (x:=x) w).Ac,As hx,(Jb w b hx).Ac,w.f1 hx]
 .rw[Ae,WN,HK hx];simp only[abS,(VS (x:=x) w).Ac,Ap hx]
def aMx(w:PA h a n m ps A):BL cx 148 [Pt a 0] h (I A.len) h:=by have b:AD (.len false) [.CF n 0 ps.length 13]=some (I (ps.length:Int)):=rfl;rw[Ae,Ą];simp only[abS,w.nodes,b,w.len]
def xh(w:PA h a n m ps A)(b:Nw A):BL cx 234 [Pt a 0,I x] h (I (if A.has x then(if(A.nd x).kind=1 then 0 else 9) else 3)) h:=by
 rw[Ae,gZ];by_cases hx:A.has x
 .simp only[abS,HA,(Uh (x:=x) w).Ac,Af hx,BW,Cy,(Jb w b hx).Ac,w.f0 hx];by_cases hk:(A.nd x).kind=1;.simp only[hk,abS,Cy]
  .simp only[hk,abS]
 .simp only[abS,HA,(Uh (x:=x) w).Ac,Ad hx,BW,(AM:¬(3:Int)=0)]
def xi{l:List PN}:(l.map PN.row).flatten.length=l.length*13:=by rw[FQ (pA l),An]
def pB{p:PN}{n':Nat}(hk:HT p.kv=none):Gm a n' m (ps++[p])=a::n'::(m.toList++ps.filterMap λp=>HT p.kv):=by unfold Gm;rw[EL];simp[hk]
def xj{x:ES}(hl:A.i.length=A.n.length):(A.add x).inr=A.inr:=by funext k;exact Wm hl
def Œ(w:PA h a n m ps A)(hb:ps.length+1<=1000000000)(p:PN)(hk:p.kv= .slnil)(Ä:p.x.Bb=[]):
  ∃h',BL cx 158 [Pt a 0,.agg p.row] h (I (A.len+1)) h'/\PA h' a h.length m (ps++[p]) (A.add p.x)/\(∀i,i<h.length->i≠a->i≠n->h'[i]?=h[i]?)/\h'.length=h.length+1:=by
 have Wb:a<h.length:=w.lt a (by simp[Gm]);have OX:n<h.length:=w.lt n (by simp[Gm]);have œ:a≠n:=by have:=w.nd;simp[Gm] at this;exact this.1.1
 have d:=JN (h:=h) (id:=n) (AE:=ps.map PN.row) (r2:=[p.row]) (v:= .sl 13 [p.row]) (b:=168) (pA ps) AM w.hn .mk AH (by rw[An];have:AX=140737488355328:=rfl;simp;omega);rw[An] at d;simp only[Be] at d;have Pb:(h.set n .CR++[DA.cells (ps.map PN.row++[p.row]).flatten])[a]?=some (.cells [.CF n 0 ps.length 13,.map m]):=by rw[Aj (by simpa using Wb),Ao (DG œ)];exact w.ha
 have es:Cv (h.set n .CR++[DA.cells (ps.map PN.row++[p.row]).flatten]) 1 (Pt a 0) (.CF h.length 0 (ps.length+1) 13)=some ((h.set n .CR++[DA.cells (ps.map PN.row++[p.row]).flatten]).set a (.cells [.CF h.length 0 (ps.length+1) 13,.map m])):=by simp only[Cv,Pb];rfl
 have k:A8 ((h.set n .CR++[DA.cells (ps.map PN.row++[p.row]).flatten]).set a (.cells [.CF h.length 0 (ps.length+1) 13,.map m])) none (Pt a 0)=some (.CF h.length 0 (ps.length+1) 13):=by simp only[A8];rw[AO Ei];rfl
 have l:AD (.len false) [.CF h.length 0 (ps.length+1) 13]=some (I ((ps.length+1:Nat):Int)):=rfl;have em:AD (.Dm 13) [.agg p.row]=some (.sl 13 [p.row]):=Mp (a:= .agg p.row) rfl AM;refine⟨(h.set n .CR++[DA.cells (ps.map PN.row++[p.row]).flatten]).set a (.cells [.CF h.length 0 (ps.length+1) 13,.map m]),?_,?_,?_,?_⟩;rotate_left
 .refine⟨by simp[Ar.add,w.e],by simp[Ar.add,w.il],?_,?_,?_,?_,?_⟩;.rw[AO Ei];simp
  .rw[Ao Ab,Bm AH];simp
  .intro q hq;rcases Ax.1 hq with hq|hq
   .refine(w.ks q hq).Dj λid Ie=>?_;have h1:id∈Gm a n m ps:=Lv hq Ie;have h2:=w.lt id h1;have c:=w.nd;have j:id∈m.toList++ps.filterMap λp=>HT p.kv:=Ax.2 (.inr (Ck.2 ⟨q,hq,Ie⟩));unfold Gm at c;simp only[B5,AS,MN] at c;have g:a≠id:=λe=>c.1.2 (e▸j);have f:n≠id:=λe=>c.2.1 (e▸j);rw[Ao g,Aj (by simpa using h2),Ao f]
   .simp at hq;subst hq;exact .inl ⟨hk,Ä⟩
  .rw[pB (by rw[hk];rfl)];have c:=w.nd;unfold Gm at c;simp only[B5,AS,MN] at c⊢;refine⟨⟨Ab,c.1.2⟩,λhm=>?_,c.2.2⟩;have:=w.lt h.length (by unfold Gm;simp only[AS];exact .inr (.inr hm));omega
  .rw[xj w.il];refine w.mp.Dj λid Ie=>?_;have h1:id∈m.toList++ps.filterMap λp=>HT p.kv:=by simp[Ie]
   have h2:=w.lt id (by unfold Gm;simp only[AS];exact .inr (.inr h1));have c:=w.nd;unfold Gm at c;simp only[B5,AS,MN] at c;have g:a≠id:=λe=>c.1.2 (e▸h1);have f:n≠id:=λe=>c.2.1 (e▸h1);rw[Ao g,Aj (by simpa using h2),Ao f]
 .intro i hi h1 h2;rw[Ao (DG h1),Aj (by simpa using hi),Ao (DG h2)]
 .simp
 .have hl:A.len+1=((ps.length+1:Nat):Int):=by rw[<-w.len];rfl
  rw[PN.row] at em d es k;rw[Ae,Ws,hl,PN.row];simp only[abS,Nat.reduceLeDiff,↓reduceIte,AR,w.nodes,em,d,es,k,l]
def N1{AE:List (List Aa)}{z i k:Nat}(hr:∀r∈AE,r.length=z)(hi:i<AE.length)(hk:k<z){v:Aa}:AE.flatten.take (i*z+k)++[v]++AE.flatten.drop (i*z+k+1)=(AE.set i (AE[i].set k v)).flatten:=by
 have hl:=hr _ (AL hi);rw[<-nO hr hi];have b:AE.flatten.drop (i*z)=AE[i]++AE.flatten.drop (i*z+z):=by
  have e:i*z+z=(i+1)*z:=by rw[BH,D7]
  rw[e,I3 hr,I3 hr,AG hi,CZ]
 have d:AE.flatten.take (i*z+k)=AE.flatten.take (i*z)++AE[i].take k:=by rw[aAa,b,CL Ab]
 have c:AE.flatten.drop (i*z+k+1)=AE[i].drop (k+1)++AE.flatten.drop (i*z+z):=by rw[R4,<-Ek,b,Jk Ab]
 rw[d,c,BZ,Af Ab];simp
def PA.sto(w:PA h a n m ps A)(hx:A.has x){k:Nat}(hk:k<13){v:Aa}(hv:v.cells=[v]){p:PN}(hp:p.row=(pN ps x).row.set k v){h1:Ah}(hn:h1[n]?=h[n]?):
  Cv h1 1 (Pt n (nP n x+k)) v=some (h1.set n (.cells ((ps.set (x.toNat-1) p).map PN.row).flatten)):=by
 have hlt:=(w.at hx).1;have hg:=(w.pn hx).1;rw[Al hlt,BB] at hg;have e:=N1 (AE:=ps.map PN.row) (i:=x.toNat-1) (k:=k) (v:=v) (pA ps) (by simpa using hlt) hk;rw[C1,hg,<-hp,<-Eo] at e;unfold nP;simp only[Cv,hn,w.hn,hv,Be,MO];rw[Af (by rw[FQ (pA ps),An];omega),e]
def YN(w:PA h a n m ps A)(hx:A.has x)(p:PN):ps=ps.take (x.toNat-1)++pN ps x::ps.drop (x.toNat-1+1)/\ps.set (x.toNat-1) p=ps.take (x.toNat-1)++p::ps.drop (x.toNat-1+1):=by have hlt:=(w.at hx).1;have hg:=(w.pn hx).1;rw[Al hlt,BB] at hg;refine⟨?_,by rw[BZ,Af hlt]⟩;conv=>lhs;rw[<-CG (x.toNat-1) ps,AG hlt,hg]
def xk{y:ES}:(A.set x y).inr=A.inr:=by funext k;exact SV
def PA.m_(w:PA h a n m ps A)(hx:A.has x){p:PN}{h1:Ah}(ho:∀i∈Gm a n m ps,HT (pN ps x).kv≠some i->h1[i]?=h[i]?)(hk:Kq h1 p.kv p.x.Bb)
  (hi:HT p.kv=HT (pN ps x).kv\/∀j,HT p.kv=some j->h.length<=j):PA (h1.set n (.cells ((ps.set (x.toNat-1) p).map PN.row).flatten)) a n m (ps.set (x.toNat-1) p) (A.set x p.x):=by
 have hlt:=(w.at hx).1;have Ŕ:=(w.pn hx).2.2;obtain⟨z,B⟩:=YN w hx p;have nd:=w.nd;have g:∀j,HT (pN ps x).kv=some j->j∈m.toList++ps.filterMap λp=>HT p.kv:=λj hj=>Ax.2 (.inr (Ck.2 ⟨_,Ŕ,hj⟩));have kI:=nd;unfold Gm at kI;simp only[B5,AS,MN] at kI;have œ:a≠n:=kI.1.1;have l:HT (pN ps x).kv≠some a:=λe=>kI.1.2 (g a e);have f:HT (pN ps x).kv≠some n:=λe=>kI.2.1 (g n e);have OX:n<h.length:=w.lt n (by simp[Gm]);have v:h1[n]?=h[n]?:=ho n (by simp[Gm]) f;have y:n<h1.length:=by have:=w.hn;rw[<-v] at this;exact(Ak.1 this).1
 have s:∀j,HT p.kv=some j->j≠n/\j≠a:=by
  intro j hj;rcases hi with hi|hi
  .rw[hi] at hj;exact⟨λe=>f (e▸hj),λe=>l (e▸hj)⟩
  .have:=hi j hj;have:=w.lt a (by simp[Gm]);omega
 refine⟨?_,?_,?_,?_,?_,?_,?_⟩;.simp only[Ar.set,Af hx];rw[w.e,Eo]
 .rw[Jw];exact w.il
 .rw[Ao (DG œ),ho a (by simp[Gm]) l,Bq];exact w.ha
 .rw[AO y]
 .intro q hq;by_cases c:q=p;.rw[c];exact hk.Dj λid Ie=>by rw[Ao (DG (s id Ie).1)]
  .rw[B] at hq;have d:q∈ps.take (x.toNat-1)++ps.drop (x.toNat-1+1):=by
    rcases Ax.1 hq with b|b
    .exact Ax.2 (.inl b)
    .exact Ax.2 (.inr ((AS.1 b).resolve_left c))
   have sx:q∈ps:=by
    rcases Ax.1 d with b|b
    .exact Bp b
    .exact Bw b
   refine(w.ks q sx).Dj λj hj=>?_;have o:j∈Gm a n m ps:=Lv sx hj;have u:j≠n:=λe=>kI.2.1 (e▸Ax.2 (.inr (Ck.2 ⟨q,sx,hj⟩)));have VU:HT (pN ps x).kv≠some j:=by
    intro t;have r:=(B3.1 kI.2.2).2.1;rw[z,EL,IA,t] at r;simp only[B3,B5,AS,Ck] at r;rcases Ax.1 d with b|b
    .exact r.2.2 j ⟨q,b,hj⟩ j (.inl rfl) rfl
    .exact r.2.1.1 ⟨q,b,hj⟩
   rw[Ao (DG u),ho j o VU]
 .have fr:∀j,HT p.kv=some j->HT (pN ps x).kv=some j\/j∉Gm a n m ps:=by
   intro j hj;rcases hi with hi|hi
   .exact .inl (hi▸hj)
   .exact .inr λhm=>by have:=hi j hj;have:=w.lt j hm;omega
  have h1:=nd;unfold Gm at h1 fr⊢;rw[z,EL,IA] at h1;rw[z,EL,IA] at fr;rw[B,EL,IA];generalize List.filterMap (λp=>HT p.kv) (ps.take (x.toNat-1))=T at h1 fr⊢;generalize List.filterMap (λp=>HT p.kv) (ps.drop (x.toNat-1+1))=D at h1 fr⊢;cases hp:HT p.kv with
  |none=>
   cases ho:HT (pN ps x).kv with
   |none=>rw[ho] at h1;exact h1
   |some k=>rw[ho] at h1;refine h1.sublist ?_;simp
  |some j=>
   have:=fr j hp;cases ho:HT (pN ps x).kv with
   |none=>rw[ho] at h1 this;simp only[B5,B3,AS,Ax] at h1 this⊢;grind
   |some k=>rw[ho] at h1 this;simp only[B5,B3,AS,Ax] at h1 this⊢;grind
 .rw[xk];refine w.mp.Dj λid Ie=>?_;have o:id∈m.toList++ps.filterMap λp=>HT p.kv:=by simp[Ie]
  have u:n≠id:=λe=>kI.2.1 (e▸o);have VU:HT (pN ps x).kv≠some id:=by intro dO;exact(B3.1 kI.2.2).2.2 id (by simp[Ie]) id (Ck.2 ⟨_,Ŕ,dO⟩) rfl
  rw[Ao u,ho id (by unfold Gm;simp only[AS];exact .inr (.inr o)) VU]
end
end Go.Am
end
