/- Lemmas -/
import Derived.Test.YtlcmmpgfafpoiaaGreatDoorT20
import Derived.Test.YtlcmmpgfafpoiaaGreatDoorT21
import Derived.Test.YtlcmmpgfafpoiaaGreatDoorT22
import Derived.Test.YtlcmmpgfafpoiaaGreatDoorT23
import Derived.Test.YtlcmmpgfafpoiaaGreatDoorT18
set_option linter.all false
set_option maxHeartbeats 0
set_option maxRecDepth 100000
section
namespace Go.Am
open Go
abbrev oV:=List Aa->Option IT
def aDq(g:IT):oV:=λl=>match l with
 |[]=>some (g)
 |_=>none
def aDr(g:Aa->IT):oV:=λl=>match l with
 |[a0]=>some (g a0)
 |_=>none
def aDs(g:Aa->Aa->IT):oV:=λl=>match l with
 |[a0,a1]=>some (g a0 a1)
 |_=>none
def aDt(g:Aa->Aa->Aa->IT):oV:=λl=>match l with
 |[a0,a1,a2]=>some (g a0 a1 a2)
 |_=>none
def aDu(g:Aa->Aa->Aa->Aa->IT):oV:=λl=>match l with
 |[a0,a1,a2,a3]=>some (g a0 a1 a2 a3)
 |_=>none
def aDv(g:Aa->Aa->Aa->Aa->Aa->IT):oV:=λl=>match l with
 |[a0,a1,a2,a3,a4]=>some (g a0 a1 a2 a3 a4)
 |_=>none
def Yw(f:Nat)(g:oV):Prop:=∀l t,g l=some t->t=B9 cx f l
def T4{f:Nat}{g:IT}(h:B9 cx f []=g):Yw f (aDq g):=by
 intro l t ht;unfold aDq at ht;split at ht;.cases ht;exact(h).symm
 .cases ht
def BP{f:Nat}{g:Aa->IT}(h:∀a0,B9 cx f [a0]=g a0):Yw f (aDr g):=by
 intro l t ht;unfold aDr at ht;split at ht;.cases ht;exact(h _).symm
 .cases ht
def BG{f:Nat}{g:Aa->Aa->IT}(h:∀a0 a1,B9 cx f [a0,a1]=g a0 a1):Yw f (aDs g):=by
 intro l t ht;unfold aDs at ht;split at ht;.cases ht;exact(h _ _).symm
 .cases ht
def EH{f:Nat}{g:Aa->Aa->Aa->IT}(h:∀a0 a1 a2,B9 cx f [a0,a1,a2]=g a0 a1 a2):Yw f (aDt g):=by
 intro l t ht;unfold aDt at ht;split at ht;.cases ht;exact(h _ _ _).symm
 .cases ht
def Yx{f:Nat}{g:Aa->Aa->Aa->Aa->IT}(h:∀a0 a1 a2 a3,B9 cx f [a0,a1,a2,a3]=g a0 a1 a2 a3):Yw f (aDu g):=by
 intro l t ht;unfold aDu at ht;split at ht;.cases ht;exact(h _ _ _ _).symm
 .cases ht
def wm{f:Nat}{g:Aa->Aa->Aa->Aa->Aa->IT}(h:∀a0 a1 a2 a3 a4,B9 cx f [a0,a1,a2,a3,a4]=g a0 a1 a2 a3 a4):Yw f (aDv g):=by
 intro l t ht;unfold aDv at ht;split at ht;.cases ht;exact(h _ _ _ _ _).symm
 .cases ht
def tb0{f:Nat}{g:IT}(h:B9 cx f []=g):Nat×oV:=(f,aDq g)
def GO{f:Nat}{g:Aa->IT}(h:∀a0,B9 cx f [a0]=g a0):Nat×oV:=(f,aDr g)
def F7{f:Nat}{g:Aa->Aa->IT}(h:∀a0 a1,B9 cx f [a0,a1]=g a0 a1):Nat×oV:=(f,aDs g)
def RT{f:Nat}{g:Aa->Aa->Aa->IT}(h:∀a0 a1 a2,B9 cx f [a0,a1,a2]=g a0 a1 a2):Nat×oV:=(f,aDt g)
def tb4{f:Nat}{g:Aa->Aa->Aa->Aa->IT}(h:∀a0 a1 a2 a3,B9 cx f [a0,a1,a2,a3]=g a0 a1 a2 a3):Nat×oV:=(f,aDu g)
def tb5{f:Nat}{g:Aa->Aa->Aa->Aa->Aa->IT}(h:∀a0 a1 a2 a3 a4,B9 cx f [a0,a1,a2,a3,a4]=g a0 a1 a2 a3 a4):Nat×oV:=(f,aDv g)
def aAT:List (Nat×oV):=[F7 vf,GO vg,GO vh,GO vi,GO vj,GO uB,F7 vp,F7 vq,F7 vr,F7 vt,F7 Il,F7 vu,F7 vw,F7 Yt,F7 vy,F7 Jo,tb0 vz,F7 v_,GO wc,F7 uC,tb0 uD,F7 fC,F7 uE,F7 uF,RT uG,F7 uH,F7 T3,RT fE,RT uI,GO fF,GO uJ,F7 uK,F7 fG,GO uL,RT fH,GO Yu,GO uM,GO uN,GO Yv,GO uO,F7 uP,tb4 fI,F7 fK,tb0 yK,GO fL,RT yL,F7 Wf,tb5 yM,tb4 L8,GO yN,F7 fM,F7 fN,GO yO,F7 fO,F7 fP,GO QC,RT yP,GO SX,tb0 yQ,tb0 yR,F7 fQ,GO fR,GO Wg,GO fU,GO Wh,F7 Wi,F7 Wj,tb4 QD,F7 fV,RT fW,F7 fX,F7 Wk,tb4 Wl,F7 fZ,F7 Wm,F7 gA,F7 gB,F7 gC,RT gD,RT gE,RT gF,RT gG,F7 gH,F7 gI,GO SY,GO gJ,GO gK,F7 gL,F7 Wn,F7 gM,GO gN,F7 gO,F7 M8,RT gP,F7 Wo,F7 gQ,RT gR,F7 gS,GO gT,RT gU,GO gV,GO gW,RT gX,GO gY,F7 gZ,F7 hC,F7 hZ,GO iA,tb5 Wp,F7 Wq,GO Ws,F7 iB,RT iC,F7 iD,F7 Wt,F7 iE,F7 zB,F7 zC,F7 Wu,F7 Wv,RT zD,GO zE,GO zF,GO zG,GO zH,GO zI,GO zJ,GO zK,GO zL,GO zM,GO zN,GO zO,GO zP,GO zQ,GO zR,GO zS,GO zT,GO zU,GO zV,GO zW,GO zX,GO zY,GO zZ,GO aa,GO ae,GO af,GO ag,GO ah,GO aj,GO ak,GO ao,GO iF,F7 iG,F7 Ww,F7 iH,RT iI,F7 SZ,GO iJ,F7 iK,F7 iL,F7 iM,GO iN,GO iO,F7 Wx,RT iP,F7 iQ,F7 iR,GO iS,F7 iT,F7 iU,F7 iV,F7 iW,F7 iX,RT iY,RT iZ,F7 i5,tb4 i6,RT i7,RT jA,tb0 jB,F7 jC,GO jD,F7 jE,GO jF,GO jG,GO jH,F7 jI,GO jJ,GO jK,F7 S0,GO Wy,F7 S1,RT jL,GO jM,F7 ax,GO jN,F7 jO,F7 ay,GO az,GO a_,F7 bb,RT bc,F7 bd,GO be,F7 bg,F7 bh,GO Wz,F7 jP,F7 jQ,F7 jR,F7 jS,F7 jT,F7 WA,GO S2,RT jU,RT jV,F7 jW,RT WB,RT WC,F7 jX,GO jY,F7 jZ,RT WD,GO j0,F7 j1,GO j2,GO j3,F7 j6,GO j7,F7 bj,GO OG,GO OH,GO OI]
def wq:List (Nat×oV)->Prop
 |[]=>True
 |(f,g)::l=>Yw f g/\wq l
def wv:wq aAT:=
 ⟨BG vf,BP vg,BP vh,BP vi,BP vj,BP uB,BG vp,BG vq,BG vr,BG vt,BG Il,BG vu,BG vw,BG Yt,BG vy,BG Jo,T4 vz,BG v_,BP wc,BG uC,T4 uD,BG fC,BG uE,BG uF,EH uG,BG uH,BG T3,EH fE,EH uI,BP fF,BP uJ,BG uK,BG fG,BP uL,EH fH,BP Yu,BP uM,BP uN,BP Yv,BP uO,BG uP,Yx fI,BG fK,T4 yK,BP fL,EH yL,BG Wf,wm yM,Yx L8,BP yN,BG fM,BG fN,BP yO,BG fO,BG fP,BP QC,EH yP,BP SX,T4 yQ,T4 yR,BG fQ,BP fR,BP Wg,BP fU,BP Wh,BG Wi,BG Wj,Yx QD,BG fV,EH fW,BG fX,BG Wk,Yx Wl,BG fZ,BG Wm,BG gA,BG gB,BG gC,EH gD,EH gE,EH gF,EH gG,BG gH,BG gI,BP SY,BP gJ,BP gK,BG gL,BG Wn,BG gM,BP gN,BG gO,BG M8,EH gP,BG Wo,BG gQ,EH gR,BG gS,BP gT,EH gU,BP gV,BP gW,EH gX,BP gY,BG gZ,BG hC,BG hZ,BP iA,wm Wp,BG Wq,BP Ws,BG iB,EH iC,BG iD,BG Wt,BG iE,BG zB,BG zC,BG Wu,BG Wv,EH zD,BP zE,BP zF,BP zG,BP zH,BP zI,BP zJ,BP zK,BP zL,BP zM,BP zN,BP zO,BP zP,BP zQ,BP zR,BP zS,BP zT,BP zU,BP zV,BP zW,BP zX,BP zY,BP zZ,BP aa,BP ae,BP af,BP ag,BP ah,BP aj,BP ak,BP ao,BP iF,BG iG,BG Ww,BG iH,EH iI,BG SZ,BP iJ,BG iK,BG iL,BG iM,BP iN,BP iO,BG Wx,EH iP,BG iQ,BG iR,BP iS,BG iT,BG iU,BG iV,BG iW,BG iX,EH iY,EH iZ,BG i5,Yx i6,EH i7,EH jA,T4 jB,BG jC,BP jD,BG jE,BP jF,BP jG,BP jH,BG jI,BP jJ,BP jK,BG S0,BP Wy,BG S1,EH jL,BP jM,BG ax,BP jN,BG jO,BG ay,BP az,BP a_,BG bb,EH bc,BG bd,BP be,BG bg,BG bh,BP Wz,BG jP,BG jQ,BG jR,BG jS,BG jT,BG WA,BP S2,EH jU,EH jV,BG jW,EH WB,EH WC,BG jX,BP jY,BG jZ,EH WD,BP j0,BG j1,BP j2,BP j3,BG j6,BP j7,BG bj,BP OG,BP OH,BP OI,trivial⟩
def Ŋ(f:Nat):List (Nat×oV)->List Aa->Option IT
 |[],_=>none
 |(k,g)::l,args=>if Nat.beq k f then g args else Ŋ f l args
def bk{f:Nat}{args:List Aa}{t:IT}:∀{l:List (Nat×oV)},wq l->Ŋ f l args=some t->t=B9 cx f args
 |[],_,h=>by cases h
 |(k,g)::l,ha,h=>by
  simp only[Ŋ] at h;split at h;.rename_i hk;have hk:k=f:=Nd hk;subst hk;exact ha.1 _ _ h
  .exact bk ha.2 h
noncomputable def tab(f:FuncId)(args:List Aa):IT:=match Ŋ f aAT args with
 |some t=>t
 |none=>B9 cx f args
def RH:tab=B9 cx:=by
 funext f args;unfold tab;split;.rename_i t h;exact bk wv h
 .rfl
def Yy:Option Ke->Bool
 |some (.ret,[.bool true],_)=>true
 |_=>false
def ZO{r:Option Ke}(h:Yy r=true):∃h',r=some (.ret,[.bool true],h'):=by
 unfold Yy at h;split at h;.exact⟨_,rfl⟩
 .cases h
end Go.Am
end
section
namespace Go.Am
open Go
section
def aLz(s:An):JQ cx 325 [.str s] (.bool (decide (s∈GA))):=by rw[L4,iS];rw[show aGz (.str s)=sw s (.ret .ret [tt]) (.ret .ret [ff]) GA from rfl,ue];exact⟨λh=>by simp[h],λh=>by simp[h]⟩
section
variable{Q:HF}{h:Ah}{k:Aa->IT}{s:An}
@[simp] theorem wz:W cx (.B7 325 [.str s] k) Q h↔W cx (k (.bool (decide (s∈GA)))) Q h:=(aLz s).B7 rfl rfl
end
def aLA(s:An):JQ cx 342 [.str s] (.bool (decide (s∈J5\/s∈GA))):=by rw[L4,jG];rw[show aGA (.str s)=sw s (.ret .ret [tt]) (.B7 325 [.str s] λv=> .ret .ret [v]) J5 from rfl,ue];exact⟨λh=>by simp[h],λh=>by simp[h]⟩
def aLB(n:Int)(s:An):JQ cx 329 [I n,.str s] (.bool (decide (n=3/\s∈KW))):=by
 rw[L4,iW];by_cases h:n=3;.simp[h,KW];by_cases h1:s=[109,105]<;>by_cases h2:s=[109,110]<;>by_cases b:s=[109,111]<;>by_cases a:s=[109,115]<;>simp[h1,h2,b,a]
 .simp[h]
section
variable{Q:HF}{h:Ah}{k:Aa->IT}{s:An}{n:Int}
@[simp] theorem w_:W cx (.B7 342 [.str s] k) Q h↔W cx (k (.bool (decide (s∈J5\/s∈GA)))) Q h:=(aLA s).B7 rfl rfl
@[simp] theorem aGF:W cx (.B7 329 [I n,.str s] k) Q h↔W cx (k (.bool (decide (n=3/\s∈KW)))) Q h:=(aLB n s).B7 rfl rfl
end
def aGG(n:Int)(s:An):JQ cx 186 [I n,.str s] (.bool (Ey n s)):=by
 rw[L4,gM];rw[show aGv (I n) (.str s)= .op (.int .eql) [I n,I 3] λv=> .Gg v (.op (.str .eql) [.str s,S aT1] λv=> .Gg v (.ret .ret [tt]) (.B7 329 [I n,.str s] λv=> .ret .ret [v]))
  (.op (.int .eql) [I n,I 2] λv=> .Gg v (sw s (.ret .ret [tt]) (.op (.str .eql) [.str s,S aT2] λv=> .ret .ret [v]) [aUR,aUf])
  (.op (.int .eql) [I n,I 1] λv=> .Gg v (sw s (.ret .ret [tt]) (.ret .ret [ff]) NR) (.ret .ret [ff]))) from rfl]
 by_cases a:n=3;.by_cases h:s=aT1<;>simp[a,Ey,h]
 .by_cases h2:n=2;.by_cases ha:s=aUR<;>by_cases hb:s=aUf<;>simp[h2,ue,Ey,Qs,ha,hb]
  .by_cases h1:n=1;.by_cases h:s∈NR<;>simp[h1,ue,Ey,h]
   .simp[a,h2,h1,Ey]
section
variable{Q:HF}{h:Ah}{k:Aa->IT}{s:An}{n:Int}
@[simp] theorem Yz:W cx (.B7 186 [I n,.str s] k) Q h↔W cx (k (.bool (Ey n s))) Q h:=(aGG n s).B7 rfl rfl
end
end
section
def f277(s:An)(c:UInt8)(hs:s.length<9223372036854775807):JQ cx 285 [.str s,.int .u8 (c.toNat:Int)] (.bool (decide (c∈s))):=by
 rw[L4,ĭ];refine Bl (λn:Nat=>[.bool false,I (n:Int)]) (λn _=>n<=s.length/\c∉s.take n) (λn=>s.length-n) 0 rfl ⟨AZ _,AH⟩ ?_;rintro n h ⟨hn,hc⟩;rcases AQ n s.length with hlt|Ei
 .simp only[BF,Fz hlt,BO (Ab:n<9223372036854775807)];refine⟨λ_=>⟨λhe=>?_,λhe=>?_⟩,λh=>absurd (Int.ofNat_lt.2 hlt) h⟩
  .have e:s[n]=c:=by rw[<-Vm];exact aAg he
   simp only[As (show c∈s from e▸AN hlt)]
  .refine AL.next (n+1) rfl ⟨hlt,?_⟩ Ab;rw[AE hlt,Ax,Ns];refine⟨hc,λh=>he ?_⟩;rw[Dt] at h;rw[<-h]
 .simp only[BF];refine⟨λh=>absurd (Int.ofNat_lt.1 h) Ab,λ_=>?_⟩;rw[AF Ei] at hc;simp[hc]
def aGH(l s:An)(hl:l.length<9223372036854775806)(hs:s.length<9223372036854775807):JQ cx 139 [.str l,.str s] (.bool (Ga l s)):=by
 rw[L4,Ć];have aLC:JQ cx 285 [.str s,.int .u8 32] (.bool (decide ((32:UInt8)∈s))):=f277 s 32 hs;simp only[BF,aLC.B7 rfl rfl];refine⟨λh=>by simp[Ga,h],λh0=>⟨λh=>by simp[Ga,h],λh1=>?_⟩⟩;refine Bl (λp:Nat×Nat=>[.bool false,I (p.1:Int),I (p.2:Int)])
  (λp _=>(p.1<=p.2/\p.2<=l.length/\(s∈Dp [] l↔s∈Dp ((l.take p.2).drop p.1) (l.drop p.2)))\/(p.2=l.length+1/\s∉Dp [] l)) (λp=>l.length+1 -p.2) (0,0) rfl (.inl ⟨Ag _,AZ _,AH⟩) ?_
 rintro⟨a,n⟩ h aDw;rcases aDw with⟨Zn,hn,YA⟩|⟨hn,Zj⟩
 .simp only at Zn hn YA;have i1:(n:Int)<=(l.length:Int):=Ab;rcases AQ n l.length with hlt|Ei
  .have b:¬(n:Int)=(l.length:Int):=by omega
   simp only[BF,i1,b,AA,Ay,forall_const,Ao,Fz hlt,BO (Ab:n<9223372036854775807),Mr Zn hn];rw[AG hlt,PQ] at YA;refine⟨λhe=>?_,λhe=>?_⟩
   .have e:l[n]=32:=by rw[<-Vm];exact aAg he
    rw[Af e,AX] at YA;refine⟨λhw=>?_,λhw=>?_⟩;.have:s∈Dp [] l:=YA.2 (.inl hw.symm);simp[Ga,h0,h1,this]
    .refine AL.next (n+1,n+1) rfl (.inl ⟨Ag _,hlt,?_⟩) Dv;rw[YA,O3];exact⟨λh=>h.resolve_left (λh=>hw h.symm),.inr⟩
   .have e:¬l[n]=32:=λe=>he (by rw[e];rfl);rw[Ad e] at YA;refine AL.next (a,n+1) rfl (.inl ⟨Dv,hlt,?_⟩) Dv;rw[YA,XZ Zn hlt]
  .have e:n=l.length:=by omega
   subst e;simp only[BF,GC,AA,Ao,Au,Mr Zn hn,BO (Ab:l.length<9223372036854775807)];rw[A0 (Ag _),Q3] at YA;rw[Dt] at YA;refine⟨λhw=>?_,λhw=>?_⟩;.have:s∈Dp [] l:=YA.2 hw.symm;simp[Ga,h0,h1,this]
   .exact AL.next (l.length+1,l.length+1) rfl (.inr ⟨rfl,λh=>hw (YA.1 h).symm⟩) Dv
 .simp only at hn;subst hn;have i1:¬((l.length+1:Nat):Int)<=(l.length:Int):=Ab;simp only[BF,i1,Ay,Ao,Au];simp[Ga,Zj]
end
section
def HY{Q:HF}{h:Ah}{k:Aa->IT}{l s:An}(hl:l.length<9223372036854775806)(hs:s.length<9223372036854775807):W cx (.B7 139 [.str l,.str s] k) Q h↔W cx (k (.bool (Ga l s))) Q h:=(aGH l s hl hs).B7 rfl rfl
section
variable{Q:HF}{h:Ah}{k:Aa->IT}{s:An}
def uS(hs:s.length<9223372036854775807):W cx (.B7 139 [.str aTO,.str s] k) Q h↔W cx (k (.bool (decide (s∈NR)))) Q h:=by rw[HY Di hs,tD]
def j8(hs:s.length<9223372036854775807):W cx (.B7 139 [.str aUi,.str s] k) Q h↔W cx (k (.bool (decide (s∈KW)))) Q h:=by rw[HY Di hs,eK]
def U7(hs:s.length<9223372036854775807):W cx (.B7 139 [.str aT4,.str s] k) Q h↔W cx (k (.bool (decide (s∈Qs)))) Q h:=by rw[HY Di hs,nQ]
def YB(hs:s.length<9223372036854775807):W cx (.B7 139 [.str aTV,.str s] k) Q h↔W cx (k (.bool (decide (s∈GA)))) Q h:=by rw[HY Di hs,tE]
def oW(hs:s.length<9223372036854775807):W cx (.B7 139 [.str aTX,.str s] k) Q h↔W cx (k (.bool (decide (s∈J5)))) Q h:=by rw[HY Di hs,nS]
def ka(hs:s.length<9223372036854775807):W cx (.B7 139 [.str aUe,.str s] k) Q h↔W cx (k (.bool (decide (s∈Ox)))) Q h:=by rw[HY Di hs,jd]
def uT(hs:s.length<9223372036854775807):W cx (.B7 139 [.str aT8,.str s] k) Q h↔W cx (k (.bool (decide (s∈Mt)))) Q h:=by rw[HY Di hs,tF]
def xa(hs:s.length<9223372036854775807):W cx (.B7 139 [.str aUU,.str s] k) Q h↔W cx (k (.bool (decide (s∈Rz)))) Q h:=by rw[HY Di hs,uf]
def ke(hs:s.length<9223372036854775807):W cx (.B7 139 [.str aTU,.str s] k) Q h↔W cx (k (.bool (decide (s∈Qt)))) Q h:=by rw[HY Di hs,je]
end
def aLD(s:An)(hs:s.length<9223372036854775807):JQ cx 350 [.str s] (.bool (decide (s∈GA))):=by rw[L4,ķ];simp only[BF,YB hs]
def aLE(s:An)(hs:s.length<9223372036854775807):JQ cx 351 [.str s] (.bool (decide (s∈J5\/s∈GA))):=by rw[L4,ĸ];simp only[BF,YB hs,oW hs];refine⟨λh=>by simp[h],λh=>by simp[h]⟩
def f169(n:Int)(s:An)(hs:s.length<9223372036854775807):JQ cx 220 [I n,.str s] (.bool (Ey n s)):=by rw[L4,ĝ];simp only[BF,j8 hs,uS hs,U7 hs,Ey];refine⟨λh=>by simp[h],λh1=>⟨λh2=>⟨λa=>by simp[h2,a],λa=>by simp[h2,a]⟩,λh2=>⟨λa=>by simp[a],λa=>by simp[h1,h2,a]⟩⟩⟩
section
variable{Q:HF}{h:Ah}{k:Aa->IT}{s:An}{n:Int}
def xb(hs:s.length<9223372036854775807):W cx (.B7 350 [.str s] k) Q h↔W cx (k (.bool (decide (s∈GA)))) Q h:=(aLD s hs).B7 rfl rfl
def xc(hs:s.length<9223372036854775807):W cx (.B7 351 [.str s] k) Q h↔W cx (k (.bool (decide (s∈J5\/s∈GA)))) Q h:=(aLE s hs).B7 rfl rfl
def oX(hs:s.length<9223372036854775807):W cx (.B7 220 [I n,.str s] k) Q h↔W cx (k (.bool (Ey n s))) Q h:=(f169 n s hs).B7 rfl rfl
end
end
section
def aLF(c:UInt8):JQ cx 398 [.int .u8 (c.toNat:Int)] (.bool (decide (65<=c.toNat/\c.toNat<=90))):=by
 rw[L4,Ņ];simp only[BF];refine⟨λh=>?_,λh=>?_⟩
 .have e:65<=c.toNat:=by omega
  have a:((c.toNat:Int)<=90)=(c.toNat<=90):=by rw[eq_iff_iff];omega
  simp[e,a]
 .have e:¬65<=c.toNat:=by omega
  simp[e]
def aDx(s:An)(hs:s.length<=AS):JQ cx 316 [.str s] (.str (FW s)):=by
 have VW:s.length<=140737488355328:=hs;rw[L4,Ĵ];refine Bl (λp:Nat×Aa=>[p.2,I (p.1:Int)]) (λp _=>p.1<=s.length/\AV 1 (Cd (FW (s.take p.1))) p.2) (λp=>s.length-p.1) (0,.slnil) rfl ⟨AZ _,.nil⟩ ?_;rintro⟨n,v⟩ h ⟨hn,hv⟩;simp only at hn hv;rcases AQ n s.length with hlt|Ei
 .have i1:(n:Int)<(s.length:Int):=by omega
  have hb:((Cd (FW (s.take n))).length+1)*1<=AS:=by rw[ZL];simp[FW,AS];omega
  simp only[BF,i1,AA,Au,Ao,Fz hlt,(aLF _).B7 rfl rfl,BO (Ab:n<9223372036854775807)];refine⟨λhe=>?_,λhe=>?_⟩
  .simp only[BF,eD,wrap_u8 (Ab:0<=((s[n].toNat:Int)+32)/\((s[n].toNat:Int)+32)<=255),Ms (a:= .int .u8 ((s[n].toNat:Int)+32)) (z:=1) rfl AU,hv.sZ hb];refine AL.next (n+1,_) rfl ⟨hlt,?_⟩ Dv;rw[RC hlt,Q2];have e:Cd [I4 s[n]]=[[.int .u8 ((s[n].toNat:Int)+32)]]:=by simp[Cd,SA he]
   rw[e];exact .mk
  .simp only[BF,Ms (a:= .int .u8 (s[n].toNat:Int)) (z:=1) rfl AU,hv.sZ hb];refine AL.next (n+1,_) rfl ⟨hlt,?_⟩ Dv;rw[RC hlt,Q2,Oy he];exact .mk
 .have i1:¬(n:Int)<(s.length:Int):=by omega
  have e:s.take n=s:=AF Ei;rw[e] at hv;simp only[BF,i1,Ay,Au,Ao,hv.Ph,hv.WK]
def f300(a b:Int)(h:Ah):BK cx 361 [.int .i32 a,.int .i32 b] h (.func (.func 414) [] [.CJ [.int .i32 a],.CJ [.int .i32 b]]) h:=by rw[Ae,S1];simp only[BF]
def aLG(c a b:Int)(h:Ah):BK cx 414 [.int .i32 c,.CJ [.int .i32 a],.CJ [.int .i32 b]] h (.bool (decide (a<=c/\c<=b))) h:=by rw[Ae,WD];simp only[BF];refine⟨λh=>by simp[h],λh=>by simp[h]⟩
def aLH(c:Int):JQ cx 417 [.int .i32 c] (.bool (decide (65<=c/\c<=90))):=by rw[L4,j0];simp only[BF,Nat.reduceLeDiff,↓reduceIte,(f300 _ _ _).Ac,DD,(aLG _ _ _ _).Ac]
def aDy(s:An)(hs:s.length<=AS):JQ cx 366 [.str s] (.str (FW s)):=by
 have VW:s.length<=140737488355328:=hs;rw[L4,jM,aGC];have j:IV [] (.str s)=some ([.cells ((HJ s 0).map OZ)],.Cs 0 0 s.length 1):=by simp only[IV,hs,BI];rfl
 have i:AB (.len false) [.Cs 0 0 s.length 1]=some (I (s.length:Int)):=rfl;simp only[BF,j,i];refine Bl (λn:Nat=>[I (n:Int)]) (λn h=>n<=s.length/\h=[.cells ((HJ s n).map OZ)]) (λn=>s.length-n) 0 rfl ⟨AZ _,rfl⟩ ?_;rintro n h ⟨hn,rfl⟩;rcases AQ n s.length with hlt|Ei
 .have i1:(n:Int)<(s.length:Int):=by omega
  have g:AB (.Fu 1) [.Cs 0 0 s.length 1,I (n:Int)]=some (Pt 0 n):=by simp[AB,elemOf,Mi,hlt]
  have f:A7 [.cells ((HJ s n).map OZ)] none (Pt 0 n)=some (.int .u8 (s[n].toNat:Int)):=tG (by rw[Ck,X1 hlt];rfl);have e:IntKind.i32.wrap (s[n].toNat:Int)=(s[n].toNat:Int):=uc (by have:=s[n].toNat_lt;omega);simp only[BF,i1,AA,Au,Ao,g,f,Qq,e,(aLH _).B7 rfl rfl,BO (Ab:n<9223372036854775807)];refine⟨λhe=>?_,λhe=>?_⟩
  .have a:65<=s[n].toNat/\s[n].toNat<=90:=by omega
   have d:Co [.cells ((HJ s n).map OZ)] 1 (Pt 0 n) (.int .u8 ((s[n].toNat:Int)-65+97))=some [.cells (((HJ s n).map OZ).set n (.int .u8 ((s[n].toNat:Int)-65+97)))]:=nU (by rw[Aj,X0];exact hlt) rfl;simp only[BF,sY,eD,wrap_u8 (Ab:0<=((s[n].toNat:Int)-65)/\((s[n].toNat:Int)-65)<=255),wrap_u8 (Ab:0<=((s[n].toNat:Int)-65+97)/\((s[n].toNat:Int)-65+97)<=255),d];refine AL.next (n+1) rfl ⟨hlt,?_⟩ Ab;rw[SB hlt,Ep];have c:OZ (I4 s[n])= .int .u8 ((s[n].toNat:Int)-65+97):=by unfold OZ;rw[SA a];congr 1;omega
   rw[c]
  .have Zj:¬(65<=s[n].toNat/\s[n].toNat<=90):=by omega
   refine AL.next (n+1) rfl ⟨hlt,?_⟩ Ab;rw[SB hlt,Oy Zj,SC (X1 hlt)]
 .have i1:¬(n:Int)<(s.length:Int):=by omega
  have en:n=s.length:=Ab;subst en;have b:Kd [.cells ((HJ s s.length).map OZ)] (.Cs 0 0 s.length 1)=some ([.CF],.sl 1 (Cd (FW s))):=by
   have hl:(FW s).length=s.length:=by simp[FW]
   rw[nT];simp only[Kd,IP];rw[Af (by simp[hl])];rw[PR (FW s) s.length 0 Ab];simp
  simp only[BF,i1,Ay,Au,Ao,b,AV.WK (s:=FW s) .mk]
end
section
def S3(l:An)(ws:List An):Prop:=Ev cx 410 [.str l] [] λr _=>r= .sl 1 (ws.map CC)
def Q9{l:An}{ws:List An}(n:Nat)(hr:(IT.run tab n (tab 410 [.str l]) []).map (λx=>(x.1,x.2.1))=some (.ret,[.sl 1 (ws.map CC)])):S3 l ws:=by obtain⟨⟨x,vs,h⟩,a,b⟩:=MM.1 hr;cases b;rw[RH] at a;exact⟨n,_,_,_,a,rfl,_,rfl,rfl⟩
def aGI{l:An}{ws:List An}(hf:S3 l ws)(hw:∀w∈ws,w.length<=AS)(hn:ws.length<9223372036854775807)(name:An):JQ cx 344 [.str name,.str l] (.str (Cp name ws)):=by
 rw[L4,jI];refine pk (hf.mono λr h1 e=>?_);subst e;have qH:AV 1 (ws.map CC) (.sl 1 (ws.map CC)):= .mk;simp only[BF,qH.len];refine Bl (λn:Nat=>[.str [],I (n:Int)]) (λn _=>n<=ws.length/\Cp name ws=Cp name (ws.drop n)) (λn=>ws.length-n) 0 rfl ⟨AZ _,rfl⟩ ?_;rintro n h ⟨xd,ha⟩;rcases AQ n ws.length with hlt|Ei
 .have i1:(n:Int)<((ws.map CC).length:Int):=D9;have S4:n<(ws.map CC).length:=by simpa using hlt
  have a:(ws.map CC)[n]=[.str ws[n]]:=by simp[CC]
  rw[AG hlt,Cp] at ha;simp only[BF,i1,AA,Au,Ao,qH.Fu S4,a,(aDy ws[n] (hw _ (AN hlt))).B7 rfl rfl,BO (Ab:n<9223372036854775807)];refine⟨λhe=>?_,λhe=>?_⟩;.rw[ha,Af he]
  .rw[Ad he] at ha;exact AL.next (n+1) rfl ⟨hlt,ha⟩ Ab
 .have i1:¬(n:Int)<((ws.map CC).length:Int):=D9;rw[A0 Ei,Cp] at ha;simp only[BF,i1,Ay,Au,Ao,ha]
def aGJ(l name:An)(hl:l.length<=AS):JQ cx 359 [.str l,.str name] (.str (Cp name (Dp [] l))):=by
 have p_:l.length<=140737488355328:=hl;rw[L4,Ŀ];refine Bl (λp:Nat×Nat=>[.str [],I (p.1:Int),I (p.2:Int)])
  (λp _=>(p.1<=p.2/\p.2<=l.length/\Cp name (Dp [] l)=Cp name (Dp ((l.take p.2).drop p.1) (l.drop p.2)))\/(p.2=l.length+1/\Cp name (Dp [] l)=name)) (λp=>l.length+1 -p.2) (0,0) rfl (.inl ⟨Ag _,AZ _,AH⟩) ?_
 rintro⟨a,n⟩ h aDw;rcases aDw with⟨Zn,hn,ha⟩|⟨hn,Zj⟩
 .simp only at Zn hn ha;have i1:(n:Int)<=(l.length:Int):=Ab;have O9:((l.take n).drop a).length<=AS:=by simp[AS];omega
  rcases AQ n l.length with hlt|Ei
  .have b:¬(n:Int)=(l.length:Int):=by omega
   simp only[BF,i1,b,AA,Ay,Ao,Au,Fz hlt,BO (Ab:n<9223372036854775807),Mr Zn hn,(aDx _ O9).B7 rfl rfl];rw[AG hlt,PQ] at ha;refine⟨λhe=>?_,λhe=>?_⟩
   .have e:l[n]=32:=by rw[<-Vm];exact aAg he
    rw[Af e,Cp] at ha;refine⟨λhw=>?_,λhw=>?_⟩;.rw[ha,Af hw]
    .rw[Ad hw] at ha;refine AL.next (n+1,n+1) rfl (.inl ⟨Ag _,hlt,?_⟩) Dv;rw[ha,O3]
   .have e:¬l[n]=32:=λe=>he (by rw[e];rfl);rw[Ad e] at ha;refine AL.next (a,n+1) rfl (.inl ⟨Dv,hlt,?_⟩) Dv;rw[ha,XZ Zn hlt]
  .have e:n=l.length:=by omega
   subst e;simp only[BF,GC,AA,Ao,Au,Mr Zn hn,BO (Ab:l.length<9223372036854775807),(aDx _ O9).B7 rfl rfl];rw[A0 (Ag _),Q3,Cp,Cp] at ha;refine⟨λhw=>?_,λhw=>?_⟩;.rw[ha,Af hw]
   .rw[Ad hw] at ha;exact AL.next (l.length+1,l.length+1) rfl (.inr ⟨rfl,ha⟩) Dv
 .simp only at hn;subst hn;have i1:¬((l.length+1:Nat):Int)<=(l.length:Int):=Ab;simp only[BF,i1,Ay,Ao,Au,Zj]
def VE:S3 Mf I3:=Q9 5000 Dg
def VF:S3 NS Ic:=Q9 5000 Dg
def aLI(s:An):JQ cx 204 [.str s] (.str (Cp s I3)):=by rw[L4,iA,show aGx (.str s)= .B7 344 [.str s,.str Mf] λv=> .ret .ret [v] from rfl];rw[(aGI (l:=Mf) VE Di Di s).B7 rfl rfl];simp only[BF]
def aGK(s:An):JQ cx 231 [.str s] (.str (Cp s I3)):=by rw[L4,Ħ,show aGy (.str s)= .B7 359 [.str Mf,.str s] λv=> .ret .ret [v] from rfl];rw[(aGJ Mf s Di).B7 rfl rfl,X2];simp only[BF]
def aGL(s:An):JQ cx 343 [.str s] (.str (Cp s Ic)):=by rw[L4,jH,show aGB (.str s)= .B7 344 [.str s,.str NS] λv=> .ret .ret [v] from rfl];rw[(aGI (l:=NS) VF Di Di s).B7 rfl rfl];simp only[BF]
end
section
def aLJ{v:Aa}{l:List A6}(hv:Bq l v)(hn:l.length<9223372036854775807)(h:Ah){f:FuncId}{p:A6->Bool}(hp:∀a∈l,BK cx f [.agg a.row] h (.bool (p a)) h)(hf:f<=99999):
  BK cx 309 [v,.func (.func f) [] []] h (I (Cl p 0 l)) h:=by
 rw[Ae,SZ];have hlen:(l.map A6.row).length=l.length:=Aj ..;simp only[BF,AV.len hv];refine Bl (λn:Nat=>[I 0,I (n:Int)]) (λn h1=>n<=l.length/\Cl p 0 l=Cl p n (l.drop n)/\h1=h) (λn=>l.length-n) 0 rfl ⟨AZ _,rfl,rfl⟩ ?_;rintro n h1 ⟨xd,ha,rfl⟩;rcases AQ n l.length with hlt|Ei
 .have i1:(n:Int)<((l.map A6.row).length:Int):=by rw[hlen];omega
  have c:(l.map A6.row)[n]'(by rw[hlen];exact hlt)=A6.row l[n]:=AH;have b:Fv (A6.row l[n]) 0 (some 3)=some (.agg (A6.row l[n])):=by simp[A6.row]
  rw[AG hlt,Cl] at ha;simp only[BF,↓reduceIte,DD,hf,By,i1,AA,Au,Ao,AV.Fu hv (show n<(l.map A6.row).length by rw[hlen];exact hlt),c,b,(hp _ (AN hlt)).Ac];rw[CT];refine⟨λhe=>?_,λhe=>?_⟩;.rw[ha,Af he]
  .rw[Ad (by simp[he])] at ha;simp only[BF,BO (Ab:n<9223372036854775807)];exact AL.next (n+1) rfl ⟨hlt,ha,rfl⟩ Ab
 .have i1:¬(n:Int)<((l.map A6.row).length:Int):=by rw[hlen];omega
  rw[A0 Ei,Cl] at ha;simp only[BF,↓reduceIte,DD,hf,i1,Ay,Au,Ao,ha]
def aLK(a:A6)(h:Ah):BK cx 310 [.agg a.row] h (.bool (O1 a)) h:=by rw[Ae,iJ,A6.row];simp only[BF,O1];refine⟨λh=>by simp[h],λh=>by simp[h]⟩
def aGM(a b:An)(ha:a.length<=AS)(hb:b.length<=AS):JQ cx 240 [.str a,.str b] (.bool (decide (FW a=FW b))):=by rw[L4,iE];simp only[BF,(aDy a ha).B7 rfl rfl,(aDy b hb).B7 rfl rfl]
def f96{v:Aa}{l:List A6}(hv:Bq l v)(hl:∀a∈l,a.value.length<=AS)(hn:l.length<9223372036854775807)(n:Int)(s:An)(h:Ah):BK cx 161 [I n,.str s,v] h (.bool (Fm n s l)) h:=by
 rw[Ae,fW];simp only[BF,Yz,(aLJ hv hn h (λa _=>aLK a h) AU).Ac,Fm];refine⟨λh2=>by simp[h2],λh2=>⟨λb=>by simp[h2,b],λb=>⟨λg=>by simp[h2,b,g],λg=>?_⟩⟩⟩;rw[Ad h2,Ad b,Ad g];rcases HK (p:=O1) (l:=l) (k:=0) with⟨f,d⟩|⟨k,a,f,d,i⟩
 .rw[f,d];simp
 .rw[f,i,BL];obtain⟨hk,e⟩:=Al.1 d;have c:k<(l.map A6.row).length:=by simpa using hk
  have o:(l.map A6.row)[k]=A6.row a:=by simp[e]
  have i1:(0:Int)<=(k:Int):=Ab;have Rt:a.value.length<=AS:=hl a (e▸AN hk);have m:FW xT=xT:=UY Di;have j:FW eL=eL:=UY Di;simp only[BF,i1,AA,Au,Ao,AV.Fu hv c,o,A6.row,(aGM a.value xT Rt AU).B7 rfl rfl,(aGM a.value eL Rt AU).B7 rfl rfl,m,j];refine⟨λh=>by simp[h],λh=>by simp[h]⟩
def aGN{v:Aa}{l:List A6}(hv:Bq l v)(hl:∀a∈l,a.value.length<=AS)(hn:l.length<9223372036854775807)(n:Int)(s:An)(hs:s.length<9223372036854775807)(h:Ah):BK cx 167 [I n,.str s,v] h (.bool (Fm n s l)) h:=by
 rw[Ae,Đ];simp only[BF,U7 hs,Fm];refine⟨λh2=>by simp[h2,Ey],λh2=>⟨λb=>by simp[h2,b],λb=>⟨λf=>by simp[h2,b,f],λf=>?_⟩⟩⟩;rw[Ad h2,Ad b,Ad f];have hlen:(l.map A6.row).length=l.length:=Aj ..;refine Bl (λn:Nat=>[.bool false,I (n:Int)]) (λn h1=>n<=l.length/\l.find? O1=(l.drop n).find? O1/\h1=h) (λn=>l.length-n) 0 rfl ⟨AZ _,rfl,rfl⟩ ?_;rintro n h1 ⟨xd,ha,rfl⟩;rcases AQ n l.length with hlt|Ei
 .have i1:(n:Int)<((l.map A6.row).length:Int):=by rw[hlen];omega
  have g:(l.map A6.row)[n]'(by rw[hlen];exact hlt)=A6.row l[n]:=AH;rw[AG hlt,GK] at ha;simp only[BF,AV.len hv,i1,AA,Au,Ao,AV.Fu hv (show n<(l.map A6.row).length by rw[hlen];exact hlt),g,A6.row,(aDx _ (hl _ (AN hlt))).B7 rfl rfl,BO (Ab:n<9223372036854775807)];refine⟨λe=>⟨λd=>?_,λd=>?_⟩,λe=>?_⟩
  .have he:O1 l[n]=true:=by simp[O1,e,d]
   rw[he] at ha;rw[ha];exact⟨λc=>by simp[c],λc=>by simp[c]⟩
  .have he:O1 l[n]=false:=by simp[O1,d]
   rw[he] at ha;exact AL.next (n+1) rfl ⟨hlt,ha,rfl⟩ Ab
  .have he:O1 l[n]=false:=by simp[O1,e]
   rw[he] at ha;exact AL.next (n+1) rfl ⟨hlt,ha,rfl⟩ Ab
 .have i1:¬(n:Int)<((l.map A6.row).length:Int):=by rw[hlen];omega
  rw[A0 Ei,List.find?_nil] at ha;rw[ha];simp only[BF,AV.len hv,i1,Ay,Au,Ao]
end
section
section
variable{U:Type}{f:U->List Aa}{l l2:List U}{v v2:Aa}{z b:Nat}{k k2:IntKind}
end
section
variable{h:Ah}{p:Aa}{l:List Item}
def VG(hs:jf h p l):BK cx 183 [p] h (I (l.length:Int)) h:=by
 rw[Ae,gK];rcases hs with⟨rfl,rfl⟩|⟨id,o,v,rfl,hc,hv⟩
 .simp
 .simp only[BF,H8,hc.load,Bu,hv.CN]
def YC(hs:jf h p l)(i:Int):BK cx 184 [p,I i] h (.agg (Hh l i).row) h:=by
 rw[Ae,gL];simp only[BF,↓reduceIte,AT,(VG hs).Ac];refine⟨λhi=>by rw[OA (.inl hi)];simp[Item.row,Item.zero],λhi=>⟨λhl=>by rw[OA (.inr hl)];simp[Item.row,Item.zero],λhl=>?_⟩⟩;rcases hs with⟨rfl,rfl⟩|⟨id,o,v,rfl,hc,hv⟩
 .simp at hl;omega
 .obtain⟨n,rfl⟩:=IS (Ab:0<=i);have hn:n<l.length:=Ab;simp only[BF,Nat.reduceLeDiff,↓reduceIte,Fc,hc.load,Bu,hv.BM hn,Ie hn]
def f39(hs:jf h p l)(hn:l.length<=1000000000):BK cx 197 [p] h (.agg (FA l).row) h:=by rw[Ae,gV];simp only[BF,Fc,(VG hs).Ac,C3 (Ab: -9223372036854775808<=(l.length:Int)-1) (Ab:(l.length:Int)-1<9223372036854775808),(YC hs _).Ac,FA]
def VH(F:Aa)(h:Ah)(q:Item->Bool):Prop:=∃f caps,F= .func (.func f) [] caps/\f<=99999/\∀a:Item,BK cx f (.agg a.row::caps) h (.bool (q a)) h
def VH.Jc{F:Aa}{q:Item->Bool}(hF:VH F h q)(a:Item){k:Aa->IT}{Q:HF}:W cx (.Jc F [.agg a.row] k) Q h↔W cx (k (.bool (q a))) Q h:=by obtain⟨f,caps,rfl,hf,hr⟩:=hF;rw[M5];simp only[DD,hf,↓reduceIte,BU,CO,NP,(hr a).Ac]
def aDz(hs:jf h p l)(hn:l.length<=1000000000){F:Aa}{q:Item->Bool}(hF:VH F h q):BK cx 326 [p,F] h (I (AR q l)) h:=by
 obtain⟨f,caps,rfl,hf,hr⟩:=hF;rw[Ae,iT];simp only[BF,(VG hs).Ac,C3 (Ab: -9223372036854775808<=(l.length:Int)-1) (Ab:(l.length:Int)-1<9223372036854775808)];refine Bl (λn:Nat=>[I 0,I ((n:Int)-1)]) (λn h1=>n<=l.length/\AR q l=AR q (l.take n)/\h1=h) (λn=>n) l.length rfl ⟨Ag _,by rw[Bx],rfl⟩ ?_;rintro n h1 ⟨xd,ha,rfl⟩;cases n with
 |zero=>have i1:¬(0:Int)<=((0:Nat):Int)-1:=Ab;rw[ha];simp only[BF,↓reduceIte,DD,hf,i1,Ay,Au,Ao,J6]
 |succ n=>
  have i1:(0:Int)<=((n+1:Nat):Int)-1:=Ab;have a:((n+1:Nat):Int)-1=(n:Int):=Ab;rcases hs with⟨rfl,rfl⟩|⟨id,o,v,rfl,hc,hv⟩
  .simp at xd
  .rw[GV Ab] at ha;simp only[BF,Nat.reduceLeDiff,↓reduceIte,DD,Fc,hf,a,(Ab:(0:Int)<=(n:Int)),AA,Au,Ao,hc.load,Bu,hv.BM (Ab:n<l.length),(hr l[n]).Ac,C3 (Ab: -9223372036854775808<=(n:Int)-1) (Ab:(n:Int)-1<9223372036854775808)];rw[CT];refine⟨λhe=>?_,λhe=>?_⟩;.rw[ha,Af he]
   .rw[Ad (by simp[he])] at ha;exact AL.next n rfl ⟨Ab,ha,rfl⟩ Ab
def aLL{v:Aa}{ws:List An}(hv:Jm ws v)(hn:ws.length<=1000000000)(s:An)(h:Ah):BK cx 397 [v,.str s] h (I (Cl (λw=>decide (s=w)) 0 ws)) h:=by
 rw[Ae,jQ];have hv:AV 1 (ws.map CC) v:=hv;simp only[BF,hv.CN];refine Bl (λn:Nat=>[I 0,I (n:Int)]) (λn h1=>n<=ws.length/\Cl (λw=>decide (s=w)) 0 ws=Cl (λw=>decide (s=w)) n (ws.drop n)/\h1=h) (λn=>ws.length-n) 0 rfl ⟨AZ _,rfl,rfl⟩ ?_;rintro n h1 ⟨xd,ha,rfl⟩;rcases AQ n ws.length with hlt|Ei
 .have i1:(n:Int)<(ws.length:Int):=by omega
  rw[AG hlt,Cl] at ha;simp only[BF,i1,AA,Au,Ao,hv.BM hlt,CC,BO (Ab:n<9223372036854775807)];refine⟨λhe=>?_,λhe=>?_⟩;.rw[ha,Af (by simpa using he)]
  .rw[Ad (by simpa using he)] at ha;exact AL.next (n+1) rfl ⟨hlt,ha,rfl⟩ Ab
 .have i1:¬(n:Int)<(ws.length:Int):=by omega
  rw[A0 Ei,Cl] at ha;simp only[BF,i1,Ay,Au,Ao,ha]
def ŋ{v:Aa}{ws:List An}(hv:Jm ws v)(hn:ws.length<=1000000000)(s:An)(h:Ah):BK cx 311 [v,.str s] h (.bool (decide (s∈ws))) h:=by rw[Ae,iK];simp only[BF,(aLL hv hn s h).Ac,í]
def oY{v:Aa}{ws:List An}(hv:Jm ws v)(hn:ws.length<=1000000000)(a:Item)(h:Ah):BK cx 202 [.agg a.row,v] h (.bool (Bs ws a)) h:=by rw[Ae,hC];simp only[BF,Fc,(ŋ hv hn _ h).Ac,Bs];refine⟨λh1=>by simp[h1],λh1=>by simp[h1]⟩
def aLM(a:Item)(h:Ah):BK cx 426 [.agg a.row] h (.bool (Bs Ox a)) h:=by rw[Ae,j2];simp only[BF,Fc,tH,(oY (ws:=Ox) CX AU a h).Ac]
def aLN(a:Item)(h:Ah):BK cx 427 [.agg a.row] h (.bool (!Bs Mt a)) h:=by rw[Ae,j3];simp only[BF,Fc,nV,(oY (ws:=Mt) CX AU a h).Ac]
def aLO(n:Int)(j:n≠4)(i:n≠5)(a:Item)(h:Ah):BK cx 428 [.agg a.row,.CJ [I n]] h (.bool (JR n a)) h:=by have b1:=oY (ws:=Qt) CX AU a h;have b2:=oY (ws:=Rz) CX AU a h;have b3:=oY (ws:=[aUa]) CX AU a h;rw[Ae,j6];simp only[BF,Fc,Yz,tI,jg,jh,b1.Ac,b2.Ac,b3.Ac,JR,j,i];refine⟨λh1=>by simp[h1],λh1=>⟨λh2=>by simp[h2],λh2=>?_⟩⟩;rw[CT];simp only[h1,h2,aEz,DG];refine⟨λd=>by simp[d],λd=>⟨λe=>?_,λe=>⟨λc=>by simp[d,c],λc=>by simp[d,e,c]⟩⟩⟩;rw[CT];exact⟨λc=>by simp[d,e,c],λc=>⟨λg=>Ab,λg=>by simp[d,c,g]⟩⟩
def f264(n:Int)(h:Ah):∃F,BK cx 403 [I n] h F h/\VH F h (JR n)/\F.cells=[F]:=by
 by_cases d:n=4
 .refine⟨.func (.func 426) [] [],?_,⟨_,_,rfl,AU,λa=>?_⟩,rfl⟩;.rw[Ae,S2];simp only[BF,d,AA,Au,Ao]
  .have:=aLM a h;simpa[JR,d] using this
 .by_cases c:n=5
  .refine⟨.func (.func 427) [] [],?_,⟨_,_,rfl,AU,λa=>?_⟩,rfl⟩;.rw[Ae,S2];simp only[BF,c,AA,Au,Ao];simp
   .have:=aLN a h;simpa[JR,c] using this
  .refine⟨.func (.func 428) [] [.CJ [I n]],?_,⟨_,_,rfl,AU,λa=>aLO n d c a h⟩,rfl⟩;rw[Ae,S2];simp only[BF,d,c,Ay,Au,Ao]
def aLP{d F2:Aa}{q e:Item->Bool}(h1:VH d h q)(h2:VH F2 h e)(a:Item):BK cx 404 [.agg a.row,.CJ [d],.CJ [F2]] h (.bool (q a||e a)) h:=by have j:=λk Q=>h1.Jc a (k:=k) (Q:=Q);have i:=λk Q=>h2.Jc a (k:=k) (Q:=Q);rw[Ae,jU];obtain⟨f,caps,rfl,hf,g⟩:=h1;obtain⟨f',c,rfl,sg,r2⟩:=h2;simp only[BF,↓reduceIte,DD,Fc,hf,sg,(g a).Ac,(r2 a).Ac];rw[CT];exact⟨λh=>by simp[h],λh=>by simp[h]⟩
def aGO(hs:jf h p l)(hn:l.length<=1000000000)(n:Int){F:Aa}{q:Item->Bool}(hF:VH F h q):BK cx 322 [p,I n,F] h (.bool (Kf q (JR n) l.reverse)) h:=by
 obtain⟨G,g,aGP,J0⟩:=f264 n h;have c:F.cells=[F]:=by obtain⟨f,caps,rfl,hf,_⟩:=hF;rfl
 have d:=hF;have hfit:VH (.func (.func 404) [] [.CJ [F],.CJ [G]]) h (λa=>q a||JR n a):=⟨404,_,rfl,AU,λa=>aLP hF aGP a⟩;rw[Ae,iP];simp only[BF,↓reduceIte,DD,c,g.Ac,J0,(aDz hs hn hfit).Ac];rw[<-tJ l true];rcases Dh (q:=λa=>q a||JR n a) (l:=l) with⟨h1,h2⟩|⟨k,hk,h1,h2,i⟩
 .simp[h1]
 .have e:(0:Int)<=(k:Int)/\(k:Int).toNat<l.length:=⟨Ab,by simpa using hk⟩;simp only[h1];rw[qC e];rcases hs with⟨rfl,rfl⟩|⟨id,o,v,rfl,hc,hv⟩
  .simp at hk
  .obtain⟨f,caps,rfl,hf,hr⟩:=d;simp only[BF,Nat.reduceLeDiff,↓reduceIte,Fc,hf,e.1,AA,Au,Ao,hc.load,Bu,hv.BM hk,(hr l[k]).Ac,AY]
def aLQ{v:Aa}{ws:List An}(hv:Jm ws v)(hn:ws.length<=1000000000)(a:Item)(h:Ah):BK cx 323 [.agg a.row,.CJ [v]] h (.bool (Bs ws a)) h:=by have b:=oY hv hn a h;rw[Ae,iQ];simp only[BF,Fc,b.Ac]
def aLR(hs:jf h p l)(hn:l.length<=1000000000)(n:Int){v:Aa}{ws:List An}(hv:Jm ws v)(hw:ws.length<=1000000000):BK cx 178 [p,I n,v] h (.bool (Kf (Bs ws) (JR n) l.reverse)) h:=by have hfit:VH (.func (.func 323) [] [.CJ [v]]) h (Bs ws):=⟨323,_,rfl,AU,λa=>aLQ hv hw a h⟩;rw[Ae,gG];simp only[BF,hv.cells,(aGO hs hn n hfit).Ac]
def aLS(node:Int)(a:Item)(h:Ah):BK cx 406 [.agg a.row,.CJ [I node]] h (.bool (Bz node a)) h:=by rw[Ae,jW,Item.row];simp only[BF,Fc,Bz]
def aLT(hs:jf h p l)(hn:l.length<=1000000000)(n node:Int):BK cx 332 [p,I n,I node] h (.bool (Kf (Bz node) (JR n) l.reverse)) h:=by have hfit:VH (.func (.func 406) [] [.CJ [I node]]) h (Bz node):=⟨406,_,rfl,AU,λa=>aLS node a h⟩;rw[Ae,iZ];simp only[BF,(aGO hs hn n hfit).Ac]
def aLU(node:Int)(a:Item)(h:Ah):BK cx 327 [.agg a.row,.CJ [I node]] h (.bool (Bz node a)) h:=by rw[Ae,iU,Item.row];simp only[BF,Fc,Bz]
def ZP(hs:jf h p l)(hn:l.length<=1000000000)(node:Int):BK cx 180 [p,I node] h (I (AR (Bz node) l)) h:=by have hfit:VH (.func (.func 327) [] [.CJ [I node]]) h (Bz node):=⟨327,_,rfl,AU,λa=>aLU node a h⟩;rw[Ae,gI];simp only[BF,(aDz hs hn hfit).Ac]
def aLV(s:An)(a:Item)(h:Ah):BK cx 340 [.agg a.row,.CJ [.str s]] h (.bool (Bs [s] a)) h:=by have b:=oY (ws:=[s]) CX (AH:[s].length<=1000000000) a h;rw[Ae,jE];simp only[BF,Fc,D1 (ws:=[s]) (args:=[.str s]) rfl AH,b.Ac]
def Ō(hs:jf h p l)(hn:l.length<=1000000000)(s:An):BK cx 194 [p,.str s] h (I (AR (Bs [s]) l)) h:=by have hfit:VH (.func (.func 340) [] [.CJ [.str s]]) h (Bs [s]):=⟨340,_,rfl,AU,λa=>aLV s a h⟩;rw[Ae,gS];simp only[BF,(aDz hs hn hfit).Ac]
end
end
section
section
variable{h:Ah}{p v:Aa}{l:List Item}
def aGQ(hv:BY l v)(a:Item){n:Nat}(hn:n<=l.length)(hb:l.length<=1000000000):∃u,BK cx 308 [v,.agg a.row,I (n:Int)] h u h/\BY (l.take n++a::l.drop n) u:=by
 have Qh:(l.length+1)*40<=AS:=by have:AS=140737488355328:=rfl;omega
 obtain⟨t,q,h1⟩:=AV.Lw hv (k:= .i64) hn;obtain⟨s,m,h2⟩:=AV.FJ h1 (b:=40) (by rw[Aw];have:AS=140737488355328:=rfl;omega);have j:=AV.Jv (a:=a) h2 (b:=40) (by rw[Aw];have:AS=140737488355328:=rfl;omega);obtain⟨r,i,e⟩:=AV.SD hv (k:= .i64) hn;obtain⟨d,g,c⟩:=AV.eM (v:= .sl 4 ((l.take n++[a]).map Item.row)) .mk e (b:=40) (by rw[Av,Aw,Be,A9];have:AS=140737488355328:=rfl;omega);refine⟨d,?_,by rw[AI] at c;exact c⟩;rw[Ae,iI];simp only[BF,Fc,q,m,Mu,j,i,g]
def f95{id o:Nat}(hs:L5 h id o l)(hb:l.length<=1000000000)(a:Item):∃u,BK cx 160 [Pt id o,.agg a.row] h (.tuple []) (put h id o u)/\BY (l++[a]) u:=by obtain⟨v,hc,hv⟩:=hs;obtain⟨u,hr,hu⟩:=aGQ (h:=h) hv a (n:=l.length) (Ag _) hb;rw[Bx,Er] at hu;refine⟨u,?_,hu⟩;rw[Ae,fV];simp only[BF,Fc,RQ,IQ,hc.load,Bu,AV.CN hv,hr.Ac,hc.store hu.cells]
def aLW(hs:jf h p l)(hb:l.length<=1000000000)(node:Int):BK cx 333 [p,I node] h (I (D6 node l)) h:=by
 rw[Ae,i5];have a: -1<=AR (Bz node) l/\AR (Bz node) l<l.length+1:=by rcases Dh (q:=Bz node) (l:=l) with⟨h1,h2⟩|⟨n,hn,h1,h2,c⟩<;>rw[h1]<;>omega
 simp only[BF,(ZP hs hb node).Ac,Oz (Ab: -9223372036854775808<=AR (Bz node) l+1) (Ab:AR (Bz node) l+1<9223372036854775808)];rw[IG];by_cases FY:AR (Bz node) l<0;.rw[Af FY];refine Bl (λn:Nat=>[I 0,I (AR (Bz node) l+1)]) (λn h1=>h1=h) (λn=>n) 0 rfl rfl ?_;rintro n h1 rfl;have i1:¬0<=AR (Bz node) l:=Ab;simp only[BF,i1,Ay,Au,Ao]
 .rw[Ad FY];have i0:0<=AR (Bz node) l:=Ab;obtain⟨m,hm⟩:=IS i0;refine Bl (λn:Nat=>[I 0,I (n:Int)]) (λn h1=>E1 GW l (m+1)=E1 GW l n/\h1=h) (λn=>l.length-n) (m+1) (by rw[hm];rfl) ⟨rfl,rfl⟩ ?_;rw[hm,AY];rintro n h1 ⟨ha,rfl⟩;simp only[BF,(Ab:(0:Int)<=(m:Int)),AA,Au,Ao,(VG hs).Ac];rcases AQ n l.length with hlt|Ei
  .have i1:(n:Int)<(l.length:Int):=by omega
   rw[SE hlt] at ha;rcases hs with⟨rfl,rfl⟩|⟨id,o,v,rfl,hc,hv⟩
   .simp at hlt
   .simp only[BF,Fc,i1,AA,Au,Ao,hc.load,Bu,AV.BM hv hlt,Yz,BO (Ab:n<9223372036854775807)];rw[CT];refine⟨λhe=>?_,λhe=>?_⟩;.rw[ha,Af (by exact he)]
    .rw[Ad (by simp[GW,he])] at ha;exact AL.next (n+1) rfl ⟨ha,rfl⟩ Ab
  .have i1:¬(n:Int)<(l.length:Int):=by omega
   rw[Q4 Ei] at ha;simp only[BF,i1,Ay,Au,Ao,ha]
def aGR(hv:BY l v)(i:Int):BK cx 383 [v,I i] h (.agg (Hh l i).row) h:=by have hv:AV 4 (l.map Item.row) v:=hv;rw[Ae,Ń];simp only[BF,↓reduceIte,AT,hv.CN];refine⟨λhi=>by rw[OA (.inl hi)];simp[Item.row,Item.zero],λhi=>⟨λhl=>by rw[OA (.inr hl)];simp[Item.row,Item.zero],λhl=>?_⟩⟩;obtain⟨n,rfl⟩:=IS (Ab:0<=i);have hn:n<l.length:=Ab;simp only[BF,Nat.reduceLeDiff,↓reduceIte,Fc,hv.BM hn,Ie hn]
def aLX(hv:BY l v)(hb:l.length<=1000000000):BK cx 352 [v] h (.agg (FA l).row) h:=by rw[Ae,Ĺ];simp only[BF,Fc,AV.CN hv,C3 (Ab: -9223372036854775808<=(l.length:Int)-1) (Ab:(l.length:Int)-1<9223372036854775808),(aGR hv _).Ac,FA]
def f167(a:Item){ws:List An}(hv:Jm ws v)(hn:ws.length<=1000000000):BK cx 218 [.agg a.row,v] h (.bool (Bs ws a)) h:=by
 rw[Ae,Ĝ];simp only[BF,Fc];refine⟨λh1=>by simp[Bs,h1],λh1=>?_⟩;have h1:a.Bc=1:=by simpa using h1
 have hv:AV 1 (ws.map CC) v:=hv;refine Bl (λn:Nat=>[.bool false,I (n:Int)]) (λn h1=>n<=ws.length/\(a.name∈ws↔a.name∈ws.drop n)/\h1=h) (λn=>ws.length-n) 0 rfl ⟨AZ _,aEx,rfl⟩ ?_;rintro n h2 ⟨xd,ha,rfl⟩;rcases AQ n ws.length with hlt|Ei
 .have i1:(n:Int)<(ws.length:Int):=by omega
  rw[AG hlt,AX] at ha;simp only[BF,hv.CN,i1,AA,Au,Ao,hv.BM hlt,CC,BO (Ab:n<9223372036854775807)];refine⟨λhe=>?_,λhe=>?_⟩;.have:a.name∈ws:=ha.2 (.inl he.symm);simp[Bs,h1,this]
  .exact AL.next (n+1) rfl ⟨hlt,ha.trans ⟨λh=>h.resolve_left (λh=>he h.symm),.inr⟩,rfl⟩ Ab
 .have i1:¬(n:Int)<(ws.length:Int):=by omega
  rw[A0 Ei] at ha;simp only[BF,hv.CN,i1,Ay,Au,Ao];have:a.name∉ws:=λh=>by simpa using ha.1 h
  simp[Bs,this]
def aLY(n:Int)(a:Item)(hs:a.name.length<9223372036854775807):BK cx 412 [.agg a.row,I n] h (.bool (JR n a)) h:=by
 rw[Ae,Ň];simp only[BF,Fc,ka hs,uT hs,xa hs,ke hs,oX hs,JR,Bs];by_cases h1:a.Bc=1
 .have j:¬a.Bc=3:=by omega
  have i:¬a.Bc=2:=Ab;simp only[h1,Dx,Rv,ML,Ao,AA,RO,forall_const];by_cases d:n=4;.simp[d]
  .by_cases c:n=5;.simp[c]
   .by_cases h2:n=2;.simp[h2];by_cases hl:a.name∈Rz<;>simp[hl]
    .by_cases g:n=3;.simp[g];by_cases hl:a.name=aUa<;>simp[hl]
     .simp[d,c,h2,g]
 .simp only[h1,DH,TO,Zq,Au,Ao,Ay,IQ];by_cases d:n=4;.simp[d]
  .by_cases c:n=5;.simp[c]
   .by_cases g:a.Bc=3\/a.Bc=2;.simp[d,c,g]
    .have j:¬a.Bc=3:=λe=>g (.inl e);have i:¬a.Bc=2:=λe=>g (.inr e);simp[d,c,j,i,Ey,h1]
def aGS(hv:BY l v)(hb:l.length<=1000000000)(hl:∀a∈l,a.name.length<9223372036854775807){i:Nat}(hi:i<=l.length)(n:Int):BK cx 349 [v,I (i:Int),I n] h (.bool (!((l.drop (i+1)).any (JR n)))) h:=by
 have hv:AV 4 (l.map Item.row) v:=hv;rw[Ae,Ķ];simp only[BF,BO (Ab:i<9223372036854775807)];refine Bl (λm:Nat=>[.bool false,I (m:Int)]) (λm h1=>(l.drop (i+1)).any (JR n)=(l.drop m).any (JR n)/\h1=h) (λm=>l.length-m) (i+1) rfl ⟨rfl,rfl⟩ ?_;rintro m h1 ⟨ha,rfl⟩;rcases AQ m l.length with hlt|Ei
 .have i1:(m:Int)<(l.length:Int):=by omega
  rw[AG hlt,Nx] at ha;simp only[BF,Nat.reduceLeDiff,↓reduceIte,Fc,hv.CN,i1,AA,Au,Ao,hv.BM hlt,(aLY n l[m] (hl _ (AN hlt))).Ac,BO (Ab:m<9223372036854775807)];rw[CT];refine⟨λhe=>by rw[ha,he];rfl,λhe=>?_⟩;rw[he,Hl] at ha;exact AL.next (m+1) rfl ⟨ha,rfl⟩ Ab
 .have i1:¬(m:Int)<(l.length:Int):=by omega
  rw[A0 Ei] at ha;simp only[BF,↓reduceIte,hv.CN,i1,Ay,Au,Ao,ha,Uo,IQ]
def aLZ(hv:BY l v)(hb:l.length<=1000000000)(hl:∀a∈l,a.name.length<9223372036854775807)(n:Int){w:Aa}{ws:List An}(hw:Jm ws w)(hn:ws.length<=1000000000):BK cx 215 [v,I n,w] h (.bool (Kf (Bs ws) (JR n) l.reverse)) h:=by
 have DL:AV 4 (l.map Item.row) v:=hv;rw[Ae,ę,<-nW];refine Bl (λm:Nat=>[.bool false,I (m:Int)]) (λm h1=>m<=l.length/\X4 (Bs ws) (JR n) l=X4 (Bs ws) (JR n) (l.drop m)/\h1=h) (λm=>l.length-m) 0 rfl ⟨AZ _,rfl,rfl⟩ ?_;rintro m h1 ⟨hm,ha,rfl⟩;rcases AQ m l.length with hlt|Ei
 .have i1:(m:Int)<(l.length:Int):=by omega
  rw[AG hlt,X4] at ha;simp only[BF,Nat.reduceLeDiff,↓reduceIte,Fc,DL.CN,i1,AA,Au,Ao,DL.BM hlt,(f167 l[m] hw hn).Ac,(aGS hv hb hl (MO hlt) n).Ac,BO (Ab:m<9223372036854775807)];rw[CT,CT];refine⟨λh1=>⟨λh2=>by rw[ha,h1,h2];rfl,λh2=>?_⟩,λh1=>?_⟩;.rw[h2,F_,Hl] at ha;exact AL.next (m+1) rfl ⟨hlt,ha,rfl⟩ Ab
  .rw[h1,H_,Hl] at ha;exact AL.next (m+1) rfl ⟨hlt,ha,rfl⟩ Ab
 .have i1:¬(m:Int)<(l.length:Int):=by omega
  rw[A0 Ei,X4] at ha;simp only[BF,↓reduceIte,DL.CN,i1,Ay,Au,Ao,ha]
def ZQ(hv:BY l v)(hb:l.length<=1000000000)(node:Int):BK cx 284 [v,I node] h (I (AR (Bz node) l)) h:=by
 have hv:AV 4 (l.map Item.row) v:=hv;rw[Ae,Ĭ];refine Bl (λn:Nat=>[I (AR (Bz node) (l.take n)),I (n:Int)]) (λn h1=>n<=l.length/\h1=h) (λn=>l.length-n) 0 rfl ⟨AZ _,rfl⟩ ?_;rintro n h1 ⟨hn,rfl⟩;rcases AQ n l.length with hlt|Ei
 .have i1:(n:Int)<(l.length:Int):=by omega
  have e:=GV (q:=Bz node) hlt;simp only[BF,Fc,hv.CN,i1,AA,Au,Ao,hv.BM hlt,BO (Ab:n<9223372036854775807)];refine⟨λhe=>?_,λhe=>?_⟩;.rw[Af (by simpa[Bz] using he)] at e;exact AL.next (n+1) (by rw[e]) ⟨hlt,rfl⟩ Ab
  .rw[Ad (by simpa[Bz] using he)] at e;exact AL.next (n+1) (by rw[e]) ⟨hlt,rfl⟩ Ab
 .have i1:¬(n:Int)<(l.length:Int):=by omega
  simp only[BF,hv.CN,i1,Ay,Au,Ao,AF Ei]
def ō(hv:BY l v)(hb:l.length<=1000000000)(s:An):BK cx 142 [v,.str s] h (I (AR (Bs [s]) l)) h:=by
 have hv:AV 4 (l.map Item.row) v:=hv;have b:=λa=>f167 (h:=h) a (ws:=[s]) CX (AH:[s].length<=1000000000);rw[Ae,ć];refine Bl (λn:Nat=>[I (AR (Bs [s]) (l.take n)),I (n:Int)]) (λn h1=>n<=l.length/\h1=h) (λn=>l.length-n) 0 rfl ⟨AZ _,rfl⟩ ?_;rintro n h1 ⟨hn,rfl⟩;rcases AQ n l.length with hlt|Ei
 .have i1:(n:Int)<(l.length:Int):=by omega
  have e:=GV (q:=Bs [s]) hlt;simp only[BF,Nat.reduceLeDiff,↓reduceIte,Fc,hv.CN,i1,AA,Au,Ao,hv.BM hlt,BO (Ab:n<9223372036854775807),D1 (ws:=[s]) (args:=[.str s]) rfl AH,(b l[n]).Ac];rw[CT];refine⟨λhe=>?_,λhe=>?_⟩;.rw[Af he] at e;exact AL.next (n+1) (by rw[e]) ⟨hlt,rfl⟩ Ab
  .rw[Ad (by simpa using he)] at e;exact AL.next (n+1) (by rw[e]) ⟨hlt,rfl⟩ Ab
 .have i1:¬(n:Int)<(l.length:Int):=by omega
  simp only[BF,↓reduceIte,hv.CN,i1,Ay,Au,Ao,AF Ei]
def aL0(hv:BY l v)(hb:l.length<=1000000000)(hl:∀a∈l,a.name.length<9223372036854775807)(n node:Int):BK cx 293 [v,I n,I node] h (.bool (Kf (Bz node) (JR n) l.reverse)) h:=by
 rw[Ae,Į,<-aCP];simp only[BF,(ZQ hv hb node).Ac];rcases Dh (q:=Bz node) (l:=l) with⟨h1,h2⟩|⟨k,hk,h1,h2,c⟩
 .simp[h1]
 .rw[h1];simp only[BF,(Ab:(0:Int)<=(k:Int)),(Ab:¬(k:Int)<0),AA,Au,Ao,(aGS hv hb hl (MO hk) n).Ac,AY]
def aL1(hv:BY l v)(hb:l.length<=1000000000)(hl:∀a∈l,a.name.length<9223372036854775807)(node:Int):BK cx 355 [v,I node] h (I (D6 node l)) h:=by
 have DL:AV 4 (l.map Item.row) v:=hv;rw[Ae,Ļ,IG];simp only[BF,(ZQ hv hb node).Ac];rcases Dh (q:=Bz node) (l:=l) with⟨h1,h2⟩|⟨k,hk,h1,h2,c⟩
 .simp[h1]
 .rw[h1];simp only[BF,(Ab:¬(k:Int)<0),Ay,Au,Ao,AY,BO (Ab:k<9223372036854775807)];refine Bl (λn:Nat=>[I 0,I (n:Int)]) (λn h1=>E1 GW l (k+1)=E1 GW l n/\h1=h) (λn=>l.length-n) (k+1) rfl ⟨rfl,rfl⟩ ?_;rintro n h1 ⟨ha,rfl⟩;rcases AQ n l.length with hlt|Ei
  .have i1:(n:Int)<(l.length:Int):=by omega
   rw[SE hlt] at ha;simp only[BF,Fc,DL.CN,i1,AA,Au,Ao,DL.BM hlt,oX (hl _ (AN hlt)),BO (Ab:n<9223372036854775807)];rw[CT];refine⟨λhe=>by rw[ha,Af (by exact he)],λhe=>?_⟩;rw[Ad (by simp[GW,he])] at ha;exact AL.next (n+1) rfl ⟨ha,rfl⟩ Ab
  .have i1:¬(n:Int)<(l.length:Int):=by omega
   rw[Q4 Ei] at ha;simp only[BF,DL.CN,i1,Ay,Au,Ao,ha]
end
end
section
def YD(F:Aa)(q:Item->Bool):Prop:=∃f caps,F= .func (.func f) [] caps/\f<=99999/\∀(a:Item) (h:Ah),BK cx f (.agg a.row::caps) h (.bool (q a)) h
section
variable{h:Ah}{p v:Aa}{l:List Item}
def f42{id o:Nat}(hs:L5 h id o l)(hb:l.length<=1000000000)(h2:2<=l.length):∃u,BK cx 82 [Pt id o] h (.agg (FA l).row) (put h id o u)/\BY (l.take (l.length-1)) u:=by obtain⟨v,hc,hv⟩:=(show L5 h id o l from hs);obtain⟨u,e,hu⟩:=AV.Lw hv (k:= .i64) (Ab:l.length-1<=l.length);refine⟨u,?_,hu⟩;have a:(l.length:Int)-1=((l.length-1:Nat):Int):=Ab;rw[Ae,Yv];simp only[BF,Fc,(VG hs.at).Ac,(f39 hs.at hb).Ac,hc.load,Bu,AV.CN hv,C3 (Ab: -9223372036854775808<=(l.length:Int)-1) (Ab:(l.length:Int)-1<9223372036854775808),a,e,hc.store (AV.cells hu),(Ab:¬(l.length:Int)<2),Ay,Au,Ao]
def Ŏ{id o:Nat}(hs:L5 h id o l)(hb:l.length<=1000000000){B A:Aa}{b a:Item->Bool}(hB:YD B b)(d:YD A a):
  ∃u,BK cx 199 [Pt id o,B,A] h (I ((l.length:Int)-((DA b a l).length:Int))) (put h id o u)/\BY (DA b a l) u:=by
 obtain⟨e,j,rfl,kf,rb⟩:=hB;obtain⟨fa,ca,rfl,hfa,ra⟩:=d;have hlt:=hs.lt;have Jl:Ev cx 199 [Pt id o,.func (.func e) [] j,.func (.func fa) [] ca] h λr h'=>r= I ((l.length:Int)-((DA b a l).length:Int))/\∃u,h'=put h id o u/\BY (DA b a l) u:=by
  unfold Ev;rw[gX];refine Bl (λn:Nat=>[I ((l.length:Int)-(n:Int))]) (λn h1=>n<=l.length/\(∃u,h1=put h id o u/\BY (l.take n) u)/\DA b a l=DA b a (l.take n)) (λn=>n) l.length AH ⟨Ag _,by rw[Bx];exact hs.eQ,by rw[Bx]⟩ ?_;rintro n h1 ⟨hn,⟨u,rfl,hu⟩,ha⟩;have J1:L5 (put h id o u) id o (l.take n):= .aCQ hlt hu;have rF:(l.take n).length=n:=by rw[Aw];omega
  simp only[BF,↓reduceIte,(VG J1.at).Ac,rF];match n,hn,hu,ha,J1,rF with
  |0,hn,hu,ha,J1,rF=>rw[X5 (l:=l.take 0) AH] at ha;simp only[BF,(Ab:¬(1:Int)<((0:Nat):Int)),Ay,Au,Ao];exact⟨_,rfl,by rw[ha];rfl,u,rfl,by rw[ha];exact hu⟩
  |1,hn,hu,ha,J1,rF=>rw[X5 (l:=l.take 1) (by rw[rF];exact Ag _)] at ha;simp only[BF,(Ab:¬(1:Int)<((1:Nat):Int)),Ay,Au,Ao];exact⟨_,rfl,by rw[ha,rF],u,rfl,by rw[ha];exact hu⟩
  |m+2,hn,hu,ha,J1,rF=>
   have hm:m+1<l.length:=Ab;have i:((l.length:Int)-((m+2:Nat):Int))+1=(l.length:Int)-((m+1:Nat):Int):=Ab;obtain⟨c,hr,IE⟩:=f42 J1 Ab Ab;rw[X6 hm] at hr;have g:(l.take (m+2)).take ((l.take (m+2)).length-1)=l.take (m+1):=by rw[rF,FD,Cq Ab];rfl
   rw[g] at IE;rw[eO] at hr;have aGT:=f39 J1.at Ab;rw[X6 hm] at aGT;rw[bF hm] at ha;simp only[BF,↓reduceIte,DD,hfa,kf,(Ab:(1:Int)<((m+2:Nat):Int)),AA,Au,Ao,aGT.Ac,(rb _ _).Ac,hr.Ac,(ra _ _).Ac,Oz (Ab: -9223372036854775808<=((l.length:Int)-((m+2:Nat):Int))+1) (Ab:((l.length:Int)-((m+2:Nat):Int))+1<9223372036854775808),i];rw[CT,CT];refine⟨λTw=>⟨λZE=>?_,λZE=>?_⟩,λTw=>?_⟩
   .have Tw:b l[m+1]=false:=by simpa using Tw
    rw[Ad (by simp[Tw]),Af ZE] at ha;exact⟨_,rfl,by rw[ha,Aw,Cq Ab],c,rfl,by rw[ha];exact IE⟩
   .have Tw:b l[m+1]=false:=by simpa using Tw
    rw[Ad (by simp[Tw]),Ad (by simp[ZE])] at ha;exact AL.next (m+1) rfl ⟨Ab,⟨c,rfl,IE⟩,ha⟩ Ab
   .have Tw:b l[m+1]=true:=by simpa using Tw
    rw[Af Tw] at ha;exact⟨_,rfl,by rw[ha,rF],u,rfl,by rw[ha];exact hu⟩
 obtain⟨r,h',hr,rfl,u,rfl,hu⟩:=Jl.ret;exact⟨u,hr,hu⟩
def OJ:YD (.func (.func 200) [] []) Cx:=⟨_,_,rfl,AU,λa h=>by rw[Ae,gY];simp only[BF,Fc,Cx]⟩
def uU{w:Aa}{ws:List An}(hw:Jm ws w)(hn:ws.length<=1000000000):YD (.func (.func 201) [] [.CJ [w]]) (Bs ws):=⟨_,_,rfl,AU,λa h=>by rw[Ae,gZ];simp only[BF,Fc,(oY hw hn a h).Ac]⟩
def j9(s:An):YD (.func (.func 324) [] [.CJ [.str s]]) (Ez s):=⟨_,_,rfl,AU,λa h=>by
 rw[Ae,iR];simp only[BF,Fc,wz,Ez];refine⟨λh1=>by simp[h1],λh1=>?_⟩;rw[CT];refine⟨λh2=>?_,λh2=>?_⟩
 .have h2:a.name∉GA:=by simpa using h2
  simp[h2]
 .have h2:a.name∈GA:=by simpa using h2
  have h1:a.Bc=1:=by simpa using h1
  simp[h2,h1]⟩
def ZR:YD (.func (.func 341) [] []) CG:=⟨_,_,rfl,AU,λa h=>by
 rw[Ae,jF];simp only[BF,Fc,w_,CG];refine⟨λh1=>by simp[h1],λh1=>?_⟩;have h1:a.Bc=1:=by simpa using h1
 simp[h1]⟩
def kC(node:Int):YD (.func (.func 328) [] [.CJ [I node]]) (Bz node):=⟨_,_,rfl,AU,λa h=>by rw[Ae,iV];simp only[BF,Fc,Bz]⟩
def aGU{id o:Nat}(hs:L5 h id o l)(hb:l.length<=1000000000)(s:An):
  ∃u,BK cx 179 [Pt id o,.str s] h (I ((l.length:Int)-((DA (Ez s) Cx l).length:Int))) (put h id o u)/\BY (DA (Ez s) Cx l) u:=by
 obtain⟨u,hr,hu⟩:=Ŏ hs hb (j9 s) OJ;exact⟨u,by rw[Ae,gH];simp only[BF,hr.Ac],hu⟩
def f66{id o:Nat}(hs:L5 h id o l)(hb:l.length<=1000000000){w:Aa}{ws:List An}(hw:Jm ws w)(hn:ws.length<=1000000000):
  ∃u,BK cx 84 [Pt id o,w] h (I ((l.length:Int)-((DA Cx (Bs ws) l).length:Int))) (put h id o u)/\BY (DA Cx (Bs ws) l) u:=by
 obtain⟨u,hr,hu⟩:=Ŏ hs hb OJ (uU hw hn);exact⟨u,by rw[Ae,uP];simp only[BF,Jm.cells hw,hr.Ac],hu⟩
def aL2{id o:Nat}(hs:L5 h id o l)(hb:l.length<=1000000000):
  ∃u,BK cx 195 [Pt id o] h (I ((l.length:Int)-((DA CG Cx l).length:Int))) (put h id o u)/\BY (DA CG Cx l) u:=by
 obtain⟨u,hr,hu⟩:=Ŏ hs hb ZR OJ;exact⟨u,by rw[Ae,gT];simp only[BF,hr.Ac],hu⟩
def aGV{id o:Nat}(hs:L5 h id o l)(hb:l.length<=1000000000)(node:Int):
  ∃u,BK cx 185 [Pt id o,I node] h (I ((l.length:Int)-((GX node l).length:Int))) (put h id o u)/\BY (GX node l) u:=by
 by_cases FY:AR (Bz node) l<0;.obtain⟨u,e,hu⟩:=hs.eQ;refine⟨u,?_,by rw[GX,Af FY];exact hu⟩;rw[GX,Af FY,Int.sub_self,Ae,Wn];simp only[BF,(ZP hs.at hb node).Ac,FY,AA,Au,Ao];exact e
 .obtain⟨u,hr,hu⟩:=Ŏ hs hb OJ (kC node);refine⟨u,?_,by rw[GX,Ad FY];exact hu⟩;rw[GX,Ad FY,Ae,Wn];simp only[BF,(ZP hs.at hb node).Ac,FY,Ay,Au,Ao,hr.Ac]
end
end
section
section
variable{h:Ah}{p v:Aa}{l:List Item}
def aL3(hv:BY l v){k:Nat}(hk:k<l.length)(hb:l.length<=1000000000):∃u,BK cx 369 [v,I (k:Int)] h u h/\BY (Bi l k) u:=by obtain⟨r,j,h1⟩:=AV.Lw hv (k:= .i64) (Ab:k<=l.length);obtain⟨q,i,h2⟩:=AV.FJ h1 (b:=40) (Q5 (by rw[Aw];omega));obtain⟨m,g,d⟩:=AV.SD hv (k:= .i64) (Ab:k+1<=l.length);obtain⟨a,e,c⟩:=AV.eM h2 d (b:=40) (Q5 (by rw[Aw,Be];omega));refine⟨a,?_,c⟩;rw[Ae,jO];simp only[BF,j,i,BO (Ab:k<9223372036854775807),g,e]
def aDA{id o:Nat}(hs:L5 h id o l)(hb:l.length<=1000000000)(node:Int):∃u,BK cx 244 [Pt id o,I node] h (.bool (decide (1<=AR (Bz node) l))) (put h id o u)/\BY (C4 node l) u:=by
 by_cases FY:AR (Bz node) l<1;.obtain⟨u,e,hu⟩:=hs.eQ;refine⟨u,?_,by rw[C4,Af FY];exact hu⟩;rw[Ae,Wv,<-e];simp only[BF,(ZP hs.at hb node).Ac,FY,AA,Au,Ao,(Ab:¬1<=AR (Bz node) l),DH]
 .rcases Dh (q:=Bz node) (l:=l) with⟨h1,_⟩|⟨k,hk,h1,_⟩
  .rw[h1] at FY;omega
  .obtain⟨v,hc,hv⟩:=(show L5 h id o l from hs);obtain⟨u,hr,hu⟩:=aL3 (h:=h) hv hk hb;refine⟨u,?_,by rw[C4,Ad FY,h1];exact hu⟩;rw[Ae,Wv];simp only[BF,(ZP hs.at hb node).Ac,hc.load,Bu,h1];rw[h1] at FY;simp only[BF,hr.Ac,Bu,hc.store (BY.cells hu),show¬(k:Int)<1 from FY,Ay,Au,Ao,(Ab:(1:Int)<=(k:Int)),Dx]
def aL4{id o:Nat}(hs:L5 h id o l)(hb:l.length<=1000000000)(a:Item)(i:Int):∃u,BK cx 336 [Pt id o,.agg a.row,I i] h (.tuple []) (put h id o u)/\BY (l.take (E2 i l.length)++a::l.drop (E2 i l.length)) u:=by
 obtain⟨v,hc,hv⟩:=(show L5 h id o l from hs);obtain⟨u,hr,hu⟩:=aGQ (h:=h) hv a (n:=E2 i l.length) (by unfold E2;omega) hb;refine⟨u,?_,hu⟩;rw[Ae,jA];have c:(if(l.length:Int)<(if i<1 then 1 else i) then(l.length:Int) else(if i<1 then 1 else i))=((E2 i l.length:Nat):Int):=by unfold E2;split<;>split<;>omega
 simp only[BF,Fc,RQ,IQ,hc.load,Bu,eI,AV.CN hv,ub,c,hr.Ac,hc.store (BY.cells hu)]
def aL5(hv:BY l v)(hne:l≠[])(hb:l.length<=1000000000):BK cx 429 [v] h (.Cs h.length 0 l.length 4) (h++[.cells (l.map Item.row).flatten]):=by
 have d:AB (.Gd false .sl) [v,.slnil]=some (.bool false):=by
  rcases hv with rfl|⟨rfl,hv⟩
  .rfl
  .exact absurd (by simpa using hv) hne
 have c:AB (.C8 4) []=some (.sl 4 []):=rfl;have a:=Lv (h:=h) (s:= .sl 4 []) (z:=4) (b:=40) (.inr rfl) hv (by simpa using hne) (by rw[Aj];exact Q5 Ab);rw[Aj] at a;rw[Ae,j7];simp only[BF,d,c,a]
section
variable{id o n z:Nat}{v w:Aa}{X Y:Du}{AD:List (List Aa)}
def At.next(ha:At h id o v):(Am.put h id o w++[X])[h.length]?=some X/\At (Am.put h id o w++[X]) id o w/\(Am.put h id o w++[X]).set h.length Y=Am.put h id o w++[Y]:=by have e:=JG (h:=h) (id:=id) (o:=o) (u:=w);refine⟨by rw[<-e];simp,ha.put.Ib,?_⟩;rw[BB _ _ Ab,<-e,Dc];rfl
def At.bl(ha:At h id o v)(hv:Kd h v=some (h,v)):KR h 0 (Pt id o)=some h:=by have a:=ha.same;obtain⟨cs,hc,e⟩:=ha;simp only[KR,hc,Bu,e,hv,Cm];rw[Hy hc] at a;rw[a]
def At.bm(ha:At h id o v)(hr:∀r∈AD,r.length=z):KR (Am.put h id o (.Cs h.length 0 AD.length z)++[.cells AD.flatten]) 0 (Pt id o)=some (Am.put h id o (.sl z AD)++[.CF]):=by obtain⟨d,c,a⟩:=ha.next (w:= .Cs h.length 0 AD.length z) (X:= .cells AD.flatten) (Y:= .CF);have f1:=I2 hr d;rw[a] at f1;have a2:=(ha.next (w:= .Cs h.length 0 AD.length z) (X:= .CF) (Y:= .CF)).2.1;obtain⟨cs,hc,e⟩:=c;obtain⟨Sr,IZ,g⟩:=a2;simp only[KR,hc,Bu,e,f1,Cm,IZ];rw[<-Hy (u:= .sl z AD) IZ,eP ha.put,eO]
end
def aL6{id o:Nat}(hs:L5 h id o l)(hb:l.length<=1000000000)(node:Int)(a:Item):∃u t,BK cx 407 [Pt id o,I node,.agg a.row] h (.bool (decide (1<=AR (Bz node) l))) (put h id o u++t)/\BY (PU node a l) u:=by
 obtain⟨v,hc,hv⟩:=(show L5 h id o l from hs);by_cases FY:AR (Bz node) l<1;.refine⟨v,[],?_,by rw[PU,Af FY];exact hv⟩;have c:=hc.bl (AV.Ph hv);rw[Ae,WB,hc.same,By];simp only[BF,Fc,(ZP hs.at hb node).Ac,FY,AA,Au,Ao,c,(Ab:¬1<=AR (Bz node) l),DH]
 .rcases Dh (q:=Bz node) (l:=l) with⟨h1,_⟩|⟨k,hk,h1,_⟩
  .rw[h1] at FY;omega
  .have d:¬(k:Int)<1:=by rw[h1] at FY;exact FY
   have hne:l≠[]:=by intro e;subst e;simp at hk
   have hcl:=aL5 (h:=h) hv hne hb;have j:=(hc.Ib (t:=[Du.cells (l.map Item.row).flatten])).store (u:= .Cs h.length 0 l.length 4) rfl;rw[eP hc] at j;obtain⟨s,x,r⟩:=hc.next (w:= .Cs h.length 0 l.length 4) (X:= .cells (l.map Item.row).flatten) (Y:= .cells ((l.map Item.row).set k a.row).flatten);have g:=UX (z:=4) (uh l) s (i:=k) (by simpa using hk) (q:=a.row) rfl;rw[r] at g;have m:AB (.Fu 4) [.Cs h.length 0 l.length 4,I (k:Int)]=some (Pt h.length (k*4)):=E0 hk;have c:=hc.bm (nO (uh l) (i:=k) (q:=a.row) rfl);rw[Bp,Aj] at c;refine⟨.sl 4 ((l.map Item.row).set k a.row),[.CF],?_,?_⟩;.rw[Ae,WB];simp only[BF,Fc,(ZP hs.at hb node).Ac,h1,d,Ay,Au,Ao,hc.load,Bu,hcl.Ac,j,x.load,m,g,c,(Ab:(1:Int)<=(k:Int)),Dx]
   .rw[PU,Ad FY,h1,AY,BY,Ep];exact .mk
def oZ(hv:BY l v)(hb:l.length<=1000000000)(i:Int):∃r h',BK cx 229 [v,I i] h r h'/\eR h (JS l i) r h':=by
 have DL:AV 4 (l.map Item.row) v:=hv;obtain⟨k,hk,Qi,hc⟩:∃k,k=min (max 1 i.toNat) l.length/\k<=l.length/\JS l i=l.take k:=⟨_,rfl,Ab,by
  unfold JS;rcases Nat.le_total (max 1 i.toNat) l.length with h1|h1
  .rw[Cq h1]
  .rw[Nat.min_eq_right h1,Bx,AF h1]⟩
 obtain⟨u,e,hu⟩:=AV.Lw hv (k:= .i64) Qi;obtain⟨r,h',a,hr⟩:=î (h:=h) (l:=l.take k) (v:=u) hu (by rw[Aw];omega);refine⟨r,h',?_,by rw[hc];exact hr⟩;rw[Ae,Ĥ];simp only[BF,DL.CN];refine⟨λh1=>⟨λh2=>?_,λh2=>?_⟩,λh1=>⟨λh2=>?_,λh2=>?_⟩⟩
 .have:(k:Int)=(l.length:Int):=by omega
  rw[this] at e;simp only[BF,e,a]
 .have:(k:Int)=1:=by omega
  rw[this] at e;simp only[BF,e,a]
 .have:(k:Int)=(l.length:Int):=by omega
  rw[this] at e;simp only[BF,e,a]
 .have:(k:Int)=i:=by omega
  rw[this] at e;simp only[BF,e,a]
def ŏ(hv:BY l v)(hb:l.length<=1000000000):∃u t,BK cx 223 [v] h u (h++t)/\BY (JS l ((l.length:Int)-1)) u:=by obtain⟨r,h',hr,hc⟩:=oZ (h:=h) hv hb ((l.length:Int)-1);obtain⟨u,t,e,hu⟩:=hc.Ph;refine⟨u,t,?_,hu⟩;rw[Ae,Ġ];simp only[BF,AV.CN hv,C3 (Ab: -9223372036854775808<=(l.length:Int)-1) (Ab:(l.length:Int)-1<9223372036854775808),hr.Ac,e]
def aGW(hv:BY l v)(hb:l.length<=1000000000)(node:Int):∃u t,BK cx 219 [v,I node] h u (h++t)/\BY (GX node l) u:=by
 by_cases FY:AR (Bz node) l<0
 .obtain⟨r,h',hr,hc⟩:=oZ (h:=h) hv hb (l.length:Int);obtain⟨u,t,e,hu⟩:=hc.Ph;have a:JS l (l.length:Int)=l:=by unfold JS;rw[AF Ab]
  refine⟨u,t,?_,by rw[U4,Af FY];rwa [a] at hu⟩;rw[Ae,yZ];simp only[BF,(ZQ hv hb node).Ac,FY,AA,Au,Ao,AV.CN hv,hr.Ac,e]
 .obtain⟨r,h',hr,hc⟩:=oZ (h:=h) hv hb (AR (Bz node) l);obtain⟨u,t,e,hu⟩:=hc.Ph;refine⟨u,t,?_,by rw[U4,Ad FY];exact hu⟩;rw[Ae,yZ];simp only[BF,(ZQ hv hb node).Ac,FY,Ay,Au,Ao,hr.Ac,e]
end
end
section
section
variable{h:Ah}{p v w:Aa}{l:List Item}{ws:List An}
def f85(hv:BY l v)(hb:l.length<=1000000000)(hw:Jm ws w)(hn:ws.length<=1000000000):∃u t,BK cx 103 [v,w] h u (h++t)/\BY (JS l (AR (Bs ws) l)) u:=by
 have DL:AV 4 (l.map Item.row) v:=hv;have Jl:Ev cx 103 [v,w] h λr h'=>∃t,h'=h++t/\BY (JS l (AR (Bs ws) l)) r:=by
  unfold Ev;rw[Ā];simp only[BF,DL.CN,C3 (Ab: -9223372036854775808<=(l.length:Int)-1) (Ab:(l.length:Int)-1<9223372036854775808)];refine Bl (λn:Nat=>[.slnil,I ((n:Int)-1)]) (λn h1=>n<=l.length/\AR (Bs ws) l=AR (Bs ws) (l.take n)/\h1=h) (λn=>n) l.length rfl ⟨Ag _,by rw[Bx],rfl⟩ ?_;rintro n h1 ⟨xd,ha,rfl⟩;cases n with
  |zero=>have i1:¬(0:Int)<=((0:Nat):Int)-1:=Ab;obtain⟨r,h',hr,hc⟩:=oZ (h:=h1) hv hb 1;obtain⟨u,t,e,hu⟩:=hc.Ph;rw[Kz,J6] at ha;simp only[BF,↓reduceIte,i1,Ay,Au,Ao,hr.Ac,e];exact⟨_,rfl,t,rfl,by rw[ha,ui];exact hu⟩
  |succ n=>
   have a:((n+1:Nat):Int)-1=(n:Int):=Ab;obtain⟨r,h',hr,hc⟩:=oZ (h:=h1) hv hb (n:Int);obtain⟨u,t,e,hu⟩:=hc.Ph;rw[GV Ab] at ha;simp only[BF,Nat.reduceLeDiff,↓reduceIte,Fc,a,(Ab:(0:Int)<=(n:Int)),AA,Au,Ao,DL.BM (Ab:n<l.length),(f167 l[n] hw hn).Ac,hr.Ac,e,C3 (Ab: -9223372036854775808<=(n:Int)-1) (Ab:(n:Int)-1<9223372036854775808)];rw[CT];refine⟨λhe=>?_,λhe=>?_⟩;.rw[Af he] at ha;exact⟨_,rfl,t,rfl,by rw[ha];exact hu⟩
   .rw[Ad (by simp[he])] at ha;exact AL.next n rfl ⟨Ab,ha,rfl⟩ Ab
 obtain⟨r,h',hr,t,rfl,hu⟩:=Jl.ret;exact⟨r,t,hr,hu⟩
def f165(hv:BY l v)(hb:l.length<=1000000000)(hl:∀a∈l,a.name.length<9223372036854775807)(s:An)(all:Bool):∃u t,BK cx 216 [v,.str s,.bool all] h u (h++t)/\BY (DA (ES s all) Cx l) u:=by
 have DL:AV 4 (l.map Item.row) v:=hv;have Jl:Ev cx 216 [v,.str s,.bool all] h λr h'=>∃t,h'=h++t/\BY (DA (ES s all) Cx l) r:=by
  unfold Ev;rw[Ě];simp only[BF,DL.CN];refine Bl (λn:Nat=>[I (n:Int)]) (λn h1=>n<=l.length/\(l=[]\/1<=n)/\DA (ES s all) Cx l=DA (ES s all) Cx (l.take n)/\h1=h) (λn=>n) l.length rfl ⟨Ag _,by cases l<;>simp,by rw[Bx],rfl⟩ ?_;rintro n h1 ⟨xd,h0,ha,rfl⟩;have HG:DA (ES s all) Cx l=l.take n->∃u t,Kd h1 u=some (h1++t,u):=λ_=>⟨.slnil,[],by rw[By];rfl⟩;obtain⟨r,h',hr,hc⟩:=oZ (h:=h1) hv hb (n:Int);obtain⟨u,t,e,hu⟩:=hc.Ph;have j:JS l (n:Int)=l.take n:=by
   unfold JS;rcases h0 with rfl|h0
   .simp
   .rw[AY,wB h0]
  rw[j] at hu;rcases AQ 1 n with hlt|Ei
  .obtain⟨m,rfl⟩:∃m,n=m+2:=⟨n-2,Ab⟩;have hm:m+1<l.length:=Ab;have i1:(1:Int)<((m+2:Nat):Int):=Ab;have D:((m+2:Nat):Int)-1=((m+1:Nat):Int):=Ab;have hs:=hl _ (AN hm);rw[bF hm] at ha;have next:ES s all l[m+1]=false->AL cx (λn:Nat=>[I (n:Int)]) (λn h2=>n<=l.length/\(l=[]\/1<=n)/\DA (ES s all) Cx l=DA (ES s all) Cx (l.take n)/\h2=h1) (λn=>n)
     (λx C=>match x with
      | .normal=> .fail
      | .exit i=>if i=0 then .call 229 [v,g C 0] λy=> .Ph y λv22=> .ret .ret [v22] else .fail
      | .ret=> .Ph .slnil λq=> .ret .ret [q])
     (λx vs h'=>x=DX.ret/\∃r,vs=[r]/\∃t,h'=h1++t/\BY (DA (ES s all) Cx l) r) (m+2) .normal [I ((m+1:Nat):Int)] h1:=λhf=>by
    rw[Ad (by simp[hf]),Ad (by simp[Cx])] at ha;exact AL.next (m+1) rfl ⟨Ab,.inr Ab,ha,rfl⟩ Ab
   have stop:ES s all l[m+1]=true->∃r,[u]=[r]/\∃A,h1++t=h1++A/\BY (DA (ES s all) Cx l) r:=λhf=>by rw[Af hf] at ha;exact⟨_,rfl,t,rfl,by rw[ha];exact hu⟩
   simp only[BF,Nat.reduceLeDiff,↓reduceIte,Fc,i1,AA,Au,Ao,C3 (Ab: -9223372036854775808<=((m+2:Nat):Int)-1) (Ab:((m+2:Nat):Int)-1<9223372036854775808),D,DL.BM hm,xb hs,xc hs,hr.Ac,e];cases all with
   |true=>
    simp only[BF,RO];refine⟨λd=>stop (by simp[ES,CG,d]),λd=>?_⟩;rw[CT];refine⟨λc=>stop ?_,λc=>?_⟩;.simp at c;simp[ES,CG,c]
    .simp at d c;exact next (by simp[ES,CG,d];exact c)
   |false=>
    simp only[BF,IQ];refine⟨λd=>stop (by simp[ES,Ez,d]),λd=>?_⟩;rw[CT];refine⟨λc=>stop ?_,λc=>?_⟩;.simp at c;simp[ES,Ez,c]
    .refine⟨λB=>stop (by simp[ES,Ez,B]),λB=>?_⟩;simp at d c;exact next (by simp[ES,Ez,d,c,B])
  .have i1:¬(1:Int)<(n:Int):=by omega
   rw[X5 (l:=l.take n) (by rw[Aw];omega)] at ha;simp only[BF,↓reduceIte,i1,Ay,Au,Ao,hr.Ac,e];exact⟨_,rfl,t,rfl,by rw[ha];exact hu⟩
 obtain⟨r,h',hr,t,rfl,hu⟩:=Jl.ret;exact⟨r,t,hr,hu⟩
def aL7(hv:BY l v)(hb:l.length<=1000000000)(node:Int):∃u t,BK cx 138 [v,I node] h (.tuple [u,.bool (decide (1<=AR (Bz node) l))]) (h++t)/\BY (C4 node l) u:=by
 have m:∀(h:Ah) b,Kd h (.bool b)=some (h,.bool b):=λ_ _=>rfl;by_cases FY:AR (Bz node) l<1
 .obtain⟨r,h',hr,hc⟩:=oZ (h:=h) hv hb (l.length:Int);obtain⟨u,t,e,hu⟩:=hc.Ph;have C:JS l (l.length:Int)=l:=by unfold JS;rw[AF Ab]
  refine⟨u,t,?_,by rw[C4,Af FY];rwa [C] at hu⟩;rw[Ae,fS];simp only[BF,(ZQ hv hb node).Ac,FY,AA,Au,Ao,AV.CN hv,hr.Ac,e,m,(Ab:¬1<=AR (Bz node) l),DH]
 .rcases Dh (q:=Bz node) (l:=l) with⟨h1,_⟩|⟨k,hk,h1,_⟩
  .rw[h1] at FY;omega
  .have d:¬(k:Int)<1:=by rw[h1] at FY;exact FY
   obtain⟨r,h',hr,hc⟩:=oZ (h:=h) hv hb (k:Int);have i:JS l (k:Int)=l.take k:=by unfold JS;rw[AY,wB Ab]
   rw[i] at hc;rcases hc with⟨h2,_⟩|⟨hne,rfl,rfl⟩
   .have:=Ca List.length h2;rw[Aw,BT] at this;omega
   .obtain⟨y,s,j⟩:=AV.SD hv (k:= .i64) (Ab:k+1<=l.length);have A:(l.take k).length=k:=by rw[Aw];omega
    have x:(h++[Du.cells ((l.take k).map Item.row).flatten])[h.length]?=some (.cells ((l.take k).map Item.row).flatten):=AH;have c:=uh (l.take k);have g:((l.take k).map Item.row).length=(l.take k).length:=Aj ..;by_cases hd:l.drop (k+1)=[]
    .have a:Fw (h++[Du.cells ((l.take k).map Item.row).flatten]) 4 40 (.Cs h.length 0 (l.take k).length 4) y=some (h++[Du.cells ((l.take k).map Item.row).flatten],.Cs h.length 0 (l.take k).length 4):=tC (by rw[hd] at j;exact j);have f1:=I2 c x;rw[g,BB _ _ (Ag _),Dc] at f1;refine⟨.sl 4 ((l.take k).map Item.row),[.CF],?_,?_⟩;.rw[Ae,fS];simp only[BF,(ZQ hv hb node).Ac,h1,d,Ay,Au,Ao,BO (Ab:k<9223372036854775807),s,hr.Ac,a,f1,m,Qb,(Ab:(1:Int)<=(k:Int)),Dx]
     .rw[C4,Ad FY,h1,AY,Bi,hd,By];exact .mk
    .have a:=IF (b:=40) c AU x j (by simpa using hd) (by rw[Aj,Aj,Aw,Be];exact Q5 Ab);rw[g,Aj] at a;rw[BB _ _ (Ag _),Dc,Qb,AI] at a;have D:(h++([Du.CF]++[Du.cells ((l.take k).map Item.row++(l.drop (k+1)).map Item.row).flatten]))[h.length+1]?=some (.cells ((Bi l k).map Item.row).flatten):=by rw[Bd Ab];simp[Bi]
     have f1:=I2 (uh (Bi l k)) D;have qK:(Bi l k).length=(l.take k).length+(l.drop (k+1)).length:=by simp[Bi]
     rw[Aj,qK] at f1;have B:(h++[Du.CF,Du.cells ((l.take k).map Item.row++(l.drop (k+1)).map Item.row).flatten]).set (h.length+1) .CF=h++[.CF,.CF]:=by rw[BB _ _ Ab];simp
     simp only[Av,A9,CO,BU] at a f1;rw[B] at f1;refine⟨.sl 4 ((Bi l k).map Item.row),[.CF,.CF],?_,?_⟩;.rw[Ae,fS];simp only[BF,(ZQ hv hb node).Ac,h1,d,Ay,Au,Ao,BO (Ab:k<9223372036854775807),s,hr.Ac,a,f1,m,(Ab:(1:Int)<=(k:Int)),Dx]
     .rw[C4,Ad FY,h1,AY];exact .mk
def aL8(hv:BY l v)(hb:l.length<=1000000000)(a:Item)(i:Int):∃u,BK cx 357 [v,.agg a.row,I i] h u h/\BY (l.take (E2 i l.length)++a::l.drop (E2 i l.length)) u:=by
 have DL:AV 4 (l.map Item.row) v:=hv;obtain⟨k,o7,hk⟩:∃k,k=E2 i l.length/\k<=l.length:=⟨_,rfl,by unfold E2;omega⟩;obtain⟨x,d,h1⟩:=AV.Lw hv (k:= .i64) hk;obtain⟨t,j,h2⟩:=AV.FJ h1 (b:=40) (Q5 (by rw[Aw];omega));have g:=AV.Jv (a:=a) h2 (b:=40) (Q5 (by rw[Aw];omega));obtain⟨s,c,r⟩:=AV.SD hv (k:= .i64) hk;obtain⟨q,e,m⟩:=AV.eM (v:= .sl 4 ((l.take k++[a]).map Item.row)) .mk r (b:=40) (Q5 (by rw[Av,Aw,Be,A9];omega));refine⟨q,?_,by rw[AI] at m;rw[<-o7];exact m⟩;rw[Ae,Ľ];simp only[BF,Fc,DL.CN];unfold E2 at o7;refine⟨λh1=>⟨λh2=>?_,λh2=>?_⟩,λh1=>⟨λh2=>?_,λh2=>?_⟩⟩
 .have:(k:Int)=(l.length:Int):=by omega
  rw[this] at d c;simp only[BF,d,j,Mu,g,c,e]
 .have:(k:Int)=1:=by omega
  rw[this] at d c;simp only[BF,d,j,Mu,g,c,e]
 .have:(k:Int)=(l.length:Int):=by omega
  rw[this] at d c;simp only[BF,d,j,Mu,g,c,e]
 .have:(k:Int)=i:=by omega
  rw[this] at d c;simp only[BF,d,j,Mu,g,c,e]
end
end
section
section
variable{e:Ci}{d:Aa}
end
section
variable{h:Ah}{v:Aa}{l:List Ci}{id o:Nat}
def f99(hc:At h id o v)(hv:Dr l v)(hb:l.length<=1000000000):BK cx 198 [Pt id o] h (I (since l)) h:=by
 have hv:AV 3 (l.map Ci.row) v:=hv;rw[Ae,gW];simp only[BF,hc.load,Bu,hv.CN];refine Bl (λn:Nat=>[I (n:Int)]) (λn h1=>n<=l.length/\since l=since (l.take n)/\h1=h) (λn=>n) l.length rfl ⟨Ag _,by rw[Bx],rfl⟩ ?_;rintro n h1 ⟨hn,ha,rfl⟩;cases n with
 |zero=>simp only[BF,(Ab:¬(0:Int)<((0:Nat):Int)),Ay,Au,Ao,ha,jj];rfl
 |succ n=>rw[Yb hn] at ha;simp only[BF,(Ab:(0:Int)<((n+1:Nat):Int)),AA,Au,Ao,hc.load,Bu,Hw (Ab:0<n+1) (Ab:n+1<9223372036854775807),Fb,hv.BM (show n<l.length from hn),Ci.at0];refine⟨λh0=>AL.next n rfl ⟨Ab,by rw[ha,Ad h0],rfl⟩ Ab,λh0=>?_⟩;rw[Af (by simpa using h0)] at ha;rw[ha];rfl
def Ő(hv:Dr l v)(hb:l.length<=1000000000):BK cx 228 [v] h (I (since l)) h:=by
 have hv:AV 3 (l.map Ci.row) v:=hv;rw[Ae,ģ];refine Bl (λn:Nat=>[I (since (l.take n)),I (n:Int)]) (λn h1=>n<=l.length/\h1=h) (λn=>l.length-n) 0 rfl ⟨AZ _,rfl⟩ ?_;rintro n h1 ⟨hn,rfl⟩;rcases AQ n l.length with hlt|Ei
 .have i1:(n:Int)<(l.length:Int):=by omega
  have a:=Yb hlt;simp only[BF,hv.CN,i1,AA,Au,Ao,hv.BM hlt,Ci.at0,BO (Ab:n<9223372036854775807)];refine⟨λh0=>?_,λh0=>?_⟩;.rw[Af h0] at a;exact AL.next (n+1) (by rw[a];rfl) ⟨hlt,rfl⟩ Ab
  .rw[Ad h0] at a;exact AL.next (n+1) (by rw[a]) ⟨hlt,rfl⟩ Ab
 .have i1:¬(n:Int)<(l.length:Int):=by omega
  simp only[BF,hv.CN,i1,Ay,Au,Ao,AF Ei]
def aL9(hc:At h id o v)(hv:Dr l v)(hb:l.length<=1000000000)(name:An):BK cx 330 [Pt id o,.str name] h (I (NT name l)) h:=by
 have hv:AV 3 (l.map Ci.row) v:=hv;rw[Ae,iX];simp only[BF,H8,hc.load,Bu,hv.CN,C3 (Ab: -9223372036854775808<=(l.length:Int)-1) (Ab:(l.length:Int)-1<9223372036854775808)];refine Bl (λn:Nat=>[I 0,I ((n:Int)-1)]) (λn h1=>n<=l.length/\NT name l=NT name (l.take n)/\h1=h) (λn=>n) l.length rfl ⟨Ag _,by rw[Bx],rfl⟩ ?_;rintro n h1 ⟨hn,ha,rfl⟩;cases n with
 |zero=>have i1:¬(0:Int)<=((0:Nat):Int)-1:=Ab;rw[ha];simp only[BF,i1,Ay,Au,Ao,jk]
 |succ n=>
  have a:((n+1:Nat):Int)-1=(n:Int):=Ab;rw[RD hn] at ha;simp only[BF,a,(Ab:(0:Int)<=(n:Int)),AA,Au,Ao,hc.load,Bu,hv.BM (show n<l.length from hn),Ci.at0,Ci.xU,C3 (Ab: -9223372036854775808<=(n:Int)-1) (Ab:(n:Int)-1<9223372036854775808)];refine⟨λh0=>⟨λh1=>?_,λh1=>?_⟩,λh0=>?_⟩;.rw[ha,Ad h0,Af h1]
  .exact AL.next n rfl ⟨Ab,by rw[ha,Ad h0,Ad h1],rfl⟩ Ab
  .rw[ha,Af (by simpa using h0)]
def aMa(hv:Dr l v)(hb:l.length<=1000000000)(name:An):BK cx 353 [v,.str name] h (I (NT name l)) h:=by
 have DL:AV 3 (l.map Ci.row) v:=hv;obtain⟨s,es,J1,c,g⟩:=JT l;have f:=Ő (h:=h) hv hb;rw[es] at f;rw[Ae,ĺ];simp only[f.Ac];refine Bl (λn:Nat=>[I (NT name (l.take n)),I (n:Int)]) (λn h1=>s<=n/\n<=l.length/\h1=h) (λn=>l.length-n) s (by rw[oA es]) ⟨Ag _,J1,rfl⟩ ?_;rintro n h1 ⟨b,hn,rfl⟩;rcases AQ n l.length with hlt|Ei
 .have i1:(n:Int)<(l.length:Int):=by omega
  have a:=RD (name:=name) hlt;rw[Ad (c n hlt b)] at a;simp only[BF,DL.CN,i1,AA,Au,Ao,DL.BM hlt,Ci.xU,BO (Ab:n<9223372036854775807)];refine⟨λh0=>?_,λh0=>?_⟩;.rw[Af h0] at a;exact AL.next (n+1) (by rw[a]) ⟨Ab,hlt,rfl⟩ Ab
  .rw[Ad h0] at a;exact AL.next (n+1) (by rw[a]) ⟨Ab,hlt,rfl⟩ Ab
 .have i1:¬(n:Int)<(l.length:Int):=by omega
  simp only[BF,DL.CN,i1,Ay,Au,Ao,AF Ei]
def f41(hc:At h id o v)(hv:Dr l v)(hb:l.length<=1000000000)(node:Int):BK cx 188 [Pt id o,I node] h (I (Hz node l)) h:=by
 have hv:AV 3 (l.map Ci.row) v:=hv;rw[Ae,gO];simp only[BF,H8,hc.load,Bu,hv.CN,C3 (Ab: -9223372036854775808<=(l.length:Int)-1) (Ab:(l.length:Int)-1<9223372036854775808)];refine⟨λh0=>by rw[Hz,Af h0],λh0=>?_⟩;rw[Hz,Ad h0];refine Bl (λn:Nat=>[I 0,I ((n:Int)-1)]) (λn h1=>n<=l.length/\AR (PX node) l=AR (PX node) (l.take n)/\h1=h) (λn=>n) l.length rfl ⟨Ag _,by rw[Bx],rfl⟩ ?_;rintro n h1 ⟨hn,ha,rfl⟩;cases n with
 |zero=>have i1:¬(0:Int)<=((0:Nat):Int)-1:=Ab;rw[ha];simp only[BF,i1,Ay,Au,Ao,J6]
 |succ n=>
  have a:((n+1:Nat):Int)-1=(n:Int):=Ab;rw[GV hn] at ha;simp only[BF,a,(Ab:(0:Int)<=(n:Int)),AA,Au,Ao,hc.load,Bu,hv.BM (show n<l.length from hn),Ci.at0,C3 (Ab: -9223372036854775808<=(n:Int)-1) (Ab:(n:Int)-1<9223372036854775808)];refine⟨λh1=>?_,λh1=>?_⟩;.rw[ha,Af (by simpa[PX] using h1)]
  .exact AL.next n rfl ⟨Ab,by rw[ha,Ad (by simpa[PX] using h1)],rfl⟩ Ab
def aMc(hv:Dr l v)(hb:l.length<=1000000000)(node:Int):BK cx 222 [v,I node] h (I (Hz node l)) h:=by
 have DL:AV 3 (l.map Ci.row) v:=hv;rw[Ae,ğ];refine Bl (λn:Nat=>[I (Hz node (l.take n)),I (n:Int)]) (λn h1=>n<=l.length/\h1=h) (λn=>l.length-n) 0 (by simp[Hz,J6]) ⟨AZ _,rfl⟩ ?_;rintro n h1 ⟨hn,rfl⟩;rcases AQ n l.length with hlt|Ei
 .have i1:(n:Int)<(l.length:Int):=by omega
  have a:Hz node (l.take (n+1))=if node=0 then -1 else if l[n].c.node=node then(n:Int) else AR (PX node) (l.take n):=by unfold Hz;rw[GV hlt];simp[PX]
  simp only[BF,DL.CN,i1,AA,Au,Ao,DL.BM hlt,Ci.at0,BO (Ab:n<9223372036854775807)];refine⟨λh0=>⟨λh1=>?_,λh1=>?_⟩,λh0=>?_⟩;.exact AL.next (n+1) (by rw[a,Ad h0,Af h1]) ⟨hlt,rfl⟩ Ab
  .exact AL.next (n+1) (by rw[a,Ad h0,Ad h1,Hz,Ad h0]) ⟨hlt,rfl⟩ Ab
  .have h0:node=0:=by simpa using h0
   exact AL.next (n+1) (by rw[a,Af h0,Hz,Af h0]) ⟨hlt,rfl⟩ Ab
 .have i1:¬(n:Int)<(l.length:Int):=by omega
  simp only[BF,DL.CN,i1,Ay,Au,Ao,AF Ei]
end
section
variable{h:Ah}{v:Aa}{l:List A6}
def aGZ(hv:Bq l v)(hb:l.length<=1000000000)(x:A6):BK cx 382 [v,.agg x.row] h (.bool (decide (x∈l))) h:=by
 have hv:AV 3 (l.map A6.row) v:=hv;rw[Ae,ł];simp only[BF,A6.CP,A6.g0,A6.g1,A6.g2,A6.PS];refine Bl (λn:Nat=>[.bool false,I (n:Int)]) (λn h1=>n<=l.length/\x∉l.take n/\h1=h) (λn=>l.length-n) 0 rfl ⟨AZ _,AH,rfl⟩ ?_;rintro n h1 ⟨hn,ha,rfl⟩;rcases AQ n l.length with hlt|Ei
 .have i1:(n:Int)<(l.length:Int):=by omega
  simp only[BF,hv.CN,i1,AA,Au,Ao,hv.BM hlt,A6.CP,A6.HW,Ag,nX,G_,BO (Ab:n<9223372036854775807)];refine⟨λh0=>?_,λh0=>?_⟩
  .have:x∈l:=by rw[<-h0];exact AN hlt
   simp[this]
  .refine AL.next (n+1) rfl ⟨hlt,?_,rfl⟩ Ab;rw[AE hlt,Ax,Ns];exact⟨ha,by simpa using λe=>h0 e.symm⟩
 .have i1:¬(n:Int)<(l.length:Int):=by omega
  rw[AF Ei] at ha;simp only[BF,hv.CN,i1,Ay,Au,Ao,Aq ha]
def aMd(hv:Bq l v)(hb:l.length<=1000000000)(x:A6):BK cx 425 [v,.agg x.row] h (I (Cl (λa=>decide (x=a)) 0 l)) h:=by
 have hv:AV 3 (l.map A6.row) v:=hv;rw[Ae,j1];simp only[BF,hv.CN,A6.CP,A6.g0,A6.g1,A6.g2,A6.PS];refine Bl (λn:Nat=>[I 0,I (n:Int)]) (λn h1=>n<=l.length/\Cl (λa=>decide (x=a)) 0 l=Cl (λa=>decide (x=a)) n (l.drop n)/\h1=h) (λn=>l.length-n) 0 rfl ⟨AZ _,rfl,rfl⟩ ?_;rintro n h1 ⟨hn,ha,rfl⟩;rcases AQ n l.length with hlt|Ei
 .have i1:(n:Int)<(l.length:Int):=by omega
  rw[AG hlt,Cl] at ha;simp only[BF,i1,AA,Au,Ao,hv.BM hlt,A6.CP,A6.HW,Ag,nX,G_,BO (Ab:n<9223372036854775807)];refine⟨λh0=>?_,λh0=>?_⟩;.rw[ha,Af (by simpa using h0)]
  .exact AL.next (n+1) rfl ⟨hlt,by rw[ha,Ad (by simpa using h0)],rfl⟩ Ab
 .have i1:¬(n:Int)<(l.length:Int):=by omega
  rw[A0 Ei,Cl] at ha;simp only[BF,i1,Ay,Au,Ao,ha]
def aMe(hv:Bq l v)(hb:l.length<=1000000000)(x:A6):BK cx 401 [v,.agg x.row] h (.bool (decide (x∈l))) h:=by
 rw[Ae,jT];simp only[BF,A6.CP,A6.g0,A6.g1,A6.g2,A6.PS,(aMd hv hb x).Ac];rcases HK (p:=λa=>decide (x=a)) (l:=l) (k:=0) with⟨h1,h2⟩|⟨n,a,h1,h2,b⟩
 .rw[h1];have:x∉l:=λhm=>by have:=Jr.1 h2 x hm;simp at this
  simp[this]
 .have hm:=Cz h2;have he:x=a:=by simpa using Vk b
  have hx:x∈l:=by rw[he];exact hm
  rw[h1];simp[hx]
def o8(F:Aa)(h:Ah)(q:A6->Bool):Prop:=∃f caps,F= .func (.func f) [] caps/\f<=99999/\∀a:A6,BK cx f (.agg a.row::caps) h (.bool (q a)) h
def aG0{F:Aa}{q:A6->Bool}(hv:Bq l v)(hb:l.length<=1000000000)(hF:o8 F h q):BK cx 309 [v,F] h (I (Cl q 0 l)) h:=by
 have hv:AV 3 (l.map A6.row) v:=hv;obtain⟨f,caps,rfl,hf,hr⟩:=hF;rw[Ae,SZ];simp only[BF,hv.CN];refine Bl (λn:Nat=>[I 0,I (n:Int)]) (λn h1=>n<=l.length/\Cl q 0 l=Cl q n (l.drop n)/\h1=h) (λn=>l.length-n) 0 rfl ⟨AZ _,rfl,rfl⟩ ?_;rintro n h1 ⟨xd,ha,rfl⟩;rcases AQ n l.length with hlt|Ei
 .have i1:(n:Int)<(l.length:Int):=by omega
  rw[AG hlt,Cl] at ha;simp only[BF,↓reduceIte,DD,hf,i1,AA,Au,Ao,hv.BM hlt,A6.CP,A6.HW,Ag,(hr l[n]).Ac];rw[CT];refine⟨λhe=>?_,λhe=>?_⟩;.rw[ha,Af he]
  .rw[Ad (by simp[he])] at ha;simp only[BF,BO (Ab:n<9223372036854775807)];exact AL.next (n+1) rfl ⟨hlt,ha,rfl⟩ Ab
 .have i1:¬(n:Int)<(l.length:Int):=by omega
  rw[A0 Ei,Cl] at ha;simp only[BF,↓reduceIte,DD,hf,i1,Ay,Au,Ao,ha]
def aG1{F:Aa}{q:A6->Bool}(hv:Bq l v)(hb:l.length<=1000000000)(hF:o8 F h q):BK cx 191 [v,F] h (.bool (l.any q)) h:=by
 rw[Ae,Wo];simp only[BF,(aG0 hv hb hF).Ac];have:l.any q=(l.find? q).isSome:=by rw[OS,List.find?_isSome,Ts]
 rw[this];rcases HK (p:=q) (l:=l) (k:=0) with⟨h1,h2⟩|⟨n,a,h1,h2,b⟩
 .rw[h1,h2];simp
 .rw[h1,b];simp
def aMf(hv:Bq l v)(hb:l.length<=1000000000)(x:A6):BK cx 400 [.agg x.row,.CJ [v]] h (.bool (!decide (x∈l))) h:=by rw[Ae,jS];simp only[BF,A6.CP,A6.g0,A6.g1,A6.g2,A6.PS,(aMe hv hb x).Ac]
def aG2{b:List A6}{w:Aa}(hv:Bq l v)(hb:l.length<=1000000000)(hw:Bq b w)(Ob:b.length<=1000000000):BK cx 399 [v,w] h (.bool (decide (∀x∈l,x∈b))) h:=by
 have hF:o8 (.func (.func 400) [] [.CJ [w]]) h λx=> !decide (x∈b):=⟨400,_,rfl,AU,λa=>aMf hw Ob a⟩;have e:(!l.any λx=> !decide (x∈b))=decide (∀x∈l,x∈b):=by rw[OS];simp
 rw[Ae,jR,<-e];simp only[BF,AV.cells hw,(aG1 hv hb hF).Ac]
def aMg{a b:Ci}(ha:Zo a)(hb:Zo b):BK cx 317 [.agg a.row,.agg b.row] h (.bool (GI a.c b.c)) h:=by
 have g:=aG2 (h:=h) a.ok ha b.ok hb;have r2:=aG2 (h:=h) b.ok hb a.ok ha;rw[Ae,iL];simp only[BF,Nat.reduceLeDiff,↓reduceIte,DD,By,Ci.CP,Ci.g1,Ci.g2,Ci.ð,g.Ac,r2.Ac];refine⟨λh1=>⟨λh2=>⟨λf=>?_,λf=>?_⟩,λh2=>?_⟩,λh1=>?_⟩
 .have aK:a.c.Az.length=b.c.Az.length:=by omega
  simp only[GI,h1,aK,ML];congr 3
  rw[eq_iff_iff];exact⟨λh=>⟨f,h⟩,λh=>h.2⟩
 .simp[GI,f]
 .have aK:¬a.c.Az.length=b.c.Az.length:=by omega
  simp[GI,aK]
 .simp[GI,h1]
def f241{a b:Ci}(ha:Zo a)(hb:Zo b):BK cx 282 [.agg a.row,.agg b.row] h (.bool (GI a.c b.c)) h:=by
 have i:AV 3 (a.c.Az.map A6.row) a.v:=a.ok;have vb:AV 3 (b.c.Az.map A6.row) b.v:=b.ok;unfold Zo at ha hb;rw[Ae,Ī];simp only[BF,Ci.CP,Ci.g1,Ci.g2,Ci.ð];refine⟨λh1=>?_,λh1=>⟨λh2=>?_,λh2=>?_⟩⟩;.simp[GI,h1]
 .have aK:¬a.c.Az.length=b.c.Az.length:=by omega
  simp[GI,aK]
 have h1:a.c.name=b.c.name:=by simpa using h1
 have h2:a.c.Az.length=b.c.Az.length:=Ab;refine Bl (λn:Nat=>[.bool false,I (n:Int)]) (λn h1=>n<=a.c.Az.length/\(∀x∈a.c.Az.take n,x∈b.c.Az)/\(∀x∈b.c.Az.take n,x∈a.c.Az)/\h1=h) (λn=>a.c.Az.length-n) 0 rfl ⟨AZ _,AH,AH,rfl⟩ ?_;rintro n h1 ⟨hn,ZE,O8,rfl⟩;rcases AQ n a.c.Az.length with hlt|Ei
 .have i1:(n:Int)<(a.c.Az.length:Int):=by omega
  have ő:n<b.c.Az.length:=Ab;have k:=AN hlt;have j:=AN ő;simp only[BF,Ci.ð,i1,AA,Au,Ao,i.BM hlt,vb.BM ő,A6.CP,A6.HW,Ag,(aGZ b.ok hb _).Ac,(aGZ a.ok ha _).Ac,BO (Ab:n<9223372036854775807)];rw[CT,CT];refine⟨λg=>?_,λg=>⟨λf=>?_,λf=>?_⟩⟩
  .have g:a.c.Az[n]∉b.c.Az:=by simpa using g
   have:GI a.c b.c=false:=by simp only[GI,Tn];exact λh=>g (h.2.2.1 _ k)
   rw[this]
  .have f:b.c.Az[n]∉a.c.Az:=by simpa using f
   have:GI a.c b.c=false:=by simp only[GI,Tn];exact λh=>f (h.2.2.2 _ j)
   rw[this]
  .have g:a.c.Az[n]∈b.c.Az:=by simpa using g
   have f:b.c.Az[n]∈a.c.Az:=by simpa using f
   refine AL.next (n+1) rfl ⟨hlt,?_,?_,rfl⟩ Ab
   .rw[AE hlt];intro x hx;rcases Ax.1 hx with hx|hx
    .exact ZE x hx
    .rw[Dt.1 hx];exact g
   .rw[AE ő];intro x hx;rcases Ax.1 hx with hx|hx
    .exact O8 x hx
    .rw[Dt.1 hx];exact f
 .have i1:¬(n:Int)<(a.c.Az.length:Int):=by omega
  rw[AF Ei] at ZE;rw[AF Ab] at O8;have:GI a.c b.c=true:=by simp only[GI,CL];exact⟨by assumption,h2,ZE,O8⟩
  rw[this];simp only[BF,Ci.ð,i1,Ay,Au,Ao]
end
end
section
def BN{Q:HF}{h:Ah}{a:Aa}{k:IT}:W cx (.same a a k) Q h↔W cx k Q h:=by refine⟨λhw=>?_,pc (Aa.SH a)⟩;obtain⟨m,x',HS,h',hr,q⟩:=hw.succ;simp only[IT.step,Aa.SH,BI] at hr;exact C7 ⟨m,x',HS,h',hr,q⟩
section
variable{h:Ah}{v:Aa}{l:List Ci}{id o:Nat}
def f45{l:List A6}(hv:Bq l v)(hb:l.length<=1000000000):∃u,BK cx 147 [v] h u h/\Bq l u:=by
 have hv:AV 3 (l.map A6.row) v:=hv;rcases hv with rfl|⟨rfl,hn⟩
 .refine⟨.sl 3 (l.map A6.row),?_,.mk⟩;have b:AB (.Gd false .sl) [.sl 3 (l.map A6.row),.slnil]=some (.bool false):=rfl;have f:AB (.C8 3) []=some (.sl 3 []):=rfl;have c:QS h 3 40 (.sl 3 []) (.sl 3 (l.map A6.row))=some (.sl 3 (l.map A6.row)):=by
   simp only[QS,Gp,BI,Cm];cases l with
   |nil=>rfl
   |cons a l=>have:(l.length+1)*40<=AS:=Q5 (by simp at hb;omega);simp[DN,this]
  rw[Ae,Wh,aDo];simp only[BF,b,f,c]
 .refine⟨.slnil,?_,?_⟩;.have b:AB (.Gd false .sl) [.slnil,.slnil]=some (.bool true):=rfl;rw[Ae,Wh,aDo];simp only[BF,b]
  .exact .inr ⟨rfl,hn⟩
def xe{e:Ci}(he:Zo e):∃a:Ci,a.c=e.c/\BK cx 319 [.agg e.row] h (.agg a.row) h:=by obtain⟨u,r,hu⟩:=f45 (h:=h) e.ok he;refine⟨⟨e.c,u,hu⟩,rfl,?_⟩;rw[Ae,iN];simp only[BF,Ci.CP,Ci.g0,Ci.g1,Ci.g2,r.Ac,AV.cells hu];rfl
def aMh{e:Ci}(he:Zo e):∃a:Ci,a.c=e.c/\BK cx 227 [.agg e.row] h (.agg a.row) h:=by obtain⟨u,r,hu⟩:=AV.FJ (f:=A6.row) e.ok (b:=40) (Q5 (by unfold Zo at he;omega));refine⟨⟨e.c,u,hu⟩,rfl,?_⟩;rw[Ae,Ģ];simp only[BF,Ci.CP,Ci.g0,Ci.g1,Ci.g2,r,AV.cells hu];rfl
def aMi(hv:Dr l v){k:Nat}(hk:k<l.length)(hb:l.length<=1000000000):∃u,BK cx 318 [v,I (k:Int)] h u h/\Dr (Bi l k) u:=by obtain⟨r,m,h1⟩:=AV.Lw hv (k:= .i64) (Ab:k<=l.length);obtain⟨q,j,h2⟩:=AV.FJ h1 (b:=48) (PV (by rw[Aw];omega));obtain⟨p,i,f⟩:=AV.SD hv (k:= .i64) (Ab:k+1<=l.length);obtain⟨a,g,c⟩:=AV.eM h2 f (b:=48) (PV (by rw[Aw,Be];omega));refine⟨a,?_,c⟩;rw[Ae,iM];simp only[BF,m,j,BO (Ab:k<9223372036854775807),i,g]
def xf(hv:Dr l v)(e:Ci){k:Nat}(hk:k<=l.length)(hb:l.length<=1000000000):∃u,BK cx 196 [v,.agg e.row,I (k:Int)] h u h/\Dr (l.take k++e::l.drop k) u:=by obtain⟨x,r,h1⟩:=AV.Lw hv (k:= .i64) hk;obtain⟨w,q,h2⟩:=AV.FJ h1 (b:=48) (PV (by rw[Aw];omega));have p:=AV.Jv (a:=e) h2 (b:=48) (PV (by rw[Aw];omega));obtain⟨t,m,i⟩:=AV.SD hv (k:= .i64) hk;obtain⟨g,j,c⟩:=AV.eM (f:=Ci.row) (l:=l.take k++[e]) .mk i (b:=48) (PV (by rw[Av,Aw,Be,A9];omega));refine⟨g,?_,by rw[AI] at c;exact c⟩;rw[Ae,gU];simp only[BF,Ci.CP,Ci.g0,Ci.g1,Ci.g2,Ci.PS,r,q,Mg Ci.CP,p,m,j]
def aDB(hv:Dr l v)(hne:l≠[])(hb:l.length<=1000000000):BK cx 181 [v] h (.Cs h.length 0 l.length 3) (h++[.cells (l.map Ci.row).flatten]):=by
 have f:AB (.Gd false .sl) [v,.slnil]=some (.bool false):=by
  rcases hv with rfl|⟨rfl,hv⟩
  .rfl
  .exact absurd (by simpa using hv) hne
 have c:AB (.C8 3) []=some (.sl 3 []):=rfl;have a:=Lv (h:=h) (s:= .sl 3 []) (z:=3) (b:=48) (.inr rfl) hv (by simpa using hne) (by rw[Aj];exact PV Ab);rw[Aj] at a;rw[Ae,SY];simp only[BF,f,c,a]
def f63(hs:TS h id o l)(hb:l.length<=1000000000):∃u,BK cx 80 [Pt id o] h (.tuple []) (put h id o u)/\Dr (l++[eT]) u:=by obtain⟨v,hc,hv⟩:=(show TS h id o l from hs);obtain⟨u,hr,hu⟩:=xf (h:=h) hv eT (Ag l.length) hb;rw[Bx,Er] at hu;refine⟨u,?_,hu⟩;rw[Ae,uN];simp only[BF,↓reduceIte,AT,RQ,IQ,hc.load,Bu,AV.CN hv,uj,hr.Ac,hc.store (Dr.cells hu)]
def aMj(hs:TS h id o l)(hb:l.length<=1000000000){e:Ci}(he:Zo e)(i:Int):∃u a,a.c=e.c/\BK cx 335 [Pt id o,.agg e.row,I i] h (.tuple []) (put h id o u)/\Dr (l.take (CE i l.length)++a::l.drop (CE i l.length)) u:=by
 obtain⟨v,hc,hv⟩:=(show TS h id o l from hs);obtain⟨a,PH,b⟩:=xe (h:=h) he;obtain⟨u,hr,hu⟩:=xf (h:=h) hv a (k:=CE i l.length) (by unfold CE;omega) hb;refine⟨u,a,PH,?_,hu⟩;have f:(if(l.length:Int)<(if i<0 then 0 else i) then(l.length:Int) else(if i<0 then 0 else i))=((CE i l.length:Nat):Int):=by unfold CE;split<;>split<;>omega
 rw[Ae,i7];simp only[BF,Ci.CP,Ci.g0,Ci.g1,Ci.g2,Ci.PS,RQ,IQ,hc.load,Bu,eI,AV.CN hv,ub,f,b.Ac,BN,hr.Ac,hc.store (Dr.cells hu)]
def f65(hs:TS h id o l)(hb:l.length<=1000000000):∃u,BK cx 83 [Pt id o] h (I ((l.length:Int)-((ET l:Nat):Int))) (put h id o u)/\Dr (l.take (ET l)) u:=by
 obtain⟨v,hc,hv⟩:=(show TS h id o l from hs);obtain⟨s,es,J1,_⟩:=JT l;have hcl:ET l<=l.length:=by unfold ET;omega
 obtain⟨u,b,hu⟩:=AV.Lw hv (k:= .i64) hcl;refine⟨u,?_,hu⟩;have a:(if since l-1<0 then 0 else since l-1)=((ET l:Nat):Int):=by unfold ET;split<;>omega
 have rF:(l.take (ET l)).length=ET l:=by rw[Aw];omega
 have c:At (put h id o u) id o u:=hc.put;rw[Ae,uO];simp only[BF,H8,hc.load,Bu,AV.CN hv,(f99 hc hv hb).Ac,BN,C3 (Ab: -9223372036854775808<=since l-1) (Ab:since l-1<9223372036854775808),eI,a,b,hc.store (AV.cells hu),c.load,AV.CN hu,rF,C3 (Ab: -9223372036854775808<=(l.length:Int)-((ET l:Nat):Int)) (Ab:(l.length:Int)-((ET l:Nat):Int)<9223372036854775808)]
end
end
section
section
variable{e:Cc}{l:List Ci}{n s:Nat}
end
section
variable{h:Ah}{v:Aa}{l:List Ci}{id o:Nat}
def f30(hs:TS h id o l)(hb:l.length<=900000000)(hl:∀x∈l,Zo x){e:Ci}(he:Zo e):∃u a,a.c=e.c/\BK cx 170 [Pt id o,.agg e.row] h (.tuple []) (put h id o u)/\Dr (KY e.c l++[a]) u:=by
 obtain⟨v,hc,hv⟩:=(show TS h id o l from hs);have DL:AV 3 (l.map Ci.row) v:=hv;have Ih:=hs.lt;obtain⟨s,es,J1,q,_⟩:=JT l;have Jl:Ev cx 170 [Pt id o,.agg e.row] h λr h'=>r= .tuple []/\∃(a:Ci) (u:Aa),a.c=e.c/\h'=put h id o u/\Dr (KY e.c l++[a]) u:=by
  unfold Ev;rw[fZ];by_cases h0:e.c.node=0;.obtain⟨a,PH,b⟩:=xe (h:=h) he;obtain⟨u,r2,hu⟩:=xf (h:=h) hv a (Ag l.length) Ab;rw[Bx,Er] at hu;simp only[BF,Ci.CP,Ci.g0,Ci.g1,Ci.g2,H8,h0,B2,AA,Ao,Au,Ay,hc.load,Bu,DL.CN];rw[<-h0,Ci.PS];simp only[BF,b.Ac,BN,hc.load,Bu,r2.Ac,hc.store (Dr.cells hu)];refine⟨_,rfl,rfl,a,u,PH,rfl,?_⟩;rw[KY,Ad (λh=>h.1 h0)];exact hu
  .simp only[BF,Ci.CP,Ci.g0,Ci.g1,Ci.g2,Ci.PS,H8,h0,B2,AA,Ao,Au,Ay,hc.load,Bu,DL.CN,C3 (Ab: -9223372036854775808<=(l.length:Int)-1) (Ab:(l.length:Int)-1<9223372036854775808)];refine Bl (λp:Int×Nat×Nat=>[I p.1,I (p.2.1:Int),I ((p.2.2:Int)-1)])
    (λp h1=>s<=p.2.2/\p.2.2<=l.length/\p.2.1+p.2.2<=l.length/\SI e.c l=p.2.1+SI e.c (l.take p.2.2)/\(NU e.c l=if 0<=NU e.c (l.take p.2.2) then NU e.c (l.take p.2.2) else if p.2.1=0 then -1 else p.1)/\(p.2.1=0\/∃k:Nat,k<l.length/\p.1=(k:Int))/\h1=h)
    (λp=>p.2.2) (0,0,l.length) rfl ⟨J1,Ag _,AH,AH,by
     rw[Bx];have:∀l:List Ci,-1<=tN e.c l:=by
      intro l;induction l with
      |nil=>exact GC _
      |cons x t ih=>rw[tN];split<;>(try split)<;>(try split)<;>omega
     have:=this l.reverse;simp only[BI];unfold NU;split<;>omega,.inl rfl,rfl⟩ ?_
   rintro⟨B,f,n⟩ h1 ⟨a1,a2,a3,a4,a5,a6,rfl⟩;simp only at a1 a2 a3 a4 a5 a6;have j:=f99 hc hv Ab;rw[es] at j;rcases AQ s n with hlt|Ei
   .obtain⟨n,rfl⟩:∃m,n=m+1:=⟨n-1,Ab⟩;have A:((n+1:Nat):Int)-1=(n:Int):=Ab;have hn:n<l.length:=a2;have g:=q n hn Ab;rw[TT hn,Ad g] at a4;rw[TU hn,Ad g] at a5;have b:=aMg (h:=h1) (hl _ (AN hn)) he;simp only[BF,A,j.Ac,(Ab:(s:Int)<=(n:Int)),AA,Ao,Au,hc.load,Bu,DL.BM hn,Ci.CP,Ci.HW,Ag,b.Ac,BO (Ab:f<9223372036854775807),C3 (Ab: -9223372036854775808<=(n:Int)-1) (Ab:(n:Int)-1<9223372036854775808)];rw[CT];refine⟨λh2=>?_,λh2=>?_⟩
    .rw[Af h2] at a4 a5;refine AL.next ((n:Int),f+1,n) rfl ⟨Dv,Dv,Dv,Dv,?_,.inr ⟨n,hn,rfl⟩,rfl⟩ Dv;simp only
     rw[a5];by_cases hf:0<=NU e.c (l.take n);.simp[hf]
     .simp[hf,(Ab:(0:Int)<=(n:Int))]
    .rw[Ad (by simp[h2])] at a4;rw[Ad (show¬GI l[n].c e.c=true by simp[h2])] at a5;refine AL.next (B,f,n) rfl ⟨Dv,Dv,Dv,Dv,?_,a6,rfl⟩ Dv;simp only
     rw[a5];by_cases hf:0<=NU e.c (l.take n);.simp[hf]
     .simp[hf]
   .obtain rfl:n=s:=by omega
    obtain⟨b1,b2⟩:=Yd (e:=e.c) es;rw[b1,Bu] at a4;rw[b2,Ad AU] at a5;simp only[BF,j.Ac,(Ab:¬(n:Int)<=(n:Int)-1),Ao,Au,Ay];by_cases C:3<=f
    .rcases a6 with a6|⟨k,hk,rfl⟩
     .omega
     rw[Ad Ab] at a5;obtain⟨i,b,O7⟩:=aMi (h:=h1) hv hk Ab;have Zl:(Bi l k).length<=l.length:=by unfold Bi;rw[Av,Aw,Be];omega
     have w:At (put h1 id o i) id o i:=hc.put;obtain⟨a,PH,r2⟩:=xe (h:=put h1 id o i) he;obtain⟨y,z,IE⟩:=xf (h:=put h1 id o i) O7 a (Ag (Bi l k).length) Ab;rw[Bx,Er] at IE;simp only[BF,(Ab:(3:Int)<=(f:Int)),AA,Ao,Au,hc.load,Bu,b.Ac,hc.store (Dr.cells O7),w.load,AV.CN O7,r2.Ac,BN,z.Ac,w.store (Dr.cells IE),eO];refine⟨_,rfl,rfl,a,y,PH,rfl,?_⟩;rw[KY,Af ⟨h0,Ab⟩,a5,AY];exact IE
    .obtain⟨a,PH,b⟩:=xe (h:=h1) he;obtain⟨u,r2,hu⟩:=xf (h:=h1) hv a (Ag l.length) Ab;rw[Bx,Er] at hu;simp only[BF,(Ab:¬(3:Int)<=(f:Int)),Ao,Au,Ay,hc.load,Bu,DL.CN,b.Ac,BN,r2.Ac,hc.store (Dr.cells hu)];refine⟨_,rfl,rfl,a,u,PH,rfl,?_⟩;rw[KY,Ad Ab];exact hu
 obtain⟨r,h',hr,rfl,a,u,PH,rfl,hu⟩:=Jl.ret;exact⟨u,a,PH,hr,hu⟩
end
end
section
section
variable{h:Ah}{v:Aa}{l:List Ci}{id o:Nat}
def aMl(hs:TS h id o l)(hb:l.length<=900000000)(node:Int){e:Ci}(he:Zo e):∃u t a,a.c=e.c/\BK cx 408 [Pt id o,I node,.agg e.row] h (.bool (decide (0<=Hz node l))) (put h id o u++t)/\Dr (if Hz node l<0 then l else l.set (Hz node l).toNat a) u:=by
 obtain⟨v,hc,hv⟩:=(show TS h id o l from hs);rcases oB node l with h1|⟨k,hk,h1⟩
 .refine⟨v,[],e,rfl,?_,by rw[h1];exact hv⟩;have b:=hc.bl (AV.Ph hv);rw[Ae,WC,hc.same,By];simp only[BF,Ci.CP,(f41 hc hv Ab node).Ac,h1,(AU:(-1:Int)<0),AA,Au,Ao,b];rfl
 .have hne:l≠[]:=by intro e;subst e;simp at hk
  have hcl:=aDB (h:=h) hv hne Ab;have g:=(hc.Ib (t:=[Du.cells (l.map Ci.row).flatten])).store (u:= .Cs h.length 0 l.length 3) rfl;rw[eP hc] at g;obtain⟨a,PH,j⟩:=xe (h:=put h id o (.Cs h.length 0 l.length 3)++[Du.cells (l.map Ci.row).flatten]) he;obtain⟨r,x,p⟩:=hc.next (w:= .Cs h.length 0 l.length 3) (X:= .cells (l.map Ci.row).flatten) (Y:= .cells ((l.map Ci.row).set k a.row).flatten);have f:=UX (z:=3) (OB l) r (i:=k) (by simpa using hk) (q:=a.row) rfl;rw[p] at f;have m:AB (.Fu 3) [.Cs h.length 0 l.length 3,I (k:Int)]=some (Pt h.length (k*3)):=E0 hk;have b:=hc.bm (nO (OB l) (i:=k) (q:=a.row) rfl);rw[Bp,Aj] at b;refine⟨.sl 3 ((l.map Ci.row).set k a.row),[.CF],a,PH,?_,?_⟩;.rw[Ae,WC];simp only[BF,Ci.CP,Ci.g0,Ci.g1,Ci.g2,Ci.PS,(f41 hc hv Ab node).Ac,h1,(Ab:¬(k:Int)<0),Ay,Au,Ao,hc.load,Bu,hcl.Ac,g,x.load,j.Ac,BN,m,f,b,(Ab:(0:Int)<=(k:Int)),Dx]
  .rw[h1,Ad Ab,AY,<-Ep];exact .mk
def aG3(hv:Dr l v)(hb:l.length<=900000000){k:Nat}(hk:k<l.length):∃u,BK cx 283 [v,I (k:Int)] h u h/\Dr (Bi l k) u:=by
 have DL:AV 3 (l.map Ci.row) v:=hv;have Jl:Ev cx 283 [v,I (k:Int)] h λr h'=>h'=h/\Dr (Bi l k) r:=by
  unfold Ev;rw[ī];refine Bl (λp:Nat×Aa=>[p.2,I (p.1:Int)]) (λp h1=>p.1<=l.length/\Dr (if p.1<=k then l.take p.1 else Bi (l.take p.1) k) p.2/\h1=h) (λp=>l.length-p.1) (0,.slnil) rfl ⟨AZ _,by rw[Af (AZ _)];exact .nil,rfl⟩ ?_;rintro⟨n,u⟩ h1 ⟨hn,hu,rfl⟩;simp only at hn hu;have inc:=BO (Ab:n<9223372036854775807);rcases AQ n l.length with hlt|Ei
  .have i1:(n:Int)<(l.length:Int):=by omega
   have elem:=DL.BM (k:= .i64) hlt;have hlen:(if n<=k then l.take n else Bi (l.take n) k).length<=l.length:=by
    split;.rw[Aw];omega
    .unfold Bi;rw[Av,Aw,Be,Aw];omega
   have f:=AV.Jv (a:=l[n]) hu (b:=48) (PV Ab);simp only[BF,DL.CN,i1,AA,Au,Ao,elem,Ci.CP,Ci.HW,Ag,Mg Ci.CP,f,inc];refine⟨λh0=>?_,λh0=>?_⟩
   .refine AL.next (n+1,_) rfl ⟨hlt,?_,rfl⟩ Dv;have h0:n≠k:=Ab;have:(if n+1<=k then l.take (n+1) else Bi (l.take (n+1)) k)=(if n<=k then l.take n else Bi (l.take n) k)++[l[n]]:=by
     rw[AE hlt];by_cases c:n<k;.rw[Af Ab,Af Ab]
     .rw[Ad Ab,Ad Ab];unfold Bi;rw[CI (by rw[Aw];omega),Ji (by rw[Aw];omega),AI]
    simp only
    rw[this];exact .mk
   .refine AL.next (n+1,u) rfl ⟨hlt,?_,rfl⟩ Dv;obtain rfl:n=k:=Ab;have:(if n+1<=n then l.take (n+1) else Bi (l.take (n+1)) n)=l.take n:=by rw[Ad Ab];unfold Bi;rw[FD,Cq Ab,A0 (by rw[Aw];omega),By]
    simp only
    rw[this];rw[Af (Ag _)] at hu;exact hu
  .have i1:¬(n:Int)<(l.length:Int):=by omega
   rw[Ad Ab,AF Ei] at hu;simp only[BF,DL.CN,i1,Ay,Au,Ao];exact⟨_,rfl,hu⟩
 obtain⟨r,h',hr,rfl,hu⟩:=Jl.ret;exact⟨r,hr,hu⟩
def f82(hv:Dr l v)(hb:l.length<=900000000){e:Ci}(he:Zo e)(i:Int):∃u m,m.c=e.c/\BK cx 100 [v,.agg e.row,I i] h u h/\Dr (l.take (CE i l.length)++m::l.drop (CE i l.length)) u:=by
 obtain⟨m,PH,z⟩:=aMh (h:=h) he;have key:∀k:Nat,k<=l.length->∃r t q p,AB (.KK 3 false false true) [v,I (k:Int)]=some r/\AB (.append 3 48) [.slnil,r]=some t/\AB (.append 3 48) [t,.sl 3 [m.row]]=some (.sl 3 ((l.take k++[m]).map Ci.row))/\AB (.KK 3 false true false) [v,I (k:Int)]=some q/\AB (.append 3 48) [.sl 3 ((l.take k++[m]).map Ci.row),q]=some p/\Dr (l.take k++m::l.drop k) p:=by intro k hk;obtain⟨r,j,h1⟩:=AV.Lw hv (k:= .i64) hk;obtain⟨t,y,h2⟩:=AV.FJ h1 (b:=48) (PV (by rw[Aw];omega));have x:=AV.Jv (a:=m) h2 (b:=48) (PV (by rw[Aw];omega));obtain⟨q,g,B⟩:=AV.SD hv (k:= .i64) hk;obtain⟨p,w,A⟩:=AV.eM (f:=Ci.row) (l:=l.take k++[m]) .mk B (b:=48) (PV (by rw[Av,Aw,Be,A9];omega));exact⟨r,t,q,p,j,y,x,g,w,by rw[AI] at A;exact A⟩
 obtain⟨r,t,q,p,j,y,x,g,w,hu⟩:=key (CE i l.length) (by unfold CE;omega);refine⟨p,m,PH,?_,hu⟩;have DL:AV 3 (l.map Ci.row) v:=hv;rw[Ae,þ];by_cases h1:i<0
 .have:CE i l.length=0:=by unfold CE;omega
  rw[this] at j g;have j:AB (.KK 3 false false true) [v,I 0]=some r:=j;have g:AB (.KK 3 false true false) [v,I 0]=some q:=g;simp only[BF,Ci.CP,Ci.g0,Ci.g1,Ci.g2,Ci.PS,h1,AA,Ay,Au,Ao,DL.CN,(Ab:¬(l.length:Int)<0),j,y,z.Ac,Mg Ci.CP,x,g,w]
 .by_cases h2:(l.length:Int)<i
  .have:CE i l.length=l.length:=by unfold CE;omega
   rw[this] at j g;simp only[BF,Ci.CP,Ci.g0,Ci.g1,Ci.g2,Ci.PS,h1,h2,AA,Ay,Au,Ao,DL.CN,j,y,z.Ac,Mg Ci.CP,x,g,w]
  .have:((CE i l.length:Nat):Int)=i:=by unfold CE;omega
   rw[this] at j g;simp only[BF,Ci.CP,Ci.g0,Ci.g1,Ci.g2,Ci.PS,h1,h2,Ay,Au,Ao,DL.CN,j,y,z.Ac,Mg Ci.CP,x,g,w]
def f84(hv:Dr l v)(hb:l.length<=900000000):∃u,BK cx 102 [v] h u h/\Dr (l.take (ET l)) u:=by
 obtain⟨s,es,J1,_⟩:=JT l;have hcl:ET l<=l.length:=by unfold ET;omega
 obtain⟨u,a,hu⟩:=AV.Lw hv (k:= .i64) hcl;obtain⟨f,c,IE⟩:=AV.FJ hu (b:=48) (PV (by rw[Aw];omega));refine⟨f,?_,IE⟩;rw[Ae,ÿ];by_cases h1:since l-1<0
 .have:ET l=0:=by unfold ET;omega
  rw[this] at a;have a:AB (.KK 3 false false true) [v,I 0]=some u:=a;simp only[BF,(Ő hv Ab).Ac,C3 (Ab: -9223372036854775808<=since l-1) (Ab:since l-1<9223372036854775808),h1,AA,Au,Ao,a,c]
 .have:((ET l:Nat):Int)=since l-1:=by unfold ET;omega
  rw[this] at a;simp only[BF,(Ő hv Ab).Ac,C3 (Ab: -9223372036854775808<=since l-1) (Ab:since l-1<9223372036854775808),h1,Ay,Au,Ao,a,c]
def aG4(hv:Dr l v)(hb:l.length<=900000000)(hl:∀x∈l,Zo x){e:Ci}(he:Zo e):∃u a,a.c=e.c/\BK cx 137 [v,.agg e.row] h u h/\Dr (KY e.c l++[a]) u:=by
 have DL:AV 3 (l.map Ci.row) v:=hv;obtain⟨s,es,J1,j,_⟩:=JT l;have Jl:Ev cx 137 [v,.agg e.row] h λr h'=>h'=h/\∃a:Ci,a.c=e.c/\Dr (KY e.c l++[a]) r:=by
  unfold Ev;rw[ą];have t:=Ő (h:=h) hv Ab;rw[es] at t;obtain⟨b1,b2⟩:=Yd (e:=e.c) es;simp only[BF,Ci.CP,Ci.g0,Ci.g1,Ci.g2,Ci.PS,t.Ac];refine Bl (λn:Nat=>[I (NU e.c (l.take n)),I (SI e.c (l.take n):Int),I (n:Int)])
   (λn h1=>s<=n/\n<=l.length/\SI e.c (l.take n)<=n/\((SI e.c (l.take n)=0/\NU e.c (l.take n)= -1)\/∃k:Nat,k<n/\NU e.c (l.take n)=(k:Int))/\h1=h) (λn=>l.length-n) s (by rw[b1,b2];rfl) ⟨Ag _,J1,Ab,.inl ⟨b1,b2⟩,rfl⟩ ?_
  rintro n h1 ⟨a1,a2,a3,a4,rfl⟩;rcases AQ n l.length with hlt|Ei
  .have i1:(n:Int)<(l.length:Int):=by omega
   have m:=j n hlt a1;have f:=TT (e:=e.c) hlt;have b:=TU (e:=e.c) hlt;rw[Ad m] at f b;have i:=f241 (h:=h1) (hl _ (AN hlt)) he;simp only[BF,DL.CN,i1,AA,Ao,Au,DL.BM hlt,Ci.CP,Ci.HW,Ag,i.Ac,BO (Ab:SI e.c (l.take n)<9223372036854775807),BO (Ab:n<9223372036854775807)];rw[CT];refine⟨λh2=>⟨λp=>?_,λp=>?_⟩,λh2=>?_⟩;.rw[Af h2] at f b;rw[Ad Ab] at b;refine AL.next (n+1) (by rw[f,b]) ⟨Ab,hlt,Ab,.inr ⟨n,Ab,b⟩,rfl⟩ Ab
   .rw[Af h2] at f b;rw[Af Ab] at b;refine AL.next (n+1) (by rw[f,b]) ⟨Ab,hlt,Ab,.inr ?_,rfl⟩ Ab;rw[b];rcases a4 with⟨_,a4⟩|⟨k,hk,a4⟩
    .omega
    .exact⟨k,Ab,a4⟩
   .rw[Ad (by simp[h2])] at f;rw[Ad (show¬GI l[n].c e.c=true by simp[h2])] at b;have g:NU e.c (l.take (n+1))=NU e.c (l.take n):=by rw[b];rcases a4 with⟨_,a4⟩|⟨k,hk,a4⟩<;>rw[a4]<;>simp
    refine AL.next (n+1) (by rw[f,g];rfl) ⟨Ab,hlt,Ab,?_,rfl⟩ Ab;rw[f,g];rcases a4 with a4|⟨k,hk,a4⟩
    .exact .inl a4
    .exact .inr ⟨k,Ab,a4⟩
  .have i1:¬(n:Int)<(l.length:Int):=by omega
   rw[AF Ei] at a3 a4⊢;simp only[BF,DL.CN,i1,Ao,Au,Ay];refine⟨λh2=>⟨λp=>?_,λp=>?_⟩,λh2=>?_⟩
   .rcases a4 with⟨a4,_⟩|⟨k,hk,a4⟩
    .omega
    have Qi:k<l.length:=Ab;obtain⟨w,i,O7⟩:=aG3 (h:=h1) hv hb Qi;have hlen:(Bi l k).length<=l.length:=by unfold Bi;rw[Av,Aw,Be];omega
    obtain⟨q,a,PH,r2,IE⟩:=f82 (h:=h1) O7 Ab he ((Bi l k).length:Int);have hcl:CE ((Bi l k).length:Int) (Bi l k).length=(Bi l k).length:=by unfold CE;omega
    rw[hcl,Bx,Er] at IE;simp only[BF,a4,i.Ac,AV.CN O7,r2.Ac];refine⟨_,rfl,a,PH,?_⟩;rw[KY,Af ⟨h2,Ab⟩,a4,AY];exact IE
   .obtain⟨q,a,PH,r2,IE⟩:=f82 (h:=h1) hv hb he (l.length:Int);have hcl:CE (l.length:Int) l.length=l.length:=by unfold CE;omega
    rw[hcl,Bx,Er] at IE;simp only[BF,r2.Ac];refine⟨_,rfl,a,PH,?_⟩;rw[KY,Ad Ab];exact IE
   .obtain⟨q,a,PH,r2,IE⟩:=f82 (h:=h1) hv hb he (l.length:Int);have hcl:CE (l.length:Int) l.length=l.length:=by unfold CE;omega
    rw[hcl,Bx,Er] at IE;simp only[BF,r2.Ac];refine⟨_,rfl,a,PH,?_⟩;rw[KY,Ad (λh=>h2 h.1)];exact IE
 obtain⟨r,h',hr,rfl,a,PH,hu⟩:=Jl.ret;exact⟨r,a,PH,hr,hu⟩
end
end
def VI:List A6->Aa
 |[]=> .slnil
 |x::l=> .sl 3 ((x::l).map A6.row)
def WE{l:List A6}:Bq l (VI l):=by cases l;exact .inr ⟨rfl,rfl⟩;exact .inl rfl
def kg{l:List A6}{x:A6}:VI (l++[x])= .sl 3 ((l++[x]).map A6.row):=by cases l<;>rfl
structure PN where
 x:EU
 kv:Aa
 av:Aa
 ok:av=VI x.Az
def PN.row(p:PN):List Aa:=[I p.x.kind,I p.x.FQ,p.kv,I p.x.CQ,I p.x.Bc,.str p.x.name,p.av,.str p.x.data,.str p.x.nj,.str p.x.sys,.bool p.x.CH,I p.x.cont,I p.x.En]
def PN.CP{p:PN}:p.row.length=13:=rfl
def PN.zero:PN:=⟨{},.slnil,.slnil,rfl⟩
def pN(ps:List PN)(x:Int):PN:=ps.getD (x.toNat-1) PN.zero
def BH(n:Int):List Aa:=[I n]
def DV(l:List Int)(v:Aa):Prop:=AV 1 (l.map BH) v
def Kv(h:Ah)(kv:Aa)(l:List Int):Prop:=(kv= .slnil/\l=[])\/∃id cs,kv= .Cs id 0 l.length 1/\h[id]?=some (.cells (l.map (Aa.int .i64)++cs))
def HN:Aa->Option Nat
 | .Cs id _ _ _=>some id
 |_=>none
def bn(l:List (Int×Int)):Prop:=(l.map (·.1)).Nodup/\∀p∈l,ic p.1=true/\ic p.2=true
def YE(h:Ah)(m:Option Nat)(f:Int->Int):Prop:=(m=none/\∀k,f k=0)\/∃(id:Nat) (l:List (Int×Int)),m=some id/\h[id]?=some (.map (l.map λx:Int×Int=>(I x.1,I x.2)))/\(∀k,(l.find? λx=>decide (k=x.1)).map (·.2)=if f k=0 then none else some (f k))/\bn l
def Gn(a n:Nat)(m:Option Nat)(ps:List PN):List Nat:=a::n::(m.toList++ps.filterMap λp=>HN p.kv)
structure PA(h:Ah)(a n:Nat)(m:Option Nat)(ps:List PN)(A:Ar):Prop where
 e:A.n=ps.map PN.x
 il:A.i.length=A.n.length
 ha:h[a]?=some (.cells [.Cs n 0 ps.length 13,.map m])
 hn:h[n]?=some (.cells (ps.map PN.row).flatten)
 ks:∀p∈ps,Kv h p.kv p.x.Bb
 nd:(Gn a n m ps).Nodup
 mp:YE h m A.inr
structure DB(h:Ah)(F:Nat->Prop)(h':Ah)(F':Nat->Prop):Prop where
 len:h.length<=h'.length
 old:∀i,i<h.length->¬F i->h'[i]?=h[i]?
 Bt:∀i,F' i->F i\/h.length<=i
section
variable{h h' h'' t:Ah}{F F' F'':Nat->Prop}
def DB.refl:DB h F h F:=⟨Ag _,λ_ _ _=>rfl,λ_ h=> .inl h⟩
def DB.trans(x:DB h F h' F')(y:DB h' F' h'' F''):DB h F h'' F'':=
 ⟨Br x.len y.len,λi hi hF=>by
  rw[y.old i (LU hi x.len) (λh=>by rcases x.Bt i h with h|h;exact hF h;omega)];exact x.old i hi hF,λi hi=>by
  rcases y.Bt i hi with h|h
  .exact x.Bt i h
  .exact .inr (Br x.len h)⟩
def DB.Ib:DB h F (h++t) F:=⟨AH,λi hi _=>Ai hi,λ_ h=> .inl h⟩
end
def PW(h:Ah)(F:Nat->Prop)(a:Nat)(A:Ar):Prop:=∃n m ps,PA h a n m ps A/\∀i,F i↔i∈Gn a n m ps
section
variable{h h':Ah}{a n:Nat}{m:Option Nat}{ps:List PN}{A:Ar}{x:Int}{F:Nat->Prop}
def Kv.Dn{kv:Aa}{l:List Int}(hk:Kv h kv l)(hf:∀id,HN kv=some id->h'[id]?=h[id]?):Kv h' kv l:=by
 rcases hk with⟨rfl,rfl⟩|⟨id,cs,rfl,hc⟩
 .exact .inl ⟨rfl,rfl⟩
 .exact .inr ⟨id,cs,rfl,by rw[hf id rfl];exact hc⟩
def YE.Dn{f:Int->Int}(hk:YE h m f)(hf:∀id,m=some id->h'[id]?=h[id]?):YE h' m f:=by
 rcases hk with h1|⟨id,l,rfl,hc,h2⟩
 .exact .inl h1
 .exact .inr ⟨id,l,rfl,by rw[hf id rfl];exact hc,h2⟩
def LB{p:PN}{id:Nat}(hp:p∈ps)(hk:HN p.kv=some id):id∈Gn a n m ps:=by unfold Gn;simp only[AX,Ax];exact .inr (.inr (.inr (Ch.2 ⟨p,hp,hk⟩)))
def PA.Dn(w:PA h a n m ps A)(hf:∀i∈Gn a n m ps,h'[i]?=h[i]?):PA h' a n m ps A:=
 ⟨w.e,w.il,by rw[hf a (by simp[Gn])];exact w.ha,by rw[hf n (by simp[Gn])];exact w.hn,λp hp=>(w.ks p hp).Dn λid hk=>hf id (LB hp hk),w.nd,w.mp.Dn λid hm=>hf id (by simp[Gn,hm])⟩
def PA.lt(w:PA h a n m ps A):∀i∈Gn a n m ps,i<h.length:=by
 intro i hi;unfold Gn at hi;simp only[AX,Ax,Ch] at hi;rcases hi with rfl|rfl|hi|⟨p,hp,hk⟩
 .exact(Al.1 w.ha).1
 .exact(Al.1 w.hn).1
 .rcases w.mp with⟨rfl,_⟩|⟨id,l,rfl,hc,_⟩
  .simp at hi
  .simp at hi;subst hi;exact(Al.1 hc).1
 .rcases w.ks p hp with⟨e,_⟩|⟨id,cs,e,hc⟩
  .rw[e] at hk;cases hk
  .rw[e] at hk;cases hk;exact(Al.1 hc).1
def PW.Dn(w:PW h F a A)(hf:∀i,F i->h'[i]?=h[i]?):PW h' F a A:=by obtain⟨n,m,ps,w,e⟩:=w;exact⟨n,m,ps,w.Dn λi hi=>hf i ((e i).2 hi),e⟩
def PW.lt(w:PW h F a A){i:Nat}(hi:F i):i<h.length:=by obtain⟨n,m,ps,w,e⟩:=w;exact w.lt i ((e i).1 hi)
def PA.xg(w:PA h a n m ps A):A.n.length=ps.length:=by rw[w.e,Aj]
def PA.at(w:PA h a n m ps A)(hx:A.has x):x.toNat-1<ps.length/\((x.toNat-1:Nat):Int)=x-1:=by have:=w.xg;unfold Ar.has at hx;omega
def PA.pn(w:PA h a n m ps A)(hx:A.has x):ps[x.toNat-1]?=some (pN ps x)/\(pN ps x).x=A.nd x/\pN ps x∈ps:=by
 have h1:=(w.at hx).1;have h2:ps[x.toNat-1]?=some ps[x.toNat-1]:=Ak h1;have b:pN ps x=ps[x.toNat-1]:=by unfold pN;rw[AJ,h2];rfl
 refine⟨by rw[b];exact h2,?_,by rw[b];exact AN _⟩;unfold Ar.nd;rw[Af hx,w.e,b,AJ,Ck,h2];rfl
def LC{AD:List (List Aa)}{z i k:Nat}(hr:∀r∈AD,r.length=z)(hk:k<z){r:List Aa}(hi:AD[i]?=some r):AD.flatten[i*z+k]?=r[k]?:=by
 have h1:(AD.flatten.drop (i*z))[k]?=r[k]?:=by rw[I1 hr];obtain⟨hlt,e⟩:=Al.1 hi;rw[AG hlt,e,CK,Ai (by rw[hr r (e▸AN hlt)];exact hk)]
 rwa [Cr] at h1
def o9(l:List PN):∀r∈l.map PN.row,r.length=13:=Kq (f:=PN.row) (λ_=>PN.CP) l
def nP(n:Nat)(x:Int):Nat:=(x.toNat-1)*13
def PA.PM(w:PA h a n m ps A)(hx:A.has x){k:Nat}(hk:k<13):A7 h none (Pt n (nP n x+k))=(pN ps x).row[k]?:=by unfold nP;simp only[A7,w.hn,Ex];exact LC (o9 ps) hk (by rw[Ck,(w.pn hx).1];rfl)
def VJ(w:PA h a n m ps A):BK cx 54 [Pt a 0,I x] h (.bool (decide (A.has x))) h:=by
 have d:A7 h none (Pt a 0)=some (.Cs n 0 ps.length 13):=by simp only[A7,w.ha];rfl
 have c:AB (.len false) [.Cs n 0 ps.length 13]=some (I (ps.length:Int)):=rfl;rw[Ae,uC];simp only[abS,d,c];have hl:=w.xg;have b:A.has x↔1<=x/\x<=(ps.length:Int):=by unfold Ar.has;rw[hl]
 refine⟨λh1=>?_,λh1=>?_⟩;.congr 2;rw[Db,b];exact⟨λh=>⟨h1,h⟩,λh=>h.2⟩
 .rw[Aq (λh=>h1 (b.1 h).1)]
def PA.nodes(w:PA h a n m ps A):A7 h none (Pt a 0)=some (.Cs n 0 ps.length 13):=by simp only[A7,w.ha];rfl
def PA.len(w:PA h a n m ps A):((ps.length:Nat):Int)=A.len:=by unfold Ar.len;rw[w.xg]
def aAX(w:PA h a n m ps A){l:List Int}{v:Aa}(hv:DV l v)(hb:l.length<=1000):BK cx 236 [Pt a 0,v] h (I (if∀x∈l,A.has x then 0 else 3)) h:=by
 have hv:AV 1 (l.map BH) v:=hv;rw[Ae,iD];simp only[abS,hv.CN];refine Bl (λk:Nat=>[I 0,I (k:Int)]) (λk h1=>k<=l.length/\(∀x∈l.take k,A.has x)/\h1=h) (λk=>l.length-k) 0 rfl ⟨AZ _,AH,rfl⟩ ?_;rintro k h1 ⟨hk,ha,rfl⟩;rcases AQ k l.length with hlt|Ei
 .have i1:(k:Int)<(l.length:Int):=by omega
  have c:A7 h1 none (.CJ (BH l[k]))=some (I l[k]):=rfl;simp only[BF,lN,i1,hv.BM hlt,c,(VJ (x:=l[k]) w).Ac,BO (Ab:k<9223372036854775807)];rw[CT];refine⟨λh2=>?_,λh2=>?_⟩
  .have h2:¬A.has l[k]:=by simpa using h2
   rw[Ad (λb=>h2 (b _ (AN hlt)))]
  .have h2:A.has l[k]:=by simpa using h2
   refine AL.next (k+1) rfl ⟨hlt,?_,rfl⟩ Ab;intro x hx;rw[AE hlt,Ax,Dt] at hx;rcases hx with hx|rfl
   .exact ha x hx
   .exact h2
 .have i1:¬(k:Int)<(l.length:Int):=by omega
  rw[AF Ei] at ha;simp only[abS,i1,Af ha]
def T5(w:PA h a n m ps A):BK cx 236 [Pt a 0,.sl 1 [[I x]]] h (I (if A.has x then 0 else 3)) h:=by have:=aAX w (l:=[x]) (v:= .sl 1 [[I x]]) .mk AH;simpa using this
def LR{y:Int}(w:PA h a n m ps A):BK cx 236 [Pt a 0,.sl 1 [[I x],[I y]]] h (I (if A.has x/\A.has y then 0 else 3)) h:=by have:=aAX w (l:=[x,y]) (v:= .sl 1 [[I x],[I y]]) .mk AH;simpa using this
def HB{x:Int}:AB (.C8 1) [I x]=some (.sl 1 [[I x]]):=rfl
def FN{x y:Int}:AB (.C8 1) [I x,I y]=some (.sl 1 [[I x],[I y]]):=rfl
def Nw.of(b:Nw A)(hx:A.has x):1<=x/\x<=1000000000:=by have:=b.n;unfold Ar.has at hx;omega
def I9(w:PA h a n m ps A)(b:Nw A)(hx:A.has x):BK cx 153 [Pt a 0,I x] h (Pt n (nP n x)) h:=by
 have hr:=b.of hx;have d:=(w.at hx).2;have c:AB (.Fu 13) [.Cs n 0 ps.length 13,I (x-1)]=some (Pt n (nP n x)):=by rw[<-d];exact E0 (w.at hx).1
 rw[Ae,Wi];simp only[abS,w.nodes,C3 (Ab: -9223372036854775808<=x-1) (Ab:x-1<9223372036854775808),c]
def PA.f0(w:PA h a n m ps A)(hx:A.has x):A7 h none (Pt n (nP n x))=some (I (A.nd x).kind):=by have:=w.PM hx (k:=0) AU;rw[<-(w.pn hx).2.1];exact this
def PA.f1(w:PA h a n m ps A)(hx:A.has x):A7 h none (Pt n (nP n x+1))=some (I (A.nd x).FQ):=by have:=w.PM hx (k:=1) AU;rw[<-(w.pn hx).2.1];exact this
def PA.f2(w:PA h a n m ps A)(hx:A.has x):A7 h none (Pt n (nP n x+2))=some (pN ps x).kv:=by have:=w.PM hx (k:=2) AU;exact this
def PA.f4(w:PA h a n m ps A)(hx:A.has x):A7 h none (Pt n (nP n x+4))=some (I (A.nd x).Bc):=by have:=w.PM hx (k:=4) AU;rw[<-(w.pn hx).2.1];exact this
def PA.f5(w:PA h a n m ps A)(hx:A.has x):A7 h none (Pt n (nP n x+5))=some (.str (A.nd x).name):=by have:=w.PM hx (k:=5) AU;rw[<-(w.pn hx).2.1];exact this
def PA.f6(w:PA h a n m ps A)(hx:A.has x):A7 h none (Pt n (nP n x+6))=some (pN ps x).av:=by have:=w.PM hx (k:=6) AU;exact this
def PA.M4(w:PA h a n m ps A)(hx:A.has x):Kv h (pN ps x).kv (A.nd x).Bb:=by rw[<-(w.pn hx).2.1];exact w.ks _ (w.pn hx).2.2
def PA.xh(w:PA h a n m ps A)(hx:A.has x):(pN ps x).av=VI (A.nd x).Az:=by rw[<-(w.pn hx).2.1];exact(pN ps x).ok
def PA.row(w:PA h a n m ps A)(hx:A.has x):A7 h (some 13) (Pt n (nP n x))=some (.agg (pN ps x).row):=by
 have h1:((ps.map PN.row).flatten.drop (nP n x)).take 13=(pN ps x).row/\nP n x+13<=(ps.map PN.row).flatten.length:=by unfold nP;have hlt:=(w.at hx).1;have hg:=(w.pn hx).1;rw[I1 (o9 ps),FV (o9 ps),Aj];refine⟨?_,Ab⟩;rw[<-JJ,AG hlt,Bk,CK];rw[Ak hlt,BD] at hg;rw[hg];exact HQ PN.CP
 simp only[A7,w.hn,M6];rw[Af h1.2,h1.1]
def No:∀{l:List Int} {cs ZA:List Aa},Cw (ZA++(l.map (Aa.int .i64)++cs)) 1 ZA.length l.length=l.map BH
 |[],_,_=>rfl
 |x::l,cs,ZA=>by have:=No (l:=l) (cs:=cs) (ZA:=ZA++[I x]);simp only[AI,Av,A9] at this;simp only[Bk,Bf,Cw,CO];rw[JD rfl];simp only[CO,BU] at this;rw[this];rfl
def Kv.AD{kv:Aa}{l:List Int}(hk:Kv h kv l):Gp h 1 kv=some (l.map BH):=by
 rcases hk with⟨rfl,rfl⟩|⟨id,cs,rfl,hc⟩
 .rfl
 .have:=No (l:=l) (cs:=cs) (ZA:=[]);simp only[BU,BT] at this;simp only[Gp,BI,hc,this];rw[Af AH]
def Kv.len{kv:Aa}{l:List Int}(hk:Kv h kv l):AB (.len false) [kv]=some (I (l.length:Int)):=by rcases hk with⟨rfl,rfl⟩|⟨id,cs,rfl,hc⟩<;>rfl
def aAY{kv:Aa}{l:List Int}(hk:Kv h kv l)(hb:l.length<=1000000000):∃v,BK cx 387 [kv] h v h/\DV l v:=by
 have hr:=hk.AD;rcases hk with⟨rfl,rfl⟩|⟨id,cs,rfl,hc⟩
 .exact⟨.slnil,by rw[Ae,Wz,aDp];simp only[BF,show AB (.Gd false .sl) [.slnil,.slnil]=some (.bool true) from rfl],.inr ⟨rfl,rfl⟩⟩
 .refine⟨.sl 1 (l.map BH),?_,.mk⟩;have b:QS h 1 8 (.sl 1 []) (.Cs id 0 l.length 1)=some (.sl 1 (l.map BH)):=by
   unfold QS;rw[hr,Cm];cases l with
   |nil=>rfl
   |cons x l=>
    have:(x::l).length*8<=AS:=by have:AS=140737488355328:=rfl;omega
    simp only[Bk,DN,Bf,Aj,BT] at this⊢;rw[Af ⟨trivial,by simpa using this⟩];rfl
  rw[Ae,Wz,aDp];simp only[BF,show AB (.Gd false .sl) [.Cs id 0 l.length 1,.slnil]=some (.bool false) from rfl,show AB (.C8 1) []=some (.sl 1 []) from rfl,b]
def Ja(h:Ah)(v:Aa)(l:List A6):Prop:=(v= .slnil/\l=[])\/∃id,v= .Cs id 0 l.length 3/\h[id]?=some (.cells (l.map A6.row).flatten)/\id<h.length
def Ja.Ib{v:Aa}{l:List A6}{t:Ah}(hv:Ja h v l):Ja (h++t) v l:=by
 rcases hv with h1|⟨id,e,hc,hl⟩
 .exact .inl h1
 .exact .inr ⟨id,e,by rw[Ai hl];exact hc,by rw[Av];omega⟩
def Ja.cells{v:Aa}{l:List A6}(hv:Ja h v l):v.cells=[v]:=by rcases hv with⟨rfl,_⟩|⟨id,rfl,_,_⟩<;>rfl
structure M9(h:Ah)(v:Aa)(l:List A6):Prop where
 len:AB (.len false) [v]=some (I (l.length:Int))
 at_:∀k (hk:k<l.length),∃p,AB (.Fu 3) [v,I (k:Int)]=some p/\A7 h (some 3) p=some (.agg l[k].row)
def YF{v:Aa}{l:List A6}(hv:Bq l v):M9 h v l:=⟨AV.CN hv,λk hk=>⟨_,AV.BM hv hk,rfl⟩⟩
def aDC(l:List A6):∀r∈l.map A6.row,r.length=3:=Kq (f:=A6.row) (λ_=>rfl) l
def Ja.in_{v:Aa}{l:List A6}(hv:Ja h v l):M9 h v l:=by
 rcases hv with⟨rfl,rfl⟩|⟨id,rfl,hc,_⟩
 .exact⟨rfl,λk hk=>by simp at hk⟩
 .refine⟨rfl,λk hk=>⟨Pt id (k*3),E0 hk,?_⟩⟩;simp only[A7,hc,M6];rw[Af (by rw[FV (aDC l),Aj];omega),I1 (aDC l),<-JJ,AG hk,Bk,CK];rfl
def Up(N:Nat)(v:Aa):Prop:=∀id k,v= .Cs id 0 k 3->N<=id
def xi{v:Aa}{l:List A6}(hv:v=VI l)(hb:l.length<=1000000000):∃u t,BK cx 100147 [v] h u (h++t)/\Ja (h++t) u l/\Up h.length u:=by
 cases l with
 |nil=>refine⟨.slnil,[],?_,.inl ⟨rfl,rfl⟩,λ_ _ e=>nomatch e⟩;rw[By,Ae,OH,hv];simp only[BF,VI,show AB (.Gd false .sl) [.slnil,.slnil]=some (.bool true) from rfl]
 |cons x l=>have e:=Lv (h:=h) (s:= .sl 3 []) (z:=3) (b:=40) (.inr rfl) (AV.mk (z:=3) (AD:=(x::l).map A6.row)) AH (by rw[Aj];have:AS=140737488355328:=rfl;omega);rw[Aj] at e;refine⟨.Cs h.length 0 (x::l).length 3,[.cells ((x::l).map A6.row).flatten],?_,.inr ⟨h.length,rfl,AH,AH⟩,λ_ _ e=>by injection e with e;omega⟩;rw[Ae,OH,hv];simp only[BF,VI,show AB (.Gd false .sl) [.sl 3 ((x::l).map A6.row),.slnil]=some (.bool false) from rfl,show AB (.C8 3) []=some (.sl 3 []) from rfl,e]
def VK(h:Ah)(N:Nat)(x:EU)(r:List Aa):Prop:=∃K V,r=[I x.kind,I x.FQ,K,I x.CQ,I x.Bc,.str x.name,V,.str x.data,.str x.nj,.str x.sys,.bool x.CH,I x.cont,I x.En]/\DV x.Bb K/\Ja h V x.Az/\Up N V
def VK.Ib{x:EU}{r:List Aa}{t:Ah}{N:Nat}(hr:VK h N x r):VK (h++t) N x r:=let⟨K,V,e,h1,h2,b⟩:=hr;⟨K,V,e,h1,h2.Ib,b⟩
def aAZ(w:PA h a n m ps A)(e:Nw A)(hx:A.has x)(Œ:(A.nd x).Bb.length<=1000000000):∃r t,BK cx 296 [Pt n (nP n x)] h (.agg r) (h++t)/\VK (h++t) h.length (A.nd x) r:=by obtain⟨K,d,c⟩:=aAY (w.M4 hx) Œ;obtain⟨V,t,r2,b,f⟩:=xi (h:=h) (w.xh hx) (e.at_ x);refine⟨_,t,?_,K,V,rfl,c,b,f⟩;have hc:K.cells=[K]:=AV.cells c;have e0:=w.row hx;have g:(pN ps x).row=_:=rfl;have ex:=(w.pn hx).2.1;rw[Ae,iF];rw[PN.row,ex] at e0;simp only[abS,e0,w.f2 hx,w.f6 hx,d.Ac,BN,r2.Ac,hc,b.cells]
def aG6(w:PA h a n m ps A)(b:Nw A)(Œ:(A.nd x).Bb.length<=1000000000):∃r t,BK cx 163 [Pt a 0,I x] h (.tuple [.agg r,I (if A.has x then 0 else 3)]) (h++t)/\VK (h++t) h.length (A.nd x) r:=by
 by_cases hx:A.has x;.obtain⟨r,t,c,hr⟩:=aAZ w b hx Œ;have F9:=hr;obtain⟨K,V,rfl,_⟩:=hr;refine⟨_,t,?_,F9⟩;rw[Ae,Wk];simp only[abS,↓reduceIte,AT,HB,(T5 (x:=x) w).Ac,Af hx,B2,CB,(I9 w b hx).Ac,c.Ac]
 .refine⟨_,[],?_,.slnil,.slnil,by rw[HI hx],by rw[HI hx];exact .inr ⟨rfl,rfl⟩,by rw[HI hx];exact .inl ⟨rfl,rfl⟩,λ_ _ e=>nomatch e⟩;rw[Ae,Wk,By];simp only[abS,↓reduceIte,AT,HB,(T5 (x:=x) w).Ac,Ad hx,B2,(AU:¬(3:Int)=0),Dx]
def aA0(w:PA h a n m ps A)(c:Nw A)(Œ:(A.nd x).Bb.length<=1000000000):∃v,BK cx 306 [Pt a 0,I x] h v h/\DV (A.nd x).Bb v:=by
 by_cases hx:A.has x;.obtain⟨K,b,d⟩:=aAY (w.M4 hx) Œ;refine⟨K,?_,d⟩;rw[Ae,Ww];simp only[abS,(VJ (x:=x) w).Ac,As hx,(I9 w c hx).Ac,w.f2 hx,b.Ac]
 .refine⟨.slnil,?_,by rw[HI hx];exact .inr ⟨rfl,rfl⟩⟩;rw[Ae,Ww];simp only[abS,(VJ (x:=x) w).Ac,Aq hx]
def aG7(w:PA h a n m ps A)(b:Nw A):BK cx 402 [Pt a 0,I x] h (I (A.nd x).FQ) h:=by
 by_cases hx:A.has x;.rw[Ae,WA];simp only[abS,(VJ (x:=x) w).Ac,As hx,(I9 w b hx).Ac,w.f1 hx]
 .rw[Ae,WA,HI hx];simp only[abS,(VJ (x:=x) w).Ac,Aq hx]
def aMo(w:PA h a n m ps A):BK cx 148 [Pt a 0] h (I A.len) h:=by have b:AB (.len false) [.Cs n 0 ps.length 13]=some (I (ps.length:Int)):=rfl;rw[Ae,Ċ];simp only[abS,w.nodes,b,w.len]
def xj(w:PA h a n m ps A)(b:Nw A):BK cx 234 [Pt a 0,I x] h (I (if A.has x then(if(A.nd x).kind=1 then 0 else 9) else 3)) h:=by
 rw[Ae,iB];by_cases hx:A.has x
 .simp only[abS,HB,(T5 (x:=x) w).Ac,Af hx,B2,CB,(I9 w b hx).Ac,w.f0 hx];by_cases hk:(A.nd x).kind=1;.simp only[hk,abS,CB]
  .simp only[hk,abS]
 .simp only[abS,HB,(T5 (x:=x) w).Ac,Ad hx,B2,(AU:¬(3:Int)=0)]
def xk{l:List PN}:(l.map PN.row).flatten.length=l.length*13:=by rw[FV (o9 l),Aj]
def pA{p:PN}{n':Nat}(hk:HN p.kv=none):Gn a n' m (ps++[p])=a::n'::(m.toList++ps.filterMap λp=>HN p.kv):=by unfold Gn;rw[EM];simp[hk]
def xl{x:EU}(hl:A.i.length=A.n.length):(A.add x).inr=A.inr:=by funext k;exact Wb hl
def œ(w:PA h a n m ps A)(hb:ps.length+1<=1000000000)(p:PN)(hk:p.kv= .slnil)(Î:p.x.Bb=[]):
  ∃h',BK cx 158 [Pt a 0,.agg p.row] h (I (A.len+1)) h'/\PA h' a h.length m (ps++[p]) (A.add p.x)/\(∀i,i<h.length->i≠a->i≠n->h'[i]?=h[i]?)/\h'.length=h.length+1:=by
 have VX:a<h.length:=w.lt a (by simp[Gn]);have OV:n<h.length:=w.lt n (by simp[Gn]);have Ŕ:a≠n:=by have:=w.nd;simp[Gn] at this;exact this.1.1
 have d:=IF (h:=h) (id:=n) (AD:=ps.map PN.row) (r2:=[p.row]) (v:= .sl 13 [p.row]) (b:=168) (o9 ps) AU w.hn .mk AH (by rw[Aj];have:AS=140737488355328:=rfl;simp;omega);rw[Aj] at d;simp only[A9] at d;have O8:(h.set n .CF++[Du.cells (ps.map PN.row++[p.row]).flatten])[a]?=some (.cells [.Cs n 0 ps.length 13,.map m]):=by rw[Ai (by simpa using VX),Ap (DJ Ŕ)];exact w.ha
 have es:Co (h.set n .CF++[Du.cells (ps.map PN.row++[p.row]).flatten]) 1 (Pt a 0) (.Cs h.length 0 (ps.length+1) 13)=some ((h.set n .CF++[Du.cells (ps.map PN.row++[p.row]).flatten]).set a (.cells [.Cs h.length 0 (ps.length+1) 13,.map m])):=by simp only[Co,O8];rfl
 have k:A7 ((h.set n .CF++[Du.cells (ps.map PN.row++[p.row]).flatten]).set a (.cells [.Cs h.length 0 (ps.length+1) 13,.map m])) none (Pt a 0)=some (.Cs h.length 0 (ps.length+1) 13):=by simp only[A7];rw[AO D9];rfl
 have l:AB (.len false) [.Cs h.length 0 (ps.length+1) 13]=some (I ((ps.length+1:Nat):Int)):=rfl;have em:AB (.C8 13) [.agg p.row]=some (.sl 13 [p.row]):=Ms (a:= .agg p.row) rfl AU;refine⟨(h.set n .CF++[Du.cells (ps.map PN.row++[p.row]).flatten]).set a (.cells [.Cs h.length 0 (ps.length+1) 13,.map m]),?_,?_,?_,?_⟩;rotate_left
 .refine⟨by simp[Ar.add,w.e],by simp[Ar.add,w.il],?_,?_,?_,?_,?_⟩;.rw[AO D9];simp
  .rw[Ap Ab,Bd AH];simp
  .intro q hq;rcases Ax.1 hq with hq|hq
   .refine(w.ks q hq).Dn λid Ih=>?_;have h1:id∈Gn a n m ps:=LB hq Ih;have h2:=w.lt id h1;have c:=w.nd;have j:id∈m.toList++ps.filterMap λp=>HN p.kv:=Ax.2 (.inr (Ch.2 ⟨q,hq,Ih⟩));unfold Gn at c;simp only[B6,AX,Ns] at c;have g:a≠id:=λe=>c.1.2 (e▸j);have f:n≠id:=λe=>c.2.1 (e▸j);rw[Ap g,Ai (by simpa using h2),Ap f]
   .simp at hq;subst hq;exact .inl ⟨hk,Î⟩
  .rw[pA (by rw[hk];rfl)];have c:=w.nd;unfold Gn at c;simp only[B6,AX,Ns] at c⊢;refine⟨⟨Ab,c.1.2⟩,λhm=>?_,c.2.2⟩;have:=w.lt h.length (by unfold Gn;simp only[AX];exact .inr (.inr hm));omega
  .rw[xl w.il];refine w.mp.Dn λid Ih=>?_;have h1:id∈m.toList++ps.filterMap λp=>HN p.kv:=by simp[Ih]
   have h2:=w.lt id (by unfold Gn;simp only[AX];exact .inr (.inr h1));have c:=w.nd;unfold Gn at c;simp only[B6,AX,Ns] at c;have g:a≠id:=λe=>c.1.2 (e▸h1);have f:n≠id:=λe=>c.2.1 (e▸h1);rw[Ap g,Ai (by simpa using h2),Ap f]
 .intro i hi h1 h2;rw[Ap (DJ h1),Ai (by simpa using hi),Ap (DJ h2)]
 .simp
 .have hl:A.len+1=((ps.length+1:Nat):Int):=by rw[<-w.len];rfl
  rw[PN.row] at em d es k;rw[Ae,Wj,hl,PN.row];simp only[abS,Nat.reduceLeDiff,↓reduceIte,AT,w.nodes,em,d,es,k,l]
def N0{AD:List (List Aa)}{z i k:Nat}(hr:∀r∈AD,r.length=z)(hi:i<AD.length)(hk:k<z){v:Aa}:AD.flatten.take (i*z+k)++[v]++AD.flatten.drop (i*z+k+1)=(AD.set i (AD[i].set k v)).flatten:=by
 have hl:=hr _ (AN hi);rw[<-nN hr hi];have b:AD.flatten.drop (i*z)=AD[i]++AD.flatten.drop (i*z+z):=by
  have e:i*z+z=(i+1)*z:=by rw[BJ,Ea]
  rw[e,I1 hr,I1 hr,AG hi,CK]
 have d:AD.flatten.take (i*z+k)=AD.flatten.take (i*z)++AD[i].take k:=by rw[aAb,b,CI Ab]
 have c:AD.flatten.drop (i*z+k+1)=AD[i].drop (k+1)++AD.flatten.drop (i*z+z):=by rw[RP,<-El,b,Ji Ab]
 rw[d,c,BQ,Af Ab];simp
def PA.sto(w:PA h a n m ps A)(hx:A.has x){k:Nat}(hk:k<13){v:Aa}(hv:v.cells=[v]){p:PN}(hp:p.row=(pN ps x).row.set k v){h1:Ah}(hn:h1[n]?=h[n]?):
  Co h1 1 (Pt n (nP n x+k)) v=some (h1.set n (.cells ((ps.set (x.toNat-1) p).map PN.row).flatten)):=by
 have hlt:=(w.at hx).1;have hg:=(w.pn hx).1;rw[Ak hlt,BD] at hg;have e:=N0 (AD:=ps.map PN.row) (i:=x.toNat-1) (k:=k) (v:=v) (o9 ps) (by simpa using hlt) hk;rw[CZ,hg,<-hp,<-Ep] at e;unfold nP;simp only[Co,hn,w.hn,hv,A9,ML];rw[Af (by rw[FV (o9 ps),Aj];omega),e]
def YG(w:PA h a n m ps A)(hx:A.has x)(p:PN):ps=ps.take (x.toNat-1)++pN ps x::ps.drop (x.toNat-1+1)/\ps.set (x.toNat-1) p=ps.take (x.toNat-1)++p::ps.drop (x.toNat-1+1):=by have hlt:=(w.at hx).1;have hg:=(w.pn hx).1;rw[Ak hlt,BD] at hg;refine⟨?_,by rw[BQ,Af hlt]⟩;conv=>lhs;rw[<-CD (x.toNat-1) ps,AG hlt,hg]
def xm{y:EU}:(A.set x y).inr=A.inr:=by funext k;exact SJ
def PA.my(w:PA h a n m ps A)(hx:A.has x){p:PN}{h1:Ah}(ho:∀i∈Gn a n m ps,HN (pN ps x).kv≠some i->h1[i]?=h[i]?)(hk:Kv h1 p.kv p.x.Bb)
  (hi:HN p.kv=HN (pN ps x).kv\/∀j,HN p.kv=some j->h.length<=j):PA (h1.set n (.cells ((ps.set (x.toNat-1) p).map PN.row).flatten)) a n m (ps.set (x.toNat-1) p) (A.set x p.x):=by
 have hlt:=(w.at hx).1;have ŕ:=(w.pn hx).2.2;obtain⟨z,B⟩:=YG w hx p;have nd:=w.nd;have g:∀j,HN (pN ps x).kv=some j->j∈m.toList++ps.filterMap λp=>HN p.kv:=λj hj=>Ax.2 (.inr (Ch.2 ⟨_,ŕ,hj⟩));have kD:=nd;unfold Gn at kD;simp only[B6,AX,Ns] at kD;have Ŕ:a≠n:=kD.1.1;have l:HN (pN ps x).kv≠some a:=λe=>kD.1.2 (g a e);have f:HN (pN ps x).kv≠some n:=λe=>kD.2.1 (g n e);have OV:n<h.length:=w.lt n (by simp[Gn]);have v:h1[n]?=h[n]?:=ho n (by simp[Gn]) f;have y:n<h1.length:=by have:=w.hn;rw[<-v] at this;exact(Al.1 this).1
 have s:∀j,HN p.kv=some j->j≠n/\j≠a:=by
  intro j hj;rcases hi with hi|hi
  .rw[hi] at hj;exact⟨λe=>f (e▸hj),λe=>l (e▸hj)⟩
  .have:=hi j hj;have:=w.lt a (by simp[Gn]);omega
 refine⟨?_,?_,?_,?_,?_,?_,?_⟩;.simp only[Ar.set,Af hx];rw[w.e,Ep]
 .rw[Jw];exact w.il
 .rw[Ap (DJ Ŕ),ho a (by simp[Gn]) l,Bp];exact w.ha
 .rw[AO y]
 .intro q hq;by_cases c:q=p;.rw[c];exact hk.Dn λid Ih=>by rw[Ap (DJ (s id Ih).1)]
  .rw[B] at hq;have d:q∈ps.take (x.toNat-1)++ps.drop (x.toNat-1+1):=by
    rcases Ax.1 hq with b|b
    .exact Ax.2 (.inl b)
    .exact Ax.2 (.inr ((AX.1 b).resolve_left c))
   have th:q∈ps:=by
    rcases Ax.1 d with b|b
    .exact Bn b
    .exact Bw b
   refine(w.ks q th).Dn λj hj=>?_;have o:j∈Gn a n m ps:=LB th hj;have u:j≠n:=λe=>kD.2.1 (e▸Ax.2 (.inr (Ch.2 ⟨q,th,hj⟩)));have U8:HN (pN ps x).kv≠some j:=by
    intro t;have r:=(B3.1 kD.2.2).2.1;rw[z,EM,Iw,t] at r;simp only[B3,B6,AX,Ch] at r;rcases Ax.1 d with b|b
    .exact r.2.2 j ⟨q,b,hj⟩ j (.inl rfl) rfl
    .exact r.2.1.1 ⟨q,b,hj⟩
   rw[Ap (DJ u),ho j o U8]
 .have fr:∀j,HN p.kv=some j->HN (pN ps x).kv=some j\/j∉Gn a n m ps:=by
   intro j hj;rcases hi with hi|hi
   .exact .inl (hi▸hj)
   .exact .inr λhm=>by have:=hi j hj;have:=w.lt j hm;omega
  have h1:=nd;unfold Gn at h1 fr⊢;rw[z,EM,Iw] at h1;rw[z,EM,Iw] at fr;rw[B,EM,Iw];generalize List.filterMap (λp=>HN p.kv) (ps.take (x.toNat-1))=T at h1 fr⊢;generalize List.filterMap (λp=>HN p.kv) (ps.drop (x.toNat-1+1))=D at h1 fr⊢;cases hp:HN p.kv with
  |none=>
   cases ho:HN (pN ps x).kv with
   |none=>rw[ho] at h1;exact h1
   |some k=>rw[ho] at h1;refine h1.sublist ?_;simp
  |some j=>
   have:=fr j hp;cases ho:HN (pN ps x).kv with
   |none=>rw[ho] at h1 this;simp only[B6,B3,AX,Ax] at h1 this⊢;grind
   |some k=>rw[ho] at h1 this;simp only[B6,B3,AX,Ax] at h1 this⊢;grind
 .rw[xm];refine w.mp.Dn λid Ih=>?_;have o:id∈m.toList++ps.filterMap λp=>HN p.kv:=by simp[Ih]
  have u:n≠id:=λe=>kD.2.1 (e▸o);have U8:HN (pN ps x).kv≠some id:=by intro dY;exact(B3.1 kD.2.2).2.2 id (by simp[Ih]) id (Ch.2 ⟨_,ŕ,dY⟩) rfl
  rw[Ap u,ho id (by unfold Gn;simp only[AX];exact .inr (.inr o)) U8]
end
end Go.Am
end
