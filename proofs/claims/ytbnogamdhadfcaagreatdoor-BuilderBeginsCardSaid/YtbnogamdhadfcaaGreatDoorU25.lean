/- Lemmas -/
import Derived.Test.YtbnogamdhadfcaaGreatDoorU21
import Derived.Test.YtbnogamdhadfcaaGreatDoorU22
import Derived.Test.YtbnogamdhadfcaaGreatDoorU23
import Derived.Test.YtbnogamdhadfcaaGreatDoorU24
import Derived.Test.YtbnogamdhadfcaaGreatDoorU19
set_option linter.unusedVariables false
set_option linter.unusedSimpArgs false
section
set_option maxRecDepth 100000
namespace Go.Am
open Go
abbrev zN:=List Aa->Option IT
def p_(g:IT):zN:=λl=>match l with
 |[]=>some (g)
 |_=>none
def HQ(g:Aa->IT):zN:=λl=>match l with
 |[a0]=>some (g a0)
 |_=>none
def DA(g:Aa->Aa->IT):zN:=λl=>match l with
 |[a0,a1]=>some (g a0 a1)
 |_=>none
def Li(g:Aa->Aa->Aa->IT):zN:=λl=>match l with
 |[a0,a1,a2]=>some (g a0 a1 a2)
 |_=>none
def i5(g:Aa->Aa->Aa->Aa->IT):zN:=λl=>match l with
 |[a0,a1,a2,a3]=>some (g a0 a1 a2 a3)
 |_=>none
def aBO(g:Aa->Aa->Aa->Aa->Aa->IT):zN:=λl=>match l with
 |[a0,a1,a2,a3,a4]=>some (g a0 a1 a2 a3 a4)
 |_=>none
def Vz(f:Nat)(g:zN):Prop:=∀l t,g l=some t->t=B5 cx f l
theorem zO{f:Nat}{g:IT}(h:B5 cx f []=g):Vz f (p_ g):=by
 intro l t ht;unfold p_ at ht;split at ht;·cases ht;exact(h).symm
 .cases ht
theorem DM{f:Nat}{g:Aa->IT}(h:∀a0,B5 cx f [a0]=g a0):Vz f (HQ g):=by
 intro l t ht;unfold HQ at ht;split at ht;·cases ht;exact(h _).symm
 .cases ht
theorem B1{f:Nat}{g:Aa->Aa->IT}(h:∀a0 a1,B5 cx f [a0,a1]=g a0 a1):Vz f (DA g):=by
 intro l t ht;unfold DA at ht;split at ht;·cases ht;exact(h _ _).symm
 .cases ht
theorem Gp{f:Nat}{g:Aa->Aa->Aa->IT}(h:∀a0 a1 a2,B5 cx f [a0,a1,a2]=g a0 a1 a2):Vz f (Li g):=by
 intro l t ht;unfold Li at ht;split at ht;·cases ht;exact(h _ _ _).symm
 .cases ht
theorem VA{f:Nat}{g:Aa->Aa->Aa->Aa->IT}(h:∀a0 a1 a2 a3,B5 cx f [a0,a1,a2,a3]=g a0 a1 a2 a3):Vz f (i5 g):=by
 intro l t ht;unfold i5 at ht;split at ht;·cases ht;exact(h _ _ _ _).symm
 .cases ht
theorem aBP{f:Nat}{g:Aa->Aa->Aa->Aa->Aa->IT}(h:∀a0 a1 a2 a3 a4,B5 cx f [a0,a1,a2,a3,a4]=g a0 a1 a2 a3 a4):Vz f (aBO g):=by
 intro l t ht;unfold aBO at ht;split at ht;·cases ht;exact(h _ _ _ _ _).symm
 .cases ht
def vp:List (Nat×zN):=[(8,HQ t8),(12,p_ t12),(13,DA t13),(15,DA t15),(16,Li vn),(17,HQ t17),(22,DA t22),(24,HQ t24),(29,DA t29),(30,DA t30),(31,DA t31),(32,HQ t32),(33,DA t33),(35,DA t35),(42,DA t42),(43,DA t43),(44,Li t44),(45,DA t45),(46,i5 t46),(47,i5 t47),(48,DA t48),(49,Li t49),(50,DA t50),(51,HQ t51),(52,HQ t52),(53,HQ t53),(54,HQ t54),(58,Li t58),(63,DA t63),(68,HQ t68),(71,HQ t71),(74,HQ t74),(84,DA t84),(85,DA t85),(86,DA t86),(87,DA t87),(88,DA t88),(89,Li t89),(90,Li t90),(91,HQ t91),(92,DA t92),(93,DA vo),(94,DA t94),(106,DA aAy),(107,DA js),(108,DA aAz),(109,HQ t109),(110,aBO jt),(111,DA ju),(112,DA aAA),(113,DA jv),(114,DA aAB),(115,i5 YX),(116,Li aAC),(117,DA aAD),(118,DA zI),(119,HQ aAE),(120,DA aAF),(121,DA aAG),(122,Li aAH),(141,i5 ki),(143,DA aAO),(144,DA aAP),(145,HQ zK),(146,HQ t146),(147,DA kq),(148,DA t148),(151,DA aAQ),(153,Li aAR),(154,HQ aAS),(155,Li aAT),(156,HQ aAU),(158,DA aAV),(159,HQ k_),(160,HQ aAW),(161,HQ aAX),(167,DA aAY),(168,DA aAZ),(169,HQ aA0),(170,HQ aA1),(171,DA lp),(172,DA aA2),(173,Li aA3),(174,Li aA4),(175,DA aA5),(176,i5 aA6),(177,Li aA7),(178,DA lq),(179,Li aA8),(193,HQ aBd),(194,DA aBe),(195,DA zL),(196,DA aBf),(198,DA mb),(200,DA aBg),(201,HQ aBh),(202,DA aBi),(203,p_ aBj),(204,DA aBk),(229,Li aBm),(231,DA aBn),(232,HQ aBo),(233,DA aBp),(234,DA aBq),(235,DA aBr),(236,DA aBs),(239,DA aBt),(241,DA aBu),(242,DA aBv),(243,DA aBw),(244,DA nr),(245,Li aBx),(246,DA aBy),(247,Li nu),(248,Li nv),(249,DA aBz),(263,HQ aFB),(265,Li aBB),(268,HQ aBC),(285,HQ zM),(286,Li aBE),(287,DA aBF),(288,HQ aBG),(300,DA aFT),(304,DA aBH),(309,HQ aBI),(310,HQ aBJ),(311,DA aBK),(318,Li aBL),(100054,HQ T6)]
def zP:List (Nat×zN)->Prop
 |[]=>True
 |(f,g)::l=>Vz f g/\zP l
theorem zQ:zP vp:=
 ⟨DM yC,zO yD,B1 iP,B1 Vw,Gp Qb,DM yE,B1 yF,DM yG,B1 yH,B1 yI,B1 Vx,DM yJ,B1 iQ,B1 yK,B1 iR,B1 iS,Gp yL,B1 YR,VA iT,VA Vy,B1 yM,Gp yN,B1 yO,DM yP,DM yQ,DM iU,DM iV,Gp yR,B1 yU,DM YS,DM yW,DM yX,B1 yY,B1 iX,B1 yZ,B1 zA,B1 zB,Gp zC,Gp zD,DM zE,B1 zF,B1 Qc,B1 zG,B1 lZ,B1 YT,B1 l8,DM mA,aBP YU,B1 YV,B1 mB,B1 YW,B1 mC,VA LG,Gp mD,B1 mE,B1 T1,DM mF,B1 mG,B1 mH,Gp mI,VA YZ,B1 mQ,B1 mR,DM T3,DM mS,B1 Y0,B1 Y1,B1 mT,Gp mU,DM mV,Gp mW,DM mX,B1 mY,DM Y2,DM mZ,DM m6,B1 m7,B1 m8,DM m9,DM nA,B1 Y3,B1 nB,Gp nC,Gp nD,B1 nE,VA nF,Gp nG,B1 Y4,Gp nH,DM nM,B1 nN,B1 T4,B1 nO,B1 Y5,B1 nQ,DM nS,B1 nT,zO nU,B1 nV,Gp nX,B1 nY,DM nZ,B1 oA,B1 oB,B1 oC,B1 oD,B1 oE,B1 oF,B1 oG,B1 oH,B1 Y6,Gp oI,B1 oJ,Gp Y7,Gp Y8,B1 oK,DM ob,Gp oM,DM oN,DM T5,Gp oP,B1 oQ,DM oR,B1 pk,B1 oS,DM oT,DM oU,B1 oV,Gp oW,DM Qd,trivial⟩
def qa(f:Nat):List (Nat×zN)->List Aa->Option IT
 |[],_=>none
 |(k,g)::l,args=>if Nat.beq k f then g args else qa f l args
theorem oX{f:Nat}{args:List Aa}{t:IT}:∀{l:List (Nat×zN)},zP l->qa f l args=some t->t=B5 cx f args
 |[],_,h=>by cases h
 |(k,g)::l,ha,h=>by
  simp only[qa] at h;split at h;·rename_i hk;have hk:k=f:=Nat.eq_of_beq_eq_true hk;subst hk;exact ha.1 _ _ h
  .exact oX ha.2 h
noncomputable def tab(f:FuncId)(args:List Aa):IT:=match qa f vp args with
 |some t=>t
 |none=>B5 cx f args
theorem zR:tab=B5 cx:=by
 funext f args;unfold tab;split;·rename_i t h;exact oX zQ h
 .rfl
def VB:Option Jn->Bool
 |some (.ret,[.bool true],_)=>true
 |_=>false
theorem WL{r:Option Jn}(h:VB r=true):∃h',r=some (.ret,[.bool true],h'):=by
 unfold VB at h;split at h;·exact⟨_,rfl⟩
 .cases h
theorem sC{f:FuncId}{args:List Aa}{h:Ae}(n:Nat)(hr:VB (IT.run tab n (tab f args) h)=true):Ev cx f args h λr _=>r= .bool true:=by obtain⟨h',e⟩:=WL hr;rw[zR] at e;exact⟨n,_,_,_,e,rfl,_,rfl,rfl⟩
end Go.Am
end
section
namespace Go.Am
open Go
set_option maxRecDepth 100000
section
theorem aKB(s:As):JE cx 232 [.str s] (.bool (decide (s∈FB))):=by rw[LX,nZ];rw[show aBo (.str s)=sw s (.ret .ret [tt]) (.ret .ret [ff]) FB from rfl,xI];exact⟨λh=>by simp[h],λh=>by simp[h]⟩
section
variable{Q:Post}{h:Ae}{k:Aa->IT}{s:As}
@[simp] theorem zS:W cx (.Be 232 [.str s] k) Q h↔W cx (k (.bool (decide (s∈FB)))) Q h:=(aKB s).Be rfl rfl
end
theorem aKC(s:As):JE cx 238 [.str s] (.bool (decide (s∈IW\/s∈FB))):=by rw[LX,np];rw[show aFw (.str s)=sw s (.ret .ret [tt]) (.Be 232 [.str s] λv=> .ret .ret [v]) IW from rfl,xI];exact⟨λh=>by simp[h],λh=>by simp[h]⟩
theorem aKD(n:Int)(s:As):JE cx 200 [I n,.str s] (.bool (decide (n=3/\s∈JG))):=by
 rw[LX,nQ,aBg];by_cases h:n=3;·simp[h,JG];by_cases h1:s=[109,105]<;>by_cases h2:s=[109,110]<;>by_cases h3:s=[109,111]<;>by_cases h4:s=[109,115]<;>simp[h1,h2,h3,h4]
 .simp[h]
section
variable{Q:Post}{h:Ae}{k:Aa->IT}{s:As}{n:Int}
@[simp] theorem zT:W cx (.Be 238 [.str s] k) Q h↔W cx (k (.bool (decide (s∈IW\/s∈FB)))) Q h:=(aKC s).Be rfl rfl
@[simp] theorem aFY:W cx (.Be 200 [I n,.str s] k) Q h↔W cx (k (.bool (decide (n=3/\s∈JG)))) Q h:=(aKD n s).Be rfl rfl
end
theorem aFZ(n:Int)(s:As):JE cx 117 [I n,.str s] (.bool (DY n s)):=by
 rw[LX,mE];rw[show aAD (I n) (.str s)= .op (.int .eql) [I n,I 3] λv=> .AH v (.op (.str .eql) [.str s,S aSL] λv=> .AH v (.ret .ret [tt]) (.Be 200 [I n,.str s] λv=> .ret .ret [v]))
  (.op (.int .eql) [I n,I 2] λv=> .AH v (sw s (.ret .ret [tt]) (.op (.str .eql) [.str s,S aTf] λv=> .ret .ret [v]) [aTr,aSV])
  (.op (.int .eql) [I n,I 1] λv=> .AH v (sw s (.ret .ret [tt]) (.ret .ret [ff]) Mj) (.ret .ret [ff]))) from rfl]
 by_cases h3:n=3;·by_cases h:s=aSL<;>simp[h3,DY,h]
 .by_cases h2:n=2;·by_cases ha:s=aTr<;>by_cases hb:s=aSV<;>simp[h2,xI,DY,OH,ha,hb]
  .by_cases h1:n=1;·by_cases h:s∈Mj<;>simp[h1,xI,DY,h]
   .simp[h3,h2,h1,DY]
section
variable{Q:Post}{h:Ae}{k:Aa->IT}{s:As}{n:Int}
@[simp] theorem VC:W cx (.Be 117 [I n,.str s] k) Q h↔W cx (k (.bool (DY n s))) Q h:=(aFZ n s).Be rfl rfl
end
end
section
theorem f277(s:As)(c:UInt8)(hs:s.length<9223372036854775807):JE cx 259 [.str s,.int .u8 (c.toNat:Int)] (.bool (decide (c∈s))):=by
 rw[LX,ny,aFx];refine A9 (λn:Nat=>[.bool false,I (n:Int)]) (λn _=>n<=s.length/\c∉s.take n) (λn=>s.length-n) 0 rfl ⟨AO _,by simp⟩ ?_;rintro n h ⟨hn,hc⟩;rcases AT n s.length with hlt|D2
 .simp only[Az,LC hlt,BG (show n<9223372036854775807 by omega)];refine⟨λ_=>⟨λhe=>?_,λhe=>?_⟩,λh=>absurd (Int.ofNat_lt.2 hlt) h⟩
  .have e:s[n]=c:=by rw[<-UInt8.toNat_inj];exact Int.ofNat.inj he
   simp only[AD (show c∈s from e▸AJ hlt)]
  .refine AF.next (n+1) rfl ⟨hlt,?_⟩ (by omega);rw[Av hlt,Ao,not_or];refine⟨hc,λh=>he ?_⟩;rw[Fl] at h;rw[<-h]
 .simp only[Az];refine⟨λh=>absurd (Int.ofNat_lt.1 h) (by omega),λ_=>?_⟩;rw[Ay D2] at hc;simp[hc]
theorem aF0(l s:As)(hl:l.length<9223372036854775806)(hs:s.length<9223372036854775807):JE cx 188 [.str l,.str s] (.bool (FC l s)):=by
 rw[LX,ly,aE4];have aKE:JE cx 259 [.str s,.int .u8 32] (.bool (decide ((32:UInt8)∈s))):=f277 s 32 hs;simp only[Az,aKE.Be rfl rfl];refine⟨λh=>by simp[FC,h],λh0=>⟨λh=>by simp[FC,h],λh1=>?_⟩⟩;refine A9 (λp:Nat×Nat=>[.bool false,I (p.1:Int),I (p.2:Int)])
  (λp _=>(p.1<=p.2/\p.2<=l.length/\(s∈C4 [] l↔s∈C4 ((l.take p.2).drop p.1) (l.drop p.2)))\/(p.2=l.length+1/\s∉C4 [] l)) (λp=>l.length+1 -p.2) (0,0) rfl (.inl ⟨Ac _,AO _,by simp⟩) ?_
 rintro⟨a,n⟩ h aBQ;rcases aBQ with⟨Wj,hn,VD⟩|⟨hn,Tg⟩
 .simp only at Wj hn VD;have i1:(n:Int)<=(l.length:Int):=by omega
  rcases AT n l.length with hlt|D2
  .have i2:¬(n:Int)=(l.length:Int):=by omega
   simp only[Az,i1,i2,Ap,An,forall_const,Ag,LC hlt,BG (show n<9223372036854775807 by omega),MX Wj hn];rw[AG hlt,Oa] at VD;refine⟨λhe=>?_,λhe=>?_⟩
   .have e:l[n]=32:=by rw[<-UInt8.toNat_inj];exact Int.ofNat.inj he
    rw[if_pos e,AM] at VD;refine⟨λhw=>?_,λhw=>?_⟩;·have:s∈C4 [] l:=VD.2 (.inl hw.symm);simp[FC,h0,h1,this]
    .refine AF.next (n+1,n+1) rfl (.inl ⟨Ac _,hlt,?_⟩) (by simp only;omega);rw[VD,List.drop_take_self];exact⟨λh=>h.resolve_left (λh=>hw h.symm),.inr⟩
   .have e:¬l[n]=32:=λe=>he (by rw[e];rfl);rw[if_neg e] at VD;refine AF.next (a,n+1) rfl (.inl ⟨by simp only;omega,hlt,?_⟩) (by simp only;omega);rw[VD,bJ Wj hlt]
  .have e:n=l.length:=by omega
   subst e;simp only[Az,Fq,Ap,Ag,Ak,MX Wj hn,BG (show l.length<9223372036854775807 by omega)];rw[A3 (Ac _),Pp] at VD;rw[Fl] at VD;refine⟨λhw=>?_,λhw=>?_⟩;·have:s∈C4 [] l:=VD.2 hw.symm;simp[FC,h0,h1,this]
   .exact AF.next (l.length+1,l.length+1) rfl (.inr ⟨rfl,λh=>hw (VD.1 h).symm⟩) (by simp only;omega)
 .simp only at hn;subst hn;have i1:¬((l.length+1:Nat):Int)<=(l.length:Int):=by omega
  simp only[Az,i1,An,Ag,Ak];simp[FC,Tg]
end
section
theorem Iy{Q:Post}{h:Ae}{k:Aa->IT}{l s:As}(hl:l.length<9223372036854775806)(hs:s.length<9223372036854775807):W cx (.Be 188 [.str l,.str s] k) Q h↔W cx (k (.bool (FC l s))) Q h:=(aF0 l s hl hs).Be rfl rfl
section
variable{Q:Post}{h:Ae}{k:Aa->IT}{s:As}
theorem i6(hs:s.length<9223372036854775807):W cx (.Be 188 [.str aSE,.str s] k) Q h↔W cx (k (.bool (decide (s∈Mj)))) Q h:=by rw[Iy (by decide+kernel) hs,gN]
theorem Za(hs:s.length<9223372036854775807):W cx (.Be 188 [.str aSY,.str s] k) Q h↔W cx (k (.bool (decide (s∈JG)))) Q h:=by rw[Iy (by decide+kernel) hs,YA]
theorem S1(hs:s.length<9223372036854775807):W cx (.Be 188 [.str aSN,.str s] k) Q h↔W cx (k (.bool (decide (s∈OH)))) Q h:=by rw[Iy (by decide+kernel) hs,bK]
theorem VE(hs:s.length<9223372036854775807):W cx (.Be 188 [.str aSJ,.str s] k) Q h↔W cx (k (.bool (decide (s∈FB)))) Q h:=by rw[Iy (by decide+kernel) hs,gO]
theorem cM(hs:s.length<9223372036854775807):W cx (.Be 188 [.str aSK,.str s] k) Q h↔W cx (k (.bool (decide (s∈IW)))) Q h:=by rw[Iy (by decide+kernel) hs,bL]
theorem sD(hs:s.length<9223372036854775807):W cx (.Be 188 [.str aSU,.str s] k) Q h↔W cx (k (.bool (decide (s∈MY)))) Q h:=by rw[Iy (by decide+kernel) hs,rF]
theorem i7(hs:s.length<9223372036854775807):W cx (.Be 188 [.str aSZ,.str s] k) Q h↔W cx (k (.bool (decide (s∈La)))) Q h:=by rw[Iy (by decide+kernel) hs,gP]
theorem zU(hs:s.length<9223372036854775807):W cx (.Be 188 [.str aTt,.str s] k) Q h↔W cx (k (.bool (decide (s∈P3)))) Q h:=by rw[Iy (by decide+kernel) hs,xJ]
theorem sE(hs:s.length<9223372036854775807):W cx (.Be 188 [.str aSG,.str s] k) Q h↔W cx (k (.bool (decide (s∈OI)))) Q h:=by rw[Iy (by decide+kernel) hs,rG]
end
theorem aKF(s:As)(hs:s.length<9223372036854775807):JE cx 273 [.str s] (.bool (decide (s∈FB))):=by rw[LX,oj,aFG];simp only[Az,VE hs]
theorem aKG(s:As)(hs:s.length<9223372036854775807):JE cx 274 [.str s] (.bool (decide (s∈IW\/s∈FB))):=by rw[LX,om,aFH];simp only[Az,VE hs,cM hs];refine⟨λh=>by simp[h],λh=>by simp[h]⟩
theorem f169(n:Int)(s:As)(hs:s.length<9223372036854775807):JE cx 216 [I n,.str s] (.bool (DY n s)):=by rw[LX,mo,aFi];simp only[Az,Za hs,i6 hs,S1 hs,DY];refine⟨λh=>by simp[h],λh1=>⟨λh2=>⟨λh3=>by simp[h2,h3],λh3=>by simp[h2,h3]⟩,λh2=>⟨λh3=>by simp[h3],λh3=>by simp[h1,h2,h3]⟩⟩⟩
section
variable{Q:Post}{h:Ae}{k:Aa->IT}{s:As}{n:Int}
theorem zV(hs:s.length<9223372036854775807):W cx (.Be 273 [.str s] k) Q h↔W cx (k (.bool (decide (s∈FB)))) Q h:=(aKF s hs).Be rfl rfl
theorem zW(hs:s.length<9223372036854775807):W cx (.Be 274 [.str s] k) Q h↔W cx (k (.bool (decide (s∈IW\/s∈FB)))) Q h:=(aKG s hs).Be rfl rfl
theorem cN(hs:s.length<9223372036854775807):W cx (.Be 216 [I n,.str s] k) Q h↔W cx (k (.bool (DY n s))) Q h:=(f169 n s hs).Be rfl rfl
end
end
section
theorem aKH(c:UInt8):JE cx 260 [.int .u8 (c.toNat:Int)] (.bool (decide (65<=c.toNat/\c.toNat<=90))):=by
 rw[LX,nz,aFy];simp only[Az];refine⟨λh=>?_,λh=>?_⟩
 .have e:65<=c.toNat:=by omega
  have e2:((c.toNat:Int)<=90)=(c.toNat<=90):=by rw[eq_iff_iff];omega
  simp[e,e2]
 .have e:¬65<=c.toNat:=by omega
  simp[e]
theorem aBR(s:As)(hs:s.length<=AS):JE cx 189 [.str s] (.str (Ff s)):=by
 have TP:s.length<=140737488355328:=hs;rw[LX,lz,aE5];refine A9 (λp:Nat×Aa=>[p.2,I (p.1:Int)]) (λp _=>p.1<=s.length/\AL 1 (BZ (Ff (s.take p.1))) p.2) (λp=>s.length-p.1) (0,.slnil) rfl ⟨AO _,.nil⟩ ?_;rintro⟨n,v⟩ h ⟨hn,hv⟩;simp only at hn hv;rcases AT n s.length with hlt|D2
 .have i1:(n:Int)<(s.length:Int):=by omega
  have hb:((BZ (Ff (s.take n))).length+1)*1<=AS:=by rw[WH];simp[Ff,AS];omega
  simp only[Az,i1,Ap,Ak,Ag,LC hlt,(aKH _).Be rfl rfl,BG (show n<9223372036854775807 by omega)];refine⟨λhe=>?_,λhe=>?_⟩
  .simp only[Az,Yx,wrap_u8 (show 0<=((s[n].toNat:Int)+32)/\((s[n].toNat:Int)+32)<=255 by omega),K8 (a:= .int .u8 ((s[n].toNat:Int)+32)) (z:=1) rfl (by decide),hv.xF hb];refine AF.next (n+1,_) rfl ⟨hlt,?_⟩ (by simp only;omega);rw[P4 hlt,Po];have e:BZ [HY s[n]]=[[.int .u8 ((s[n].toNat:Int)+32)]]:=by simp[BZ,QS he]
   rw[e];exact .mk
  .simp only[Az,K8 (a:= .int .u8 (s[n].toNat:Int)) (z:=1) rfl (by decide),hv.xF hb];refine AF.next (n+1,_) rfl ⟨hlt,?_⟩ (by simp only;omega);rw[P4 hlt,Po,MZ he];exact .mk
 .have i1:¬(n:Int)<(s.length:Int):=by omega
  have e:s.take n=s:=Ay D2;rw[e] at hv;simp only[Az,i1,An,Ak,Ag,hv.KU,hv.S7]
theorem aKI(a b:Int)(h:Ae):BE cx 304 [.int .i32 a,.int .i32 b] h (.func (.func 318) [] [.CA [.int .i32 a],.CA [.int .i32 b]]) h:=by rw[Ab,oS,aBH];simp only[Az]
theorem aKJ(c a b:Int)(h:Ae):BE cx 318 [.int .i32 c,.CA [.int .i32 a],.CA [.int .i32 b]] h (.bool (decide (a<=c/\c<=b))) h:=by rw[Ab,oW,aBL];simp only[Az];refine⟨λh=>by simp[h],λh=>by simp[h]⟩
theorem aKK(c:Int):JE cx 268 [.int .i32 c] (.bool (decide (65<=c/\c<=90))):=by rw[LX,oN,aBC];simp only[Az,Nat.reduceLeDiff,↓reduceIte,(aKI _ _ _).call,Dt,(aKJ _ _ _ _).call]
theorem aBS(s:As)(hs:s.length<=AS):JE cx 201 [.str s] (.str (Ff s)):=by
 have TP:s.length<=140737488355328:=hs;rw[LX,nS,aBh];have e1:IL [] (.str s)=some ([.cells ((GQ s 0).map Nn)],.Cm 0 0 s.length 1):=by simp only[IL,hs,BN];rfl
 have e2:Aw (.len false) [.Cm 0 0 s.length 1]=some (I (s.length:Int)):=rfl;simp only[Az,e1,e2];refine A9 (λn:Nat=>[I (n:Int)]) (λn h=>n<=s.length/\h=[.cells ((GQ s n).map Nn)]) (λn=>s.length-n) 0 rfl ⟨AO _,rfl⟩ ?_;rintro n h ⟨hn,rfl⟩;rcases AT n s.length with hlt|D2
 .have i1:(n:Int)<(s.length:Int):=by omega
  have e3:Aw (.Fm 1) [.Cm 0 0 s.length 1,I (n:Int)]=some (Pt 0 n):=by simp[Aw,elemOf,L4,hlt]
  have e4:Bb [.cells ((GQ s n).map Nn)] none (Pt 0 n)=some (.int .u8 (s[n].toNat:Int)):=gQ (by rw[Cp,U6 hlt];rfl);have e5:IntKind.i32.wrap (s[n].toNat:Int)=(s[n].toNat:Int):=xG (by have:=s[n].toNat_lt;omega);simp only[Az,i1,Ap,Ak,Ag,e3,e4,TY,e5,(aKK _).Be rfl rfl,BG (show n<9223372036854775807 by omega)];refine⟨λhe=>?_,λhe=>?_⟩
  .have vq:65<=s[n].toNat/\s[n].toNat<=90:=by omega
   have e6:Cv [.cells ((GQ s n).map Nn)] 1 (Pt 0 n) (.int .u8 ((s[n].toNat:Int)-65+97))=some [.cells (((GQ s n).map Nn).set n (.int .u8 ((s[n].toNat:Int)-65+97)))]:=bN (by rw[Ai,U5];exact hlt) rfl;simp only[Az,gL,Yx,wrap_u8 (show 0<=((s[n].toNat:Int)-65)/\((s[n].toNat:Int)-65)<=255 by omega),wrap_u8 (show 0<=((s[n].toNat:Int)-65+97)/\((s[n].toNat:Int)-65+97)<=255 by omega),e6];refine AF.next (n+1) rfl ⟨hlt,?_⟩ (by omega);rw[QT hlt,Fk];have e7:Nn (HY s[n])= .int .u8 ((s[n].toNat:Int)-65+97):=by unfold Nn;rw[QS vq];congr 1;omega
   rw[e7]
  .have Tg:¬(65<=s[n].toNat/\s[n].toNat<=90):=by omega
   refine AF.next (n+1) rfl ⟨hlt,?_⟩ (by omega);rw[QT hlt,MZ Tg,xK (U6 hlt)]
 .have i1:¬(n:Int)<(s.length:Int):=by omega
  have en:n=s.length:=by omega
  subst en;have e8:Kn [.cells ((GQ s s.length).map Nn)] (.Cm 0 0 s.length 1)=some ([.CG],.sl 1 (BZ (Ff s))):=by
   have hl:(Ff s).length=s.length:=by simp[Ff]
   rw[bM];simp only[Kn,JM];rw[if_pos (by simp[hl])];rw[Ob (Ff s) s.length 0 (by omega)];simp
  simp only[Az,i1,An,Ak,Ag,e8,AL.S7 (s:=Ff s) .mk]
end
section
def Q9(l:As)(ws:List As):Prop:=Ev cx 263 [.str l] [] λr _=>r= .sl 1 (ws.map CH)
theorem Pw{l:As}{ws:List As}(n:Nat)(hr:(IT.run tab n (tab 263 [.str l]) []).map (λx=>(x.1,x.2.1))=some (.ret,[.sl 1 (ws.map CH)])):Q9 l ws:=by obtain⟨⟨x,vs,h⟩,e1,e2⟩:=c_.1 hr;cases e2;rw[zR] at e1;exact⟨n,_,_,_,e1,rfl,_,rfl,rfl⟩
theorem aF1{l:As}{ws:List As}(hf:Q9 l ws)(hw:∀w∈ws,w.length<=AS)(hn:ws.length<9223372036854775807)(name:As):JE cx 194 [.str name,.str l] (.str (Ca name ws)):=by
 rw[LX,nN,aBe];refine uN (hf.mono λr h1 e=>?_);subst e;have dW:AL 1 (ws.map CH) (.sl 1 (ws.map CH)):= .mk;simp only[Az,dW.len];refine A9 (λn:Nat=>[.str [],I (n:Int)]) (λn _=>n<=ws.length/\Ca name ws=Ca name (ws.drop n)) (λn=>ws.length-n) 0 rfl ⟨AO _,rfl⟩ ?_;rintro n h ⟨zX,ha⟩;rcases AT n ws.length with hlt|D2
 .have i1:(n:Int)<((ws.map CH).length:Int):=by simp;omega
  have Ra:n<(ws.map CH).length:=by simpa using hlt
  have e1:(ws.map CH)[n]=[.str ws[n]]:=by simp[CH]
  rw[AG hlt,Ca] at ha;simp only[Az,i1,Ap,Ak,Ag,dW.Fm Ra,e1,(aBS ws[n] (hw _ (AJ hlt))).Be rfl rfl,BG (show n<9223372036854775807 by omega)];refine⟨λhe=>?_,λhe=>?_⟩;·rw[ha,if_pos he]
  .rw[if_neg he] at ha;exact AF.next (n+1) rfl ⟨hlt,ha⟩ (by omega)
 .have i1:¬(n:Int)<((ws.map CH).length:Int):=by simp;omega
  rw[A3 D2,Ca] at ha;simp only[Az,i1,An,Ak,Ag,ha]
theorem aF2(l name:As)(hl:l.length<=AS):JE cx 284 [.str l,.str name] (.str (Ca name (C4 [] l))):=by
 have hl':l.length<=140737488355328:=hl;rw[LX,pd,aFP];refine A9 (λp:Nat×Nat=>[.str [],I (p.1:Int),I (p.2:Int)])
  (λp _=>(p.1<=p.2/\p.2<=l.length/\Ca name (C4 [] l)=Ca name (C4 ((l.take p.2).drop p.1) (l.drop p.2)))\/(p.2=l.length+1/\Ca name (C4 [] l)=name)) (λp=>l.length+1 -p.2) (0,0) rfl (.inl ⟨Ac _,AO _,by simp⟩) ?_
 rintro⟨a,n⟩ h aBQ;rcases aBQ with⟨Wj,hn,ha⟩|⟨hn,Tg⟩
 .simp only at Wj hn ha;have i1:(n:Int)<=(l.length:Int):=by omega
  have Nw:((l.take n).drop a).length<=AS:=by simp[AS];omega
  rcases AT n l.length with hlt|D2
  .have i2:¬(n:Int)=(l.length:Int):=by omega
   simp only[Az,i1,i2,Ap,An,Ag,Ak,LC hlt,BG (show n<9223372036854775807 by omega),MX Wj hn,(aBR _ Nw).Be rfl rfl];rw[AG hlt,Oa] at ha;refine⟨λhe=>?_,λhe=>?_⟩
   .have e:l[n]=32:=by rw[<-UInt8.toNat_inj];exact Int.ofNat.inj he
    rw[if_pos e,Ca] at ha;refine⟨λhw=>?_,λhw=>?_⟩;·rw[ha,if_pos hw]
    .rw[if_neg hw] at ha;refine AF.next (n+1,n+1) rfl (.inl ⟨Ac _,hlt,?_⟩) (by simp only;omega);rw[ha,List.drop_take_self]
   .have e:¬l[n]=32:=λe=>he (by rw[e];rfl);rw[if_neg e] at ha;refine AF.next (a,n+1) rfl (.inl ⟨by simp only;omega,hlt,?_⟩) (by simp only;omega);rw[ha,bJ Wj hlt]
  .have e:n=l.length:=by omega
   subst e;simp only[Az,Fq,Ap,Ag,Ak,MX Wj hn,BG (show l.length<9223372036854775807 by omega),(aBR _ Nw).Be rfl rfl];rw[A3 (Ac _),Pp,Ca,Ca] at ha;refine⟨λhw=>?_,λhw=>?_⟩;·rw[ha,if_pos hw]
   .rw[if_neg hw] at ha;exact AF.next (l.length+1,l.length+1) rfl (.inr ⟨rfl,ha⟩) (by simp only;omega)
 .simp only at hn;subst hn;have i1:¬((l.length+1:Nat):Int)<=(l.length:Int):=by omega
  simp only[Az,i1,An,Ag,Ak,Tg]
theorem Ts:Q9 KP HX:=Pw 5000 (by kernel_rfl)
theorem Tt:Q9 Mk He:=Pw 5000 (by kernel_rfl)
theorem aKL(s:As):JE cx 109 [.str s] (.str (Ca s HX)):=by rw[LX,mA,show t109 (.str s)= .Be 194 [.str s,.str KP] λv=> .ret .ret [v] from rfl];rw[(aF1 (l:=KP) Ts (by decide+kernel) (by decide+kernel) s).Be rfl rfl];simp only[Az]
theorem f181(s:As):JE cx 227 [.str s] (.str (Ca s HX)):=by rw[LX,nh,show aFs (.str s)= .Be 284 [.str KP,.str s] λv=> .ret .ret [v] from rfl];rw[(aF2 KP s (by decide+kernel)).Be rfl rfl,U7];simp only[Az]
theorem aF3(s:As):JE cx 193 [.str s] (.str (Ca s He)):=by rw[LX,nM,show aBd (.str s)= .Be 194 [.str s,.str Mk] λv=> .ret .ret [v] from rfl];rw[(aF1 (l:=Mk) Tt (by decide+kernel) (by decide+kernel) s).Be rfl rfl];simp only[Az]
end
section
theorem aKM{v:Aa}{l:List AW}(hv:Bx l v)(hn:l.length<9223372036854775807)(h:Ae){f:FuncId}{p:AW->Bool}(hp:∀a∈l,BE cx f [.agg a.row] h (.bool (p a)) h)(hf:f<=99999):
  BE cx 118 [v,.func (.func f) [] []] h (I (B9 p 0 l)) h:=by
 rw[Ab,T1,zI];have hlen:(l.map AW.row).length=l.length:=Ai ..;simp only[Az,AL.len hv];refine A9 (λn:Nat=>[I 0,I (n:Int)]) (λn h1=>n<=l.length/\B9 p 0 l=B9 p n (l.drop n)/\h1=h) (λn=>l.length-n) 0 rfl ⟨AO _,rfl,rfl⟩ ?_;rintro n h1 ⟨zX,ha,rfl⟩;rcases AT n l.length with hlt|D2
 .have i1:(n:Int)<((l.map AW.row).length:Int):=by rw[hlen];omega
  have e1:(l.map AW.row)[n]'(by rw[hlen];exact hlt)=AW.row l[n]:=by simp
  have e2:EO (AW.row l[n]) 0 (some 3)=some (.agg (AW.row l[n])):=by simp[AW.row]
  rw[AG hlt,B9] at ha;simp only[Az,↓reduceIte,Dt,hf,BB,i1,Ap,Ak,Ag,AL.Fm hv (show n<(l.map AW.row).length by rw[hlen];exact hlt),e1,e2,(hp _ (AJ hlt)).call];rw[Ct];refine⟨λhe=>?_,λhe=>?_⟩;·rw[ha,if_pos he]
  .rw[if_neg (by simp[he])] at ha;simp only[Az,BG (show n<9223372036854775807 by omega)];exact AF.next (n+1) rfl ⟨hlt,ha,rfl⟩ (by omega)
 .have i1:¬(n:Int)<((l.map AW.row).length:Int):=by rw[hlen];omega
  rw[A3 D2,B9] at ha;simp only[Az,↓reduceIte,Dt,hf,i1,An,Ak,Ag,ha]
theorem aKN(a:AW)(h:Ae):BE cx 119 [.agg a.row] h (.bool (Np a)) h:=by rw[Ab,mF,aAE,AW.row];simp only[Az,Np];refine⟨λh=>by simp[h],λh=>by simp[h]⟩
theorem aF4(a b:As)(ha:a.length<=AS)(hb:b.length<=AS):JE cx 120 [.str a,.str b] (.bool (decide (Ff a=Ff b))):=by rw[LX,mG,aAF];simp only[Az,(aBS a ha).Be rfl rfl,(aBS b hb).Be rfl rfl]
theorem f96{v:Aa}{l:List AW}(hv:Bx l v)(hl:∀a∈l,a.value.length<=AS)(hn:l.length<9223372036854775807)(n:Int)(s:As)(h:Ae):BE cx 49 [I n,.str s,v] h (.bool (EH n s l)) h:=by
 rw[Ab,yN,t49];simp only[Az,VC,(aKM hv hn h (λa _=>aKN a h) (by decide)).call,EH];refine⟨λh2=>by simp[h2],λh2=>⟨λh3=>by simp[h2,h3],λh3=>⟨λh4=>by simp[h2,h3,h4],λh4=>?_⟩⟩⟩;rw[if_neg h2,if_neg h3,if_neg h4];rcases GR (p:=Np) (l:=l) (k:=0) with⟨h5,h6⟩|⟨k,a,h5,h6,h7⟩
 .rw[h5,h6];simp
 .rw[h5,h7,BJ];obtain⟨hk,e⟩:=Ah.1 h6;have hk':k<(l.map AW.row).length:=by simpa using hk
  have e1:(l.map AW.row)[k]=AW.row a:=by simp[e]
  have i1:(0:Int)<=(k:Int):=by omega
  have PQ:a.value.length<=AS:=hl a (e▸AJ hk);have e2:Ff lO=lO:=SV (by decide+kernel);have e3:Ff YB=YB:=SV (by decide+kernel);simp only[Az,i1,Ap,Ak,Ag,AL.Fm hv hk',e1,AW.row,(aF4 a.value lO PQ (by decide)).Be rfl rfl,(aF4 a.value YB PQ (by decide)).Be rfl rfl,e2,e3];refine⟨λh=>by simp[h],λh=>by simp[h]⟩
theorem aF5{v:Aa}{l:List AW}(hv:Bx l v)(hl:∀a∈l,a.value.length<=AS)(hn:l.length<9223372036854775807)(n:Int)(s:As)(hs:s.length<9223372036854775807)(h:Ae):BE cx 100 [I n,.str s,v] h (.bool (EH n s l)) h:=by
 rw[Ab,jl,aEG];simp only[Az,S1 hs,EH];refine⟨λh2=>by simp[h2,DY],λh2=>⟨λh3=>by simp[h2,h3],λh3=>⟨λh4=>by simp[h2,h3,h4],λh4=>?_⟩⟩⟩;rw[if_neg h2,if_neg h3,if_neg h4];have hlen:(l.map AW.row).length=l.length:=Ai ..;refine A9 (λn:Nat=>[.bool false,I (n:Int)]) (λn h1=>n<=l.length/\l.find? Np=(l.drop n).find? Np/\h1=h) (λn=>l.length-n) 0 rfl ⟨AO _,rfl,rfl⟩ ?_;rintro n h1 ⟨zX,ha,rfl⟩;rcases AT n l.length with hlt|D2
 .have i1:(n:Int)<((l.map AW.row).length:Int):=by rw[hlen];omega
  have e1:(l.map AW.row)[n]'(by rw[hlen];exact hlt)=AW.row l[n]:=by simp
  rw[AG hlt,I0] at ha;simp only[Az,AL.len hv,i1,Ap,Ak,Ag,AL.Fm hv (show n<(l.map AW.row).length by rw[hlen];exact hlt),e1,AW.row,(aBR _ (hl _ (AJ hlt))).Be rfl rfl,BG (show n<9223372036854775807 by omega)];refine⟨λh5=>⟨λh6=>?_,λh6=>?_⟩,λh5=>?_⟩
  .have he:Np l[n]=true:=by simp[Np,h5,h6]
   rw[he] at ha;rw[ha];exact⟨λh7=>by simp[h7],λh7=>by simp[h7]⟩
  .have he:Np l[n]=false:=by simp[Np,h6]
   rw[he] at ha;exact AF.next (n+1) rfl ⟨hlt,ha,rfl⟩ (by omega)
  .have he:Np l[n]=false:=by simp[Np,h5]
   rw[he] at ha;exact AF.next (n+1) rfl ⟨hlt,ha,rfl⟩ (by omega)
 .have i1:¬(n:Int)<((l.map AW.row).length:Int):=by rw[hlen];omega
  rw[A3 D2,List.find?_nil] at ha;rw[ha];simp only[Az,AL.len hv,i1,An,Ak,Ag]
end
section
section
variable{α:Type}{f:α->List Aa}{l l2:List α}{v v2:Aa}{z b:Nat}{k k2:IntKind}
end
section
variable{h:Ae}{p:Aa}{l:List Item}
theorem Tu(hs:tX h p l):BE cx 24 [p] h (I (l.length:Int)) h:=by
 rw[Ab,yG,t24];rcases hs with⟨rfl,rfl⟩|⟨id,o,v,rfl,hc,hv⟩
 .simp
 .simp only[Az,I3,hc.load,Bn,hv.Cq]
theorem VF(hs:tX h p l)(i:Int):BE cx 22 [p,I i] h (.agg (GB l i).row) h:=by
 rw[Ab,yF,t22];simp only[Az,↓reduceIte,AI,(Tu hs).call];refine⟨λhi=>by rw[M0 (.inl hi)];simp[Item.row,Item.zero],λhi=>⟨λhl=>by rw[M0 (.inr hl)];simp[Item.row,Item.zero],λhl=>?_⟩⟩;rcases hs with⟨rfl,rfl⟩|⟨id,o,v,rfl,hc,hv⟩
 .simp at hl;omega
 .obtain⟨n,rfl⟩:=OX (show 0<=i by omega);have hn:n<l.length:=by omega
  simp only[Az,Nat.reduceLeDiff,↓reduceIte,EB,hc.load,Bn,hv.Bz hn,Hg hn]
theorem f39(hs:tX h p l)(hn:l.length<=1000000000):BE cx 91 [p] h (.agg (EU l).row) h:=by rw[Ab,zE,t91];simp only[Az,EB,(Tu hs).call,CJ (show -9223372036854775808<=(l.length:Int)-1 by omega) (show(l.length:Int)-1<9223372036854775808 by omega),(VF hs _).call,EU]
def Tv(F:Aa)(h:Ae)(q:Item->Bool):Prop:=∃f caps,F= .func (.func f) [] caps/\f<=99999/\∀a:Item,BE cx f (.agg a.row::caps) h (.bool (q a)) h
theorem Tv.FH{F:Aa}{q:Item->Bool}(hF:Tv F h q)(a:Item){k:Aa->IT}{Q:Post}:W cx (.FH F [.agg a.row] k) Q h↔W cx (k (.bool (q a))) Q h:=by obtain⟨f,caps,rfl,hf,hr⟩:=hF;rw[LB];simp only[Dt,hf,↓reduceIte,BH,CB,J6,(hr a).call]
theorem aBT(hs:tX h p l)(hn:l.length<=1000000000){F:Aa}{q:Item->Bool}(hF:Tv F h q):BE cx 233 [p,F] h (I (AK q l)) h:=by
 obtain⟨f,caps,rfl,hf,hr⟩:=hF;rw[Ab,oA,aBp];simp only[Az,(Tu hs).call,CJ (show -9223372036854775808<=(l.length:Int)-1 by omega) (show(l.length:Int)-1<9223372036854775808 by omega)];refine A9 (λn:Nat=>[I 0,I ((n:Int)-1)]) (λn h1=>n<=l.length/\AK q l=AK q (l.take n)/\h1=h) (λn=>n) l.length rfl ⟨Ac _,by rw[Bu],rfl⟩ ?_;rintro n h1 ⟨zX,ha,rfl⟩;cases n with
 |zero=>
  have i1:¬(0:Int)<=((0:Nat):Int)-1:=by omega
  rw[ha];simp only[Az,↓reduceIte,Dt,hf,i1,An,Ak,Ag,IX]
 |succ n=>
  have i1:(0:Int)<=((n+1:Nat):Int)-1:=by omega
  have i2:((n+1:Nat):Int)-1=(n:Int):=by omega
  rcases hs with⟨rfl,rfl⟩|⟨id,o,v,rfl,hc,hv⟩
  .simp at zX
  .rw[Gb (by omega)] at ha;simp only[Az,Nat.reduceLeDiff,↓reduceIte,Dt,EB,hf,i2,show(0:Int)<=(n:Int) by omega,Ap,Ak,Ag,hc.load,Bn,hv.Bz (show n<l.length by omega),(hr l[n]).call,CJ (show -9223372036854775808<=(n:Int)-1 by omega) (show(n:Int)-1<9223372036854775808 by omega)];rw[Ct];refine⟨λhe=>?_,λhe=>?_⟩;·rw[ha,if_pos he]
   .rw[if_neg (by simp[he])] at ha;exact AF.next n rfl ⟨by omega,ha,rfl⟩ (by omega)
theorem aKO{v:Aa}{ws:List As}(hv:IG ws v)(hn:ws.length<=1000000000)(s:As)(h:Ae):BE cx 202 [v,.str s] h (I (B9 (λw=>decide (s=w)) 0 ws)) h:=by
 rw[Ab,nT,aBi];have hv:AL 1 (ws.map CH) v:=hv;simp only[Az,hv.Cq];refine A9 (λn:Nat=>[I 0,I (n:Int)]) (λn h1=>n<=ws.length/\B9 (λw=>decide (s=w)) 0 ws=B9 (λw=>decide (s=w)) n (ws.drop n)/\h1=h) (λn=>ws.length-n) 0 rfl ⟨AO _,rfl,rfl⟩ ?_;rintro n h1 ⟨zX,ha,rfl⟩;rcases AT n ws.length with hlt|D2
 .have i1:(n:Int)<(ws.length:Int):=by omega
  rw[AG hlt,B9] at ha;simp only[Az,i1,Ap,Ak,Ag,hv.Bz hlt,CH,BG (show n<9223372036854775807 by omega)];refine⟨λhe=>?_,λhe=>?_⟩;·rw[ha,if_pos (by simpa using he)]
  .rw[if_neg (by simpa using he)] at ha;exact AF.next (n+1) rfl ⟨hlt,ha,rfl⟩ (by omega)
 .have i1:¬(n:Int)<(ws.length:Int):=by omega
  rw[A3 D2,B9] at ha;simp only[Az,i1,An,Ak,Ag,ha]
theorem aF6{v:Aa}{ws:List As}(hv:IG ws v)(hn:ws.length<=1000000000)(s:As)(h:Ae):BE cx 121 [v,.str s] h (.bool (decide (s∈ws))) h:=by rw[Ab,mH,aAG];simp only[Az,(aKO hv hn s h).call,ij]
theorem cO{v:Aa}{ws:List As}(hv:IG ws v)(hn:ws.length<=1000000000)(a:Item)(h:Ae):BE cx 158 [.agg a.row,v] h (.bool (Bp ws a)) h:=by rw[Ab,mY,aAV];simp only[Az,EB,(aF6 hv hn _ h).call,Bp];refine⟨λh1=>by simp[h1],λh1=>by simp[h1]⟩
theorem f289(a:Item)(h:Ae):BE cx 309 [.agg a.row] h (.bool (Bp MY a)) h:=by rw[Ab,oT,aBI];simp only[Az,EB,gR,(cO (ws:=MY) CR (by decide) a h).call]
theorem f290(a:Item)(h:Ae):BE cx 310 [.agg a.row] h (.bool (!Bp La a)) h:=by rw[Ab,oU,aBJ];simp only[Az,EB,bP,(cO (ws:=La) CR (by decide) a h).call]
theorem f291(n:Int)(h4:n≠4)(h5:n≠5)(a:Item)(h:Ae):BE cx 311 [.agg a.row,.CA [I n]] h (.bool (IH n a)) h:=by have b1:=cO (ws:=OI) CR (by decide) a h;have b2:=cO (ws:=P3) CR (by decide) a h;have b3:=cO (ws:=[aSP]) CR (by decide) a h;rw[Ab,oV,aBK];simp only[Az,EB,VC,gS,rH,rI,b1.call,b2.call,b3.call,IH,h4,h5];refine⟨λh1=>by simp[h1],λh1=>⟨λh2=>by simp[h2],λh2=>?_⟩⟩;rw[Ct];simp only[h1,h2,or_self,Ea];refine⟨λh3=>by simp[h3],λh3=>⟨λh6=>?_,λh6=>⟨λh7=>by simp[h3,h7],λh7=>by simp[h3,h6,h7]⟩⟩⟩;rw[Ct];exact⟨λh7=>by simp[h3,h6,h7],λh7=>⟨λh8=>by omega,λh8=>by simp[h3,h7,h8]⟩⟩
theorem f264(n:Int)(h:Ae):∃F,BE cx 285 [I n] h F h/\Tv F h (IH n)/\F.cells=[F]:=by
 by_cases h4:n=4
 .refine⟨.func (.func 309) [] [],?_,⟨_,_,rfl,by decide,λa=>?_⟩,rfl⟩;·rw[Ab,T5,zM];simp only[Az,h4,Ap,Ak,Ag]
  .have:=f289 a h;simpa[IH,h4] using this
 .by_cases h5:n=5
  .refine⟨.func (.func 310) [] [],?_,⟨_,_,rfl,by decide,λa=>?_⟩,rfl⟩;·rw[Ab,T5,zM];simp only[Az,h5,Ap,Ak,Ag];simp
   .have:=f290 a h;simpa[IH,h5] using this
  .refine⟨.func (.func 311) [] [.CA [I n]],?_,⟨_,_,rfl,by decide,λa=>f291 n h4 h5 a h⟩,rfl⟩;rw[Ab,T5,zM];simp only[Az,h4,h5,An,Ak,Ag]
theorem aKP{F1 F2:Aa}{q e:Item->Bool}(h1:Tv F1 h q)(h2:Tv F2 h e)(a:Item):BE cx 286 [.agg a.row,.CA [F1],.CA [F2]] h (.bool (q a||e a)) h:=by have c1:=λk Q=>h1.FH a (k:=k) (Q:=Q);have c2:=λk Q=>h2.FH a (k:=k) (Q:=Q);rw[Ab,oP,aBE];obtain⟨f,caps,rfl,hf,r1⟩:=h1;obtain⟨f',caps',rfl,vX,r2⟩:=h2;simp only[Az,↓reduceIte,Dt,EB,hf,vX,(r1 a).call,(r2 a).call];rw[Ct];exact⟨λh=>by simp[h],λh=>by simp[h]⟩
theorem aF7(hs:tX h p l)(hn:l.length<=1000000000)(n:Int){F:Aa}{q:Item->Bool}(hF:Tv F h q):BE cx 229 [p,I n,F] h (.bool (I1 q (IH n) l.reverse)) h:=by
 obtain⟨G,hG,aF8,IN⟩:=f264 n h;have hFc:F.cells=[F]:=by obtain⟨f,caps,rfl,hf,_⟩:=hF;rfl
 have hF':=hF;have hfit:Tv (.func (.func 286) [] [.CA [F],.CA [G]]) h (λa=>q a||IH n a):=⟨286,_,rfl,by decide,λa=>aKP hF aF8 a⟩;rw[Ab,nX,aBm];simp only[Az,↓reduceIte,Dt,hFc,hG.call,IN,(aBT hs hn hfit).call];rw[<-gT l true];rcases CQ (q:=λa=>q a||IH n a) (l:=l) with⟨h1,h2⟩|⟨k,hk,h1,h2,h3⟩
 .simp[h1]
 .have c1:(0:Int)<=(k:Int)/\(k:Int).toNat<l.length:=⟨by omega,by simpa using hk⟩;simp only[h1];rw[dif_pos c1];rcases hs with⟨rfl,rfl⟩|⟨id,o,v,rfl,hc,hv⟩
  .simp at hk
  .obtain⟨f,caps,rfl,hf,hr⟩:=hF';simp only[Az,Nat.reduceLeDiff,↓reduceIte,EB,hf,c1.1,Ap,Ak,Ag,hc.load,Bn,hv.Bz hk,(hr l[k]).call,AQ]
theorem aKQ{v:Aa}{ws:List As}(hv:IG ws v)(hn:ws.length<=1000000000)(a:Item)(h:Ae):BE cx 230 [.agg a.row,.CA [v]] h (.bool (Bp ws a)) h:=by have b:=cO hv hn a h;rw[Ab,nj,aFu];simp only[Az,EB,b.call]
theorem aKR(hs:tX h p l)(hn:l.length<=1000000000)(n:Int){v:Aa}{ws:List As}(hv:IG ws v)(hw:ws.length<=1000000000):BE cx 142 [p,I n,v] h (.bool (I1 (Bp ws) (IH n) l.reverse)) h:=by have hfit:Tv (.func (.func 230) [] [.CA [v]]) h (Bp ws):=⟨230,_,rfl,by decide,λa=>aKQ hv hw a h⟩;rw[Ab,kj,aEV];simp only[Az,hv.cells,(aF7 hs hn n hfit).call]
theorem aKS(node:Int)(a:Item)(h:Ae):BE cx 246 [.agg a.row,.CA [I node]] h (.bool (Bm node a)) h:=by rw[Ab,oJ,aBy,Item.row];simp only[Az,EB,Bm]
theorem aKT(hs:tX h p l)(hn:l.length<=1000000000)(n node:Int):BE cx 174 [p,I n,I node] h (.bool (I1 (Bm node) (IH n) l.reverse)) h:=by have hfit:Tv (.func (.func 246) [] [.CA [I node]]) h (Bm node):=⟨246,_,rfl,by decide,λa=>aKS node a h⟩;rw[Ab,nD,aA4];simp only[Az,(aF7 hs hn n hfit).call]
theorem aKU(node:Int)(a:Item)(h:Ae):BE cx 234 [.agg a.row,.CA [I node]] h (.bool (Bm node a)) h:=by rw[Ab,oB,aBq,Item.row];simp only[Az,EB,Bm]
theorem WM(hs:tX h p l)(hn:l.length<=1000000000)(node:Int):BE cx 144 [p,I node] h (I (AK (Bm node) l)) h:=by have hfit:Tv (.func (.func 234) [] [.CA [I node]]) h (Bm node):=⟨234,_,rfl,by decide,λa=>aKU node a h⟩;rw[Ab,mR,aAP];simp only[Az,(aBT hs hn hfit).call]
theorem aKV(s:As)(a:Item)(h:Ae):BE cx 236 [.agg a.row,.CA [.str s]] h (.bool (Bp [s] a)) h:=by have b:=cO (ws:=[s]) CR (show[s].length<=1000000000 by simp) a h;rw[Ab,oD,aBs];simp only[Az,EB,DE (ws:=[s]) (args:=[.str s]) rfl (by simp),b.call]
theorem aBU(hs:tX h p l)(hn:l.length<=1000000000)(s:As):BE cx 151 [p,.str s] h (I (AK (Bp [s]) l)) h:=by have hfit:Tv (.func (.func 236) [] [.CA [.str s]]) h (Bp [s]):=⟨236,_,rfl,by decide,λa=>aKV s a h⟩;rw[Ab,mT,aAQ];simp only[Az,(aBT hs hn hfit).call]
end
end
section
section
variable{h:Ae}{p v:Aa}{l:List Item}
theorem aF9(hv:BM l v)(a:Item){n:Nat}(hn:n<=l.length)(hb:l.length<=1000000000):∃u,BE cx 116 [v,.agg a.row,I (n:Int)] h u h/\BM (l.take n++a::l.drop n) u:=by
 have Sw:(l.length+1)*40<=AS:=by have:AS=140737488355328:=rfl;omega
 obtain⟨u1,e1,h1⟩:=AL.Lb hv (k:= .i64) hn;obtain⟨u2,e2,h2⟩:=AL.Gm h1 (b:=40) (by rw[Al];have:AS=140737488355328:=rfl;omega);have e3:=AL.Ja (a:=a) h2 (b:=40) (by rw[Al];have:AS=140737488355328:=rfl;omega);obtain⟨u4,e4,h4⟩:=AL.QU hv (k:= .i64) hn;obtain⟨u5,e5,h5⟩:=AL.YC (v:= .sl 4 ((l.take n++[a]).map Item.row)) .mk h4 (b:=40) (by rw[Aq,Al,A7,Bs];have:AS=140737488355328:=rfl;omega);refine⟨u5,?_,by rw[AB] at h5;exact h5⟩;rw[Ab,mD,aAC];simp only[Az,EB,e1,e2,Lc,e3,e4,e5]
theorem f95{id o:Nat}(hs:KG h id o l)(hb:l.length<=1000000000)(a:Item):∃u,BE cx 48 [Pt id o,.agg a.row] h (.tuple []) (put h id o u)/\BM (l++[a]) u:=by obtain⟨v,hc,hv⟩:=hs;obtain⟨u,hr,hu⟩:=aF9 (h:=h) hv a (n:=l.length) (Ac _) hb;rw[Bu,Fs] at hu;refine⟨u,?_,hu⟩;rw[Ab,yM,t48];simp only[Az,EB,kD,JN,hc.load,Bn,AL.Cq hv,hr.call,hc.store hu.cells]
theorem aKW(hs:tX h p l)(hb:l.length<=1000000000)(node:Int):BE cx 175 [p,I node] h (I (Dz node l)) h:=by
 rw[Ab,nE,aA5];have hbd: -1<=AK (Bm node) l/\AK (Bm node) l<l.length+1:=by rcases CQ (q:=Bm node) (l:=l) with⟨h1,h2⟩|⟨n,hn,h1,h2,h3⟩<;>rw[h1]<;>omega
 simp only[Az,(WM hs hb node).call,OJ (show -9223372036854775808<=AK (Bm node) l+1 by omega) (show AK (Bm node) l+1<9223372036854775808 by omega)];rw[HM];by_cases Fh:AK (Bm node) l<0
 .rw[if_pos Fh];refine A9 (λn:Nat=>[I 0,I (AK (Bm node) l+1)]) (λn h1=>h1=h) (λn=>n) 0 rfl rfl ?_;rintro n h1 rfl;have i1:¬0<=AK (Bm node) l:=by omega
  simp only[Az,i1,An,Ak,Ag]
 .rw[if_neg Fh];have i0:0<=AK (Bm node) l:=by omega
  obtain⟨m,hm⟩:=OX i0;refine A9 (λn:Nat=>[I 0,I (n:Int)]) (λn h1=>Em Gc l (m+1)=Em Gc l n/\h1=h) (λn=>l.length-n) (m+1) (by rw[hm];rfl) ⟨rfl,rfl⟩ ?_;rw[hm,AQ];rintro n h1 ⟨ha,rfl⟩;simp only[Az,show(0:Int)<=(m:Int) by omega,Ap,Ak,Ag,(Tu hs).call];rcases AT n l.length with hlt|D2
  .have i1:(n:Int)<(l.length:Int):=by omega
   rw[QV hlt] at ha;rcases hs with⟨rfl,rfl⟩|⟨id,o,v,rfl,hc,hv⟩
   .simp at hlt
   .simp only[Az,EB,i1,Ap,Ak,Ag,hc.load,Bn,AL.Bz hv hlt,VC,BG (show n<9223372036854775807 by omega)];rw[Ct];refine⟨λhe=>?_,λhe=>?_⟩;·rw[ha,if_pos (by exact he)]
    .rw[if_neg (by simp[Gc,he])] at ha;exact AF.next (n+1) rfl ⟨ha,rfl⟩ (by omega)
  .have i1:¬(n:Int)<(l.length:Int):=by omega
   rw[Pq D2] at ha;simp only[Az,i1,An,Ak,Ag,ha]
theorem aGa(hv:BM l v)(i:Int):BE cx 305 [v,I i] h (.agg (GB l i).row) h:=by
 have hv:AL 4 (l.map Item.row) v:=hv;rw[Ab,po,aFU];simp only[Az,↓reduceIte,AI,hv.Cq];refine⟨λhi=>by rw[M0 (.inl hi)];simp[Item.row,Item.zero],λhi=>⟨λhl=>by rw[M0 (.inr hl)];simp[Item.row,Item.zero],λhl=>?_⟩⟩;obtain⟨n,rfl⟩:=OX (show 0<=i by omega);have hn:n<l.length:=by omega
 simp only[Az,Nat.reduceLeDiff,↓reduceIte,EB,hv.Bz hn,Hg hn]
theorem aKX(hv:BM l v)(hb:l.length<=1000000000):BE cx 276 [v] h (.agg (EU l).row) h:=by rw[Ab,oq,aFJ];simp only[Az,EB,AL.Cq hv,CJ (show -9223372036854775808<=(l.length:Int)-1 by omega) (show(l.length:Int)-1<9223372036854775808 by omega),(aGa hv _).call,EU]
theorem f167(a:Item){ws:List As}(hv:IG ws v)(hn:ws.length<=1000000000):BE cx 214 [.agg a.row,v] h (.bool (Bp ws a)) h:=by
 rw[Ab,mn,aFh];simp only[Az,EB];refine⟨λh1=>by simp[Bp,h1],λh1=>?_⟩;have h1:a.AX=1:=by simpa using h1
 have hv:AL 1 (ws.map CH) v:=hv;refine A9 (λn:Nat=>[.bool false,I (n:Int)]) (λn h1=>n<=ws.length/\(a.name∈ws↔a.name∈ws.drop n)/\h1=h) (λn=>ws.length-n) 0 rfl ⟨AO _,Iff.rfl,rfl⟩ ?_;rintro n h2 ⟨zX,ha,rfl⟩;rcases AT n ws.length with hlt|D2
 .have i1:(n:Int)<(ws.length:Int):=by omega
  rw[AG hlt,AM] at ha;simp only[Az,hv.Cq,i1,Ap,Ak,Ag,hv.Bz hlt,CH,BG (show n<9223372036854775807 by omega)];refine⟨λhe=>?_,λhe=>?_⟩;·have:a.name∈ws:=ha.2 (.inl he.symm);simp[Bp,h1,this]
  .exact AF.next (n+1) rfl ⟨hlt,ha.trans ⟨λh=>h.resolve_left (λh=>he h.symm),.inr⟩,rfl⟩ (by omega)
 .have i1:¬(n:Int)<(ws.length:Int):=by omega
  rw[A3 D2] at ha;simp only[Az,hv.Cq,i1,An,Ak,Ag];have:a.name∉ws:=λh=>by simpa using ha.1 h
  simp[Bp,this]
theorem aKY(n:Int)(a:Item)(hs:a.name.length<9223372036854775807):BE cx 308 [.agg a.row,I n] h (.bool (IH n a)) h:=by
 rw[Ab,px,aFX];simp only[Az,EB,sD hs,i7 hs,zU hs,sE hs,cN hs,IH,Bp];by_cases h1:a.AX=1
 .have e1:¬a.AX=3:=by omega
  have e2:¬a.AX=2:=by omega
  simp only[h1,Ds,MV,NC,Ag,Ap,kC,forall_const];by_cases h4:n=4;·simp[h4]
  .by_cases h5:n=5;·simp[h5]
   .by_cases h2:n=2;·simp[h2];by_cases hl:a.name∈P3<;>simp[hl]
    .by_cases h3:n=3;·simp[h3];by_cases hl:a.name=aSP<;>simp[hl]
     .simp[h4,h5,h2,h3]
 .simp only[h1,Fj,KN,false_and,Ak,Ag,An,JN];by_cases h4:n=4;·simp[h4]
  .by_cases h5:n=5;·simp[h5]
   .by_cases h3:a.AX=3\/a.AX=2;·simp[h4,h5,h3]
    .have e1:¬a.AX=3:=λe=>h3 (.inl e);have e2:¬a.AX=2:=λe=>h3 (.inr e);simp[h4,h5,e1,e2,DY,h1]
theorem aGb(hv:BM l v)(hb:l.length<=1000000000)(hl:∀a∈l,a.name.length<9223372036854775807){i:Nat}(hi:i<=l.length)(n:Int):BE cx 272 [v,I (i:Int),I n] h (.bool (!((l.drop (i+1)).any (IH n)))) h:=by
 have hv:AL 4 (l.map Item.row) v:=hv;rw[Ab,oh,aFF];simp only[Az,BG (show i<9223372036854775807 by omega)];refine A9 (λm:Nat=>[.bool false,I (m:Int)]) (λm h1=>(l.drop (i+1)).any (IH n)=(l.drop m).any (IH n)/\h1=h) (λm=>l.length-m) (i+1) rfl ⟨rfl,rfl⟩ ?_;rintro m h1 ⟨ha,rfl⟩;rcases AT m l.length with hlt|D2
 .have i1:(m:Int)<(l.length:Int):=by omega
  rw[AG hlt,List.any_cons] at ha;simp only[Az,Nat.reduceLeDiff,↓reduceIte,EB,hv.Cq,i1,Ap,Ak,Ag,hv.Bz hlt,(aKY n l[m] (hl _ (AJ hlt))).call,BG (show m<9223372036854775807 by omega)];rw[Ct];refine⟨λhe=>by rw[ha,he];rfl,λhe=>?_⟩;rw[he,Jg] at ha;exact AF.next (m+1) rfl ⟨ha,rfl⟩ (by omega)
 .have i1:¬(m:Int)<(l.length:Int):=by omega
  rw[A3 D2] at ha;simp only[Az,↓reduceIte,hv.Cq,i1,An,Ak,Ag,ha,List.any_nil,JN]
theorem aKZ(hv:BM l v)(hb:l.length<=1000000000)(hl:∀a∈l,a.name.length<9223372036854775807)(n:Int){w:Aa}{ws:List As}(hw:IG ws w)(hn:ws.length<=1000000000):BE cx 211 [v,I n,w] h (.bool (I1 (Bp ws) (IH n) l.reverse)) h:=by
 have Du:AL 4 (l.map Item.row) v:=hv;rw[Ab,mj,aFe,<-bQ];refine A9 (λm:Nat=>[.bool false,I (m:Int)]) (λm h1=>m<=l.length/\U9 (Bp ws) (IH n) l=U9 (Bp ws) (IH n) (l.drop m)/\h1=h) (λm=>l.length-m) 0 rfl ⟨AO _,rfl,rfl⟩ ?_;rintro m h1 ⟨hm,ha,rfl⟩;rcases AT m l.length with hlt|D2
 .have i1:(m:Int)<(l.length:Int):=by omega
  rw[AG hlt,U9] at ha;simp only[Az,Nat.reduceLeDiff,↓reduceIte,EB,Du.Cq,i1,Ap,Ak,Ag,Du.Bz hlt,(f167 l[m] hw hn).call,(aGb hv hb hl (WT hlt) n).call,BG (show m<9223372036854775807 by omega)];rw[Ct,Ct];refine⟨λh1=>⟨λh2=>by rw[ha,h1,h2];rfl,λh2=>?_⟩,λh1=>?_⟩;·rw[h2,Bool.and_false,Jg] at ha;exact AF.next (m+1) rfl ⟨hlt,ha,rfl⟩ (by omega)
  .rw[h1,Bool.false_and,Jg] at ha;exact AF.next (m+1) rfl ⟨hlt,ha,rfl⟩ (by omega)
 .have i1:¬(m:Int)<(l.length:Int):=by omega
  rw[A3 D2,U9] at ha;simp only[Az,↓reduceIte,Du.Cq,i1,An,Ak,Ag,ha]
theorem WN(hv:BM l v)(hb:l.length<=1000000000)(node:Int):BE cx 275 [v,I node] h (I (AK (Bm node) l)) h:=by
 have hv:AL 4 (l.map Item.row) v:=hv;rw[Ab,oo,aFI];refine A9 (λn:Nat=>[I (AK (Bm node) (l.take n)),I (n:Int)]) (λn h1=>n<=l.length/\h1=h) (λn=>l.length-n) 0 rfl ⟨AO _,rfl⟩ ?_;rintro n h1 ⟨hn,rfl⟩;rcases AT n l.length with hlt|D2
 .have i1:(n:Int)<(l.length:Int):=by omega
  have e:=Gb (q:=Bm node) hlt;simp only[Az,EB,hv.Cq,i1,Ap,Ak,Ag,hv.Bz hlt,BG (show n<9223372036854775807 by omega)];refine⟨λhe=>?_,λhe=>?_⟩;·rw[if_pos (by simpa[Bm] using he)] at e;exact AF.next (n+1) (by rw[e]) ⟨hlt,rfl⟩ (by omega)
  .rw[if_neg (by simpa[Bm] using he)] at e;exact AF.next (n+1) (by rw[e]) ⟨hlt,rfl⟩ (by omega)
 .have i1:¬(n:Int)<(l.length:Int):=by omega
  simp only[Az,hv.Cq,i1,An,Ak,Ag,Ay D2]
theorem aBV(hv:BM l v)(hb:l.length<=1000000000)(s:As):BE cx 222 [v,.str s] h (I (AK (Bp [s]) l)) h:=by
 have hv:AL 4 (l.map Item.row) v:=hv;have b:=λa=>f167 (h:=h) a (ws:=[s]) CR (show[s].length<=1000000000 by simp);rw[Ab,my,aFn];refine A9 (λn:Nat=>[I (AK (Bp [s]) (l.take n)),I (n:Int)]) (λn h1=>n<=l.length/\h1=h) (λn=>l.length-n) 0 rfl ⟨AO _,rfl⟩ ?_;rintro n h1 ⟨hn,rfl⟩;rcases AT n l.length with hlt|D2
 .have i1:(n:Int)<(l.length:Int):=by omega
  have e:=Gb (q:=Bp [s]) hlt;simp only[Az,Nat.reduceLeDiff,↓reduceIte,EB,hv.Cq,i1,Ap,Ak,Ag,hv.Bz hlt,BG (show n<9223372036854775807 by omega),DE (ws:=[s]) (args:=[.str s]) rfl (by simp),(b l[n]).call];rw[Ct];refine⟨λhe=>?_,λhe=>?_⟩;·rw[if_pos he] at e;exact AF.next (n+1) (by rw[e]) ⟨hlt,rfl⟩ (by omega)
  .rw[if_neg (by simpa using he)] at e;exact AF.next (n+1) (by rw[e]) ⟨hlt,rfl⟩ (by omega)
 .have i1:¬(n:Int)<(l.length:Int):=by omega
  simp only[Az,↓reduceIte,hv.Cq,i1,An,Ak,Ag,Ay D2]
theorem f250(hv:BM l v)(hb:l.length<=1000000000)(hl:∀a∈l,a.name.length<9223372036854775807)(n node:Int):BE cx 279 [v,I n,I node] h (.bool (I1 (Bm node) (IH n) l.reverse)) h:=by
 rw[Ab,ou,aFL,<-L_];simp only[Az,(WN hv hb node).call];rcases CQ (q:=Bm node) (l:=l) with⟨h1,h2⟩|⟨k,hk,h1,h2,h3⟩
 .simp[h1]
 .rw[h1];simp only[Az,show(0:Int)<=(k:Int) by omega,show¬(k:Int)<0 by omega,Ap,Ak,Ag,(aGb hv hb hl (WT hk) n).call,AQ]
theorem f251(hv:BM l v)(hb:l.length<=1000000000)(hl:∀a∈l,a.name.length<9223372036854775807)(node:Int):BE cx 280 [v,I node] h (I (Dz node l)) h:=by
 have Du:AL 4 (l.map Item.row) v:=hv;rw[Ab,ov,aFM,HM];simp only[Az,(WN hv hb node).call];rcases CQ (q:=Bm node) (l:=l) with⟨h1,h2⟩|⟨k,hk,h1,h2,h3⟩
 .simp[h1]
 .rw[h1];simp only[Az,show¬(k:Int)<0 by omega,An,Ak,Ag,AQ,BG (show k<9223372036854775807 by omega)];refine A9 (λn:Nat=>[I 0,I (n:Int)]) (λn h1=>Em Gc l (k+1)=Em Gc l n/\h1=h) (λn=>l.length-n) (k+1) rfl ⟨rfl,rfl⟩ ?_;rintro n h1 ⟨ha,rfl⟩;rcases AT n l.length with hlt|D2
  .have i1:(n:Int)<(l.length:Int):=by omega
   rw[QV hlt] at ha;simp only[Az,EB,Du.Cq,i1,Ap,Ak,Ag,Du.Bz hlt,cN (hl _ (AJ hlt)),BG (show n<9223372036854775807 by omega)];rw[Ct];refine⟨λhe=>by rw[ha,if_pos (by exact he)],λhe=>?_⟩;rw[if_neg (by simp[Gc,he])] at ha;exact AF.next (n+1) rfl ⟨ha,rfl⟩ (by omega)
  .have i1:¬(n:Int)<(l.length:Int):=by omega
   rw[Pq D2] at ha;simp only[Az,Du.Cq,i1,An,Ak,Ag,ha]
end
end
section
def VG(F:Aa)(q:Item->Bool):Prop:=∃f caps,F= .func (.func f) [] caps/\f<=99999/\∀(a:Item) (h:Ae),BE cx f (.agg a.row::caps) h (.bool (q a)) h
section
variable{h:Ae}{p v:Aa}{l:List Item}
theorem f42{id o:Nat}(hs:KG h id o l)(hb:l.length<=1000000000)(h2:2<=l.length):∃u,BE cx 68 [Pt id o] h (.agg (EU l).row) (put h id o u)/\BM (l.take (l.length-1)) u:=by
 obtain⟨v,hc,hv⟩:=(show KG h id o l from hs);obtain⟨u,e,hu⟩:=AL.Lb hv (k:= .i64) (show l.length-1<=l.length by omega);refine⟨u,?_,hu⟩;have e1:(l.length:Int)-1=((l.length-1:Nat):Int):=by omega
 rw[Ab,YS,t68];simp only[Az,EB,(Tu hs.at).call,(f39 hs.at hb).call,hc.load,Bn,AL.Cq hv,CJ (show -9223372036854775808<=(l.length:Int)-1 by omega) (show(l.length:Int)-1<9223372036854775808 by omega),e1,e,hc.store (AL.cells hu),show¬(l.length:Int)<2 by omega,An,Ak,Ag]
theorem qb{id o:Nat}(hs:KG h id o l)(hb:l.length<=1000000000){B A:Aa}{b a:Item->Bool}(hB:VG B b)(hA:VG A a):
  ∃u,BE cx 155 [Pt id o,B,A] h (I ((l.length:Int)-((Dr b a l).length:Int))) (put h id o u)/\BM (Dr b a l) u:=by
 obtain⟨fb,cb,rfl,sF,rb⟩:=hB;obtain⟨fa,ca,rfl,hfa,ra⟩:=hA;have hlt:=hs.lt;have Ik:Ev cx 155 [Pt id o,.func (.func fb) [] cb,.func (.func fa) [] ca] h λr h'=>r= I ((l.length:Int)-((Dr b a l).length:Int))/\∃u,h'=put h id o u/\BM (Dr b a l) u:=by
  unfold Ev;rw[mW,aAT];refine A9 (λn:Nat=>[I ((l.length:Int)-(n:Int))]) (λn h1=>n<=l.length/\(∃u,h1=put h id o u/\BM (l.take n) u)/\Dr b a l=Dr b a (l.take n)) (λn=>n) l.length (by simp) ⟨Ac _,by rw[Bu];exact hs.YF,by rw[Bu]⟩ ?_;rintro n h1 ⟨hn,⟨u,rfl,hu⟩,ha⟩;have IP:KG (put h id o u) id o (l.take n):= .M_ hlt hu;have eS:(l.take n).length=n:=by rw[Al];omega
  simp only[Az,↓reduceIte,(Tu IP.at).call,eS];match n,hn,hu,ha,IP,eS with
  |0,hn,hu,ha,IP,eS=>rw[Va (l:=l.take 0) (by simp)] at ha;simp only[Az,show¬(1:Int)<((0:Nat):Int) by omega,An,Ak,Ag];exact⟨_,rfl,by rw[ha];rfl,u,rfl,by rw[ha];exact hu⟩
  |1,hn,hu,ha,IP,eS=>rw[Va (l:=l.take 1) (by rw[eS];exact Ac _)] at ha;simp only[Az,show¬(1:Int)<((1:Nat):Int) by omega,An,Ak,Ag];exact⟨_,rfl,by rw[ha,eS],u,rfl,by rw[ha];exact hu⟩
  |m+2,hn,hu,ha,IP,eS=>
   have hm:m+1<l.length:=by omega
   have e1:((l.length:Int)-((m+2:Nat):Int))+1=(l.length:Int)-((m+1:Nat):Int):=by omega
   obtain⟨u2,hr,Il⟩:=f42 IP (by omega) (by omega);rw[Vb hm] at hr;have e2:(l.take (m+2)).take ((l.take (m+2)).length-1)=l.take (m+1):=by rw[eS,GV,Cn (by omega)];rfl
   rw[e2] at Il;rw[YD] at hr;have aGc:=f39 IP.at (by omega);rw[Vb hm] at aGc;rw[XA hm] at ha;simp only[Az,↓reduceIte,Dt,hfa,sF,show(1:Int)<((m+2:Nat):Int) by omega,Ap,Ak,Ag,aGc.call,(rb _ _).call,hr.call,(ra _ _).call,OJ (show -9223372036854775808<=((l.length:Int)-((m+2:Nat):Int))+1 by omega) (show((l.length:Int)-((m+2:Nat):Int))+1<9223372036854775808 by omega),e1];rw[Ct,Ct];refine⟨λTl=>⟨λWB=>?_,λWB=>?_⟩,λTl=>?_⟩
   .have Tl:b l[m+1]=false:=by simpa using Tl
    rw[if_neg (by simp[Tl]),if_pos WB] at ha;exact⟨_,rfl,by rw[ha,Al,Cn (by omega)],u2,rfl,by rw[ha];exact Il⟩
   .have Tl:b l[m+1]=false:=by simpa using Tl
    rw[if_neg (by simp[Tl]),if_neg (by simp[WB])] at ha;exact AF.next (m+1) rfl ⟨by omega,⟨u2,rfl,Il⟩,ha⟩ (by omega)
   .have Tl:b l[m+1]=true:=by simpa using Tl
    rw[if_pos Tl] at ha;exact⟨_,rfl,by rw[ha,eS],u,rfl,by rw[ha];exact hu⟩
 obtain⟨r,h',hr,rfl,u,rfl,hu⟩:=Ik.ret;exact⟨u,hr,hu⟩
theorem M6:VG (.func (.func 156) [] []) CC:=⟨_,_,rfl,by decide,λa h=>by rw[Ab,mX,aAU];simp only[Az,EB,CC]⟩
theorem jA{w:Aa}{ws:List As}(hw:IG ws w)(hn:ws.length<=1000000000):VG (.func (.func 157) [] [.CA [w]]) (Bp ws):=⟨_,_,rfl,by decide,λa h=>by rw[Ab,kz,aEZ];simp only[Az,EB,(cO hw hn a h).call]⟩
theorem Zb(s:As):VG (.func (.func 231) [] [.CA [.str s]]) (DZ s):=⟨_,_,rfl,by decide,λa h=>by
 rw[Ab,nY,aBn];simp only[Az,EB,zS,DZ];refine⟨λh1=>by simp[h1],λh1=>?_⟩;rw[Ct];refine⟨λh2=>?_,λh2=>?_⟩
 .have h2:a.name∉FB:=by simpa using h2
  simp[h2]
 .have h2:a.name∈FB:=by simpa using h2
  have h1:a.AX=1:=by simpa using h1
  simp[h2,h1]⟩
theorem WO:VG (.func (.func 237) [] []) Cr:=⟨_,_,rfl,by decide,λa h=>by
 rw[Ab,nl,aFv];simp only[Az,EB,zT,Cr];refine⟨λh1=>by simp[h1],λh1=>?_⟩;have h1:a.AX=1:=by simpa using h1
 simp[h1]⟩
theorem Zc(node:Int):VG (.func (.func 235) [] [.CA [I node]]) (Bm node):=⟨_,_,rfl,by decide,λa h=>by rw[Ab,oC,aBr];simp only[Az,EB,Bm]⟩
theorem aGd{id o:Nat}(hs:KG h id o l)(hb:l.length<=1000000000)(s:As):
  ∃u,BE cx 143 [Pt id o,.str s] h (I ((l.length:Int)-((Dr (DZ s) CC l).length:Int))) (put h id o u)/\BM (Dr (DZ s) CC l) u:=by
 obtain⟨u,hr,hu⟩:=qb hs hb (Zb s) M6;exact⟨u,by rw[Ab,mQ,aAO];simp only[Az,hr.call],hu⟩
theorem f66{id o:Nat}(hs:KG h id o l)(hb:l.length<=1000000000){w:Aa}{ws:List As}(hw:IG ws w)(hn:ws.length<=1000000000):
  ∃u,BE cx 70 [Pt id o,w] h (I ((l.length:Int)-((Dr CC (Bp ws) l).length:Int))) (put h id o u)/\BM (Dr CC (Bp ws) l) u:=by
 obtain⟨u,hr,hu⟩:=qb hs hb M6 (jA hw hn);exact⟨u,by rw[Ab,aAt,t70];simp only[Az,IG.cells hw,hr.call],hu⟩
theorem aK1{id o:Nat}(hs:KG h id o l)(hb:l.length<=1000000000):
  ∃u,BE cx 152 [Pt id o] h (I ((l.length:Int)-((Dr Cr CC l).length:Int))) (put h id o u)/\BM (Dr Cr CC l) u:=by
 obtain⟨u,hr,hu⟩:=qb hs hb WO M6;exact⟨u,by rw[Ab,ky,aEY];simp only[Az,hr.call],hu⟩
theorem aGe{id o:Nat}(hs:KG h id o l)(hb:l.length<=1000000000)(node:Int):
  ∃u,BE cx 147 [Pt id o,I node] h (I ((l.length:Int)-((Gd node l).length:Int))) (put h id o u)/\BM (Gd node l) u:=by
 by_cases Fh:AK (Bm node) l<0;·obtain⟨u,e,hu⟩:=hs.YF;refine⟨u,?_,by rw[Gd,if_pos Fh];exact hu⟩;rw[Gd,if_pos Fh,Int.sub_self,Ab,Y0,kq];simp only[Az,(WM hs.at hb node).call,Fh,Ap,Ak,Ag];exact e
 .obtain⟨u,hr,hu⟩:=qb hs hb M6 (Zc node);refine⟨u,?_,by rw[Gd,if_neg Fh];exact hu⟩;rw[Gd,if_neg Fh,Ab,Y0,kq];simp only[Az,(WM hs.at hb node).call,Fh,An,Ak,Ag,hr.call]
end
end
section
section
variable{h:Ae}{p v:Aa}{l:List Item}
theorem aK2(hv:BM l v){k:Nat}(hk:k<l.length)(hb:l.length<=1000000000):∃u,BE cx 249 [v,I (k:Int)] h u h/\BM (A6 l k) u:=by obtain⟨u1,e1,h1⟩:=AL.Lb hv (k:= .i64) (show k<=l.length by omega);obtain⟨u2,e2,h2⟩:=AL.Gm h1 (b:=40) (Pr (by rw[Al];omega));obtain⟨u4,e4,h4⟩:=AL.QU hv (k:= .i64) (show k+1<=l.length by omega);obtain⟨u5,e5,h5⟩:=AL.YC h2 h4 (b:=40) (Pr (by rw[Al,A7];omega));refine⟨u5,?_,h5⟩;rw[Ab,oK,aBz];simp only[Az,e1,e2,BG (show k<9223372036854775807 by omega),e4,e5]
theorem aBW{id o:Nat}(hs:KG h id o l)(hb:l.length<=1000000000)(node:Int):∃u,BE cx 178 [Pt id o,I node] h (.bool (decide (1<=AK (Bm node) l))) (put h id o u)/\BM (CF node l) u:=by
 by_cases Fh:AK (Bm node) l<1;·obtain⟨u,e,hu⟩:=hs.YF;refine⟨u,?_,by rw[CF,if_pos Fh];exact hu⟩;rw[Ab,Y4,lq,<-e];simp only[Az,(WM hs.at hb node).call,Fh,Ap,Ak,Ag,show¬1<=AK (Bm node) l by omega,Fj]
 .rcases CQ (q:=Bm node) (l:=l) with⟨h1,_⟩|⟨k,hk,h1,_⟩
  .rw[h1] at Fh;omega
  .obtain⟨v,hc,hv⟩:=(show KG h id o l from hs);obtain⟨u,hr,hu⟩:=aK2 (h:=h) hv hk hb;refine⟨u,?_,by rw[CF,if_neg Fh,h1];exact hu⟩;rw[Ab,Y4,lq];simp only[Az,(WM hs.at hb node).call,hc.load,Bn,h1];rw[h1] at Fh;simp only[Az,hr.call,Bn,hc.store (BM.cells hu),show¬(k:Int)<1 from Fh,An,Ak,Ag,show(1:Int)<=(k:Int) by omega,Ds]
theorem aK3{id o:Nat}(hs:KG h id o l)(hb:l.length<=1000000000)(a:Item)(i:Int):∃u,BE cx 179 [Pt id o,.agg a.row,I i] h (.tuple []) (put h id o u)/\BM (l.take (En i l.length)++a::l.drop (En i l.length)) u:=by
 obtain⟨v,hc,hv⟩:=(show KG h id o l from hs);obtain⟨u,hr,hu⟩:=aF9 (h:=h) hv a (n:=En i l.length) (by unfold En;omega) hb;refine⟨u,?_,hu⟩;rw[Ab,nH,aA8];have e1:(if(l.length:Int)<(if i<1 then 1 else i) then(l.length:Int) else(if i<1 then 1 else i))=((En i l.length:Nat):Int):=by unfold En;split<;>split<;>omega
 simp only[Az,EB,kD,JN,hc.load,Bn,Yz,AL.Cq hv,xE,e1,hr.call,hc.store (BM.cells hu)]
theorem f266(hv:BM l v)(hne:l≠[])(hb:l.length<=1000000000):BE cx 288 [v] h (.Cm h.length 0 l.length 4) (h++[.cells (l.map Item.row).flatten]):=by
 have e1:Aw (.GL false .sl) [v,.slnil]=some (.bool false):=by
  rcases hv with rfl|⟨rfl,hv⟩
  .rfl
  .exact absurd (by simpa using hv) hne
 have e2:Aw (.By 4) []=some (.sl 4 []):=rfl;have e3:=J8 (h:=h) (s:= .sl 4 []) (z:=4) (b:=40) (.inr rfl) hv (by simpa using hne) (by rw[Ai];exact Pr (by omega));rw[Ai] at e3;rw[Ab,oR,aBG];simp only[Az,e1,e2,e3]
section
variable{id o n z:Nat}{v w:Aa}{X Y:De}{Au:List (List Aa)}
theorem At.next(ha:At h id o v):(Am.put h id o w++[X])[h.length]?=some X/\At (Am.put h id o w++[X]) id o w/\(Am.put h id o w++[X]).set h.length Y=Am.put h id o w++[Y]:=by have e:=IB (h:=h) (id:=id) (o:=o) (u:=w);refine⟨by rw[<-e];simp,ha.put.HB,?_⟩;rw[B2 _ _ (by omega),<-e,DB];rfl
theorem At.oY(ha:At h id o v)(hv:Kn h v=some (h,v)):KV h 0 (Pt id o)=some h:=by have e1:=ha.same;obtain⟨cs,hc,e⟩:=ha;simp only[KV,hc,Bn,e,hv,Cs];rw[Hn hc] at e1;rw[e1]
theorem At.oZ(ha:At h id o v)(hr:∀r∈Au,r.length=z):KV (Am.put h id o (.Cm h.length 0 Au.length z)++[.cells Au.flatten]) 0 (Pt id o)=some (Am.put h id o (.sl z Au)++[.CG]):=by obtain⟨c1,c2,c3⟩:=ha.next (w:= .Cm h.length 0 Au.length z) (X:= .cells Au.flatten) (Y:= .CG);have f1:=JF hr c1;rw[c3] at f1;have a2:=(ha.next (w:= .Cm h.length 0 Au.length z) (X:= .CG) (Y:= .CG)).2.1;obtain⟨cs,hc,e⟩:=c2;obtain⟨QE,HV,e2⟩:=a2;simp only[KV,hc,Bn,e,f1,Cs,HV];rw[<-Hn (u:= .sl z Au) HV,YE ha.put,YD]
end
theorem aK4{id o:Nat}(hs:KG h id o l)(hb:l.length<=1000000000)(node:Int)(a:Item):∃u t,BE cx 247 [Pt id o,I node,.agg a.row] h (.bool (decide (1<=AK (Bm node) l))) (put h id o u++t)/\BM (Od node a l) u:=by
 obtain⟨v,hc,hv⟩:=(show KG h id o l from hs);by_cases Fh:AK (Bm node) l<1;·refine⟨v,[],?_,by rw[Od,if_pos Fh];exact hv⟩;have e2:=hc.oY (AL.KU hv);rw[Ab,Y7,nu,hc.same,BB];simp only[Az,EB,(WM hs.at hb node).call,Fh,Ap,Ak,Ag,e2,show¬1<=AK (Bm node) l by omega,Fj]
 .rcases CQ (q:=Bm node) (l:=l) with⟨h1,_⟩|⟨k,hk,h1,_⟩
  .rw[h1] at Fh;omega
  .have vr:¬(k:Int)<1:=by rw[h1] at Fh;exact Fh
   have hne:l≠[]:=by intro e;subst e;simp at hk
   have hcl:=f266 (h:=h) hv hne hb;have s1:=(hc.HB (t:=[De.cells (l.map Item.row).flatten])).store (u:= .Cm h.length 0 l.length 4) rfl;rw[YE hc] at s1;obtain⟨c3,c2,c4⟩:=hc.next (w:= .Cm h.length 0 l.length 4) (X:= .cells (l.map Item.row).flatten) (Y:= .cells ((l.map Item.row).set k a.row).flatten);have s2:=SU (z:=4) (xM l) c3 (i:=k) (by simpa using hk) (q:=a.row) rfl;rw[c4] at s2;have e4:Aw (.Fm 4) [.Cm h.length 0 l.length 4,I (k:Int)]=some (Pt h.length (k*4)):=EZ hk;have e2:=hc.oZ (bI (xM l) (i:=k) (q:=a.row) rfl);rw[Bj,Ai] at e2;refine⟨.sl 4 ((l.map Item.row).set k a.row),[.CG],?_,?_⟩;·rw[Ab,Y7,nu];simp only[Az,EB,(WM hs.at hb node).call,h1,vr,An,Ak,Ag,hc.load,Bn,hcl.call,s1,c2.load,e4,s2,e2,show(1:Int)<=(k:Int) by omega,Ds]
   .rw[Od,if_neg Fh,h1,AQ,BM,Fk];exact .mk
theorem cP(hv:BM l v)(hb:l.length<=1000000000)(i:Int):∃r h',BE cx 225 [v,I i] h r h'/\YG h (JH l i) r h':=by
 have Du:AL 4 (l.map Item.row) v:=hv;obtain⟨k,hk,Oz,hc⟩:∃k,k=min (max 1 i.toNat) l.length/\k<=l.length/\JH l i=l.take k:=⟨_,rfl,by omega,by
  unfold JH;rcases Nat.le_total (max 1 i.toNat) l.length with h1|h1
  .rw[Cn h1]
  .rw[Nat.min_eq_right h1,Bu,Ay h1]⟩
 obtain⟨u,e,hu⟩:=AL.Lb hv (k:= .i64) Oz;obtain⟨r,h',e2,hr⟩:=ir (h:=h) (l:=l.take k) (v:=u) hu (by rw[Al];omega);refine⟨r,h',?_,by rw[hc];exact hr⟩;rw[Ab,nc,aFq];simp only[Az,Du.Cq];refine⟨λh1=>⟨λh2=>?_,λh2=>?_⟩,λh1=>⟨λh2=>?_,λh2=>?_⟩⟩
 .have:(k:Int)=(l.length:Int):=by omega
  rw[this] at e;simp only[Az,e,e2]
 .have:(k:Int)=1:=by omega
  rw[this] at e;simp only[Az,e,e2]
 .have:(k:Int)=(l.length:Int):=by omega
  rw[this] at e;simp only[Az,e,e2]
 .have:(k:Int)=i:=by omega
  rw[this] at e;simp only[Az,e,e2]
theorem aGf(hv:BM l v)(hb:l.length<=1000000000):∃u t,BE cx 219 [v] h u (h++t)/\BM (JH l ((l.length:Int)-1)) u:=by obtain⟨r,h',hr,hc⟩:=cP (h:=h) hv hb ((l.length:Int)-1);obtain⟨u,t,e,hu⟩:=hc.KU;refine⟨u,t,?_,hu⟩;rw[Ab,mv,aFl];simp only[Az,AL.Cq hv,CJ (show -9223372036854775808<=(l.length:Int)-1 by omega) (show(l.length:Int)-1<9223372036854775808 by omega),hr.call,e]
theorem aGg(hv:BM l v)(hb:l.length<=1000000000)(node:Int):∃u t,BE cx 215 [v,I node] h u (h++t)/\BM (Gd node l) u:=by
 by_cases Fh:AK (Bm node) l<0
 .obtain⟨r,h',hr,hc⟩:=cP (h:=h) hv hb (l.length:Int);obtain⟨u,t,e,hu⟩:=hc.KU;have e1:JH l (l.length:Int)=l:=by unfold JH;rw[Ay (by omega)]
  refine⟨u,t,?_,by rw[SX,if_pos Fh];rwa [e1] at hu⟩;rw[Ab,nW,aBl];simp only[Az,(WN hv hb node).call,Fh,Ap,Ak,Ag,AL.Cq hv,hr.call,e]
 .obtain⟨r,h',hr,hc⟩:=cP (h:=h) hv hb (AK (Bm node) l);obtain⟨u,t,e,hu⟩:=hc.KU;refine⟨u,t,?_,by rw[SX,if_neg Fh];exact hu⟩;rw[Ab,nW,aBl];simp only[Az,(WN hv hb node).call,Fh,An,Ak,Ag,hr.call,e]
end
end
section
section
variable{h:Ae}{p v w:Aa}{l:List Item}{ws:List As}
theorem f85(hv:BM l v)(hb:l.length<=1000000000)(hw:IG ws w)(hn:ws.length<=1000000000):∃u t,BE cx 139 [v,w] h u (h++t)/\BM (JH l (AK (Bp ws) l)) u:=by
 have Du:AL 4 (l.map Item.row) v:=hv;have Ik:Ev cx 139 [v,w] h λr h'=>∃t,h'=h++t/\BM (JH l (AK (Bp ws) l)) r:=by
  unfold Ev;rw[kh,aEU];simp only[Az,Du.Cq,CJ (show -9223372036854775808<=(l.length:Int)-1 by omega) (show(l.length:Int)-1<9223372036854775808 by omega)];refine A9 (λn:Nat=>[.slnil,I ((n:Int)-1)]) (λn h1=>n<=l.length/\AK (Bp ws) l=AK (Bp ws) (l.take n)/\h1=h) (λn=>n) l.length rfl ⟨Ac _,by rw[Bu],rfl⟩ ?_;rintro n h1 ⟨zX,ha,rfl⟩;cases n with
  |zero=>
   have i1:¬(0:Int)<=((0:Nat):Int)-1:=by omega
   obtain⟨r,h',hr,hc⟩:=cP (h:=h1) hv hb 1;obtain⟨u,t,e,hu⟩:=hc.KU;rw[L0,IX] at ha;simp only[Az,↓reduceIte,i1,An,Ak,Ag,hr.call,e];exact⟨_,rfl,t,rfl,by rw[ha,xN];exact hu⟩
  |succ n=>
   have i2:((n+1:Nat):Int)-1=(n:Int):=by omega
   obtain⟨r,h',hr,hc⟩:=cP (h:=h1) hv hb (n:Int);obtain⟨u,t,e,hu⟩:=hc.KU;rw[Gb (by omega)] at ha;simp only[Az,Nat.reduceLeDiff,↓reduceIte,EB,i2,show(0:Int)<=(n:Int) by omega,Ap,Ak,Ag,Du.Bz (show n<l.length by omega),(f167 l[n] hw hn).call,hr.call,e,CJ (show -9223372036854775808<=(n:Int)-1 by omega) (show(n:Int)-1<9223372036854775808 by omega)];rw[Ct];refine⟨λhe=>?_,λhe=>?_⟩;·rw[if_pos he] at ha;exact⟨_,rfl,t,rfl,by rw[ha];exact hu⟩
   .rw[if_neg (by simp[he])] at ha;exact AF.next n rfl ⟨by omega,ha,rfl⟩ (by omega)
 obtain⟨r,h',hr,t,rfl,hu⟩:=Ik.ret;exact⟨r,t,hr,hu⟩
theorem f165(hv:BM l v)(hb:l.length<=1000000000)(hl:∀a∈l,a.name.length<9223372036854775807)(s:As)(all:Bool):∃u t,BE cx 212 [v,.str s,.bool all] h u (h++t)/\BM (Dr (Ef s all) CC l) u:=by
 have Du:AL 4 (l.map Item.row) v:=hv;have Ik:Ev cx 212 [v,.str s,.bool all] h λr h'=>∃t,h'=h++t/\BM (Dr (Ef s all) CC l) r:=by
  unfold Ev;rw[ml,aFf];simp only[Az,Du.Cq];refine A9 (λn:Nat=>[I (n:Int)]) (λn h1=>n<=l.length/\(l=[]\/1<=n)/\Dr (Ef s all) CC l=Dr (Ef s all) CC (l.take n)/\h1=h) (λn=>n) l.length rfl ⟨Ac _,by cases l<;>simp,by rw[Bu],rfl⟩ ?_;rintro n h1 ⟨zX,h0,ha,rfl⟩;have Hy:Dr (Ef s all) CC l=l.take n->∃u t,Kn h1 u=some (h1++t,u):=λ_=>⟨.slnil,[],by rw[BB];rfl⟩;obtain⟨r,h',hr,hc⟩:=cP (h:=h1) hv hb (n:Int);obtain⟨u,t,e,hu⟩:=hc.KU;have ecut:JH l (n:Int)=l.take n:=by
   unfold JH;rcases h0 with rfl|h0
   .simp
   .rw[AQ,Nat.max_eq_right h0]
  rw[ecut] at hu;rcases AT 1 n with hlt|D2
  .obtain⟨m,rfl⟩:∃m,n=m+2:=⟨n-2,by omega⟩;have hm:m+1<l.length:=by omega
   have i1:(1:Int)<((m+2:Nat):Int):=by omega
   have i2:((m+2:Nat):Int)-1=((m+1:Nat):Int):=by omega
   have hs:=hl _ (AJ hm);rw[XA hm] at ha;have next:Ef s all l[m+1]=false->AF cx (λn:Nat=>[I (n:Int)]) (λn h2=>n<=l.length/\(l=[]\/1<=n)/\Dr (Ef s all) CC l=Dr (Ef s all) CC (l.take n)/\h2=h1) (λn=>n)
     (λx c20=>match x with
      | .normal=> .fail
      | .exit i=>if i=0 then .call 225 [v,g c20 0] λv21=> .KU v21 λv22=> .ret .ret [v22] else .fail
      | .ret=> .KU .slnil λv23=> .ret .ret [v23])
     (λx vs h'=>x=EL.ret/\∃r,vs=[r]/\∃t,h'=h1++t/\BM (Dr (Ef s all) CC l) r) (m+2) .normal [I ((m+1:Nat):Int)] h1:=λhf=>by
    rw[if_neg (by simp[hf]),if_neg (by simp[CC])] at ha;exact AF.next (m+1) rfl ⟨by omega,.inr (by omega),ha,rfl⟩ (by omega)
   have stop:Ef s all l[m+1]=true->∃r,[u]=[r]/\∃t_1,h1++t=h1++t_1/\BM (Dr (Ef s all) CC l) r:=λhf=>by rw[if_pos hf] at ha;exact⟨_,rfl,t,rfl,by rw[ha];exact hu⟩
   simp only[Az,Nat.reduceLeDiff,↓reduceIte,EB,i1,Ap,Ak,Ag,CJ (show -9223372036854775808<=((m+2:Nat):Int)-1 by omega) (show((m+2:Nat):Int)-1<9223372036854775808 by omega),i2,Du.Bz hm,zV hs,zW hs,hr.call,e];cases all with
   |true=>
    simp only[Az,kC];refine⟨λh3=>stop (by simp[Ef,Cr,h3]),λh3=>?_⟩;rw[Ct];refine⟨λh4=>stop ?_,λh4=>?_⟩;·simp at h4;simp[Ef,Cr,h4]
    .simp at h3 h4;exact next (by simp[Ef,Cr,h3];exact h4)
   |false=>
    simp only[Az,JN];refine⟨λh3=>stop (by simp[Ef,DZ,h3]),λh3=>?_⟩;rw[Ct];refine⟨λh4=>stop ?_,λh4=>?_⟩;·simp at h4;simp[Ef,DZ,h4]
    .refine⟨λh5=>stop (by simp[Ef,DZ,h5]),λh5=>?_⟩;simp at h3 h4;exact next (by simp[Ef,DZ,h3,h4,h5])
  .have i1:¬(1:Int)<(n:Int):=by omega
   rw[Va (l:=l.take n) (by rw[Al];omega)] at ha;simp only[Az,↓reduceIte,i1,An,Ak,Ag,hr.call,e];exact⟨_,rfl,t,rfl,by rw[ha];exact hu⟩
 obtain⟨r,h',hr,t,rfl,hu⟩:=Ik.ret;exact⟨r,t,hr,hu⟩
theorem f253(hv:BM l v)(hb:l.length<=1000000000)(node:Int):∃u t,BE cx 282 [v,I node] h (.tuple [u,.bool (decide (1<=AK (Bm node) l))]) (h++t)/\BM (CF node l) u:=by
 have fb:∀(h:Ae) b,Kn h (.bool b)=some (h,.bool b):=λ_ _=>rfl;by_cases Fh:AK (Bm node) l<1
 .obtain⟨r,h',hr,hc⟩:=cP (h:=h) hv hb (l.length:Int);obtain⟨u,t,e,hu⟩:=hc.KU;have e1:JH l (l.length:Int)=l:=by unfold JH;rw[Ay (by omega)]
  refine⟨u,t,?_,by rw[CF,if_pos Fh];rwa [e1] at hu⟩;rw[Ab,Y9,o_];simp only[Az,(WN hv hb node).call,Fh,Ap,Ak,Ag,AL.Cq hv,hr.call,e,fb,show¬1<=AK (Bm node) l by omega,Fj]
 .rcases CQ (q:=Bm node) (l:=l) with⟨h1,_⟩|⟨k,hk,h1,_⟩
  .rw[h1] at Fh;omega
  .have vr:¬(k:Int)<1:=by rw[h1] at Fh;exact Fh
   obtain⟨r,h',hr,hc⟩:=cP (h:=h) hv hb (k:Int);have ecut:JH l (k:Int)=l.take k:=by unfold JH;rw[AQ,Nat.max_eq_right (by omega)]
   rw[ecut] at hc;rcases hc with⟨h2,_⟩|⟨hne,rfl,rfl⟩
   .have:=Ce List.length h2;rw[Al,BT] at this;omega
   .obtain⟨u4,e4,h4⟩:=AL.QU hv (k:= .i64) (show k+1<=l.length by omega);have yt:(l.take k).length=k:=by rw[Al];omega
    have c1:(h++[De.cells ((l.take k).map Item.row).flatten])[h.length]?=some (.cells ((l.take k).map Item.row).flatten):=by simp
    have hrw:=xM (l.take k);have hml:((l.take k).map Item.row).length=(l.take k).length:=Ai ..;by_cases hd:l.drop (k+1)=[]
    .have e5:Fo (h++[De.cells ((l.take k).map Item.row).flatten]) 4 40 (.Cm h.length 0 (l.take k).length 4) u4=some (h++[De.cells ((l.take k).map Item.row).flatten],.Cm h.length 0 (l.take k).length 4):=gM (by rw[hd] at h4;exact h4);have f1:=JF hrw c1;rw[hml,B2 _ _ (Ac _),DB] at f1;refine⟨.sl 4 ((l.take k).map Item.row),[.CG],?_,?_⟩;·rw[Ab,Y9,o_];simp only[Az,(WN hv hb node).call,h1,vr,An,Ak,Ag,BG (show k<9223372036854775807 by omega),e4,hr.call,e5,f1,fb,List.set_cons_zero,show(1:Int)<=(k:Int) by omega,Ds]
     .rw[CF,if_neg Fh,h1,AQ,A6,hd,BB];exact .mk
    .have e5:=IF (b:=40) hrw (by decide) c1 h4 (by simpa using hd) (by rw[Ai,Ai,Al,A7];exact Pr (by omega));rw[hml,Ai] at e5;rw[B2 _ _ (Ac _),DB,List.set_cons_zero,AB] at e5;have c2:(h++([De.CG]++[De.cells ((l.take k).map Item.row++(l.drop (k+1)).map Item.row).flatten]))[h.length+1]?=some (.cells ((A6 l k).map Item.row).flatten):=by rw[Bg (by omega)];simp[A6]
     have f1:=JF (xM (A6 l k)) c2;have fK:(A6 l k).length=(l.take k).length+(l.drop (k+1)).length:=by simp[A6]
     rw[Ai,fK] at f1;have e6:(h++[De.CG,De.cells ((l.take k).map Item.row++(l.drop (k+1)).map Item.row).flatten]).set (h.length+1) .CG=h++[.CG,.CG]:=by rw[B2 _ _ (by omega)];simp
     simp only[Aq,Bs,CB,BH] at e5 f1;rw[e6] at f1;refine⟨.sl 4 ((A6 l k).map Item.row),[.CG,.CG],?_,?_⟩;·rw[Ab,Y9,o_];simp only[Az,(WN hv hb node).call,h1,vr,An,Ak,Ag,BG (show k<9223372036854775807 by omega),e4,hr.call,e5,f1,fb,show(1:Int)<=(k:Int) by omega,Ds]
     .rw[CF,if_neg Fh,h1,AQ];exact .mk
theorem f254(hv:BM l v)(hb:l.length<=1000000000)(a:Item)(i:Int):∃u,BE cx 283 [v,.agg a.row,I i] h u h/\BM (l.take (En i l.length)++a::l.drop (En i l.length)) u:=by
 have Du:AL 4 (l.map Item.row) v:=hv;obtain⟨k,cQ,hk⟩:∃k,k=En i l.length/\k<=l.length:=⟨_,rfl,by unfold En;omega⟩;obtain⟨u1,e1,h1⟩:=AL.Lb hv (k:= .i64) hk;obtain⟨u2,e2,h2⟩:=AL.Gm h1 (b:=40) (Pr (by rw[Al];omega));have e3:=AL.Ja (a:=a) h2 (b:=40) (Pr (by rw[Al];omega));obtain⟨u4,e4,h4⟩:=AL.QU hv (k:= .i64) hk;obtain⟨u5,e5,h5⟩:=AL.YC (v:= .sl 4 ((l.take k++[a]).map Item.row)) .mk h4 (b:=40) (Pr (by rw[Aq,Al,A7,Bs];omega));refine⟨u5,?_,by rw[AB] at h5;rw[<-cQ];exact h5⟩;rw[Ab,pc,aFO];simp only[Az,EB,Du.Cq];unfold En at cQ;refine⟨λh1=>⟨λh2=>?_,λh2=>?_⟩,λh1=>⟨λh2=>?_,λh2=>?_⟩⟩
 .have:(k:Int)=(l.length:Int):=by omega
  rw[this] at e1 e4;simp only[Az,e1,e2,Lc,e3,e4,e5]
 .have:(k:Int)=1:=by omega
  rw[this] at e1 e4;simp only[Az,e1,e2,Lc,e3,e4,e5]
 .have:(k:Int)=(l.length:Int):=by omega
  rw[this] at e1 e4;simp only[Az,e1,e2,Lc,e3,e4,e5]
 .have:(k:Int)=i:=by omega
  rw[this] at e1 e4;simp only[Az,e1,e2,Lc,e3,e4,e5]
end
end
end Go.Am
end
