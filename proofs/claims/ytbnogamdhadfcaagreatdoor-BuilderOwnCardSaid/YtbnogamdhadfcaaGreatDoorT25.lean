/- Lemmas -/
import Derived.Test.YtbnogamdhadfcaaGreatDoorT21
import Derived.Test.YtbnogamdhadfcaaGreatDoorT22
import Derived.Test.YtbnogamdhadfcaaGreatDoorT23
import Derived.Test.YtbnogamdhadfcaaGreatDoorT24
import Derived.Test.YtbnogamdhadfcaaGreatDoorT19
set_option linter.unusedVariables false
set_option linter.unusedSimpArgs false
section
set_option maxRecDepth 100000
namespace Go.Am
open Go
abbrev zP:=List Aa->Option IT
def qc(g:IT):zP:=λl=>match l with
 |[]=>some (g)
 |_=>none
def HR(g:Aa->IT):zP:=λl=>match l with
 |[a0]=>some (g a0)
 |_=>none
def DB(g:Aa->Aa->IT):zP:=λl=>match l with
 |[a0,a1]=>some (g a0 a1)
 |_=>none
def Ll(g:Aa->Aa->Aa->IT):zP:=λl=>match l with
 |[a0,a1,a2]=>some (g a0 a1 a2)
 |_=>none
def iY(g:Aa->Aa->Aa->Aa->IT):zP:=λl=>match l with
 |[a0,a1,a2,a3]=>some (g a0 a1 a2 a3)
 |_=>none
def aBK(g:Aa->Aa->Aa->Aa->Aa->IT):zP:=λl=>match l with
 |[a0,a1,a2,a3,a4]=>some (g a0 a1 a2 a3 a4)
 |_=>none
def VB(f:Nat)(g:zP):Prop:=∀l t,g l=some t->t=B5 cx f l
theorem zQ{f:Nat}{g:IT}(h:B5 cx f []=g):VB f (qc g):=by
 intro l t ht;unfold qc at ht;split at ht;·cases ht;exact(h).symm
 .cases ht
theorem DN{f:Nat}{g:Aa->IT}(h:∀a0,B5 cx f [a0]=g a0):VB f (HR g):=by
 intro l t ht;unfold HR at ht;split at ht;·cases ht;exact(h _).symm
 .cases ht
theorem B3{f:Nat}{g:Aa->Aa->IT}(h:∀a0 a1,B5 cx f [a0,a1]=g a0 a1):VB f (DB g):=by
 intro l t ht;unfold DB at ht;split at ht;·cases ht;exact(h _ _).symm
 .cases ht
theorem Gm{f:Nat}{g:Aa->Aa->Aa->IT}(h:∀a0 a1 a2,B5 cx f [a0,a1,a2]=g a0 a1 a2):VB f (Ll g):=by
 intro l t ht;unfold Ll at ht;split at ht;·cases ht;exact(h _ _ _).symm
 .cases ht
theorem VC{f:Nat}{g:Aa->Aa->Aa->Aa->IT}(h:∀a0 a1 a2 a3,B5 cx f [a0,a1,a2,a3]=g a0 a1 a2 a3):VB f (iY g):=by
 intro l t ht;unfold iY at ht;split at ht;·cases ht;exact(h _ _ _ _).symm
 .cases ht
theorem aBL{f:Nat}{g:Aa->Aa->Aa->Aa->Aa->IT}(h:∀a0 a1 a2 a3 a4,B5 cx f [a0,a1,a2,a3,a4]=g a0 a1 a2 a3 a4):VB f (aBK g):=by
 intro l t ht;unfold aBK at ht;split at ht;·cases ht;exact(h _ _ _ _ _).symm
 .cases ht
def vp:List (Nat×zP):=[(8,HR t8),(12,qc t12),(13,DB t13),(15,DB t15),(16,Ll t16),(17,HR t17),(22,DB t22),(24,HR t24),(29,DB t29),(30,DB t30),(31,DB t31),(32,HR t32),(33,DB t33),(35,DB t35),(42,DB t42),(43,DB t43),(44,Ll t44),(45,DB t45),(46,iY t46),(47,iY t47),(48,DB t48),(49,Ll t49),(50,DB t50),(51,HR t51),(52,HR t52),(53,HR t53),(54,HR t54),(58,Ll t58),(63,DB t63),(68,HR t68),(71,HR t71),(74,HR t74),(84,DB t84),(85,DB t85),(86,DB t86),(87,DB t87),(88,DB t88),(89,Ll t89),(90,Ll t90),(91,HR t91),(92,DB t92),(93,DB vo),(94,DB t94),(106,DB aAv),(107,DB aAw),(108,DB aAx),(109,HR t109),(110,aBK jy),(111,DB jz),(112,DB aAy),(113,DB j_),(114,DB aAz),(115,iY YY),(116,Ll aAA),(117,DB aAB),(118,DB zK),(119,HR aAC),(120,DB aAD),(121,DB aAE),(122,Ll aAF),(141,iY ky),(143,DB aAM),(144,DB aAN),(145,HR zM),(146,HR t146),(147,DB k_),(148,DB t148),(151,DB aAO),(153,Ll aAP),(154,HR aAQ),(155,Ll aAR),(156,HR aAS),(158,DB aAT),(159,HR lp),(160,HR aAU),(161,HR aAV),(167,DB aAW),(168,DB aAX),(169,HR aAY),(170,HR aAZ),(171,DB l_),(172,DB aA0),(173,Ll aA1),(174,Ll aA2),(175,DB aA3),(176,iY aA4),(177,Ll aA5),(178,DB ma),(179,Ll aA6),(193,HR aBb),(194,DB aBc),(195,DB zN),(196,DB aBd),(198,DB mh),(200,DB aBe),(201,HR aBf),(202,DB aBg),(203,qc aBh),(204,DB aBi),(229,Ll aBk),(231,DB aBl),(232,HR aBm),(233,DB aBn),(234,DB aBo),(235,DB aBp),(236,DB aBq),(239,DB aBr),(241,DB aBs),(242,DB aBt),(243,DB aBu),(244,DB n_),(245,Ll aBv),(246,DB aBw),(247,Ll oa),(248,Ll ob),(249,DB aBx),(263,HR aFv),(265,Ll aBz),(268,HR aBA),(285,HR zO),(286,Ll aBC),(287,DB aBD),(288,HR aBE),(300,DB aFN),(304,DB aBF),(309,HR aBG),(310,HR aBH),(311,DB aBI),(318,Ll aBJ),(100054,HR OZ)]
def zR:List (Nat×zP)->Prop
 |[]=>True
 |(f,g)::l=>VB f g/\zR l
theorem zS:zR vp:=
 ⟨DN yD,zQ yE,B3 iL,B3 yF,Gm Vx,DN yG,B3 yH,DN yI,B3 yJ,B3 yK,B3 Vy,DN yL,B3 iM,B3 yM,B3 iN,B3 iO,Gm yN,B3 iP,VC iQ,VC Vz,B3 yO,Gm yP,B3 yQ,DN yR,DN yS,DN iR,DN iS,Gm yT,B3 yW,DN YU,DN yY,DN yZ,B3 zA,B3 iU,B3 zB,B3 zC,B3 zD,Gm zE,Gm zF,DN zG,B3 zH,B3 Qc,B3 zI,B3 lY,B3 lZ,B3 l8,DN mA,aBL YV,B3 YW,B3 mB,B3 YX,B3 mC,VC LI,Gm mD,B3 mE,B3 T3,DN mF,B3 mG,B3 mH,Gm mI,VC Y0,B3 mQ,B3 mR,DN T5,DN mS,B3 Y1,B3 Y2,B3 mT,Gm mU,DN mV,Gm mW,DN mX,B3 mY,DN Y3,DN mZ,DN m6,B3 m7,B3 m8,DN m9,DN nA,B3 Y4,B3 nB,Gm nC,Gm nD,B3 nE,VC nF,Gm nG,B3 Y5,Gm nH,DN nM,B3 nN,B3 T6,B3 nO,B3 Y6,B3 nQ,DN nS,B3 nT,zQ nU,B3 nV,Gm nX,B3 nY,DN nZ,B3 oA,B3 oB,B3 oC,B3 oD,B3 oE,B3 oF,B3 oG,B3 oH,B3 Y7,Gm oI,B3 oJ,Gm Y8,Gm Y9,B3 oK,DN oj,Gm oM,DN oN,DN T7,Gm oP,B3 oQ,DN oR,B3 py,B3 oS,DN oT,DN oU,B3 oV,Gm oW,DN Lj,trivial⟩
def qd(f:Nat):List (Nat×zP)->List Aa->Option IT
 |[],_=>none
 |(k,g)::l,args=>if Nat.beq k f then g args else qd f l args
theorem oY{f:Nat}{args:List Aa}{t:IT}:∀{l:List (Nat×zP)},zR l->qd f l args=some t->t=B5 cx f args
 |[],_,h=>by cases h
 |(k,g)::l,ha,h=>by
  simp only[qd] at h;split at h;·rename_i hk;have hk:k=f:=Nat.eq_of_beq_eq_true hk;subst hk;exact ha.1 _ _ h
  .exact oY ha.2 h
noncomputable def tab(f:FuncId)(args:List Aa):IT:=match qd f vp args with
 |some t=>t
 |none=>B5 cx f args
theorem zT:tab=B5 cx:=by
 funext f args;unfold tab;split;·rename_i t h;exact oY zS h
 .rfl
def VD:Option Js->Bool
 |some (.ret,[.bool true],_)=>true
 |_=>false
theorem WM{r:Option Js}(h:VD r=true):∃h',r=some (.ret,[.bool true],h'):=by
 unfold VD at h;split at h;·exact⟨_,rfl⟩
 .cases h
theorem sF{f:FuncId}{args:List Aa}{h:Ag}(n:Nat)(hr:VD (IT.run tab n (tab f args) h)=true):Ev cx f args h λr _=>r= .bool true:=by obtain⟨h',e⟩:=WM hr;rw[zT] at e;exact⟨n,_,_,_,e,rfl,_,rfl,rfl⟩
end Go.Am
end
section
namespace Go.Am
open Go
set_option maxRecDepth 100000
section
theorem aKu(s:As):JI cx 232 [.str s] (.bool (decide (s∈FB))):=by rw[LV,nZ];rw[show aBm (.str s)=sw s (.ret .ret [tt]) (.ret .ret [ff]) FB from rfl,xJ];exact⟨λh=>by simp[h],λh=>by simp[h]⟩
section
variable{Q:Post}{h:Ag}{k:Aa->IT}{s:As}
@[simp] theorem zU:W cx (.Bk 232 [.str s] k) Q h↔W cx (k (.bool (decide (s∈FB)))) Q h:=(aKu s).Bk rfl rfl
end
theorem aKv(s:As):JI cx 238 [.str s] (.bool (decide (s∈I1\/s∈FB))):=by rw[LV,nz];rw[show aFq (.str s)=sw s (.ret .ret [tt]) (.Bk 232 [.str s] λv=> .ret .ret [v]) I1 from rfl,xJ];exact⟨λh=>by simp[h],λh=>by simp[h]⟩
theorem aKw(n:Int)(s:As):JI cx 200 [I n,.str s] (.bool (decide (n=3/\s∈JK))):=by
 rw[LV,nQ,aBe];by_cases h:n=3;·simp[h,JK];by_cases h1:s=[109,105]<;>by_cases h2:s=[109,110]<;>by_cases h3:s=[109,111]<;>by_cases h4:s=[109,115]<;>simp[h1,h2,h3,h4]
 .simp[h]
section
variable{Q:Post}{h:Ag}{k:Aa->IT}{s:As}{n:Int}
@[simp] theorem zV:W cx (.Bk 238 [.str s] k) Q h↔W cx (k (.bool (decide (s∈I1\/s∈FB)))) Q h:=(aKv s).Bk rfl rfl
@[simp] theorem aFS:W cx (.Bk 200 [I n,.str s] k) Q h↔W cx (k (.bool (decide (n=3/\s∈JK)))) Q h:=(aKw n s).Bk rfl rfl
end
theorem aFT(n:Int)(s:As):JI cx 117 [I n,.str s] (.bool (D1 n s)):=by
 rw[LV,mE];rw[show aAB (I n) (.str s)= .op (.int .eql) [I n,I 3] λv=> .AJ v (.op (.str .eql) [.str s,S aSF] λv=> .AJ v (.ret .ret [tt]) (.Bk 200 [I n,.str s] λv=> .ret .ret [v]))
  (.op (.int .eql) [I n,I 2] λv=> .AJ v (sw s (.ret .ret [tt]) (.op (.str .eql) [.str s,S aS9] λv=> .ret .ret [v]) [aTl,aSP])
  (.op (.int .eql) [I n,I 1] λv=> .AJ v (sw s (.ret .ret [tt]) (.ret .ret [ff]) Ml) (.ret .ret [ff]))) from rfl]
 by_cases h3:n=3;·by_cases h:s=aSF<;>simp[h3,D1,h]
 .by_cases h2:n=2;·by_cases ha:s=aTl<;>by_cases hb:s=aSP<;>simp[h2,xJ,D1,ON,ha,hb]
  .by_cases h1:n=1;·by_cases h:s∈Ml<;>simp[h1,xJ,D1,h]
   .simp[h3,h2,h1,D1]
section
variable{Q:Post}{h:Ag}{k:Aa->IT}{s:As}{n:Int}
@[simp] theorem VE:W cx (.Bk 117 [I n,.str s] k) Q h↔W cx (k (.bool (D1 n s))) Q h:=(aFT n s).Bk rfl rfl
end
end
section
theorem f277(s:As)(c:UInt8)(hs:s.length<9223372036854775807):JI cx 259 [.str s,.int .u8 (c.toNat:Int)] (.bool (decide (c∈s))):=by
 rw[LV,od,aFr];refine Bd (λn:Nat=>[.bool false,I (n:Int)]) (λn _=>n<=s.length/\c∉s.take n) (λn=>s.length-n) 0 rfl ⟨AO _,by simp⟩ ?_;rintro n h ⟨hn,hc⟩;rcases AN n s.length with hlt|DT
 .simp only[AA,LG hlt,BB (show n<9223372036854775807 by omega)];refine⟨λ_=>⟨λhe=>?_,λhe=>?_⟩,λh=>absurd (Int.ofNat_lt.2 hlt) h⟩
  .have e:s[n]=c:=by rw[<-UInt8.toNat_inj];exact Int.ofNat.inj he
   simp only[AD (show c∈s from e▸AI hlt)]
  .refine AF.next (n+1) rfl ⟨hlt,?_⟩ (by omega);rw[Av hlt,Ap,not_or];refine⟨hc,λh=>he ?_⟩;rw[Fk] at h;rw[<-h]
 .simp only[AA];refine⟨λh=>absurd (Int.ofNat_lt.1 h) (by omega),λ_=>?_⟩;rw[Az DT] at hc;simp[hc]
theorem aFU(l s:As)(hl:l.length<9223372036854775806)(hs:s.length<9223372036854775807):JI cx 188 [.str l,.str s] (.bool (FC l s)):=by
 rw[LV,mc,aEY];have aKx:JI cx 259 [.str s,.int .u8 32] (.bool (decide ((32:UInt8)∈s))):=f277 s 32 hs;simp only[AA,aKx.Bk rfl rfl];refine⟨λh=>by simp[FC,h],λh0=>⟨λh=>by simp[FC,h],λh1=>?_⟩⟩;refine Bd (λp:Nat×Nat=>[.bool false,I (p.1:Int),I (p.2:Int)])
  (λp _=>(p.1<=p.2/\p.2<=l.length/\(s∈C4 [] l↔s∈C4 ((l.take p.2).drop p.1) (l.drop p.2)))\/(p.2=l.length+1/\s∉C4 [] l)) (λp=>l.length+1 -p.2) (0,0) rfl (.inl ⟨Ac _,AO _,by simp⟩) ?_
 rintro⟨a,n⟩ h aBM;rcases aBM with⟨Wk,hn,VF⟩|⟨hn,Wh⟩
 .simp only at Wk hn VF;have i1:(n:Int)<=(l.length:Int):=by omega
  rcases AN n l.length with hlt|DT
  .have i2:¬(n:Int)=(l.length:Int):=by omega
   simp only[AA,i1,i2,Aq,An,forall_const,Aj,LG hlt,BB (show n<9223372036854775807 by omega),M0 Wk hn];rw[AH hlt,Od] at VF;refine⟨λhe=>?_,λhe=>?_⟩
   .have e:l[n]=32:=by rw[<-UInt8.toNat_inj];exact Int.ofNat.inj he
    rw[if_pos e,AP] at VF;refine⟨λhw=>?_,λhw=>?_⟩;·have:s∈C4 [] l:=VF.2 (.inl hw.symm);simp[FC,h0,h1,this]
    .refine AF.next (n+1,n+1) rfl (.inl ⟨Ac _,hlt,?_⟩) (by simp only;omega);rw[VF,List.drop_take_self];exact⟨λh=>h.resolve_left (λh=>hw h.symm),.inr⟩
   .have e:¬l[n]=32:=λe=>he (by rw[e];rfl);rw[if_neg e] at VF;refine AF.next (a,n+1) rfl (.inl ⟨by simp only;omega,hlt,?_⟩) (by simp only;omega);rw[VF,bI Wk hlt]
  .have e:n=l.length:=by omega
   subst e;simp only[AA,HW,Aq,Aj,Ak,M0 Wk hn,BB (show l.length<9223372036854775807 by omega)];rw[AY (Ac _),Pu] at VF;rw[Fk] at VF;refine⟨λhw=>?_,λhw=>?_⟩;·have:s∈C4 [] l:=VF.2 hw.symm;simp[FC,h0,h1,this]
   .exact AF.next (l.length+1,l.length+1) rfl (.inr ⟨rfl,λh=>hw (VF.1 h).symm⟩) (by simp only;omega)
 .simp only at hn;subst hn;have i1:¬((l.length+1:Nat):Int)<=(l.length:Int):=by omega
  simp only[AA,i1,An,Aj,Ak];simp[FC,Wh]
end
section
theorem Iz{Q:Post}{h:Ag}{k:Aa->IT}{l s:As}(hl:l.length<9223372036854775806)(hs:s.length<9223372036854775807):W cx (.Bk 188 [.str l,.str s] k) Q h↔W cx (k (.bool (FC l s))) Q h:=(aFU l s hl hs).Bk rfl rfl
section
variable{Q:Post}{h:Ag}{k:Aa->IT}{s:As}
theorem iZ(hs:s.length<9223372036854775807):W cx (.Bk 188 [.str aSy,.str s] k) Q h↔W cx (k (.bool (decide (s∈Ml)))) Q h:=by rw[Iz (by decide+kernel) hs,gJ]
theorem Zc(hs:s.length<9223372036854775807):W cx (.Bk 188 [.str aSS,.str s] k) Q h↔W cx (k (.bool (decide (s∈JK)))) Q h:=by rw[Iz (by decide+kernel) hs,YC]
theorem S5(hs:s.length<9223372036854775807):W cx (.Bk 188 [.str aSH,.str s] k) Q h↔W cx (k (.bool (decide (s∈ON)))) Q h:=by rw[Iz (by decide+kernel) hs,bJ]
theorem VG(hs:s.length<9223372036854775807):W cx (.Bk 188 [.str aSD,.str s] k) Q h↔W cx (k (.bool (decide (s∈FB)))) Q h:=by rw[Iz (by decide+kernel) hs,gK]
theorem cK(hs:s.length<9223372036854775807):W cx (.Bk 188 [.str aSE,.str s] k) Q h↔W cx (k (.bool (decide (s∈I1)))) Q h:=by rw[Iz (by decide+kernel) hs,bK]
theorem sG(hs:s.length<9223372036854775807):W cx (.Bk 188 [.str aSO,.str s] k) Q h↔W cx (k (.bool (decide (s∈M1)))) Q h:=by rw[Iz (by decide+kernel) hs,rI]
theorem i5(hs:s.length<9223372036854775807):W cx (.Bk 188 [.str aST,.str s] k) Q h↔W cx (k (.bool (decide (s∈Lb)))) Q h:=by rw[Iz (by decide+kernel) hs,gL]
theorem zW(hs:s.length<9223372036854775807):W cx (.Bk 188 [.str aTn,.str s] k) Q h↔W cx (k (.bool (decide (s∈P4)))) Q h:=by rw[Iz (by decide+kernel) hs,xK]
theorem sH(hs:s.length<9223372036854775807):W cx (.Bk 188 [.str aSA,.str s] k) Q h↔W cx (k (.bool (decide (s∈OO)))) Q h:=by rw[Iz (by decide+kernel) hs,rJ]
end
theorem aKy(s:As)(hs:s.length<9223372036854775807):JI cx 273 [.str s] (.bool (decide (s∈FB))):=by rw[LV,ou,aFA];simp only[AA,VG hs]
theorem aKz(s:As)(hs:s.length<9223372036854775807):JI cx 274 [.str s] (.bool (decide (s∈I1\/s∈FB))):=by rw[LV,ov,aFB];simp only[AA,VG hs,cK hs];refine⟨λh=>by simp[h],λh=>by simp[h]⟩
theorem f169(n:Int)(s:As)(hs:s.length<9223372036854775807):JI cx 216 [I n,.str s] (.bool (D1 n s)):=by rw[LV,my,aFc];simp only[AA,Zc hs,iZ hs,S5 hs,D1];refine⟨λh=>by simp[h],λh1=>⟨λh2=>⟨λh3=>by simp[h2,h3],λh3=>by simp[h2,h3]⟩,λh2=>⟨λh3=>by simp[h3],λh3=>by simp[h1,h2,h3]⟩⟩⟩
section
variable{Q:Post}{h:Ag}{k:Aa->IT}{s:As}{n:Int}
theorem zX(hs:s.length<9223372036854775807):W cx (.Bk 273 [.str s] k) Q h↔W cx (k (.bool (decide (s∈FB)))) Q h:=(aKy s hs).Bk rfl rfl
theorem zY(hs:s.length<9223372036854775807):W cx (.Bk 274 [.str s] k) Q h↔W cx (k (.bool (decide (s∈I1\/s∈FB)))) Q h:=(aKz s hs).Bk rfl rfl
theorem cL(hs:s.length<9223372036854775807):W cx (.Bk 216 [I n,.str s] k) Q h↔W cx (k (.bool (D1 n s))) Q h:=(f169 n s hs).Bk rfl rfl
end
end
section
theorem aKA(c:UInt8):JI cx 260 [.int .u8 (c.toNat:Int)] (.bool (decide (65<=c.toNat/\c.toNat<=90))):=by
 rw[LV,oe,aFs];simp only[AA];refine⟨λh=>?_,λh=>?_⟩
 .have e:65<=c.toNat:=by omega
  have e2:((c.toNat:Int)<=90)=(c.toNat<=90):=by rw[eq_iff_iff];omega
  simp[e,e2]
 .have e:¬65<=c.toNat:=by omega
  simp[e]
theorem aBN(s:As)(hs:s.length<=AT):JI cx 189 [.str s] (.str (Ff s)):=by
 have TR:s.length<=140737488355328:=hs;rw[LV,me,aEZ];refine Bd (λp:Nat×Aa=>[p.2,I (p.1:Int)]) (λp _=>p.1<=s.length/\AM 1 (B1 (Ff (s.take p.1))) p.2) (λp=>s.length-p.1) (0,.slnil) rfl ⟨AO _,.nil⟩ ?_;rintro⟨n,v⟩ h ⟨hn,hv⟩;simp only at hn hv;rcases AN n s.length with hlt|DT
 .have i1:(n:Int)<(s.length:Int):=by omega
  have hb:((B1 (Ff (s.take n))).length+1)*1<=AT:=by rw[WJ];simp[Ff,AT];omega
  simp only[AA,i1,Aq,Ak,Aj,LG hlt,(aKA _).Bk rfl rfl,BB (show n<9223372036854775807 by omega)];refine⟨λhe=>?_,λhe=>?_⟩
  .simp only[AA,Yz,wrap_u8 (show 0<=((s[n].toNat:Int)+32)/\((s[n].toNat:Int)+32)<=255 by omega),La (a:= .int .u8 ((s[n].toNat:Int)+32)) (z:=1) rfl (by decide),hv.xG hb];refine AF.next (n+1,_) rfl ⟨hlt,?_⟩ (by simp only;omega);rw[P5 hlt,Ps];have e:B1 [H8 s[n]]=[[.int .u8 ((s[n].toNat:Int)+32)]]:=by simp[B1,QR he]
   rw[e];exact .mk
  .simp only[AA,La (a:= .int .u8 (s[n].toNat:Int)) (z:=1) rfl (by decide),hv.xG hb];refine AF.next (n+1,_) rfl ⟨hlt,?_⟩ (by simp only;omega);rw[P5 hlt,Ps,M2 he];exact .mk
 .have i1:¬(n:Int)<(s.length:Int):=by omega
  have e:s.take n=s:=Az DT;rw[e] at hv;simp only[AA,i1,An,Ak,Aj,hv.KW,hv.Tc]
theorem aKB(a b:Int)(h:Ag):BI cx 304 [.int .i32 a,.int .i32 b] h (.func (.func 318) [] [.CB [.int .i32 a],.CB [.int .i32 b]]) h:=by rw[Ab,oS,aBF];simp only[AA]
theorem aKC(c a b:Int)(h:Ag):BI cx 318 [.int .i32 c,.CB [.int .i32 a],.CB [.int .i32 b]] h (.bool (decide (a<=c/\c<=b))) h:=by rw[Ab,oW,aBJ];simp only[AA];refine⟨λh=>by simp[h],λh=>by simp[h]⟩
theorem aKD(c:Int):JI cx 268 [.int .i32 c] (.bool (decide (65<=c/\c<=90))):=by rw[LV,oN,aBA];simp only[AA,Nat.reduceLeDiff,↓reduceIte,(aKB _ _ _).call,Dt,(aKC _ _ _ _).call]
theorem aBO(s:As)(hs:s.length<=AT):JI cx 201 [.str s] (.str (Ff s)):=by
 have TR:s.length<=140737488355328:=hs;rw[LV,nS,aBf];have e1:IQ [] (.str s)=some ([.cells ((GR s 0).map Ns)],.Ck 0 0 s.length 1):=by simp only[IQ,hs,BO];rfl
 have e2:Aw (.len false) [.Ck 0 0 s.length 1]=some (I (s.length:Int)):=rfl;simp only[AA,e1,e2];refine Bd (λn:Nat=>[I (n:Int)]) (λn h=>n<=s.length/\h=[.cells ((GR s n).map Ns)]) (λn=>s.length-n) 0 rfl ⟨AO _,rfl⟩ ?_;rintro n h ⟨hn,rfl⟩;rcases AN n s.length with hlt|DT
 .have i1:(n:Int)<(s.length:Int):=by omega
  have e3:Aw (.EE 1) [.Ck 0 0 s.length 1,I (n:Int)]=some (Pt 0 n):=by simp[Aw,elemOf,L4,hlt]
  have e4:A9 [.cells ((GR s n).map Ns)] none (Pt 0 n)=some (.int .u8 (s[n].toNat:Int)):=gM (by rw[Cc,U7 hlt];rfl);have e5:IntKind.i32.wrap (s[n].toNat:Int)=(s[n].toNat:Int):=xH (by have:=s[n].toNat_lt;omega);simp only[AA,i1,Aq,Ak,Aj,e3,e4,T0,e5,(aKD _).Bk rfl rfl,BB (show n<9223372036854775807 by omega)];refine⟨λhe=>?_,λhe=>?_⟩
  .have vq:65<=s[n].toNat/\s[n].toNat<=90:=by omega
   have e6:Cd [.cells ((GR s n).map Ns)] 1 (Pt 0 n) (.int .u8 ((s[n].toNat:Int)-65+97))=some [.cells (((GR s n).map Ns).set n (.int .u8 ((s[n].toNat:Int)-65+97)))]:=bM (by rw[Ah,U6];exact hlt) rfl;simp only[AA,gH,Yz,wrap_u8 (show 0<=((s[n].toNat:Int)-65)/\((s[n].toNat:Int)-65)<=255 by omega),wrap_u8 (show 0<=((s[n].toNat:Int)-65+97)/\((s[n].toNat:Int)-65+97)<=255 by omega),e6];refine AF.next (n+1) rfl ⟨hlt,?_⟩ (by omega);rw[QS hlt,Fj];have e7:Ns (H8 s[n])= .int .u8 ((s[n].toNat:Int)-65+97):=by unfold Ns;rw[QR vq];congr 1;omega
   rw[e7]
  .have Wh:¬(65<=s[n].toNat/\s[n].toNat<=90):=by omega
   refine AF.next (n+1) rfl ⟨hlt,?_⟩ (by omega);rw[QS hlt,M2 Wh,xL (U7 hlt)]
 .have i1:¬(n:Int)<(s.length:Int):=by omega
  have en:n=s.length:=by omega
  subst en;have e8:Kp [.cells ((GR s s.length).map Ns)] (.Ck 0 0 s.length 1)=some ([.CH],.sl 1 (B1 (Ff s))):=by
   have hl:(Ff s).length=s.length:=by simp[Ff]
   rw[bL];simp only[Kp,JR];rw[if_pos (by simp[hl])];rw[Oe (Ff s) s.length 0 (by omega)];simp
  simp only[AA,i1,An,Ak,Aj,e8,AM.Tc (s:=Ff s) .mk]
end
section
def Q9(l:As)(ws:List As):Prop:=Ev cx 263 [.str l] [] λr _=>r= .sl 1 (ws.map CI)
theorem PC{l:As}{ws:List As}(n:Nat)(hr:(IT.run tab n (tab 263 [.str l]) []).map (λx=>(x.1,x.2.1))=some (.ret,[.sl 1 (ws.map CI)])):Q9 l ws:=by obtain⟨⟨x,vs,h⟩,e1,e2⟩:=de.1 hr;cases e2;rw[zT] at e1;exact⟨n,_,_,_,e1,rfl,_,rfl,rfl⟩
theorem aFV{l:As}{ws:List As}(hf:Q9 l ws)(hw:∀w∈ws,w.length<=AT)(hn:ws.length<9223372036854775807)(name:As):JI cx 194 [.str name,.str l] (.str (Cb name ws)):=by
 rw[LV,nN,aBc];refine uQ (hf.mono λr h1 e=>?_);subst e;have dU:AM 1 (ws.map CI) (.sl 1 (ws.map CI)):= .mk;simp only[AA,dU.len];refine Bd (λn:Nat=>[.str [],I (n:Int)]) (λn _=>n<=ws.length/\Cb name ws=Cb name (ws.drop n)) (λn=>ws.length-n) 0 rfl ⟨AO _,rfl⟩ ?_;rintro n h ⟨zZ,ha⟩;rcases AN n ws.length with hlt|DT
 .have i1:(n:Int)<((ws.map CI).length:Int):=by simp;omega
  have Ra:n<(ws.map CI).length:=by simpa using hlt
  have e1:(ws.map CI)[n]=[.str ws[n]]:=by simp[CI]
  rw[AH hlt,Cb] at ha;simp only[AA,i1,Aq,Ak,Aj,dU.EE Ra,e1,(aBO ws[n] (hw _ (AI hlt))).Bk rfl rfl,BB (show n<9223372036854775807 by omega)];refine⟨λhe=>?_,λhe=>?_⟩;·rw[ha,if_pos he]
  .rw[if_neg he] at ha;exact AF.next (n+1) rfl ⟨hlt,ha⟩ (by omega)
 .have i1:¬(n:Int)<((ws.map CI).length:Int):=by simp;omega
  rw[AY DT,Cb] at ha;simp only[AA,i1,An,Ak,Aj,ha]
theorem aFW(l name:As)(hl:l.length<=AT):JI cx 284 [.str l,.str name] (.str (Cb name (C4 [] l))):=by
 have hl':l.length<=140737488355328:=hl;rw[LV,po,aFJ];refine Bd (λp:Nat×Nat=>[.str [],I (p.1:Int),I (p.2:Int)])
  (λp _=>(p.1<=p.2/\p.2<=l.length/\Cb name (C4 [] l)=Cb name (C4 ((l.take p.2).drop p.1) (l.drop p.2)))\/(p.2=l.length+1/\Cb name (C4 [] l)=name)) (λp=>l.length+1 -p.2) (0,0) rfl (.inl ⟨Ac _,AO _,by simp⟩) ?_
 rintro⟨a,n⟩ h aBM;rcases aBM with⟨Wk,hn,ha⟩|⟨hn,Wh⟩
 .simp only at Wk hn ha;have i1:(n:Int)<=(l.length:Int):=by omega
  have Me:((l.take n).drop a).length<=AT:=by simp[AT];omega
  rcases AN n l.length with hlt|DT
  .have i2:¬(n:Int)=(l.length:Int):=by omega
   simp only[AA,i1,i2,Aq,An,Aj,Ak,LG hlt,BB (show n<9223372036854775807 by omega),M0 Wk hn,(aBN _ Me).Bk rfl rfl];rw[AH hlt,Od] at ha;refine⟨λhe=>?_,λhe=>?_⟩
   .have e:l[n]=32:=by rw[<-UInt8.toNat_inj];exact Int.ofNat.inj he
    rw[if_pos e,Cb] at ha;refine⟨λhw=>?_,λhw=>?_⟩;·rw[ha,if_pos hw]
    .rw[if_neg hw] at ha;refine AF.next (n+1,n+1) rfl (.inl ⟨Ac _,hlt,?_⟩) (by simp only;omega);rw[ha,List.drop_take_self]
   .have e:¬l[n]=32:=λe=>he (by rw[e];rfl);rw[if_neg e] at ha;refine AF.next (a,n+1) rfl (.inl ⟨by simp only;omega,hlt,?_⟩) (by simp only;omega);rw[ha,bI Wk hlt]
  .have e:n=l.length:=by omega
   subst e;simp only[AA,HW,Aq,Aj,Ak,M0 Wk hn,BB (show l.length<9223372036854775807 by omega),(aBN _ Me).Bk rfl rfl];rw[AY (Ac _),Pu,Cb,Cb] at ha;refine⟨λhw=>?_,λhw=>?_⟩;·rw[ha,if_pos hw]
   .rw[if_neg hw] at ha;exact AF.next (l.length+1,l.length+1) rfl (.inr ⟨rfl,ha⟩) (by simp only;omega)
 .simp only at hn;subst hn;have i1:¬((l.length+1:Nat):Int)<=(l.length:Int):=by omega
  simp only[AA,i1,An,Aj,Ak,Wh]
theorem Tv:Q9 KR H7:=PC 5000 (by kernel_rfl)
theorem Tw:Q9 Mm Hi:=PC 5000 (by kernel_rfl)
theorem aKE(s:As):JI cx 109 [.str s] (.str (Cb s H7)):=by rw[LV,mA,show t109 (.str s)= .Bk 194 [.str s,.str KR] λv=> .ret .ret [v] from rfl];rw[(aFV (l:=KR) Tv (by decide+kernel) (by decide+kernel) s).Bk rfl rfl];simp only[AA]
theorem f181(s:As):JI cx 227 [.str s] (.str (Cb s H7)):=by rw[LV,nr,show aFm (.str s)= .Bk 284 [.str KR,.str s] λv=> .ret .ret [v] from rfl];rw[(aFW KR s (by decide+kernel)).Bk rfl rfl,U8];simp only[AA]
theorem aFX(s:As):JI cx 193 [.str s] (.str (Cb s Hi)):=by rw[LV,nM,show aBb (.str s)= .Bk 194 [.str s,.str Mm] λv=> .ret .ret [v] from rfl];rw[(aFV (l:=Mm) Tw (by decide+kernel) (by decide+kernel) s).Bk rfl rfl];simp only[AA]
end
section
theorem aKF{v:Aa}{l:List AU}(hv:Bz l v)(hn:l.length<9223372036854775807)(h:Ag){f:FuncId}{p:AU->Bool}(hp:∀a∈l,BI cx f [.agg a.row] h (.bool (p a)) h)(hf:f<=99999):
  BI cx 118 [v,.func (.func f) [] []] h (I (Ca p 0 l)) h:=by
 rw[Ab,T3,zK];have hlen:(l.map AU.row).length=l.length:=Ah ..;simp only[AA,AM.len hv];refine Bd (λn:Nat=>[I 0,I (n:Int)]) (λn h1=>n<=l.length/\Ca p 0 l=Ca p n (l.drop n)/\h1=h) (λn=>l.length-n) 0 rfl ⟨AO _,rfl,rfl⟩ ?_;rintro n h1 ⟨zZ,ha,rfl⟩;rcases AN n l.length with hlt|DT
 .have i1:(n:Int)<((l.map AU.row).length:Int):=by rw[hlen];omega
  have e1:(l.map AU.row)[n]'(by rw[hlen];exact hlt)=AU.row l[n]:=by simp
  have e2:ER (AU.row l[n]) 0 (some 3)=some (.agg (AU.row l[n])):=by simp[AU.row]
  rw[AH hlt,Ca] at ha;simp only[AA,↓reduceIte,Dt,hf,Bv,i1,Aq,Ak,Aj,AM.EE hv (show n<(l.map AU.row).length by rw[hlen];exact hlt),e1,e2,(hp _ (AI hlt)).call];rw[Cu];refine⟨λhe=>?_,λhe=>?_⟩;·rw[ha,if_pos he]
  .rw[if_neg (by simp[he])] at ha;simp only[AA,BB (show n<9223372036854775807 by omega)];exact AF.next (n+1) rfl ⟨hlt,ha,rfl⟩ (by omega)
 .have i1:¬(n:Int)<((l.map AU.row).length:Int):=by rw[hlen];omega
  rw[AY DT,Ca] at ha;simp only[AA,↓reduceIte,Dt,hf,i1,An,Ak,Aj,ha]
theorem aKG(a:AU)(h:Ag):BI cx 119 [.agg a.row] h (.bool (Nu a)) h:=by rw[Ab,mF,aAC,AU.row];simp only[AA,Nu];refine⟨λh=>by simp[h],λh=>by simp[h]⟩
theorem aFY(a b:As)(ha:a.length<=AT)(hb:b.length<=AT):JI cx 120 [.str a,.str b] (.bool (decide (Ff a=Ff b))):=by rw[LV,mG,aAD];simp only[AA,(aBO a ha).Bk rfl rfl,(aBO b hb).Bk rfl rfl]
theorem f96{v:Aa}{l:List AU}(hv:Bz l v)(hl:∀a∈l,a.value.length<=AT)(hn:l.length<9223372036854775807)(n:Int)(s:As)(h:Ag):BI cx 49 [I n,.str s,v] h (.bool (EJ n s l)) h:=by
 rw[Ab,yP,t49];simp only[AA,VE,(aKF hv hn h (λa _=>aKG a h) (by decide)).call,EJ];refine⟨λh2=>by simp[h2],λh2=>⟨λh3=>by simp[h2,h3],λh3=>⟨λh4=>by simp[h2,h3,h4],λh4=>?_⟩⟩⟩;rw[if_neg h2,if_neg h3,if_neg h4];rcases GS (p:=Nu) (l:=l) (k:=0) with⟨h5,h6⟩|⟨k,a,h5,h6,h7⟩
 .rw[h5,h6];simp
 .rw[h5,h7,BJ];obtain⟨hk,e⟩:=Ae.1 h6;have hk':k<(l.map AU.row).length:=by simpa using hk
  have e1:(l.map AU.row)[k]=AU.row a:=by simp[e]
  have i1:(0:Int)<=(k:Int):=by omega
  have PR:a.value.length<=AT:=hl a (e▸AI hk);have e2:Ff lN=lN:=SZ (by decide+kernel);have e3:Ff YD=YD:=SZ (by decide+kernel);simp only[AA,i1,Aq,Ak,Aj,AM.EE hv hk',e1,AU.row,(aFY a.value lN PR (by decide)).Bk rfl rfl,(aFY a.value YD PR (by decide)).Bk rfl rfl,e2,e3];refine⟨λh=>by simp[h],λh=>by simp[h]⟩
theorem aFZ{v:Aa}{l:List AU}(hv:Bz l v)(hl:∀a∈l,a.value.length<=AT)(hn:l.length<9223372036854775807)(n:Int)(s:As)(hs:s.length<9223372036854775807)(h:Ag):BI cx 100 [I n,.str s,v] h (.bool (EJ n s l)) h:=by
 rw[Ab,js,aEA];simp only[AA,S5 hs,EJ];refine⟨λh2=>by simp[h2,D1],λh2=>⟨λh3=>by simp[h2,h3],λh3=>⟨λh4=>by simp[h2,h3,h4],λh4=>?_⟩⟩⟩;rw[if_neg h2,if_neg h3,if_neg h4];have hlen:(l.map AU.row).length=l.length:=Ah ..;refine Bd (λn:Nat=>[.bool false,I (n:Int)]) (λn h1=>n<=l.length/\l.find? Nu=(l.drop n).find? Nu/\h1=h) (λn=>l.length-n) 0 rfl ⟨AO _,rfl,rfl⟩ ?_;rintro n h1 ⟨zZ,ha,rfl⟩;rcases AN n l.length with hlt|DT
 .have i1:(n:Int)<((l.map AU.row).length:Int):=by rw[hlen];omega
  have e1:(l.map AU.row)[n]'(by rw[hlen];exact hlt)=AU.row l[n]:=by simp
  rw[AH hlt,I5] at ha;simp only[AA,AM.len hv,i1,Aq,Ak,Aj,AM.EE hv (show n<(l.map AU.row).length by rw[hlen];exact hlt),e1,AU.row,(aBN _ (hl _ (AI hlt))).Bk rfl rfl,BB (show n<9223372036854775807 by omega)];refine⟨λh5=>⟨λh6=>?_,λh6=>?_⟩,λh5=>?_⟩
  .have he:Nu l[n]=true:=by simp[Nu,h5,h6]
   rw[he] at ha;rw[ha];exact⟨λh7=>by simp[h7],λh7=>by simp[h7]⟩
  .have he:Nu l[n]=false:=by simp[Nu,h6]
   rw[he] at ha;exact AF.next (n+1) rfl ⟨hlt,ha,rfl⟩ (by omega)
  .have he:Nu l[n]=false:=by simp[Nu,h5]
   rw[he] at ha;exact AF.next (n+1) rfl ⟨hlt,ha,rfl⟩ (by omega)
 .have i1:¬(n:Int)<((l.map AU.row).length:Int):=by rw[hlen];omega
  rw[AY DT,List.find?_nil] at ha;rw[ha];simp only[AA,AM.len hv,i1,An,Ak,Aj]
end
section
section
variable{α:Type}{f:α->List Aa}{l l2:List α}{v v2:Aa}{z b:Nat}{k k2:IntKind}
end
section
variable{h:Ag}{p:Aa}{l:List Item}
theorem Tx(hs:tY h p l):BI cx 24 [p] h (I (l.length:Int)) h:=by
 rw[Ab,yI,t24];rcases hs with⟨rfl,rfl⟩|⟨id,o,v,rfl,hc,hv⟩
 .simp
 .simp only[AA,I9,hc.load,Bn,hv.Cp]
theorem VH(hs:tY h p l)(i:Int):BI cx 22 [p,I i] h (.agg (GB l i).row) h:=by
 rw[Ab,yH,t22];simp only[AA,↓reduceIte,AK,(Tx hs).call];refine⟨λhi=>by rw[M3 (.inl hi)];simp[Item.row,Item.zero],λhi=>⟨λhl=>by rw[M3 (.inr hl)];simp[Item.row,Item.zero],λhl=>?_⟩⟩;rcases hs with⟨rfl,rfl⟩|⟨id,o,v,rfl,hc,hv⟩
 .simp at hl;omega
 .obtain⟨n,rfl⟩:=O3 (show 0<=i by omega);have hn:n<l.length:=by omega
  simp only[AA,Nat.reduceLeDiff,↓reduceIte,EC,hc.load,Bn,hv.BA hn,Hj hn]
theorem f39(hs:tY h p l)(hn:l.length<=1000000000):BI cx 91 [p] h (.agg (EW l).row) h:=by rw[Ab,zG,t91];simp only[AA,EC,(Tx hs).call,CK (show -9223372036854775808<=(l.length:Int)-1 by omega) (show(l.length:Int)-1<9223372036854775808 by omega),(VH hs _).call,EW]
def Tz(F:Aa)(h:Ag)(q:Item->Bool):Prop:=∃f caps,F= .func (.func f) [] caps/\f<=99999/\∀a:Item,BI cx f (.agg a.row::caps) h (.bool (q a)) h
theorem Tz.FH{F:Aa}{q:Item->Bool}(hF:Tz F h q)(a:Item){k:Aa->IT}{Q:Post}:W cx (.FH F [.agg a.row] k) Q h↔W cx (k (.bool (q a))) Q h:=by obtain⟨f,caps,rfl,hf,hr⟩:=hF;rw[LF];simp only[Dt,hf,↓reduceIte,BD,CC,Mk,(hr a).call]
theorem aBP(hs:tY h p l)(hn:l.length<=1000000000){F:Aa}{q:Item->Bool}(hF:Tz F h q):BI cx 233 [p,F] h (I (AL q l)) h:=by
 obtain⟨f,caps,rfl,hf,hr⟩:=hF;rw[Ab,oA,aBn];simp only[AA,(Tx hs).call,CK (show -9223372036854775808<=(l.length:Int)-1 by omega) (show(l.length:Int)-1<9223372036854775808 by omega)];refine Bd (λn:Nat=>[I 0,I ((n:Int)-1)]) (λn h1=>n<=l.length/\AL q l=AL q (l.take n)/\h1=h) (λn=>n) l.length rfl ⟨Ac _,by rw[Bu],rfl⟩ ?_;rintro n h1 ⟨zZ,ha,rfl⟩;cases n with
 |zero=>
  have i1:¬(0:Int)<=((0:Nat):Int)-1:=by omega
  rw[ha];simp only[AA,↓reduceIte,Dt,hf,i1,An,Ak,Aj,I2]
 |succ n=>
  have i1:(0:Int)<=((n+1:Nat):Int)-1:=by omega
  have i2:((n+1:Nat):Int)-1=(n:Int):=by omega
  rcases hs with⟨rfl,rfl⟩|⟨id,o,v,rfl,hc,hv⟩
  .simp at zZ
  .rw[Gb (by omega)] at ha;simp only[AA,Nat.reduceLeDiff,↓reduceIte,Dt,EC,hf,i2,show(0:Int)<=(n:Int) by omega,Aq,Ak,Aj,hc.load,Bn,hv.BA (show n<l.length by omega),(hr l[n]).call,CK (show -9223372036854775808<=(n:Int)-1 by omega) (show(n:Int)-1<9223372036854775808 by omega)];rw[Cu];refine⟨λhe=>?_,λhe=>?_⟩;·rw[ha,if_pos he]
   .rw[if_neg (by simp[he])] at ha;exact AF.next n rfl ⟨by omega,ha,rfl⟩ (by omega)
theorem aKH{v:Aa}{ws:List As}(hv:IK ws v)(hn:ws.length<=1000000000)(s:As)(h:Ag):BI cx 202 [v,.str s] h (I (Ca (λw=>decide (s=w)) 0 ws)) h:=by
 rw[Ab,nT,aBg];have hv:AM 1 (ws.map CI) v:=hv;simp only[AA,hv.Cp];refine Bd (λn:Nat=>[I 0,I (n:Int)]) (λn h1=>n<=ws.length/\Ca (λw=>decide (s=w)) 0 ws=Ca (λw=>decide (s=w)) n (ws.drop n)/\h1=h) (λn=>ws.length-n) 0 rfl ⟨AO _,rfl,rfl⟩ ?_;rintro n h1 ⟨zZ,ha,rfl⟩;rcases AN n ws.length with hlt|DT
 .have i1:(n:Int)<(ws.length:Int):=by omega
  rw[AH hlt,Ca] at ha;simp only[AA,i1,Aq,Ak,Aj,hv.BA hlt,CI,BB (show n<9223372036854775807 by omega)];refine⟨λhe=>?_,λhe=>?_⟩;·rw[ha,if_pos (by simpa using he)]
  .rw[if_neg (by simpa using he)] at ha;exact AF.next (n+1) rfl ⟨hlt,ha,rfl⟩ (by omega)
 .have i1:¬(n:Int)<(ws.length:Int):=by omega
  rw[AY DT,Ca] at ha;simp only[AA,i1,An,Ak,Aj,ha]
theorem aF0{v:Aa}{ws:List As}(hv:IK ws v)(hn:ws.length<=1000000000)(s:As)(h:Ag):BI cx 121 [v,.str s] h (.bool (decide (s∈ws))) h:=by rw[Ab,mH,aAE];simp only[AA,(aKH hv hn s h).call,iz]
theorem cM{v:Aa}{ws:List As}(hv:IK ws v)(hn:ws.length<=1000000000)(a:Item)(h:Ag):BI cx 158 [.agg a.row,v] h (.bool (Bq ws a)) h:=by rw[Ab,mY,aAT];simp only[AA,EC,(aF0 hv hn _ h).call,Bq];refine⟨λh1=>by simp[h1],λh1=>by simp[h1]⟩
theorem f289(a:Item)(h:Ag):BI cx 309 [.agg a.row] h (.bool (Bq M1 a)) h:=by rw[Ab,oT,aBG];simp only[AA,EC,gN,(cM (ws:=M1) CS (by decide) a h).call]
theorem f290(a:Item)(h:Ag):BI cx 310 [.agg a.row] h (.bool (!Bq Lb a)) h:=by rw[Ab,oU,aBH];simp only[AA,EC,bO,(cM (ws:=Lb) CS (by decide) a h).call]
theorem f291(n:Int)(h4:n≠4)(h5:n≠5)(a:Item)(h:Ag):BI cx 311 [.agg a.row,.CB [I n]] h (.bool (IL n a)) h:=by have b1:=cM (ws:=OO) CS (by decide) a h;have b2:=cM (ws:=P4) CS (by decide) a h;have b3:=cM (ws:=[aSJ]) CS (by decide) a h;rw[Ab,oV,aBI];simp only[AA,EC,VE,gO,rK,rL,b1.call,b2.call,b3.call,IL,h4,h5];refine⟨λh1=>by simp[h1],λh1=>⟨λh2=>by simp[h2],λh2=>?_⟩⟩;rw[Cu];simp only[h1,h2,or_self,Ef];refine⟨λh3=>by simp[h3],λh3=>⟨λh6=>?_,λh6=>⟨λh7=>by simp[h3,h7],λh7=>by simp[h3,h6,h7]⟩⟩⟩;rw[Cu];exact⟨λh7=>by simp[h3,h6,h7],λh7=>⟨λh8=>by omega,λh8=>by simp[h3,h7,h8]⟩⟩
theorem f264(n:Int)(h:Ag):∃F,BI cx 285 [I n] h F h/\Tz F h (IL n)/\F.cells=[F]:=by
 by_cases h4:n=4
 .refine⟨.func (.func 309) [] [],?_,⟨_,_,rfl,by decide,λa=>?_⟩,rfl⟩;·rw[Ab,T7,zO];simp only[AA,h4,Aq,Ak,Aj]
  .have:=f289 a h;simpa[IL,h4] using this
 .by_cases h5:n=5
  .refine⟨.func (.func 310) [] [],?_,⟨_,_,rfl,by decide,λa=>?_⟩,rfl⟩;·rw[Ab,T7,zO];simp only[AA,h5,Aq,Ak,Aj];simp
   .have:=f290 a h;simpa[IL,h5] using this
  .refine⟨.func (.func 311) [] [.CB [I n]],?_,⟨_,_,rfl,by decide,λa=>f291 n h4 h5 a h⟩,rfl⟩;rw[Ab,T7,zO];simp only[AA,h4,h5,An,Ak,Aj]
theorem aKI{F1 F2:Aa}{q e:Item->Bool}(h1:Tz F1 h q)(h2:Tz F2 h e)(a:Item):BI cx 286 [.agg a.row,.CB [F1],.CB [F2]] h (.bool (q a||e a)) h:=by have c1:=λk Q=>h1.FH a (k:=k) (Q:=Q);have c2:=λk Q=>h2.FH a (k:=k) (Q:=Q);rw[Ab,oP,aBC];obtain⟨f,caps,rfl,hf,r1⟩:=h1;obtain⟨f',caps',rfl,vZ,r2⟩:=h2;simp only[AA,↓reduceIte,Dt,EC,hf,vZ,(r1 a).call,(r2 a).call];rw[Cu];exact⟨λh=>by simp[h],λh=>by simp[h]⟩
theorem aF1(hs:tY h p l)(hn:l.length<=1000000000)(n:Int){F:Aa}{q:Item->Bool}(hF:Tz F h q):BI cx 229 [p,I n,F] h (.bool (I6 q (IL n) l.reverse)) h:=by
 obtain⟨G,hG,aF2,IU⟩:=f264 n h;have hFc:F.cells=[F]:=by obtain⟨f,caps,rfl,hf,_⟩:=hF;rfl
 have hF':=hF;have hfit:Tz (.func (.func 286) [] [.CB [F],.CB [G]]) h (λa=>q a||IL n a):=⟨286,_,rfl,by decide,λa=>aKI hF aF2 a⟩;rw[Ab,nX,aBk];simp only[AA,↓reduceIte,Dt,hFc,hG.call,IU,(aBP hs hn hfit).call];rw[<-gP l true];rcases CR (q:=λa=>q a||IL n a) (l:=l) with⟨h1,h2⟩|⟨k,hk,h1,h2,h3⟩
 .simp[h1]
 .have c1:(0:Int)<=(k:Int)/\(k:Int).toNat<l.length:=⟨by omega,by simpa using hk⟩;simp only[h1];rw[dif_pos c1];rcases hs with⟨rfl,rfl⟩|⟨id,o,v,rfl,hc,hv⟩
  .simp at hk
  .obtain⟨f,caps,rfl,hf,hr⟩:=hF';simp only[AA,Nat.reduceLeDiff,↓reduceIte,EC,hf,c1.1,Aq,Ak,Aj,hc.load,Bn,hv.BA hk,(hr l[k]).call,AS]
theorem aKJ{v:Aa}{ws:List As}(hv:IK ws v)(hn:ws.length<=1000000000)(a:Item)(h:Ag):BI cx 230 [.agg a.row,.CB [v]] h (.bool (Bq ws a)) h:=by have b:=cM hv hn a h;rw[Ab,nv,aFo];simp only[AA,EC,b.call]
theorem aKK(hs:tY h p l)(hn:l.length<=1000000000)(n:Int){v:Aa}{ws:List As}(hv:IK ws v)(hw:ws.length<=1000000000):BI cx 142 [p,I n,v] h (.bool (I6 (Bq ws) (IL n) l.reverse)) h:=by have hfit:Tz (.func (.func 230) [] [.CB [v]]) h (Bq ws):=⟨230,_,rfl,by decide,λa=>aKJ hv hw a h⟩;rw[Ab,kz,aEP];simp only[AA,hv.cells,(aF1 hs hn n hfit).call]
theorem aKL(node:Int)(a:Item)(h:Ag):BI cx 246 [.agg a.row,.CB [I node]] h (.bool (Bp node a)) h:=by rw[Ab,oJ,aBw,Item.row];simp only[AA,EC,Bp]
theorem aKM(hs:tY h p l)(hn:l.length<=1000000000)(n node:Int):BI cx 174 [p,I n,I node] h (.bool (I6 (Bp node) (IL n) l.reverse)) h:=by have hfit:Tz (.func (.func 246) [] [.CB [I node]]) h (Bp node):=⟨246,_,rfl,by decide,λa=>aKL node a h⟩;rw[Ab,nD,aA2];simp only[AA,(aF1 hs hn n hfit).call]
theorem aKN(node:Int)(a:Item)(h:Ag):BI cx 234 [.agg a.row,.CB [I node]] h (.bool (Bp node a)) h:=by rw[Ab,oB,aBo,Item.row];simp only[AA,EC,Bp]
theorem WN(hs:tY h p l)(hn:l.length<=1000000000)(node:Int):BI cx 144 [p,I node] h (I (AL (Bp node) l)) h:=by have hfit:Tz (.func (.func 234) [] [.CB [I node]]) h (Bp node):=⟨234,_,rfl,by decide,λa=>aKN node a h⟩;rw[Ab,mR,aAN];simp only[AA,(aBP hs hn hfit).call]
theorem aKO(s:As)(a:Item)(h:Ag):BI cx 236 [.agg a.row,.CB [.str s]] h (.bool (Bq [s] a)) h:=by have b:=cM (ws:=[s]) CS (show[s].length<=1000000000 by simp) a h;rw[Ab,oD,aBq];simp only[AA,EC,DE (ws:=[s]) (args:=[.str s]) rfl (by simp),b.call]
theorem aBQ(hs:tY h p l)(hn:l.length<=1000000000)(s:As):BI cx 151 [p,.str s] h (I (AL (Bq [s]) l)) h:=by have hfit:Tz (.func (.func 236) [] [.CB [.str s]]) h (Bq [s]):=⟨236,_,rfl,by decide,λa=>aKO s a h⟩;rw[Ab,mT,aAO];simp only[AA,(aBP hs hn hfit).call]
end
end
section
section
variable{h:Ag}{p v:Aa}{l:List Item}
theorem aF3(hv:BM l v)(a:Item){n:Nat}(hn:n<=l.length)(hb:l.length<=1000000000):∃u,BI cx 116 [v,.agg a.row,I (n:Int)] h u h/\BM (l.take n++a::l.drop n) u:=by
 have SB:(l.length+1)*40<=AT:=by have:AT=140737488355328:=rfl;omega
 obtain⟨u1,e1,h1⟩:=AM.Lc hv (k:= .i64) hn;obtain⟨u2,e2,h2⟩:=AM.Gk h1 (b:=40) (by rw[Al];have:AT=140737488355328:=rfl;omega);have e3:=AM.Jg (a:=a) h2 (b:=40) (by rw[Al];have:AT=140737488355328:=rfl;omega);obtain⟨u4,e4,h4⟩:=AM.QT hv (k:= .i64) hn;obtain⟨u5,e5,h5⟩:=AM.YE (v:= .sl 4 ((l.take n++[a]).map Item.row)) .mk h4 (b:=40) (by rw[Ao,Al,A8,Bc];have:AT=140737488355328:=rfl;omega);refine⟨u5,?_,by rw[Ax] at h5;exact h5⟩;rw[Ab,mD,aAA];simp only[AA,EC,e1,e2,Ld,e3,e4,e5]
theorem f95{id o:Nat}(hs:KJ h id o l)(hb:l.length<=1000000000)(a:Item):∃u,BI cx 48 [Pt id o,.agg a.row] h (.tuple []) (put h id o u)/\BM (l++[a]) u:=by obtain⟨v,hc,hv⟩:=hs;obtain⟨u,hr,hu⟩:=aF3 (h:=h) hv a (n:=l.length) (Ac _) hb;rw[Bu,Fo] at hu;refine⟨u,?_,hu⟩;rw[Ab,yO,t48];simp only[AA,EC,kD,JS,hc.load,Bn,AM.Cp hv,hr.call,hc.store hu.cells]
theorem aKP(hs:tY h p l)(hb:l.length<=1000000000)(node:Int):BI cx 175 [p,I node] h (I (DA node l)) h:=by
 rw[Ab,nE,aA3];have hbd: -1<=AL (Bp node) l/\AL (Bp node) l<l.length+1:=by rcases CR (q:=Bp node) (l:=l) with⟨h1,h2⟩|⟨n,hn,h1,h2,h3⟩<;>rw[h1]<;>omega
 simp only[AA,(WN hs hb node).call,OP (show -9223372036854775808<=AL (Bp node) l+1 by omega) (show AL (Bp node) l+1<9223372036854775808 by omega)];rw[HN];by_cases Fh:AL (Bp node) l<0
 .rw[if_pos Fh];refine Bd (λn:Nat=>[I 0,I (AL (Bp node) l+1)]) (λn h1=>h1=h) (λn=>n) 0 rfl rfl ?_;rintro n h1 rfl;have i1:¬0<=AL (Bp node) l:=by omega
  simp only[AA,i1,An,Ak,Aj]
 .rw[if_neg Fh];have i0:0<=AL (Bp node) l:=by omega
  obtain⟨m,hm⟩:=O3 i0;refine Bd (λn:Nat=>[I 0,I (n:Int)]) (λn h1=>Ep Gc l (m+1)=Ep Gc l n/\h1=h) (λn=>l.length-n) (m+1) (by rw[hm];rfl) ⟨rfl,rfl⟩ ?_;rw[hm,AS];rintro n h1 ⟨ha,rfl⟩;simp only[AA,show(0:Int)<=(m:Int) by omega,Aq,Ak,Aj,(Tx hs).call];rcases AN n l.length with hlt|DT
  .have i1:(n:Int)<(l.length:Int):=by omega
   rw[QU hlt] at ha;rcases hs with⟨rfl,rfl⟩|⟨id,o,v,rfl,hc,hv⟩
   .simp at hlt
   .simp only[AA,EC,i1,Aq,Ak,Aj,hc.load,Bn,AM.BA hv hlt,VE,BB (show n<9223372036854775807 by omega)];rw[Cu];refine⟨λhe=>?_,λhe=>?_⟩;·rw[ha,if_pos (by exact he)]
    .rw[if_neg (by simp[Gc,he])] at ha;exact AF.next (n+1) rfl ⟨ha,rfl⟩ (by omega)
  .have i1:¬(n:Int)<(l.length:Int):=by omega
   rw[Pv DT] at ha;simp only[AA,i1,An,Ak,Aj,ha]
theorem aF4(hv:BM l v)(i:Int):BI cx 305 [v,I i] h (.agg (GB l i).row) h:=by
 have hv:AM 4 (l.map Item.row) v:=hv;rw[Ab,pz,aFO];simp only[AA,↓reduceIte,AK,hv.Cp];refine⟨λhi=>by rw[M3 (.inl hi)];simp[Item.row,Item.zero],λhi=>⟨λhl=>by rw[M3 (.inr hl)];simp[Item.row,Item.zero],λhl=>?_⟩⟩;obtain⟨n,rfl⟩:=O3 (show 0<=i by omega);have hn:n<l.length:=by omega
 simp only[AA,Nat.reduceLeDiff,↓reduceIte,EC,hv.BA hn,Hj hn]
theorem aKQ(hv:BM l v)(hb:l.length<=1000000000):BI cx 276 [v] h (.agg (EW l).row) h:=by rw[Ab,o_,aFD];simp only[AA,EC,AM.Cp hv,CK (show -9223372036854775808<=(l.length:Int)-1 by omega) (show(l.length:Int)-1<9223372036854775808 by omega),(aF4 hv _).call,EW]
theorem f167(a:Item){ws:List As}(hv:IK ws v)(hn:ws.length<=1000000000):BI cx 214 [.agg a.row,v] h (.bool (Bq ws a)) h:=by
 rw[Ab,mw,aFb];simp only[AA,EC];refine⟨λh1=>by simp[Bq,h1],λh1=>?_⟩;have h1:a.A0=1:=by simpa using h1
 have hv:AM 1 (ws.map CI) v:=hv;refine Bd (λn:Nat=>[.bool false,I (n:Int)]) (λn h1=>n<=ws.length/\(a.name∈ws↔a.name∈ws.drop n)/\h1=h) (λn=>ws.length-n) 0 rfl ⟨AO _,Iff.rfl,rfl⟩ ?_;rintro n h2 ⟨zZ,ha,rfl⟩;rcases AN n ws.length with hlt|DT
 .have i1:(n:Int)<(ws.length:Int):=by omega
  rw[AH hlt,AP] at ha;simp only[AA,hv.Cp,i1,Aq,Ak,Aj,hv.BA hlt,CI,BB (show n<9223372036854775807 by omega)];refine⟨λhe=>?_,λhe=>?_⟩;·have:a.name∈ws:=ha.2 (.inl he.symm);simp[Bq,h1,this]
  .exact AF.next (n+1) rfl ⟨hlt,ha.trans ⟨λh=>h.resolve_left (λh=>he h.symm),.inr⟩,rfl⟩ (by omega)
 .have i1:¬(n:Int)<(ws.length:Int):=by omega
  rw[AY DT] at ha;simp only[AA,hv.Cp,i1,An,Ak,Aj];have:a.name∉ws:=λh=>by simpa using ha.1 h
  simp[Bq,this]
theorem aKR(n:Int)(a:Item)(hs:a.name.length<9223372036854775807):BI cx 308 [.agg a.row,I n] h (.bool (IL n a)) h:=by
 rw[Ab,qb,aFR];simp only[AA,EC,sG hs,i5 hs,zW hs,sH hs,cL hs,IL,Bq];by_cases h1:a.A0=1
 .have e1:¬a.A0=3:=by omega
  have e2:¬a.A0=2:=by omega
  simp only[h1,D8,MY,LZ,Aj,Aq,kC,forall_const];by_cases h4:n=4;·simp[h4]
  .by_cases h5:n=5;·simp[h5]
   .by_cases h2:n=2;·simp[h2];by_cases hl:a.name∈P4<;>simp[hl]
    .by_cases h3:n=3;·simp[h3];by_cases hl:a.name=aSJ<;>simp[hl]
     .simp[h4,h5,h2,h3]
 .simp only[h1,Fi,OL,false_and,Ak,Aj,An,JS];by_cases h4:n=4;·simp[h4]
  .by_cases h5:n=5;·simp[h5]
   .by_cases h3:a.A0=3\/a.A0=2;·simp[h4,h5,h3]
    .have e1:¬a.A0=3:=λe=>h3 (.inl e);have e2:¬a.A0=2:=λe=>h3 (.inr e);simp[h4,h5,e1,e2,D1,h1]
theorem aF5(hv:BM l v)(hb:l.length<=1000000000)(hl:∀a∈l,a.name.length<9223372036854775807){i:Nat}(hi:i<=l.length)(n:Int):BI cx 272 [v,I (i:Int),I n] h (.bool (!((l.drop (i+1)).any (IL n)))) h:=by
 have hv:AM 4 (l.map Item.row) v:=hv;rw[Ab,ot,aFz];simp only[AA,BB (show i<9223372036854775807 by omega)];refine Bd (λm:Nat=>[.bool false,I (m:Int)]) (λm h1=>(l.drop (i+1)).any (IL n)=(l.drop m).any (IL n)/\h1=h) (λm=>l.length-m) (i+1) rfl ⟨rfl,rfl⟩ ?_;rintro m h1 ⟨ha,rfl⟩;rcases AN m l.length with hlt|DT
 .have i1:(m:Int)<(l.length:Int):=by omega
  rw[AH hlt,List.any_cons] at ha;simp only[AA,Nat.reduceLeDiff,↓reduceIte,EC,hv.Cp,i1,Aq,Ak,Aj,hv.BA hlt,(aKR n l[m] (hl _ (AI hlt))).call,BB (show m<9223372036854775807 by omega)];rw[Cu];refine⟨λhe=>by rw[ha,he];rfl,λhe=>?_⟩;rw[he,Jn] at ha;exact AF.next (m+1) rfl ⟨ha,rfl⟩ (by omega)
 .have i1:¬(m:Int)<(l.length:Int):=by omega
  rw[AY DT] at ha;simp only[AA,↓reduceIte,hv.Cp,i1,An,Ak,Aj,ha,List.any_nil,JS]
theorem aKS(hv:BM l v)(hb:l.length<=1000000000)(hl:∀a∈l,a.name.length<9223372036854775807)(n:Int){w:Aa}{ws:List As}(hw:IK ws w)(hn:ws.length<=1000000000):BI cx 211 [v,I n,w] h (.bool (I6 (Bq ws) (IL n) l.reverse)) h:=by
 have Du:AM 4 (l.map Item.row) v:=hv;rw[Ab,mq,aE8,<-bP];refine Bd (λm:Nat=>[.bool false,I (m:Int)]) (λm h1=>m<=l.length/\Va (Bq ws) (IL n) l=Va (Bq ws) (IL n) (l.drop m)/\h1=h) (λm=>l.length-m) 0 rfl ⟨AO _,rfl,rfl⟩ ?_;rintro m h1 ⟨hm,ha,rfl⟩;rcases AN m l.length with hlt|DT
 .have i1:(m:Int)<(l.length:Int):=by omega
  rw[AH hlt,Va] at ha;simp only[AA,Nat.reduceLeDiff,↓reduceIte,EC,Du.Cp,i1,Aq,Ak,Aj,Du.BA hlt,(f167 l[m] hw hn).call,(aF5 hv hb hl (WU hlt) n).call,BB (show m<9223372036854775807 by omega)];rw[Cu,Cu];refine⟨λh1=>⟨λh2=>by rw[ha,h1,h2];rfl,λh2=>?_⟩,λh1=>?_⟩;·rw[h2,Bool.and_false,Jn] at ha;exact AF.next (m+1) rfl ⟨hlt,ha,rfl⟩ (by omega)
  .rw[h1,Bool.false_and,Jn] at ha;exact AF.next (m+1) rfl ⟨hlt,ha,rfl⟩ (by omega)
 .have i1:¬(m:Int)<(l.length:Int):=by omega
  rw[AY DT,Va] at ha;simp only[AA,↓reduceIte,Du.Cp,i1,An,Ak,Aj,ha]
theorem WO(hv:BM l v)(hb:l.length<=1000000000)(node:Int):BI cx 275 [v,I node] h (I (AL (Bp node) l)) h:=by
 have hv:AM 4 (l.map Item.row) v:=hv;rw[Ab,oz,aFC];refine Bd (λn:Nat=>[I (AL (Bp node) (l.take n)),I (n:Int)]) (λn h1=>n<=l.length/\h1=h) (λn=>l.length-n) 0 rfl ⟨AO _,rfl⟩ ?_;rintro n h1 ⟨hn,rfl⟩;rcases AN n l.length with hlt|DT
 .have i1:(n:Int)<(l.length:Int):=by omega
  have e:=Gb (q:=Bp node) hlt;simp only[AA,EC,hv.Cp,i1,Aq,Ak,Aj,hv.BA hlt,BB (show n<9223372036854775807 by omega)];refine⟨λhe=>?_,λhe=>?_⟩;·rw[if_pos (by simpa[Bp] using he)] at e;exact AF.next (n+1) (by rw[e]) ⟨hlt,rfl⟩ (by omega)
  .rw[if_neg (by simpa[Bp] using he)] at e;exact AF.next (n+1) (by rw[e]) ⟨hlt,rfl⟩ (by omega)
 .have i1:¬(n:Int)<(l.length:Int):=by omega
  simp only[AA,hv.Cp,i1,An,Ak,Aj,Az DT]
theorem aBR(hv:BM l v)(hb:l.length<=1000000000)(s:As):BI cx 222 [v,.str s] h (I (AL (Bq [s]) l)) h:=by
 have hv:AM 4 (l.map Item.row) v:=hv;have b:=λa=>f167 (h:=h) a (ws:=[s]) CS (show[s].length<=1000000000 by simp);rw[Ab,nh,aFh];refine Bd (λn:Nat=>[I (AL (Bq [s]) (l.take n)),I (n:Int)]) (λn h1=>n<=l.length/\h1=h) (λn=>l.length-n) 0 rfl ⟨AO _,rfl⟩ ?_;rintro n h1 ⟨hn,rfl⟩;rcases AN n l.length with hlt|DT
 .have i1:(n:Int)<(l.length:Int):=by omega
  have e:=Gb (q:=Bq [s]) hlt;simp only[AA,Nat.reduceLeDiff,↓reduceIte,EC,hv.Cp,i1,Aq,Ak,Aj,hv.BA hlt,BB (show n<9223372036854775807 by omega),DE (ws:=[s]) (args:=[.str s]) rfl (by simp),(b l[n]).call];rw[Cu];refine⟨λhe=>?_,λhe=>?_⟩;·rw[if_pos he] at e;exact AF.next (n+1) (by rw[e]) ⟨hlt,rfl⟩ (by omega)
  .rw[if_neg (by simpa using he)] at e;exact AF.next (n+1) (by rw[e]) ⟨hlt,rfl⟩ (by omega)
 .have i1:¬(n:Int)<(l.length:Int):=by omega
  simp only[AA,↓reduceIte,hv.Cp,i1,An,Ak,Aj,Az DT]
theorem f250(hv:BM l v)(hb:l.length<=1000000000)(hl:∀a∈l,a.name.length<9223372036854775807)(n node:Int):BI cx 279 [v,I n,I node] h (.bool (I6 (Bp node) (IL n) l.reverse)) h:=by
 rw[Ab,pd,aFF,<-I_];simp only[AA,(WO hv hb node).call];rcases CR (q:=Bp node) (l:=l) with⟨h1,h2⟩|⟨k,hk,h1,h2,h3⟩
 .simp[h1]
 .rw[h1];simp only[AA,show(0:Int)<=(k:Int) by omega,show¬(k:Int)<0 by omega,Aq,Ak,Aj,(aF5 hv hb hl (WU hk) n).call,AS]
theorem f251(hv:BM l v)(hb:l.length<=1000000000)(hl:∀a∈l,a.name.length<9223372036854775807)(node:Int):BI cx 280 [v,I node] h (I (DA node l)) h:=by
 have Du:AM 4 (l.map Item.row) v:=hv;rw[Ab,pg,aFG,HN];simp only[AA,(WO hv hb node).call];rcases CR (q:=Bp node) (l:=l) with⟨h1,h2⟩|⟨k,hk,h1,h2,h3⟩
 .simp[h1]
 .rw[h1];simp only[AA,show¬(k:Int)<0 by omega,An,Ak,Aj,AS,BB (show k<9223372036854775807 by omega)];refine Bd (λn:Nat=>[I 0,I (n:Int)]) (λn h1=>Ep Gc l (k+1)=Ep Gc l n/\h1=h) (λn=>l.length-n) (k+1) rfl ⟨rfl,rfl⟩ ?_;rintro n h1 ⟨ha,rfl⟩;rcases AN n l.length with hlt|DT
  .have i1:(n:Int)<(l.length:Int):=by omega
   rw[QU hlt] at ha;simp only[AA,EC,Du.Cp,i1,Aq,Ak,Aj,Du.BA hlt,cL (hl _ (AI hlt)),BB (show n<9223372036854775807 by omega)];rw[Cu];refine⟨λhe=>by rw[ha,if_pos (by exact he)],λhe=>?_⟩;rw[if_neg (by simp[Gc,he])] at ha;exact AF.next (n+1) rfl ⟨ha,rfl⟩ (by omega)
  .have i1:¬(n:Int)<(l.length:Int):=by omega
   rw[Pv DT] at ha;simp only[AA,Du.Cp,i1,An,Ak,Aj,ha]
end
end
section
def VI(F:Aa)(q:Item->Bool):Prop:=∃f caps,F= .func (.func f) [] caps/\f<=99999/\∀(a:Item) (h:Ag),BI cx f (.agg a.row::caps) h (.bool (q a)) h
section
variable{h:Ag}{p v:Aa}{l:List Item}
theorem f42{id o:Nat}(hs:KJ h id o l)(hb:l.length<=1000000000)(h2:2<=l.length):∃u,BI cx 68 [Pt id o] h (.agg (EW l).row) (put h id o u)/\BM (l.take (l.length-1)) u:=by
 obtain⟨v,hc,hv⟩:=(show KJ h id o l from hs);obtain⟨u,e,hu⟩:=AM.Lc hv (k:= .i64) (show l.length-1<=l.length by omega);refine⟨u,?_,hu⟩;have e1:(l.length:Int)-1=((l.length-1:Nat):Int):=by omega
 rw[Ab,YU,t68];simp only[AA,EC,(Tx hs.at).call,(f39 hs.at hb).call,hc.load,Bn,AM.Cp hv,CK (show -9223372036854775808<=(l.length:Int)-1 by omega) (show(l.length:Int)-1<9223372036854775808 by omega),e1,e,hc.store (AM.cells hu),show¬(l.length:Int)<2 by omega,An,Ak,Aj]
theorem qe{id o:Nat}(hs:KJ h id o l)(hb:l.length<=1000000000){B A:Aa}{b a:Item->Bool}(hB:VI B b)(hA:VI A a):
  ∃u,BI cx 155 [Pt id o,B,A] h (I ((l.length:Int)-((Ds b a l).length:Int))) (put h id o u)/\BM (Ds b a l) u:=by
 obtain⟨fb,cb,rfl,sI,rb⟩:=hB;obtain⟨fa,ca,rfl,hfa,ra⟩:=hA;have hlt:=hs.lt;have H5:Ev cx 155 [Pt id o,.func (.func fb) [] cb,.func (.func fa) [] ca] h λr h'=>r= I ((l.length:Int)-((Ds b a l).length:Int))/\∃u,h'=put h id o u/\BM (Ds b a l) u:=by
  unfold Ev;rw[mW,aAR];refine Bd (λn:Nat=>[I ((l.length:Int)-(n:Int))]) (λn h1=>n<=l.length/\(∃u,h1=put h id o u/\BM (l.take n) u)/\Ds b a l=Ds b a (l.take n)) (λn=>n) l.length (by simp) ⟨Ac _,by rw[Bu];exact hs.YH,by rw[Bu]⟩ ?_;rintro n h1 ⟨hn,⟨u,rfl,hu⟩,ha⟩;have IV:KJ (put h id o u) id o (l.take n):= .J_ hlt hu;have eQ:(l.take n).length=n:=by rw[Al];omega
  simp only[AA,↓reduceIte,(Tx IV.at).call,eQ];match n,hn,hu,ha,IV,eQ with
  |0,hn,hu,ha,IV,eQ=>rw[Vb (l:=l.take 0) (by simp)] at ha;simp only[AA,show¬(1:Int)<((0:Nat):Int) by omega,An,Ak,Aj];exact⟨_,rfl,by rw[ha];rfl,u,rfl,by rw[ha];exact hu⟩
  |1,hn,hu,ha,IV,eQ=>rw[Vb (l:=l.take 1) (by rw[eQ];exact Ac _)] at ha;simp only[AA,show¬(1:Int)<((1:Nat):Int) by omega,An,Ak,Aj];exact⟨_,rfl,by rw[ha,eQ],u,rfl,by rw[ha];exact hu⟩
  |m+2,hn,hu,ha,IV,eQ=>
   have hm:m+1<l.length:=by omega
   have e1:((l.length:Int)-((m+2:Nat):Int))+1=(l.length:Int)-((m+1:Nat):Int):=by omega
   obtain⟨u2,hr,HU⟩:=f42 IV (by omega) (by omega);rw[Vd hm] at hr;have e2:(l.take (m+2)).take ((l.take (m+2)).length-1)=l.take (m+1):=by rw[eQ,GX,Co (by omega)];rfl
   rw[e2] at HU;rw[YF] at hr;have aF6:=f39 IV.at (by omega);rw[Vd hm] at aF6;rw[XC hm] at ha;simp only[AA,↓reduceIte,Dt,hfa,sI,show(1:Int)<((m+2:Nat):Int) by omega,Aq,Ak,Aj,aF6.call,(rb _ _).call,hr.call,(ra _ _).call,OP (show -9223372036854775808<=((l.length:Int)-((m+2:Nat):Int))+1 by omega) (show((l.length:Int)-((m+2:Nat):Int))+1<9223372036854775808 by omega),e1];rw[Cu,Cu];refine⟨λTp=>⟨λWD=>?_,λWD=>?_⟩,λTp=>?_⟩
   .have Tp:b l[m+1]=false:=by simpa using Tp
    rw[if_neg (by simp[Tp]),if_pos WD] at ha;exact⟨_,rfl,by rw[ha,Al,Co (by omega)],u2,rfl,by rw[ha];exact HU⟩
   .have Tp:b l[m+1]=false:=by simpa using Tp
    rw[if_neg (by simp[Tp]),if_neg (by simp[WD])] at ha;exact AF.next (m+1) rfl ⟨by omega,⟨u2,rfl,HU⟩,ha⟩ (by omega)
   .have Tp:b l[m+1]=true:=by simpa using Tp
    rw[if_pos Tp] at ha;exact⟨_,rfl,by rw[ha,eQ],u,rfl,by rw[ha];exact hu⟩
 obtain⟨r,h',hr,rfl,u,rfl,hu⟩:=H5.ret;exact⟨u,hr,hu⟩
theorem M8:VI (.func (.func 156) [] []) CD:=⟨_,_,rfl,by decide,λa h=>by rw[Ab,mX,aAS];simp only[AA,EC,CD]⟩
theorem i6{w:Aa}{ws:List As}(hw:IK ws w)(hn:ws.length<=1000000000):VI (.func (.func 157) [] [.CB [w]]) (Bq ws):=⟨_,_,rfl,by decide,λa h=>by rw[Ab,lj,aET];simp only[AA,EC,(cM hw hn a h).call]⟩
theorem Zd(s:As):VI (.func (.func 231) [] [.CB [.str s]]) (D2 s):=⟨_,_,rfl,by decide,λa h=>by
 rw[Ab,nY,aBl];simp only[AA,EC,zU,D2];refine⟨λh1=>by simp[h1],λh1=>?_⟩;rw[Cu];refine⟨λh2=>?_,λh2=>?_⟩
 .have h2:a.name∉FB:=by simpa using h2
  simp[h2]
 .have h2:a.name∈FB:=by simpa using h2
  have h1:a.A0=1:=by simpa using h1
  simp[h2,h1]⟩
theorem WQ:VI (.func (.func 237) [] []) Cs:=⟨_,_,rfl,by decide,λa h=>by
 rw[Ab,ny,aFp];simp only[AA,EC,zV,Cs];refine⟨λh1=>by simp[h1],λh1=>?_⟩;have h1:a.A0=1:=by simpa using h1
 simp[h1]⟩
theorem Ze(node:Int):VI (.func (.func 235) [] [.CB [I node]]) (Bp node):=⟨_,_,rfl,by decide,λa h=>by rw[Ab,oC,aBp];simp only[AA,EC,Bp]⟩
theorem aF7{id o:Nat}(hs:KJ h id o l)(hb:l.length<=1000000000)(s:As):
  ∃u,BI cx 143 [Pt id o,.str s] h (I ((l.length:Int)-((Ds (D2 s) CD l).length:Int))) (put h id o u)/\BM (Ds (D2 s) CD l) u:=by
 obtain⟨u,hr,hu⟩:=qe hs hb (Zd s) M8;exact⟨u,by rw[Ab,mQ,aAM];simp only[AA,hr.call],hu⟩
theorem f66{id o:Nat}(hs:KJ h id o l)(hb:l.length<=1000000000){w:Aa}{ws:List As}(hw:IK ws w)(hn:ws.length<=1000000000):
  ∃u,BI cx 70 [Pt id o,w] h (I ((l.length:Int)-((Ds CD (Bq ws) l).length:Int))) (put h id o u)/\BM (Ds CD (Bq ws) l) u:=by
 obtain⟨u,hr,hu⟩:=qe hs hb M8 (i6 hw hn);exact⟨u,by rw[Ab,aAq,t70];simp only[AA,IK.cells hw,hr.call],hu⟩
theorem aKU{id o:Nat}(hs:KJ h id o l)(hb:l.length<=1000000000):
  ∃u,BI cx 152 [Pt id o] h (I ((l.length:Int)-((Ds Cs CD l).length:Int))) (put h id o u)/\BM (Ds Cs CD l) u:=by
 obtain⟨u,hr,hu⟩:=qe hs hb WQ M8;exact⟨u,by rw[Ab,lg,aES];simp only[AA,hr.call],hu⟩
theorem aF8{id o:Nat}(hs:KJ h id o l)(hb:l.length<=1000000000)(node:Int):
  ∃u,BI cx 147 [Pt id o,I node] h (I ((l.length:Int)-((Gd node l).length:Int))) (put h id o u)/\BM (Gd node l) u:=by
 by_cases Fh:AL (Bp node) l<0;·obtain⟨u,e,hu⟩:=hs.YH;refine⟨u,?_,by rw[Gd,if_pos Fh];exact hu⟩;rw[Gd,if_pos Fh,Int.sub_self,Ab,Y1,k_];simp only[AA,(WN hs.at hb node).call,Fh,Aq,Ak,Aj];exact e
 .obtain⟨u,hr,hu⟩:=qe hs hb M8 (Ze node);refine⟨u,?_,by rw[Gd,if_neg Fh];exact hu⟩;rw[Gd,if_neg Fh,Ab,Y1,k_];simp only[AA,(WN hs.at hb node).call,Fh,An,Ak,Aj,hr.call]
end
end
section
section
variable{h:Ag}{p v:Aa}{l:List Item}
theorem aKV(hv:BM l v){k:Nat}(hk:k<l.length)(hb:l.length<=1000000000):∃u,BI cx 249 [v,I (k:Int)] h u h/\BM (A7 l k) u:=by obtain⟨u1,e1,h1⟩:=AM.Lc hv (k:= .i64) (show k<=l.length by omega);obtain⟨u2,e2,h2⟩:=AM.Gk h1 (b:=40) (Pw (by rw[Al];omega));obtain⟨u4,e4,h4⟩:=AM.QT hv (k:= .i64) (show k+1<=l.length by omega);obtain⟨u5,e5,h5⟩:=AM.YE h2 h4 (b:=40) (Pw (by rw[Al,A8];omega));refine⟨u5,?_,h5⟩;rw[Ab,oK,aBx];simp only[AA,e1,e2,BB (show k<9223372036854775807 by omega),e4,e5]
theorem aBS{id o:Nat}(hs:KJ h id o l)(hb:l.length<=1000000000)(node:Int):∃u,BI cx 178 [Pt id o,I node] h (.bool (decide (1<=AL (Bp node) l))) (put h id o u)/\BM (CG node l) u:=by
 by_cases Fh:AL (Bp node) l<1;·obtain⟨u,e,hu⟩:=hs.YH;refine⟨u,?_,by rw[CG,if_pos Fh];exact hu⟩;rw[Ab,Y5,ma,<-e];simp only[AA,(WN hs.at hb node).call,Fh,Aq,Ak,Aj,show¬1<=AL (Bp node) l by omega,Fi]
 .rcases CR (q:=Bp node) (l:=l) with⟨h1,_⟩|⟨k,hk,h1,_⟩
  .rw[h1] at Fh;omega
  .obtain⟨v,hc,hv⟩:=(show KJ h id o l from hs);obtain⟨u,hr,hu⟩:=aKV (h:=h) hv hk hb;refine⟨u,?_,by rw[CG,if_neg Fh,h1];exact hu⟩;rw[Ab,Y5,ma];simp only[AA,(WN hs.at hb node).call,hc.load,Bn,h1];rw[h1] at Fh;simp only[AA,hr.call,Bn,hc.store (BM.cells hu),show¬(k:Int)<1 from Fh,An,Ak,Aj,show(1:Int)<=(k:Int) by omega,D8]
theorem aKW{id o:Nat}(hs:KJ h id o l)(hb:l.length<=1000000000)(a:Item)(i:Int):∃u,BI cx 179 [Pt id o,.agg a.row,I i] h (.tuple []) (put h id o u)/\BM (l.take (Er i l.length)++a::l.drop (Er i l.length)) u:=by
 obtain⟨v,hc,hv⟩:=(show KJ h id o l from hs);obtain⟨u,hr,hu⟩:=aF3 (h:=h) hv a (n:=Er i l.length) (by unfold Er;omega) hb;refine⟨u,?_,hu⟩;rw[Ab,nH,aA6];have e1:(if(l.length:Int)<(if i<1 then 1 else i) then(l.length:Int) else(if i<1 then 1 else i))=((Er i l.length:Nat):Int):=by unfold Er;split<;>split<;>omega
 simp only[AA,EC,kD,JS,hc.load,Bn,YB,AM.Cp hv,xF,e1,hr.call,hc.store (BM.cells hu)]
theorem f266(hv:BM l v)(hne:l≠[])(hb:l.length<=1000000000):BI cx 288 [v] h (.Ck h.length 0 l.length 4) (h++[.cells (l.map Item.row).flatten]):=by
 have e1:Aw (.Gp false .sl) [v,.slnil]=some (.bool false):=by
  rcases hv with rfl|⟨rfl,hv⟩
  .rfl
  .exact absurd (by simpa using hv) hne
 have e2:Aw (.By 4) []=some (.sl 4 []):=rfl;have e3:=I0 (h:=h) (s:= .sl 4 []) (z:=4) (b:=40) (.inr rfl) hv (by simpa using hne) (by rw[Ah];exact Pw (by omega));rw[Ah] at e3;rw[Ab,oR,aBE];simp only[AA,e1,e2,e3]
section
variable{id o n z:Nat}{v w:Aa}{X Y:C6}{Au:List (List Aa)}
theorem At.next(ha:At h id o v):(Am.put h id o w++[X])[h.length]?=some X/\At (Am.put h id o w++[X]) id o w/\(Am.put h id o w++[X]).set h.length Y=Am.put h id o w++[Y]:=by have e:=IE (h:=h) (id:=id) (o:=o) (u:=w);refine⟨by rw[<-e];simp,ha.put.HB,?_⟩;rw[BP _ _ (by omega),<-e,CY];rfl
theorem At.oZ(ha:At h id o v)(hv:Kp h v=some (h,v)):KX h 0 (Pt id o)=some h:=by have e1:=ha.same;obtain⟨cs,hc,e⟩:=ha;simp only[KX,hc,Bn,e,hv,Ct];rw[Hp hc] at e1;rw[e1]
theorem At.o7(ha:At h id o v)(hr:∀r∈Au,r.length=z):KX (Am.put h id o (.Ck h.length 0 Au.length z)++[.cells Au.flatten]) 0 (Pt id o)=some (Am.put h id o (.sl z Au)++[.CH]):=by obtain⟨c1,c2,c3⟩:=ha.next (w:= .Ck h.length 0 Au.length z) (X:= .cells Au.flatten) (Y:= .CH);have f1:=JJ hr c1;rw[c3] at f1;have a2:=(ha.next (w:= .Ck h.length 0 Au.length z) (X:= .CH) (Y:= .CH)).2.1;obtain⟨cs,hc,e⟩:=c2;obtain⟨QD,HZ,e2⟩:=a2;simp only[KX,hc,Bn,e,f1,Ct,HZ];rw[<-Hp (u:= .sl z Au) HZ,YG ha.put,YF]
end
theorem aKX{id o:Nat}(hs:KJ h id o l)(hb:l.length<=1000000000)(node:Int)(a:Item):∃u t,BI cx 247 [Pt id o,I node,.agg a.row] h (.bool (decide (1<=AL (Bp node) l))) (put h id o u++t)/\BM (Og node a l) u:=by
 obtain⟨v,hc,hv⟩:=(show KJ h id o l from hs);by_cases Fh:AL (Bp node) l<1;·refine⟨v,[],?_,by rw[Og,if_pos Fh];exact hv⟩;have e2:=hc.oZ (AM.KW hv);rw[Ab,Y8,oa,hc.same,Bv];simp only[AA,EC,(WN hs.at hb node).call,Fh,Aq,Ak,Aj,e2,show¬1<=AL (Bp node) l by omega,Fi]
 .rcases CR (q:=Bp node) (l:=l) with⟨h1,_⟩|⟨k,hk,h1,_⟩
  .rw[h1] at Fh;omega
  .have qg:¬(k:Int)<1:=by rw[h1] at Fh;exact Fh
   have hne:l≠[]:=by intro e;subst e;simp at hk
   have hcl:=f266 (h:=h) hv hne hb;have s1:=(hc.HB (t:=[C6.cells (l.map Item.row).flatten])).store (u:= .Ck h.length 0 l.length 4) rfl;rw[YG hc] at s1;obtain⟨c3,c2,c4⟩:=hc.next (w:= .Ck h.length 0 l.length 4) (X:= .cells (l.map Item.row).flatten) (Y:= .cells ((l.map Item.row).set k a.row).flatten);have s2:=SY (z:=4) (xN l) c3 (i:=k) (by simpa using hk) (q:=a.row) rfl;rw[c4] at s2;have e4:Aw (.EE 4) [.Ck h.length 0 l.length 4,I (k:Int)]=some (Pt h.length (k*4)):=DO hk;have e2:=hc.o7 (bH (xN l) (i:=k) (q:=a.row) rfl);rw[Be,Ah] at e2;refine⟨.sl 4 ((l.map Item.row).set k a.row),[.CH],?_,?_⟩;·rw[Ab,Y8,oa];simp only[AA,EC,(WN hs.at hb node).call,h1,qg,An,Ak,Aj,hc.load,Bn,hcl.call,s1,c2.load,e4,s2,e2,show(1:Int)<=(k:Int) by omega,D8]
   .rw[Og,if_neg Fh,h1,AS,BM,Fj];exact .mk
theorem cN(hv:BM l v)(hb:l.length<=1000000000)(i:Int):∃r h',BI cx 225 [v,I i] h r h'/\YI h (JL l i) r h':=by
 have Du:AM 4 (l.map Item.row) v:=hv;obtain⟨k,hk,OE,hc⟩:∃k,k=min (max 1 i.toNat) l.length/\k<=l.length/\JL l i=l.take k:=⟨_,rfl,by omega,by
  unfold JL;rcases Nat.le_total (max 1 i.toNat) l.length with h1|h1
  .rw[Co h1]
  .rw[Nat.min_eq_right h1,Bu,Az h1]⟩
 obtain⟨u,e,hu⟩:=AM.Lc hv (k:= .i64) OE;obtain⟨r,h',e2,hr⟩:=i_ (h:=h) (l:=l.take k) (v:=u) hu (by rw[Al];omega);refine⟨r,h',?_,by rw[hc];exact hr⟩;rw[Ab,nl,aFk];simp only[AA,Du.Cp];refine⟨λh1=>⟨λh2=>?_,λh2=>?_⟩,λh1=>⟨λh2=>?_,λh2=>?_⟩⟩
 .have:(k:Int)=(l.length:Int):=by omega
  rw[this] at e;simp only[AA,e,e2]
 .have:(k:Int)=1:=by omega
  rw[this] at e;simp only[AA,e,e2]
 .have:(k:Int)=(l.length:Int):=by omega
  rw[this] at e;simp only[AA,e,e2]
 .have:(k:Int)=i:=by omega
  rw[this] at e;simp only[AA,e,e2]
theorem aF9(hv:BM l v)(hb:l.length<=1000000000):∃u t,BI cx 219 [v] h u (h++t)/\BM (JL l ((l.length:Int)-1)) u:=by obtain⟨r,h',hr,hc⟩:=cN (h:=h) hv hb ((l.length:Int)-1);obtain⟨u,t,e,hu⟩:=hc.KW;refine⟨u,t,?_,hu⟩;rw[Ab,nc,aFf];simp only[AA,AM.Cp hv,CK (show -9223372036854775808<=(l.length:Int)-1 by omega) (show(l.length:Int)-1<9223372036854775808 by omega),hr.call,e]
theorem aGa(hv:BM l v)(hb:l.length<=1000000000)(node:Int):∃u t,BI cx 215 [v,I node] h u (h++t)/\BM (Gd node l) u:=by
 by_cases Fh:AL (Bp node) l<0
 .obtain⟨r,h',hr,hc⟩:=cN (h:=h) hv hb (l.length:Int);obtain⟨u,t,e,hu⟩:=hc.KW;have e1:JL l (l.length:Int)=l:=by unfold JL;rw[Az (by omega)]
  refine⟨u,t,?_,by rw[S1,if_pos Fh];rwa [e1] at hu⟩;rw[Ab,nW,aBj];simp only[AA,(WO hv hb node).call,Fh,Aq,Ak,Aj,AM.Cp hv,hr.call,e]
 .obtain⟨r,h',hr,hc⟩:=cN (h:=h) hv hb (AL (Bp node) l);obtain⟨u,t,e,hu⟩:=hc.KW;refine⟨u,t,?_,by rw[S1,if_neg Fh];exact hu⟩;rw[Ab,nW,aBj];simp only[AA,(WO hv hb node).call,Fh,An,Ak,Aj,hr.call,e]
end
end
section
section
variable{h:Ag}{p v w:Aa}{l:List Item}{ws:List As}
theorem f85(hv:BM l v)(hb:l.length<=1000000000)(hw:IK ws w)(hn:ws.length<=1000000000):∃u t,BI cx 139 [v,w] h u (h++t)/\BM (JL l (AL (Bq ws) l)) u:=by
 have Du:AM 4 (l.map Item.row) v:=hv;have H5:Ev cx 139 [v,w] h λr h'=>∃t,h'=h++t/\BM (JL l (AL (Bq ws) l)) r:=by
  unfold Ev;rw[kx,aEO];simp only[AA,Du.Cp,CK (show -9223372036854775808<=(l.length:Int)-1 by omega) (show(l.length:Int)-1<9223372036854775808 by omega)];refine Bd (λn:Nat=>[.slnil,I ((n:Int)-1)]) (λn h1=>n<=l.length/\AL (Bq ws) l=AL (Bq ws) (l.take n)/\h1=h) (λn=>n) l.length rfl ⟨Ac _,by rw[Bu],rfl⟩ ?_;rintro n h1 ⟨zZ,ha,rfl⟩;cases n with
  |zero=>
   have i1:¬(0:Int)<=((0:Nat):Int)-1:=by omega
   obtain⟨r,h',hr,hc⟩:=cN (h:=h1) hv hb 1;obtain⟨u,t,e,hu⟩:=hc.KW;rw[JQ,I2] at ha;simp only[AA,↓reduceIte,i1,An,Ak,Aj,hr.call,e];exact⟨_,rfl,t,rfl,by rw[ha,xO];exact hu⟩
  |succ n=>
   have i2:((n+1:Nat):Int)-1=(n:Int):=by omega
   obtain⟨r,h',hr,hc⟩:=cN (h:=h1) hv hb (n:Int);obtain⟨u,t,e,hu⟩:=hc.KW;rw[Gb (by omega)] at ha;simp only[AA,Nat.reduceLeDiff,↓reduceIte,EC,i2,show(0:Int)<=(n:Int) by omega,Aq,Ak,Aj,Du.BA (show n<l.length by omega),(f167 l[n] hw hn).call,hr.call,e,CK (show -9223372036854775808<=(n:Int)-1 by omega) (show(n:Int)-1<9223372036854775808 by omega)];rw[Cu];refine⟨λhe=>?_,λhe=>?_⟩;·rw[if_pos he] at ha;exact⟨_,rfl,t,rfl,by rw[ha];exact hu⟩
   .rw[if_neg (by simp[he])] at ha;exact AF.next n rfl ⟨by omega,ha,rfl⟩ (by omega)
 obtain⟨r,h',hr,t,rfl,hu⟩:=H5.ret;exact⟨r,t,hr,hu⟩
theorem f165(hv:BM l v)(hb:l.length<=1000000000)(hl:∀a∈l,a.name.length<9223372036854775807)(s:As)(all:Bool):∃u t,BI cx 212 [v,.str s,.bool all] h u (h++t)/\BM (Ds (Ek s all) CD l) u:=by
 have Du:AM 4 (l.map Item.row) v:=hv;have H5:Ev cx 212 [v,.str s,.bool all] h λr h'=>∃t,h'=h++t/\BM (Ds (Ek s all) CD l) r:=by
  unfold Ev;rw[mr,aE9];simp only[AA,Du.Cp];refine Bd (λn:Nat=>[I (n:Int)]) (λn h1=>n<=l.length/\(l=[]\/1<=n)/\Ds (Ek s all) CD l=Ds (Ek s all) CD (l.take n)/\h1=h) (λn=>n) l.length rfl ⟨Ac _,by cases l<;>simp,by rw[Bu],rfl⟩ ?_;rintro n h1 ⟨zZ,h0,ha,rfl⟩;have GM:Ds (Ek s all) CD l=l.take n->∃u t,Kp h1 u=some (h1++t,u):=λ_=>⟨.slnil,[],by rw[Bv];rfl⟩;obtain⟨r,h',hr,hc⟩:=cN (h:=h1) hv hb (n:Int);obtain⟨u,t,e,hu⟩:=hc.KW;have ecut:JL l (n:Int)=l.take n:=by
   unfold JL;rcases h0 with rfl|h0
   .simp
   .rw[AS,Nat.max_eq_right h0]
  rw[ecut] at hu;rcases AN 1 n with hlt|DT
  .obtain⟨m,rfl⟩:∃m,n=m+2:=⟨n-2,by omega⟩;have hm:m+1<l.length:=by omega
   have i1:(1:Int)<((m+2:Nat):Int):=by omega
   have i2:((m+2:Nat):Int)-1=((m+1:Nat):Int):=by omega
   have hs:=hl _ (AI hm);rw[XC hm] at ha;have next:Ek s all l[m+1]=false->AF cx (λn:Nat=>[I (n:Int)]) (λn h2=>n<=l.length/\(l=[]\/1<=n)/\Ds (Ek s all) CD l=Ds (Ek s all) CD (l.take n)/\h2=h1) (λn=>n)
     (λx c20=>match x with
      | .normal=> .fail
      | .exit i=>if i=0 then .call 225 [v,g c20 0] λv21=> .KW v21 λv22=> .ret .ret [v22] else .fail
      | .ret=> .KW .slnil λv23=> .ret .ret [v23])
     (λx vs h'=>x=EN.ret/\∃r,vs=[r]/\∃t,h'=h1++t/\BM (Ds (Ek s all) CD l) r) (m+2) .normal [I ((m+1:Nat):Int)] h1:=λhf=>by
    rw[if_neg (by simp[hf]),if_neg (by simp[CD])] at ha;exact AF.next (m+1) rfl ⟨by omega,.inr (by omega),ha,rfl⟩ (by omega)
   have stop:Ek s all l[m+1]=true->∃r,[u]=[r]/\∃t_1,h1++t=h1++t_1/\BM (Ds (Ek s all) CD l) r:=λhf=>by rw[if_pos hf] at ha;exact⟨_,rfl,t,rfl,by rw[ha];exact hu⟩
   simp only[AA,Nat.reduceLeDiff,↓reduceIte,EC,i1,Aq,Ak,Aj,CK (show -9223372036854775808<=((m+2:Nat):Int)-1 by omega) (show((m+2:Nat):Int)-1<9223372036854775808 by omega),i2,Du.BA hm,zX hs,zY hs,hr.call,e];cases all with
   |true=>
    simp only[AA,kC];refine⟨λh3=>stop (by simp[Ek,Cs,h3]),λh3=>?_⟩;rw[Cu];refine⟨λh4=>stop ?_,λh4=>?_⟩;·simp at h4;simp[Ek,Cs,h4]
    .simp at h3 h4;exact next (by simp[Ek,Cs,h3];exact h4)
   |false=>
    simp only[AA,JS];refine⟨λh3=>stop (by simp[Ek,D2,h3]),λh3=>?_⟩;rw[Cu];refine⟨λh4=>stop ?_,λh4=>?_⟩;·simp at h4;simp[Ek,D2,h4]
    .refine⟨λh5=>stop (by simp[Ek,D2,h5]),λh5=>?_⟩;simp at h3 h4;exact next (by simp[Ek,D2,h3,h4,h5])
  .have i1:¬(1:Int)<(n:Int):=by omega
   rw[Vb (l:=l.take n) (by rw[Al];omega)] at ha;simp only[AA,↓reduceIte,i1,An,Ak,Aj,hr.call,e];exact⟨_,rfl,t,rfl,by rw[ha];exact hu⟩
 obtain⟨r,h',hr,t,rfl,hu⟩:=H5.ret;exact⟨r,t,hr,hu⟩
theorem f253(hv:BM l v)(hb:l.length<=1000000000)(node:Int):∃u t,BI cx 282 [v,I node] h (.tuple [u,.bool (decide (1<=AL (Bp node) l))]) (h++t)/\BM (CG node l) u:=by
 have fb:∀(h:Ag) b,Kp h (.bool b)=some (h,.bool b):=λ_ _=>rfl;by_cases Fh:AL (Bp node) l<1
 .obtain⟨r,h',hr,hc⟩:=cN (h:=h) hv hb (l.length:Int);obtain⟨u,t,e,hu⟩:=hc.KW;have e1:JL l (l.length:Int)=l:=by unfold JL;rw[Az (by omega)]
  refine⟨u,t,?_,by rw[CG,if_pos Fh];rwa [e1] at hu⟩;rw[Ab,Za,pj];simp only[AA,(WO hv hb node).call,Fh,Aq,Ak,Aj,AM.Cp hv,hr.call,e,fb,show¬1<=AL (Bp node) l by omega,Fi]
 .rcases CR (q:=Bp node) (l:=l) with⟨h1,_⟩|⟨k,hk,h1,_⟩
  .rw[h1] at Fh;omega
  .have qg:¬(k:Int)<1:=by rw[h1] at Fh;exact Fh
   obtain⟨r,h',hr,hc⟩:=cN (h:=h) hv hb (k:Int);have ecut:JL l (k:Int)=l.take k:=by unfold JL;rw[AS,Nat.max_eq_right (by omega)]
   rw[ecut] at hc;rcases hc with⟨h2,_⟩|⟨hne,rfl,rfl⟩
   .have:=Cf List.length h2;rw[Al,BU] at this;omega
   .obtain⟨u4,e4,h4⟩:=AM.QT hv (k:= .i64) (show k+1<=l.length by omega);have yp:(l.take k).length=k:=by rw[Al];omega
    have c1:(h++[C6.cells ((l.take k).map Item.row).flatten])[h.length]?=some (.cells ((l.take k).map Item.row).flatten):=by simp
    have hrw:=xN (l.take k);have hml:((l.take k).map Item.row).length=(l.take k).length:=Ah ..;by_cases hd:l.drop (k+1)=[]
    .have e5:Fl (h++[C6.cells ((l.take k).map Item.row).flatten]) 4 40 (.Ck h.length 0 (l.take k).length 4) u4=some (h++[C6.cells ((l.take k).map Item.row).flatten],.Ck h.length 0 (l.take k).length 4):=gI (by rw[hd] at h4;exact h4);have f1:=JJ hrw c1;rw[hml,BP _ _ (Ac _),CY] at f1;refine⟨.sl 4 ((l.take k).map Item.row),[.CH],?_,?_⟩;·rw[Ab,Za,pj];simp only[AA,(WO hv hb node).call,h1,qg,An,Ak,Aj,BB (show k<9223372036854775807 by omega),e4,hr.call,e5,f1,fb,List.set_cons_zero,show(1:Int)<=(k:Int) by omega,D8]
     .rw[CG,if_neg Fh,h1,AS,A7,hd,Bv];exact .mk
    .have e5:=IJ (b:=40) hrw (by decide) c1 h4 (by simpa using hd) (by rw[Ah,Ah,Al,A8];exact Pw (by omega));rw[hml,Ah] at e5;rw[BP _ _ (Ac _),CY,List.set_cons_zero,Ax] at e5;have c2:(h++([C6.CH]++[C6.cells ((l.take k).map Item.row++(l.drop (k+1)).map Item.row).flatten]))[h.length+1]?=some (.cells ((A7 l k).map Item.row).flatten):=by rw[A5 (by omega)];simp[A7]
     have f1:=JJ (xN (A7 l k)) c2;have fH:(A7 l k).length=(l.take k).length+(l.drop (k+1)).length:=by simp[A7]
     rw[Ah,fH] at f1;have e6:(h++[C6.CH,C6.cells ((l.take k).map Item.row++(l.drop (k+1)).map Item.row).flatten]).set (h.length+1) .CH=h++[.CH,.CH]:=by rw[BP _ _ (by omega)];simp
     simp only[Ao,Bc,CC,BD] at e5 f1;rw[e6] at f1;refine⟨.sl 4 ((A7 l k).map Item.row),[.CH,.CH],?_,?_⟩;·rw[Ab,Za,pj];simp only[AA,(WO hv hb node).call,h1,qg,An,Ak,Aj,BB (show k<9223372036854775807 by omega),e4,hr.call,e5,f1,fb,show(1:Int)<=(k:Int) by omega,D8]
     .rw[CG,if_neg Fh,h1,AS];exact .mk
theorem f254(hv:BM l v)(hb:l.length<=1000000000)(a:Item)(i:Int):∃u,BI cx 283 [v,.agg a.row,I i] h u h/\BM (l.take (Er i l.length)++a::l.drop (Er i l.length)) u:=by
 have Du:AM 4 (l.map Item.row) v:=hv;obtain⟨k,cO,hk⟩:∃k,k=Er i l.length/\k<=l.length:=⟨_,rfl,by unfold Er;omega⟩;obtain⟨u1,e1,h1⟩:=AM.Lc hv (k:= .i64) hk;obtain⟨u2,e2,h2⟩:=AM.Gk h1 (b:=40) (Pw (by rw[Al];omega));have e3:=AM.Jg (a:=a) h2 (b:=40) (Pw (by rw[Al];omega));obtain⟨u4,e4,h4⟩:=AM.QT hv (k:= .i64) hk;obtain⟨u5,e5,h5⟩:=AM.YE (v:= .sl 4 ((l.take k++[a]).map Item.row)) .mk h4 (b:=40) (Pw (by rw[Ao,Al,A8,Bc];omega));refine⟨u5,?_,by rw[Ax] at h5;rw[<-cO];exact h5⟩;rw[Ab,pk,aFI];simp only[AA,EC,Du.Cp];unfold Er at cO;refine⟨λh1=>⟨λh2=>?_,λh2=>?_⟩,λh1=>⟨λh2=>?_,λh2=>?_⟩⟩
 .have:(k:Int)=(l.length:Int):=by omega
  rw[this] at e1 e4;simp only[AA,e1,e2,Ld,e3,e4,e5]
 .have:(k:Int)=1:=by omega
  rw[this] at e1 e4;simp only[AA,e1,e2,Ld,e3,e4,e5]
 .have:(k:Int)=(l.length:Int):=by omega
  rw[this] at e1 e4;simp only[AA,e1,e2,Ld,e3,e4,e5]
 .have:(k:Int)=i:=by omega
  rw[this] at e1 e4;simp only[AA,e1,e2,Ld,e3,e4,e5]
end
end
end Go.Am
end
