/- Lemmas -/
import Derived.Test.YtefjamneieebhaaGreatDoorS21
import Derived.Test.YtefjamneieebhaaGreatDoorS22
import Derived.Test.YtefjamneieebhaaGreatDoorS23
import Derived.Test.YtefjamneieebhaaGreatDoorS24
import Derived.Test.YtefjamneieebhaaGreatDoorS19
set_option linter.unusedVariables false
set_option linter.unusedSimpArgs false
section
set_option maxRecDepth 100000
namespace Go.Am
open Go
abbrev af:=List Aa->Option IT
def pz(g:IT):af:=λl=>match l with
 |[]=>some (g)
 |_=>none
def HP(g:Aa->IT):af:=λl=>match l with
 |[a0]=>some (g a0)
 |_=>none
def DB(g:Aa->Aa->IT):af:=λl=>match l with
 |[a0,a1]=>some (g a0 a1)
 |_=>none
def Lf(g:Aa->Aa->Aa->IT):af:=λl=>match l with
 |[a0,a1,a2]=>some (g a0 a1 a2)
 |_=>none
def jF(g:Aa->Aa->Aa->Aa->IT):af:=λl=>match l with
 |[a0,a1,a2,a3]=>some (g a0 a1 a2 a3)
 |_=>none
def aBT(g:Aa->Aa->Aa->Aa->Aa->IT):af:=λl=>match l with
 |[a0,a1,a2,a3,a4]=>some (g a0 a1 a2 a3 a4)
 |_=>none
def VG(f:Nat)(g:af):Prop:=∀l t,g l=some t->t=B5 cx f l
theorem ag{f:Nat}{g:IT}(h:B5 cx f []=g):VG f (pz g):=by
 intro l t ht;unfold pz at ht;split at ht;·cases ht;exact(h).symm
 .cases ht
theorem DM{f:Nat}{g:Aa->IT}(h:∀a0,B5 cx f [a0]=g a0):VG f (HP g):=by
 intro l t ht;unfold HP at ht;split at ht;·cases ht;exact(h _).symm
 .cases ht
theorem B1{f:Nat}{g:Aa->Aa->IT}(h:∀a0 a1,B5 cx f [a0,a1]=g a0 a1):VG f (DB g):=by
 intro l t ht;unfold DB at ht;split at ht;·cases ht;exact(h _ _).symm
 .cases ht
theorem Gl{f:Nat}{g:Aa->Aa->Aa->IT}(h:∀a0 a1 a2,B5 cx f [a0,a1,a2]=g a0 a1 a2):VG f (Lf g):=by
 intro l t ht;unfold Lf at ht;split at ht;·cases ht;exact(h _ _ _).symm
 .cases ht
theorem VH{f:Nat}{g:Aa->Aa->Aa->Aa->IT}(h:∀a0 a1 a2 a3,B5 cx f [a0,a1,a2,a3]=g a0 a1 a2 a3):VG f (jF g):=by
 intro l t ht;unfold jF at ht;split at ht;·cases ht;exact(h _ _ _ _).symm
 .cases ht
theorem aBU{f:Nat}{g:Aa->Aa->Aa->Aa->Aa->IT}(h:∀a0 a1 a2 a3 a4,B5 cx f [a0,a1,a2,a3,a4]=g a0 a1 a2 a3 a4):VG f (aBT g):=by
 intro l t ht;unfold aBT at ht;split at ht;·cases ht;exact(h _ _ _ _ _).symm
 .cases ht
def vg:List (Nat×af):=[(12,DB t12),(14,DB t14),(17,HP t17),(22,HP t22),(23,DB t23),(24,DB t24),(25,DB t25),(26,HP t26),(28,DB t28),(35,HP t35),(36,DB t36),(37,DB t37),(38,HP t38),(39,DB vf),(44,HP t44),(45,DB t45),(46,HP t46),(49,HP t49),(51,pz t51),(52,DB t52),(53,Lf t53),(54,DB t54),(55,Lf t55),(56,DB t56),(57,DB t57),(58,DB t58),(59,Lf t59),(60,Lf t60),(61,jF t61),(62,HP t62),(63,HP t63),(64,DB t64),(76,DB t76),(77,HP t77),(84,jF t84),(109,DB t109),(110,DB aAE),(111,DB aAF),(112,Lf aAG),(113,Lf aAH),(114,DB aAI),(115,DB ka),(116,DB aAJ),(117,jF aAK),(118,HP aAL),(119,DB ke),(120,Lf aAM),(121,DB kf),(122,Lf aAN),(136,DB k_),(137,DB aAS),(138,DB la),(144,DB ls),(145,DB ly),(146,DB t146),(147,Lf aAT),(148,jF t148),(149,HP aAU),(150,DB aAV),(151,DB aAW),(152,Lf aAX),(153,HP aAY),(154,DB lz),(155,DB aAZ),(156,Lf aA0),(157,DB aA1),(158,DB aA2),(159,jF Za),(170,DB aA4),(171,HP zY),(172,DB aA5),(173,Lf aA6),(174,DB mf),(178,Lf aA7),(179,HP aA8),(181,DB aA9),(182,DB aBa),(183,HP aBb),(184,aBT ml),(185,DB mm),(204,HP aBd),(206,DB aBe),(207,DB aBf),(208,DB aBg),(209,Lf aBh),(210,Lf aBi),(211,DB aBj),(212,DB aBk),(213,Lf nv),(214,Lf ny),(215,HP nz),(216,DB aBl),(217,Lf aBm),(223,DB aBo),(225,DB zZ),(226,HP aBp),(227,DB aBq),(228,DB aBr),(229,DB aBs),(230,DB aBt),(231,DB aBu),(232,DB aBv),(234,DB oe),(249,DB aBx),(250,HP aBy),(251,DB aBz),(252,pz aBA),(253,DB aBB),(254,HP aBC),(257,HP aBD),(258,DB aBE),(259,HP aBF),(260,HP aBG),(261,DB aa),(268,HP ae),(269,Lf aBH),(270,HP aBI),(274,HP aBJ),(275,DB aBK),(277,Lf aBL),(289,DB aBM),(290,HP aFN),(293,HP aBN),(294,HP aBO),(295,DB aBP),(297,HP aBQ),(304,DB aFR),(306,DB aBR),(316,Lf aBS),(100063,HP Ub)]
def ah:List (Nat×af)->Prop
 |[]=>True
 |(f,g)::l=>VG f g/\ah l
theorem aj:ah vg:=
 ⟨B1 iZ,B1 i5,DM yS,DM i6,B1 yT,B1 yU,B1 VD,DM yV,B1 yW,DM yY,B1 yZ,B1 zA,DM YX,B1 Qf,DM zB,B1 zC,DM zD,DM zE,ag zF,B1 i7,Gl VE,B1 zG,Gl zH,B1 zI,B1 zJ,B1 zK,Gl zL,Gl zM,VH VF,DM jA,DM jB,B1 zN,B1 zQ,DM zR,VH jD,B1 mI,B1 mJ,B1 mK,Gl mL,Gl mM,B1 mN,B1 YZ,B1 mO,VH mP,DM mQ,B1 Y0,Gl mR,B1 Y1,Gl mS,B1 Y4,B1 mX,B1 Y5,B1 Y6,B1 Y7,B1 mY,Gl mZ,VH Y8,DM m6,B1 m7,B1 m8,Gl m9,DM nA,B1 Y9,B1 nB,Gl nC,B1 nD,B1 nE,VH LJ,B1 nG,DM T7,B1 nH,Gl nI,B1 Zb,Gl nJ,DM nK,B1 nL,B1 nM,DM nN,aBU Zc,B1 Zd,DM nQ,B1 nS,B1 nT,B1 nU,Gl nV,Gl nW,B1 nX,B1 nY,Gl Ze,Gl Zf,DM Zg,B1 nZ,Gl oA,B1 oC,B1 T8,DM oD,B1 oE,B1 oF,B1 oG,B1 oH,B1 oI,B1 oJ,B1 Zh,B1 oL,DM oM,B1 oN,ag oO,B1 oP,DM oQ,DM oR,B1 oS,DM oT,DM oU,B1 T9,DM Ua,Gl oV,DM oW,DM oX,B1 oY,Gl oZ,B1 o7,DM po,DM o8,DM o9,B1 pA,DM pB,B1 py,B1 pC,Gl pD,DM Qg,trivial⟩
def p_(f:Nat):List (Nat×af)->List Aa->Option IT
 |[],_=>none
 |(k,g)::l,args=>if Nat.beq k f then g args else p_ f l args
theorem pE{f:Nat}{args:List Aa}{t:IT}:∀{l:List (Nat×af)},ah l->p_ f l args=some t->t=B5 cx f args
 |[],_,h=>by cases h
 |(k,g)::l,ha,h=>by
  simp only[p_] at h;split at h;·rename_i hk;have hk:k=f:=Nat.eq_of_beq_eq_true hk;subst hk;exact ha.1 _ _ h
  .exact pE ha.2 h
noncomputable def tab(f:FuncId)(args:List Aa):IT:=match p_ f vg args with
 |some t=>t
 |none=>B5 cx f args
theorem ak:tab=B5 cx:=by
 funext f args;unfold tab;split;·rename_i t h;exact pE aj h
 .rfl
def VI:Option Jo->Bool
 |some (.ret,[.bool true],_)=>true
 |_=>false
theorem WS{r:Option Jo}(h:VI r=true):∃h',r=some (.ret,[.bool true],h'):=by
 unfold VI at h;split at h;·exact⟨_,rfl⟩
 .cases h
theorem sM{f:FuncId}{args:List Aa}{h:Ad}(n:Nat)(hr:VI (IT.run tab n (tab f args) h)=true):Ev cx f args h λr _=>r= .bool true:=by obtain⟨h',e⟩:=WS hr;rw[ak] at e;exact⟨n,_,_,_,e,rfl,_,rfl,rfl⟩
end Go.Am
end
section
namespace Go.Am
open Go
set_option maxRecDepth 100000
section
theorem aKM(s:Ap):JG cx 250 [.str s] (.bool (decide (s∈Fx))):=by rw[LZ,oM];rw[show aBy (.str s)=sw s (.ret .ret [tt]) (.ret .ret [ff]) Fx from rfl,xX];exact⟨λh=>by simp[h],λh=>by simp[h]⟩
section
variable{Q:Post}{h:Ad}{k:Aa->IT}{s:Ap}
@[simp] theorem ao:W cx (.Bc 250 [.str s] k) Q h↔W cx (k (.bool (decide (s∈Fx)))) Q h:=(aKM s).Bc rfl rfl
end
theorem aKN(s:Ap):JG cx 256 [.str s] (.bool (decide (s∈IX\/s∈Fx))):=by rw[LZ,ot];rw[show aFC (.str s)=sw s (.ret .ret [tt]) (.Bc 250 [.str s] λv=> .ret .ret [v]) IX from rfl,xX];exact⟨λh=>by simp[h],λh=>by simp[h]⟩
theorem aKO(n:Int)(s:Ap):JG cx 251 [I n,.str s] (.bool (decide (n=3/\s∈JI))):=by
 rw[LZ,oN,aBz];by_cases h:n=3;·simp[h,JI];by_cases h1:s=[109,105]<;>by_cases h2:s=[109,110]<;>by_cases h3:s=[109,111]<;>by_cases h4:s=[109,115]<;>simp[h1,h2,h3,h4]
 .simp[h]
section
variable{Q:Post}{h:Ad}{k:Aa->IT}{s:Ap}{n:Int}
@[simp] theorem aq:W cx (.Bc 256 [.str s] k) Q h↔W cx (k (.bool (decide (s∈IX\/s∈Fx)))) Q h:=(aKN s).Bc rfl rfl
@[simp] theorem aFS:W cx (.Bc 251 [I n,.str s] k) Q h↔W cx (k (.bool (decide (n=3/\s∈JI)))) Q h:=(aKO n s).Bc rfl rfl
end
theorem aFT(n:Int)(s:Ap):JG cx 172 [I n,.str s] (.bool (DX n s)):=by
 rw[LZ,nH];rw[show aA5 (I n) (.str s)= .op (.int .eql) [I n,I 3] λv=> .AH v (.op (.str .eql) [.str s,S aSs] λv=> .AH v (.ret .ret [tt]) (.Bc 251 [I n,.str s] λv=> .ret .ret [v]))
  (.op (.int .eql) [I n,I 2] λv=> .AH v (sw s (.ret .ret [tt]) (.op (.str .eql) [.str s,S aSW] λv=> .ret .ret [v]) [aTa,aSy])
  (.op (.int .eql) [I n,I 1] λv=> .AH v (sw s (.ret .ret [tt]) (.ret .ret [ff]) Mq) (.ret .ret [ff]))) from rfl]
 by_cases h3:n=3;·by_cases h:s=aSs<;>simp[h3,DX,h]
 .by_cases h2:n=2;·by_cases ha:s=aTa<;>by_cases hb:s=aSy<;>simp[h2,xX,DX,OR,ha,hb]
  .by_cases h1:n=1;·by_cases h:s∈Mq<;>simp[h1,xX,DX,h]
   .simp[h3,h2,h1,DX]
section
variable{Q:Post}{h:Ad}{k:Aa->IT}{s:Ap}{n:Int}
@[simp] theorem VJ:W cx (.Bc 172 [I n,.str s] k) Q h↔W cx (k (.bool (DX n s))) Q h:=(aFT n s).Bc rfl rfl
end
end
section
theorem f277(s:Ap)(c:UInt8)(hs:s.length<9223372036854775807):JG cx 224 [.str s,.int .u8 (c.toNat:Int)] (.bool (decide (c∈s))):=by
 rw[LZ,od,aFv];refine Bb (λn:Nat=>[.bool false,I (n:Int)]) (λn _=>n<=s.length/\c∉s.take n) (λn=>s.length-n) 0 rfl ⟨AR _,by simp⟩ ?_;rintro n h ⟨hn,hc⟩;rcases AT n s.length with hlt|D1
 .simp only[AB,LH hlt,BF (show n<9223372036854775807 by omega)];refine⟨λ_=>⟨λhe=>?_,λhe=>?_⟩,λh=>absurd (Int.ofNat_lt.2 hlt) h⟩
  .have e:s[n]=c:=by rw[<-UInt8.toNat_inj];exact Int.ofNat.inj he
   simp only[Az (show c∈s from e▸AI hlt)]
  .refine AF.next (n+1) rfl ⟨hlt,?_⟩ (by omega);rw[Av hlt,Ao,not_or];refine⟨hc,λh=>he ?_⟩;rw[Fi] at h;rw[<-h]
 .simp only[AB];refine⟨λh=>absurd (Int.ofNat_lt.1 h) (by omega),λ_=>?_⟩;rw[Ay D1] at hc;simp[hc]
theorem aFU(l s:Ap)(hl:l.length<9223372036854775806)(hs:s.length<9223372036854775807):JG cx 140 [.str l,.str s] (.bool (Fy l s)):=by
 rw[LZ,lg,aEY];have aKP:JG cx 224 [.str s,.int .u8 32] (.bool (decide ((32:UInt8)∈s))):=f277 s 32 hs;simp only[AB,aKP.Bc rfl rfl];refine⟨λh=>by simp[Fy,h],λh0=>⟨λh=>by simp[Fy,h],λh1=>?_⟩⟩;refine Bb (λp:Nat×Nat=>[.bool false,I (p.1:Int),I (p.2:Int)])
  (λp _=>(p.1<=p.2/\p.2<=l.length/\(s∈Dl [] l↔s∈Dl ((l.take p.2).drop p.1) (l.drop p.2)))\/(p.2=l.length+1/\s∉Dl [] l)) (λp=>l.length+1 -p.2) (0,0) rfl (.inl ⟨Ac _,AR _,by simp⟩) ?_
 rintro⟨a,n⟩ h aBV;rcases aBV with⟨Wm,hn,VK⟩|⟨hn,Wj⟩
 .simp only at Wm hn VK;have i1:(n:Int)<=(l.length:Int):=by omega
  rcases AT n l.length with hlt|D1
  .have i2:¬(n:Int)=(l.length:Int):=by omega
   simp only[AB,i1,i2,Aq,An,forall_const,Ag,LH hlt,BF (show n<9223372036854775807 by omega),M7 Wm hn];rw[AG hlt,Ok] at VK;refine⟨λhe=>?_,λhe=>?_⟩
   .have e:l[n]=32:=by rw[<-UInt8.toNat_inj];exact Int.ofNat.inj he
    rw[if_pos e,AL] at VK;refine⟨λhw=>?_,λhw=>?_⟩;·have:s∈Dl [] l:=VK.2 (.inl hw.symm);simp[Fy,h0,h1,this]
    .refine AF.next (n+1,n+1) rfl (.inl ⟨Ac _,hlt,?_⟩) (by simp only;omega);rw[VK,List.drop_take_self];exact⟨λh=>h.resolve_left (λh=>hw h.symm),.inr⟩
   .have e:¬l[n]=32:=λe=>he (by rw[e];rfl);rw[if_neg e] at VK;refine AF.next (a,n+1) rfl (.inl ⟨by simp only;omega,hlt,?_⟩) (by simp only;omega);rw[VK,bR Wm hlt]
  .have e:n=l.length:=by omega
   subst e;simp only[AB,HT,Aq,Ag,Ak,M7 Wm hn,BF (show l.length<9223372036854775807 by omega)];rw[A3 (Ac _),Py] at VK;rw[Fi] at VK;refine⟨λhw=>?_,λhw=>?_⟩;·have:s∈Dl [] l:=VK.2 hw.symm;simp[Fy,h0,h1,this]
   .exact AF.next (l.length+1,l.length+1) rfl (.inr ⟨rfl,λh=>hw (VK.1 h).symm⟩) (by simp only;omega)
 .simp only at hn;subst hn;have i1:¬((l.length+1:Nat):Int)<=(l.length:Int):=by omega
  simp only[AB,i1,An,Ag,Ak];simp[Fy,Wj]
end
section
theorem Iy{Q:Post}{h:Ad}{k:Aa->IT}{l s:Ap}(hl:l.length<9223372036854775806)(hs:s.length<9223372036854775807):W cx (.Bc 140 [.str l,.str s] k) Q h↔W cx (k (.bool (Fy l s))) Q h:=(aFU l s hl hs).Bc rfl rfl
section
variable{Q:Post}{h:Ad}{k:Aa->IT}{s:Ap}
theorem jG(hs:s.length<9223372036854775807):W cx (.Bc 140 [.str aSl,.str s] k) Q h↔W cx (k (.bool (decide (s∈Mq)))) Q h:=by rw[Iy (by decide+kernel) hs,gX]
theorem Zi(hs:s.length<9223372036854775807):W cx (.Bc 140 [.str aSF,.str s] k) Q h↔W cx (k (.bool (decide (s∈JI)))) Q h:=by rw[Iy (by decide+kernel) hs,YG]
theorem S8(hs:s.length<9223372036854775807):W cx (.Bc 140 [.str aSu,.str s] k) Q h↔W cx (k (.bool (decide (s∈OR)))) Q h:=by rw[Iy (by decide+kernel) hs,bS]
theorem VL(hs:s.length<9223372036854775807):W cx (.Bc 140 [.str aSq,.str s] k) Q h↔W cx (k (.bool (decide (s∈Fx)))) Q h:=by rw[Iy (by decide+kernel) hs,gY]
theorem cU(hs:s.length<9223372036854775807):W cx (.Bc 140 [.str aSr,.str s] k) Q h↔W cx (k (.bool (decide (s∈IX)))) Q h:=by rw[Iy (by decide+kernel) hs,bT]
theorem sN(hs:s.length<9223372036854775807):W cx (.Bc 140 [.str aSC,.str s] k) Q h↔W cx (k (.bool (decide (s∈M8)))) Q h:=by rw[Iy (by decide+kernel) hs,rP]
theorem jH(hs:s.length<9223372036854775807):W cx (.Bc 140 [.str aSH,.str s] k) Q h↔W cx (k (.bool (decide (s∈K6)))) Q h:=by rw[Iy (by decide+kernel) hs,gZ]
theorem ar(hs:s.length<9223372036854775807):W cx (.Bc 140 [.str aTc,.str s] k) Q h↔W cx (k (.bool (decide (s∈P7)))) Q h:=by rw[Iy (by decide+kernel) hs,xY]
theorem sP(hs:s.length<9223372036854775807):W cx (.Bc 140 [.str aSn,.str s] k) Q h↔W cx (k (.bool (decide (s∈OS)))) Q h:=by rw[Iy (by decide+kernel) hs,rQ]
end
theorem f244(s:Ap)(hs:s.length<9223372036854775807):JG cx 263 [.str s] (.bool (decide (s∈Fx))):=by rw[LZ,ov,aFE];simp only[AB,VL hs]
theorem aKQ(s:Ap)(hs:s.length<9223372036854775807):JG cx 264 [.str s] (.bool (decide (s∈IX\/s∈Fx))):=by rw[LZ,oz,aFF];simp only[AB,VL hs,cU hs];refine⟨λh=>by simp[h],λh=>by simp[h]⟩
theorem f169(n:Int)(s:Ap)(hs:s.length<9223372036854775807):JG cx 196 [I n,.str s] (.bool (DX n s)):=by rw[LZ,ng,aFk];simp only[AB,Zi hs,jG hs,S8 hs,DX];refine⟨λh=>by simp[h],λh1=>⟨λh2=>⟨λh3=>by simp[h2,h3],λh3=>by simp[h2,h3]⟩,λh2=>⟨λh3=>by simp[h3],λh3=>by simp[h1,h2,h3]⟩⟩⟩
section
variable{Q:Post}{h:Ad}{k:Aa->IT}{s:Ap}{n:Int}
theorem au(hs:s.length<9223372036854775807):W cx (.Bc 263 [.str s] k) Q h↔W cx (k (.bool (decide (s∈Fx)))) Q h:=(f244 s hs).Bc rfl rfl
theorem aw(hs:s.length<9223372036854775807):W cx (.Bc 264 [.str s] k) Q h↔W cx (k (.bool (decide (s∈IX\/s∈Fx)))) Q h:=(aKQ s hs).Bc rfl rfl
theorem cV(hs:s.length<9223372036854775807):W cx (.Bc 196 [I n,.str s] k) Q h↔W cx (k (.bool (DX n s))) Q h:=(f169 n s hs).Bc rfl rfl
end
end
section
theorem f278(c:UInt8):JG cx 288 [.int .u8 (c.toNat:Int)] (.bool (decide (65<=c.toNat/\c.toNat<=90))):=by
 rw[LZ,pk,aFM];simp only[AB];refine⟨λh=>?_,λh=>?_⟩
 .have e:65<=c.toNat:=by omega
  have e2:((c.toNat:Int)<=90)=(c.toNat<=90):=by rw[eq_iff_iff];omega
  simp[e,e2]
 .have e:¬65<=c.toNat:=by omega
  simp[e]
theorem aBW(s:Ap)(hs:s.length<=AS):JG cx 247 [.str s] (.str (Fc s)):=by
 have TV:s.length<=140737488355328:=hs;rw[LZ,om,aFz];refine Bb (λp:Nat×Aa=>[p.2,I (p.1:Int)]) (λp _=>p.1<=s.length/\AM 1 (BZ (Fc (s.take p.1))) p.2) (λp=>s.length-p.1) (0,.slnil) rfl ⟨AR _,.nil⟩ ?_;rintro⟨n,v⟩ h ⟨hn,hv⟩;simp only at hn hv;rcases AT n s.length with hlt|D1
 .have i1:(n:Int)<(s.length:Int):=by omega
  have hb:((BZ (Fc (s.take n))).length+1)*1<=AS:=by rw[WL];simp[Fc,AS];omega
  simp only[AB,i1,Aq,Ak,Ag,LH hlt,(f278 _).Bc rfl rfl,BF (show n<9223372036854775807 by omega)];refine⟨λhe=>?_,λhe=>?_⟩
  .simp only[AB,YD,wrap_u8 (show 0<=((s[n].toNat:Int)+32)/\((s[n].toNat:Int)+32)<=255 by omega),K4 (a:= .int .u8 ((s[n].toNat:Int)+32)) (z:=1) rfl (by decide),hv.xT hb];refine AF.next (n+1,_) rfl ⟨hlt,?_⟩ (by simp only;omega);rw[P8 hlt,Px];have e:BZ [HY s[n]]=[[.int .u8 ((s[n].toNat:Int)+32)]]:=by simp[BZ,QX he]
   rw[e];exact .mk
  .simp only[AB,K4 (a:= .int .u8 (s[n].toNat:Int)) (z:=1) rfl (by decide),hv.xT hb];refine AF.next (n+1,_) rfl ⟨hlt,?_⟩ (by simp only;omega);rw[P8 hlt,Px,M9 he];exact .mk
 .have i1:¬(n:Int)<(s.length:Int):=by omega
  have e:s.take n=s:=Ay D1;rw[e] at hv;simp only[AB,i1,An,Ak,Ag,hv.KR,hv.Th]
theorem f300(a b:Int)(h:Ad):BI cx 306 [.int .i32 a,.int .i32 b] h (.func (.func 316) [] [.CA [.int .i32 a],.CA [.int .i32 b]]) h:=by rw[Ab,pC,aBR];simp only[AB]
theorem aKR(c a b:Int)(h:Ad):BI cx 316 [.int .i32 c,.CA [.int .i32 a],.CA [.int .i32 b]] h (.bool (decide (a<=c/\c<=b))) h:=by rw[Ab,pD,aBS];simp only[AB];refine⟨λh=>by simp[h],λh=>by simp[h]⟩
theorem f286(c:Int):JG cx 297 [.int .i32 c] (.bool (decide (65<=c/\c<=90))):=by rw[LZ,pB,aBQ];simp only[AB,Nat.reduceLeDiff,↓reduceIte,(f300 _ _ _).call,Dt,(aKR _ _ _ _).call]
theorem aBX(s:Ap)(hs:s.length<=AS):JG cx 274 [.str s] (.str (Fc s)):=by
 have TV:s.length<=140737488355328:=hs;rw[LZ,oX,aBJ];have e1:IM [] (.str s)=some ([.cells ((GM s 0).map Nz)],.Cl 0 0 s.length 1):=by simp only[IM,hs,BK];rfl
 have e2:Aw (.len false) [.Cl 0 0 s.length 1]=some (I (s.length:Int)):=rfl;simp only[AB,e1,e2];refine Bb (λn:Nat=>[I (n:Int)]) (λn h=>n<=s.length/\h=[.cells ((GM s n).map Nz)]) (λn=>s.length-n) 0 rfl ⟨AR _,rfl⟩ ?_;rintro n h ⟨hn,rfl⟩;rcases AT n s.length with hlt|D1
 .have i1:(n:Int)<(s.length:Int):=by omega
  have e3:Aw (.Fj 1) [.Cl 0 0 s.length 1,I (n:Int)]=some (Pt 0 n):=by simp[Aw,elemOf,Ma,hlt]
  have e4:A6 [.cells ((GM s n).map Nz)] none (Pt 0 n)=some (.int .u8 (s[n].toNat:Int)):=hC (by rw[Cr,Ve hlt];rfl);have e5:IntKind.i32.wrap (s[n].toNat:Int)=(s[n].toNat:Int):=xU (by have:=s[n].toNat_lt;omega);simp only[AB,i1,Aq,Ak,Ag,e3,e4,T4,e5,(f286 _).Bc rfl rfl,BF (show n<9223372036854775807 by omega)];refine⟨λhe=>?_,λhe=>?_⟩
  .have vh:65<=s[n].toNat/\s[n].toNat<=90:=by omega
   have e6:Cv [.cells ((GM s n).map Nz)] 1 (Pt 0 n) (.int .u8 ((s[n].toNat:Int)-65+97))=some [.cells (((GM s n).map Nz).set n (.int .u8 ((s[n].toNat:Int)-65+97)))]:=bV (by rw[Ai,Vd];exact hlt) rfl;simp only[AB,gV,YD,wrap_u8 (show 0<=((s[n].toNat:Int)-65)/\((s[n].toNat:Int)-65)<=255 by omega),wrap_u8 (show 0<=((s[n].toNat:Int)-65+97)/\((s[n].toNat:Int)-65+97)<=255 by omega),e6];refine AF.next (n+1) rfl ⟨hlt,?_⟩ (by omega);rw[QY hlt,Fh];have e7:Nz (HY s[n])= .int .u8 ((s[n].toNat:Int)-65+97):=by unfold Nz;rw[QX vh];congr 1;omega
   rw[e7]
  .have Wj:¬(65<=s[n].toNat/\s[n].toNat<=90):=by omega
   refine AF.next (n+1) rfl ⟨hlt,?_⟩ (by omega);rw[QY hlt,M9 Wj,xZ (Ve hlt)]
 .have i1:¬(n:Int)<(s.length:Int):=by omega
  have en:n=s.length:=by omega
  subst en;have e8:Kl [.cells ((GM s s.length).map Nz)] (.Cl 0 0 s.length 1)=some ([.CG],.sl 1 (BZ (Fc s))):=by
   have hl:(Fc s).length=s.length:=by simp[Fc]
   rw[bU];simp only[Kl,JN];rw[if_pos (by simp[hl])];rw[Ol (Fc s) s.length 0 (by omega)];simp
  simp only[AB,i1,An,Ak,Ag,e8,AM.Th (s:=Fc s) .mk]
end
section
def Rf(l:Ap)(ws:List Ap):Prop:=Ev cx 290 [.str l] [] λr _=>r= .sl 1 (ws.map CH)
theorem PG{l:Ap}{ws:List Ap}(n:Nat)(hr:(IT.run tab n (tab 290 [.str l]) []).map (λx=>(x.1,x.2.1))=some (.ret,[.sl 1 (ws.map CH)])):Rf l ws:=by obtain⟨⟨x,vs,h⟩,e1,e2⟩:=Ky.1 hr;cases e2;rw[ak] at e1;exact⟨n,_,_,_,e1,rfl,_,rfl,rfl⟩
theorem f236{l:Ap}{ws:List Ap}(hf:Rf l ws)(hw:∀w∈ws,w.length<=AS)(hn:ws.length<9223372036854775807)(name:Ap):JG cx 258 [.str name,.str l] (.str (Ca name ws)):=by
 rw[LZ,oS,aBE];refine vC (hf.mono λr h1 e=>?_);subst e;have eJ:AM 1 (ws.map CH) (.sl 1 (ws.map CH)):= .mk;simp only[AB,eJ.len];refine Bb (λn:Nat=>[.str [],I (n:Int)]) (λn _=>n<=ws.length/\Ca name ws=Ca name (ws.drop n)) (λn=>ws.length-n) 0 rfl ⟨AR _,rfl⟩ ?_;rintro n h ⟨ax,ha⟩;rcases AT n ws.length with hlt|D1
 .have i1:(n:Int)<((ws.map CH).length:Int):=by simp;omega
  have Rg:n<(ws.map CH).length:=by simpa using hlt
  have e1:(ws.map CH)[n]=[.str ws[n]]:=by simp[CH]
  rw[AG hlt,Ca] at ha;simp only[AB,i1,Aq,Ak,Ag,eJ.Fj Rg,e1,(aBX ws[n] (hw _ (AI hlt))).Bc rfl rfl,BF (show n<9223372036854775807 by omega)];refine⟨λhe=>?_,λhe=>?_⟩;·rw[ha,if_pos he]
  .rw[if_neg he] at ha;exact AF.next (n+1) rfl ⟨hlt,ha⟩ (by omega)
 .have i1:¬(n:Int)<((ws.map CH).length:Int):=by simp;omega
  rw[A3 D1,Ca] at ha;simp only[AB,i1,An,Ak,Ag,ha]
theorem aFV(l name:Ap)(hl:l.length<=AS):JG cx 266 [.str l,.str name] (.str (Ca name (Dl [] l))):=by
 have hl':l.length<=140737488355328:=hl;rw[LZ,pc,aFH];refine Bb (λp:Nat×Nat=>[.str [],I (p.1:Int),I (p.2:Int)])
  (λp _=>(p.1<=p.2/\p.2<=l.length/\Ca name (Dl [] l)=Ca name (Dl ((l.take p.2).drop p.1) (l.drop p.2)))\/(p.2=l.length+1/\Ca name (Dl [] l)=name)) (λp=>l.length+1 -p.2) (0,0) rfl (.inl ⟨Ac _,AR _,by simp⟩) ?_
 rintro⟨a,n⟩ h aBV;rcases aBV with⟨Wm,hn,ha⟩|⟨hn,Wj⟩
 .simp only at Wm hn ha;have i1:(n:Int)<=(l.length:Int):=by omega
  have NI:((l.take n).drop a).length<=AS:=by simp[AS];omega
  rcases AT n l.length with hlt|D1
  .have i2:¬(n:Int)=(l.length:Int):=by omega
   simp only[AB,i1,i2,Aq,An,Ag,Ak,LH hlt,BF (show n<9223372036854775807 by omega),M7 Wm hn,(aBW _ NI).Bc rfl rfl];rw[AG hlt,Ok] at ha;refine⟨λhe=>?_,λhe=>?_⟩
   .have e:l[n]=32:=by rw[<-UInt8.toNat_inj];exact Int.ofNat.inj he
    rw[if_pos e,Ca] at ha;refine⟨λhw=>?_,λhw=>?_⟩;·rw[ha,if_pos hw]
    .rw[if_neg hw] at ha;refine AF.next (n+1,n+1) rfl (.inl ⟨Ac _,hlt,?_⟩) (by simp only;omega);rw[ha,List.drop_take_self]
   .have e:¬l[n]=32:=λe=>he (by rw[e];rfl);rw[if_neg e] at ha;refine AF.next (a,n+1) rfl (.inl ⟨by simp only;omega,hlt,?_⟩) (by simp only;omega);rw[ha,bR Wm hlt]
  .have e:n=l.length:=by omega
   subst e;simp only[AB,HT,Aq,Ag,Ak,M7 Wm hn,BF (show l.length<9223372036854775807 by omega),(aBW _ NI).Bc rfl rfl];rw[A3 (Ac _),Py,Ca,Ca] at ha;refine⟨λhw=>?_,λhw=>?_⟩;·rw[ha,if_pos hw]
   .rw[if_neg hw] at ha;exact AF.next (l.length+1,l.length+1) rfl (.inr ⟨rfl,ha⟩) (by simp only;omega)
 .simp only at hn;subst hn;have i1:¬((l.length+1:Nat):Int)<=(l.length:Int):=by omega
  simp only[AB,i1,An,Ag,Ak,Wj]
theorem TA:Rf KN HX:=PG 5000 (by kernel_rfl)
theorem TB:Rf Mr Hd:=PG 5000 (by kernel_rfl)
theorem aKS(s:Ap):JG cx 183 [.str s] (.str (Ca s HX)):=by rw[LZ,nN,show aBb (.str s)= .Bc 258 [.str s,.str KN] λv=> .ret .ret [v] from rfl];rw[(f236 (l:=KN) TA (by decide+kernel) (by decide+kernel) s).Bc rfl rfl];simp only[AB]
theorem aFW(s:Ap):JG cx 202 [.str s] (.str (Ca s HX)):=by rw[LZ,np,show aFp (.str s)= .Bc 266 [.str KN,.str s] λv=> .ret .ret [v] from rfl];rw[(aFV KN s (by decide+kernel)).Bc rfl rfl,Vf];simp only[AB]
theorem f235(s:Ap):JG cx 257 [.str s] (.str (Ca s Hd)):=by rw[LZ,oR,show aBD (.str s)= .Bc 258 [.str s,.str Mr] λv=> .ret .ret [v] from rfl];rw[(f236 (l:=Mr) TB (by decide+kernel) (by decide+kernel) s).Bc rfl rfl];simp only[AB]
end
section
theorem aKT{v:Aa}{l:List AU}(hv:Bw l v)(hn:l.length<9223372036854775807)(h:Ad){f:FuncId}{p:AU->Bool}(hp:∀a∈l,BI cx f [.agg a.row] h (.bool (p a)) h)(hf:f<=99999):
  BI cx 225 [v,.func (.func f) [] []] h (I (B9 p 0 l)) h:=by
 rw[Ab,T8,zZ];have hlen:(l.map AU.row).length=l.length:=Ai ..;simp only[AB,AM.len hv];refine Bb (λn:Nat=>[I 0,I (n:Int)]) (λn h1=>n<=l.length/\B9 p 0 l=B9 p n (l.drop n)/\h1=h) (λn=>l.length-n) 0 rfl ⟨AR _,rfl,rfl⟩ ?_;rintro n h1 ⟨ax,ha,rfl⟩;rcases AT n l.length with hlt|D1
 .have i1:(n:Int)<((l.map AU.row).length:Int):=by rw[hlen];omega
  have e1:(l.map AU.row)[n]'(by rw[hlen];exact hlt)=AU.row l[n]:=by simp
  have e2:EN (AU.row l[n]) 0 (some 3)=some (.agg (AU.row l[n])):=by simp[AU.row]
  rw[AG hlt,B9] at ha;simp only[AB,↓reduceIte,Dt,hf,BC,i1,Aq,Ak,Ag,AM.Fj hv (show n<(l.map AU.row).length by rw[hlen];exact hlt),e1,e2,(hp _ (AI hlt)).call];rw[Cu];refine⟨λhe=>?_,λhe=>?_⟩;·rw[ha,if_pos he]
  .rw[if_neg (by simp[he])] at ha;simp only[AB,BF (show n<9223372036854775807 by omega)];exact AF.next (n+1) rfl ⟨hlt,ha,rfl⟩ (by omega)
 .have i1:¬(n:Int)<((l.map AU.row).length:Int):=by rw[hlen];omega
  rw[A3 D1,B9] at ha;simp only[AB,↓reduceIte,Dt,hf,i1,An,Ak,Ag,ha]
theorem aKU(a:AU)(h:Ad):BI cx 226 [.agg a.row] h (.bool (NB a)) h:=by rw[Ab,oD,aBp,AU.row];simp only[AB,NB];refine⟨λh=>by simp[h],λh=>by simp[h]⟩
theorem aFX(a b:Ap)(ha:a.length<=AS)(hb:b.length<=AS):JG cx 227 [.str a,.str b] (.bool (decide (Fc a=Fc b))):=by rw[LZ,oE,aBq];simp only[AB,(aBX a ha).Bc rfl rfl,(aBX b hb).Bc rfl rfl]
theorem f96{v:Aa}{l:List AU}(hv:Bw l v)(hl:∀a∈l,a.value.length<=AS)(hn:l.length<9223372036854775807)(n:Int)(s:Ap)(h:Ad):BI cx 147 [I n,.str s,v] h (.bool (EH n s l)) h:=by
 rw[Ab,mZ,aAT];simp only[AB,VJ,(aKT hv hn h (λa _=>aKU a h) (by decide)).call,EH];refine⟨λh2=>by simp[h2],λh2=>⟨λh3=>by simp[h2,h3],λh3=>⟨λh4=>by simp[h2,h3,h4],λh4=>?_⟩⟩⟩;rw[if_neg h2,if_neg h3,if_neg h4];rcases GN (p:=NB) (l:=l) (k:=0) with⟨h5,h6⟩|⟨k,a,h5,h6,h7⟩
 .rw[h5,h6];simp
 .rw[h5,h7,BJ];obtain⟨hk,e⟩:=Ah.1 h6;have hk':k<(l.map AU.row).length:=by simpa using hk
  have e1:(l.map AU.row)[k]=AU.row a:=by simp[e]
  have i1:(0:Int)<=(k:Int):=by omega
  have Kr:a.value.length<=AS:=hl a (e▸AI hk);have e2:Fc lX=lX:=S2 (by decide+kernel);have e3:Fc YH=YH:=S2 (by decide+kernel);simp only[AB,i1,Aq,Ak,Ag,AM.Fj hv hk',e1,AU.row,(aFX a.value lX Kr (by decide)).Bc rfl rfl,(aFX a.value YH Kr (by decide)).Bc rfl rfl,e2,e3];refine⟨λh=>by simp[h],λh=>by simp[h]⟩
theorem aFY{v:Aa}{l:List AU}(hv:Bw l v)(hl:∀a∈l,a.value.length<=AS)(hn:l.length<9223372036854775807)(n:Int)(s:Ap)(hs:s.length<9223372036854775807)(h:Ad):BI cx 166 [I n,.str s,v] h (.bool (EH n s l)) h:=by
 rw[Ab,ma,aE2];simp only[AB,S8 hs,EH];refine⟨λh2=>by simp[h2,DX],λh2=>⟨λh3=>by simp[h2,h3],λh3=>⟨λh4=>by simp[h2,h3,h4],λh4=>?_⟩⟩⟩;rw[if_neg h2,if_neg h3,if_neg h4];have hlen:(l.map AU.row).length=l.length:=Ai ..;refine Bb (λn:Nat=>[.bool false,I (n:Int)]) (λn h1=>n<=l.length/\l.find? NB=(l.drop n).find? NB/\h1=h) (λn=>l.length-n) 0 rfl ⟨AR _,rfl,rfl⟩ ?_;rintro n h1 ⟨ax,ha,rfl⟩;rcases AT n l.length with hlt|D1
 .have i1:(n:Int)<((l.map AU.row).length:Int):=by rw[hlen];omega
  have e1:(l.map AU.row)[n]'(by rw[hlen];exact hlt)=AU.row l[n]:=by simp
  rw[AG hlt,I1] at ha;simp only[AB,AM.len hv,i1,Aq,Ak,Ag,AM.Fj hv (show n<(l.map AU.row).length by rw[hlen];exact hlt),e1,AU.row,(aBW _ (hl _ (AI hlt))).Bc rfl rfl,BF (show n<9223372036854775807 by omega)];refine⟨λh5=>⟨λh6=>?_,λh6=>?_⟩,λh5=>?_⟩
  .have he:NB l[n]=true:=by simp[NB,h5,h6]
   rw[he] at ha;rw[ha];exact⟨λh7=>by simp[h7],λh7=>by simp[h7]⟩
  .have he:NB l[n]=false:=by simp[NB,h6]
   rw[he] at ha;exact AF.next (n+1) rfl ⟨hlt,ha,rfl⟩ (by omega)
  .have he:NB l[n]=false:=by simp[NB,h5]
   rw[he] at ha;exact AF.next (n+1) rfl ⟨hlt,ha,rfl⟩ (by omega)
 .have i1:¬(n:Int)<((l.map AU.row).length:Int):=by rw[hlen];omega
  rw[A3 D1,List.find?_nil] at ha;rw[ha];simp only[AB,AM.len hv,i1,An,Ak,Ag]
end
section
section
variable{α:Type}{f:α->List Aa}{l l2:List α}{v v2:Aa}{z b:Nat}{k k2:IntKind}
end
section
variable{h:Ad}{p:Aa}{l:List Item}
theorem Sk(hs:uJ h p l):BI cx 44 [p] h (I (l.length:Int)) h:=by
 rw[Ab,zB,t44];rcases hs with⟨rfl,rfl⟩|⟨id,o,v,rfl,hc,hv⟩
 .simp
 .simp only[AB,I4,hc.load,Bn,hv.Cp]
theorem f113(hs:uJ h p l)(i:Int):BI cx 116 [p,I i] h (.agg (Gy l i).row) h:=by
 rw[Ab,mO,aAJ];simp only[AB,↓reduceIte,AK,(Sk hs).call];refine⟨λhi=>by rw[Na (.inl hi)];simp[Item.row,Item.zero],λhi=>⟨λhl=>by rw[Na (.inr hl)];simp[Item.row,Item.zero],λhl=>?_⟩⟩;rcases hs with⟨rfl,rfl⟩|⟨id,o,v,rfl,hc,hv⟩
 .simp at hl;omega
 .obtain⟨n,rfl⟩:=O6 (show 0<=i by omega);have hn:n<l.length:=by omega
  simp only[AB,Nat.reduceLeDiff,↓reduceIte,EB,hc.load,Bn,hv.Bz hn,He hn]
theorem f39(hs:uJ h p l)(hn:l.length<=1000000000):BI cx 49 [p] h (.agg (D7 l).row) h:=by rw[Ab,zE,t49];simp only[AB,EB,(Sk hs).call,CJ (show -9223372036854775808<=(l.length:Int)-1 by omega) (show(l.length:Int)-1<9223372036854775808 by omega),(f113 hs _).call,D7]
def TC(F:Aa)(h:Ad)(q:Item->Bool):Prop:=∃f caps,F= .func (.func f) [] caps/\f<=99999/\∀a:Item,BI cx f (.agg a.row::caps) h (.bool (q a)) h
theorem TC.FF{F:Aa}{q:Item->Bool}(hF:TC F h q)(a:Item){k:Aa->IT}{Q:Post}:W cx (.FF F [.agg a.row] k) Q h↔W cx (k (.bool (q a))) Q h:=by obtain⟨f,caps,rfl,hf,hr⟩:=hF;rw[LG];simp only[Dt,hf,↓reduceIte,BG,CB,Mp,(hr a).call]
theorem aBY(hs:uJ h p l)(hn:l.length<=1000000000){F:Aa}{q:Item->Bool}(hF:TC F h q):BI cx 207 [p,F] h (I (AJ q l)) h:=by
 obtain⟨f,caps,rfl,hf,hr⟩:=hF;rw[Ab,nT,aBf];simp only[AB,(Sk hs).call,CJ (show -9223372036854775808<=(l.length:Int)-1 by omega) (show(l.length:Int)-1<9223372036854775808 by omega)];refine Bb (λn:Nat=>[I 0,I ((n:Int)-1)]) (λn h1=>n<=l.length/\AJ q l=AJ q (l.take n)/\h1=h) (λn=>n) l.length rfl ⟨Ac _,by rw[Bu],rfl⟩ ?_;rintro n h1 ⟨ax,ha,rfl⟩;cases n with
 |zero=>
  have i1:¬(0:Int)<=((0:Nat):Int)-1:=by omega
  rw[ha];simp only[AB,↓reduceIte,Dt,hf,i1,An,Ak,Ag,IY]
 |succ n=>
  have i1:(0:Int)<=((n+1:Nat):Int)-1:=by omega
  have i2:((n+1:Nat):Int)-1=(n:Int):=by omega
  rcases hs with⟨rfl,rfl⟩|⟨id,o,v,rfl,hc,hv⟩
  .simp at ax
  .rw[F8 (by omega)] at ha;simp only[AB,Nat.reduceLeDiff,↓reduceIte,Dt,EB,hf,i2,show(0:Int)<=(n:Int) by omega,Aq,Ak,Ag,hc.load,Bn,hv.Bz (show n<l.length by omega),(hr l[n]).call,CJ (show -9223372036854775808<=(n:Int)-1 by omega) (show(n:Int)-1<9223372036854775808 by omega)];rw[Cu];refine⟨λhe=>?_,λhe=>?_⟩;·rw[ha,if_pos he]
   .rw[if_neg (by simp[he])] at ha;exact AF.next n rfl ⟨by omega,ha,rfl⟩ (by omega)
theorem aKV{v:Aa}{ws:List Ap}(hv:IH ws v)(hn:ws.length<=1000000000)(s:Ap)(h:Ad):BI cx 206 [v,.str s] h (I (B9 (λw=>decide (s=w)) 0 ws)) h:=by
 rw[Ab,nS,aBe];have hv:AM 1 (ws.map CH) v:=hv;simp only[AB,hv.Cp];refine Bb (λn:Nat=>[I 0,I (n:Int)]) (λn h1=>n<=ws.length/\B9 (λw=>decide (s=w)) 0 ws=B9 (λw=>decide (s=w)) n (ws.drop n)/\h1=h) (λn=>ws.length-n) 0 rfl ⟨AR _,rfl,rfl⟩ ?_;rintro n h1 ⟨ax,ha,rfl⟩;rcases AT n ws.length with hlt|D1
 .have i1:(n:Int)<(ws.length:Int):=by omega
  rw[AG hlt,B9] at ha;simp only[AB,i1,Aq,Ak,Ag,hv.Bz hlt,CH,BF (show n<9223372036854775807 by omega)];refine⟨λhe=>?_,λhe=>?_⟩;·rw[ha,if_pos (by simpa using he)]
  .rw[if_neg (by simpa using he)] at ha;exact AF.next (n+1) rfl ⟨hlt,ha,rfl⟩ (by omega)
 .have i1:¬(n:Int)<(ws.length:Int):=by omega
  rw[A3 D1,B9] at ha;simp only[AB,i1,An,Ak,Ag,ha]
theorem aFZ{v:Aa}{ws:List Ap}(hv:IH ws v)(hn:ws.length<=1000000000)(s:Ap)(h:Ad):BI cx 109 [v,.str s] h (.bool (decide (s∈ws))) h:=by rw[Ab,mI,t109];simp only[AB,(aKV hv hn s h).call,i_]
theorem cW{v:Aa}{ws:List Ap}(hv:IH ws v)(hn:ws.length<=1000000000)(a:Item)(h:Ad):BI cx 181 [.agg a.row,v] h (.bool (Bp ws a)) h:=by rw[Ab,nL,aA9];simp only[AB,EB,(aFZ hv hn _ h).call,Bp];refine⟨λh1=>by simp[h1],λh1=>by simp[h1]⟩
theorem aKW(a:Item)(h:Ad):BI cx 293 [.agg a.row] h (.bool (Bp M8 a)) h:=by rw[Ab,o8,aBN];simp only[AB,EB,hZ,(cW (ws:=M8) CQ (by decide) a h).call]
theorem aKX(a:Item)(h:Ad):BI cx 294 [.agg a.row] h (.bool (!Bp K6 a)) h:=by rw[Ab,o9,aBO];simp only[AB,EB,bX,(cW (ws:=K6) CQ (by decide) a h).call]
theorem aKY(n:Int)(h4:n≠4)(h5:n≠5)(a:Item)(h:Ad):BI cx 295 [.agg a.row,.CA [I n]] h (.bool (II n a)) h:=by have b1:=cW (ws:=OS) CQ (by decide) a h;have b2:=cW (ws:=P7) CQ (by decide) a h;have b3:=cW (ws:=[aSw]) CQ (by decide) a h;rw[Ab,pA,aBP];simp only[AB,EB,VJ,iA,rR,rS,b1.call,b2.call,b3.call,II,h4,h5];refine⟨λh1=>by simp[h1],λh1=>⟨λh2=>by simp[h2],λh2=>?_⟩⟩;rw[Cu];simp only[h1,h2,or_self,D9];refine⟨λh3=>by simp[h3],λh3=>⟨λh6=>?_,λh6=>⟨λh7=>by simp[h3,h7],λh7=>by simp[h3,h6,h7]⟩⟩⟩;rw[Cu];exact⟨λh7=>by simp[h3,h6,h7],λh7=>⟨λh8=>by omega,λh8=>by simp[h3,h7,h8]⟩⟩
theorem f264(n:Int)(h:Ad):∃F,BI cx 268 [I n] h F h/\TC F h (II n)/\F.cells=[F]:=by
 by_cases h4:n=4
 .refine⟨.func (.func 293) [] [],?_,⟨_,_,rfl,by decide,λa=>?_⟩,rfl⟩;·rw[Ab,Ua,ae];simp only[AB,h4,Aq,Ak,Ag]
  .have:=aKW a h;simpa[II,h4] using this
 .by_cases h5:n=5
  .refine⟨.func (.func 294) [] [],?_,⟨_,_,rfl,by decide,λa=>?_⟩,rfl⟩;·rw[Ab,Ua,ae];simp only[AB,h5,Aq,Ak,Ag];simp
   .have:=aKX a h;simpa[II,h5] using this
  .refine⟨.func (.func 295) [] [.CA [I n]],?_,⟨_,_,rfl,by decide,λa=>aKY n h4 h5 a h⟩,rfl⟩;rw[Ab,Ua,ae];simp only[AB,h4,h5,An,Ak,Ag]
theorem aKZ{F1 F2:Aa}{q e:Item->Bool}(h1:TC F1 h q)(h2:TC F2 h e)(a:Item):BI cx 269 [.agg a.row,.CA [F1],.CA [F2]] h (.bool (q a||e a)) h:=by have c1:=λk Q=>h1.FF a (k:=k) (Q:=Q);have c2:=λk Q=>h2.FF a (k:=k) (Q:=Q);rw[Ab,oV,aBH];obtain⟨f,caps,rfl,hf,r1⟩:=h1;obtain⟨f',caps',rfl,wM,r2⟩:=h2;simp only[AB,↓reduceIte,Dt,EB,hf,wM,(r1 a).call,(r2 a).call];rw[Cu];exact⟨λh=>by simp[h],λh=>by simp[h]⟩
theorem f204(hs:uJ h p l)(hn:l.length<=1000000000)(n:Int){F:Aa}{q:Item->Bool}(hF:TC F h q):BI cx 210 [p,I n,F] h (.bool (I2 q (II n) l.reverse)) h:=by
 obtain⟨G,hG,aF0,IP⟩:=f264 n h;have hFc:F.cells=[F]:=by obtain⟨f,caps,rfl,hf,_⟩:=hF;rfl
 have hF':=hF;have hfit:TC (.func (.func 269) [] [.CA [F],.CA [G]]) h (λa=>q a||II n a):=⟨269,_,rfl,by decide,λa=>aKZ hF aF0 a⟩;rw[Ab,nW,aBi];simp only[AB,↓reduceIte,Dt,hFc,hG.call,IP,(aBY hs hn hfit).call];rw[<-iB l true];rcases CP (q:=λa=>q a||II n a) (l:=l) with⟨h1,h2⟩|⟨k,hk,h1,h2,h3⟩
 .simp[h1]
 .have c1:(0:Int)<=(k:Int)/\(k:Int).toNat<l.length:=⟨by omega,by simpa using hk⟩;simp only[h1];rw[dif_pos c1];rcases hs with⟨rfl,rfl⟩|⟨id,o,v,rfl,hc,hv⟩
  .simp at hk
  .obtain⟨f,caps,rfl,hf,hr⟩:=hF';simp only[AB,Nat.reduceLeDiff,↓reduceIte,EB,hf,c1.1,Aq,Ak,Ag,hc.load,Bn,hv.Bz hk,(hr l[k]).call,AQ]
theorem f225{v:Aa}{ws:List Ap}(hv:IH ws v)(hn:ws.length<=1000000000)(a:Item)(h:Ad):BI cx 248 [.agg a.row,.CA [v]] h (.bool (Bp ws a)) h:=by have b:=cW hv hn a h;rw[Ab,oo,aFA];simp only[AB,EB,b.call]
theorem aK0(hs:uJ h p l)(hn:l.length<=1000000000)(n:Int){v:Aa}{ws:List Ap}(hv:IH ws v)(hw:ws.length<=1000000000):BI cx 169 [p,I n,v] h (.bool (I2 (Bp ws) (II n) l.reverse)) h:=by have hfit:TC (.func (.func 248) [] [.CA [v]]) h (Bp ws):=⟨248,_,rfl,by decide,λa=>f225 hv hw a h⟩;rw[Ab,me,aE5];simp only[AB,hv.cells,(f204 hs hn n hfit).call]
theorem f205(node:Int)(a:Item)(h:Ad):BI cx 211 [.agg a.row,.CA [I node]] h (.bool (Bm node a)) h:=by rw[Ab,nX,aBj,Item.row];simp only[AB,EB,Bm]
theorem aK1(hs:uJ h p l)(hn:l.length<=1000000000)(n node:Int):BI cx 113 [p,I n,I node] h (.bool (I2 (Bm node) (II n) l.reverse)) h:=by have hfit:TC (.func (.func 211) [] [.CA [I node]]) h (Bm node):=⟨211,_,rfl,by decide,λa=>f205 node a h⟩;rw[Ab,mM,aAH];simp only[AB,(f204 hs hn n hfit).call]
theorem f202(node:Int)(a:Item)(h:Ad):BI cx 208 [.agg a.row,.CA [I node]] h (.bool (Bm node a)) h:=by rw[Ab,nU,aBg,Item.row];simp only[AB,EB,Bm]
theorem WT(hs:uJ h p l)(hn:l.length<=1000000000)(node:Int):BI cx 111 [p,I node] h (I (AJ (Bm node) l)) h:=by have hfit:TC (.func (.func 208) [] [.CA [I node]]) h (Bm node):=⟨208,_,rfl,by decide,λa=>f202 node a h⟩;rw[Ab,mK,aAF];simp only[AB,(aBY hs hn hfit).call]
theorem f232(s:Ap)(a:Item)(h:Ad):BI cx 223 [.agg a.row,.CA [.str s]] h (.bool (Bp [s] a)) h:=by have b:=cW (ws:=[s]) CQ (show[s].length<=1000000000 by simp) a h;rw[Ab,oC,aBo];simp only[AB,EB,DE (ws:=[s]) (args:=[.str s]) rfl (by simp),b.call]
theorem aBZ(hs:uJ h p l)(hn:l.length<=1000000000)(s:Ap):BI cx 137 [p,.str s] h (I (AJ (Bp [s]) l)) h:=by have hfit:TC (.func (.func 223) [] [.CA [.str s]]) h (Bp [s]):=⟨223,_,rfl,by decide,λa=>f232 s a h⟩;rw[Ab,mX,aAS];simp only[AB,(aBY hs hn hfit).call]
end
end
section
section
variable{h:Ad}{p v:Aa}{l:List Item}
theorem aF1(hv:BN l v)(a:Item){n:Nat}(hn:n<=l.length)(hb:l.length<=1000000000):∃u,BI cx 217 [v,.agg a.row,I (n:Int)] h u h/\BN (l.take n++a::l.drop n) u:=by
 have Qq:(l.length+1)*40<=AS:=by have:AS=140737488355328:=rfl;omega
 obtain⟨u1,e1,h1⟩:=AM.K8 hv (k:= .i64) hn;obtain⟨u2,e2,h2⟩:=AM.Gj h1 (b:=40) (by rw[Al];have:AS=140737488355328:=rfl;omega);have e3:=AM.Jb (a:=a) h2 (b:=40) (by rw[Al];have:AS=140737488355328:=rfl;omega);obtain⟨u4,e4,h4⟩:=AM.QZ hv (k:= .i64) hn;obtain⟨u5,e5,h5⟩:=AM.YI (v:= .sl 4 ((l.take n++[a]).map Item.row)) .mk h4 (b:=40) (by rw[As,Al,A8,Br];have:AS=140737488355328:=rfl;omega);refine⟨u5,?_,by rw[AD] at h5;exact h5⟩;rw[Ab,oA,aBm];simp only[AB,EB,e1,e2,K9,e3,e4,e5]
theorem f95{id o:Nat}(hs:KG h id o l)(hb:l.length<=1000000000)(a:Item):∃u,BI cx 146 [Pt id o,.agg a.row] h (.tuple []) (put h id o u)/\BN (l++[a]) u:=by obtain⟨v,hc,hv⟩:=hs;obtain⟨u,hr,hu⟩:=aF1 (h:=h) hv a (n:=l.length) (Ac _) hb;rw[Bu,Fm] at hu;refine⟨u,?_,hu⟩;rw[Ab,mY,t146];simp only[AB,EB,kO,JO,hc.load,Bn,AM.Cp hv,hr.call,hc.store hu.cells]
theorem aK2(hs:uJ h p l)(hb:l.length<=1000000000)(node:Int):BI cx 114 [p,I node] h (I (Dz node l)) h:=by
 rw[Ab,mN,aAI];have hbd: -1<=AJ (Bm node) l/\AJ (Bm node) l<l.length+1:=by rcases CP (q:=Bm node) (l:=l) with⟨h1,h2⟩|⟨n,hn,h1,h2,h3⟩<;>rw[h1]<;>omega
 simp only[AB,(WT hs hb node).call,OT (show -9223372036854775808<=AJ (Bm node) l+1 by omega) (show AJ (Bm node) l+1<9223372036854775808 by omega)];rw[HL];by_cases Ff:AJ (Bm node) l<0
 .rw[if_pos Ff];refine Bb (λn:Nat=>[I 0,I (AJ (Bm node) l+1)]) (λn h1=>h1=h) (λn=>n) 0 rfl rfl ?_;rintro n h1 rfl;have i1:¬0<=AJ (Bm node) l:=by omega
  simp only[AB,i1,An,Ak,Ag]
 .rw[if_neg Ff];have i0:0<=AJ (Bm node) l:=by omega
  obtain⟨m,hm⟩:=O6 i0;refine Bb (λn:Nat=>[I 0,I (n:Int)]) (λn h1=>Em F9 l (m+1)=Em F9 l n/\h1=h) (λn=>l.length-n) (m+1) (by rw[hm];rfl) ⟨rfl,rfl⟩ ?_;rw[hm,AQ];rintro n h1 ⟨ha,rfl⟩;simp only[AB,show(0:Int)<=(m:Int) by omega,Aq,Ak,Ag,(Sk hs).call];rcases AT n l.length with hlt|D1
  .have i1:(n:Int)<(l.length:Int):=by omega
   rw[Q0 hlt] at ha;rcases hs with⟨rfl,rfl⟩|⟨id,o,v,rfl,hc,hv⟩
   .simp at hlt
   .simp only[AB,EB,i1,Aq,Ak,Ag,hc.load,Bn,AM.Bz hv hlt,VJ,BF (show n<9223372036854775807 by omega)];rw[Cu];refine⟨λhe=>?_,λhe=>?_⟩;·rw[ha,if_pos (by exact he)]
    .rw[if_neg (by simp[F9,he])] at ha;exact AF.next (n+1) rfl ⟨ha,rfl⟩ (by omega)
  .have i1:¬(n:Int)<(l.length:Int):=by omega
   rw[Pz D1] at ha;simp only[AB,i1,An,Ak,Ag,ha]
theorem f281(hv:BN l v)(i:Int):BI cx 142 [v,I i] h (.agg (Gy l i).row) h:=by
 have hv:AM 4 (l.map Item.row) v:=hv;rw[Ab,lp,aE0];simp only[AB,↓reduceIte,AK,hv.Cp];refine⟨λhi=>by rw[Na (.inl hi)];simp[Item.row,Item.zero],λhi=>⟨λhl=>by rw[Na (.inr hl)];simp[Item.row,Item.zero],λhl=>?_⟩⟩;obtain⟨n,rfl⟩:=O6 (show 0<=i by omega);have hn:n<l.length:=by omega
 simp only[AB,Nat.reduceLeDiff,↓reduceIte,EB,hv.Bz hn,He hn]
theorem aK3(hv:BN l v)(hb:l.length<=1000000000):BI cx 50 [v] h (.agg (D7 l).row) h:=by rw[Ab,aAk,t50];simp only[AB,EB,AM.Cp hv,CJ (show -9223372036854775808<=(l.length:Int)-1 by omega) (show(l.length:Int)-1<9223372036854775808 by omega),(f281 hv _).call,D7]
theorem f167(a:Item){ws:List Ap}(hv:IH ws v)(hn:ws.length<=1000000000):BI cx 40 [.agg a.row,v] h (.bool (Bp ws a)) h:=by
 rw[Ab,aAe,t40];simp only[AB,EB];refine⟨λh1=>by simp[Bp,h1],λh1=>?_⟩;have h1:a.AZ=1:=by simpa using h1
 have hv:AM 1 (ws.map CH) v:=hv;refine Bb (λn:Nat=>[.bool false,I (n:Int)]) (λn h1=>n<=ws.length/\(a.name∈ws↔a.name∈ws.drop n)/\h1=h) (λn=>ws.length-n) 0 rfl ⟨AR _,Iff.rfl,rfl⟩ ?_;rintro n h2 ⟨ax,ha,rfl⟩;rcases AT n ws.length with hlt|D1
 .have i1:(n:Int)<(ws.length:Int):=by omega
  rw[AG hlt,AL] at ha;simp only[AB,hv.Cp,i1,Aq,Ak,Ag,hv.Bz hlt,CH,BF (show n<9223372036854775807 by omega)];refine⟨λhe=>?_,λhe=>?_⟩;·have:a.name∈ws:=ha.2 (.inl he.symm);simp[Bp,h1,this]
  .exact AF.next (n+1) rfl ⟨hlt,ha.trans ⟨λh=>h.resolve_left (λh=>he h.symm),.inr⟩,rfl⟩ (by omega)
 .have i1:¬(n:Int)<(ws.length:Int):=by omega
  rw[A3 D1] at ha;simp only[AB,hv.Cp,i1,An,Ak,Ag];have:a.name∉ws:=λh=>by simpa using ha.1 h
  simp[Bp,this]
theorem f284(n:Int)(a:Item)(hs:a.name.length<9223372036854775807):BI cx 271 [.agg a.row,I n] h (.bool (II n a)) h:=by
 rw[Ab,pg,aFJ];simp only[AB,EB,sN hs,jH hs,ar hs,sP hs,cV hs,II,Bp];by_cases h1:a.AZ=1
 .have e1:¬a.AZ=3:=by omega
  have e2:¬a.AZ=2:=by omega
  simp only[h1,D4,M4,NO,Ag,Aq,kN,forall_const];by_cases h4:n=4;·simp[h4]
  .by_cases h5:n=5;·simp[h5]
   .by_cases h2:n=2;·simp[h2];by_cases hl:a.name∈P7<;>simp[hl]
    .by_cases h3:n=3;·simp[h3];by_cases hl:a.name=aSw<;>simp[hl]
     .simp[h4,h5,h2,h3]
 .simp only[h1,Fg,OP,false_and,Ak,Ag,An,JO];by_cases h4:n=4;·simp[h4]
  .by_cases h5:n=5;·simp[h5]
   .by_cases h3:a.AZ=3\/a.AZ=2;·simp[h4,h5,h3]
    .have e1:¬a.AZ=3:=λe=>h3 (.inl e);have e2:¬a.AZ=2:=λe=>h3 (.inr e);simp[h4,h5,e1,e2,DX,h1]
theorem aF2(hv:BN l v)(hb:l.length<=1000000000)(hl:∀a∈l,a.name.length<9223372036854775807){i:Nat}(hi:i<=l.length)(n:Int):BI cx 219 [v,I (i:Int),I n] h (.bool (!((l.drop (i+1)).any (II n)))) h:=by
 have hv:AM 4 (l.map Item.row) v:=hv;rw[Ab,oa,aFt];simp only[AB,BF (show i<9223372036854775807 by omega)];refine Bb (λm:Nat=>[.bool false,I (m:Int)]) (λm h1=>(l.drop (i+1)).any (II n)=(l.drop m).any (II n)/\h1=h) (λm=>l.length-m) (i+1) rfl ⟨rfl,rfl⟩ ?_;rintro m h1 ⟨ha,rfl⟩;rcases AT m l.length with hlt|D1
 .have i1:(m:Int)<(l.length:Int):=by omega
  rw[AG hlt,List.any_cons] at ha;simp only[AB,Nat.reduceLeDiff,↓reduceIte,EB,hv.Cp,i1,Aq,Ak,Ag,hv.Bz hlt,(f284 n l[m] (hl _ (AI hlt))).call,BF (show m<9223372036854775807 by omega)];rw[Cu];refine⟨λhe=>by rw[ha,he];rfl,λhe=>?_⟩;rw[he,Ji] at ha;exact AF.next (m+1) rfl ⟨ha,rfl⟩ (by omega)
 .have i1:¬(m:Int)<(l.length:Int):=by omega
  rw[A3 D1] at ha;simp only[AB,↓reduceIte,hv.Cp,i1,An,Ak,Ag,ha,List.any_nil,JO]
theorem f164(hv:BN l v)(hb:l.length<=1000000000)(hl:∀a∈l,a.name.length<9223372036854775807)(n:Int){w:Aa}{ws:List Ap}(hw:IH ws w)(hn:ws.length<=1000000000):BI cx 193 [v,I n,w] h (.bool (I2 (Bp ws) (II n) l.reverse)) h:=by
 have Du:AM 4 (l.map Item.row) v:=hv;rw[Ab,mz,aFh,<-bY];refine Bb (λm:Nat=>[.bool false,I (m:Int)]) (λm h1=>m<=l.length/\Vh (Bp ws) (II n) l=Vh (Bp ws) (II n) (l.drop m)/\h1=h) (λm=>l.length-m) 0 rfl ⟨AR _,rfl,rfl⟩ ?_;rintro m h1 ⟨hm,ha,rfl⟩;rcases AT m l.length with hlt|D1
 .have i1:(m:Int)<(l.length:Int):=by omega
  rw[AG hlt,Vh] at ha;simp only[AB,Nat.reduceLeDiff,↓reduceIte,EB,Du.Cp,i1,Aq,Ak,Ag,Du.Bz hlt,(f167 l[m] hw hn).call,(aF2 hv hb hl (WY hlt) n).call,BF (show m<9223372036854775807 by omega)];rw[Cu,Cu];refine⟨λh1=>⟨λh2=>by rw[ha,h1,h2];rfl,λh2=>?_⟩,λh1=>?_⟩;·rw[h2,Bool.and_false,Ji] at ha;exact AF.next (m+1) rfl ⟨hlt,ha,rfl⟩ (by omega)
  .rw[h1,Bool.false_and,Ji] at ha;exact AF.next (m+1) rfl ⟨hlt,ha,rfl⟩ (by omega)
 .have i1:¬(m:Int)<(l.length:Int):=by omega
  rw[A3 D1,Vh] at ha;simp only[AB,↓reduceIte,Du.Cp,i1,An,Ak,Ag,ha]
theorem WU(hv:BN l v)(hb:l.length<=1000000000)(node:Int):BI cx 125 [v,I node] h (I (AJ (Bm node) l)) h:=by
 have hv:AM 4 (l.map Item.row) v:=hv;rw[Ab,ki,aET];refine Bb (λn:Nat=>[I (AJ (Bm node) (l.take n)),I (n:Int)]) (λn h1=>n<=l.length/\h1=h) (λn=>l.length-n) 0 rfl ⟨AR _,rfl⟩ ?_;rintro n h1 ⟨hn,rfl⟩;rcases AT n l.length with hlt|D1
 .have i1:(n:Int)<(l.length:Int):=by omega
  have e:=F8 (q:=Bm node) hlt;simp only[AB,EB,hv.Cp,i1,Aq,Ak,Ag,hv.Bz hlt,BF (show n<9223372036854775807 by omega)];refine⟨λhe=>?_,λhe=>?_⟩;·rw[if_pos (by simpa[Bm] using he)] at e;exact AF.next (n+1) (by rw[e]) ⟨hlt,rfl⟩ (by omega)
  .rw[if_neg (by simpa[Bm] using he)] at e;exact AF.next (n+1) (by rw[e]) ⟨hlt,rfl⟩ (by omega)
 .have i1:¬(n:Int)<(l.length:Int):=by omega
  simp only[AB,hv.Cp,i1,An,Ak,Ag,Ay D1]
theorem aB0(hv:BN l v)(hb:l.length<=1000000000)(s:Ap):BI cx 141 [v,.str s] h (I (AJ (Bp [s]) l)) h:=by
 have hv:AM 4 (l.map Item.row) v:=hv;have b:=λa=>f167 (h:=h) a (ws:=[s]) CQ (show[s].length<=1000000000 by simp);rw[Ab,lj,aEZ];refine Bb (λn:Nat=>[I (AJ (Bp [s]) (l.take n)),I (n:Int)]) (λn h1=>n<=l.length/\h1=h) (λn=>l.length-n) 0 rfl ⟨AR _,rfl⟩ ?_;rintro n h1 ⟨hn,rfl⟩;rcases AT n l.length with hlt|D1
 .have i1:(n:Int)<(l.length:Int):=by omega
  have e:=F8 (q:=Bp [s]) hlt;simp only[AB,Nat.reduceLeDiff,↓reduceIte,EB,hv.Cp,i1,Aq,Ak,Ag,hv.Bz hlt,BF (show n<9223372036854775807 by omega),DE (ws:=[s]) (args:=[.str s]) rfl (by simp),(b l[n]).call];rw[Cu];refine⟨λhe=>?_,λhe=>?_⟩;·rw[if_pos he] at e;exact AF.next (n+1) (by rw[e]) ⟨hlt,rfl⟩ (by omega)
  .rw[if_neg (by simpa using he)] at e;exact AF.next (n+1) (by rw[e]) ⟨hlt,rfl⟩ (by omega)
 .have i1:¬(n:Int)<(l.length:Int):=by omega
  simp only[AB,↓reduceIte,hv.Cp,i1,An,Ak,Ag,Ay D1]
theorem aK4(hv:BN l v)(hb:l.length<=1000000000)(hl:∀a∈l,a.name.length<9223372036854775807)(n node:Int):BI cx 127 [v,I n,I node] h (.bool (I2 (Bm node) (II n) l.reverse)) h:=by
 rw[Ab,kj,t127,<-G_];simp only[AB,(WU hv hb node).call];rcases CP (q:=Bm node) (l:=l) with⟨h1,h2⟩|⟨k,hk,h1,h2,h3⟩
 .simp[h1]
 .rw[h1];simp only[AB,show(0:Int)<=(k:Int) by omega,show¬(k:Int)<0 by omega,Aq,Ak,Ag,(aF2 hv hb hl (WY hk) n).call,AQ]
theorem aK5(hv:BN l v)(hb:l.length<=1000000000)(hl:∀a∈l,a.name.length<9223372036854775807)(node:Int):BI cx 128 [v,I node] h (I (Dz node l)) h:=by
 have Du:AM 4 (l.map Item.row) v:=hv;rw[Ab,kq,aEU,HL];simp only[AB,(WU hv hb node).call];rcases CP (q:=Bm node) (l:=l) with⟨h1,h2⟩|⟨k,hk,h1,h2,h3⟩
 .simp[h1]
 .rw[h1];simp only[AB,show¬(k:Int)<0 by omega,An,Ak,Ag,AQ,BF (show k<9223372036854775807 by omega)];refine Bb (λn:Nat=>[I 0,I (n:Int)]) (λn h1=>Em F9 l (k+1)=Em F9 l n/\h1=h) (λn=>l.length-n) (k+1) rfl ⟨rfl,rfl⟩ ?_;rintro n h1 ⟨ha,rfl⟩;rcases AT n l.length with hlt|D1
  .have i1:(n:Int)<(l.length:Int):=by omega
   rw[Q0 hlt] at ha;simp only[AB,EB,Du.Cp,i1,Aq,Ak,Ag,Du.Bz hlt,cV (hl _ (AI hlt)),BF (show n<9223372036854775807 by omega)];rw[Cu];refine⟨λhe=>by rw[ha,if_pos (by exact he)],λhe=>?_⟩;rw[if_neg (by simp[F9,he])] at ha;exact AF.next (n+1) rfl ⟨ha,rfl⟩ (by omega)
  .have i1:¬(n:Int)<(l.length:Int):=by omega
   rw[Pz D1] at ha;simp only[AB,Du.Cp,i1,An,Ak,Ag,ha]
end
end
section
def VM(F:Aa)(q:Item->Bool):Prop:=∃f caps,F= .func (.func f) [] caps/\f<=99999/\∀(a:Item) (h:Ad),BI cx f (.agg a.row::caps) h (.bool (q a)) h
section
variable{h:Ad}{p v:Aa}{l:List Item}
theorem f42{id o:Nat}(hs:KG h id o l)(hb:l.length<=1000000000)(h2:2<=l.length):∃u,BI cx 38 [Pt id o] h (.agg (D7 l).row) (put h id o u)/\BN (l.take (l.length-1)) u:=by
 obtain⟨v,hc,hv⟩:=(show KG h id o l from hs);obtain⟨u,e,hu⟩:=AM.K8 hv (k:= .i64) (show l.length-1<=l.length by omega);refine⟨u,?_,hu⟩;have e1:(l.length:Int)-1=((l.length-1:Nat):Int):=by omega
 rw[Ab,YX,t38];simp only[AB,EB,(Sk hs.at).call,(f39 hs.at hb).call,hc.load,Bn,AM.Cp hv,CJ (show -9223372036854775808<=(l.length:Int)-1 by omega) (show(l.length:Int)-1<9223372036854775808 by omega),e1,e,hc.store (AM.cells hu),show¬(l.length:Int)<2 by omega,An,Ak,Ag]
theorem qa{id o:Nat}(hs:KG h id o l)(hb:l.length<=1000000000){B A:Aa}{b a:Item->Bool}(hB:VM B b)(hA:VM A a):
  ∃u,BI cx 178 [Pt id o,B,A] h (I ((l.length:Int)-((Dr b a l).length:Int))) (put h id o u)/\BN (Dr b a l) u:=by
 obtain⟨fb,cb,rfl,sQ,rb⟩:=hB;obtain⟨fa,ca,rfl,hfa,ra⟩:=hA;have hlt:=hs.lt;have Ik:Ev cx 178 [Pt id o,.func (.func fb) [] cb,.func (.func fa) [] ca] h λr h'=>r= I ((l.length:Int)-((Dr b a l).length:Int))/\∃u,h'=put h id o u/\BN (Dr b a l) u:=by
  unfold Ev;rw[nJ,aA7];refine Bb (λn:Nat=>[I ((l.length:Int)-(n:Int))]) (λn h1=>n<=l.length/\(∃u,h1=put h id o u/\BN (l.take n) u)/\Dr b a l=Dr b a (l.take n)) (λn=>n) l.length (by simp) ⟨Ac _,by rw[Bu];exact hs.YL,by rw[Bu]⟩ ?_;rintro n h1 ⟨hn,⟨u,rfl,hu⟩,ha⟩;have IQ:KG (put h id o u) id o (l.take n):= .H_ hlt hu;have fD:(l.take n).length=n:=by rw[Al];omega
  simp only[AB,↓reduceIte,(Sk IQ.at).call,fD];match n,hn,hu,ha,IQ,fD with
  |0,hn,hu,ha,IQ,fD=>rw[Vi (l:=l.take 0) (by simp)] at ha;simp only[AB,show¬(1:Int)<((0:Nat):Int) by omega,An,Ak,Ag];exact⟨_,rfl,by rw[ha];rfl,u,rfl,by rw[ha];exact hu⟩
  |1,hn,hu,ha,IQ,fD=>rw[Vi (l:=l.take 1) (by rw[fD];exact Ac _)] at ha;simp only[AB,show¬(1:Int)<((1:Nat):Int) by omega,An,Ak,Ag];exact⟨_,rfl,by rw[ha,fD],u,rfl,by rw[ha];exact hu⟩
  |m+2,hn,hu,ha,IQ,fD=>
   have hm:m+1<l.length:=by omega
   have e1:((l.length:Int)-((m+2:Nat):Int))+1=(l.length:Int)-((m+1:Nat):Int):=by omega
   obtain⟨u2,hr,Il⟩:=f42 IQ (by omega) (by omega);rw[Vj hm] at hr;have e2:(l.take (m+2)).take ((l.take (m+2)).length-1)=l.take (m+1):=by rw[fD,GR,Cm (by omega)];rfl
   rw[e2] at Il;rw[YJ] at hr;have aF3:=f39 IQ.at (by omega);rw[Vj hm] at aF3;rw[XG hm] at ha;simp only[AB,↓reduceIte,Dt,hfa,sQ,show(1:Int)<((m+2:Nat):Int) by omega,Aq,Ak,Ag,aF3.call,(rb _ _).call,hr.call,(ra _ _).call,OT (show -9223372036854775808<=((l.length:Int)-((m+2:Nat):Int))+1 by omega) (show((l.length:Int)-((m+2:Nat):Int))+1<9223372036854775808 by omega),e1];rw[Cu,Cu];refine⟨λTu=>⟨λWG=>?_,λWG=>?_⟩,λTu=>?_⟩
   .have Tu:b l[m+1]=false:=by simpa using Tu
    rw[if_neg (by simp[Tu]),if_pos WG] at ha;exact⟨_,rfl,by rw[ha,Al,Cm (by omega)],u2,rfl,by rw[ha];exact Il⟩
   .have Tu:b l[m+1]=false:=by simpa using Tu
    rw[if_neg (by simp[Tu]),if_neg (by simp[WG])] at ha;exact AF.next (m+1) rfl ⟨by omega,⟨u2,rfl,Il⟩,ha⟩ (by omega)
   .have Tu:b l[m+1]=true:=by simpa using Tu
    rw[if_pos Tu] at ha;exact⟨_,rfl,by rw[ha,fD],u,rfl,by rw[ha];exact hu⟩
 obtain⟨r,h',hr,rfl,u,rfl,hu⟩:=Ik.ret;exact⟨u,hr,hu⟩
theorem Nh:VM (.func (.func 179) [] []) CC:=⟨_,_,rfl,by decide,λa h=>by rw[Ab,nK,aA8];simp only[AB,EB,CC]⟩
theorem jI{w:Aa}{ws:List Ap}(hw:IH ws w)(hn:ws.length<=1000000000):VM (.func (.func 180) [] [.CA [w]]) (Bp ws):=⟨_,_,rfl,by decide,λa h=>by rw[Ab,mj,aE9];simp only[AB,EB,(cW hw hn a h).call]⟩
theorem Zj(s:Ap):VM (.func (.func 249) [] [.CA [.str s]]) (DY s):=⟨_,_,rfl,by decide,λa h=>by
 rw[Ab,oL,aBx];simp only[AB,EB,ao,DY];refine⟨λh1=>by simp[h1],λh1=>?_⟩;rw[Cu];refine⟨λh2=>?_,λh2=>?_⟩
 .have h2:a.name∉Fx:=by simpa using h2
  simp[h2]
 .have h2:a.name∈Fx:=by simpa using h2
  have h1:a.AZ=1:=by simpa using h1
  simp[h2,h1]⟩
theorem WV:VM (.func (.func 255) [] []) Cs:=⟨_,_,rfl,by decide,λa h=>by
 rw[Ab,oq,aFB];simp only[AB,EB,aq,Cs];refine⟨λh1=>by simp[h1],λh1=>?_⟩;have h1:a.AZ=1:=by simpa using h1
 simp[h1]⟩
theorem Zk(node:Int):VM (.func (.func 212) [] [.CA [I node]]) (Bm node):=⟨_,_,rfl,by decide,λa h=>by rw[Ab,nY,aBk];simp only[AB,EB,Bm]⟩
theorem aF4{id o:Nat}(hs:KG h id o l)(hb:l.length<=1000000000)(s:Ap):
  ∃u,BI cx 170 [Pt id o,.str s] h (I ((l.length:Int)-((Dr (DY s) CC l).length:Int))) (put h id o u)/\BN (Dr (DY s) CC l) u:=by
 obtain⟨u,hr,hu⟩:=qa hs hb (Zj s) Nh;exact⟨u,by rw[Ab,nG,aA4];simp only[AB,hr.call],hu⟩
theorem f66{id o:Nat}(hs:KG h id o l)(hb:l.length<=1000000000){w:Aa}{ws:List Ap}(hw:IH ws w)(hn:ws.length<=1000000000):
  ∃u,BI cx 83 [Pt id o,w] h (I ((l.length:Int)-((Dr CC (Bp ws) l).length:Int))) (put h id o u)/\BN (Dr CC (Bp ws) l) u:=by
 obtain⟨u,hr,hu⟩:=qa hs hb Nh (jI hw hn);exact⟨u,by rw[Ab,aAu,t83];simp only[AB,IH.cells hw,hr.call],hu⟩
theorem f145{id o:Nat}(hs:KG h id o l)(hb:l.length<=1000000000):
  ∃u,BI cx 177 [Pt id o] h (I ((l.length:Int)-((Dr Cs CC l).length:Int))) (put h id o u)/\BN (Dr Cs CC l) u:=by
 obtain⟨u,hr,hu⟩:=qa hs hb WV Nh;exact⟨u,by rw[Ab,mi,aE8];simp only[AB,hr.call],hu⟩
theorem aF5{id o:Nat}(hs:KG h id o l)(hb:l.length<=1000000000)(node:Int):
  ∃u,BI cx 115 [Pt id o,I node] h (I ((l.length:Int)-((Ga node l).length:Int))) (put h id o u)/\BN (Ga node l) u:=by
 by_cases Ff:AJ (Bm node) l<0;·obtain⟨u,e,hu⟩:=hs.YL;refine⟨u,?_,by rw[Ga,if_pos Ff];exact hu⟩;rw[Ga,if_pos Ff,Int.sub_self,Ab,YZ,ka];simp only[AB,(WT hs.at hb node).call,Ff,Aq,Ak,Ag];exact e
 .obtain⟨u,hr,hu⟩:=qa hs hb Nh (Zk node);refine⟨u,?_,by rw[Ga,if_neg Ff];exact hu⟩;rw[Ga,if_neg Ff,Ab,YZ,ka];simp only[AB,(WT hs.at hb node).call,Ff,An,Ak,Ag,hr.call]
end
end
section
section
variable{h:Ad}{p v:Aa}{l:List Item}
theorem f209(hv:BN l v){k:Nat}(hk:k<l.length)(hb:l.length<=1000000000):∃u,BI cx 216 [v,I (k:Int)] h u h/\BN (A7 l k) u:=by obtain⟨u1,e1,h1⟩:=AM.K8 hv (k:= .i64) (show k<=l.length by omega);obtain⟨u2,e2,h2⟩:=AM.Gj h1 (b:=40) (PC (by rw[Al];omega));obtain⟨u4,e4,h4⟩:=AM.QZ hv (k:= .i64) (show k+1<=l.length by omega);obtain⟨u5,e5,h5⟩:=AM.YI h2 h4 (b:=40) (PC (by rw[Al,A8];omega));refine⟨u5,?_,h5⟩;rw[Ab,nZ,aBl];simp only[AB,e1,e2,BF (show k<9223372036854775807 by omega),e4,e5]
theorem aB1{id o:Nat}(hs:KG h id o l)(hb:l.length<=1000000000)(node:Int):∃u,BI cx 121 [Pt id o,I node] h (.bool (decide (1<=AJ (Bm node) l))) (put h id o u)/\BN (CF node l) u:=by
 by_cases Ff:AJ (Bm node) l<1;·obtain⟨u,e,hu⟩:=hs.YL;refine⟨u,?_,by rw[CF,if_pos Ff];exact hu⟩;rw[Ab,Y1,kf,<-e];simp only[AB,(WT hs.at hb node).call,Ff,Aq,Ak,Ag,show¬1<=AJ (Bm node) l by omega,Fg]
 .rcases CP (q:=Bm node) (l:=l) with⟨h1,_⟩|⟨k,hk,h1,_⟩
  .rw[h1] at Ff;omega
  .obtain⟨v,hc,hv⟩:=(show KG h id o l from hs);obtain⟨u,hr,hu⟩:=f209 (h:=h) hv hk hb;refine⟨u,?_,by rw[CF,if_neg Ff,h1];exact hu⟩;rw[Ab,Y1,kf];simp only[AB,(WT hs.at hb node).call,hc.load,Bn,h1];rw[h1] at Ff;simp only[AB,hr.call,Bn,hc.store (BN.cells hu),show¬(k:Int)<1 from Ff,An,Ak,Ag,show(1:Int)<=(k:Int) by omega,D4]
theorem aK6{id o:Nat}(hs:KG h id o l)(hb:l.length<=1000000000)(a:Item)(i:Int):∃u,BI cx 122 [Pt id o,.agg a.row,I i] h (.tuple []) (put h id o u)/\BN (l.take (En i l.length)++a::l.drop (En i l.length)) u:=by
 obtain⟨v,hc,hv⟩:=(show KG h id o l from hs);obtain⟨u,hr,hu⟩:=aF1 (h:=h) hv a (n:=En i l.length) (by unfold En;omega) hb;refine⟨u,?_,hu⟩;rw[Ab,mS,aAN];have e1:(if(l.length:Int)<(if i<1 then 1 else i) then(l.length:Int) else(if i<1 then 1 else i))=((En i l.length:Nat):Int):=by unfold En;split<;>split<;>omega
 simp only[AB,EB,kO,JO,hc.load,Bn,YF,AM.Cp hv,xS,e1,hr.call,hc.store (BN.cells hu)]
theorem aK7(hv:BN l v)(hne:l≠[])(hb:l.length<=1000000000):BI cx 270 [v] h (.Cl h.length 0 l.length 4) (h++[.cells (l.map Item.row).flatten]):=by
 have e1:Aw (.GV false .sl) [v,.slnil]=some (.bool false):=by
  rcases hv with rfl|⟨rfl,hv⟩
  .rfl
  .exact absurd (by simpa using hv) hne
 have e2:Aw (.Bx 4) []=some (.sl 4 []):=rfl;have e3:=J8 (h:=h) (s:= .sl 4 []) (z:=4) (b:=40) (.inr rfl) hv (by simpa using hne) (by rw[Ai];exact PC (by omega));rw[Ai] at e3;rw[Ab,oW,aBI];simp only[AB,e1,e2,e3]
section
variable{id o n z:Nat}{v w:Aa}{X Y:Dc}{Au:List (List Aa)}
theorem At.next(ha:At h id o v):(Am.put h id o w++[X])[h.length]?=some X/\At (Am.put h id o w++[X]) id o w/\(Am.put h id o w++[X]).set h.length Y=Am.put h id o w++[Y]:=by have e:=IC (h:=h) (id:=id) (o:=o) (u:=w);refine⟨by rw[<-e];simp,ha.put.HA,?_⟩;rw[B2 _ _ (by omega),<-e,DC];rfl
theorem At.pF(ha:At h id o v)(hv:Kl h v=some (h,v)):KS h 0 (Pt id o)=some h:=by have e1:=ha.same;obtain⟨cs,hc,e⟩:=ha;simp only[KS,hc,Bn,e,hv,Ct];rw[Hm hc] at e1;rw[e1]
theorem At.pG(ha:At h id o v)(hr:∀r∈Au,r.length=z):KS (Am.put h id o (.Cl h.length 0 Au.length z)++[.cells Au.flatten]) 0 (Pt id o)=some (Am.put h id o (.sl z Au)++[.CG]):=by obtain⟨c1,c2,c3⟩:=ha.next (w:= .Cl h.length 0 Au.length z) (X:= .cells Au.flatten) (Y:= .CG);have f1:=JH hr c1;rw[c3] at f1;have a2:=(ha.next (w:= .Cl h.length 0 Au.length z) (X:= .CG) (Y:= .CG)).2.1;obtain⟨cs,hc,e⟩:=c2;obtain⟨QJ,HH,e2⟩:=a2;simp only[KS,hc,Bn,e,f1,Ct,HH];rw[<-Hm (u:= .sl z Au) HH,YK ha.put,YJ]
end
theorem aK8{id o:Nat}(hs:KG h id o l)(hb:l.length<=1000000000)(node:Int)(a:Item):∃u t,BI cx 213 [Pt id o,I node,.agg a.row] h (.bool (decide (1<=AJ (Bm node) l))) (put h id o u++t)/\BN (On node a l) u:=by
 obtain⟨v,hc,hv⟩:=(show KG h id o l from hs);by_cases Ff:AJ (Bm node) l<1;·refine⟨v,[],?_,by rw[On,if_pos Ff];exact hv⟩;have e2:=hc.pF (AM.KR hv);rw[Ab,Ze,nv,hc.same,BC];simp only[AB,EB,(WT hs.at hb node).call,Ff,Aq,Ak,Ag,e2,show¬1<=AJ (Bm node) l by omega,Fg]
 .rcases CP (q:=Bm node) (l:=l) with⟨h1,_⟩|⟨k,hk,h1,_⟩
  .rw[h1] at Ff;omega
  .have vi:¬(k:Int)<1:=by rw[h1] at Ff;exact Ff
   have hne:l≠[]:=by intro e;subst e;simp at hk
   have hcl:=aK7 (h:=h) hv hne hb;have s1:=(hc.HA (t:=[Dc.cells (l.map Item.row).flatten])).store (u:= .Cl h.length 0 l.length 4) rfl;rw[YK hc] at s1;obtain⟨c3,c2,c4⟩:=hc.next (w:= .Cl h.length 0 l.length 4) (X:= .cells (l.map Item.row).flatten) (Y:= .cells ((l.map Item.row).set k a.row).flatten);have s2:=S1 (z:=4) (yB l) c3 (i:=k) (by simpa using hk) (q:=a.row) rfl;rw[c4] at s2;have e4:Aw (.Fj 4) [.Cl h.length 0 l.length 4,I (k:Int)]=some (Pt h.length (k*4)):=EX hk;have e2:=hc.pG (bQ (yB l) (i:=k) (q:=a.row) rfl);rw[Bj,Ai] at e2;refine⟨.sl 4 ((l.map Item.row).set k a.row),[.CG],?_,?_⟩;·rw[Ab,Ze,nv];simp only[AB,EB,(WT hs.at hb node).call,h1,vi,An,Ak,Ag,hc.load,Bn,hcl.call,s1,c2.load,e4,s2,e2,show(1:Int)<=(k:Int) by omega,D4]
   .rw[On,if_neg Ff,h1,AQ,BN,Fh];exact .mk
theorem cX(hv:BN l v)(hb:l.length<=1000000000)(i:Int):∃r h',BI cx 123 [v,I i] h r h'/\YM h (JJ l i) r h':=by
 have Du:AM 4 (l.map Item.row) v:=hv;obtain⟨k,hk,OH,hc⟩:∃k,k=min (max 1 i.toNat) l.length/\k<=l.length/\JJ l i=l.take k:=⟨_,rfl,by omega,by
  unfold JJ;rcases Nat.le_total (max 1 i.toNat) l.length with h1|h1
  .rw[Cm h1]
  .rw[Nat.min_eq_right h1,Bu,Ay h1]⟩
 obtain⟨u,e,hu⟩:=AM.K8 hv (k:= .i64) OH;obtain⟨r,h',e2,hr⟩:=ja (h:=h) (l:=l.take k) (v:=u) hu (by rw[Al];omega);refine⟨r,h',?_,by rw[hc];exact hr⟩;rw[Ab,kg,aER];simp only[AB,Du.Cp];refine⟨λh1=>⟨λh2=>?_,λh2=>?_⟩,λh1=>⟨λh2=>?_,λh2=>?_⟩⟩
 .have:(k:Int)=(l.length:Int):=by omega
  rw[this] at e;simp only[AB,e,e2]
 .have:(k:Int)=1:=by omega
  rw[this] at e;simp only[AB,e,e2]
 .have:(k:Int)=(l.length:Int):=by omega
  rw[this] at e;simp only[AB,e,e2]
 .have:(k:Int)=i:=by omega
  rw[this] at e;simp only[AB,e,e2]
theorem aF6(hv:BN l v)(hb:l.length<=1000000000):∃u t,BI cx 42 [v] h u (h++t)/\BN (JJ l ((l.length:Int)-1)) u:=by obtain⟨r,h',hr,hc⟩:=cX (h:=h) hv hb ((l.length:Int)-1);obtain⟨u,t,e,hu⟩:=hc.KR;refine⟨u,t,?_,hu⟩;rw[Ab,aAg,t42];simp only[AB,AM.Cp hv,CJ (show -9223372036854775808<=(l.length:Int)-1 by omega) (show(l.length:Int)-1<9223372036854775808 by omega),hr.call,e]
theorem aF7(hv:BN l v)(hb:l.length<=1000000000)(node:Int):∃u t,BI cx 129 [v,I node] h u (h++t)/\BN (Ga node l) u:=by
 by_cases Ff:AJ (Bm node) l<0
 .obtain⟨r,h',hr,hc⟩:=cX (h:=h) hv hb (l.length:Int);obtain⟨u,t,e,hu⟩:=hc.KR;have e1:JJ l (l.length:Int)=l:=by unfold JJ;rw[Ay (by omega)]
  refine⟨u,t,?_,by rw[S4,if_pos Ff];rwa [e1] at hu⟩;rw[Ab,mU,aAP];simp only[AB,(WU hv hb node).call,Ff,Aq,Ak,Ag,AM.Cp hv,hr.call,e]
 .obtain⟨r,h',hr,hc⟩:=cX (h:=h) hv hb (AJ (Bm node) l);obtain⟨u,t,e,hu⟩:=hc.KR;refine⟨u,t,?_,by rw[S4,if_neg Ff];exact hu⟩;rw[Ab,mU,aAP];simp only[AB,(WU hv hb node).call,Ff,An,Ak,Ag,hr.call,e]
end
end
section
section
variable{h:Ad}{p v w:Aa}{l:List Item}{ws:List Ap}
theorem f85(hv:BN l v)(hb:l.length<=1000000000)(hw:IH ws w)(hn:ws.length<=1000000000):∃u t,BI cx 101 [v,w] h u (h++t)/\BN (JJ l (AJ (Bp ws) l)) u:=by
 have Du:AM 4 (l.map Item.row) v:=hv;have Ik:Ev cx 101 [v,w] h λr h'=>∃t,h'=h++t/\BN (JJ l (AJ (Bp ws) l)) r:=by
  unfold Ev;rw[ju,aEK];simp only[AB,Du.Cp,CJ (show -9223372036854775808<=(l.length:Int)-1 by omega) (show(l.length:Int)-1<9223372036854775808 by omega)];refine Bb (λn:Nat=>[.slnil,I ((n:Int)-1)]) (λn h1=>n<=l.length/\AJ (Bp ws) l=AJ (Bp ws) (l.take n)/\h1=h) (λn=>n) l.length rfl ⟨Ac _,by rw[Bu],rfl⟩ ?_;rintro n h1 ⟨ax,ha,rfl⟩;cases n with
  |zero=>
   have i1:¬(0:Int)<=((0:Nat):Int)-1:=by omega
   obtain⟨r,h',hr,hc⟩:=cX (h:=h1) hv hb 1;obtain⟨u,t,e,hu⟩:=hc.KR;rw[L5,IY] at ha;simp only[AB,↓reduceIte,i1,An,Ak,Ag,hr.call,e];exact⟨_,rfl,t,rfl,by rw[ha,yC];exact hu⟩
  |succ n=>
   have i2:((n+1:Nat):Int)-1=(n:Int):=by omega
   obtain⟨r,h',hr,hc⟩:=cX (h:=h1) hv hb (n:Int);obtain⟨u,t,e,hu⟩:=hc.KR;rw[F8 (by omega)] at ha;simp only[AB,Nat.reduceLeDiff,↓reduceIte,EB,i2,show(0:Int)<=(n:Int) by omega,Aq,Ak,Ag,Du.Bz (show n<l.length by omega),(f167 l[n] hw hn).call,hr.call,e,CJ (show -9223372036854775808<=(n:Int)-1 by omega) (show(n:Int)-1<9223372036854775808 by omega)];rw[Cu];refine⟨λhe=>?_,λhe=>?_⟩;·rw[if_pos he] at ha;exact⟨_,rfl,t,rfl,by rw[ha];exact hu⟩
   .rw[if_neg (by simp[he])] at ha;exact AF.next n rfl ⟨by omega,ha,rfl⟩ (by omega)
 obtain⟨r,h',hr,t,rfl,hu⟩:=Ik.ret;exact⟨r,t,hr,hu⟩
theorem f165(hv:BN l v)(hb:l.length<=1000000000)(hl:∀a∈l,a.name.length<9223372036854775807)(s:Ap)(all:Bool):∃u t,BI cx 194 [v,.str s,.bool all] h u (h++t)/\BN (Dr (Ee s all) CC l) u:=by
 have Du:AM 4 (l.map Item.row) v:=hv;have Ik:Ev cx 194 [v,.str s,.bool all] h λr h'=>∃t,h'=h++t/\BN (Dr (Ee s all) CC l) r:=by
  unfold Ev;rw[m_,aFi];simp only[AB,Du.Cp];refine Bb (λn:Nat=>[I (n:Int)]) (λn h1=>n<=l.length/\(l=[]\/1<=n)/\Dr (Ee s all) CC l=Dr (Ee s all) CC (l.take n)/\h1=h) (λn=>n) l.length rfl ⟨Ac _,by cases l<;>simp,by rw[Bu],rfl⟩ ?_;rintro n h1 ⟨ax,h0,ha,rfl⟩;have Hv:Dr (Ee s all) CC l=l.take n->∃u t,Kl h1 u=some (h1++t,u):=λ_=>⟨.slnil,[],by rw[BC];rfl⟩;obtain⟨r,h',hr,hc⟩:=cX (h:=h1) hv hb (n:Int);obtain⟨u,t,e,hu⟩:=hc.KR;have ecut:JJ l (n:Int)=l.take n:=by
   unfold JJ;rcases h0 with rfl|h0
   .simp
   .rw[AQ,Nat.max_eq_right h0]
  rw[ecut] at hu;rcases AT 1 n with hlt|D1
  .obtain⟨m,rfl⟩:∃m,n=m+2:=⟨n-2,by omega⟩;have hm:m+1<l.length:=by omega
   have i1:(1:Int)<((m+2:Nat):Int):=by omega
   have i2:((m+2:Nat):Int)-1=((m+1:Nat):Int):=by omega
   have hs:=hl _ (AI hm);rw[XG hm] at ha;have next:Ee s all l[m+1]=false->AF cx (λn:Nat=>[I (n:Int)]) (λn h2=>n<=l.length/\(l=[]\/1<=n)/\Dr (Ee s all) CC l=Dr (Ee s all) CC (l.take n)/\h2=h1) (λn=>n)
     (λx c20=>match x with
      | .normal=> .fail
      | .exit i=>if i=0 then .call 123 [v,g c20 0] λv21=> .KR v21 λv22=> .ret .ret [v22] else .fail
      | .ret=> .KR .slnil λv23=> .ret .ret [v23])
     (λx vs h'=>x=EK.ret/\∃r,vs=[r]/\∃t,h'=h1++t/\BN (Dr (Ee s all) CC l) r) (m+2) .normal [I ((m+1:Nat):Int)] h1:=λhf=>by
    rw[if_neg (by simp[hf]),if_neg (by simp[CC])] at ha;exact AF.next (m+1) rfl ⟨by omega,.inr (by omega),ha,rfl⟩ (by omega)
   have stop:Ee s all l[m+1]=true->∃r,[u]=[r]/\∃t_1,h1++t=h1++t_1/\BN (Dr (Ee s all) CC l) r:=λhf=>by rw[if_pos hf] at ha;exact⟨_,rfl,t,rfl,by rw[ha];exact hu⟩
   simp only[AB,Nat.reduceLeDiff,↓reduceIte,EB,i1,Aq,Ak,Ag,CJ (show -9223372036854775808<=((m+2:Nat):Int)-1 by omega) (show((m+2:Nat):Int)-1<9223372036854775808 by omega),i2,Du.Bz hm,au hs,aw hs,hr.call,e];cases all with
   |true=>
    simp only[AB,kN];refine⟨λh3=>stop (by simp[Ee,Cs,h3]),λh3=>?_⟩;rw[Cu];refine⟨λh4=>stop ?_,λh4=>?_⟩;·simp at h4;simp[Ee,Cs,h4]
    .simp at h3 h4;exact next (by simp[Ee,Cs,h3];exact h4)
   |false=>
    simp only[AB,JO];refine⟨λh3=>stop (by simp[Ee,DY,h3]),λh3=>?_⟩;rw[Cu];refine⟨λh4=>stop ?_,λh4=>?_⟩;·simp at h4;simp[Ee,DY,h4]
    .refine⟨λh5=>stop (by simp[Ee,DY,h5]),λh5=>?_⟩;simp at h3 h4;exact next (by simp[Ee,DY,h3,h4,h5])
  .have i1:¬(1:Int)<(n:Int):=by omega
   rw[Vi (l:=l.take n) (by rw[Al];omega)] at ha;simp only[AB,↓reduceIte,i1,An,Ak,Ag,hr.call,e];exact⟨_,rfl,t,rfl,by rw[ha];exact hu⟩
 obtain⟨r,h',hr,t,rfl,hu⟩:=Ik.ret;exact⟨r,t,hr,hu⟩
theorem aLa(hv:BN l v)(hb:l.length<=1000000000)(node:Int):∃u t,BI cx 134 [v,I node] h (.tuple [u,.bool (decide (1<=AJ (Bm node) l))]) (h++t)/\BN (CF node l) u:=by
 have fb:∀(h:Ad) b,Kl h (.bool b)=some (h,.bool b):=λ_ _=>rfl;by_cases Ff:AJ (Bm node) l<1
 .obtain⟨r,h',hr,hc⟩:=cX (h:=h) hv hb (l.length:Int);obtain⟨u,t,e,hu⟩:=hc.KR;have e1:JJ l (l.length:Int)=l:=by unfold JJ;rw[Ay (by omega)]
  refine⟨u,t,?_,by rw[CF,if_pos Ff];rwa [e1] at hu⟩;rw[Ab,Y3,ky];simp only[AB,(WU hv hb node).call,Ff,Aq,Ak,Ag,AM.Cp hv,hr.call,e,fb,show¬1<=AJ (Bm node) l by omega,Fg]
 .rcases CP (q:=Bm node) (l:=l) with⟨h1,_⟩|⟨k,hk,h1,_⟩
  .rw[h1] at Ff;omega
  .have vi:¬(k:Int)<1:=by rw[h1] at Ff;exact Ff
   obtain⟨r,h',hr,hc⟩:=cX (h:=h) hv hb (k:Int);have ecut:JJ l (k:Int)=l.take k:=by unfold JJ;rw[AQ,Nat.max_eq_right (by omega)]
   rw[ecut] at hc;rcases hc with⟨h2,_⟩|⟨hne,rfl,rfl⟩
   .have:=Cd List.length h2;rw[Al,BT] at this;omega
   .obtain⟨u4,e4,h4⟩:=AM.QZ hv (k:= .i64) (show k+1<=l.length by omega);have ym:(l.take k).length=k:=by rw[Al];omega
    have c1:(h++[Dc.cells ((l.take k).map Item.row).flatten])[h.length]?=some (.cells ((l.take k).map Item.row).flatten):=by simp
    have hrw:=yB (l.take k);have hml:((l.take k).map Item.row).length=(l.take k).length:=Ai ..;by_cases hd:l.drop (k+1)=[]
    .have e5:Fk (h++[Dc.cells ((l.take k).map Item.row).flatten]) 4 40 (.Cl h.length 0 (l.take k).length 4) u4=some (h++[Dc.cells ((l.take k).map Item.row).flatten],.Cl h.length 0 (l.take k).length 4):=gW (by rw[hd] at h4;exact h4);have f1:=JH hrw c1;rw[hml,B2 _ _ (Ac _),DC] at f1;refine⟨.sl 4 ((l.take k).map Item.row),[.CG],?_,?_⟩;·rw[Ab,Y3,ky];simp only[AB,(WU hv hb node).call,h1,vi,An,Ak,Ag,BF (show k<9223372036854775807 by omega),e4,hr.call,e5,f1,fb,List.set_cons_zero,show(1:Int)<=(k:Int) by omega,D4]
     .rw[CF,if_neg Ff,h1,AQ,A7,hd,BC];exact .mk
    .have e5:=IG (b:=40) hrw (by decide) c1 h4 (by simpa using hd) (by rw[Ai,Ai,Al,A8];exact PC (by omega));rw[hml,Ai] at e5;rw[B2 _ _ (Ac _),DC,List.set_cons_zero,AD] at e5;have c2:(h++([Dc.CG]++[Dc.cells ((l.take k).map Item.row++(l.drop (k+1)).map Item.row).flatten]))[h.length+1]?=some (.cells ((A7 l k).map Item.row).flatten):=by rw[Bg (by omega)];simp[A7]
     have f1:=JH (yB (A7 l k)) c2;have fW:(A7 l k).length=(l.take k).length+(l.drop (k+1)).length:=by simp[A7]
     rw[Ai,fW] at f1;have e6:(h++[Dc.CG,Dc.cells ((l.take k).map Item.row++(l.drop (k+1)).map Item.row).flatten]).set (h.length+1) .CG=h++[.CG,.CG]:=by rw[B2 _ _ (by omega)];simp
     simp only[As,Br,CB,BG] at e5 f1;rw[e6] at f1;refine⟨.sl 4 ((A7 l k).map Item.row),[.CG,.CG],?_,?_⟩;·rw[Ab,Y3,ky];simp only[AB,(WU hv hb node).call,h1,vi,An,Ak,Ag,BF (show k<9223372036854775807 by omega),e4,hr.call,e5,f1,fb,show(1:Int)<=(k:Int) by omega,D4]
     .rw[CF,if_neg Ff,h1,AQ];exact .mk
theorem f254(hv:BN l v)(hb:l.length<=1000000000)(a:Item)(i:Int):∃u,BI cx 135 [v,.agg a.row,I i] h u h/\BN (l.take (En i l.length)++a::l.drop (En i l.length)) u:=by
 have Du:AM 4 (l.map Item.row) v:=hv;obtain⟨k,cY,hk⟩:∃k,k=En i l.length/\k<=l.length:=⟨_,rfl,by unfold En;omega⟩;obtain⟨u1,e1,h1⟩:=AM.K8 hv (k:= .i64) hk;obtain⟨u2,e2,h2⟩:=AM.Gj h1 (b:=40) (PC (by rw[Al];omega));have e3:=AM.Jb (a:=a) h2 (b:=40) (PC (by rw[Al];omega));obtain⟨u4,e4,h4⟩:=AM.QZ hv (k:= .i64) hk;obtain⟨u5,e5,h5⟩:=AM.YI (v:= .sl 4 ((l.take k++[a]).map Item.row)) .mk h4 (b:=40) (PC (by rw[As,Al,A8,Br];omega));refine⟨u5,?_,by rw[AD] at h5;rw[<-cY];exact h5⟩;rw[Ab,kz,aEW];simp only[AB,EB,Du.Cp];unfold En at cY;refine⟨λh1=>⟨λh2=>?_,λh2=>?_⟩,λh1=>⟨λh2=>?_,λh2=>?_⟩⟩
 .have:(k:Int)=(l.length:Int):=by omega
  rw[this] at e1 e4;simp only[AB,e1,e2,K9,e3,e4,e5]
 .have:(k:Int)=1:=by omega
  rw[this] at e1 e4;simp only[AB,e1,e2,K9,e3,e4,e5]
 .have:(k:Int)=(l.length:Int):=by omega
  rw[this] at e1 e4;simp only[AB,e1,e2,K9,e3,e4,e5]
 .have:(k:Int)=i:=by omega
  rw[this] at e1 e4;simp only[AB,e1,e2,K9,e3,e4,e5]
end
end
end Go.Am
end
