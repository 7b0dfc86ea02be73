/- Lemmas -/
import Derived.Test.YtdejbjapknkdnaaGreatDoorV19
import Derived.Test.YtdejbjapknkdnaaGreatDoorV20
import Derived.Test.YtdejbjapknkdnaaGreatDoorV21
import Derived.Test.YtdejbjapknkdnaaGreatDoorV22
import Derived.Test.YtdejbjapknkdnaaGreatDoorV18
set_option linter.all false
set_option maxRecDepth 100000
section
namespace Go.Am
open Go
abbrev zt:=List Aa->Option IT
def m0(g:IT):zt:=λl=>match l with
 |[]=>some (g)
 |_=>none
def Db(g:Aa->IT):zt:=λl=>match l with
 |[a0]=>some (g a0)
 |_=>none
def CP(g:Aa->Aa->IT):zt:=λl=>match l with
 |[a0,a1]=>some (g a0 a1)
 |_=>none
def Jt(g:Aa->Aa->Aa->IT):zt:=λl=>match l with
 |[a0,a1,a2]=>some (g a0 a1 a2)
 |_=>none
def sV(g:Aa->Aa->Aa->Aa->IT):zt:=λl=>match l with
 |[a0,a1,a2,a3]=>some (g a0 a1 a2 a3)
 |_=>none
def Ū(g:Aa->Aa->Aa->Aa->Aa->IT):zt:=λl=>match l with
 |[a0,a1,a2,a3,a4]=>some (g a0 a1 a2 a3 a4)
 |_=>none
def Yv(f:Nat)(g:zt):Prop:=∀l t,g l=some t->t=B7 cx f l
def UN{f:Nat}{g:IT}(h:B7 cx f []=g):Yv f (m0 g):=by
 intro l t ht;unfold m0 at ht;split at ht;.cases ht;exact(h).symm
 .cases ht
def BE{f:Nat}{g:Aa->IT}(h:∀a0,B7 cx f [a0]=g a0):Yv f (Db g):=by
 intro l t ht;unfold Db at ht;split at ht;.cases ht;exact(h _).symm
 .cases ht
def Bt{f:Nat}{g:Aa->Aa->IT}(h:∀a0 a1,B7 cx f [a0,a1]=g a0 a1):Yv f (CP g):=by
 intro l t ht;unfold CP at ht;split at ht;.cases ht;exact(h _ _).symm
 .cases ht
def Ew{f:Nat}{g:Aa->Aa->Aa->IT}(h:∀a0 a1 a2,B7 cx f [a0,a1,a2]=g a0 a1 a2):Yv f (Jt g):=by
 intro l t ht;unfold Jt at ht;split at ht;.cases ht;exact(h _ _ _).symm
 .cases ht
def Yw{f:Nat}{g:Aa->Aa->Aa->Aa->IT}(h:∀a0 a1 a2 a3,B7 cx f [a0,a1,a2,a3]=g a0 a1 a2 a3):Yv f (sV g):=by
 intro l t ht;unfold sV at ht;split at ht;.cases ht;exact(h _ _ _ _).symm
 .cases ht
def zu{f:Nat}{g:Aa->Aa->Aa->Aa->Aa->IT}(h:∀a0 a1 a2 a3 a4,B7 cx f [a0,a1,a2,a3,a4]=g a0 a1 a2 a3 a4):Yv f (Ū g):=by
 intro l t ht;unfold Ū at ht;split at ht;.cases ht;exact(h _ _ _ _ _).symm
 .cases ht
def aBr:List (Nat×zt):=[(9,Db t9),(10,Db t10),(12,CP t12),(17,CP t17),(18,Db t18),(19,Db t19),(20,Db t20),(25,CP t25),(26,m0 t26),(27,CP t27),(28,Db t28),(31,Db t31),(32,Db t32),(33,Db t33),(34,CP t34),(35,m0 t35),(38,m0 t38),(39,CP t39),(40,CP t40),(41,Db t41),(43,CP t43),(44,CP Ŋ),(45,CP ā),(46,CP t46),(47,CP qw),(48,CP xC),(49,CP xD),(50,CP t50),(51,CP t51),(52,CP t52),(55,CP t55),(56,CP t56),(57,CP t57),(58,Db t58),(59,Jt t59),(60,Jt t60),(61,CP t61),(62,Ū t62),(63,sV ŋ),(64,Db t64),(65,CP t65),(66,CP t66),(67,CP t67),(68,Db t68),(69,CP t69),(70,CP t70),(71,Jt t71),(72,CP t72),(73,Db t73),(74,Db t74),(75,Db t75),(76,Jt t76),(77,Db t77),(78,Db t78),(79,m0 t79),(80,Db t80),(81,m0 t81),(82,CP t82),(83,CP t83),(84,Db t84),(85,CP t85),(86,Db t86),(87,Db t87),(88,Db t88),(93,CP t93),(94,Db t94),(95,Db t95),(96,CP t96),(97,CP t97),(98,Jt t98),(99,sV t99),(100,CP aDu),(101,Jt Ō),(103,CP ō),(104,CP aDv),(106,CP aDw),(107,CP aDx),(108,CP aDy),(109,CP t109),(110,Jt aDz),(111,CP aDA),(112,Jt aDB),(113,Jt aDC),(114,Db aDD),(115,Jt aDE),(116,CP aDF),(117,Db aDG),(118,CP aDH),(119,CP Ŏ),(120,Jt aDI),(121,Db aDJ),(122,Db aDK),(123,Db aDL),(124,Db zl),(125,Db aDM),(126,Db aDN),(127,Db t127),(128,Db ZK),(129,Db aDO),(130,Db sT),(131,Db ml),(132,Db mm),(133,Db aDP),(134,Db ŏ),(135,Db sU),(136,Db zm),(137,Db mn),(138,Db Ő),(139,Db ő),(140,Db Œ),(141,Db œ),(142,Db mX),(143,CP aDQ),(144,Db zn),(145,Db aDR),(146,Db t146),(147,Db Ŕ),(148,Db t148),(149,CP ŕ),(150,Db Ŗ),(151,Db ŗ),(152,Db mY),(153,Db mo),(154,Db aDS),(155,CP aDT),(156,CP aDU),(157,CP Ř),(158,CP aDV),(159,Jt aDW),(160,Db aDX),(161,CP aDY),(162,CP aDZ),(163,Db aD0),(164,Jt t164),(172,Db ř),(173,Db Ś),(174,CP zo),(175,Db aD1),(176,Db aD2),(177,CP aD3),(178,CP ś),(179,CP aD4),(181,Jt aD5),(184,Db aD6),(185,CP aD7),(186,CP aD8),(187,Db aD9),(188,sV Ŝ),(189,sV ŝ),(190,CP Ş),(191,CP aEa),(192,CP aEb),(193,Db aEc),(194,Db aEd),(195,Jt aEe),(196,CP aEf),(197,CP aEg),(198,Db ş),(199,Db aEh),(200,CP aEi),(201,Db aEj),(202,CP aEk),(203,Jt aEl),(204,CP aEm),(205,Jt Š),(206,Db aEn),(207,CP aEo),(208,CP aEp),(209,CP š),(210,CP aEq),(211,CP aEr),(212,CP mZ),(213,Jt aEs),(214,Jt aEt),(215,CP aEu),(216,Db aEv),(217,CP aEw),(218,CP aEx),(219,m0 aEy),(220,CP aEz),(229,CP aEA),(230,Jt Ţ),(231,CP ţ),(232,CP aEB),(235,Db aEC),(236,CP aED),(237,Db aEE),(238,CP aEF),(239,Db aEG),(240,Ū Ť),(241,CP ť),(242,Jt aEH),(243,CP aEI),(244,CP Ŧ),(245,CP aEJ),(246,Jt aEK),(247,CP aEL),(248,Jt aEM),(249,CP aEN),(250,sV aEO),(251,Jt aEP),(252,Jt aEQ),(253,Jt aER),(254,CP aES),(255,CP aET),(261,CP aIb),(263,Db aEU),(264,CP aEV),(265,Db aEW),(266,Db aEX),(267,Db aEY),(268,CP zp),(269,CP zq),(270,Db aEZ),(271,CP aE0),(272,Db aE1),(273,Jt aE2),(274,Jt Ũ),(275,Jt ũ),(276,Db zr),(277,Jt aE3),(286,CP aE4),(287,CP aE5),(288,CP aE6),(289,CP aE7),(290,Db aE8),(291,Db aE9),(292,Db aFa),(293,CP aFb),(307,CP aFc),(100033,Db WK),(100087,Db gQ),(200032,Db WL)]
def zw:List (Nat×zt)->Prop
 |[]=>True
 |(f,g)::l=>Yv f g/\zw l
def zx:zw aBr:=
 ⟨BE aBp,BE xt,Bt xw,Bt fG,BE xy,BE xz,BE x_,Bt aDo,UN ya,Bt yb,BE yc,BE yd,BE sH,BE sI,Bt ye,UN yf,UN yg,Bt yh,Bt sJ,BE yi,Bt Sq,Bt Qr,Bt O4,Bt IM,Bt MV,Bt K6,Bt K8,Bt UM,Bt JO,Bt yj,Bt sK,Bt sL,Bt sM,BE yk,Ew sN,Ew yl,Bt sP,zu ym,Yw Qs,BE yn,Bt yo,Bt yp,Bt yq,BE yr,Bt Yt,Bt yt,Ew yu,Bt yv,BE fH,BE yw,BE fI,Ew yx,BE fJ,BE yy,UN yz,BE y_,UN za,Bt zb,Bt zc,BE zd,Bt ze,BE zf,BE sQ,BE zg,Bt zh,BE zi,BE sR,Bt sS,Bt zj,Ew zk,Yw Yu,Bt xE,Ew fK,Bt fL,Bt xF,Bt xG,Bt xH,Bt xI,Bt fM,Ew xJ,Bt xK,Ew xL,Ew xM,BE xN,Ew xO,Bt xP,BE xQ,Bt xR,Bt fN,Ew xS,BE xT,BE xU,BE xV,BE WC,BE xW,BE xX,BE xY,BE Mq,BE xZ,BE Rd,BE TC,BE TD,BE yA,BE fO,BE Re,BE WD,BE TE,BE fP,BE fQ,BE fR,BE fS,BE O5,Bt yB,BE WE,BE yC,BE fU,BE fV,BE yD,Bt fW,BE fX,BE fY,BE O6,BE TF,BE yE,Bt yF,Bt yG,Bt fZ,Bt yH,Ew yI,BE yJ,Bt yK,Bt yL,BE yM,Ew yN,BE gA,BE gB,Bt WG,BE yO,BE yP,Bt yQ,Bt gC,Bt yR,Ew yS,BE yT,Bt yU,Bt yV,BE yW,Yw gD,Yw gE,Bt gF,Bt yX,Bt yY,BE yZ,BE zA,Ew zB,Bt zC,Bt zD,BE gG,BE zE,Bt zF,BE zG,Bt zH,Ew zI,Bt zJ,Ew gH,BE zK,Bt zL,Bt zM,Bt gI,Bt zN,Bt zO,Bt O7,Ew zP,Ew zQ,Bt zR,BE zS,Bt zT,Bt zU,UN zV,Bt zW,Bt zX,Ew gJ,Bt gK,Bt zY,BE zZ,Bt ae,BE af,Bt ag,BE ah,zu gL,Bt gM,Ew aj,Bt ak,Bt gN,Bt ao,Ew aq,Bt au,Ew aw,Bt ax,Yw ay,Ew az,Ew a_,Ew ba,Bt bb,Bt bc,Bt ŧ,BE bd,Bt be,BE bg,BE bj,BE bk,Bt WH,Bt WI,BE bl,Bt bm,BE bn,Ew bp,Ew gO,Ew gP,BE WJ,Ew bq,Bt br,Bt bu,Bt bw,Bt bx,BE bz,BE b_,BE cj,Bt cq,Bt cr,BE t100033_eq,BE t100087_eq,BE t200032_eq,trivial⟩
def ū(f:Nat):List (Nat×zt)->List Aa->Option IT
 |[],_=>none
 |(k,g)::l,args=>if Nat.beq k f then g args else ū f l args
def cu{f:Nat}{args:List Aa}{t:IT}:∀{l:List (Nat×zt)},zw l->ū f l args=some t->t=B7 cx f args
 |[],_,h=>by cases h
 |(k,g)::l,ha,h=>by
  simp only[ū] at h;split at h;.rename_i hk;have hk:k=f:=NG hk;subst hk;exact ha.1 _ _ h
  .exact cu ha.2 h
noncomputable def tab(f:FuncId)(args:List Aa):IT:=match ū f aBr args with
 |some t=>t
 |none=>B7 cx f args
def Sr:tab=B7 cx:=by
 funext f args;unfold tab;split;.rename_i t h;exact cu zx h
 .rfl
def Yx:Option J7->Bool
 |some (.ret,[.bool true],_)=>true
 |_=>false
def ZL{r:Option J7}(h:Yx r=true):∃h',r=some (.ret,[.bool true],h'):=by
 unfold Yx at h;split at h;.exact⟨_,rfl⟩
 .cases h
end Go.Am
end
section
namespace Go.Am
open Go
section
def aM6(s:Ad):L4 cx 216 [.str s] (.bool (decide (s∈FD))):=by rw[PJ,zS];rw[show aEv (.str s)=sw s (.ret .ret [tt]) (.ret .ret [ff]) FD from rfl,wv];exact⟨λh=>by simp[h],λh=>by simp[h]⟩
section
variable{Q:KE}{h:Ae}{k:Aa->IT}{s:Ad}
@[simp] theorem zy:W cx (.AQ 216 [.str s] k) Q h↔W cx (k (.bool (decide (s∈FD)))) Q h:=(aM6 s).AQ rfl rfl
end
def aM7(s:Ad):L4 cx 194 [.str s] (.bool (decide (s∈Q4\/s∈FD))):=by rw[PJ,zA];rw[show aEd (.str s)=sw s (.ret .ret [tt]) (.AQ 216 [.str s] λv=> .ret .ret [v]) Q4 from rfl,wv];exact⟨λh=>by simp[h],λh=>by simp[h]⟩
def aM8(n:Int)(s:Ad):L4 cx 218 [I n,.str s] (.bool (decide (n=3/\s∈KX))):=by
 rw[PJ,zU,aEx];by_cases h:n=3;.simp[h,KX];by_cases h1:s=[109,105]<;>by_cases h2:s=[109,110]<;>by_cases h3:s=[109,111]<;>by_cases a:s=[109,115]<;>simp[h1,h2,h3,a]
 .simp[h]
section
variable{Q:KE}{h:Ae}{k:Aa->IT}{s:Ad}{n:Int}
@[simp] theorem z_:W cx (.AQ 194 [.str s] k) Q h↔W cx (k (.bool (decide (s∈Q4\/s∈FD)))) Q h:=(aM7 s).AQ rfl rfl
@[simp] theorem aIc:W cx (.AQ 218 [I n,.str s] k) Q h↔W cx (k (.bool (decide (n=3/\s∈KX)))) Q h:=(aM8 n s).AQ rfl rfl
end
def Ŭ(n:Int)(s:Ad):L4 cx 158 [I n,.str s] (.bool (Dj n s)):=by
 rw[PJ,yH];rw[show aDV (I n) (.str s)= .op (.int .eql) [I n,I 3] λv=> .AJ v (.op (.str .eql) [.str s,S aW5] λv=> .AJ v (.ret .ret [tt]) (.AQ 218 [I n,.str s] λv=> .ret .ret [v]))
  (.op (.int .eql) [I n,I 2] λv=> .AJ v (sw s (.ret .ret [tt]) (.op (.str .eql) [.str s,S aW4] λv=> .ret .ret [v]) [aYJ,aXB])
  (.op (.int .eql) [I n,I 1] λv=> .AJ v (sw s (.ret .ret [tt]) (.ret .ret [ff]) Of) (.ret .ret [ff]))) from rfl]
 by_cases h3:n=3;.by_cases h:s=aW5<;>simp[h3,Dj,h]
 .by_cases h2:n=2;.by_cases ha:s=aYJ<;>by_cases hb:s=aXB<;>simp[h2,wv,Dj,Q5,ha,hb]
  .by_cases h1:n=1;.by_cases h:s∈Of<;>simp[h1,wv,Dj,h]
   .simp[h3,h2,h1,Dj]
section
variable{Q:KE}{h:Ae}{k:Aa->IT}{s:Ad}{n:Int}
@[simp] theorem Yy:W cx (.AQ 158 [I n,.str s] k) Q h↔W cx (k (.bool (Dj n s))) Q h:=(Ŭ n s).AQ rfl rfl
end
end
section
def f277(s:Ad)(c:UInt8)(hs:s.length<9223372036854775807):L4 cx 42 [.str s,.int .u8 (c.toNat:Int)] (.bool (decide (c∈s))):=by
 rw[PJ,aDs,t42];refine BO (λn:Nat=>[.bool false,I (n:Int)]) (λn _=>n<=s.length/\c∉s.take n) (λn=>s.length-n) 0 rfl ⟨AU _,by simp⟩ ?_;rintro n h ⟨hn,hc⟩;rcases A6 n s.length with hlt|HK
 .simp only[Ce,GH hlt,CI (show n<9223372036854775807 by omega)];refine⟨λ_=>⟨λhe=>?_,λhe=>?_⟩,λh=>absurd (Int.ofNat_lt.2 hlt) h⟩
  .have e:s[n]=c:=by rw[<-VQ];exact Int.ofNat.inj he
   simp only[Ag (show c∈s from e▸Ay hlt)]
  .refine Bk.next (n+1) rfl ⟨hlt,?_⟩ (by omega);rw[AV hlt,Aj,not_or];refine⟨hc,λh=>he ?_⟩;rw[Be] at h;rw[<-h]
 .simp only[Ce];refine⟨λh=>absurd (Int.ofNat_lt.1 h) (by omega),λ_=>?_⟩;rw[A7 HK] at hc;simp[hc]
def aM9(l s:Ad)(hl:l.length<9223372036854775806)(hs:s.length<9223372036854775807):L4 cx 29 [.str l,.str s] (.bool (Je l s)):=by
 rw[PJ,aDp,t29];have aNa:L4 cx 42 [.str s,.int .u8 32] (.bool (decide ((32:UInt8)∈s))):=f277 s 32 hs;simp only[Ce,aNa.AQ rfl rfl];refine⟨λh=>by simp[Je,h],λh0=>⟨λh=>by simp[Je,h],λh1=>?_⟩⟩;refine BO (λp:Nat×Nat=>[.bool false,I (p.1:Int),I (p.2:Int)])
  (λp _=>(p.1<=p.2/\p.2<=l.length/\(s∈Eb [] l↔s∈Eb ((l.take p.2).drop p.1) (l.drop p.2)))\/(p.2=l.length+1/\s∉Eb [] l)) (λp=>l.length+1 -p.2) (0,0) rfl (.inl ⟨Ab _,AU _,by simp⟩) ?_
 rintro⟨a,n⟩ h aNb;rcases aNb with⟨lY,hn,Yz⟩|⟨hn,Zg⟩
 .simp only at lY hn Yz;have i1:(n:Int)<=(l.length:Int):=by omega
  rcases A6 n l.length with hlt|HK
  .have b:¬(n:Int)=(l.length:Int):=by omega
   simp only[Ce,i1,b,AP,AS,forall_const,AD,GH hlt,CI (show n<9223372036854775807 by omega),Se lY hn];rw[Ap hlt,Ya] at Yz;refine⟨λhe=>?_,λhe=>?_⟩
   .have e:l[n]=32:=by rw[<-VQ];exact Int.ofNat.inj he
    rw[if_pos e,Aw] at Yz;refine⟨λhw=>?_,λhw=>?_⟩;.have:s∈Eb [] l:=Yz.2 (.inl hw.symm);simp[Je,h0,h1,this]
    .refine Bk.next (n+1,n+1) rfl (.inl ⟨Ab _,hlt,?_⟩) (by simp only;omega);rw[Yz,Z8];exact⟨λh=>h.resolve_left (λh=>hw h.symm),.inr⟩
   .have e:¬l[n]=32:=λe=>he (by rw[e];rfl);rw[if_neg e] at Yz;refine Bk.next (a,n+1) rfl (.inl ⟨by simp only;omega,hlt,?_⟩) (by simp only;omega);rw[Yz,mC lY hlt]
  .have e:n=l.length:=by omega
   subst e;simp only[Ce,Mf,AP,AD,AK,Se lY hn,CI (show l.length<9223372036854775807 by omega)];rw[AH (Ab _),ZG] at Yz;rw[Be] at Yz;refine⟨λhw=>?_,λhw=>?_⟩;.have:s∈Eb [] l:=Yz.2 hw.symm;simp[Je,h0,h1,this]
   .exact Bk.next (l.length+1,l.length+1) rfl (.inr ⟨rfl,λh=>hw (Yz.1 h).symm⟩) (by simp only;omega)
 .simp only at hn;subst hn;have i1:¬((l.length+1:Nat):Int)<=(l.length:Int):=by omega
  simp only[Ce,i1,AS,AD,AK];simp[Je,Zg]
end
section
def MW{Q:KE}{h:Ae}{k:Aa->IT}{l s:Ad}(hl:l.length<9223372036854775806)(hs:s.length<9223372036854775807):W cx (.AQ 29 [.str l,.str s] k) Q h↔W cx (k (.bool (Je l s))) Q h:=(aM9 l s hl hs).AQ rfl rfl
section
variable{Q:KE}{h:Ae}{k:Aa->IT}{s:Ad}
def sW(hs:s.length<9223372036854775807):W cx (.AQ 29 [.str aWN,.str s] k) Q h↔W cx (k (.bool (decide (s∈Of)))) Q h:=by rw[MW (by decide+kernel) hs,rG]
def gR(hs:s.length<9223372036854775807):W cx (.AQ 29 [.str aXD,.str s] k) Q h↔W cx (k (.bool (decide (s∈KX)))) Q h:=by rw[MW (by decide+kernel) hs,eJ]
def m6(hs:s.length<9223372036854775807):W cx (.AQ 29 [.str aXj,.str s] k) Q h↔W cx (k (.bool (decide (s∈Q5)))) Q h:=by rw[MW (by decide+kernel) hs,mD]
def mq(hs:s.length<9223372036854775807):W cx (.AQ 29 [.str aXy,.str s] k) Q h↔W cx (k (.bool (decide (s∈OX)))) Q h:=by rw[MW (by decide+kernel) hs,ku]
def sX(hs:s.length<9223372036854775807):W cx (.AQ 29 [.str aXe,.str s] k) Q h↔W cx (k (.bool (decide (s∈MM)))) Q h:=by rw[MW (by decide+kernel) hs,rH]
def A_(hs:s.length<9223372036854775807):W cx (.AQ 29 [.str aYP,.str s] k) Q h↔W cx (k (.bool (decide (s∈Sf)))) Q h:=by rw[MW (by decide+kernel) hs,wz]
def mr(hs:s.length<9223372036854775807):W cx (.AQ 29 [.str aWP,.str s] k) Q h↔W cx (k (.bool (decide (s∈Ml)))) Q h:=by rw[MW (by decide+kernel) hs,kx]
end
def f169(n:Int)(s:Ad)(hs:s.length<9223372036854775807):L4 cx 30 [I n,.str s] (.bool (Dj n s)):=by rw[PJ,aDq,t30];simp only[Ce,gR hs,sW hs,m6 hs,Dj];refine⟨λh=>by simp[h],λh1=>⟨λh2=>⟨λh3=>by simp[h2,h3],λh3=>by simp[h2,h3]⟩,λh2=>⟨λh3=>by simp[h3],λh3=>by simp[h1,h2,h3]⟩⟩⟩
section
variable{Q:KE}{h:Ae}{k:Aa->IT}{s:Ad}{n:Int}
def B_(hs:s.length<9223372036854775807):W cx (.AQ 30 [I n,.str s] k) Q h↔W cx (k (.bool (Dj n s))) Q h:=(f169 n s hs).AQ rfl rfl
end
end
section
def aNc(a b:Int)(h:Ae):Cj cx 174 [.int .i32 a,.int .i32 b] h (.func (.func 230) [] [.B4 [.int .i32 a],.B4 [.int .i32 b]]) h:=by rw[Ac,WG,zo];simp only[Ce]
def aNd(c a b:Int)(h:Ae):Cj cx 230 [.int .i32 c,.B4 [.int .i32 a],.B4 [.int .i32 b]] h (.bool (decide (a<=c/\c<=b))) h:=by rw[Ac,gJ,Ţ];simp only[Ce];refine⟨λh=>by simp[h],λh=>by simp[h]⟩
def aNe(c:Int):L4 cx 235 [.int .i32 c] (.bool (decide (65<=c/\c<=90))):=by rw[PJ,zZ,aEC];simp only[Ce,Nat.reduceLeDiff,↓reduceIte,(aNc _ _ _).call,CD,(aNd _ _ _ _).call]
def aFd(s:Ad)(hs:s.length<=AN):L4 cx 184 [.str s] (.str (ET s)):=by
 have jO:s.length<=140737488355328:=hs;rw[PJ,yT,aD6];have j:I1 [] (.str s)=some ([.cells ((HS s 0).map Pv)],.C7 0 0 s.length 1):=by simp only[I1,hs,BM];rfl
 have i:Az (.len false) [.C7 0 0 s.length 1]=some (I (s.length:Int)):=rfl;simp only[Ce,j,i];refine BO (λn:Nat=>[I (n:Int)]) (λn h=>n<=s.length/\h=[.cells ((HS s n).map Pv)]) (λn=>s.length-n) 0 rfl ⟨AU _,rfl⟩ ?_;rintro n h ⟨hn,rfl⟩;rcases A6 n s.length with hlt|HK
 .have i1:(n:Int)<(s.length:Int):=by omega
  have g:Az (.F0 1) [.C7 0 0 s.length 1,I (n:Int)]=some (Pt 0 n):=by simp[Az,elemOf,MA,hlt]
  have f:Bg [.cells ((HS s n).map Pv)] none (Pt 0 n)=some (.int .u8 (s[n].toNat:Int)):=rJ (by rw[CE,Yc hlt];rfl);have e:IntKind.i32.wrap (s[n].toNat:Int)=(s[n].toNat:Int):=wo (by have:=s[n].toNat_lt;omega);simp only[Ce,i1,AP,AK,AD,g,f,Wy,e,(aNe _).AQ rfl rfl,CI (show n<9223372036854775807 by omega)];refine⟨λhe=>?_,λhe=>?_⟩
  .have a:65<=s[n].toNat/\s[n].toNat<=90:=by omega
   have d:CR [.cells ((HS s n).map Pv)] 1 (Pt 0 n) (.int .u8 ((s[n].toNat:Int)-65+97))=some [.cells (((HS s n).map Pv).set n (.int .u8 ((s[n].toNat:Int)-65+97)))]:=mF (by rw[Ao,Yb];exact hlt) rfl;simp only[Ce,rE,rD,wrap_u8 (show 0<=((s[n].toNat:Int)-65)/\((s[n].toNat:Int)-65)<=255 by omega),wrap_u8 (show 0<=((s[n].toNat:Int)-65+97)/\((s[n].toNat:Int)-65+97)<=255 by omega),d];refine Bk.next (n+1) rfl ⟨hlt,?_⟩ (by omega);rw[Tk hlt,Hp];have c:Pv (JZ s[n])= .int .u8 ((s[n].toNat:Int)-65+97):=by unfold Pv;rw[eK a];congr 1;omega
   rw[c]
  .have Zg:¬(65<=s[n].toNat/\s[n].toNat<=90):=by omega
   refine Bk.next (n+1) rfl ⟨hlt,?_⟩ (by omega);rw[Tk hlt,Tj Zg,Tl (Yc hlt)]
 .have i1:¬(n:Int)<(s.length:Int):=by omega
  have en:n=s.length:=by omega
  subst en;have b:Lt [.cells ((HS s s.length).map Pv)] (.C7 0 0 s.length 1)=some ([.DD],.sl 1 (C2 (ET s))):=by
   have hl:(ET s).length=s.length:=by simp[ET]
   rw[mE];simp only[Lt,IX];rw[if_pos (by simp[hl])];rw[Qh (ET s) s.length 0 (by omega)];simp
  simp only[Ce,i1,AS,AK,AD,b,Br.Zo (s:=ET s) .mk]
end
section
def TG(l:Ad)(ws:List Ad):Prop:=Ev cx 237 [.str l] [] λr _=>r= .sl 1 (ws.map B1)
def RO{l:Ad}{ws:List Ad}(n:Nat)(hr:(IT.run tab n (tab 237 [.str l]) []).map (λx=>(x.1,x.2.1))=some (.ret,[.sl 1 (ws.map B1)])):TG l ws:=by obtain⟨⟨x,vs,h⟩,a,b⟩:=Jj.1 hr;cases b;rw[Sr] at a;exact⟨n,_,_,_,a,rfl,_,rfl,rfl⟩
def aId{l:Ad}{ws:List Ad}(hf:TG l ws)(hw:∀w∈ws,w.length<=AN)(hn:ws.length<9223372036854775807)(name:Ad):L4 cx 264 [.str name,.str l] (.str (DS name ws)):=by
 rw[PJ,be,aEV];refine tc (hf.mono λr h1 e=>?_);subst e;have oX:Br 1 (ws.map B1) (.sl 1 (ws.map B1)):= .mk;simp only[Ce,oX.len];refine BO (λn:Nat=>[.str [],I (n:Int)]) (λn _=>n<=ws.length/\DS name ws=DS name (ws.drop n)) (λn=>ws.length-n) 0 rfl ⟨AU _,rfl⟩ ?_;rintro n h ⟨Ă,ha⟩;rcases A6 n ws.length with hlt|HK
 .have i1:(n:Int)<((ws.map B1).length:Int):=by simp;omega
  have gS:n<(ws.map B1).length:=by simpa using hlt
  have a:(ws.map B1)[n]=[.str ws[n]]:=by simp[B1]
  rw[Ap hlt,DS] at ha;simp only[Ce,i1,AP,AK,AD,oX.F0 gS,a,(aFd ws[n] (hw _ (Ay hlt))).AQ rfl rfl,CI (show n<9223372036854775807 by omega)];refine⟨λhe=>?_,λhe=>?_⟩;.rw[ha,if_pos he]
  .rw[if_neg he] at ha;exact Bk.next (n+1) rfl ⟨hlt,ha⟩ (by omega)
 .have i1:¬(n:Int)<((ws.map B1).length:Int):=by simp;omega
  rw[AH HK,DS] at ha;simp only[Ce,i1,AS,AK,AD,ha]
def Wc:TG Ux Oh:=RO 5000 (by kernel_rfl)
def Wd:TG Uy Oi:=RO 5000 (by kernel_rfl)
def aNf(s:Ad):L4 cx 239 [.str s] (.str (DS s Oh)):=by rw[PJ,ah,show aEG (.str s)= .AQ 264 [.str s,.str Ux] λv=> .ret .ret [v] from rfl];rw[(aId (l:=Ux) Wc (by decide+kernel) (by decide+kernel) s).AQ rfl rfl];simp only[Ce]
def aIe(s:Ad):L4 cx 263 [.str s] (.str (DS s Oi)):=by rw[PJ,bd,show aEU (.str s)= .AQ 264 [.str s,.str Uy] λv=> .ret .ret [v] from rfl];rw[(aId (l:=Uy) Wd (by decide+kernel) (by decide+kernel) s).AQ rfl rfl];simp only[Ce]
end
section
def aNg{v:Aa}{l:List A9}(b:Bj l v)(hn:l.length<9223372036854775807)(h:Ae){f:FuncId}{p:A9->Bool}(hp:∀a∈l,Cj cx f [.agg a.row] h (.bool (p a)) h)(hf:f<=99999):
  Cj cx 269 [v,.func (.func f) [] []] h (I (Cg p 0 l)) h:=by
 rw[Ac,WI,zq];have hlen:(l.map A9.row).length=l.length:=Ao ..;simp only[Ce,Br.len b];refine BO (λn:Nat=>[I 0,I (n:Int)]) (λn h1=>n<=l.length/\Cg p 0 l=Cg p n (l.drop n)/\h1=h) (λn=>l.length-n) 0 rfl ⟨AU _,rfl,rfl⟩ ?_;rintro n h1 ⟨Ă,ha,rfl⟩;rcases A6 n l.length with hlt|HK
 .have i1:(n:Int)<((l.map A9.row).length:Int):=by rw[hlen];omega
  have d:(l.map A9.row)[n]'(by rw[hlen];exact hlt)=A9.row l[n]:=by simp
  have c:Fg (A9.row l[n]) 0 (some 3)=some (.agg (A9.row l[n])):=by simp[A9.row]
  rw[Ap hlt,Cg] at ha;simp only[Ce,↓reduceIte,CD,hf,A8,i1,AP,AK,AD,Br.F0 b (show n<(l.map A9.row).length by rw[hlen];exact hlt),d,c,(hp _ (Ay hlt)).call];rw[Dr];refine⟨λhe=>?_,λhe=>?_⟩;.rw[ha,if_pos he]
  .rw[if_neg (by simp[he])] at ha;simp only[Ce,CI (show n<9223372036854775807 by omega)];exact Bk.next (n+1) rfl ⟨hlt,ha,rfl⟩ (by omega)
 .have i1:¬(n:Int)<((l.map A9.row).length:Int):=by rw[hlen];omega
  rw[AH HK,Cg] at ha;simp only[Ce,↓reduceIte,CD,hf,i1,AS,AK,AD,ha]
def aNh(a:A9)(h:Ae):Cj cx 270 [.agg a.row] h (.bool (wM a)) h:=by rw[Ac,bl,aEZ,A9.row];simp only[Ce,wM];refine⟨λh=>by simp[h],λh=>by simp[h]⟩
def f189(a b:Ad)(ha:a.length<=AN)(hb:b.length<=AN):L4 cx 106 [.str a,.str b] (.bool (decide (ET a=ET b))):=by rw[PJ,xG,aDw];simp only[Ce,(aFd a ha).AQ rfl rfl,(aFd b hb).AQ rfl rfl]
def f96{v:Aa}{l:List A9}(g:Bj l v)(hl:∀a∈l,a.value.length<=AN)(hn:l.length<9223372036854775807)(n:Int)(s:Ad)(h:Ae):Cj cx 242 [I n,.str s,v] h (.bool (Q6 n s l)) h:=by
 rw[Ac,aj,aEH];simp only[Ce,Yy,(aNg g hn h (λa _=>aNh a h) (by decide)).call,Q6];refine⟨λh2=>by simp[h2],λh2=>⟨λh3=>by simp[h2,h3],λh3=>⟨λf=>by simp[h2,h3,f],λf=>?_⟩⟩⟩;rw[if_neg h2,if_neg h3,if_neg f];rcases GJ (p:=wM) (l:=l) (k:=0) with⟨d,c⟩|⟨k,a,d,c,i⟩
 .rw[d,c];simp
 .rw[d,i,By];obtain⟨hk,e⟩:=Af.1 c;have b:k<(l.map A9.row).length:=by simpa using hk
  have o:(l.map A9.row)[k]=A9.row a:=by simp[e]
  have i1:(0:Int)<=(k:Int):=by omega
  have JI:a.value.length<=AN:=hl a (e▸Ay hk);have m:ET wN=wN:=Qj (by decide+kernel);have j:ET eL=eL:=Qj (by decide+kernel);simp only[Ce,i1,AP,AK,AD,Br.F0 g b,o,A9.row,(f189 a.value wN JI (by decide)).AQ rfl rfl,(f189 a.value eL JI (by decide)).AQ rfl rfl,m,j];refine⟨λh=>by simp[h],λh=>by simp[h]⟩
end
section
section
variable{U:Type}{f:U->List Aa}{l l2:List U}{v v2:Aa}{z b:Nat}{k k2:IntKind}
end
section
variable{h:Ae}{p:Aa}{l:List Item}
def UO(hs:ky h p l):Cj cx 10 [p] h (I (l.length:Int)) h:=by
 rw[Ac,xt,t10];rcases hs with⟨rfl,rfl⟩|⟨id,o,v,rfl,hc,a⟩
 .simp
 .simp only[Ce,Ie,hc.load,Bp,a.Fk]
def We(hs:ky h p l)(i:Int):Cj cx 12 [p,I i] h (.agg (DT l i).row) h:=by
 rw[Ac,xw,t12];simp only[Ce,↓reduceIte,B6,(UO hs).call];refine⟨λhi=>by rw[Yd (.inl hi)];simp[Item.row,Item.zero],λhi=>⟨λhl=>by rw[Yd (.inr hl)];simp[Item.row,Item.zero],λhl=>?_⟩⟩;rcases hs with⟨rfl,rfl⟩|⟨id,o,v,rfl,hc,a⟩
 .simp at hl;omega
 .obtain⟨n,rfl⟩:=T5 (show 0<=i by omega);have hn:n<l.length:=by omega
  simp only[Ce,Nat.reduceLeDiff,↓reduceIte,KG,hc.load,Bp,a.Dl hn,HD hn]
def f39(hs:ky h p l)(hn:l.length<=1000000000):Cj cx 114 [p] h (.agg (En l).row) h:=by rw[Ac,xN,aDD];simp only[Ce,KG,(UO hs).call,D1 (show -9223372036854775808<=(l.length:Int)-1 by omega) (show(l.length:Int)-1<9223372036854775808 by omega),(We hs _).call,En]
def Wf(F:Aa)(h:Ae)(q:Item->Bool):Prop:=∃f caps,F= .func (.func f) [] caps/\f<=99999/\∀a:Item,Cj cx f (.agg a.row::caps) h (.bool (q a)) h
def Wf.El{F:Aa}{q:Item->Bool}(hF:Wf F h q)(a:Item){k:Aa->IT}{Q:KE}:W cx (.El F [.agg a.row] k) Q h↔W cx (k (.bool (q a))) Q h:=by obtain⟨f,caps,rfl,hf,hr⟩:=hF;rw[Nv];simp only[CD,hf,↓reduceIte,Bw,Cr,LC,(hr a).call]
def aFe(hs:ky h p l)(hn:l.length<=1000000000){F:Aa}{q:Item->Bool}(hF:Wf F h q):Cj cx 191 [p,F] h (I (Ax q l)) h:=by
 obtain⟨f,caps,rfl,hf,hr⟩:=hF;rw[Ac,yX,aEa];simp only[Ce,(UO hs).call,D1 (show -9223372036854775808<=(l.length:Int)-1 by omega) (show(l.length:Int)-1<9223372036854775808 by omega)];refine BO (λn:Nat=>[I 0,I ((n:Int)-1)]) (λn h1=>n<=l.length/\Ax q l=Ax q (l.take n)/\h1=h) (λn=>n) l.length rfl ⟨Ab _,by rw[Bf],rfl⟩ ?_;rintro n h1 ⟨Ă,ha,rfl⟩;cases n with
 |zero=>
  have i1:¬(0:Int)<=((0:Nat):Int)-1:=by omega
  rw[ha];simp only[Ce,↓reduceIte,CD,hf,i1,AS,AK,AD,LD]
 |succ n=>
  have i1:(0:Int)<=((n+1:Nat):Int)-1:=by omega
  have a:((n+1:Nat):Int)-1=(n:Int):=by omega
  rcases hs with⟨rfl,rfl⟩|⟨id,o,v,rfl,hc,c⟩
  .simp at Ă
  .rw[OY (by omega)] at ha;simp only[Ce,Nat.reduceLeDiff,↓reduceIte,CD,KG,hf,a,show(0:Int)<=(n:Int) by omega,AP,AK,AD,hc.load,Bp,c.Dl (show n<l.length by omega),(hr l[n]).call,D1 (show -9223372036854775808<=(n:Int)-1 by omega) (show(n:Int)-1<9223372036854775808 by omega)];rw[Dr];refine⟨λhe=>?_,λhe=>?_⟩;.rw[ha,if_pos he]
   .rw[if_neg (by simp[he])] at ha;exact Bk.next n rfl ⟨by omega,ha,rfl⟩ (by omega)
def aNi{v:Aa}{ws:List Ad}(a:HT ws v)(hn:ws.length<=1000000000)(s:Ad)(h:Ae):Cj cx 236 [v,.str s] h (I (Cg (λw=>decide (s=w)) 0 ws)) h:=by
 rw[Ac,ae,aED];have a:Br 1 (ws.map B1) v:=a;simp only[Ce,a.Fk];refine BO (λn:Nat=>[I 0,I (n:Int)]) (λn h1=>n<=ws.length/\Cg (λw=>decide (s=w)) 0 ws=Cg (λw=>decide (s=w)) n (ws.drop n)/\h1=h) (λn=>ws.length-n) 0 rfl ⟨AU _,rfl,rfl⟩ ?_;rintro n h1 ⟨Ă,ha,rfl⟩;rcases A6 n ws.length with hlt|HK
 .have i1:(n:Int)<(ws.length:Int):=by omega
  rw[Ap hlt,Cg] at ha;simp only[Ce,i1,AP,AK,AD,a.Dl hlt,B1,CI (show n<9223372036854775807 by omega)];refine⟨λhe=>?_,λhe=>?_⟩;.rw[ha,if_pos (by simpa using he)]
  .rw[if_neg (by simpa using he)] at ha;exact Bk.next (n+1) rfl ⟨hlt,ha,rfl⟩ (by omega)
 .have i1:¬(n:Int)<(ws.length:Int):=by omega
  rw[AH HK,Cg] at ha;simp only[Ce,i1,AS,AK,AD,ha]
def ŭ{v:Aa}{ws:List Ad}(a:HT ws v)(hn:ws.length<=1000000000)(s:Ad)(h:Ae):Cj cx 186 [v,.str s] h (.bool (decide (s∈ws))) h:=by rw[Ac,yV,aD8];simp only[Ce,(aNi a hn s h).call,ļ]
def m7{v:Aa}{ws:List Ad}(c:HT ws v)(hn:ws.length<=1000000000)(a:Item)(h:Ae):Cj cx 162 [.agg a.row,v] h (.bool (AA ws a)) h:=by rw[Ac,yL,aDZ];simp only[Ce,KG,(ŭ c hn _ h).call,AA];refine⟨λh1=>by simp[h1],λh1=>by simp[h1]⟩
def f289(a:Item)(h:Ae):Cj cx 291 [.agg a.row] h (.bool (AA OX a)) h:=by rw[Ac,b_,aE9];simp only[Ce,KG,rL,(m7 (ws:=OX) CO (by decide) a h).call]
def f290(a:Item)(h:Ae):Cj cx 292 [.agg a.row] h (.bool (!AA MM a)) h:=by rw[Ac,cj,aFa];simp only[Ce,KG,mH,(m7 (ws:=MM) CO (by decide) a h).call]
def f291(n:Int)(i:n≠4)(g:n≠5)(a:Item)(h:Ae):Cj cx 293 [.agg a.row,.B4 [I n]] h (.bool (Gg n a)) h:=by have b1:=m7 (ws:=Ml) CO (by decide) a h;have m:=m7 (ws:=Sf) CO (by decide) a h;have j:=m7 (ws:=[aWV]) CO (by decide) a h;rw[Ac,cq,aFb];simp only[Ce,KG,Yy,rM,kz,k_,b1.call,m.call,j.call,Gg,i,g];refine⟨λh1=>by simp[h1],λh1=>⟨λh2=>by simp[h2],λh2=>?_⟩⟩;rw[Dr];simp only[h1,h2,or_self,DU];refine⟨λh3=>by simp[h3],λh3=>⟨λd=>?_,λd=>⟨λc=>by simp[h3,c],λc=>by simp[h3,d,c]⟩⟩⟩;rw[Dr];exact⟨λc=>by simp[h3,d,c],λc=>⟨λe=>by omega,λe=>by simp[h3,c,e]⟩⟩
def f264(n:Int)(h:Ae):∃F,Cj cx 276 [I n] h F h/\Wf F h (Gg n)/\F.cells=[F]:=by
 by_cases d:n=4
 .refine⟨.func (.func 291) [] [],?_,⟨_,_,rfl,by decide,λa=>?_⟩,rfl⟩;.rw[Ac,WJ,zr];simp only[Ce,d,AP,AK,AD]
  .have:=f289 a h;simpa[Gg,d] using this
 .by_cases c:n=5
  .refine⟨.func (.func 292) [] [],?_,⟨_,_,rfl,by decide,λa=>?_⟩,rfl⟩;.rw[Ac,WJ,zr];simp only[Ce,c,AP,AK,AD];simp
   .have:=f290 a h;simpa[Gg,c] using this
  .refine⟨.func (.func 293) [] [.B4 [I n]],?_,⟨_,_,rfl,by decide,λa=>f291 n d c a h⟩,rfl⟩;rw[Ac,WJ,zr];simp only[Ce,d,c,AS,AK,AD]
def aNj{g d:Aa}{q e:Item->Bool}(h1:Wf g h q)(h2:Wf d h e)(a:Item):Cj cx 277 [.agg a.row,.B4 [g],.B4 [d]] h (.bool (q a||e a)) h:=by have m:=λk Q=>h1.El a (k:=k) (Q:=Q);have j:=λk Q=>h2.El a (k:=k) (Q:=Q);rw[Ac,bq,aE3];obtain⟨f,caps,rfl,hf,i⟩:=h1;obtain⟨f',c,rfl,vg,r2⟩:=h2;simp only[Ce,↓reduceIte,CD,KG,hf,vg,(i a).call,(r2 a).call];rw[Dr];exact⟨λh=>by simp[h],λh=>by simp[h]⟩
def aIf(hs:ky h p l)(hn:l.length<=1000000000)(n:Int){F:Aa}{q:Item->Bool}(hF:Wf F h q):Cj cx 253 [p,I n,F] h (.bool (Hc q (Gg n) l.reverse)) h:=by
 obtain⟨G,i,aIg,JV⟩:=f264 n h;have c:F.cells=[F]:=by obtain⟨f,caps,rfl,hf,_⟩:=hF;rfl
 have d:=hF;have hfit:Wf (.func (.func 277) [] [.B4 [F],.B4 [G]]) h (λa=>q a||Gg n a):=⟨277,_,rfl,by decide,λa=>aNj hF aIg a⟩;rw[Ac,ba,aER];simp only[Ce,↓reduceIte,CD,c,i.call,JV,(aFe hs hn hfit).call];rw[<-rN l true];rcases B8 (q:=λa=>q a||Gg n a) (l:=l) with⟨h1,h2⟩|⟨k,hk,h1,h2,h3⟩
 .simp[h1]
 .have e:(0:Int)<=(k:Int)/\(k:Int).toNat<l.length:=⟨by omega,by simpa using hk⟩;simp only[h1];rw[oR e];rcases hs with⟨rfl,rfl⟩|⟨id,o,v,rfl,hc,g⟩
  .simp at hk
  .obtain⟨f,caps,rfl,hf,hr⟩:=d;simp only[Ce,Nat.reduceLeDiff,↓reduceIte,KG,hf,e.1,AP,AK,AD,hc.load,Bp,g.Dl hk,(hr l[k]).call,Bz]
def aNk{v:Aa}{ws:List Ad}(c:HT ws v)(hn:ws.length<=1000000000)(a:Item)(h:Ae):Cj cx 254 [.agg a.row,.B4 [v]] h (.bool (AA ws a)) h:=by have b:=m7 c hn a h;rw[Ac,bb,aES];simp only[Ce,KG,b.call]
def aIh(hs:ky h p l)(hn:l.length<=1000000000)(n:Int){v:Aa}{ws:List Ad}(c:HT ws v)(hw:ws.length<=1000000000):Cj cx 213 [p,I n,v] h (.bool (Hc (AA ws) (Gg n) l.reverse)) h:=by have hfit:Wf (.func (.func 254) [] [.B4 [v]]) h (AA ws):=⟨254,_,rfl,by decide,λa=>aNk c hw a h⟩;rw[Ac,zP,aEs];simp only[Ce,c.cells,(aIf hs hn n hfit).call]
def aNl(node:Int)(a:Item)(h:Ae):Cj cx 255 [.agg a.row,.B4 [I node]] h (.bool (Bq node a)) h:=by rw[Ac,bc,aET,Item.row];simp only[Ce,KG,Bq]
def aIi(hs:ky h p l)(hn:l.length<=1000000000)(n node:Int):Cj cx 214 [p,I n,I node] h (.bool (Hc (Bq node) (Gg n) l.reverse)) h:=by have hfit:Wf (.func (.func 255) [] [.B4 [I node]]) h (Bq node):=⟨255,_,rfl,by decide,λa=>aNl node a h⟩;rw[Ac,zQ,aEt];simp only[Ce,(aIf hs hn n hfit).call]
def aNm(node:Int)(a:Item)(h:Ae):Cj cx 210 [.agg a.row,.B4 [I node]] h (.bool (Bq node a)) h:=by rw[Ac,zN,aEq,Item.row];simp only[Ce,KG,Bq]
def ZM(hs:ky h p l)(hn:l.length<=1000000000)(node:Int):Cj cx 143 [p,I node] h (I (Ax (Bq node) l)) h:=by have hfit:Wf (.func (.func 210) [] [.B4 [I node]]) h (Bq node):=⟨210,_,rfl,by decide,λa=>aNm node a h⟩;rw[Ac,yB,aDQ];simp only[Ce,(aFe hs hn hfit).call]
def aNn(s:Ad)(a:Item)(h:Ae):Cj cx 192 [.agg a.row,.B4 [.str s]] h (.bool (AA [s] a)) h:=by have b:=m7 (ws:=[s]) CO (show[s].length<=1000000000 by simp) a h;rw[Ac,yY,aEb];simp only[Ce,KG,Ef (ws:=[s]) (args:=[.str s]) rfl (by simp),b.call]
def Ů(hs:ky h p l)(hn:l.length<=1000000000)(s:Ad):Cj cx 116 [p,.str s] h (I (Ax (AA [s]) l)) h:=by have hfit:Wf (.func (.func 192) [] [.B4 [.str s]]) h (AA [s]):=⟨192,_,rfl,by decide,λa=>aNn s a h⟩;rw[Ac,xP,aDF];simp only[Ce,(aFe hs hn hfit).call]
end
end
section
section
variable{h:Ae}{p v:Aa}{l:List Item}
def f186(c:DK l v)(a:Item){n:Nat}(hn:n<=l.length)(hb:l.length<=1000000000):∃u,Cj cx 195 [v,.agg a.row,I (n:Int)] h u h/\DK (l.take n++a::l.drop n) u:=by
 have RY:(l.length+1)*40<=AN:=by have:AN=140737488355328:=rfl;omega
 obtain⟨x,r,h1⟩:=Br.Tm c (k:= .i64) hn;obtain⟨t,q,h2⟩:=Br.eM h1 (b:=40) (by rw[Av];have:AN=140737488355328:=rfl;omega);have m:=Br.mG (a:=a) h2 (b:=40) (by rw[Av];have:AN=140737488355328:=rfl;omega);obtain⟨s,j,g⟩:=Br.wO c (k:= .i64) hn;obtain⟨e,i,d⟩:=Br.rK (v:= .sl 4 ((l.take n++[a]).map Item.row)) .mk g (b:=40) (by rw[Ai,Av,A5,AR];have:AN=140737488355328:=rfl;omega);refine⟨e,?_,by rw[AT] at d;exact d⟩;rw[Ac,zB,aEe];simp only[Ce,KG,r,q,xb,m,j,i]
def f95{id o:Nat}(hs:Mn h id o l)(hb:l.length<=1000000000)(a:Item):∃u,Cj cx 118 [Pt id o,.agg a.row] h (.tuple []) (put h id o u)/\DK (l++[a]) u:=by obtain⟨v,hc,c⟩:=hs;obtain⟨u,hr,hu⟩:=f186 (h:=h) c a (n:=l.length) (Ab _) hb;rw[Bf,E7] at hu;refine⟨u,?_,hu⟩;rw[Ac,xR,aDH];simp only[Ce,KG,SF,Nb,hc.load,Bp,Br.Fk c,hr.call,hc.store hu.cells]
def aNo(hs:ky h p l)(hb:l.length<=1000000000)(node:Int):Cj cx 249 [p,I node] h (I (D6 node l)) h:=by
 rw[Ac,ax,aEN];have c: -1<=Ax (Bq node) l/\Ax (Bq node) l<l.length+1:=by rcases B8 (q:=Bq node) (l:=l) with⟨h1,h2⟩|⟨n,hn,h1,h2,h3⟩<;>rw[h1]<;>omega
 simp only[Ce,(ZM hs hb node).call,Tn (show -9223372036854775808<=Ax (Bq node) l+1 by omega) (show Ax (Bq node) l+1<9223372036854775808 by omega)];rw[LF];by_cases Kb:Ax (Bq node) l<0
 .rw[if_pos Kb];refine BO (λn:Nat=>[I 0,I (Ax (Bq node) l+1)]) (λn h1=>h1=h) (λn=>n) 0 rfl rfl ?_;rintro n h1 rfl;have i1:¬0<=Ax (Bq node) l:=by omega
  simp only[Ce,i1,AS,AK,AD]
 .rw[if_neg Kb];have i0:0<=Ax (Bq node) l:=by omega
  obtain⟨m,hm⟩:=T5 i0;refine BO (λn:Nat=>[I 0,I (n:Int)]) (λn h1=>FX AL l (m+1)=FX AL l n/\h1=h) (λn=>l.length-n) (m+1) (by rw[hm];rfl) ⟨rfl,rfl⟩ ?_;rw[hm,Bz];rintro n h1 ⟨ha,rfl⟩;simp only[Ce,show(0:Int)<=(m:Int) by omega,AP,AK,AD,(UO hs).call];rcases A6 n l.length with hlt|HK
  .have i1:(n:Int)<(l.length:Int):=by omega
   rw[eR hlt] at ha;rcases hs with⟨rfl,rfl⟩|⟨id,o,v,rfl,hc,a⟩
   .simp at hlt
   .simp only[Ce,KG,i1,AP,AK,AD,hc.load,Bp,Br.Dl a hlt,Yy,CI (show n<9223372036854775807 by omega)];rw[Dr];refine⟨λhe=>?_,λhe=>?_⟩;.rw[ha,if_pos (by exact he)]
    .rw[if_neg (by simp[AL,he])] at ha;exact Bk.next (n+1) rfl ⟨ha,rfl⟩ (by omega)
  .have i1:¬(n:Int)<(l.length:Int):=by omega
   rw[ZI HK] at ha;simp only[Ce,i1,AS,AK,AD,ha]
def f167(a:Item){ws:List Ad}(c:HT ws v)(hn:ws.length<=1000000000):Cj cx 14 [.agg a.row,v] h (.bool (AA ws a)) h:=by
 rw[Ac,aDh,t14];simp only[Ce,KG];refine⟨λh1=>by simp[AA,h1],λh1=>?_⟩;have h1:a.AX=1:=by simpa using h1
 have c:Br 1 (ws.map B1) v:=c;refine BO (λn:Nat=>[.bool false,I (n:Int)]) (λn h1=>n<=ws.length/\(a.name∈ws↔a.name∈ws.drop n)/\h1=h) (λn=>ws.length-n) 0 rfl ⟨AU _,rk,rfl⟩ ?_;rintro n h2 ⟨Ă,ha,rfl⟩;rcases A6 n ws.length with hlt|HK
 .have i1:(n:Int)<(ws.length:Int):=by omega
  rw[Ap hlt,Aw] at ha;simp only[Ce,c.Fk,i1,AP,AK,AD,c.Dl hlt,B1,CI (show n<9223372036854775807 by omega)];refine⟨λhe=>?_,λhe=>?_⟩;.have:a.name∈ws:=ha.2 (.inl he.symm);simp[AA,h1,this]
  .exact Bk.next (n+1) rfl ⟨hlt,ha.trans ⟨λh=>h.resolve_left (λh=>he h.symm),.inr⟩,rfl⟩ (by omega)
 .have i1:¬(n:Int)<(ws.length:Int):=by omega
  rw[AH HK] at ha;simp only[Ce,c.Fk,i1,AS,AK,AD];have:a.name∉ws:=λh=>by simpa using ha.1 h
  simp[AA,this]
def aNp(n:Int)(a:Item)(hs:a.name.length<9223372036854775807):Cj cx 13 [.agg a.row,I n] h (.bool (Gg n a)) h:=by
 rw[Ac,aDg,t13];simp only[Ce,KG,mq hs,sX hs,A_ hs,mr hs,B_ hs,Gg,AA];by_cases h1:a.AX=1
 .have i:¬a.AX=3:=by omega
  have g:¬a.AX=2:=by omega
  simp only[h1,Jc,Sc,M9,AD,AP,aAI,forall_const];by_cases d:n=4;.simp[d]
  .by_cases c:n=5;.simp[c]
   .by_cases h2:n=2;.simp[h2];by_cases hl:a.name∈Sf<;>simp[hl]
    .by_cases h3:n=3;.simp[h3];by_cases hl:a.name=aWV<;>simp[hl]
     .simp[d,c,h2,h3]
 .simp only[h1,Ho,Uw,uX,AK,AD,AS,Nb];by_cases d:n=4;.simp[d]
  .by_cases c:n=5;.simp[c]
   .by_cases h3:a.AX=3\/a.AX=2;.simp[d,c,h3]
    .have i:¬a.AX=3:=λe=>h3 (.inl e);have g:¬a.AX=2:=λe=>h3 (.inr e);simp[d,c,i,g,Dj,h1]
end
end
section
def YA(F:Aa)(q:Item->Bool):Prop:=∃f caps,F= .func (.func f) [] caps/\f<=99999/\∀(a:Item) (h:Ae),Cj cx f (.agg a.row::caps) h (.bool (q a)) h
section
variable{h:Ae}{p v:Aa}{l:List Item}
def f42{id o:Nat}(hs:Mn h id o l)(hb:l.length<=1000000000)(h2:2<=l.length):∃u,Cj cx 73 [Pt id o] h (.agg (En l).row) (put h id o u)/\DK (l.take (l.length-1)) u:=by
 obtain⟨v,hc,a⟩:=(show Mn h id o l from hs);obtain⟨u,e,hu⟩:=Br.Tm a (k:= .i64) (show l.length-1<=l.length by omega);refine⟨u,?_,hu⟩;have c:(l.length:Int)-1=((l.length-1:Nat):Int):=by omega
 rw[Ac,fH,t73];simp only[Ce,KG,(UO hs.at).call,(f39 hs.at hb).call,hc.load,Bp,Br.Fk a,D1 (show -9223372036854775808<=(l.length:Int)-1 by omega) (show(l.length:Int)-1<9223372036854775808 by omega),c,e,hc.store (Br.cells hu),show¬(l.length:Int)<2 by omega,AS,AK,AD]
def ů{id o:Nat}(hs:Mn h id o l)(hb:l.length<=1000000000){B A:Aa}{b a:Item->Bool}(hB:YA B b)(e:YA A a):
  ∃u,Cj cx 159 [Pt id o,B,A] h (I ((l.length:Int)-((DN b a l).length:Int))) (put h id o u)/\DK (DN b a l) u:=by
 obtain⟨g,q,rfl,c,rb⟩:=hB;obtain⟨fa,s,rfl,hfa,ra⟩:=e;have hlt:=hs.lt;have PI:Ev cx 159 [Pt id o,.func (.func g) [] q,.func (.func fa) [] s] h λr h'=>r= I ((l.length:Int)-((DN b a l).length:Int))/\∃u,h'=put h id o u/\DK (DN b a l) u:=by
  unfold Ev;rw[yI,aDW];refine BO (λn:Nat=>[I ((l.length:Int)-(n:Int))]) (λn h1=>n<=l.length/\(∃u,h1=put h id o u/\DK (l.take n) u)/\DN b a l=DN b a (l.take n)) (λn=>n) l.length (by simp) ⟨Ab _,by rw[Bf];exact hs.eU,by rw[Bf]⟩ ?_;rintro n h1 ⟨hn,⟨u,rfl,hu⟩,ha⟩;have Lm:Mn (put h id o u) id o (l.take n):= .aC2 hlt hu;have vP:(l.take n).length=n:=by rw[Av];omega
  simp only[Ce,↓reduceIte,(UO Lm.at).call,vP];match n,hn,hu,ha,Lm,vP with
  |0,hn,hu,ha,Lm,vP=>rw[mI (l:=l.take 0) (by simp)] at ha;simp only[Ce,show¬(1:Int)<((0:Nat):Int) by omega,AS,AK,AD];exact⟨_,rfl,by rw[ha];rfl,u,rfl,by rw[ha];exact hu⟩
  |1,hn,hu,ha,Lm,vP=>rw[mI (l:=l.take 1) (by rw[vP];exact Ab _)] at ha;simp only[Ce,show¬(1:Int)<((1:Nat):Int) by omega,AS,AK,AD];exact⟨_,rfl,by rw[ha,vP],u,rfl,by rw[ha];exact hu⟩
  |m+2,hn,hu,ha,Lm,vP=>
   have hm:m+1<l.length:=by omega
   have j:((l.length:Int)-((m+2:Nat):Int))+1=(l.length:Int)-((m+1:Nat):Int):=by omega
   obtain⟨d,hr,Ti⟩:=f42 Lm (by omega) (by omega);rw[MN hm] at hr;have i:(l.take (m+2)).take ((l.take (m+2)).length-1)=l.take (m+1):=by rw[vP,Cy,BG (by omega)];rfl
   rw[i] at Ti;rw[eO] at hr;have aIk:=f39 Lm.at (by omega);rw[MN hm] at aIk;rw[lj hm] at ha;simp only[Ce,↓reduceIte,CD,hfa,c,show(1:Int)<((m+2:Nat):Int) by omega,AP,AK,AD,aIk.call,(rb _ _).call,hr.call,(ra _ _).call,Tn (show -9223372036854775808<=((l.length:Int)-((m+2:Nat):Int))+1 by omega) (show((l.length:Int)-((m+2:Nat):Int))+1<9223372036854775808 by omega),j];rw[Dr,Dr];refine⟨λQa=>⟨λvt=>?_,λvt=>?_⟩,λQa=>?_⟩
   .have Qa:b l[m+1]=false:=by simpa using Qa
    rw[if_neg (by simp[Qa]),if_pos vt] at ha;exact⟨_,rfl,by rw[ha,Av,BG (by omega)],d,rfl,by rw[ha];exact Ti⟩
   .have Qa:b l[m+1]=false:=by simpa using Qa
    rw[if_neg (by simp[Qa]),if_neg (by simp[vt])] at ha;exact Bk.next (m+1) rfl ⟨by omega,⟨d,rfl,Ti⟩,ha⟩ (by omega)
   .have Qa:b l[m+1]=true:=by simpa using Qa
    rw[if_pos Qa] at ha;exact⟨_,rfl,by rw[ha,vP],u,rfl,by rw[ha];exact hu⟩
 obtain⟨r,h',hr,rfl,u,rfl,hu⟩:=PI.ret;exact⟨u,hr,hu⟩
def O8:YA (.func (.func 160) [] []) C8:=⟨_,_,rfl,by decide,λa h=>by rw[Ac,yJ,aDX];simp only[Ce,KG,C8]⟩
def sY{w:Aa}{ws:List Ad}(hw:HT ws w)(hn:ws.length<=1000000000):YA (.func (.func 161) [] [.B4 [w]]) (AA ws):=⟨_,_,rfl,by decide,λa h=>by rw[Ac,yK,aDY];simp only[Ce,KG,(m7 hw hn a h).call]⟩
def gT(s:Ad):YA (.func (.func 215) [] [.B4 [.str s]]) (Cz s):=⟨_,_,rfl,by decide,λa h=>by
 rw[Ac,zR,aEu];simp only[Ce,KG,zy,Cz];refine⟨λh1=>by simp[h1],λh1=>?_⟩;rw[Dr];refine⟨λh2=>?_,λh2=>?_⟩
 .have h2:a.name∉FD:=by simpa using h2
  simp[h2]
 .have h2:a.name∈FD:=by simpa using h2
  have h1:a.AX=1:=by simpa using h1
  simp[h2,h1]⟩
def ZN:YA (.func (.func 193) [] []) Eh:=⟨_,_,rfl,by decide,λa h=>by
 rw[Ac,yZ,aEc];simp only[Ce,KG,z_,Eh];refine⟨λh1=>by simp[h1],λh1=>?_⟩;have h1:a.AX=1:=by simpa using h1
 simp[h1]⟩
def gU(node:Int):YA (.func (.func 217) [] [.B4 [I node]]) (Bq node):=⟨_,_,rfl,by decide,λa h=>by rw[Ac,zT,aEw];simp only[Ce,KG,Bq]⟩
def aFf{id o:Nat}(hs:Mn h id o l)(hb:l.length<=1000000000)(s:Ad):
  ∃u,Cj cx 156 [Pt id o,.str s] h (I ((l.length:Int)-((DN (Cz s) C8 l).length:Int))) (put h id o u)/\DK (DN (Cz s) C8 l) u:=by
 obtain⟨u,hr,hu⟩:=ů hs hb (gT s) O8;exact⟨u,by rw[Ac,yG,aDU];simp only[Ce,hr.call],hu⟩
def f66{id o:Nat}(hs:Mn h id o l)(hb:l.length<=1000000000){w:Aa}{ws:List Ad}(hw:HT ws w)(hn:ws.length<=1000000000):
  ∃u,Cj cx 85 [Pt id o,w] h (I ((l.length:Int)-((DN C8 (AA ws) l).length:Int))) (put h id o u)/\DK (DN C8 (AA ws) l) u:=by
 obtain⟨u,hr,hu⟩:=ů hs hb O8 (sY hw hn);exact⟨u,by rw[Ac,ze,t85];simp only[Ce,HT.cells hw,hr.call],hu⟩
def aNr{id o:Nat}(hs:Mn h id o l)(hb:l.length<=1000000000):
  ∃u,Cj cx 117 [Pt id o] h (I ((l.length:Int)-((DN Eh C8 l).length:Int))) (put h id o u)/\DK (DN Eh C8 l) u:=by
 obtain⟨u,hr,hu⟩:=ů hs hb ZN O8;exact⟨u,by rw[Ac,xQ,aDG];simp only[Ce,hr.call],hu⟩
def aIl{id o:Nat}(hs:Mn h id o l)(hb:l.length<=1000000000)(node:Int):
  ∃u,Cj cx 157 [Pt id o,I node] h (I ((l.length:Int)-((GK node l).length:Int))) (put h id o u)/\DK (GK node l) u:=by
 by_cases Kb:Ax (Bq node) l<0;.obtain⟨u,e,hu⟩:=hs.eU;refine⟨u,?_,by rw[GK,if_pos Kb];exact hu⟩;rw[GK,if_pos Kb,Int.sub_self,Ac,fZ,Ř];simp only[Ce,(ZM hs.at hb node).call,Kb,AP,AK,AD];exact e
 .obtain⟨u,hr,hu⟩:=ů hs hb O8 (gU node);refine⟨u,?_,by rw[GK,if_neg Kb];exact hu⟩;rw[GK,if_neg Kb,Ac,fZ,Ř];simp only[Ce,(ZM hs.at hb node).call,Kb,AS,AK,AD,hr.call]
end
end
section
section
variable{h:Ae}{p v:Aa}{l:List Item}
def aNs(a:DK l v){k:Nat}(hk:k<l.length)(hb:l.length<=1000000000):∃u,Cj cx 196 [v,I (k:Int)] h u h/\DK (Bs l k) u:=by obtain⟨s,m,h1⟩:=Br.Tm a (k:= .i64) (show k<=l.length by omega);obtain⟨r,j,h2⟩:=Br.eM h1 (b:=40) (wQ (by rw[Av];omega));obtain⟨q,i,e⟩:=Br.wO a (k:= .i64) (show k+1<=l.length by omega);obtain⟨c,g,d⟩:=Br.rK h2 e (b:=40) (wQ (by rw[Av,A5];omega));refine⟨c,?_,d⟩;rw[Ac,zC,aEf];simp only[Ce,m,j,CI (show k<9223372036854775807 by omega),i,g]
def Ű{id o:Nat}(hs:Mn h id o l)(hb:l.length<=1000000000)(node:Int):∃u,Cj cx 119 [Pt id o,I node] h (.bool (decide (1<=Ax (Bq node) l))) (put h id o u)/\DK (B9 node l) u:=by
 by_cases Kb:Ax (Bq node) l<1;.obtain⟨u,e,hu⟩:=hs.eU;refine⟨u,?_,by rw[B9,if_pos Kb];exact hu⟩;rw[Ac,fN,Ŏ,<-e];simp only[Ce,(ZM hs.at hb node).call,Kb,AP,AK,AD,show¬1<=Ax (Bq node) l by omega,Ho]
 .rcases B8 (q:=Bq node) (l:=l) with⟨h1,_⟩|⟨k,hk,h1,_⟩
  .rw[h1] at Kb;omega
  .obtain⟨v,hc,a⟩:=(show Mn h id o l from hs);obtain⟨u,hr,hu⟩:=aNs (h:=h) a hk hb;refine⟨u,?_,by rw[B9,if_neg Kb,h1];exact hu⟩;rw[Ac,fN,Ŏ];simp only[Ce,(ZM hs.at hb node).call,hc.load,Bp,h1];rw[h1] at Kb;simp only[Ce,hr.call,Bp,hc.store (DK.cells hu),show¬(k:Int)<1 from Kb,AS,AK,AD,show(1:Int)<=(k:Int) by omega,Jc]
def aNt{id o:Nat}(hs:Mn h id o l)(hb:l.length<=1000000000)(a:Item)(i:Int):∃u,Cj cx 252 [Pt id o,.agg a.row,I i] h (.tuple []) (put h id o u)/\DK (l.take (HE i l.length)++a::l.drop (HE i l.length)) u:=by
 obtain⟨v,hc,c⟩:=(show Mn h id o l from hs);obtain⟨u,hr,hu⟩:=f186 (h:=h) c a (n:=HE i l.length) (by unfold HE;omega) hb;refine⟨u,?_,hu⟩;rw[Ac,a_,aEQ];have d:(if(l.length:Int)<(if i<1 then 1 else i) then(l.length:Int) else(if i<1 then 1 else i))=((HE i l.length:Nat):Int):=by unfold HE;split<;>split<;>omega
 simp only[Ce,KG,SF,Nb,hc.load,Bp,eF,Br.Fk c,wm,d,hr.call,hc.store (DK.cells hu)]
def aNu(a:DK l v)(hne:l≠[])(hb:l.length<=1000000000):Cj cx 290 [v] h (.C7 h.length 0 l.length 4) (h++[.cells (l.map Item.row).flatten]):=by
 have e:Az (.FM false .sl) [v,.slnil]=some (.bool false):=by
  rcases a with rfl|⟨rfl,a⟩
  .rfl
  .exact absurd (by simpa using a) hne
 have d:Az (.Cl 4) []=some (.sl 4 []):=rfl;have c:=Qg (h:=h) (s:= .sl 4 []) (z:=4) (b:=40) (.inr rfl) a (by simpa using hne) (by rw[Ao];exact wQ (by omega));rw[Ao] at c;rw[Ac,bz,aE8];simp only[Ce,e,d,c]
section
variable{id o n z:Nat}{v w:Aa}{X Y:EE}{As:List (List Aa)}
def At.next(ha:At h id o v):(Am.put h id o w++[X])[h.length]?=some X/\At (Am.put h id o w++[X]) id o w/\(Am.put h id o w++[X]).set h.length Y=Am.put h id o w++[Y]:=by have e:=Mm (h:=h) (id:=id) (o:=o) (u:=w);refine⟨by rw[<-e];simp,ha.put.J9,?_⟩;rw[BI _ _ (by omega),<-e,DM];rfl
def At.cw(ha:At h id o v)(c:Lt h v=some (h,v)):KQ h 0 (Pt id o)=some h:=by have a:=ha.same;obtain⟨cs,hc,e⟩:=ha;simp only[KQ,hc,Bp,e,c,Ck];rw[Io hc] at a;rw[a]
def At.cy(ha:At h id o v)(hr:∀r∈As,r.length=z):KQ (Am.put h id o (.C7 h.length 0 As.length z)++[.cells As.flatten]) 0 (Pt id o)=some (Am.put h id o (.sl z As)++[.DD]):=by obtain⟨d,c,a⟩:=ha.next (w:= .C7 h.length 0 As.length z) (X:= .cells As.flatten) (Y:= .DD);have f1:=Og hr d;rw[a] at f1;have a2:=(ha.next (w:= .C7 h.length 0 As.length z) (X:= .DD) (Y:= .DD)).2.1;obtain⟨cs,hc,e⟩:=c;obtain⟨Ta,LX,g⟩:=a2;simp only[KQ,hc,Bp,e,f1,Ck,LX];rw[<-Io (u:= .sl z As) LX,eQ ha.put,eO]
end
def aNv{id o:Nat}(hs:Mn h id o l)(hb:l.length<=1000000000)(node:Int)(a:Item):∃u t,Cj cx 274 [Pt id o,I node,.agg a.row] h (.bool (decide (1<=Ax (Bq node) l))) (put h id o u++t)/\DK (Qk node a l) u:=by
 obtain⟨v,hc,d⟩:=(show Mn h id o l from hs);by_cases Kb:Ax (Bq node) l<1;.refine⟨v,[],?_,by rw[Qk,if_pos Kb];exact d⟩;have c:=hc.cw (Br.VR d);rw[Ac,gO,Ũ,hc.same,A8];simp only[Ce,KG,(ZM hs.at hb node).call,Kb,AP,AK,AD,c,show¬1<=Ax (Bq node) l by omega,Ho]
 .rcases B8 (q:=Bq node) (l:=l) with⟨h1,_⟩|⟨k,hk,h1,_⟩
  .rw[h1] at Kb;omega
  .have g:¬(k:Int)<1:=by rw[h1] at Kb;exact Kb
   have hne:l≠[]:=by intro e;subst e;simp at hk
   have hcl:=aNu (h:=h) d hne hb;have m:=(hc.J9 (t:=[EE.cells (l.map Item.row).flatten])).store (u:= .C7 h.length 0 l.length 4) rfl;rw[eQ hc] at m;obtain⟨x,y,s⟩:=hc.next (w:= .C7 h.length 0 l.length 4) (X:= .cells (l.map Item.row).flatten) (Y:= .cells ((l.map Item.row).set k a.row).flatten);have j:=VD (z:=4) (aHM l) x (i:=k) (by simpa using hk) (q:=a.row) rfl;rw[s] at j;have r:Az (.F0 4) [.C7 h.length 0 l.length 4,I (k:Int)]=some (Pt h.length (k*4)):=Gy hk;have c:=hc.cy (mA (aHM l) (i:=k) (q:=a.row) rfl);rw[BY,Ao] at c;refine⟨.sl 4 ((l.map Item.row).set k a.row),[.DD],?_,?_⟩;.rw[Ac,gO,Ũ];simp only[Ce,KG,(ZM hs.at hb node).call,h1,g,AS,AK,AD,hc.load,Bp,hcl.call,m,y.load,r,j,c,show(1:Int)<=(k:Int) by omega,Jc]
   .rw[Qk,if_neg Kb,h1,Bz,DK,Hp];exact .mk
end
end
section
section
variable{h:Ae}{p v w:Aa}{l:List Item}{ws:List Ad}
end
end
section
section
variable{e:C9}{d:Aa}
end
section
variable{h:Ae}{v:Aa}{l:List C9}{id o:Nat}
def f99(hc:At h id o v)(a:EV l v)(hb:l.length<=1000000000):Cj cx 163 [Pt id o] h (I (since l)) h:=by
 have a:Br 3 (l.map C9.row) v:=a;rw[Ac,yM,aD0];simp only[Ce,hc.load,Bp,a.Fk];refine BO (λn:Nat=>[I (n:Int)]) (λn h1=>n<=l.length/\since l=since (l.take n)/\h1=h) (λn=>n) l.length rfl ⟨Ab _,by rw[Bf],rfl⟩ ?_;rintro n h1 ⟨hn,ha,rfl⟩;cases n with
 |zero=>simp only[Ce,show¬(0:Int)<((0:Nat):Int) by omega,AS,AK,AD,ha,lp];rfl
 |succ n=>rw[rQ hn] at ha;simp only[Ce,show(0:Int)<((n+1:Nat):Int) by omega,AP,AK,AD,hc.load,Bp,NN (show 0<n+1 by omega) (show n+1<9223372036854775807 by omega),Mc,a.Dl (show n<l.length from hn),C9.at0];refine⟨λh0=>Bk.next n rfl ⟨by omega,by rw[ha,if_neg h0],rfl⟩ (by omega),λh0=>?_⟩;rw[if_pos (by simpa using h0)] at ha;rw[ha];rfl
def aIm(hc:At h id o v)(a:EV l v)(hb:l.length<=1000000000)(name:Ad):Cj cx 208 [Pt id o,.str name] h (I (RM name l)) h:=by
 have a:Br 3 (l.map C9.row) v:=a;rw[Ac,zM,aEp];simp only[Ce,Ie,hc.load,Bp,a.Fk,D1 (show -9223372036854775808<=(l.length:Int)-1 by omega) (show(l.length:Int)-1<9223372036854775808 by omega)];refine BO (λn:Nat=>[I 0,I ((n:Int)-1)]) (λn h1=>n<=l.length/\RM name l=RM name (l.take n)/\h1=h) (λn=>n) l.length rfl ⟨Ab _,by rw[Bf],rfl⟩ ?_;rintro n h1 ⟨hn,ha,rfl⟩;cases n with
 |zero=>
  have i1:¬(0:Int)<=((0:Nat):Int)-1:=by omega
  rw[ha];simp only[Ce,i1,AS,AK,AD,lq]
 |succ n=>
  have b:((n+1:Nat):Int)-1=(n:Int):=by omega
  rw[rR hn] at ha;simp only[Ce,b,show(0:Int)<=(n:Int) by omega,AP,AK,AD,hc.load,Bp,a.Dl (show n<l.length from hn),C9.at0,C9.xa,D1 (show -9223372036854775808<=(n:Int)-1 by omega) (show(n:Int)-1<9223372036854775808 by omega)];refine⟨λh0=>⟨λh1=>?_,λh1=>?_⟩,λh0=>?_⟩;.rw[ha,if_neg h0,if_pos h1]
  .exact Bk.next n rfl ⟨by omega,by rw[ha,if_neg h0,if_neg h1],rfl⟩ (by omega)
  .rw[ha,if_pos (by simpa using h0)]
def f41(hc:At h id o v)(a:EV l v)(hb:l.length<=1000000000)(node:Int):Cj cx 211 [Pt id o,I node] h (I (KY node l)) h:=by
 have a:Br 3 (l.map C9.row) v:=a;rw[Ac,zO,aEr];simp only[Ce,Ie,hc.load,Bp,a.Fk,D1 (show -9223372036854775808<=(l.length:Int)-1 by omega) (show(l.length:Int)-1<9223372036854775808 by omega)];refine⟨λh0=>by rw[KY,if_pos h0],λh0=>?_⟩;rw[KY,if_neg h0];refine BO (λn:Nat=>[I 0,I ((n:Int)-1)]) (λn h1=>n<=l.length/\Ax (UB node) l=Ax (UB node) (l.take n)/\h1=h) (λn=>n) l.length rfl ⟨Ab _,by rw[Bf],rfl⟩ ?_;rintro n h1 ⟨hn,ha,rfl⟩;cases n with
 |zero=>
  have i1:¬(0:Int)<=((0:Nat):Int)-1:=by omega
  rw[ha];simp only[Ce,i1,AS,AK,AD,LD]
 |succ n=>
  have b:((n+1:Nat):Int)-1=(n:Int):=by omega
  rw[OY hn] at ha;simp only[Ce,b,show(0:Int)<=(n:Int) by omega,AP,AK,AD,hc.load,Bp,a.Dl (show n<l.length from hn),C9.at0,D1 (show -9223372036854775808<=(n:Int)-1 by omega) (show(n:Int)-1<9223372036854775808 by omega)];refine⟨λh1=>?_,λh1=>?_⟩;.rw[ha,if_pos (by simpa[UB] using h1)]
  .exact Bk.next n rfl ⟨by omega,by rw[ha,if_neg (by simpa[UB] using h1)],rfl⟩ (by omega)
end
section
variable{h:Ae}{v:Aa}{l:List A9}
def aNw(b:Bj l v)(hb:l.length<=1000000000)(x:A9):Cj cx 307 [v,.agg x.row] h (I (Cg (λa=>decide (x=a)) 0 l)) h:=by
 have b:Br 3 (l.map A9.row) v:=b;rw[Ac,cr,aFc];simp only[Ce,b.Fk,A9.Es,A9.g0,A9.g1,A9.g2,A9.Wb];refine BO (λn:Nat=>[I 0,I (n:Int)]) (λn h1=>n<=l.length/\Cg (λa=>decide (x=a)) 0 l=Cg (λa=>decide (x=a)) n (l.drop n)/\h1=h) (λn=>l.length-n) 0 rfl ⟨AU _,rfl,rfl⟩ ?_;rintro n h1 ⟨hn,ha,rfl⟩;rcases A6 n l.length with hlt|HK
 .have i1:(n:Int)<(l.length:Int):=by omega
  rw[Ap hlt,Cg] at ha;simp only[Ce,i1,AP,AK,AD,b.Dl hlt,A9.Es,A9.Oj,Ab,xc,Bool.bne_false,CI (show n<9223372036854775807 by omega)];refine⟨λh0=>?_,λh0=>?_⟩;.rw[ha,if_pos (by simpa using h0)]
  .exact Bk.next (n+1) rfl ⟨hlt,by rw[ha,if_neg (by simpa using h0)],rfl⟩ (by omega)
 .have i1:¬(n:Int)<(l.length:Int):=by omega
  rw[AH HK,Cg] at ha;simp only[Ce,i1,AS,AK,AD,ha]
def aNx(b:Bj l v)(hb:l.length<=1000000000)(x:A9):Cj cx 289 [v,.agg x.row] h (.bool (decide (x∈l))) h:=by
 rw[Ac,bx,aE7];simp only[Ce,A9.Es,A9.g0,A9.g1,A9.g2,A9.Wb,(aNw b hb x).call];rcases GJ (p:=λa=>decide (x=a)) (l:=l) (k:=0) with⟨h1,h2⟩|⟨n,a,h1,h2,h3⟩
 .rw[h1];have:x∉l:=λhm=>by have:=Mb.1 h2 x hm;simp at this
  simp[this]
 .have hm:=Cx h2;have he:x=a:=by simpa using VP h3
  have hx:x∈l:=by rw[he];exact hm
  rw[h1];simp[hx]
def m8(F:Aa)(h:Ae)(q:A9->Bool):Prop:=∃f caps,F= .func (.func f) [] caps/\f<=99999/\∀a:A9,Cj cx f (.agg a.row::caps) h (.bool (q a)) h
def aIn{F:Aa}{q:A9->Bool}(a:Bj l v)(hb:l.length<=1000000000)(hF:m8 F h q):Cj cx 269 [v,F] h (I (Cg q 0 l)) h:=by
 have a:Br 3 (l.map A9.row) v:=a;obtain⟨f,caps,rfl,hf,hr⟩:=hF;rw[Ac,WI,zq];simp only[Ce,a.Fk];refine BO (λn:Nat=>[I 0,I (n:Int)]) (λn h1=>n<=l.length/\Cg q 0 l=Cg q n (l.drop n)/\h1=h) (λn=>l.length-n) 0 rfl ⟨AU _,rfl,rfl⟩ ?_;rintro n h1 ⟨Ă,ha,rfl⟩;rcases A6 n l.length with hlt|HK
 .have i1:(n:Int)<(l.length:Int):=by omega
  rw[Ap hlt,Cg] at ha;simp only[Ce,↓reduceIte,CD,hf,i1,AP,AK,AD,a.Dl hlt,A9.Es,A9.Oj,Ab,(hr l[n]).call];rw[Dr];refine⟨λhe=>?_,λhe=>?_⟩;.rw[ha,if_pos he]
  .rw[if_neg (by simp[he])] at ha;simp only[Ce,CI (show n<9223372036854775807 by omega)];exact Bk.next (n+1) rfl ⟨hlt,ha,rfl⟩ (by omega)
 .have i1:¬(n:Int)<(l.length:Int):=by omega
  rw[AH HK,Cg] at ha;simp only[Ce,↓reduceIte,CD,hf,i1,AS,AK,AD,ha]
def aIo{F:Aa}{q:A9->Bool}(b:Bj l v)(hb:l.length<=1000000000)(hF:m8 F h q):Cj cx 244 [v,F] h (.bool (l.any q)) h:=by
 rw[Ac,gN,Ŧ];simp only[Ce,(aIn b hb hF).call];have:l.any q=(l.find? q).isSome:=by rw[LZ,aRY,NW]
 rw[this];rcases GJ (p:=q) (l:=l) (k:=0) with⟨h1,h2⟩|⟨n,a,h1,h2,h3⟩
 .rw[h1,h2];simp
 .rw[h1,h3];simp
def aNy(a:Bj l v)(hb:l.length<=1000000000)(x:A9):Cj cx 288 [.agg x.row,.B4 [v]] h (.bool (!decide (x∈l))) h:=by rw[Ac,bw,aE6];simp only[Ce,A9.Es,A9.g0,A9.g1,A9.g2,A9.Wb,(aNx a hb x).call]
def aIp{b:List A9}{w:Aa}(c:Bj l v)(hb:l.length<=1000000000)(hw:Bj b w)(RJ:b.length<=1000000000):Cj cx 287 [v,w] h (.bool (decide (∀x∈l,x∈b))) h:=by
 have hF:m8 (.func (.func 288) [] [.B4 [w]]) h λx=> !decide (x∈b):=⟨288,_,rfl,by decide,λa=>aNy hw RJ a⟩;have e:(!l.any λx=> !decide (x∈b))=decide (∀x∈l,x∈b):=by rw[LZ];simp
 rw[Ac,bu,aE5,<-e];simp only[Ce,Br.cells hw,(aIo c hb hF).call]
def aNz{a b:C9}(ha:qo a)(hb:qo b):Cj cx 271 [.agg a.row,.agg b.row] h (.bool (L5 a.c b.c)) h:=by
 have f:=aIp (h:=h) a.ok ha b.ok hb;have r2:=aIp (h:=h) b.ok hb a.ok ha;rw[Ac,bm,aE0];simp only[Ce,Nat.reduceLeDiff,↓reduceIte,CD,A8,C9.Es,C9.g1,C9.g2,C9.aMr,f.call,r2.call];refine⟨λh1=>⟨λh2=>⟨λh3=>?_,λh3=>?_⟩,λh2=>?_⟩,λh1=>?_⟩
 .have jT:a.c.Aq.length=b.c.Aq.length:=by omega
  simp only[L5,h1,jT,M9];congr 3
  rw[eq_iff_iff];exact⟨λh=>⟨h3,h⟩,λh=>h.2⟩
 .simp[L5,h3]
 .have jT:¬a.c.Aq.length=b.c.Aq.length:=by omega
  simp[L5,jT]
 .simp[L5,h1]
end
end
section
def Dn{Q:KE}{h:Ae}{a:Aa}{k:IT}:W cx (.same a a k) Q h↔W cx k Q h:=by refine⟨λhw=>?_,su (Aa.To a)⟩;obtain⟨m,x',H7,h',hr,q⟩:=hw.succ;simp only[IT.step,Aa.To,BM] at hr;exact CS ⟨m,x',H7,h',hr,q⟩
section
variable{h:Ae}{v:Aa}{l:List C9}{id o:Nat}
def f45{l:List A9}(b:Bj l v)(hb:l.length<=1000000000):∃u,Cj cx 33 [v] h u h/\Bj l u:=by
 have b:Br 3 (l.map A9.row) v:=b;rcases b with rfl|⟨rfl,hn⟩
 .refine⟨.sl 3 (l.map A9.row),?_,.mk⟩;have c:Az (.FM false .sl) [.sl 3 (l.map A9.row),.slnil]=some (.bool false):=rfl;have g:Az (.Cl 3) []=some (.sl 3 []):=rfl;have f:Rz h 3 40 (.sl 3 []) (.sl 3 (l.map A9.row))=some (.sl 3 (l.map A9.row)):=by
   simp only[Rz,GX,BM,Ck];cases l with
   |nil=>rfl
   |cons a l=>have:(l.length+1)*40<=AN:=wQ (by simp at hb;omega);simp[DJ,this]
  rw[Ac,sI,t33];simp only[Ce,c,g,f]
 .refine⟨.slnil,?_,?_⟩;.have c:Az (.FM false .sl) [.slnil,.slnil]=some (.bool true):=rfl;rw[Ac,sI,t33];simp only[Ce,c]
  .exact .inr ⟨rfl,hn⟩
def C_{e:C9}(he:qo e):∃a:C9,a.c=e.c/\Cj cx 272 [.agg e.row] h (.agg a.row) h:=by obtain⟨u,r,hu⟩:=f45 (h:=h) e.ok he;refine⟨⟨e.c,u,hu⟩,rfl,?_⟩;rw[Ac,bn,aE1];simp only[Ce,C9.Es,C9.g0,C9.g1,C9.g2,r.call,Br.cells hu];rfl
def aIq(a:EV l v){k:Nat}(hk:k<l.length)(hb:l.length<=1000000000):∃u,Cj cx 247 [v,I (k:Int)] h u h/\EV (Bs l k) u:=by obtain⟨t,p,h1⟩:=Br.Tm a (k:= .i64) (show k<=l.length by omega);obtain⟨r,m,h2⟩:=Br.eM h1 (b:=48) (bK (by rw[Av];omega));obtain⟨q,j,g⟩:=Br.wO a (k:= .i64) (show k+1<=l.length by omega);obtain⟨c,i,f⟩:=Br.rK h2 g (b:=48) (bK (by rw[Av,A5];omega));refine⟨c,?_,f⟩;rw[Ac,au,aEL];simp only[Ce,p,m,CI (show k<9223372036854775807 by omega),j,i]
def dY(c:EV l v)(e:C9){k:Nat}(hk:k<=l.length)(hb:l.length<=1000000000):∃u,Cj cx 115 [v,.agg e.row,I (k:Int)] h u h/\EV (l.take k++e::l.drop k) u:=by obtain⟨y,t,h1⟩:=Br.Tm c (k:= .i64) hk;obtain⟨x,r,h2⟩:=Br.eM h1 (b:=48) (bK (by rw[Av];omega));have q:=Br.mG (a:=e) h2 (b:=48) (bK (by rw[Av];omega));obtain⟨w,p,j⟩:=Br.wO c (k:= .i64) hk;obtain⟨i,m,g⟩:=Br.rK (f:=C9.row) (l:=l.take k++[e]) .mk j (b:=48) (bK (by rw[Ai,Av,A5,AR];omega));refine⟨i,?_,by rw[AT] at g;exact g⟩;rw[Ac,xO,aDE];simp only[Ce,C9.Es,C9.g0,C9.g1,C9.g2,C9.Wb,t,r,ls C9.Es,q,p,m]
def aFg(a:EV l v)(hne:l≠[])(hb:l.length<=1000000000):Cj cx 144 [v] h (.C7 h.length 0 l.length 3) (h++[.cells (l.map C9.row).flatten]):=by
 have g:Az (.FM false .sl) [v,.slnil]=some (.bool false):=by
  rcases a with rfl|⟨rfl,a⟩
  .rfl
  .exact absurd (by simpa using a) hne
 have f:Az (.Cl 3) []=some (.sl 3 []):=rfl;have c:=Qg (h:=h) (s:= .sl 3 []) (z:=3) (b:=48) (.inr rfl) a (by simpa using hne) (by rw[Ao];exact bK (by omega));rw[Ao] at c;rw[Ac,WE,zn];simp only[Ce,g,f,c]
def f63(hs:UC h id o l)(hb:l.length<=1000000000):∃u,Cj cx 74 [Pt id o] h (.tuple []) (put h id o u)/\EV (l++[eW]) u:=by obtain⟨v,hc,a⟩:=(show UC h id o l from hs);obtain⟨u,hr,hu⟩:=dY (h:=h) a eW (Ab l.length) hb;rw[Bf,E7] at hu;refine⟨u,?_,hu⟩;rw[Ac,yw,t74];simp only[Ce,↓reduceIte,B6,SF,Nb,hc.load,Bp,Br.Fk a,xd,hr.call,hc.store (EV.cells hu)]
def aNA(hs:UC h id o l)(hb:l.length<=1000000000){e:C9}(he:qo e)(i:Int):∃u a,a.c=e.c/\Cj cx 251 [Pt id o,.agg e.row,I i] h (.tuple []) (put h id o u)/\EV (l.take (GL i l.length)++a::l.drop (GL i l.length)) u:=by
 obtain⟨v,hc,b⟩:=(show UC h id o l from hs);obtain⟨a,lD,f⟩:=C_ (h:=h) he;obtain⟨u,hr,hu⟩:=dY (h:=h) b a (k:=GL i l.length) (by unfold GL;omega) hb;refine⟨u,a,lD,?_,hu⟩;have g:(if(l.length:Int)<(if i<0 then 0 else i) then(l.length:Int) else(if i<0 then 0 else i))=((GL i l.length:Nat):Int):=by unfold GL;split<;>split<;>omega
 rw[Ac,az,aEP];simp only[Ce,C9.Es,C9.g0,C9.g1,C9.g2,C9.Wb,SF,Nb,hc.load,Bp,eF,Br.Fk b,wm,g,f.call,Dn,hr.call,hc.store (EV.cells hu)]
def f65(hs:UC h id o l)(hb:l.length<=1000000000):∃u,Cj cx 86 [Pt id o] h (I ((l.length:Int)-((Ia l:Nat):Int))) (put h id o u)/\EV (l.take (Ia l)) u:=by
 obtain⟨v,hc,a⟩:=(show UC h id o l from hs);obtain⟨s,es,Lm,_⟩:=Sj l;have hcl:Ia l<=l.length:=by unfold Ia;omega
 obtain⟨u,c,hu⟩:=Br.Tm a (k:= .i64) hcl;refine⟨u,?_,hu⟩;have b:(if since l-1<0 then 0 else since l-1)=((Ia l:Nat):Int):=by unfold Ia;split<;>omega
 have vP:(l.take (Ia l)).length=Ia l:=by rw[Av];omega
 have f:At (put h id o u) id o u:=hc.put;rw[Ac,zf,t86];simp only[Ce,Ie,hc.load,Bp,Br.Fk a,(f99 hc a hb).call,Dn,D1 (show -9223372036854775808<=since l-1 by omega) (show since l-1<9223372036854775808 by omega),eF,b,c,hc.store (Br.cells hu),f.load,Br.Fk hu,vP,D1 (show -9223372036854775808<=(l.length:Int)-((Ia l:Nat):Int) by omega) (show(l.length:Int)-((Ia l:Nat):Int)<9223372036854775808 by omega)]
end
end
section
section
variable{e:B2}{l:List C9}{n s:Nat}
end
section
variable{h:Ae}{v:Aa}{l:List C9}{id o:Nat}
set_option maxHeartbeats 1000000 in
def f30(hs:UC h id o l)(hb:l.length<=900000000)(hl:∀x∈l,qo x){e:C9}(he:qo e):∃u a,a.c=e.c/\Cj cx 243 [Pt id o,.agg e.row] h (.tuple []) (put h id o u)/\EV (Sl e.c l++[a]) u:=by
 obtain⟨v,hc,g⟩:=(show UC h id o l from hs);have JG:Br 3 (l.map C9.row) v:=g;have Iy:=hs.lt;obtain⟨s,es,Lm,sZ,_⟩:=Sj l;have PI:Ev cx 243 [Pt id o,.agg e.row] h λr h'=>r= .tuple []/\∃(a:C9) (u:Aa),a.c=e.c/\h'=put h id o u/\EV (Sl e.c l++[a]) u:=by
  unfold Ev;rw[ak,aEI];by_cases h0:e.c.node=0;.obtain⟨a,lD,b⟩:=C_ (h:=h) he;obtain⟨u,r2,hu⟩:=dY (h:=h) g a (Ab l.length) (by omega);rw[Bf,E7] at hu;simp only[Ce,C9.Es,C9.g0,C9.g1,C9.g2,Ie,h0,ne_eq,AP,AD,AK,AS,hc.load,Bp,JG.Fk];rw[<-h0,C9.Wb];simp only[Ce,b.call,Dn,hc.load,Bp,r2.call,hc.store (EV.cells hu)];refine⟨_,rfl,rfl,a,u,lD,rfl,?_⟩;rw[Sl,if_neg (λh=>h.1 h0)];exact hu
  .simp only[Ce,C9.Es,C9.g0,C9.g1,C9.g2,C9.Wb,Ie,h0,ne_eq,AP,AD,AK,AS,hc.load,Bp,JG.Fk,D1 (show -9223372036854775808<=(l.length:Int)-1 by omega) (show(l.length:Int)-1<9223372036854775808 by omega)];refine BO (λp:Int×Nat×Nat=>[I p.1,I (p.2.1:Int),I ((p.2.2:Int)-1)])
    (λp h1=>s<=p.2.2/\p.2.2<=l.length/\p.2.1+p.2.2<=l.length/\ZJ e.c l=p.2.1+ZJ e.c (l.take p.2.2)/\(Sk e.c l=if 0<=Sk e.c (l.take p.2.2) then Sk e.c (l.take p.2.2) else if p.2.1=0 then -1 else p.1)/\(p.2.1=0\/∃k:Nat,k<l.length/\p.1=(k:Int))/\h1=h)
    (λp=>p.2.2) (0,0,l.length) rfl ⟨Lm,Ab _,by simp,by simp,by
     rw[Bf];have:∀l:List C9,-1<=rS e.c l:=by
      intro l;induction l with
      |nil=>exact Mf _
      |cons x t ih=>rw[rS];split<;>(try split)<;>(try split)<;>omega
     have:=this l.reverse;simp only[BM];unfold Sk;split<;>omega,.inl rfl,rfl⟩ ?_
   rintro⟨B,f,n⟩ h1 ⟨a1,a2,a3,a4,a5,a6,rfl⟩;simp only at a1 a2 a3 a4 a5 a6;have q:=f99 hc g (by omega);rw[es] at q;rcases A6 s n with hlt|HK
   .obtain⟨n,rfl⟩:∃m,n=m+1:=⟨n-1,by omega⟩;have A:((n+1:Nat):Int)-1=(n:Int):=by omega
    have hn:n<l.length:=a2;have i:=sZ n hn (by omega);rw[bL hn,if_neg i] at a4;rw[bM hn,if_neg i] at a5;have b:=aNz (h:=h1) (hl _ (Ay hn)) he;simp only[Ce,A,q.call,show(s:Int)<=(n:Int) by omega,AP,AD,AK,hc.load,Bp,JG.Dl hn,C9.Es,C9.Oj,Ab,b.call,CI (show f<9223372036854775807 by omega),D1 (show -9223372036854775808<=(n:Int)-1 by omega) (show(n:Int)-1<9223372036854775808 by omega)];rw[Dr];refine⟨λh2=>?_,λh2=>?_⟩
    .rw[if_pos h2] at a4 a5;refine Bk.next ((n:Int),f+1,n) rfl ⟨by simp only;omega,by simp only;omega,by simp only;omega,by simp only;omega,?_,.inr ⟨n,hn,rfl⟩,rfl⟩ (by simp only;omega);simp only
     rw[a5];by_cases hf:0<=Sk e.c (l.take n);.simp[hf]
     .simp[hf,show(0:Int)<=(n:Int) by omega]
    .rw[if_neg (by simp[h2])] at a4;rw[if_neg (show¬L5 l[n].c e.c=true by simp[h2])] at a5;refine Bk.next (B,f,n) rfl ⟨by simp only;omega,by simp only;omega,by simp only;omega,by simp only;omega,?_,a6,rfl⟩ (by simp only;omega);simp only
     rw[a5];by_cases hf:0<=Sk e.c (l.take n);.simp[hf]
     .simp[hf]
   .obtain rfl:n=s:=by omega
    obtain⟨b1,C⟩:=rT (e:=e.c) es;rw[b1,Bp] at a4;rw[C,if_neg (by decide)] at a5;simp only[Ce,q.call,show¬(n:Int)<=(n:Int)-1 by omega,AD,AK,AS];by_cases h3:3<=f
    .rcases a6 with a6|⟨k,hk,rfl⟩
     .omega
     rw[if_neg (by omega)] at a5;obtain⟨j,b,dK⟩:=aIq (h:=h1) g hk (by omega);have Ua:(Bs l k).length<=l.length:=by unfold Bs;rw[Ai,Av,A5];omega
     have w:At (put h1 id o j) id o j:=hc.put;obtain⟨a,lD,r2⟩:=C_ (h:=put h1 id o j) he;obtain⟨y,z,Ti⟩:=dY (h:=put h1 id o j) dK a (Ab (Bs l k).length) (by omega);rw[Bf,E7] at Ti;simp only[Ce,show(3:Int)<=(f:Int) by omega,AP,AD,AK,hc.load,Bp,b.call,hc.store (EV.cells dK),w.load,Br.Fk dK,r2.call,Dn,z.call,w.store (EV.cells Ti),eO];refine⟨_,rfl,rfl,a,y,lD,rfl,?_⟩;rw[Sl,if_pos ⟨h0,by omega⟩,a5,Bz];exact Ti
    .obtain⟨a,lD,b⟩:=C_ (h:=h1) he;obtain⟨u,r2,hu⟩:=dY (h:=h1) g a (Ab l.length) (by omega);rw[Bf,E7] at hu;simp only[Ce,show¬(3:Int)<=(f:Int) by omega,AD,AK,AS,hc.load,Bp,JG.Fk,b.call,Dn,r2.call,hc.store (EV.cells hu)];refine⟨_,rfl,rfl,a,u,lD,rfl,?_⟩;rw[Sl,if_neg (by omega)];exact hu
 obtain⟨r,h',hr,rfl,a,u,lD,rfl,hu⟩:=PI.ret;exact⟨u,a,lD,hr,hu⟩
end
end
section
section
variable{h:Ae}{v:Aa}{l:List C9}{id o:Nat}
def aNB(hs:UC h id o l)(hb:l.length<=900000000)(node:Int){e:C9}(he:qo e):∃u t a,a.c=e.c/\Cj cx 275 [Pt id o,I node,.agg e.row] h (.bool (decide (0<=KY node l))) (put h id o u++t)/\EV (if KY node l<0 then l else l.set (KY node l).toNat a) u:=by
 obtain⟨v,hc,b⟩:=(show UC h id o l from hs);rcases mJ node l with h1|⟨k,hk,h1⟩
 .refine⟨v,[],e,rfl,?_,by rw[h1];exact b⟩;have f:=hc.cw (Br.VR b);rw[Ac,gP,ũ,hc.same,A8];simp only[Ce,C9.Es,(f41 hc b (by omega) node).call,h1,show(-1:Int)<0 by decide,AP,AK,AD,f];rfl
 .have hne:l≠[]:=by intro e;subst e;simp at hk
  have hcl:=aFg (h:=h) b hne (by omega);have j:=(hc.J9 (t:=[EE.cells (l.map C9.row).flatten])).store (u:= .C7 h.length 0 l.length 3) rfl;rw[eQ hc] at j;obtain⟨a,lD,m⟩:=C_ (h:=put h id o (.C7 h.length 0 l.length 3)++[EE.cells (l.map C9.row).flatten]) he;obtain⟨x,y,r⟩:=hc.next (w:= .C7 h.length 0 l.length 3) (X:= .cells (l.map C9.row).flatten) (Y:= .cells ((l.map C9.row).set k a.row).flatten);have g:=VD (z:=3) (UD l) x (i:=k) (by simpa using hk) (q:=a.row) rfl;rw[r] at g;have p:Az (.F0 3) [.C7 h.length 0 l.length 3,I (k:Int)]=some (Pt h.length (k*3)):=Gy hk;have f:=hc.cy (mA (UD l) (i:=k) (q:=a.row) rfl);rw[BY,Ao] at f;refine⟨.sl 3 ((l.map C9.row).set k a.row),[.DD],a,lD,?_,?_⟩;.rw[Ac,gP,ũ];simp only[Ce,C9.Es,C9.g0,C9.g1,C9.g2,C9.Wb,(f41 hc b (by omega) node).call,h1,show¬(k:Int)<0 by omega,AS,AK,AD,hc.load,Bp,hcl.call,j,y.load,m.call,Dn,p,g,f,show(0:Int)<=(k:Int) by omega,Jc]
  .rw[h1,if_neg (by omega),Bz,<-Hp];exact .mk
end
end
def Wg:List A9->Aa
 |[]=> .slnil
 |x::l=> .sl 3 ((x::l).map A9.row)
def WM{l:List A9}:Bj l (Wg l):=by cases l;exact .inr ⟨rfl,rfl⟩;exact .inl rfl
def mv{l:List A9}{x:A9}:Wg (l++[x])= .sl 3 ((l++[x]).map A9.row):=by cases l<;>rfl
structure PN where
 x:HO
 kv:Aa
 av:Aa
 ok:av=Wg x.Aq
def PN.row(p:PN):List Aa:=[I p.x.kind,I p.x.Gq,p.kv,I p.x.CB,I p.x.AX,.str p.x.name,p.av,.str p.x.data,.str p.x.Ke,.str p.x.sys,.bool p.x.DH,I p.x.cont,I p.x.E3]
def PN.Es{p:PN}:p.row.length=13:=rfl
def PN.zero:PN:=⟨{},.slnil,.slnil,rfl⟩
def pN(ps:List PN)(x:Int):PN:=ps.getD (x.toNat-1) PN.zero
def CY(n:Int):List Aa:=[I n]
def Hh(l:List Int)(v:Aa):Prop:=Br 1 (l.map CY) v
def Kr(h:Ae)(kv:Aa)(l:List Int):Prop:=(kv= .slnil/\l=[])\/∃id cs,kv= .C7 id 0 l.length 1/\h[id]?=some (.cells (l.map (Aa.int .i64)++cs))
def HV:Aa->Option Nat
 | .C7 id _ _ _=>some id
 |_=>none
def YB(h:Ae)(m:Option Nat)(f:Int->Int):Prop:=(m=none/\∀k,f k=0)\/∃(id:Nat) (l:List (Int×Int)),m=some id/\h[id]?=some (.map (l.map λx:Int×Int=>(I x.1,I x.2)))/\∀k,(l.find? λx=>decide (k=x.1)).map (·.2)=if f k=0 then none else some (f k)
def FH(a n:Nat)(m:Option Nat)(ps:List PN):List Nat:=a::n::(m.toList++ps.filterMap λp=>HV p.kv)
structure PA(h:Ae)(a n:Nat)(m:Option Nat)(ps:List PN)(A:Ar):Prop where
 e:A.n=ps.map PN.x
 il:A.i.length=A.n.length
 ha:h[a]?=some (.cells [.C7 n 0 ps.length 13,.map m])
 hn:h[n]?=some (.cells (ps.map PN.row).flatten)
 ks:∀p∈ps,Kr h p.kv p.x.Bv
 nd:(FH a n m ps).Nodup
 mp:YB h m A.inr
structure Ey(h:Ae)(F:Nat->Prop)(h':Ae)(F':Nat->Prop):Prop where
 len:h.length<=h'.length
 old:∀i,i<h.length->¬F i->h'[i]?=h[i]?
 BN:∀i,F' i->F i\/h.length<=i
section
variable{h h' h'' t:Ae}{F F' F'':Nat->Prop}
def Ey.refl:Ey h F h F:=⟨Ab _,λ_ _ _=>rfl,λ_ h=> .inl h⟩
def Ey.trans(x:Ey h F h' F')(y:Ey h' F' h'' F''):Ey h F h'' F'':=
 ⟨Bn x.len y.len,λi hi hF=>by
  rw[y.old i (Ji hi x.len) (λh=>by rcases x.BN i h with h|h;exact hF h;omega)];exact x.old i hi hF,λi hi=>by
  rcases y.BN i hi with h|h
  .exact x.BN i h
  .exact .inr (Bn x.len h)⟩
def Ey.J9:Ey h F (h++t) F:=⟨by simp,λi hi _=>Ah hi,λ_ h=> .inl h⟩
end
def PW(h:Ae)(F:Nat->Prop)(a:Nat)(A:Ar):Prop:=∃n m ps,PA h a n m ps A/\∀i,F i↔i∈FH a n m ps
section
variable{h h':Ae}{a n:Nat}{m:Option Nat}{ps:List PN}{A:Ar}{x:Int}{F:Nat->Prop}
def Kr.Ep{kv:Aa}{l:List Int}(hk:Kr h kv l)(hf:∀id,HV kv=some id->h'[id]?=h[id]?):Kr h' kv l:=by
 rcases hk with⟨rfl,rfl⟩|⟨id,cs,rfl,hc⟩
 .exact .inl ⟨rfl,rfl⟩
 .exact .inr ⟨id,cs,rfl,by rw[hf id rfl];exact hc⟩
def YB.Ep{f:Int->Int}(hk:YB h m f)(hf:∀id,m=some id->h'[id]?=h[id]?):YB h' m f:=by
 rcases hk with h1|⟨id,l,rfl,hc,h2⟩
 .exact .inl h1
 .exact .inr ⟨id,l,rfl,by rw[hf id rfl];exact hc,h2⟩
def LK{p:PN}{id:Nat}(hp:p∈ps)(hk:HV p.kv=some id):id∈FH a n m ps:=by unfold FH;simp only[Aw,Aj];exact .inr (.inr (.inr (Cf.2 ⟨p,hp,hk⟩)))
def PA.Ep(w:PA h a n m ps A)(hf:∀i∈FH a n m ps,h'[i]?=h[i]?):PA h' a n m ps A:=
 ⟨w.e,w.il,by rw[hf a (by simp[FH])];exact w.ha,by rw[hf n (by simp[FH])];exact w.hn,λp hp=>(w.ks p hp).Ep λid hk=>hf id (LK hp hk),w.nd,w.mp.Ep λid hm=>hf id (by simp[FH,hm])⟩
def PA.lt(w:PA h a n m ps A):∀i∈FH a n m ps,i<h.length:=by
 intro i hi;unfold FH at hi;simp only[Aw,Aj,Cf] at hi;rcases hi with rfl|rfl|hi|⟨p,hp,hk⟩
 .exact(Af.1 w.ha).1
 .exact(Af.1 w.hn).1
 .rcases w.mp with⟨rfl,_⟩|⟨id,l,rfl,hc,_⟩
  .simp at hi
  .simp at hi;subst hi;exact(Af.1 hc).1
 .rcases w.ks p hp with⟨e,_⟩|⟨id,cs,e,hc⟩
  .rw[e] at hk;cases hk
  .rw[e] at hk;cases hk;exact(Af.1 hc).1
def PW.Ep(w:PW h F a A)(hf:∀i,F i->h'[i]?=h[i]?):PW h' F a A:=by obtain⟨n,m,ps,w,e⟩:=w;exact⟨n,m,ps,w.Ep λi hi=>hf i ((e i).2 hi),e⟩
def PW.lt(w:PW h F a A){i:Nat}(hi:F i):i<h.length:=by obtain⟨n,m,ps,w,e⟩:=w;exact w.lt i ((e i).1 hi)
def PA.D_(w:PA h a n m ps A):A.n.length=ps.length:=by rw[w.e,Ao]
def PA.at(w:PA h a n m ps A)(hx:A.has x):x.toNat-1<ps.length/\((x.toNat-1:Nat):Int)=x-1:=by have:=w.D_;unfold Ar.has at hx;omega
def PA.pn(w:PA h a n m ps A)(hx:A.has x):ps[x.toNat-1]?=some (pN ps x)/\(pN ps x).x=A.nd x/\pN ps x∈ps:=by
 have h1:=(w.at hx).1;have h2:ps[x.toNat-1]?=some ps[x.toNat-1]:=An h1;have h3:pN ps x=ps[x.toNat-1]:=by unfold pN;rw[AG,h2];rfl
 refine⟨by rw[h3];exact h2,?_,by rw[h3];exact Ay _⟩;unfold Ar.nd;rw[if_pos hx,w.e,h3,AG,CE,h2];rfl
def Qt{As:List (List Aa)}{z i k:Nat}(hr:∀r∈As,r.length=z)(hk:k<z){r:List Aa}(hi:As[i]?=some r):As.flatten[i*z+k]?=r[k]?:=by
 have h1:(As.flatten.drop (i*z))[k]?=r[k]?:=by rw[I4 hr];obtain⟨hlt,e⟩:=Af.1 hi;rw[Ap hlt,e,CF,Ah (by rw[hr r (e▸Ay hlt)];exact hk)]
 rwa [Cu] at h1
def m9(l:List PN):∀r∈l.map PN.row,r.length=13:=ML (f:=PN.row) (λ_=>PN.Es) l
def nP(n:Nat)(x:Int):Nat:=(x.toNat-1)*13
def PA.BZ(w:PA h a n m ps A)(hx:A.has x){k:Nat}(hk:k<13):Bg h none (Pt n (nP n x+k))=(pN ps x).row[k]?:=by unfold nP;simp only[Bg,w.hn,FQ];exact Qt (m9 ps) hk (by rw[CE,(w.pn hx).1];rfl)
def Wh(w:PA h a n m ps A):Cj cx 52 [Pt a 0,I x] h (.bool (decide (A.has x))) h:=by
 have d:Bg h none (Pt a 0)=some (.C7 n 0 ps.length 13):=by simp only[Bg,w.ha];rfl
 have c:Az (.len false) [.C7 n 0 ps.length 13]=some (I (ps.length:Int)):=rfl;rw[Ac,yj,t52];simp only[abS,d,c];have hl:=w.D_;have b:A.has x↔1<=x/\x<=(ps.length:Int):=by unfold Ar.has;rw[hl]
 refine⟨λh1=>?_,λh1=>?_⟩;.congr 2;rw[DX,b];exact⟨λh=>⟨h1,h⟩,λh=>h.2⟩
 .rw[Ak (λh=>h1 (b.1 h).1)]
def PA.nodes(w:PA h a n m ps A):Bg h none (Pt a 0)=some (.C7 n 0 ps.length 13):=by simp only[Bg,w.ha];rfl
def PA.len(w:PA h a n m ps A):((ps.length:Nat):Int)=A.len:=by unfold Ar.len;rw[w.D_]
def aBu(w:PA h a n m ps A){l:List Int}{v:Aa}(b:Hh l v)(hb:l.length<=1000):Cj cx 93 [Pt a 0,v] h (I (if∀x∈l,A.has x then 0 else 3)) h:=by
 have b:Br 1 (l.map CY) v:=b;rw[Ac,zh,t93];simp only[abS,b.Fk];refine BO (λk:Nat=>[I 0,I (k:Int)]) (λk h1=>k<=l.length/\(∀x∈l.take k,A.has x)/\h1=h) (λk=>l.length-k) 0 rfl ⟨AU _,by simp,rfl⟩ ?_;rintro k h1 ⟨hk,ha,rfl⟩;rcases A6 k l.length with hlt|HK
 .have i1:(k:Int)<(l.length:Int):=by omega
  have c:Bg h1 none (.B4 (CY l[k]))=some (I l[k]):=rfl;simp only[Ce,eI,i1,b.Dl hlt,c,(Wh (x:=l[k]) w).call,CI (show k<9223372036854775807 by omega)];rw[Dr];refine⟨λh2=>?_,λh2=>?_⟩
  .have h2:¬A.has l[k]:=by simpa using h2
   rw[if_neg (λh3=>h2 (h3 _ (Ay hlt)))]
  .have h2:A.has l[k]:=by simpa using h2
   refine Bk.next (k+1) rfl ⟨hlt,?_,rfl⟩ (by omega);intro x hx;rw[AV hlt,Aj,Be] at hx;rcases hx with hx|rfl
   .exact ha x hx
   .exact h2
 .have i1:¬(k:Int)<(l.length:Int):=by omega
  rw[A7 HK] at ha;simp only[abS,i1,if_pos ha]
def Ss(w:PA h a n m ps A):Cj cx 93 [Pt a 0,.sl 1 [[I x]]] h (I (if A.has x then 0 else 3)) h:=by have:=aBu w (l:=[x]) (v:= .sl 1 [[I x]]) .mk (by simp);simpa using this
def L8{y:Int}(w:PA h a n m ps A):Cj cx 93 [Pt a 0,.sl 1 [[I x],[I y]]] h (I (if A.has x/\A.has y then 0 else 3)) h:=by have:=aBu w (l:=[x,y]) (v:= .sl 1 [[I x],[I y]]) .mk (by simp);simpa using this
def GA{x:Int}:Az (.Cl 1) [I x]=some (.sl 1 [[I x]]):=rfl
def Fy{x y:Int}:Az (.Cl 1) [I x,I y]=some (.sl 1 [[I x],[I y]]):=rfl
def Nz.of(b:Nz A)(hx:A.has x):1<=x/\x<=1000000000:=by have:=b.n;unfold Ar.has at hx;omega
def IN(w:PA h a n m ps A)(b:Nz A)(hx:A.has x):Cj cx 57 [Pt a 0,I x] h (Pt n (nP n x)) h:=by
 have hr:=b.of hx;have d:=(w.at hx).2;have c:Az (.F0 13) [.C7 n 0 ps.length 13,I (x-1)]=some (Pt n (nP n x)):=by rw[<-d];exact Gy (w.at hx).1
 rw[Ac,sM,t57];simp only[abS,w.nodes,D1 (show -9223372036854775808<=x-1 by omega) (show x-1<9223372036854775808 by omega),c]
def PA.f0(w:PA h a n m ps A)(hx:A.has x):Bg h none (Pt n (nP n x))=some (I (A.nd x).kind):=by have:=w.BZ hx (k:=0) (by decide);rw[<-(w.pn hx).2.1];exact this
def PA.f1(w:PA h a n m ps A)(hx:A.has x):Bg h none (Pt n (nP n x+1))=some (I (A.nd x).Gq):=by have:=w.BZ hx (k:=1) (by decide);rw[<-(w.pn hx).2.1];exact this
def PA.f2(w:PA h a n m ps A)(hx:A.has x):Bg h none (Pt n (nP n x+2))=some (pN ps x).kv:=by have:=w.BZ hx (k:=2) (by decide);exact this
def PA.f4(w:PA h a n m ps A)(hx:A.has x):Bg h none (Pt n (nP n x+4))=some (I (A.nd x).AX):=by have:=w.BZ hx (k:=4) (by decide);rw[<-(w.pn hx).2.1];exact this
def PA.f5(w:PA h a n m ps A)(hx:A.has x):Bg h none (Pt n (nP n x+5))=some (.str (A.nd x).name):=by have:=w.BZ hx (k:=5) (by decide);rw[<-(w.pn hx).2.1];exact this
def PA.f6(w:PA h a n m ps A)(hx:A.has x):Bg h none (Pt n (nP n x+6))=some (pN ps x).av:=by have:=w.BZ hx (k:=6) (by decide);exact this
def PA.Rt(w:PA h a n m ps A)(hx:A.has x):Kr h (pN ps x).kv (A.nd x).Bv:=by rw[<-(w.pn hx).2.1];exact w.ks _ (w.pn hx).2.2
def PA.att(w:PA h a n m ps A)(hx:A.has x):(pN ps x).av=Wg (A.nd x).Aq:=by rw[<-(w.pn hx).2.1];exact(pN ps x).ok
def PA.row(w:PA h a n m ps A)(hx:A.has x):Bg h (some 13) (Pt n (nP n x))=some (.agg (pN ps x).row):=by
 have h1:((ps.map PN.row).flatten.drop (nP n x)).take 13=(pN ps x).row/\nP n x+13<=(ps.map PN.row).flatten.length:=by unfold nP;have hlt:=(w.at hx).1;have hg:=(w.pn hx).1;rw[I4 (m9 ps),GI (m9 ps),Ao];refine⟨?_,by omega⟩;rw[<-LV,Ap hlt,Bd,CF];rw[An hlt,Bx] at hg;rw[hg];exact Jz PN.Es
 simp only[Bg,w.hn,Nw];rw[if_pos h1.2,h1.1]
def NQ:∀{l:List Int} {cs Kd:List Aa},Cv (Kd++(l.map (Aa.int .i64)++cs)) 1 Kd.length l.length=l.map CY
 |[],_,_=>rfl
 |x::l,cs,Kd=>by have:=NQ (l:=l) (cs:=cs) (Kd:=Kd++[I x]);simp only[AT,Ai,AR] at this;simp only[Bd,AE,Cv,Cr];rw[LY rfl];simp only[Cr,Bw] at this;rw[this];rfl
def Kr.As{kv:Aa}{l:List Int}(hk:Kr h kv l):GX h 1 kv=some (l.map CY):=by
 rcases hk with⟨rfl,rfl⟩|⟨id,cs,rfl,hc⟩
 .rfl
 .have:=NQ (l:=l) (cs:=cs) (Kd:=[]);simp only[Bw,AY] at this;simp only[GX,BM,hc,this];rw[if_pos (by simp)]
def Kr.len{kv:Aa}{l:List Int}(hk:Kr h kv l):Az (.len false) [kv]=some (I (l.length:Int)):=by rcases hk with⟨rfl,rfl⟩|⟨id,cs,rfl,hc⟩<;>rfl
def aBv{kv:Aa}{l:List Int}(hk:Kr h kv l)(hb:l.length<=1000000000):∃v,Cj cx 172 [kv] h v h/\Hh l v:=by
 have hr:=hk.As;rcases hk with⟨rfl,rfl⟩|⟨id,cs,rfl,hc⟩
 .exact⟨.slnil,by rw[Ac,gA,ř];simp only[Ce,show Az (.FM false .sl) [.slnil,.slnil]=some (.bool true) from rfl],.inr ⟨rfl,rfl⟩⟩
 .refine⟨.sl 1 (l.map CY),?_,.mk⟩;have b:Rz h 1 8 (.sl 1 []) (.C7 id 0 l.length 1)=some (.sl 1 (l.map CY)):=by
   unfold Rz;rw[hr,Ck];cases l with
   |nil=>rfl
   |cons x l=>
    have:(x::l).length*8<=AN:=by have:AN=140737488355328:=rfl;omega
    simp only[Bd,DJ,AE,Ao,AY] at this⊢;rw[if_pos ⟨trivial,by simpa using this⟩];rfl
  rw[Ac,gA,ř];simp only[Ce,show Az (.FM false .sl) [.C7 id 0 l.length 1,.slnil]=some (.bool false) from rfl,show Az (.Cl 1) []=some (.sl 1 []) from rfl,b]
def Lr(h:Ae)(v:Aa)(l:List A9):Prop:=(v= .slnil/\l=[])\/∃id,v= .C7 id 0 l.length 3/\h[id]?=some (.cells (l.map A9.row).flatten)/\id<h.length
def Lr.cells{v:Aa}{l:List A9}(b:Lr h v l):v.cells=[v]:=by rcases b with⟨rfl,_⟩|⟨id,rfl,_,_⟩<;>rfl
structure TH(h:Ae)(v:Aa)(l:List A9):Prop where
 len:Az (.len false) [v]=some (I (l.length:Int))
 at_:∀k (hk:k<l.length),∃p,Az (.F0 3) [v,I (k:Int)]=some p/\Bg h (some 3) p=some (.agg l[k].row)
def nA{v:Aa}{l:List A9}(b:Bj l v):TH h v l:=⟨Br.Fk b,λk hk=>⟨_,Br.Dl b hk,rfl⟩⟩
def aFh(l:List A9):∀r∈l.map A9.row,r.length=3:=ML (f:=A9.row) (λ_=>rfl) l
def Lr.in_{v:Aa}{l:List A9}(b:Lr h v l):TH h v l:=by
 rcases b with⟨rfl,rfl⟩|⟨id,rfl,hc,_⟩
 .exact⟨rfl,λk hk=>by simp at hk⟩
 .refine⟨rfl,λk hk=>⟨Pt id (k*3),Gy hk,?_⟩⟩;simp only[Bg,hc,Nw];rw[if_pos (by rw[GI (aFh l),Ao];omega),I4 (aFh l),<-LV,Ap hk,Bd,CF];rfl
def Up(N:Nat)(v:Aa):Prop:=∀id k,v= .C7 id 0 k 3->N<=id
def E_{v:Aa}{l:List A9}(c:v=Wg l)(hb:l.length<=1000000000):∃u t,Cj cx 100033 [v] h u (h++t)/\Lr (h++t) u l/\Up h.length u:=by
 cases l with
 |nil=>refine⟨.slnil,[],?_,.inl ⟨rfl,rfl⟩,λ_ _ e=>nomatch e⟩;rw[A8,Ac,t100033_eq,WK,c];simp only[Ce,Wg,show Az (.FM false .sl) [.slnil,.slnil]=some (.bool true) from rfl]
 |cons x l=>have e:=Qg (h:=h) (s:= .sl 3 []) (z:=3) (b:=40) (.inr rfl) (Br.mk (z:=3) (As:=(x::l).map A9.row)) (by simp) (by rw[Ao];have:AN=140737488355328:=rfl;omega);rw[Ao] at e;refine⟨.C7 h.length 0 (x::l).length 3,[.cells ((x::l).map A9.row).flatten],?_,.inr ⟨h.length,rfl,by simp,by simp⟩,λ_ _ e=>by injection e with e;omega⟩;rw[Ac,t100033_eq,WK,c];simp only[Ce,Wg,show Az (.FM false .sl) [.sl 3 ((x::l).map A9.row),.slnil]=some (.bool false) from rfl,show Az (.Cl 3) []=some (.sl 3 []) from rfl,e]
def aIr(h:Ae)(N:Nat)(x:HO)(r:List Aa):Prop:=∃K V,r=[I x.kind,I x.Gq,K,I x.CB,I x.AX,.str x.name,V,.str x.data,.str x.Ke,.str x.sys,.bool x.DH,I x.cont,I x.E3]/\Hh x.Bv K/\Lr h V x.Aq/\Up N V
def aIs(w:PA h a n m ps A)(g:Nz A)(hx:A.has x)(b:(A.nd x).Bv.length<=1000000000):∃r t,Cj cx 94 [Pt n (nP n x)] h (.agg r) (h++t)/\aIr (h++t) h.length (A.nd x) r:=by obtain⟨K,f,d⟩:=aBv (w.Rt hx) b;obtain⟨V,t,r2,c,i⟩:=E_ (h:=h) (w.att hx) (g.at_ x);refine⟨_,t,?_,K,V,rfl,d,c,i⟩;have hc:K.cells=[K]:=Br.cells d;have e:=w.row hx;have j:(pN ps x).row=_:=rfl;have ex:=(w.pn hx).2.1;rw[Ac,zi,t94];rw[PN.row,ex] at e;simp only[abS,e,w.f2 hx,w.f6 hx,f.call,Dn,r2.call,hc,c.cells]
end
section
variable{h h':Ae}{a n:Nat}{m:Option Nat}{ps:List PN}{A:Ar}{x:Int}{F:Nat->Prop}
def aFi(w:PA h a n m ps A)(c:Nz A)(b:(A.nd x).Bv.length<=1000000000):∃r t,Cj cx 55 [Pt a 0,I x] h (.tuple [.agg r,I (if A.has x then 0 else 3)]) (h++t)/\aIr (h++t) h.length (A.nd x) r:=by
 by_cases hx:A.has x;.obtain⟨r,t,d,hr⟩:=aIs w c hx b;have HM:=hr;obtain⟨K,V,rfl,_⟩:=hr;refine⟨_,t,?_,HM⟩;rw[Ac,sK,t55];simp only[abS,↓reduceIte,B6,GA,(Ss (x:=x) w).call,if_pos hx,ne_eq,CK,(IN w c hx).call,d.call]
 .refine⟨_,[],?_,.slnil,.slnil,by rw[Py hx],by rw[Py hx];exact .inr ⟨rfl,rfl⟩,by rw[Py hx];exact .inl ⟨rfl,rfl⟩,λ_ _ e=>nomatch e⟩;rw[Ac,sK,t55,A8];simp only[abS,↓reduceIte,B6,GA,(Ss (x:=x) w).call,if_neg hx,ne_eq,show¬(3:Int)=0 by decide,Jc]
def aBx(w:PA h a n m ps A)(d:Nz A)(b:(A.nd x).Bv.length<=1000000000):∃v,Cj cx 178 [Pt a 0,I x] h v h/\Hh (A.nd x).Bv v:=by
 by_cases hx:A.has x;.obtain⟨K,c,e⟩:=aBv (w.Rt hx) b;refine⟨K,?_,e⟩;rw[Ac,gC,ś];simp only[abS,(Wh (x:=x) w).call,Ag hx,(IN w d hx).call,w.f2 hx,c.call]
 .refine⟨.slnil,?_,by rw[Py hx];exact .inr ⟨rfl,rfl⟩⟩;rw[Ac,gC,ś];simp only[abS,(Wh (x:=x) w).call,Ak hx]
def aIt(w:PA h a n m ps A)(b:Nz A):Cj cx 231 [Pt a 0,I x] h (I (A.nd x).Gq) h:=by
 by_cases hx:A.has x;.rw[Ac,gK,ţ];simp only[abS,(Wh (x:=x) w).call,Ag hx,(IN w b hx).call,w.f1 hx]
 .rw[Ac,gK,ţ,Py hx];simp only[abS,(Wh (x:=x) w).call,Ak hx]
def nB(w:PA h a n m ps A)(b:Nz A):Cj cx 100 [Pt a 0,I x] h (I (if A.has x then(if(A.nd x).kind=1 then 0 else 9) else 3)) h:=by
 rw[Ac,xE,aDu];by_cases hx:A.has x
 .simp only[abS,GA,(Ss (x:=x) w).call,if_pos hx,ne_eq,CK,(IN w b hx).call,w.f0 hx];by_cases hk:(A.nd x).kind=1;.simp only[hk,abS,CK]
  .simp only[hk,abS]
 .simp only[abS,GA,(Ss (x:=x) w).call,if_neg hx,ne_eq,show¬(3:Int)=0 by decide]
def F_{l:List PN}:(l.map PN.row).flatten.length=l.length*13:=by rw[GI (m9 l),Ao]
def nC{p:PN}{n':Nat}(hk:HV p.kv=none):FH a n' m (ps++[p])=a::n'::(m.toList++ps.filterMap λp=>HV p.kv):=by unfold FH;rw[ED];simp[hk]
def G_{x:HO}(hl:A.i.length=A.n.length):(A.add x).inr=A.inr:=by funext k;exact Wz hl
def H_(w:PA h a n m ps A)(hb:ps.length+1<=1000000000)(p:PN)(hk:p.kv= .slnil)(ģ:p.x.Bv=[]):
  ∃h',Cj cx 56 [Pt a 0,.agg p.row] h (I (A.len+1)) h'/\PA h' a h.length m (ps++[p]) (A.add p.x)/\(∀i,i<h.length->i≠a->i≠n->h'[i]?=h[i]?)/\h'.length=h.length+1:=by
 have S5:a<h.length:=w.lt a (by simp[FH]);have Rs:n<h.length:=w.lt n (by simp[FH]);have g:a≠n:=by have:=w.nd;simp[FH] at this;exact this.1.1
 have c:=OW (h:=h) (id:=n) (As:=ps.map PN.row) (r2:=[p.row]) (v:= .sl 13 [p.row]) (b:=168) (m9 ps) (by decide) w.hn .mk (by simp) (by rw[Ao];have:AN=140737488355328:=rfl;simp;omega);rw[Ao] at c;simp only[AR] at c;have Us:(h.set n .DD++[EE.cells (ps.map PN.row++[p.row]).flatten])[a]?=some (.cells [.C7 n 0 ps.length 13,.map m]):=by rw[Ah (by simpa using S5),Al (Dd g)];exact w.ha
 have es:CR (h.set n .DD++[EE.cells (ps.map PN.row++[p.row]).flatten]) 1 (Pt a 0) (.C7 h.length 0 (ps.length+1) 13)=some ((h.set n .DD++[EE.cells (ps.map PN.row++[p.row]).flatten]).set a (.cells [.C7 h.length 0 (ps.length+1) 13,.map m])):=by simp only[CR,Us];rfl
 have el:Bg ((h.set n .DD++[EE.cells (ps.map PN.row++[p.row]).flatten]).set a (.cells [.C7 h.length 0 (ps.length+1) 13,.map m])) none (Pt a 0)=some (.C7 h.length 0 (ps.length+1) 13):=by simp only[Bg];rw[AB (by simp;omega)];rfl
 have k:Az (.len false) [.C7 h.length 0 (ps.length+1) 13]=some (I ((ps.length+1:Nat):Int)):=rfl;have em:Az (.Cl 13) [.agg p.row]=some (.sl 13 [p.row]):=X9 (a:= .agg p.row) rfl (by decide);refine⟨(h.set n .DD++[EE.cells (ps.map PN.row++[p.row]).flatten]).set a (.cells [.C7 h.length 0 (ps.length+1) 13,.map m]),?_,?_,?_,?_⟩;rotate_left
 .refine⟨by simp[Ar.add,w.e],by simp[Ar.add,w.il],?_,?_,?_,?_,?_⟩;.rw[AB (by simp;omega)];simp
  .rw[Al (by omega),Bi (by simp)];simp
  .intro q hq;rcases Aj.1 hq with hq|hq
   .refine(w.ks q hq).Ep λid Iy=>?_;have h1:id∈FH a n m ps:=LK hq Iy;have h2:=w.lt id h1;have h3:=w.nd;have j:id∈m.toList++ps.filterMap λp=>HV p.kv:=Aj.2 (.inr (Cf.2 ⟨q,hq,Iy⟩));unfold FH at h3;simp only[BW,Aw,not_or] at h3;have f:a≠id:=λe=>h3.1.2 (e▸j);have d:n≠id:=λe=>h3.2.1 (e▸j);rw[Al f,Ah (by simpa using h2),Al d]
   .simp at hq;subst hq;exact .inl ⟨hk,ģ⟩
  .rw[nC (by rw[hk];rfl)];have h3:=w.nd;unfold FH at h3;simp only[BW,Aw,not_or] at h3⊢;refine⟨⟨by omega,h3.1.2⟩,λhm=>?_,h3.2.2⟩;have:=w.lt h.length (by unfold FH;simp only[Aw];exact .inr (.inr hm));omega
  .rw[G_ w.il];refine w.mp.Ep λid Iy=>?_;have h1:id∈m.toList++ps.filterMap λp=>HV p.kv:=by simp[Iy]
   have h2:=w.lt id (by unfold FH;simp only[Aw];exact .inr (.inr h1));have h3:=w.nd;unfold FH at h3;simp only[BW,Aw,not_or] at h3;have f:a≠id:=λe=>h3.1.2 (e▸h1);have d:n≠id:=λe=>h3.2.1 (e▸h1);rw[Al f,Ah (by simpa using h2),Al d]
 .intro i hi h1 h2;rw[Al (Dd h1),Ah (by simpa using hi),Al (Dd h2)]
 .simp
 .have hl:A.len+1=((ps.length+1:Nat):Int):=by rw[<-w.len];rfl
  rw[PN.row] at em c es el;rw[Ac,sL,t56,hl,PN.row];simp only[abS,Nat.reduceLeDiff,↓reduceIte,B6,w.nodes,em,c,es,el,k]
def UP{As:List (List Aa)}{z i k:Nat}(hr:∀r∈As,r.length=z)(hi:i<As.length)(hk:k<z){v:Aa}:As.flatten.take (i*z+k)++[v]++As.flatten.drop (i*z+k+1)=(As.set i (As[i].set k v)).flatten:=by
 have hl:=hr _ (Ay hi);rw[<-lZ hr hi];have b:As.flatten.drop (i*z)=As[i]++As.flatten.drop (i*z+z):=by
  have e:i*z+z=(i+1)*z:=by rw[BD,Ez]
  rw[e,I4 hr,I4 hr,Ap hi,CF]
 have d:As.flatten.take (i*z+k)=As.flatten.take (i*z)++As[i].take k:=by rw[aAJ,b,A0 (by omega)]
 have c:As.flatten.drop (i*z+k+1)=As[i].drop (k+1)++As.flatten.drop (i*z+z):=by rw[SC,<-Ed,b,Oz (by omega)]
 rw[d,c,B0,if_pos (by omega)];simp
def PA.sto(w:PA h a n m ps A)(hx:A.has x){k:Nat}(hk:k<13){v:Aa}(b:v.cells=[v]){p:PN}(hp:p.row=(pN ps x).row.set k v){h1:Ae}(hn:h1[n]?=h[n]?):
  CR h1 1 (Pt n (nP n x+k)) v=some (h1.set n (.cells ((ps.set (x.toNat-1) p).map PN.row).flatten)):=by
 have hlt:=(w.at hx).1;have hg:=(w.pn hx).1;rw[An hlt,Bx] at hg;have e:=UP (As:=ps.map PN.row) (i:=x.toNat-1) (k:=k) (v:=v) (m9 ps) (by simpa using hlt) hk;rw[Ek,hg,<-hp,<-Hp] at e;unfold nP;simp only[CR,hn,w.hn,b,AR,M9];rw[if_pos (by rw[GI (m9 ps),Ao];omega),e]
def YC(w:PA h a n m ps A)(hx:A.has x)(p:PN):ps=ps.take (x.toNat-1)++pN ps x::ps.drop (x.toNat-1+1)/\ps.set (x.toNat-1) p=ps.take (x.toNat-1)++p::ps.drop (x.toNat-1+1):=by have hlt:=(w.at hx).1;have hg:=(w.pn hx).1;rw[An hlt,Bx] at hg;refine⟨?_,by rw[B0,if_pos hlt]⟩;conv=>lhs;rw[<-Bl (x.toNat-1) ps,Ap hlt,hg]
def I_{y:HO}:(A.set x y).inr=A.inr:=by funext k;exact Tp
def PA.p_(w:PA h a n m ps A)(hx:A.has x){p:PN}{h1:Ae}(ho:∀i∈FH a n m ps,HV (pN ps x).kv≠some i->h1[i]?=h[i]?)(hk:Kr h1 p.kv p.x.Bv)
  (hi:HV p.kv=HV (pN ps x).kv\/∀j,HV p.kv=some j->h.length<=j):PA (h1.set n (.cells ((ps.set (x.toNat-1) p).map PN.row).flatten)) a n m (ps.set (x.toNat-1) p) (A.set x p.x):=by
 have hlt:=(w.at hx).1;have Wi:=(w.pn hx).2.2;obtain⟨C,E⟩:=YC w hx p;have nd:=w.nd;have l:∀j,HV (pN ps x).kv=some j->j∈m.toList++ps.filterMap λp=>HV p.kv:=λj hj=>Aj.2 (.inr (Cf.2 ⟨_,Wi,hj⟩));have gV:=nd;unfold FH at gV;simp only[BW,Aw,not_or] at gV;have v:a≠n:=gV.1.1;have o:HV (pN ps x).kv≠some a:=λe=>gV.1.2 (l a e);have g:HV (pN ps x).kv≠some n:=λe=>gV.2.1 (l n e);have Rs:n<h.length:=w.lt n (by simp[FH]);have z:h1[n]?=h[n]?:=ho n (by simp[FH]) g;have B:n<h1.length:=by have:=w.hn;rw[<-z] at this;exact(Af.1 this).1
 have t:∀j,HV p.kv=some j->j≠n/\j≠a:=by
  intro j hj;rcases hi with hi|hi
  .rw[hi] at hj;exact⟨λe=>g (e▸hj),λe=>o (e▸hj)⟩
  .have:=hi j hj;have:=w.lt a (by simp[FH]);omega
 refine⟨?_,?_,?_,?_,?_,?_,?_⟩;.simp only[Ar.set,if_pos hx];rw[w.e,Hp]
 .rw[Jr];exact w.il
 .rw[Al (Dd v),ho a (by simp[FH]) o,BY];exact w.ha
 .rw[AB B]
 .intro q hq;by_cases d:q=p;.rw[d];exact hk.Ep λid Iy=>by rw[Al (Dd (t id Iy).1)]
  .rw[E] at hq;have f:q∈ps.take (x.toNat-1)++ps.drop (x.toNat-1+1):=by
    rcases Aj.1 hq with b|b
    .exact Aj.2 (.inl b)
    .exact Aj.2 (.inr ((Aw.1 b).resolve_left d))
   have c:q∈ps:=by
    rcases Aj.1 f with b|b
    .exact AZ b
    .exact Bc b
   refine(w.ks q c).Ep λj hj=>?_;have r:j∈FH a n m ps:=LK c hj;have y:j≠n:=λe=>gV.2.1 (e▸Aj.2 (.inr (Cf.2 ⟨q,c,hj⟩)));have ZO:HV (pN ps x).kv≠some j:=by
    intro u;have s:=(BU.1 gV.2.2).2.1;rw[C,ED,IA,u] at s;simp only[BU,BW,Aw,Cf] at s;rcases Aj.1 f with b|b
    .exact s.2.2 j ⟨q,b,hj⟩ j (.inl rfl) rfl
    .exact s.2.1.1 ⟨q,b,hj⟩
   rw[Al (Dd y),ho j r ZO]
 .have fr:∀j,HV p.kv=some j->HV (pN ps x).kv=some j\/j∉FH a n m ps:=by
   intro j hj;rcases hi with hi|hi
   .exact .inl (hi▸hj)
   .exact .inr λhm=>by have:=hi j hj;have:=w.lt j hm;omega
  have h1:=nd;unfold FH at h1 fr⊢;rw[C,ED,IA] at h1;rw[C,ED,IA] at fr;rw[E,ED,IA];generalize List.filterMap (λp=>HV p.kv) (ps.take (x.toNat-1))=T at h1 fr⊢;generalize List.filterMap (λp=>HV p.kv) (ps.drop (x.toNat-1+1))=D at h1 fr⊢;cases hp:HV p.kv with
  |none=>
   cases ho:HV (pN ps x).kv with
   |none=>rw[ho] at h1;exact h1
   |some k=>rw[ho] at h1;refine h1.sublist ?_;simp
  |some j=>
   have:=fr j hp;cases ho:HV (pN ps x).kv with
   |none=>rw[ho] at h1 this;simp only[BW,BU,Aw,Aj] at h1 this⊢;grind
   |some k=>rw[ho] at h1 this;simp only[BW,BU,Aw,Aj] at h1 this⊢;grind
 .rw[I_];refine w.mp.Ep λid Iy=>?_;have r:id∈m.toList++ps.filterMap λp=>HV p.kv:=by simp[Iy]
  have y:n≠id:=λe=>gV.2.1 (e▸r);have ZO:HV (pN ps x).kv≠some id:=by intro Zk;exact(BU.1 gV.2.2).2.2 id (by simp[Iy]) id (Cf.2 ⟨_,Wi,Zk⟩) rfl
  rw[Al y,ho id (by unfold FH;simp only[Aw];exact .inr (.inr r)) ZO]
end
section
variable{h h':Ae}{a n:Nat}{m:Option Nat}{ps:List PN}{A:Ar}{x:Int}{F:Nat->Prop}
def PA.pw(w:PA h a n m ps A):PW h (λi=>i∈FH a n m ps) a A:=⟨n,m,ps,w,λ_=>rk⟩
def Nz.add{y:HO}(b:Nz A)(h1:A.len+1<=1000000000)(h2:y.Aq.length<=1000000000)(h3:y.data.length<=1000000000):Nz (A.add y):=by
 refine⟨?_,λx=>?_,λx=>?_⟩;.unfold Ar.len at h1;simp[Ar.add];omega
 .rw[L6];split;.exact h2
  .exact b.at_ x
 .rw[L6];split;.exact h3
  .exact b.data x
def Nz.set{y:HO}(b:Nz A)(h2:y.Aq.length<=1000000000)(h3:y.data.length<=1000000000):Nz (A.set x y):=by
 refine⟨by rw[Jr];exact b.n,λx=>?_,λx=>?_⟩<;>rw[Ko]<;>split;.exact h2
 .exact b.at_ x
 .exact h3
 .exact b.data x
def ű{x y:HO}:(A.add x).set (A.len+1) y=A.add y:=by
 unfold Ar.set;rw[if_pos (Et.2 (.inr rfl))];unfold Ar.add Ar.len;have e:((A.n.length:Int)+1).toNat-1=A.n.length:=by omega
 simp only[e];rw[BI _ _ (Ab _),DM];rfl
def cz{p:PN}(w:PA h a n m ps A)(hx:A.has x)(hk:HV p.kv=HV (pN ps x).kv):FH a n m (ps.set (x.toNat-1) p)=FH a n m ps:=by obtain⟨c,b⟩:=YC w hx p;unfold FH;rw[b,ED,IA,hk];conv=>rhs;rw[c,ED,IA]
def PA.wr(w:PA h a n m ps A)(hx:A.has x){k:Nat}(hk:k<13){v:Aa}(b:v.cells=[v]){p:PN}(hp:p.row=(pN ps x).row.set k v)(h1:p.kv=(pN ps x).kv)(h2:p.x.Bv=(A.nd x).Bv):
  ∃h',CR h 1 (Pt n (nP n x+k)) v=some h'/\PA h' a n m (ps.set (x.toNat-1) p) (A.set x p.x)/\FH a n m (ps.set (x.toNat-1) p)=FH a n m ps/\(∀i,i≠n->h'[i]?=h[i]?)/\h'.length=h.length:=by
 refine⟨_,w.sto hx hk b hp rfl,w.p_ hx (λi _ _=>rfl) (by rw[h1,h2];exact w.Rt hx) (.inl (by rw[h1])),cz w hx (by rw[h1]),λi hi=>by rw[Al (Dd hi)],BY⟩
def PA.c_(w:PA h a n m ps A){h1:Ae}{O9:List PN}{A':Ar}(w':PA h1 a n m O9 A')(hi:FH a n m O9=FH a n m ps)(ho:∀i,i≠n->h1[i]?=h[i]?)(hl:h1.length=h.length):Ey h (λi=>i∈FH a n m ps) h1 (λi=>i∈FH a n m O9):=
 ⟨by omega,λi _ hn=>ho i (λe=>hn (by rw[e];simp[FH])),λi jS=> .inl (by rwa [hi] at jS)⟩
def KL(q:Bool)(d:Int):PN:=⟨{kind:=1,DH:=q,CB:=d},.slnil,.slnil,rfl⟩
def aNE(w:PA h a n m ps A)(r:Nz A)(hb:A.len+1<=1000000000)(q:Bool):
  ∃h',Cj cx 40 [Pt a 0,.bool q] h (I (A.len+1)) h'/\PA h' a h.length m (ps++[KL q (A.len+1)]) (A.add {kind:=1,DH:=q,CB:=A.len+1})/\(∀i,i<h.length->i≠a->i≠n->h'[i]?=h[i]?)/\h'.length=h.length+1:=by
 have dE:=w.len;obtain⟨h1,j,f,o,l1⟩:=H_ w (by omega) (KL q 0) rfl rfl;have e:=r.add (y:=(KL q 0).x) hb (by simp[KL]) (by simp[KL]);have hx:(A.add (KL q 0).x).has (A.len+1):=Et.2 (.inr rfl);have hlen:(A.len+1).toNat-1=ps.length:=by omega
 have b:pN (ps++[KL q 0]) (A.len+1)=KL q 0:=by unfold pN;rw[hlen];simp
 obtain⟨h2,g,c,_,l,t⟩:=f.wr hx (k:=3) (by decide) (v:= I (A.len+1)) rfl (p:=KL q (A.len+1)) (by rw[b];rfl) (by rw[b];rfl) (by rw[L6,if_pos rfl];rfl);refine⟨h2,?_,?_,λi hi h3 s=>?_,by omega⟩;.have r2:=IN f e hx;rw[Ac,sJ,t40];have d:Cj cx 56 [Pt a 0,.agg [I 1,I 0,.slnil,I 0,I 0,.str [],.slnil,.str [],.str [],.str [],.bool q,I 0,I 0]] h (I (A.len+1)) h1:=j;simp only[abS,Nat.reduceLeDiff,↓reduceIte,B6,d.call,r2.call,g]
 .rw[ű,hlen] at c;rw[BI _ _ (Ab _),DM] at c;exact c
 .rw[l i (by omega)];exact o i hi h3 s
def MX(k d:Int)(s:Ad):PN:=⟨{kind:=k,CB:=d,data:=s},.slnil,.slnil,rfl⟩
def PA.Rf(w:PA h a n m ps A){p:PN}{h1:Ae}(hk:HV p.kv=none)(b:∀i,i<h.length->i≠a->i≠n->h1[i]?=h[i]?)(l1:h1.length=h.length+1):Ey h (λi=>i∈FH a n m ps) h1 (λi=>i∈FH a h.length m (ps++[p])):=by
 refine⟨by omega,λi hi hn=>b i hi (λe=>hn (by simp[FH,e])) (λe=>hn (by simp[FH,e])),λi hi=>?_⟩;rw[nC hk] at hi;simp only[Aw] at hi;rcases hi with rfl|rfl|hi
 .exact .inl (by simp[FH])
 .exact .inr (Ab _)
 .exact .inl (by unfold FH;simp only[Aw];exact .inr (.inr hi))
def aBA{k:Int}{s:Ad}(w:PA h a n m ps A)(e:Nz A)(hb:A.len+1<=1000000000)(hd:A.has x/\(A.nd x).kind=1):
  ∃h',Cj cx 101 [Pt a 0,I x,.agg (MX k 0 s).row] h (.tuple [I (A.len+1),I 0]) h'/\PA h' a h.length m (ps++[MX k x s]) (A.add (MX k x s).x)/\(∀i,i<h.length->i≠a->i≠n->h'[i]?=h[i]?)/\h'.length=h.length+1:=by
 have dE:=w.len;obtain⟨h1,b,c,d,l1⟩:=H_ w (by omega) (MX k x s) rfl rfl;refine⟨h1,?_,c,d,l1⟩;rw[PN.row] at b;rw[Ac,fK,Ō,PN.row];simp only[abS,(nB (x:=x) w e).call,if_pos hd.1,if_pos hd.2,ne_eq,CK,MX] at b⊢;simp only[Ce,b.call]
def aNF{s:Ad}(w:PA h a n m ps A)(f:Nz A)(hb:A.len+1<=1000000000)(hd:A.has x/\(A.nd x).kind=1):
  ∃h',Cj cx 113 [Pt a 0,I x,.str s] h (.tuple [I (A.len+1),I 0]) h'/\PA h' a h.length m (ps++[MX 5 x s]) (A.add (MX 5 x s).x)/\(∀i,i<h.length->i≠a->i≠n->h'[i]?=h[i]?)/\h'.length=h.length+1:=by
 obtain⟨h1,d,c,e,l1⟩:=aBA (k:=5) (s:=s) w f hb hd;refine⟨h1,?_,c,e,l1⟩;have b:Cj cx 101 [Pt a 0,I x,.agg [I 5,I 0,.slnil,I 0,I 0,.str [],.slnil,.str s,.str [],.str [],.bool false,I 0,I 0]] h (.tuple [I (A.len+1),I 0]) h1:=d;rw[Ac,xM,aDC];simp only[abS,Nat.reduceLeDiff,↓reduceIte,B6,b.call]
def aIu{s:Ad}(w:PA h a n m ps A)(f:Nz A)(hb:A.len+1<=1000000000)(hd:A.has x/\(A.nd x).kind=1):
  ∃h',Cj cx 98 [Pt a 0,I x,.str s] h (.tuple [I (A.len+1),I 0]) h'/\PA h' a h.length m (ps++[MX 6 x s]) (A.add (MX 6 x s).x)/\(∀i,i<h.length->i≠a->i≠n->h'[i]?=h[i]?)/\h'.length=h.length+1:=by
 obtain⟨h1,d,c,e,l1⟩:=aBA (k:=6) (s:=s) w f hb hd;refine⟨h1,?_,c,e,l1⟩;have b:Cj cx 101 [Pt a 0,I x,.agg [I 6,I 0,.slnil,I 0,I 0,.str [],.slnil,.str s,.str [],.str [],.bool false,I 0,I 0]] h (.tuple [I (A.len+1),I 0]) h1:=d;rw[Ac,zk,t98];simp only[abS,Nat.reduceLeDiff,↓reduceIte,B6,b.call]
def aNG{s:Ad}(w:PA h a n m ps A)(e:Nz A)(hx:A.has x)(hk:(A.nd x).kind=5):
  ∃h' O9,Cj cx 112 [Pt a 0,I x,.str s] h (I 0) h'/\PA h' a n m O9 (A.Tu x s)/\Ey h (λi=>i∈FH a n m ps) h' (λi=>i∈FH a n m O9):=by
 have hp:=(w.pn hx).2.1;obtain⟨h2,c,b,g,d,f⟩:=w.wr hx (k:=7) (by decide) (v:= .str s) rfl (p:=⟨{A.nd x with data:=s},(pN ps x).kv,(pN ps x).av,by rw[<-hp];exact(pN ps x).ok⟩) (by simp only[PN.row];rw[hp];rfl) rfl rfl;refine⟨h2,_,?_,b,w.c_ b g d f⟩;rw[Ac,xL,aDB];simp only[abS,GA,(Ss (x:=x) w).call,if_pos hx,ne_eq,CK,(IN w e hx).call,w.f0 hx,hk,c]
def aBB{y:Int}:Cj cx 266 [.sl 1 [[I y]]] h (.bool (decide (BS.LH y))) h:=by
 have c:Br 1 [[I y]] (.sl 1 [[I y]]):= .mk;have d:([[I y]]:List (List Aa))[0]=[I y]:=rfl;rw[Ac,bj,aEX];simp only[Ce,c.len];refine BO (λk:Nat=>[.bool false,I (k:Int)]) (λk h1=>k<=1/\(k=1->BS.LH y)/\h1=h) (λk=>1 -k) 0 rfl ⟨AU _,λe=>by omega,rfl⟩ ?_;rintro k h1 ⟨hk,ha,rfl⟩;rcases A6 k 1 with hlt|HK
 .obtain rfl:k=0:=by omega
  simp only[Ce,eI,show((0:Nat):Int)<((1:Nat):Int) by decide,c.F0 (show 0<[[I y]].length from Fu),d,CI (show 0<9223372036854775807 by omega)];refine⟨λh2=>?_,λh2=>⟨λh3=>?_,λh3=>?_⟩⟩;.rw[Ak (λb=>by unfold BS.LH at b;omega)]
  .rw[Ak (λb=>by unfold BS.LH at b;omega)]
  .exact Bk.next 1 rfl ⟨Ab _,λ_=>⟨by omega,by omega⟩,rfl⟩ (by omega)
 .obtain rfl:k=1:=by omega
  simp only[abS,show¬((1:Nat):Int)<((1:Nat):Int) by decide,Ag (ha rfl)]
def YD{l out:List A9}{y:A9}:Gu out (l++[y])=if(Gu out l).any (λz=>decide (Fq y=Fq z)) then Gu out l else Gu out l++[y]:=by
 induction l generalizing out with
 |nil=>simp only[Bw,Gu];split<;>simp_all
 |cons z l ih=>
  rw[Cr,Gu,Gu];split;.exact ih
  .exact ih
def aIv(y c:A9)(h:Ae):Cj cx 286 [.agg c.row,.B4 y.row] h (.bool (decide (Fq y=Fq c))) h:=by
 rw[Ac,br,aE4,A9.row,A9.row];simp only[Ce];refine⟨λh1=>?_,λh1=>?_⟩;.congr 2;rw[DX];simp[Fq,h1]
 .rw[Ak (λe=>h1 (by simp[Fq] at e;exact e.1))]
def aBC{F v:Aa}{l:List A9}{q:A9->Bool}(b:TH h v l)(hb:l.length<=1000000000)(hF:m8 F h q):Cj cx 244 [v,F] h (.bool (l.any q)) h:=by
 obtain⟨f,caps,rfl,hf,hr⟩:=hF;have key:Cj cx 269 [v,.func (.func f) [] caps] h (I (Cg q 0 l)) h:=by
  rw[Ac,WI,zq];simp only[Ce,b.len];refine BO (λn:Nat=>[I 0,I (n:Int)]) (λn h1=>n<=l.length/\Cg q 0 l=Cg q n (l.drop n)/\h1=h) (λn=>l.length-n) 0 rfl ⟨AU _,rfl,rfl⟩ ?_;rintro n h1 ⟨Ă,ha,rfl⟩;rcases A6 n l.length with hlt|HK
  .have i1:(n:Int)<(l.length:Int):=by omega
   obtain⟨p,d,c⟩:=b.at_ n hlt;rw[Ap hlt,Cg] at ha;simp only[Ce,↓reduceIte,CD,eI,hf,i1,d,c,(hr l[n]).call,CI (show n<9223372036854775807 by omega)];rw[Dr];refine⟨λhe=>?_,λhe=>?_⟩;.rw[ha,if_pos he]
   .rw[if_neg (by simp[he])] at ha;exact Bk.next (n+1) rfl ⟨hlt,ha,rfl⟩ (by omega)
  .have i1:¬(n:Int)<(l.length:Int):=by omega
   rw[AH HK,Cg] at ha;simp only[abS,↓reduceIte,CD,i1,ha]
 rw[Ac,gN,Ŧ];simp only[Ce,key.call];congr 2
 rcases GJ (p:=q) (l:=l) (k:=0) with⟨h1,h2⟩|⟨n,y,h1,h2,h3⟩
 .rw[h1,rj];have:=Mb.1 h2;simpa using this
 .rw[h1,rj,Ag (by omega),NW];exact⟨y,Rw h3,VP h3⟩
def aBD{l:List A9}{v:Aa}(g:TH h v l)(hb:l.length<=1000000000)(hs:∀y∈l,BS.LH y.AX):Cj cx 265 [v] h (.tuple [Wg (Di l),.bool true]) h:=by
 rw[Ac,bg,aEW];simp only[Ce,g.len];refine BO (λk:Nat=>[.slnil,.bool false,Wg (Di (l.take k)),I (k:Int)]) (λk h1=>k<=l.length/\h1=h) (λk=>l.length-k) 0 rfl ⟨AU _,rfl⟩ ?_;rintro k h1 ⟨hk,rfl⟩;rcases A6 k l.length with hlt|HK
 .have i1:(k:Int)<(l.length:Int):=by omega
  obtain⟨p,o,e⟩:=g.at_ k hlt;have inc:=CI (show k<9223372036854775807 by omega);have hsp:=hs _ (Ay hlt);have j:=aBB (h:=h1) (y:=l[k].AX);have hF:m8 (.func (.func 286) [] [.B4 l[k].row]) h1 (λc=>decide (Fq l[k]=Fq c)):=⟨_,_,rfl,by decide,λc=>aIv l[k] c h1⟩;have qe:(Di (l.take k)).length<=1000000000:=by have:=Ts (l:=l.take k);rw[Av] at this;omega
  have r2:=aBC (nA WM) qe hF;have i:Di (l.take (k+1))=if(Di (l.take k)).any (λz=>decide (Fq l[k]=Fq z)) then Di (l.take k) else Di (l.take k)++[l[k]]:=by rw[AV hlt];exact YD
  have d:=Br.mG (f:=A9.row) (a:=l[k]) (b:=40) (WM (l:=Di (l.take k))) (by have:=Ts (l:=l.take k);rw[Av] at this;have:AN=140737488355328:=rfl;omega);have em:Az (.Cl 3) [.agg l[k].row]=some (.sl 3 [l[k].row]):=rfl;rw[<-mv] at d;rw[A9.row] at r2 em d e;simp only[abS,Nat.reduceLeDiff,↓reduceIte,i1,o,e,GA,j.call,Ag hsp,r2.call,em,d,inc];rw[Dr];refine⟨λh2=>?_,λh2=>?_⟩;.exact Bk.next (k+1) (by rw[i,if_neg (by simpa using h2)]) ⟨hlt,rfl⟩ (by omega)
  .exact Bk.next (k+1) (by rw[i,if_pos (by simpa using h2)]) ⟨hlt,rfl⟩ (by omega)
 .have i1:¬(k:Int)<(l.length:Int):=by omega
  simp only[abS,↓reduceIte,i1,A7 HK]
def aIw{l:List A9}{v:Aa}(w:PA h a n m ps A)(f:Nz A)(hx:A.has x)(hk:(A.nd x).kind=4)(o:TH h v l)(hb:l.length<=1000000000)(hs:∀y∈l,BS.LH y.AX):
  ∃h' O9,Cj cx 246 [Pt a 0,I x,v] h (I 0) h'/\PA h' a n m O9 (A.MS x l)/\Ey h (λi=>i∈FH a n m ps) h' (λi=>i∈FH a n m O9):=by
 have hp:=(w.pn hx).2.1;have d:=aBD o hb hs;obtain⟨h2,c,b,j,e,g⟩:=w.wr hx (k:=6) (by decide) (v:=Wg (Di l)) (Br.cells WM) (p:=⟨{A.nd x with Aq:=Di l},(pN ps x).kv,Wg (Di l),rfl⟩) (by simp only[PN.row];rw[hp];rfl) rfl rfl;refine⟨h2,_,?_,b,w.c_ b j e g⟩;rw[Ac,aq,aEK];simp only[abS,GA,(Ss (x:=x) w).call,if_pos hx,ne_eq,CK,(IN w f hx).call,w.f0 hx,hk,d.call,c]
def aIx(w:PA h a n m ps A)(hx:A.has x):Cj cx 267 [Pt n (nP n x)] h (.bool (decide (eX (A.nd x)))) h:=by rw[Ac,bk,aEY];simp only[abS,w.f0 hx,w.f4 hx,w.f5 hx,eX];refine⟨λh1=>⟨λh2=>?_,λh2=>?_⟩,λh1=>?_⟩<;>simp[*]
end
section
variable{h h':Ae}{a n:Nat}{m:Option Nat}{ps:List PN}{A:Ar}{x:Int}{F:Nat->Prop}
def Ru(x:Int×Int):Aa×Aa:=(I x.1,I x.2)
def gW{k:Int}:∀{l:List (Int×Int)} {i:Nat},(l.find? (λx=>decide (k=x.1))=none->ID k (l.map Ru) i=some none)/\∀y,l.find? (λx=>decide (k=x.1))=some y->∃j,ID k (l.map Ru) i=some (some (j,I y.2))
 |[],i=>⟨λ_=>rfl,λy h=>by cases h⟩
 |z::l,i=>by
  have ih:=gW (k:=k) (l:=l) (i:=i+1);simp only[Bd,Ru,ID,H5];by_cases e:k=z.1;.simp only[e,Jc,BM];exact⟨λh=>(by cases h),λy h=>⟨i,by cases h;rfl⟩⟩
  .simp only[e,Ho,DU];exact ih
def YB.get{f:Int->Int}(w:YB h m f)(k:Int):D5 (.ij (I 0) true) h [.map m,I k]=some (h,if f k=0 then .tuple [I 0,.bool false] else .tuple [I (f k),.bool true]):=by
 rcases w with⟨rfl,h0⟩|⟨id,l,rfl,hc,hl⟩
 .rw[if_pos (h0 k)];rfl
 .have hl:=hl k;have hm:=gW (k:=k) (l:=l) (i:=0);simp only[D5,j0,hc];by_cases h0:f k=0
  .rw[if_pos h0] at hl⊢;have e:l.find? (λx=>decide (k=x.1))=none:=by
    cases hf:l.find? (λx=>decide (k=x.1)) with
    |none=>rfl
    |some y=>rw[hf] at hl;cases hl
   have:=hm.1 e;unfold Ru at this;rw[this];rfl
  .rw[if_neg h0] at hl⊢;cases hf:l.find? (λx=>decide (k=x.1)) with
   |none=>rw[hf] at hl;cases hl
   |some y=>rw[hf] at hl;simp only[BF,Bx] at hl;obtain⟨j,e⟩:=hm.2 y hf;unfold Ru at e;rw[e,<-hl];rfl
def da{id:Nat}{l:List (Int×Int)}{k v:Int}(hc:h[id]?=some (.map (l.map Ru)))(hn:l.find? (λx=>decide (k=x.1))=none):
  ∃h1,D5 (.OB (I 0)) h [.map (some id),I k]=some (h1,.tuple [I 0,I l.length])/\∃h2,D5 .KO h1 [.map (some id),I l.length,I v]=some (h2,.bool true)/\h2=h.set id (.map ((l++[(k,v)]).map Ru)):=by
 have Iy:=(Af.1 hc).1;have hm:=(gW (k:=k) (l:=l) (i:=0)).1 hn;refine⟨h.set id (.map (l.map Ru++[(I k,I 0)])),?_,_,?_,rfl⟩;.simp only[D5,Wm,hc,hm,BF,Ao]
 .have c:(h.set id (.map (l.map Ru++[(I k,I 0)])))[id]?=some (.map (l.map Ru++[(I k,I 0)])):=AB Iy;have b:(l.map Ru++[(I k,I 0)])[l.length]?=some (I k,I 0):=by rw[Bi (by simp)];simp
  simp only[D5,SQ,c,Bz,b];rw[if_pos (by omega),Nc,BI _ _ (by simp)];simp[Ru]
def PA.aIy(w:PA h a n m ps A):∀i∈m.toList++ps.filterMap (λp=>HV p.kv),i<h.length/\i≠a/\i≠n:=by
 intro i hi;have h1:i∈FH a n m ps:=by unfold FH;simp only[Aw];exact .inr (.inr hi)
 have h3:=w.nd;unfold FH at h3;simp only[BW,Aw,not_or] at h3;exact⟨w.lt i h1,λe=>h3.1.2 (e▸hi),λe=>h3.2.1 (e▸hi)⟩
def PA.aIz(w:PA h a n m ps A){h1:Ae}{m':Option Nat}{A':Ar}(g:A'.n=A.n)(f:A'.i.length=A'.n.length)(ha:h1[a]?=some (.cells [.C7 n 0 ps.length 13,.map m']))(ho:∀i,i<h.length->i≠a->m≠some i->h1[i]?=h[i]?)(hm:m'=m\/∃j,m'=some j/\h.length<=j)(b:YB h1 m' A'.inr):PA h1 a n m' ps A':=by
 have nd:=w.nd;have gV:=nd;unfold FH at gV;simp only[BW,Aw,not_or] at gV;have hnm:m≠some n:=λe=>gV.2.1 (by simp[e]);refine⟨by rw[g];exact w.e,f,ha,?_,?_,?_,b⟩;.rw[ho n (w.lt n (by simp[FH])) (Dd gV.1.1) hnm];exact w.hn
 .intro p hp;refine(w.ks p hp).Ep λid Iy=>?_;have h1:id∈ps.filterMap (λp=>HV p.kv):=Cf.2 ⟨p,hp,Iy⟩;have h2:=w.aIy id (Aj.2 (.inr h1));exact ho id h2.1 h2.2.1 λe=>(BU.1 gV.2.2).2.2 id (by simp[e]) id h1 rfl
 .rcases hm with rfl|⟨j,rfl,hj⟩
  .exact nd
  .have d:∀i∈ps.filterMap (λp=>HV p.kv),i<h.length:=λi hi=>(w.aIy i (Aj.2 (.inr hi))).1;have l:=w.lt a (by simp[FH]);have k:=w.lt n (by simp[FH]);have c:=(BU.1 gV.2.2).2.1;unfold FH;simp only[BW,Aw,aP0,Cr,Bw,not_or];exact⟨⟨gV.1.1,by omega,λhm=>gV.1.2 (Aj.2 (.inr hm))⟩,⟨by omega,λhm=>gV.2.1 (Aj.2 (.inr hm))⟩,λhm=>by have:=d j hm;omega,c⟩
def aIA{i:Nat}(hm:m=some i):i∈FH a n m ps:=by unfold FH;simp[hm]
def PA.aIB(w:PA h a n m ps A){l:List (Int×Int)}{id:Nat}(t:m=some id)(hc:h[id]?=some (.map (l.map Ru)))(hl:∀k,(l.find? λx=>decide (k=x.1)).map (·.2)=if A.inr k=0 then none else some (A.inr k)){d i:Int}(hd:A.has d)(hi:A.has i)(o:d≠i)(h0:A.inr d=0)(q:A.inr i=0):
  ∃h1 h2 h3,D5 (.OB (I 0)) h [.map m,I d]=some (h1,.tuple [I 0,I l.length])/\D5 .KO h1 [.map m,I l.length,I i]=some (h2,.bool true)/\
   D5 (.OB (I 0)) h2 [.map m,I i]=some (h3,.tuple [I 0,I ((l.length+1:Nat):Int)])/\∃p,D5 .KO h3 [.map m,I ((l.length+1:Nat):Int),I i]=some (p,.bool true)/\PA p a n m ps ((A.Ok d i).Ok i i)/\(∀j,j≠id->p[j]?=h[j]?)/\p.length=h.length:=by
 subst t;have Iy:=(Af.1 hc).1;have b:∀k,A.inr k=0->l.find? (λx=>decide (k=x.1))=none:=by
  intro k hk;have:=hl k;rw[if_pos hk] at this;cases hf:l.find? (λx=>decide (k=x.1)) with
  |none=>rfl
  |some y=>rw[hf] at this;cases this
 obtain⟨h1,E,h2,D,rfl⟩:=da (v:=i) hc (b d h0);have LX:(h.set id (.map ((l++[(d,i)]).map Ru)))[id]?=some (.map ((l++[(d,i)]).map Ru)):=AB Iy;obtain⟨h3,B,p,z,rfl⟩:=da (k:=i) (v:=i) LX (by rw[oS,b i q];simp[Dd o]);simp only[Ai,AR] at B z;refine⟨h1,_,h3,E,D,B,_,z,?_,?_,by simp⟩
 .have f:id≠a:=λe=>by have:=w.nd;unfold FH at this;simp[e] at this
  refine w.aIz (m':=some id) (A':=(A.Ok d i).Ok i i) rfl ?_ ?_ ?_ (.inl rfl) ?_;.simp only[Ar.Ok];split<;>split<;>simp[w.il]
  .rw[Al f,Al f];exact w.ha
  .intro j hj C u;have:id≠j:=λe=>u (by rw[e]);rw[Al this,Al this]
  .refine .inr ⟨id,l++[(d,i)]++[(i,i)],rfl,?_,λk=>?_⟩;.rw[AB (by simpa using Iy)];rfl
   .have s:(A.Ok d i).i.length=(A.Ok d i).n.length:=by simp only[Ar.Ok];split<;>simp[w.il]
    rw[Yh s,Yh w.il,oS,oS];have uv:(A.Ok d i).has i:=hi;have hk:=hl k;have g:i≠0:=by have:=hi.1;omega
    cases hf:l.find? (λx=>decide (k=x.1)) with
    |some y=>
     rw[hf] at hk;have Ų:A.inr k≠0:=by intro e;rw[if_pos e] at hk;cases hk
     have r:k≠i:=λe=>Ų (e▸q);have c:k≠d:=λe=>Ų (e▸h0);simp only[r,c,uX,DU,Option.some_or];exact hk
    |none=>
     rw[hf] at hk;have Ų:A.inr k=0:=by
      by_cases e:A.inr k=0;.exact e
      .rw[if_neg e] at hk;cases hk
     by_cases c:k=d;.subst c;simp[o,hd,g]
     .by_cases r:k=i;.subst r;simp[c,uv,g]
      .simp[r,c,Ų]
 .intro j hj;rw[Al (Dd hj),Al (Dd hj)]
def aIC(w:PA h a n m ps A)(G:Nz A)(hb:A.len+1<=1000000000)(hx:A.has x):
  ∃h' n' m' O9,Cj cx 268 [Pt a 0,I x] h (I (A.Iq x)) h'/\PA h' a n' m' O9 (A.EW x)/\Ey h (λi=>i∈FH a n m ps) h' (λi=>i∈FH a n' m' O9):=by
 have l1:Bg h none (Pt a 1)=some (.map m):=by simp only[Bg,w.ha];rfl
 have g1:=w.mp.get x;by_cases h0:A.inr x=0
 .obtain⟨h1,B,c,E,f⟩:=aNE w G hb false;have j:=w.Rf (p:=KL false (A.len+1)) rfl E f;have t:A.Iq x=A.len+1:=by unfold Ar.Iq;rw[if_neg (by simp[h0])]
  have u:A.EW x=((A.add {kind:=1,CB:=A.len+1}).Ok x (A.len+1)).Ok (A.len+1) (A.len+1):=by unfold Ar.EW;rw[if_neg (by simp[h0])]
  have ų:∀k,(A.add {kind:=1,DH:=false,CB:=A.len+1}).inr k=A.inr k:=λk=>Wz w.il;have PR:(A.add {kind:=1,DH:=false,CB:=A.len+1}).has x:=Et.2 (.inl hx);have qm:(A.add {kind:=1,DH:=false,CB:=A.len+1}).has (A.len+1):=Et.2 (.inr rfl);have hne:=UH hx;have g:A.inr (A.len+1)=0:=by unfold Ar.inr;rw[if_neg So]
  have C:Bg h1 none (Pt a 1)=some (.map m):=by simp only[Bg,c.ha];rfl
  rw[if_pos h0] at g1;rcases c.mp with⟨rfl,hz⟩|⟨id,l,rfl,hc,hl⟩
  .have vt:=c.ha;have S5:a<h1.length:=c.lt a (by simp[FH]);have Us:(h1++[EE.map []])[a]?=some (.cells [.C7 h.length 0 (ps++[KL false (A.len+1)]).length 13,.map none]):=by rw[Ah S5];exact vt
   have es:CR (h1++[EE.map []]) 1 (Pt a 1) (.map (some h1.length))=some ((h1++[EE.map []]).set a (.cells [.C7 h.length 0 (ps++[KL false (A.len+1)]).length 13,.map (some h1.length)])):=by simp only[CR,Us];rfl
   have ĳ:((h1++[EE.map []]).set a (.cells [.C7 h.length 0 (ps++[KL false (A.len+1)]).length 13,.map (some h1.length)]))[a]?=some (.cells [.C7 h.length 0 (ps++[KL false (A.len+1)]).length 13,.map (some h1.length)]):=AB (by simp;omega);have el:Bg ((h1++[EE.map []]).set a (.cells [.C7 h.length 0 (ps++[KL false (A.len+1)]).length 13,.map (some h1.length)])) none (Pt a 1)=some (.map (some h1.length)):=by simp only[Bg,ĳ];rfl
   have Ĥ:((h1++[EE.map []]).set a (.cells [.C7 h.length 0 (ps++[KL false (A.len+1)]).length 13,.map (some h1.length)]))[h1.length]?=some (.map (([]:List (Int×Int)).map Ru)):=by rw[Al (by omega),Bi (Ab _),DM];rfl
   have D:PA ((h1++[EE.map []]).set a (.cells [.C7 h.length 0 (ps++[KL false (A.len+1)]).length 13,.map (some h1.length)])) a h.length (some h1.length) (ps++[KL false (A.len+1)]) (A.add {kind:=1,DH:=false,CB:=A.len+1}):=by refine c.aIz rfl c.il ĳ (λi hi d _=>by rw[Al (Dd d),Ah hi]) (.inr ⟨_,rfl,Ab _⟩) (.inr ⟨h1.length,[],rfl,Ĥ,λk=>by rw[if_pos (hz k)];rfl⟩)
   obtain⟨K,J,H,s,r,q,z,o,v,y,b⟩:=D.aIB rfl Ĥ (λk=>by rw[if_pos (hz k)];rfl) PR qm hne ((ų x).trans h0) ((ų _).trans g);refine⟨z,_,_,_,?_,u▸v,⟨by rw[b];simp;omega,λi hi Zh=>?_,λi hi=>?_⟩⟩;.simp only[AY] at s r q o;rw[Ac,WH,zp,t];simp only[Ce,l1,g1,B.call,C,show Az (.FM false .mp) [.map none,.map none]=some (.bool true) from rfl,es,el,s,r,q,o]
   .have L:=j.old i hi Zh;have d:i≠a:=λe=>Zh (by simp[FH,e]);rw[y i (by omega),Al (Dd d),Ah (by omega),L]
   .unfold FH at hi;simp only[Aw,aP0,Cr,Bw] at hi;rcases hi with rfl|rfl|rfl|hi
    .exact .inl (by simp[FH])
    .exact .inr (Ab _)
    .exact .inr (by omega)
    .exact j.BN i (by unfold FH;simp only[Aw,Option.toList_none,Bw];exact .inr (.inr hi))
  .obtain⟨K,J,H,s,r,q,z,o,v,y,b⟩:=c.aIB rfl hc hl PR qm hne ((ų x).trans h0) ((ų _).trans g);refine⟨z,_,_,_,?_,u▸v,⟨by omega,λi hi Zh=>?_,j.BN⟩⟩;.rw[Ac,WH,zp,t];simp only[Ce,l1,g1,B.call,C,show Az (.FM false .mp) [.map (some id),.map none]=some (.bool false) from rfl,s,r,q,o]
   .rw[y i (λe=>Zh (e▸aIA rfl))];exact j.old i hi Zh
 .have t:A.Iq x=A.inr x:=by unfold Ar.Iq;rw[if_pos h0]
  have u:A.EW x=A:=by unfold Ar.EW;rw[if_pos h0]
  refine⟨h,n,m,ps,?_,by rw[u];exact w,.refl⟩;rw[if_neg h0] at g1;rw[Ac,WH,zp,t];simp only[Ce,l1,g1]
def Nz.aID(b:Nz A)(h1:A.len+1<=1000000000):Nz (A.EW x):=by
 unfold Ar.EW;split;.exact b
 .have:=b.add (y:={kind:=1,CB:=A.len+1}) h1 (by simp) (by simp);exact⟨this.n,this.at_,this.data⟩
def mw(hk:A.has x){d:Int}:(A.EW d).nd x=A.nd x:=Ym (.inl (UH hk))
def aIE{l:List A9}{v:Aa}{d sp:Int}{nm:Ad}(w:PA h a n m ps A)(E:Nz A)(hb:A.len+3<=1000000000)(hd:A.has d/\(A.nd d).kind=1)(hsp:BS.LH sp)(W:Bj l v)(hl:l.length<=1000000000)(hs:∀y∈l,BS.LH y.AX):
  ∃h' n' m' O9,Cj cx 240 [Pt a 0,I d,I sp,.str nm,v] h (.tuple [I (A.len+1),I 0]) h'/\PA h' a n' m' O9 (A.elem d sp nm l)/\Ey h (λi=>i∈FH a n m ps) h' (λi=>i∈FH a n' m' O9)/\Nz (A.elem d sp nm l):=by
 have dE:=w.len;have C:=aBD (h:=h) (nA W) hl hs;obtain⟨u,hu⟩:∃u,u=Wg (Di l):=⟨_,rfl⟩;rw[<-hu] at C;have qb:(Di l).length<=1000000000:=by have:=Ts (l:=l);omega
 have c:=aBB (h:=h) (y:=sp);rw[Ag hsp] at c;obtain⟨h1,R,s,U,l1⟩:=H_ w (by omega) ⟨{kind:=4,CB:=d,AX:=sp,name:=nm,Aq:=Di l},.slnil,u,hu⟩ rfl rfl;have b:=E.add (y:={kind:=4,CB:=d,AX:=sp,name:=nm,Aq:=Di l}) (by omega) qb (by simp);have PR:(A.add {kind:=4,CB:=d,AX:=sp,name:=nm,Aq:=Di l}).has (A.len+1):=Et.2 (.inr rfl);have SJ:(A.add {kind:=4,CB:=d,AX:=sp,name:=nm,Aq:=Di l}).nd (A.len+1)={kind:=4,CB:=d,AX:=sp,name:=nm,Aq:=Di l}:=by rw[L6,if_pos rfl]
 have K:=w.Rf (p:=⟨{kind:=4,CB:=d,AX:=sp,name:=nm,Aq:=Di l},.slnil,u,hu⟩) rfl U l1;have j:Cj cx 56 [Pt a 0,.agg [I 4,I 0,.slnil,I d,I sp,.str nm,u,.str [],.str [],.str [],.bool false,I 0,I 0]] h (I (A.len+1)) h1:=R;have r2:=IN s b PR;have g:=aIx s PR;rw[SJ] at g;have hc:u.cells=[u]:=by rw[hu];exact Br.cells WM
 unfold Ar.elem;simp only
 by_cases t:eX {kind:=4,CB:=d,AX:=sp,name:=nm,Aq:=Di l}
 .rw[if_pos t];rw[Ag t] at g;have H:(A.add {kind:=4,CB:=d,AX:=sp,name:=nm,Aq:=Di l}).has d:=Et.2 (.inl hd.1);obtain⟨h2,Y,Z,J_,Q,z,M⟩:=aIC s b (by rw[Q7];omega) H;have D:=b.aID (x:=d) (by rw[Q7];omega);have lJ:((J_.length:Nat):Int)=((A.add {kind:=4,CB:=d,AX:=sp,name:=nm,Aq:=Di l}).EW d).len:=z.len;have nD:((A.add {kind:=4,CB:=d,AX:=sp,name:=nm,Aq:=Di l}).EW d).len<=A.len+2:=by rw[ma,Q7];split<;>omega
  obtain⟨h3,P,f,T,l3⟩:=H_ z (by omega) ⟨{kind:=2,E3:=A.len+1,CB:=(A.add {kind:=4,CB:=d,AX:=sp,name:=nm,Aq:=Di l}).Iq d},.slnil,.slnil,rfl⟩ rfl rfl;obtain⟨o,G⟩:∃o,o=J_++[⟨{kind:=2,E3:=A.len+1,CB:=(A.add {kind:=4,CB:=d,AX:=sp,name:=nm,Aq:=Di l}).Iq d},.slnil,.slnil,rfl⟩]:=⟨_,rfl⟩;have J:=z.Rf (p:=⟨{kind:=2,E3:=A.len+1,CB:=(A.add {kind:=4,CB:=d,AX:=sp,name:=nm,Aq:=Di l}).Iq d},.slnil,.slnil,rfl⟩) rfl T l3;rw[<-G] at f J;have q:=D.add (y:={kind:=2,E3:=A.len+1,CB:=(A.add {kind:=4,CB:=d,AX:=sp,name:=nm,Aq:=Di l}).Iq d}) (by omega) (by simp) (by simp);have B:Cj cx 56 [Pt a 0,.agg [I 2,I 0,.slnil,I ((A.add {kind:=4,CB:=d,AX:=sp,name:=nm,Aq:=Di l}).Iq d),I 0,.str [],.slnil,.str [],.str [],.str [],.bool false,I 0,I (A.len+1)]] h2 _ h3:=P;have Zk:=Om (h:=d) PR;have e:=Et (x:={kind:=2,E3:=A.len+1,CB:=(A.add {kind:=4,CB:=d,AX:=sp,name:=nm,Aq:=Di l}).Iq d}).2 (.inl Zk);have r:(((A.add {kind:=4,CB:=d,AX:=sp,name:=nm,Aq:=Di l}).EW d).add {kind:=2,E3:=A.len+1,CB:=(A.add {kind:=4,CB:=d,AX:=sp,name:=nm,Aq:=Di l}).Iq d}).nd (A.len+1)={kind:=4,CB:=d,AX:=sp,name:=nm,Aq:=Di l}:=by rw[MT Zk,mw PR,SJ]
  have O:=IN f q e;have hp:=(f.pn e).2.1;rw[r] at hp;obtain⟨X,N,L,V,S,l4⟩:=f.wr e (k:=11) (by decide) (v:= I (((A.add {kind:=4,CB:=d,AX:=sp,name:=nm,Aq:=Di l}).EW d).len+1)) rfl (p:=⟨{kind:=4,CB:=d,AX:=sp,name:=nm,Aq:=Di l,cont:=((A.add {kind:=4,CB:=d,AX:=sp,name:=nm,Aq:=Di l}).EW d).len+1},(pN o (A.len+1)).kv,(pN o (A.len+1)).av,by have:=(pN o (A.len+1)).ok;rw[hp] at this;exact this⟩) (by simp only[PN.row];rw[hp];rfl) rfl (by rw[r]);refine⟨X,_,_,_,?_,L,K.trans (M.trans (J.trans (f.c_ L V S l4))),q.set qb (by simp)⟩;rw[Ac,gL,Ť];simp only[abS,Nat.reduceLeDiff,↓reduceIte,B6,(nB (x:=d) w E).call,if_pos hd.1,if_pos hd.2,ne_eq,CK,C.call,GA,c.call,hc,j.call,r2.call,g.call,Q.call,B.call,O.call,N]
 .rw[if_neg t];rw[Ak t] at g;refine⟨h1,_,_,_,?_,s,K,b⟩;rw[Ac,gL,Ť];simp only[abS,Nat.reduceLeDiff,↓reduceIte,B6,(nB (x:=d) w E).call,if_pos hd.1,if_pos hd.2,ne_eq,CK,C.call,GA,c.call,hc,j.call,r2.call,g.call]
end
end Go.Am
end
