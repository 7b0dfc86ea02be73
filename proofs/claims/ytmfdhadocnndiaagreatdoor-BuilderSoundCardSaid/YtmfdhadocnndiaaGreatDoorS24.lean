/- Lemmas -/
import Derived.Test.YtmfdhadocnndiaaGreatDoorS20
import Derived.Test.YtmfdhadocnndiaaGreatDoorS21
import Derived.Test.YtmfdhadocnndiaaGreatDoorS22
import Derived.Test.YtmfdhadocnndiaaGreatDoorS23
import Derived.Test.YtmfdhadocnndiaaGreatDoorS19
set_option linter.all false
set_option maxRecDepth 100000
section
namespace Go.Am
open Go
abbrev wG:=List Aa->Option IT
def dk(g:IT):wG:=λl=>match l with
 |[]=>some (g)
 |_=>none
def Hh(g:Aa->IT):wG:=λl=>match l with
 |[a0]=>some (g a0)
 |_=>none
def Dp(g:Aa->Aa->IT):wG:=λl=>match l with
 |[a0,a1]=>some (g a0 a1)
 |_=>none
def KC(g:Aa->Aa->Aa->IT):wG:=λl=>match l with
 |[a0,a1,a2]=>some (g a0 a1 a2)
 |_=>none
def eY(g:Aa->Aa->Aa->Aa->IT):wG:=λl=>match l with
 |[a0,a1,a2,a3]=>some (g a0 a1 a2 a3)
 |_=>none
def xj(g:Aa->Aa->Aa->Aa->Aa->IT):wG:=λl=>match l with
 |[a0,a1,a2,a3,a4]=>some (g a0 a1 a2 a3 a4)
 |_=>none
def Ud(f:Nat)(g:wG):Prop:=∀l t,g l=some t->t=BY cx f l
def wH{f:Nat}{g:IT}(h:BY cx f []=g):Ud f (dk g):=by
 intro l t ht;unfold dk at ht;split at ht;.cases ht;exact(h).symm
 .cases ht
def Dy{f:Nat}{g:Aa->IT}(h:∀a0,BY cx f [a0]=g a0):Ud f (Hh g):=by
 intro l t ht;unfold Hh at ht;split at ht;.cases ht;exact(h _).symm
 .cases ht
def BT{f:Nat}{g:Aa->Aa->IT}(h:∀a0 a1,BY cx f [a0,a1]=g a0 a1):Ud f (Dp g):=by
 intro l t ht;unfold Dp at ht;split at ht;.cases ht;exact(h _ _).symm
 .cases ht
def F0{f:Nat}{g:Aa->Aa->Aa->IT}(h:∀a0 a1 a2,BY cx f [a0,a1,a2]=g a0 a1 a2):Ud f (KC g):=by
 intro l t ht;unfold KC at ht;split at ht;.cases ht;exact(h _ _ _).symm
 .cases ht
def Ue{f:Nat}{g:Aa->Aa->Aa->Aa->IT}(h:∀a0 a1 a2 a3,BY cx f [a0,a1,a2,a3]=g a0 a1 a2 a3):Ud f (eY g):=by
 intro l t ht;unfold eY at ht;split at ht;.cases ht;exact(h _ _ _ _).symm
 .cases ht
def xk{f:Nat}{g:Aa->Aa->Aa->Aa->Aa->IT}(h:∀a0 a1 a2 a3 a4,BY cx f [a0,a1,a2,a3,a4]=g a0 a1 a2 a3 a4):Ud f (xj g):=by
 intro l t ht;unfold xj at ht;split at ht;.cases ht;exact(h _ _ _ _ _).symm
 .cases ht
def ke:List (Nat×wG):=[(7,Hh t7),(8,Dp t8),(10,Hh t10),(12,Hh t12),(16,Dp t16),(17,Dp t17),(18,Dp A_),(19,Hh t19),(20,Dp t20),(22,Dp t22),(23,dk t23),(24,Dp t24),(25,KC B_),(26,Dp t26),(28,KC t28),(33,Dp t33),(34,Hh t34),(40,Hh Ē),(43,eY t43),(44,Hh t44),(45,Hh t45),(46,Hh t46),(47,Hh t47),(50,Hh t50),(60,Dp t60),(61,Dp t61),(62,Dp t62),(63,Dp t63),(64,Dp t64),(65,KC t65),(66,KC t66),(67,eY C_),(68,Hh t68),(69,Dp t69),(70,Dp t70),(71,Dp kb),(72,Dp t72),(75,Dp t75),(76,Dp t76),(77,Dp t77),(78,KC t78),(79,Dp t79),(80,eY t80),(83,Dp t83),(84,Dp t84),(85,Hh ē),(86,Hh t86),(87,Dp t87),(88,Dp t88),(89,KC t89),(90,Dp t90),(93,Dp t93),(95,KC t95),(96,Hh t96),(97,KC t97),(98,Hh t98),(100,Dp uk),(101,Dp um),(102,Hh uo),(103,xj cl),(104,Dp cm),(105,Hh cq),(106,Hh uq),(107,Hh ur),(113,Dp uv),(114,Dp uw),(115,Hh ux),(116,Hh uy),(117,Dp cy),(118,Dp uz),(119,KC u_),(120,Dp va),(121,Dp cz),(122,Dp vd),(123,eY XL),(124,Dp ve),(125,Dp vf),(126,KC vg),(127,KC t127),(128,Dp vh),(129,eY vi),(130,KC vj),(131,Dp c_),(132,KC vn),(137,KC vo),(138,Dp wD),(139,Hh vp),(140,Dp vq),(141,KC vr),(143,Dp vt),(144,Hh vu),(145,Dp vw),(146,Dp t146),(147,Dp vy),(148,Dp t148),(149,dk vz),(150,Dp v_),(151,Dp wb),(154,Hh wc),(155,Dp we),(156,Dp wg),(157,Dp wE),(158,Dp wh),(160,Dp wj),(161,Dp wk),(162,Dp wm),(163,Dp de),(164,Dp t164),(166,Dp df),(168,Dp wo),(169,KC wq),(170,Dp wu),(171,KC dg),(172,KC dh),(173,Dp wv),(181,Hh wz),(182,Hh wF),(183,KC w_),(184,Hh Ě),(185,Dp xa),(187,KC xb),(190,Hh xc),(199,Hh xd),(200,Hh xe),(201,Hh xf),(202,Dp xg),(203,Dp ě),(211,Dp xh),(221,KC xi),(100047,Hh Sx)]
def wI:List (Nat×wG)->Prop
 |[]=>True
 |(f,g)::l=>Ud f g/\wI l
def wJ:wI ke:=
 ⟨Dy uT,BT ka,Dy uU,Dy uV,BT uW,BT uX,BT T9,Dy uY,BT eK,BT ta,wH uZ,BT eL,F0 Ua,BT u0,F0 vA,BT vD,Dy vE,Dy XE,Ue eO,Dy vG,Dy vH,Dy Ub,Dy eP,Dy eQ,BT vI,BT eR,BT vJ,BT vK,BT vL,F0 vM,F0 vN,Ue Uc,Dy vO,BT vP,BT vQ,BT OZ,BT vR,BT eS,BT eT,BT vS,F0 vT,BT eU,Ue eV,BT vU,BT vV,Dy XF,Dy vW,BT eW,BT vX,F0 vY,BT eX,BT vZ,F0 v8,Dy wA,F0 wB,Dy wC,BT jF,BT jG,Dy jH,xk XG,BT XH,Dy XI,Dy jI,Dy jJ,BT jK,BT jL,Dy jM,Dy jN,BT XJ,BT jO,F0 jP,BT jQ,BT XK,BT jR,Ue K9,BT jS,BT jT,F0 jU,F0 jV,BT jW,Ue jX,F0 jY,BT XM,F0 jZ,F0 kC,BT Su,Dy kD,BT kE,F0 kF,BT kG,Dy kH,BT kI,BT kJ,BT kK,BT kL,wH kM,BT kN,BT kO,Dy kP,BT kQ,BT kR,BT Sv,BT kS,BT kT,BT kU,BT kW,BT XN,BT kX,BT XO,BT kY,F0 kZ,BT lA,F0 XP,F0 XQ,BT lB,Dy lC,Dy Sw,F0 lD,Dy di,BT lE,F0 lF,Dy lG,Dy lH,Dy lI,Dy lJ,BT lK,BT dj,BT lL,F0 lM,Dy O0,trivial⟩
def dm(f:Nat):List (Nat×wG)->List Aa->Option IT
 |[],_=>none
 |(k,g)::l,args=>if Nat.beq k f then g args else dm f l args
def lN{f:Nat}{args:List Aa}{t:IT}:∀{l:List (Nat×wG)},wI l->dm f l args=some t->t=BY cx f args
 |[],_,h=>by cases h
 |(k,g)::l,ha,h=>by
  simp only[dm] at h;split at h;.rename_i hk;have hk:k=f:=Nat.eq_of_beq_eq_true hk;subst hk;exact ha.1 _ _ h
  .exact lN ha.2 h
noncomputable def D_(f:FuncId)(args:List Aa):IT:=match dm f ke args with
 |some t=>t
 |none=>BY cx f args
def wK:D_=BY cx:=by
 funext f args;unfold D_;split;.rename_i t h;exact lN wJ h
 .rfl
def Uf:Option IW->Bool
 |some (.ret,[.bool true],_)=>true
 |_=>false
def U8{r:Option IW}(h:Uf r=true):∃h',r=some (.ret,[.bool true],h'):=by
 unfold Uf at h;split at h;.exact⟨_,rfl⟩
 .cases h
def pD{f:FuncId}{args:List Aa}{h:Ah}(n:Nat)(hr:Uf (IT.run D_ n (D_ f args) h)=true):Ev cx f args h λr _=>r= .bool true:=by obtain⟨h',e⟩:=U8 hr;rw[wK] at e;exact⟨n,_,_,_,e,rfl,_,rfl,rfl⟩
end Go.Am
end
section
namespace Go.Am
open Go
section
def f227(s:Au):N7 cx 144 [.str s] (.bool (decide (s∈IF))):=by rw[TN,kH];rw[show vu (.str s)=sw s (.ret .ret [tt]) (.ret .ret [ff]) IF from rfl,tT];exact⟨λh=>by simp[h],λh=>by simp[h]⟩
section
variable{Q:Iw}{h:Ah}{k:Aa->IT}{s:Au}
@[simp] theorem wL:W cx (.Cx 144 [.str s] k) Q h↔W cx (k (.bool (decide (s∈IF)))) Q h:=(f227 s).Cx rfl rfl
end
def aCF(s:Au):N7 cx 153 [.str s] (.bool (decide (s∈NW\/s∈IF))):=by rw[TN,dd];rw[show ę (.str s)=sw s (.ret .ret [tt]) (.Cx 144 [.str s] λv=> .ret .ret [v]) NW from rfl,tT];exact⟨λh=>by simp[h],λh=>by simp[h]⟩
def aCG(n:Int)(s:Au):N7 cx 148 [I n,.str s] (.bool (decide (n=3/\s∈Mq))):=by
 rw[TN,kL,t148];by_cases h:n=3;.simp[h,Mq];by_cases h1:s=[109,105]<;>by_cases h2:s=[109,110]<;>by_cases h3:s=[109,111]<;>by_cases a:s=[109,115]<;>simp[h1,h2,h3,a]
 .simp[h]
section
variable{Q:Iw}{h:Ah}{k:Aa->IT}{s:Au}{n:Int}
@[simp] theorem wM:W cx (.Cx 153 [.str s] k) Q h↔W cx (k (.bool (decide (s∈NW\/s∈IF)))) Q h:=(aCF s).Cx rfl rfl
@[simp] theorem Ĝ:W cx (.Cx 148 [I n,.str s] k) Q h↔W cx (k (.bool (decide (n=3/\s∈Mq)))) Q h:=(aCG n s).Cx rfl rfl
end
def ĝ(n:Int)(s:Au):N7 cx 88 [I n,.str s] (.bool (Hr n s)):=by
 rw[TN,vX];rw[show t88 (I n) (.str s)= .op (.int .eql) [I n,I 3] λv=> .AM v (.op (.str .eql) [.str s,S aLJ] λv=> .AM v (.ret .ret [tt]) (.Cx 148 [I n,.str s] λv=> .ret .ret [v]))
  (.op (.int .eql) [I n,I 2] λv=> .AM v (sw s (.ret .ret [tt]) (.op (.str .eql) [.str s,S aLX] λv=> .ret .ret [v]) [aMh,aLL])
  (.op (.int .eql) [I n,I 1] λv=> .AM v (sw s (.ret .ret [tt]) (.ret .ret [ff]) PI) (.ret .ret [ff]))) from rfl]
 by_cases h3:n=3;.by_cases h:s=aLJ<;>simp[h3,Hr,h]
 .by_cases h2:n=2;.by_cases ha:s=aMh<;>by_cases hb:s=aLL<;>simp[h2,tT,Hr,V5,ha,hb]
  .by_cases h1:n=1;.by_cases h:s∈PI<;>simp[h1,tT,Hr,h]
   .simp[h3,h2,h1,Hr]
section
variable{Q:Iw}{h:Ah}{k:Aa->IT}{s:Au}{n:Int}
@[simp] theorem Ug:W cx (.Cx 88 [I n,.str s] k) Q h↔W cx (k (.bool (Hr n s))) Q h:=(ĝ n s).Cx rfl rfl
end
end
section
end
section
section
variable{Q:Iw}{h:Ah}{k:Aa->IT}{s:Au}
end
section
variable{Q:Iw}{h:Ah}{k:Aa->IT}{s:Au}{n:Int}
end
end
section
def aCH(a b:Int)(h:Ah):Co cx 211 [.int .i32 a,.int .i32 b] h (.func (.func 221) [] [.B3 [.int .i32 a],.B3 [.int .i32 b]]) h:=by rw[Aj,lL,xh];simp only[Cn]
def aCI(c a b:Int)(h:Ah):Co cx 221 [.int .i32 c,.B3 [.int .i32 a],.B3 [.int .i32 b]] h (.bool (decide (a<=c/\c<=b))) h:=by rw[Aj,lM,xi];simp only[Cn];refine⟨λh=>by simp[h],λh=>by simp[h]⟩
def aCJ(c:Int):N7 cx 199 [.int .i32 c] (.bool (decide (65<=c/\c<=90))):=by rw[TN,lH,xd];simp only[Cn,Nat.reduceLeDiff,↓reduceIte,(aCH _ _ _).Ag,CA,(aCI _ _ _ _).Ag]
def xl(s:Au)(hs:s.length<=AN):N7 cx 181 [.str s] (.str (FJ s)):=by
 have X9:s.length<=140737488355328:=hs;rw[TN,lC,wz];have j:Ie [] (.str s)=some ([.cells ((Gr s 0).map MI)],.CI 0 0 s.length 1):=by simp only[Ie,hs,BE];rfl
 have i:Ax (.len false) [.CI 0 0 s.length 1]=some (I (s.length:Int)):=rfl;simp only[Cn,j,i];refine BF (λn:Nat=>[I (n:Int)]) (λn h=>n<=s.length/\h=[.cells ((Gr s n).map MI)]) (λn=>s.length-n) 0 rfl ⟨AZ _,rfl⟩ ?_;rintro n h ⟨hn,rfl⟩;rcases A8 n s.length with hlt|GR
 .have i1:(n:Int)<(s.length:Int):=by omega
  have g:Ax (.ER 1) [.CI 0 0 s.length 1,I (n:Int)]=some (Pt 0 n):=by simp[Ax,elemOf,Lx,hlt]
  have f:Bk [.cells ((Gr s n).map MI)] none (Pt 0 n)=some (.int .u8 (s[n].toNat:Int)):=dI (by rw[Cj,TP hlt];rfl);have e:IntKind.i32.wrap (s[n].toNat:Int)=(s[n].toNat:Int):=tR (by have:=s[n].toNat_lt;omega);simp only[Cn,i1,AD,AK,AG,g,f,Xm,e,(aCJ _).Cx rfl rfl,Cu (Ab:n<9223372036854775807)];refine⟨λhe=>?_,λhe=>?_⟩
  .have aM:65<=s[n].toNat/\s[n].toNat<=90:=by omega
   have d:CK [.cells ((Gr s n).map MI)] 1 (Pt 0 n) (.int .u8 ((s[n].toNat:Int)-65+97))=some [.cells (((Gr s n).map MI).set n (.int .u8 ((s[n].toNat:Int)-65+97)))]:=Zo (by rw[As,TO];exact hlt) rfl;simp only[Cn,dE,dD,wrap_u8 (Ab:0<=((s[n].toNat:Int)-65)/\((s[n].toNat:Int)-65)<=255),wrap_u8 (Ab:0<=((s[n].toNat:Int)-65+97)/\((s[n].toNat:Int)-65+97)<=255),d];refine A7.next (n+1) rfl ⟨hlt,?_⟩ Ab;rw[PL hlt,F5];have c:MI (Ik s[n])= .int .u8 ((s[n].toNat:Int)-65+97):=by unfold MI;rw[Xq aM];congr 1;omega
   rw[c]
  .have Yc:¬(65<=s[n].toNat/\s[n].toNat<=90):=by omega
   refine A7.next (n+1) rfl ⟨hlt,?_⟩ Ab;rw[PL hlt,PK Yc,tU (TP hlt)]
 .have i1:¬(n:Int)<(s.length:Int):=by omega
  have a:n=s.length:=Ab;subst a;have b:Lf [.cells ((Gr s s.length).map MI)] (.CI 0 0 s.length 1)=some ([.DD],.sl 1 (CG (FJ s))):=by
   have hl:(FJ s).length=s.length:=by simp[FJ]
   rw[Zn];simp only[Lf,J1];rw[Ad (by simp[hl])];rw[Nq (FJ s) s.length 0 Ab];simp
  simp only[Cn,i1,AF,AK,AG,b,Bn.UF (s:=FJ s) .mk]
end
section
def PZ(l:Au)(ws:List Au):Prop:=Ev cx 184 [.str l] [] λr _=>r= .sl 1 (ws.map CW)
def Ov{l:Au}{ws:List Au}(n:Nat)(hr:(IT.run D_ n (D_ 184 [.str l]) []).map (λx=>(x.1,x.2.1))=some (.ret,[.sl 1 (ws.map CW)])):PZ l ws:=by obtain⟨⟨x,vs,h⟩,a,b⟩:=Rb.1 hr;cases b;rw[wK] at a;exact⟨n,_,_,_,a,rfl,_,rfl,rfl⟩
def Ğ{l:Au}{ws:List Au}(hf:PZ l ws)(hw:∀w∈ws,w.length<=AN)(hn:ws.length<9223372036854775807)(name:Au):N7 cx 155 [.str name,.str l] (.str (Dl name ws)):=by
 rw[TN,kQ,we];refine q7 (hf.mono λr h1 e=>?_);subst e;have aL:Bn 1 (ws.map CW) (.sl 1 (ws.map CW)):= .mk;simp only[Cn,aL.len];refine BF (λn:Nat=>[.str [],I (n:Int)]) (λn _=>n<=ws.length/\Dl name ws=Dl name (ws.drop n)) (λn=>ws.length-n) 0 rfl ⟨AZ _,rfl⟩ ?_;rintro n h ⟨qM,ha⟩;rcases A8 n ws.length with hlt|GR
 .have i1:(n:Int)<((ws.map CW).length:Int):=Ew;have pE:n<(ws.map CW).length:=by simpa using hlt
  have a:(ws.map CW)[n]=[.str ws[n]]:=by simp[CW]
  rw[AB hlt,Dl] at ha;simp only[Cn,i1,AD,AK,AG,aL.ER pE,a,(xl ws[n] (hw _ (AP hlt))).Cx rfl rfl,Cu (Ab:n<9223372036854775807)];refine⟨λhe=>?_,λhe=>?_⟩;.rw[ha,Ad he]
  .rw[Ac he] at ha;exact A7.next (n+1) rfl ⟨hlt,ha⟩ Ab
 .have i1:¬(n:Int)<((ws.map CW).length:Int):=Ew;rw[A6 GR,Dl] at ha;simp only[Cn,i1,AF,AK,AG,ha]
def Sa:PZ QK LS:=Ov 5000 AU
def Sb:PZ QL LU:=Ov 5000 AU
def aCK(s:Au):N7 cx 102 [.str s] (.str (Dl s LS)):=by rw[TN,jH,show uo (.str s)= .Cx 155 [.str s,.str QK] λv=> .ret .ret [v] from rfl];rw[(Ğ (l:=QK) Sa eZ eZ s).Cx rfl rfl];simp only[Cn]
def ğ(s:Au):N7 cx 154 [.str s] (.str (Dl s LU)):=by rw[TN,kP,show wc (.str s)= .Cx 155 [.str s,.str QL] λv=> .ret .ret [v] from rfl];rw[(Ğ (l:=QL) Sb eZ eZ s).Cx rfl rfl];simp only[Cn]
end
section
def aCL{v:Aa}{l:List A0}(hv:Cw l v)(hn:l.length<9223372036854775807)(h:Ah){f:FuncId}{p:A0->Bool}(hp:∀a∈l,Co cx f [.agg a.row] h (.bool (p a)) h)(hf:f<=99999):
  Co cx 138 [v,.func (.func f) [] []] h (I (BV p 0 l)) h:=by
 rw[Aj,Su,wD];have hlen:(l.map A0.row).length=l.length:=As ..;simp only[Cn,Bn.len hv];refine BF (λn:Nat=>[I 0,I (n:Int)]) (λn h1=>n<=l.length/\BV p 0 l=BV p n (l.drop n)/\h1=h) (λn=>l.length-n) 0 rfl ⟨AZ _,rfl,rfl⟩ ?_;rintro n h1 ⟨qM,ha,rfl⟩;rcases A8 n l.length with hlt|GR
 .have i1:(n:Int)<((l.map A0.row).length:Int):=by rw[hlen];omega
  have c:(l.map A0.row)[n]'(by rw[hlen];exact hlt)=A0.row l[n]:=Av;have b:Ez (A0.row l[n]) 0 (some 3)=some (.agg (A0.row l[n])):=by simp[A0.row]
  rw[AB hlt,BV] at ha;simp only[Cn,↓reduceIte,CA,hf,Bi,i1,AD,AK,AG,Bn.ER hv (show n<(l.map A0.row).length by rw[hlen];exact hlt),c,b,(hp _ (AP hlt)).Ag];rw[Dk];refine⟨λhe=>?_,λhe=>?_⟩;.rw[ha,Ad he]
  .rw[Ac (by simp[he])] at ha;simp only[Cn,Cu (Ab:n<9223372036854775807)];exact A7.next (n+1) rfl ⟨hlt,ha,rfl⟩ Ab
 .have i1:¬(n:Int)<((l.map A0.row).length:Int):=by rw[hlen];omega
  rw[A6 GR,BV] at ha;simp only[Cn,↓reduceIte,CA,hf,i1,AF,AK,AG,ha]
def f188(a:A0)(h:Ah):Co cx 139 [.agg a.row] h (.bool (iR a)) h:=by rw[Aj,kD,vp,A0.row];simp only[Cn,iR];refine⟨λh=>by simp[h],λh=>by simp[h]⟩
def f189(a b:Au)(ha:a.length<=AN)(hb:b.length<=AN):N7 cx 140 [.str a,.str b] (.bool (decide (FJ a=FJ b))):=by rw[TN,kE,vq];simp only[Cn,(xl a ha).Cx rfl rfl,(xl b hb).Cx rfl rfl]
def f96{v:Aa}{l:List A0}(hv:Cw l v)(hl:∀a∈l,a.value.length<=AN)(hn:l.length<9223372036854775807)(n:Int)(s:Au)(h:Ah):Co cx 78 [I n,.str s,v] h (.bool (Hs n s l)) h:=by
 rw[Aj,vT,t78];simp only[Cn,Ug,(aCL hv hn h (λa _=>f188 a h) Br).Ag,Hs];refine⟨λh2=>by simp[h2],λh2=>⟨λh3=>by simp[h2,h3],λh3=>⟨λd=>by simp[h2,h3,d],λd=>?_⟩⟩⟩;rw[Ac h2,Ac h3,Ac d];rcases Gs (p:=iR) (l:=l) (k:=0) with⟨c,b⟩|⟨k,a,c,b,f⟩
 .rw[c,b];simp
 .rw[c,f,By];obtain⟨hk,e⟩:=Ai.1 b;have i_:k<(l.map A0.row).length:=by simpa using hk
  have j:(l.map A0.row)[k]=A0.row a:=by simp[e]
  have i1:(0:Int)<=(k:Int):=Ab;have OM:a.value.length<=AN:=hl a (e▸AP hk);have i:FJ iS=iS:=RJ eZ;have g:FJ Xr=Xr:=RJ eZ;simp only[Cn,i1,AD,AK,AG,Bn.ER hv i_,j,A0.row,(f189 a.value iS OM Br).Cx rfl rfl,(f189 a.value Xr OM Br).Cx rfl rfl,i,g];refine⟨λh=>by simp[h],λh=>by simp[h]⟩
end
section
section
variable{U:Type}{f:U->List Aa}{l l2:List U}{v v2:Aa}{z b:Nat}{k k2:IntKind}
end
section
variable{h:Ah}{p:Aa}{l:List Item}
def QY(hs:qJ h p l):Co cx 10 [p] h (I (l.length:Int)) h:=by
 rw[Aj,uU,t10];rcases hs with⟨rfl,rfl⟩|⟨id,o,v,rfl,hc,hv⟩
 .simp
 .simp only[Cn,GF,hc.load,Bb,hv.FL]
def QZ(hs:qJ h p l)(i:Int):Co cx 8 [p,I i] h (.agg (Ft l i).row) h:=by
 rw[Aj,ka,t8];simp only[Cn,↓reduceIte,Bl,(QY hs).Ag];refine⟨λhi=>by rw[TQ (.inl hi)];simp[Item.row,Item.zero],λhi=>⟨λhl=>by rw[TQ (.inr hl)];simp[Item.row,Item.zero],λhl=>?_⟩⟩;rcases hs with⟨rfl,rfl⟩|⟨id,o,v,rfl,hc,hv⟩
 .simp at hl;omega
 .obtain⟨n,rfl⟩:=Qj (Ab:0<=i);have hn:n<l.length:=Ab;simp only[Cn,Nat.reduceLeDiff,↓reduceIte,Iq,hc.load,Bb,hv.Dw hn,Il hn]
def f39(hs:qJ h p l)(hn:l.length<=1000000000):Co cx 68 [p] h (.agg (Hz l).row) h:=by rw[Aj,vO,t68];simp only[Cn,Iq,(QY hs).Ag,D7 (Ab: -9223372036854775808<=(l.length:Int)-1) (Ab:(l.length:Int)-1<9223372036854775808),(QZ hs _).Ag,Hz]
def Sc(F:Aa)(h:Ah)(q:Item->Bool):Prop:=∃f caps,F= .func (.func f) [] caps/\f<=99999/\∀a:Item,Co cx f (.agg a.row::caps) h (.bool (q a)) h
def Sc.Es{F:Aa}{q:Item->Bool}(hF:Sc F h q)(a:Item){k:Aa->IT}{Q:Iw}:W cx (.Es F [.agg a.row] k) Q h↔W cx (k (.bool (q a))) Q h:=by obtain⟨f,caps,rfl,hf,hr⟩:=hF;rw[Nn];simp only[CA,hf,↓reduceIte,Bt,Cl,Nk,(hr a).Ag]
def xm(hs:qJ h p l)(hn:l.length<=1000000000){F:Aa}{q:Item->Bool}(hF:Sc F h q):Co cx 145 [p,F] h (I (AR q l)) h:=by
 obtain⟨f,caps,rfl,hf,hr⟩:=hF;rw[Aj,kI,vw];simp only[Cn,(QY hs).Ag,D7 (Ab: -9223372036854775808<=(l.length:Int)-1) (Ab:(l.length:Int)-1<9223372036854775808)];refine BF (λn:Nat=>[I 0,I ((n:Int)-1)]) (λn h1=>n<=l.length/\AR q l=AR q (l.take n)/\h1=h) (λn=>n) l.length rfl ⟨Ae _,by rw[B6],rfl⟩ ?_;rintro n h1 ⟨qM,ha,rfl⟩;cases n with
 |zero=>have i1:¬(0:Int)<=((0:Nat):Int)-1:=Ab;rw[ha];simp only[Cn,↓reduceIte,CA,hf,i1,AF,AK,AG,Ns]
 |succ n=>
  have i1:(0:Int)<=((n+1:Nat):Int)-1:=Ab;have a:((n+1:Nat):Int)-1=(n:Int):=Ab;rcases hs with⟨rfl,rfl⟩|⟨id,o,v,rfl,hc,hv⟩
  .simp at qM
  .rw[Mr Ab] at ha;simp only[Cn,Nat.reduceLeDiff,↓reduceIte,CA,Iq,hf,a,(Ab:(0:Int)<=(n:Int)),AD,AK,AG,hc.load,Bb,hv.Dw (Ab:n<l.length),(hr l[n]).Ag,D7 (Ab: -9223372036854775808<=(n:Int)-1) (Ab:(n:Int)-1<9223372036854775808)];rw[Dk];refine⟨λhe=>?_,λhe=>?_⟩;.rw[ha,Ad he]
   .rw[Ac (by simp[he])] at ha;exact A7.next n rfl ⟨Ab,ha,rfl⟩ Ab
def aCM{v:Aa}{ws:List Au}(hv:JR ws v)(hn:ws.length<=1000000000)(s:Au)(h:Ah):Co cx 168 [v,.str s] h (I (BV (λw=>decide (s=w)) 0 ws)) h:=by
 rw[Aj,kY,wo];have hv:Bn 1 (ws.map CW) v:=hv;simp only[Cn,hv.FL];refine BF (λn:Nat=>[I 0,I (n:Int)]) (λn h1=>n<=ws.length/\BV (λw=>decide (s=w)) 0 ws=BV (λw=>decide (s=w)) n (ws.drop n)/\h1=h) (λn=>ws.length-n) 0 rfl ⟨AZ _,rfl,rfl⟩ ?_;rintro n h1 ⟨qM,ha,rfl⟩;rcases A8 n ws.length with hlt|GR
 .have i1:(n:Int)<(ws.length:Int):=by omega
  rw[AB hlt,BV] at ha;simp only[Cn,i1,AD,AK,AG,hv.Dw hlt,CW,Cu (Ab:n<9223372036854775807)];refine⟨λhe=>?_,λhe=>?_⟩;.rw[ha,Ad (by simpa using he)]
  .rw[Ac (by simpa using he)] at ha;exact A7.next (n+1) rfl ⟨hlt,ha,rfl⟩ Ab
 .have i1:¬(n:Int)<(ws.length:Int):=by omega
  rw[A6 GR,BV] at ha;simp only[Cn,i1,AF,AK,AG,ha]
def Ġ{v:Aa}{ws:List Au}(hv:JR ws v)(hn:ws.length<=1000000000)(s:Au)(h:Ah):Co cx 124 [v,.str s] h (.bool (decide (s∈ws))) h:=by rw[Aj,jS,ve];simp only[Cn,(aCM hv hn s h).Ag,bm]
def ZO{v:Aa}{ws:List Au}(hv:JR ws v)(hn:ws.length<=1000000000)(a:Item)(h:Ah):Co cx 100 [.agg a.row,v] h (.bool (BK ws a)) h:=by rw[Aj,jF,uk];simp only[Cn,Iq,(Ġ hv hn _ h).Ag,BK];refine⟨λh1=>by simp[h1],λh1=>by simp[h1]⟩
def aCN(a:Item)(h:Ah):Co cx 200 [.agg a.row] h (.bool (BK PJ a)) h:=by rw[Aj,lI,xe];simp only[Cn,Iq,dJ,(ZO (ws:=PJ) DR Br a h).Ag]
def aCO(a:Item)(h:Ah):Co cx 201 [.agg a.row] h (.bool (!BK Np a)) h:=by rw[Aj,lJ,xf];simp only[Cn,Iq,Zp,(ZO (ws:=Np) DR Br a h).Ag]
def aCP(n:Int)(i:n≠4)(g:n≠5)(a:Item)(h:Ah):Co cx 202 [.agg a.row,.B3 [I n]] h (.bool (Nt n a)) h:=by have b1:=ZO (ws:=Sq) DR Br a h;have b2:=ZO (ws:=Xp) DR Br a h;have b3:=ZO (ws:=[aLO]) DR Br a h;rw[Aj,lK,xg];simp only[Cn,Iq,Ug,dK,oG,oH,b1.Ag,b2.Ag,b3.Ag,Nt,i,g];refine⟨λh1=>by simp[h1],λh1=>⟨λh2=>by simp[h2],λh2=>?_⟩⟩;rw[Dk];simp only[h1,h2,or_self,EX];refine⟨λh3=>by simp[h3],λh3=>⟨λd=>?_,λd=>⟨λc=>by simp[h3,c],λc=>by simp[h3,d,c]⟩⟩⟩;rw[Dk];exact⟨λc=>by simp[h3,d,c],λc=>⟨λe=>Ab,λe=>by simp[h3,c,e]⟩⟩
def f264(n:Int)(h:Ah):∃F,Co cx 182 [I n] h F h/\Sc F h (Nt n)/\F.cells=[F]:=by
 by_cases d:n=4
 .refine⟨.func (.func 200) [] [],?_,⟨_,_,rfl,Br,λa=>?_⟩,rfl⟩;.rw[Aj,Sw,wF];simp only[Cn,d,AD,AK,AG]
  .have:=aCN a h;simpa[Nt,d] using this
 .by_cases c:n=5
  .refine⟨.func (.func 201) [] [],?_,⟨_,_,rfl,Br,λa=>?_⟩,rfl⟩;.rw[Aj,Sw,wF];simp only[Cn,c,AD,AK,AG];simp
   .have:=aCO a h;simpa[Nt,c] using this
  .refine⟨.func (.func 202) [] [.B3 [I n]],?_,⟨_,_,rfl,Br,λa=>aCP n d c a h⟩,rfl⟩;rw[Aj,Sw,wF];simp only[Cn,d,c,AF,AK,AG]
def aCQ{g d:Aa}{q e:Item->Bool}(h1:Sc g h q)(h2:Sc d h e)(a:Item):Co cx 183 [.agg a.row,.B3 [g],.B3 [d]] h (.bool (q a||e a)) h:=by have m:=λk Q=>h1.Es a (k:=k) (Q:=Q);have j:=λk Q=>h2.Es a (k:=k) (Q:=Q);rw[Aj,lD,w_];obtain⟨f,caps,rfl,hf,i⟩:=h1;obtain⟨f',c,rfl,Ye,r2⟩:=h2;simp only[Cn,↓reduceIte,CA,Iq,hf,Ye,(i a).Ag,(r2 a).Ag];rw[Dk];exact⟨λh=>by simp[h],λh=>by simp[h]⟩
def ġ(hs:qJ h p l)(hn:l.length<=1000000000)(n:Int){F:Aa}{q:Item->Bool}(hF:Sc F h q):Co cx 141 [p,I n,F] h (.bool (OQ q (Nt n) l.reverse)) h:=by
 obtain⟨G,g,Ģ,Ig⟩:=f264 n h;have c:F.cells=[F]:=by obtain⟨f,caps,rfl,hf,_⟩:=hF;rfl
 have d:=hF;have hfit:Sc (.func (.func 183) [] [.B3 [F],.B3 [G]]) h (λa=>q a||Nt n a):=⟨183,_,rfl,Br,λa=>aCQ hF Ģ a⟩;rw[Aj,kF,vr];simp only[Cn,↓reduceIte,CA,c,g.Ag,Ig,(xm hs hn hfit).Ag];rw[<-dL l true];rcases DF (q:=λa=>q a||Nt n a) (l:=l) with⟨h1,h2⟩|⟨k,hk,h1,h2,h3⟩
 .simp[h1]
 .have e:(0:Int)<=(k:Int)/\(k:Int).toNat<l.length:=⟨Ab,by simpa using hk⟩;simp only[h1];rw[aH e];rcases hs with⟨rfl,rfl⟩|⟨id,o,v,rfl,hc,hv⟩
  .simp at hk
  .obtain⟨f,caps,rfl,hf,hr⟩:=d;simp only[Cn,Nat.reduceLeDiff,↓reduceIte,Iq,hf,e.1,AD,AK,AG,hc.load,Bb,hv.Dw hk,(hr l[k]).Ag,Bz]
def aCR{v:Aa}{ws:List Au}(hv:JR ws v)(hn:ws.length<=1000000000)(a:Item)(h:Ah):Co cx 142 [.agg a.row,.B3 [v]] h (.bool (BK ws a)) h:=by have b:=ZO hv hn a h;rw[Aj,da,ė];simp only[Cn,Iq,b.Ag]
def f136(hs:qJ h p l)(hn:l.length<=1000000000)(n:Int){v:Aa}{ws:List Au}(hv:JR ws v)(hw:ws.length<=1000000000):Co cx 82 [p,I n,v] h (.bool (OQ (BK ws) (Nt n) l.reverse)) h:=by have hfit:Sc (.func (.func 142) [] [.B3 [v]]) h (BK ws):=⟨142,_,rfl,Br,λa=>aCR hv hw a h⟩;rw[Aj,uf,t82];simp only[Cn,hv.cells,(ġ hs hn n hfit).Ag]
def f205(node:Int)(a:Item)(h:Ah):Co cx 170 [.agg a.row,.B3 [I node]] h (.bool (BL node a)) h:=by rw[Aj,lA,wu,Item.row];simp only[Cn,Iq,BL]
def aCS(hs:qJ h p l)(hn:l.length<=1000000000)(n node:Int):Co cx 127 [p,I n,I node] h (.bool (OQ (BL node) (Nt n) l.reverse)) h:=by have hfit:Sc (.func (.func 170) [] [.B3 [I node]]) h (BL node):=⟨170,_,rfl,Br,λa=>f205 node a h⟩;rw[Aj,jV,t127];simp only[Cn,(ġ hs hn n hfit).Ag]
def aCT(node:Int)(a:Item)(h:Ah):Co cx 146 [.agg a.row,.B3 [I node]] h (.bool (BL node a)) h:=by rw[Aj,kJ,t146,Item.row];simp only[Cn,Iq,BL]
def U9(hs:qJ h p l)(hn:l.length<=1000000000)(node:Int):Co cx 84 [p,I node] h (I (AR (BL node) l)) h:=by have hfit:Sc (.func (.func 146) [] [.B3 [I node]]) h (BL node):=⟨146,_,rfl,Br,λa=>aCT node a h⟩;rw[Aj,vV,t84];simp only[Cn,(xm hs hn hfit).Ag]
def aCU(s:Au)(a:Item)(h:Ah):Co cx 151 [.agg a.row,.B3 [.str s]] h (.bool (BK [s] a)) h:=by have b:=ZO (ws:=[s]) DR (Av:[s].length<=1000000000) a h;rw[Aj,kO,wb];simp only[Cn,Iq,EI (ws:=[s]) (args:=[.str s]) rfl Av,b.Ag]
def xn(hs:qJ h p l)(hn:l.length<=1000000000)(s:Au):Co cx 93 [p,.str s] h (I (AR (BK [s]) l)) h:=by have hfit:Sc (.func (.func 151) [] [.B3 [.str s]]) h (BK [s]):=⟨151,_,rfl,Br,λa=>aCU s a h⟩;rw[Aj,vZ,t93];simp only[Cn,(xm hs hn hfit).Ag]
end
end
section
section
variable{h:Ah}{p v:Aa}{l:List Item}
def f186(hv:C9 l v)(a:Item){n:Nat}(hn:n<=l.length)(hb:l.length<=1000000000):∃u,Co cx 137 [v,.agg a.row,I (n:Int)] h u h/\C9 (l.take n++a::l.drop n) u:=by
 have MV:(l.length+1)*40<=AN:=by have:AN=140737488355328:=rfl;omega
 obtain⟨s,q,h1⟩:=Bn.RK hv (k:= .i64) hn;obtain⟨u2,m,h2⟩:=Bn.Nr h1 (b:=40) (by rw[Aw];have:AN=140737488355328:=rfl;omega);have j:=Bn.V6 (a:=a) h2 (b:=40) (by rw[Aw];have:AN=140737488355328:=rfl;omega);obtain⟨r,i,e⟩:=Bn.iT hv (k:= .i64) hn;obtain⟨d,g,c⟩:=Bn.bk (v:= .sl 4 ((l.take n++[a]).map Item.row)) .mk e (b:=40) (by rw[Ap,Aw,A5,BN];have:AN=140737488355328:=rfl;omega);refine⟨d,?_,by rw[AA] at c;exact c⟩;rw[Aj,kC,vo];simp only[Cn,Iq,q,m,tX,j,i,g]
def f95{id o:Nat}(hs:J9 h id o l)(hb:l.length<=1000000000)(a:Item):∃u,Co cx 77 [Pt id o,.agg a.row] h (.tuple []) (put h id o u)/\C9 (l++[a]) u:=by obtain⟨v,hc,hv⟩:=hs;obtain⟨u,hr,hu⟩:=f186 (h:=h) hv a (n:=l.length) (Ae _) hb;rw[B6,Hm] at hu;refine⟨u,?_,hu⟩;rw[Aj,vS,t77];simp only[Cn,Iq,O4,C2,hc.load,Bb,Bn.FL hv,hr.Ag,hc.store hu.cells]
def aCV(hs:qJ h p l)(hb:l.length<=1000000000)(node:Int):Co cx 128 [p,I node] h (I (D8 node l)) h:=by
 rw[Aj,jW,vh];have a: -1<=AR (BL node) l/\AR (BL node) l<l.length+1:=by rcases DF (q:=BL node) (l:=l) with⟨h1,h2⟩|⟨n,hn,h1,h2,h3⟩<;>rw[h1]<;>omega
 simp only[Cn,(U9 hs hb node).Ag,Xs (Ab: -9223372036854775808<=AR (BL node) l+1) (Ab:AR (BL node) l+1<9223372036854775808)];rw[KZ];by_cases Is:AR (BL node) l<0;.rw[Ad Is];refine BF (λn:Nat=>[I 0,I (AR (BL node) l+1)]) (λn h1=>h1=h) (λn=>n) 0 rfl rfl ?_;rintro n h1 rfl;have i1:¬0<=AR (BL node) l:=Ab;simp only[Cn,i1,AF,AK,AG]
 .rw[Ac Is];have i0:0<=AR (BL node) l:=Ab;obtain⟨m,hm⟩:=Qj i0;refine BF (λn:Nat=>[I 0,I (n:Int)]) (λn h1=>FA IG l (m+1)=FA IG l n/\h1=h) (λn=>l.length-n) (m+1) (by rw[hm];rfl) ⟨rfl,rfl⟩ ?_;rw[hm,Bz];rintro n h1 ⟨ha,rfl⟩;simp only[Cn,(Ab:(0:Int)<=(m:Int)),AD,AK,AG,(QY hs).Ag];rcases A8 n l.length with hlt|GR
  .have i1:(n:Int)<(l.length:Int):=by omega
   rw[Xv hlt] at ha;rcases hs with⟨rfl,rfl⟩|⟨id,o,v,rfl,hc,hv⟩
   .simp at hlt
   .simp only[Cn,Iq,i1,AD,AK,AG,hc.load,Bb,Bn.Dw hv hlt,Ug,Cu (Ab:n<9223372036854775807)];rw[Dk];refine⟨λhe=>?_,λhe=>?_⟩;.rw[ha,Ad (by exact he)]
    .rw[Ac (by simp[IG,he])] at ha;exact A7.next (n+1) rfl ⟨ha,rfl⟩ Ab
  .have i1:¬(n:Int)<(l.length:Int):=by omega
   rw[UY GR] at ha;simp only[Cn,i1,AF,AK,AG,ha]
end
end
section
def Uh(F:Aa)(q:Item->Bool):Prop:=∃f caps,F= .func (.func f) [] caps/\f<=99999/\∀(a:Item) (h:Ah),Co cx f (.agg a.row::caps) h (.bool (q a)) h
section
variable{h:Ah}{p v:Aa}{l:List Item}
def f42{id o:Nat}(hs:J9 h id o l)(hb:l.length<=1000000000)(h2:2<=l.length):∃u,Co cx 40 [Pt id o] h (.agg (Hz l).row) (put h id o u)/\C9 (l.take (l.length-1)) u:=by obtain⟨v,hc,hv⟩:=(show J9 h id o l from hs);obtain⟨u,e,hu⟩:=Bn.RK hv (k:= .i64) (Ab:l.length-1<=l.length);refine⟨u,?_,hu⟩;have a:(l.length:Int)-1=((l.length-1:Nat):Int):=Ab;rw[Aj,XE,Ē];simp only[Cn,Iq,(QY hs.at).Ag,(f39 hs.at hb).Ag,hc.load,Bb,Bn.FL hv,D7 (Ab: -9223372036854775808<=(l.length:Int)-1) (Ab:(l.length:Int)-1<9223372036854775808),a,e,hc.store (Bn.cells hu),(Ab:¬(l.length:Int)<2),AF,AK,AG]
def dn{id o:Nat}(hs:J9 h id o l)(hb:l.length<=1000000000){B A:Aa}{b a:Item->Bool}(hB:Uh B b)(c:Uh A a):
  ∃u,Co cx 97 [Pt id o,B,A] h (I ((l.length:Int)-((D9 b a l).length:Int))) (put h id o u)/\C9 (D9 b a l) u:=by
 obtain⟨d,i,rfl,ģ,rb⟩:=hB;obtain⟨fa,ca,rfl,hfa,ra⟩:=c;have hlt:=hs.lt;have Ng:Ev cx 97 [Pt id o,.func (.func d) [] i,.func (.func fa) [] ca] h λr h'=>r= I ((l.length:Int)-((D9 b a l).length:Int))/\∃u,h'=put h id o u/\C9 (D9 b a l) u:=by
  unfold Ev;rw[wB,t97];refine BF (λn:Nat=>[I ((l.length:Int)-(n:Int))]) (λn h1=>n<=l.length/\(∃u,h1=put h id o u/\C9 (l.take n) u)/\D9 b a l=D9 b a (l.take n)) (λn=>n) l.length Av ⟨Ae _,by rw[B6];exact hs.Xx,by rw[B6]⟩ ?_;rintro n h1 ⟨hn,⟨u,rfl,hu⟩,ha⟩;have KM:J9 (put h id o u) id o (l.take n):= .rk hlt hu;have YC:(l.take n).length=n:=by rw[Aw];omega
  simp only[Cn,↓reduceIte,(QY KM.at).Ag,YC];match n,hn,hu,ha,KM,YC with
  |0,hn,hu,ha,KM,YC=>rw[Zq (l:=l.take 0) Av] at ha;simp only[Cn,(Ab:¬(1:Int)<((0:Nat):Int)),AF,AK,AG];exact⟨_,rfl,by rw[ha];rfl,u,rfl,by rw[ha];exact hu⟩
  |1,hn,hu,ha,KM,YC=>rw[Zq (l:=l.take 1) (by rw[YC];exact Ae _)] at ha;simp only[Cn,(Ab:¬(1:Int)<((1:Nat):Int)),AF,AK,AG];exact⟨_,rfl,by rw[ha,YC],u,rfl,by rw[ha];exact hu⟩
  |m+2,hn,hu,ha,KM,YC=>
   have hm:m+1<l.length:=Ab;have g:((l.length:Int)-((m+2:Nat):Int))+1=(l.length:Int)-((m+1:Nat):Int):=Ab;obtain⟨u2,hr,PG⟩:=f42 KM Ab Ab;rw[TR hm] at hr;have e:(l.take (m+2)).take ((l.take (m+2)).length-1)=l.take (m+1):=by rw[YC,Gk,Cr Ab];rfl
   rw[e] at PG;rw[Xt] at hr;have Ĥ:=f39 KM.at Ab;rw[TR hm] at Ĥ;rw[oL hm] at ha;simp only[Cn,↓reduceIte,CA,hfa,ģ,(Ab:(1:Int)<((m+2:Nat):Int)),AD,AK,AG,Ĥ.Ag,(rb _ _).Ag,hr.Ag,(ra _ _).Ag,Xs (Ab: -9223372036854775808<=((l.length:Int)-((m+2:Nat):Int))+1) (Ab:((l.length:Int)-((m+2:Nat):Int))+1<9223372036854775808),g];rw[Dk,Dk];refine⟨λO8=>⟨λsW=>?_,λsW=>?_⟩,λO8=>?_⟩
   .have O8:b l[m+1]=false:=by simpa using O8
    rw[Ac (by simp[O8]),Ad sW] at ha;exact⟨_,rfl,by rw[ha,Aw,Cr Ab],u2,rfl,by rw[ha];exact PG⟩
   .have O8:b l[m+1]=false:=by simpa using O8
    rw[Ac (by simp[O8]),Ac (by simp[sW])] at ha;exact A7.next (m+1) rfl ⟨Ab,⟨u2,rfl,PG⟩,ha⟩ Ab
   .have O8:b l[m+1]=true:=by simpa using O8
    rw[Ad O8] at ha;exact⟨_,rfl,by rw[ha,YC],u,rfl,by rw[ha];exact hu⟩
 obtain⟨r,h',hr,rfl,u,rfl,hu⟩:=Ng.ret;exact⟨u,hr,hu⟩
def Mz:Uh (.func (.func 98) [] []) Ee:=⟨_,_,rfl,Br,λa h=>by rw[Aj,wC,t98];simp only[Cn,Iq,Ee]⟩
def fA{w:Aa}{ws:List Au}(hw:JR ws w)(hn:ws.length<=1000000000):Uh (.func (.func 99) [] [.B3 [w]]) (BK ws):=⟨_,_,rfl,Br,λa h=>by rw[Aj,uj,t99];simp only[Cn,Iq,(ZO hw hn a h).Ag]⟩
def XR(s:Au):Uh (.func (.func 143) [] [.B3 [.str s]]) (Ht s):=⟨_,_,rfl,Br,λa h=>by
 rw[Aj,kG,vt];simp only[Cn,Iq,wL,Ht];refine⟨λh1=>by simp[h1],λh1=>?_⟩;rw[Dk];refine⟨λh2=>?_,λh2=>?_⟩
 .have h2:a.name∉IF:=by simpa using h2
  simp[h2]
 .have h2:a.name∈IF:=by simpa using h2
  have h1:a.AY=1:=by simpa using h1
  simp[h2,h1]⟩
def Va:Uh (.func (.func 152) [] []) DI:=⟨_,_,rfl,Br,λa h=>by
 rw[Aj,db,Ę];simp only[Cn,Iq,wM,DI];refine⟨λh1=>by simp[h1],λh1=>?_⟩;have h1:a.AY=1:=by simpa using h1
 simp[h1]⟩
def XS(node:Int):Uh (.func (.func 147) [] [.B3 [I node]]) (BL node):=⟨_,_,rfl,Br,λa h=>by rw[Aj,kK,vy];simp only[Cn,Iq,BL]⟩
def ĥ{id o:Nat}(hs:J9 h id o l)(hb:l.length<=1000000000)(s:Au):
  ∃u,Co cx 83 [Pt id o,.str s] h (I ((l.length:Int)-((D9 (Ht s) Ee l).length:Int))) (put h id o u)/\C9 (D9 (Ht s) Ee l) u:=by
 obtain⟨u,hr,hu⟩:=dn hs hb (XR s) Mz;exact⟨u,by rw[Aj,vU,t83];simp only[Cn,hr.Ag],hu⟩
def f66{id o:Nat}(hs:J9 h id o l)(hb:l.length<=1000000000){w:Aa}{ws:List Au}(hw:JR ws w)(hn:ws.length<=1000000000):
  ∃u,Co cx 42 [Pt id o,w] h (I ((l.length:Int)-((D9 Ee (BK ws) l).length:Int))) (put h id o u)/\C9 (D9 Ee (BK ws) l) u:=by
 obtain⟨u,hr,hu⟩:=dn hs hb Mz (fA hw hn);exact⟨u,by rw[Aj,tn,t42];simp only[Cn,JR.cells hw,hr.Ag],hu⟩
def aCX{id o:Nat}(hs:J9 h id o l)(hb:l.length<=1000000000):
  ∃u,Co cx 94 [Pt id o] h (I ((l.length:Int)-((D9 DI Ee l).length:Int))) (put h id o u)/\C9 (D9 DI Ee l) u:=by
 obtain⟨u,hr,hu⟩:=dn hs hb Va Mz;exact⟨u,by rw[Aj,ui,t94];simp only[Cn,hr.Ag],hu⟩
def Ħ{id o:Nat}(hs:J9 h id o l)(hb:l.length<=1000000000)(node:Int):
  ∃u,Co cx 87 [Pt id o,I node] h (I ((l.length:Int)-((FM node l).length:Int))) (put h id o u)/\C9 (FM node l) u:=by
 by_cases Is:AR (BL node) l<0;.obtain⟨u,e,hu⟩:=hs.Xx;refine⟨u,?_,by rw[FM,Ad Is];exact hu⟩;rw[FM,Ad Is,Int.sub_self,Aj,eW,t87];simp only[Cn,(U9 hs.at hb node).Ag,Is,AD,AK,AG];exact e
 .obtain⟨u,hr,hu⟩:=dn hs hb Mz (XS node);refine⟨u,?_,by rw[FM,Ac Is];exact hu⟩;rw[FM,Ac Is,Aj,eW,t87];simp only[Cn,(U9 hs.at hb node).Ag,Is,AF,AK,AG,hr.Ag]
end
end
section
section
variable{h:Ah}{p v:Aa}{l:List Item}
def aCY(hv:C9 l v){k:Nat}(hk:k<l.length)(hb:l.length<=1000000000):∃u,Co cx 173 [v,I (k:Int)] h u h/\C9 (Bm l k) u:=by obtain⟨q,j,h1⟩:=Bn.RK hv (k:= .i64) (Ab:k<=l.length);obtain⟨u2,i,h2⟩:=Bn.Nr h1 (b:=40) (iU (by rw[Aw];omega));obtain⟨m,g,d⟩:=Bn.iT hv (k:= .i64) (Ab:k+1<=l.length);obtain⟨a,e,c⟩:=Bn.bk h2 d (b:=40) (iU (by rw[Aw,A5];omega));refine⟨a,?_,c⟩;rw[Aj,lB,wv];simp only[Cn,j,i,Cu (Ab:k<9223372036854775807),g,e]
def xo{id o:Nat}(hs:J9 h id o l)(hb:l.length<=1000000000)(node:Int):∃u,Co cx 131 [Pt id o,I node] h (.bool (decide (1<=AR (BL node) l))) (put h id o u)/\C9 (Dg node l) u:=by
 by_cases Is:AR (BL node) l<1;.obtain⟨u,e,hu⟩:=hs.Xx;refine⟨u,?_,by rw[Dg,Ad Is];exact hu⟩;rw[Aj,XM,c_,<-e];simp only[Cn,(U9 hs.at hb node).Ag,Is,AD,AK,AG,(Ab:¬1<=AR (BL node) l),Ck]
 .rcases DF (q:=BL node) (l:=l) with⟨h1,_⟩|⟨k,hk,h1,_⟩
  .rw[h1] at Is;omega
  .obtain⟨v,hc,hv⟩:=(show J9 h id o l from hs);obtain⟨u,hr,hu⟩:=aCY (h:=h) hv hk hb;refine⟨u,?_,by rw[Dg,Ac Is,h1];exact hu⟩;rw[Aj,XM,c_];simp only[Cn,(U9 hs.at hb node).Ag,hc.load,Bb,h1];rw[h1] at Is;simp only[Cn,hr.Ag,Bb,hc.store (C9.cells hu),show¬(k:Int)<1 from Is,AF,AK,AG,(Ab:(1:Int)<=(k:Int)),CR]
def aCZ{id o:Nat}(hs:J9 h id o l)(hb:l.length<=1000000000)(a:Item)(i:Int):∃u,Co cx 132 [Pt id o,.agg a.row,I i] h (.tuple []) (put h id o u)/\C9 (l.take (GI i l.length)++a::l.drop (GI i l.length)) u:=by
 obtain⟨v,hc,hv⟩:=(show J9 h id o l from hs);obtain⟨u,hr,hu⟩:=f186 (h:=h) hv a (n:=GI i l.length) (by unfold GI;omega) hb;refine⟨u,?_,hu⟩;rw[Aj,jZ,vn];have c:(if(l.length:Int)<(if i<1 then 1 else i) then(l.length:Int) else(if i<1 then 1 else i))=((GI i l.length:Nat):Int):=by unfold GI;split<;>split<;>omega
 simp only[Cn,Iq,O4,C2,hc.load,Bb,Xn,Bn.FL hv,tQ,c,hr.Ag,hc.store (C9.cells hu)]
def aC0(hv:C9 l v)(hne:l≠[])(hb:l.length<=1000000000):Co cx 190 [v] h (.CI h.length 0 l.length 4) (h++[.cells (l.map Item.row).flatten]):=by
 have d:Ax (.Gb false .sl) [v,.slnil]=some (.bool false):=by
  rcases hv with rfl|⟨rfl,hv⟩
  .rfl
  .exact absurd (by simpa using hv) hne
 have c:Ax (.Cb 4) []=some (.sl 4 []):=rfl;have a:=No (h:=h) (s:= .sl 4 []) (z:=4) (b:=40) (.inr rfl) hv (by simpa using hne) (by rw[As];exact iU Ab);rw[As] at a;rw[Aj,lG,xc];simp only[Cn,d,c,a]
section
variable{id o n z:Nat}{v w:Aa}{X Y:DH}{Af:List (List Aa)}
def At.next(ha:At h id o v):(Am.put h id o w++[X])[h.length]?=some X/\At (Am.put h id o w++[X]) id o w/\(Am.put h id o w++[X]).set h.length Y=Am.put h id o w++[Y]:=by have e:=KY (h:=h) (id:=id) (o:=o) (u:=w);refine⟨by rw[<-e];simp,ha.put.Ja,?_⟩;rw[Ce _ _ Ab,<-e,DL];rfl
def At.lO(ha:At h id o v)(hv:Lf h v=some (h,v)):Kk h 0 (Pt id o)=some h:=by have a:=ha.same;obtain⟨cs,hc,e⟩:=ha;simp only[Kk,hc,Bb,e,hv,BZ];rw[HD hc] at a;rw[a]
def At.lP(ha:At h id o v)(hr:∀r∈Af,r.length=z):Kk (Am.put h id o (.CI h.length 0 Af.length z)++[.cells Af.flatten]) 0 (Pt id o)=some (Am.put h id o (.sl z Af)++[.DD]):=by obtain⟨d,c,a⟩:=ha.next (w:= .CI h.length 0 Af.length z) (X:= .cells Af.flatten) (Y:= .DD);have f1:=QJ hr d;rw[a] at f1;have a2:=(ha.next (w:= .CI h.length 0 Af.length z) (X:= .DD) (Y:= .DD)).2.1;obtain⟨cs,hc,e⟩:=c;obtain⟨Pv,JJ,g⟩:=a2;simp only[Kk,hc,Bb,e,f1,BZ,JJ];rw[<-HD (u:= .sl z Af) JJ,Xu ha.put,Xt]
end
def f207{id o:Nat}(hs:J9 h id o l)(hb:l.length<=1000000000)(node:Int)(a:Item):∃u t,Co cx 171 [Pt id o,I node,.agg a.row] h (.bool (decide (1<=AR (BL node) l))) (put h id o u++t)/\C9 (Nu node a l) u:=by
 obtain⟨v,hc,hv⟩:=(show J9 h id o l from hs);by_cases Is:AR (BL node) l<1;.refine⟨v,[],?_,by rw[Nu,Ad Is];exact hv⟩;have c:=hc.lO (Bn.SC hv);rw[Aj,XP,dg,hc.same,Bi];simp only[Cn,Iq,(U9 hs.at hb node).Ag,Is,AD,AK,AG,c,(Ab:¬1<=AR (BL node) l),Ck]
 .rcases DF (q:=BL node) (l:=l) with⟨h1,_⟩|⟨k,hk,h1,_⟩
  .rw[h1] at Is;omega
  .have d:¬(k:Int)<1:=by rw[h1] at Is;exact Is
   have hne:l≠[]:=by intro e;subst e;simp at hk
   have hcl:=aC0 (h:=h) hv hne hb;have j:=(hc.Ja (t:=[DH.cells (l.map Item.row).flatten])).store (u:= .CI h.length 0 l.length 4) rfl;rw[Xu hc] at j;obtain⟨s,x,r⟩:=hc.next (w:= .CI h.length 0 l.length 4) (X:= .cells (l.map Item.row).flatten) (Y:= .cells ((l.map Item.row).set k a.row).flatten);have g:=RI (z:=4) (ÿ l) s (i:=k) (by simpa using hk) (q:=a.row) rfl;rw[r] at g;have m:Ax (.ER 4) [.CI h.length 0 l.length 4,I (k:Int)]=some (Pt h.length (k*4)):=E8 hk;have c:=hc.lP (Zl (ÿ l) (i:=k) (q:=a.row) rfl);rw[BJ,As] at c;refine⟨.sl 4 ((l.map Item.row).set k a.row),[.DD],?_,?_⟩;.rw[Aj,XP,dg];simp only[Cn,Iq,(U9 hs.at hb node).Ag,h1,d,AF,AK,AG,hc.load,Bb,hcl.Ag,j,x.load,m,g,c,(Ab:(1:Int)<=(k:Int)),CR]
   .rw[Nu,Ac Is,h1,Bz,C9,F5];exact .mk
end
end
section
section
variable{h:Ah}{p v w:Aa}{l:List Item}{ws:List Au}
end
end
section
section
variable{e:CM}{d:Aa}
end
section
variable{h:Ah}{v:Aa}{l:List CM}{id o:Nat}
def f99(hc:At h id o v)(hv:Er l v)(hb:l.length<=1000000000):Co cx 96 [Pt id o] h (I (since l)) h:=by
 have hv:Bn 3 (l.map CM.row) v:=hv;rw[Aj,wA,t96];simp only[Cn,hc.load,Bb,hv.FL];refine BF (λn:Nat=>[I (n:Int)]) (λn h1=>n<=l.length/\since l=since (l.take n)/\h1=h) (λn=>n) l.length rfl ⟨Ae _,by rw[B6],rfl⟩ ?_;rintro n h1 ⟨hn,ha,rfl⟩;cases n with
 |zero=>simp only[Cn,(Ab:¬(0:Int)<((0:Nat):Int)),AF,AK,AG,ha,oM];rfl
 |succ n=>rw[dO hn] at ha;simp only[Cn,(Ab:(0:Int)<((n+1:Nat):Int)),AD,AK,AG,hc.load,Bb,Ln (Ab:0<n+1) (Ab:n+1<9223372036854775807),JY,hv.Dw (show n<l.length from hn),CM.bl];refine⟨λh0=>A7.next n rfl ⟨Ab,by rw[ha,Ac h0],rfl⟩ Ab,λh0=>?_⟩;rw[Ad (by simpa using h0)] at ha;rw[ha];rfl
def aC1(hc:At h id o v)(hv:Er l v)(hb:l.length<=1000000000)(name:Au):Co cx 125 [Pt id o,.str name] h (I (Ot name l)) h:=by
 have hv:Bn 3 (l.map CM.row) v:=hv;rw[Aj,jT,vf];simp only[Cn,GF,hc.load,Bb,hv.FL,D7 (Ab: -9223372036854775808<=(l.length:Int)-1) (Ab:(l.length:Int)-1<9223372036854775808)];refine BF (λn:Nat=>[I 0,I ((n:Int)-1)]) (λn h1=>n<=l.length/\Ot name l=Ot name (l.take n)/\h1=h) (λn=>n) l.length rfl ⟨Ae _,by rw[B6],rfl⟩ ?_;rintro n h1 ⟨hn,ha,rfl⟩;cases n with
 |zero=>have i1:¬(0:Int)<=((0:Nat):Int)-1:=Ab;rw[ha];simp only[Cn,i1,AF,AK,AG,oN]
 |succ n=>
  have a:((n+1:Nat):Int)-1=(n:Int):=Ab;rw[dP hn] at ha;simp only[Cn,a,(Ab:(0:Int)<=(n:Int)),AD,AK,AG,hc.load,Bb,hv.Dw (show n<l.length from hn),CM.bl,CM.tW,D7 (Ab: -9223372036854775808<=(n:Int)-1) (Ab:(n:Int)-1<9223372036854775808)];refine⟨λh0=>⟨λh1=>?_,λh1=>?_⟩,λh0=>?_⟩;.rw[ha,Ac h0,Ad h1]
  .exact A7.next n rfl ⟨Ab,by rw[ha,Ac h0,Ac h1],rfl⟩ Ab
  .rw[ha,Ad (by simpa using h0)]
def f41(hc:At h id o v)(hv:Er l v)(hb:l.length<=1000000000)(node:Int):Co cx 70 [Pt id o,I node] h (I (Jb node l)) h:=by
 have hv:Bn 3 (l.map CM.row) v:=hv;rw[Aj,vQ,t70];simp only[Cn,GF,hc.load,Bb,hv.FL,D7 (Ab: -9223372036854775808<=(l.length:Int)-1) (Ab:(l.length:Int)-1<9223372036854775808)];refine⟨λh0=>by rw[Jb,Ad h0],λh0=>?_⟩;rw[Jb,Ac h0];refine BF (λn:Nat=>[I 0,I ((n:Int)-1)]) (λn h1=>n<=l.length/\AR (QN node) l=AR (QN node) (l.take n)/\h1=h) (λn=>n) l.length rfl ⟨Ae _,by rw[B6],rfl⟩ ?_;rintro n h1 ⟨hn,ha,rfl⟩;cases n with
 |zero=>have i1:¬(0:Int)<=((0:Nat):Int)-1:=Ab;rw[ha];simp only[Cn,i1,AF,AK,AG,Ns]
 |succ n=>
  have a:((n+1:Nat):Int)-1=(n:Int):=Ab;rw[Mr hn] at ha;simp only[Cn,a,(Ab:(0:Int)<=(n:Int)),AD,AK,AG,hc.load,Bb,hv.Dw (show n<l.length from hn),CM.bl,D7 (Ab: -9223372036854775808<=(n:Int)-1) (Ab:(n:Int)-1<9223372036854775808)];refine⟨λh1=>?_,λh1=>?_⟩;.rw[ha,Ad (by simpa[QN] using h1)]
  .exact A7.next n rfl ⟨Ab,by rw[ha,Ac (by simpa[QN] using h1)],rfl⟩ Ab
end
section
variable{h:Ah}{v:Aa}{l:List A0}
def aC3(hv:Cw l v)(hb:l.length<=1000000000)(x:A0):Co cx 185 [v,.agg x.row] h (I (BV (λa=>decide (x=a)) 0 l)) h:=by
 have hv:Bn 3 (l.map A0.row) v:=hv;rw[Aj,lE,xa];simp only[Cn,hv.FL,A0.Df,A0.g0,A0.g1,A0.g2,A0.R6];refine BF (λn:Nat=>[I 0,I (n:Int)]) (λn h1=>n<=l.length/\BV (λa=>decide (x=a)) 0 l=BV (λa=>decide (x=a)) n (l.drop n)/\h1=h) (λn=>l.length-n) 0 rfl ⟨AZ _,rfl,rfl⟩ ?_;rintro n h1 ⟨hn,ha,rfl⟩;rcases A8 n l.length with hlt|GR
 .have i1:(n:Int)<(l.length:Int):=by omega
  rw[AB hlt,BV] at ha;simp only[Cn,i1,AD,AK,AG,hv.Dw hlt,A0.Df,A0.HN,Ae,tY,Bool.bne_false,Cu (Ab:n<9223372036854775807)];refine⟨λh0=>?_,λh0=>?_⟩;.rw[ha,Ad (by simpa using h0)]
  .exact A7.next (n+1) rfl ⟨hlt,by rw[ha,Ac (by simpa using h0)],rfl⟩ Ab
 .have i1:¬(n:Int)<(l.length:Int):=by omega
  rw[A6 GR,BV] at ha;simp only[Cn,i1,AF,AK,AG,ha]
def f192(hv:Cw l v)(hb:l.length<=1000000000)(x:A0):Co cx 162 [v,.agg x.row] h (.bool (decide (x∈l))) h:=by
 rw[Aj,kW,wm];simp only[Cn,A0.Df,A0.g0,A0.g1,A0.g2,A0.R6,(aC3 hv hb x).Ag];rcases Gs (p:=λa=>decide (x=a)) (l:=l) (k:=0) with⟨h1,h2⟩|⟨n,a,h1,h2,h3⟩
 .rw[h1];have:x∉l:=λhm=>by have:=HG.1 h2 x hm;simp at this
  simp[this]
 .have hm:=Ca h2;have he:x=a:=by simpa using RQ h3
  have hx:x∈l:=by rw[he];exact hm
  rw[h1];simp[hx]
def ZP(F:Aa)(h:Ah)(q:A0->Bool):Prop:=∃f caps,F= .func (.func f) [] caps/\f<=99999/\∀a:A0,Co cx f (.agg a.row::caps) h (.bool (q a)) h
def ħ{F:Aa}{q:A0->Bool}(hv:Cw l v)(hb:l.length<=1000000000)(hF:ZP F h q):Co cx 138 [v,F] h (I (BV q 0 l)) h:=by
 have hv:Bn 3 (l.map A0.row) v:=hv;obtain⟨f,caps,rfl,hf,hr⟩:=hF;rw[Aj,Su,wD];simp only[Cn,hv.FL];refine BF (λn:Nat=>[I 0,I (n:Int)]) (λn h1=>n<=l.length/\BV q 0 l=BV q n (l.drop n)/\h1=h) (λn=>l.length-n) 0 rfl ⟨AZ _,rfl,rfl⟩ ?_;rintro n h1 ⟨qM,ha,rfl⟩;rcases A8 n l.length with hlt|GR
 .have i1:(n:Int)<(l.length:Int):=by omega
  rw[AB hlt,BV] at ha;simp only[Cn,↓reduceIte,CA,hf,i1,AD,AK,AG,hv.Dw hlt,A0.Df,A0.HN,Ae,(hr l[n]).Ag];rw[Dk];refine⟨λhe=>?_,λhe=>?_⟩;.rw[ha,Ad he]
  .rw[Ac (by simp[he])] at ha;simp only[Cn,Cu (Ab:n<9223372036854775807)];exact A7.next (n+1) rfl ⟨hlt,ha,rfl⟩ Ab
 .have i1:¬(n:Int)<(l.length:Int):=by omega
  rw[A6 GR,BV] at ha;simp only[Cn,↓reduceIte,CA,hf,i1,AF,AK,AG,ha]
def Ĩ{F:Aa}{q:A0->Bool}(hv:Cw l v)(hb:l.length<=1000000000)(hF:ZP F h q):Co cx 90 [v,F] h (.bool (l.any q)) h:=by
 rw[Aj,eX,t90];simp only[Cn,(ħ hv hb hF).Ag];have:l.any q=(l.find? q).isSome:=by rw[qB,List.find?_isSome,gD]
 rw[this];rcases Gs (p:=q) (l:=l) (k:=0) with⟨h1,h2⟩|⟨n,a,h1,h2,h3⟩
 .rw[h1,h2];simp
 .rw[h1,h3];simp
def f191(hv:Cw l v)(hb:l.length<=1000000000)(x:A0):Co cx 161 [.agg x.row,.B3 [v]] h (.bool (!decide (x∈l))) h:=by rw[Aj,kU,wk];simp only[Cn,A0.Df,A0.g0,A0.g1,A0.g2,A0.R6,(f192 hv hb x).Ag]
def ĩ{b:List A0}{w:Aa}(hv:Cw l v)(hb:l.length<=1000000000)(hw:Cw b w)(MR:b.length<=1000000000):Co cx 160 [v,w] h (.bool (decide (∀x∈l,x∈b))) h:=by
 have hF:ZP (.func (.func 161) [] [.B3 [w]]) h λx=> !decide (x∈b):=⟨161,_,rfl,Br,λa=>f191 hw MR a⟩;have e:(!l.any λx=> !decide (x∈b))=decide (∀x∈l,x∈b):=by rw[qB];simp
 rw[Aj,kT,wj,<-e];simp only[Cn,Bn.cells hw,(Ĩ hv hb hF).Ag]
def aC4{a b:CM}(ha:qK a)(hb:qK b):Co cx 113 [.agg a.row,.agg b.row] h (.bool (JS a.c b.c)) h:=by
 have f:=ĩ (h:=h) a.ok ha b.ok hb;have r2:=ĩ (h:=h) b.ok hb a.ok ha;rw[Aj,jK,uv];simp only[Cn,Nat.reduceLeDiff,↓reduceIte,CA,Bi,CM.Df,CM.g1,CM.g2,CM.aB2,f.Ag,r2.Ag];refine⟨λh1=>⟨λh2=>⟨λh3=>?_,λh3=>?_⟩,λh2=>?_⟩,λh1=>?_⟩
 .have Yd:a.c.AE.length=b.c.AE.length:=by omega
  simp only[JS,h1,Yd,IP];congr 3
  rw[eq_iff_iff];exact⟨λh=>⟨h3,h⟩,λh=>h.2⟩
 .simp[JS,h3]
 .have Yd:¬a.c.AE.length=b.c.AE.length:=by omega
  simp[JS,Yd]
 .simp[JS,h1]
end
end
section
def C5{Q:Iw}{h:Ah}{a:Aa}{k:IT}:W cx (.same a a k) Q h↔W cx k Q h:=by refine⟨λhw=>?_,mw (Aa.PM a)⟩;obtain⟨m,x',GJ,h',hr,q⟩:=hw.succ;simp only[IT.step,Aa.PM,BE] at hr;exact CD ⟨m,x',GJ,h',hr,q⟩
section
variable{h:Ah}{v:Aa}{l:List CM}{id o:Nat}
def f45{l:List A0}(hv:Cw l v)(hb:l.length<=1000000000):∃u,Co cx 47 [v] h u h/\Cw l u:=by
 have hv:Bn 3 (l.map A0.row) v:=hv;rcases hv with rfl|⟨rfl,hn⟩
 .refine⟨.sl 3 (l.map A0.row),?_,.mk⟩;have b:Ax (.Gb false .sl) [.sl 3 (l.map A0.row),.slnil]=some (.bool false):=rfl;have f:Ax (.Cb 3) []=some (.sl 3 []):=rfl;have c:Oe h 3 40 (.sl 3 []) (.sl 3 (l.map A0.row))=some (.sl 3 (l.map A0.row)):=by
   simp only[Oe,Gc,BE,BZ];cases l with
   |nil=>rfl
   |cons a l=>have:(l.length+1)*40<=AN:=iU (by simp at hb;omega);simp[C0,this]
  rw[Aj,eP,t47];simp only[Cn,b,f,c]
 .refine⟨.slnil,?_,?_⟩;.have b:Ax (.Gb false .sl) [.slnil,.slnil]=some (.bool true):=rfl;rw[Aj,eP,t47];simp only[Cn,b]
  .exact .inr ⟨rfl,hn⟩
def wN{e:CM}(he:qK e):∃a:CM,a.c=e.c/\Co cx 115 [.agg e.row] h (.agg a.row) h:=by obtain⟨u,r,hu⟩:=f45 (h:=h) e.ok he;refine⟨⟨e.c,u,hu⟩,rfl,?_⟩;rw[Aj,jM,ux];simp only[Cn,CM.Df,CM.g0,CM.g1,CM.g2,r.Ag,Bn.cells hu];rfl
def aC5(hv:Er l v){k:Nat}(hk:k<l.length)(hb:l.length<=1000000000):∃u,Co cx 114 [v,I (k:Int)] h u h/\Er (Bm l k) u:=by obtain⟨q,m,h1⟩:=Bn.RK hv (k:= .i64) (Ab:k<=l.length);obtain⟨u2,j,h2⟩:=Bn.Nr h1 (b:=48) (V8 (by rw[Aw];omega));obtain⟨p,i,f⟩:=Bn.iT hv (k:= .i64) (Ab:k+1<=l.length);obtain⟨a,g,c⟩:=Bn.bk h2 f (b:=48) (V8 (by rw[Aw,A5];omega));refine⟨a,?_,c⟩;rw[Aj,jL,uw];simp only[Cn,m,j,Cu (Ab:k<9223372036854775807),i,g]
def wO(hv:Er l v)(e:CM){k:Nat}(hk:k<=l.length)(hb:l.length<=1000000000):∃u,Co cx 95 [v,.agg e.row,I (k:Int)] h u h/\Er (l.take k++e::l.drop k) u:=by obtain⟨w,r,h1⟩:=Bn.RK hv (k:= .i64) hk;obtain⟨u2,q,h2⟩:=Bn.Nr h1 (b:=48) (V8 (by rw[Aw];omega));have p:=Bn.V6 (a:=e) h2 (b:=48) (V8 (by rw[Aw];omega));obtain⟨t,m,i⟩:=Bn.iT hv (k:= .i64) hk;obtain⟨g,j,c⟩:=Bn.bk (f:=CM.row) (l:=l.take k++[e]) .mk i (b:=48) (V8 (by rw[Ap,Aw,A5,BN];omega));refine⟨g,?_,by rw[AA] at c;exact c⟩;rw[Aj,v8,t95];simp only[Cn,CM.Df,CM.g0,CM.g1,CM.g2,CM.R6,r,q,oO CM.Df,p,m,j]
def xq(hv:Er l v)(hne:l≠[])(hb:l.length<=1000000000):Co cx 85 [v] h (.CI h.length 0 l.length 3) (h++[.cells (l.map CM.row).flatten]):=by
 have f:Ax (.Gb false .sl) [v,.slnil]=some (.bool false):=by
  rcases hv with rfl|⟨rfl,hv⟩
  .rfl
  .exact absurd (by simpa using hv) hne
 have c:Ax (.Cb 3) []=some (.sl 3 []):=rfl;have a:=No (h:=h) (s:= .sl 3 []) (z:=3) (b:=48) (.inr rfl) hv (by simpa using hne) (by rw[As];exact V8 Ab);rw[As] at a;rw[Aj,XF,ē];simp only[Cn,f,c,a]
def f63(hs:QP h id o l)(hb:l.length<=1000000000):∃u,Co cx 38 [Pt id o] h (.tuple []) (put h id o u)/\Er (l++[Xz]) u:=by obtain⟨v,hc,hv⟩:=(show QP h id o l from hs);obtain⟨u,hr,hu⟩:=wO (h:=h) hv Xz (Ae l.length) hb;rw[B6,Hm] at hu;refine⟨u,?_,hu⟩;rw[Aj,tj,t38];simp only[Cn,↓reduceIte,Bl,O4,C2,hc.load,Bb,Bn.FL hv,tZ,hr.Ag,hc.store (Er.cells hu)]
def aC6(hs:QP h id o l)(hb:l.length<=1000000000){e:CM}(he:qK e)(i:Int):∃u a,a.c=e.c/\Co cx 130 [Pt id o,.agg e.row,I i] h (.tuple []) (put h id o u)/\Er (l.take (FN i l.length)++a::l.drop (FN i l.length)) u:=by
 obtain⟨v,hc,hv⟩:=(show QP h id o l from hs);obtain⟨a,YY,b⟩:=wN (h:=h) he;obtain⟨u,hr,hu⟩:=wO (h:=h) hv a (k:=FN i l.length) (by unfold FN;omega) hb;refine⟨u,a,YY,?_,hu⟩;have f:(if(l.length:Int)<(if i<0 then 0 else i) then(l.length:Int) else(if i<0 then 0 else i))=((FN i l.length:Nat):Int):=by unfold FN;split<;>split<;>omega
 rw[Aj,jY,vj];simp only[Cn,CM.Df,CM.g0,CM.g1,CM.g2,CM.R6,O4,C2,hc.load,Bb,Xn,Bn.FL hv,tQ,f,b.Ag,C5,hr.Ag,hc.store (Er.cells hu)]
def f65(hs:QP h id o l)(hb:l.length<=1000000000):∃u,Co cx 41 [Pt id o] h (I ((l.length:Int)-((Gz l:Nat):Int))) (put h id o u)/\Er (l.take (Gz l)) u:=by
 obtain⟨v,hc,hv⟩:=(show QP h id o l from hs);obtain⟨s,es,KM,_⟩:=OR l;have hcl:Gz l<=l.length:=by unfold Gz;omega
 obtain⟨u,b,hu⟩:=Bn.RK hv (k:= .i64) hcl;refine⟨u,?_,hu⟩;have a:(if since l-1<0 then 0 else since l-1)=((Gz l:Nat):Int):=by unfold Gz;split<;>omega
 have YC:(l.take (Gz l)).length=Gz l:=by rw[Aw];omega
 have c:At (put h id o u) id o u:=hc.put;rw[Aj,tl,t41];simp only[Cn,GF,hc.load,Bb,Bn.FL hv,(f99 hc hv hb).Ag,C5,D7 (Ab: -9223372036854775808<=since l-1) (Ab:since l-1<9223372036854775808),Xn,a,b,hc.store (Bn.cells hu),c.load,Bn.FL hu,YC,D7 (Ab: -9223372036854775808<=(l.length:Int)-((Gz l:Nat):Int)) (Ab:(l.length:Int)-((Gz l:Nat):Int)<9223372036854775808)]
end
end
section
section
variable{e:Cv}{l:List CM}{n s:Nat}
end
section
variable{h:Ah}{v:Aa}{l:List CM}{id o:Nat}
set_option maxHeartbeats 1000000 in
def f30(hs:QP h id o l)(hb:l.length<=900000000)(hl:∀x∈l,qK x){e:CM}(he:qK e):∃u a,a.c=e.c/\Co cx 60 [Pt id o,.agg e.row] h (.tuple []) (put h id o u)/\Er (OT e.c l++[a]) u:=by
 obtain⟨v,hc,hv⟩:=(show QP h id o l from hs);have HZ:Bn 3 (l.map CM.row) v:=hv;have Hn:=hs.lt;obtain⟨s,es,KM,q,_⟩:=OR l;have Ng:Ev cx 60 [Pt id o,.agg e.row] h λr h'=>r= .tuple []/\∃(a:CM) (u:Aa),a.c=e.c/\h'=put h id o u/\Er (OT e.c l++[a]) u:=by
  unfold Ev;rw[vI,t60];by_cases h0:e.c.node=0;.obtain⟨a,YY,b⟩:=wN (h:=h) he;obtain⟨u,r2,hu⟩:=wO (h:=h) hv a (Ae l.length) Ab;rw[B6,Hm] at hu;simp only[Cn,CM.Df,CM.g0,CM.g1,CM.g2,GF,h0,Ct,AD,AG,AK,AF,hc.load,Bb,HZ.FL];rw[<-h0,CM.R6];simp only[Cn,b.Ag,C5,hc.load,Bb,r2.Ag,hc.store (Er.cells hu)];refine⟨_,rfl,rfl,a,u,YY,rfl,?_⟩;rw[OT,Ac (λh=>h.1 h0)];exact hu
  .simp only[Cn,CM.Df,CM.g0,CM.g1,CM.g2,CM.R6,GF,h0,Ct,AD,AG,AK,AF,hc.load,Bb,HZ.FL,D7 (Ab: -9223372036854775808<=(l.length:Int)-1) (Ab:(l.length:Int)-1<9223372036854775808)];refine BF (λp:Int×Nat×Nat=>[I p.1,I (p.2.1:Int),I ((p.2.2:Int)-1)])
    (λp h1=>s<=p.2.2/\p.2.2<=l.length/\p.2.1+p.2.2<=l.length/\UZ e.c l=p.2.1+UZ e.c (l.take p.2.2)/\(OS e.c l=if 0<=OS e.c (l.take p.2.2) then OS e.c (l.take p.2.2) else if p.2.1=0 then -1 else p.1)/\(p.2.1=0\/∃k:Nat,k<l.length/\p.1=(k:Int))/\h1=h)
    (λp=>p.2.2) (0,0,l.length) rfl ⟨KM,Ae _,Av,Av,by
     rw[B6];have:∀l:List CM,-1<=dQ e.c l:=by
      intro l;induction l with
      |nil=>exact L4 _
      |cons x t ih=>rw[dQ];split<;>(try split)<;>(try split)<;>omega
     have:=this l.reverse;simp only[BE];unfold OS;split<;>omega,.inl rfl,rfl⟩ ?_
   rintro⟨A,f,n⟩ h1 ⟨a1,a2,a3,a4,a5,a6,rfl⟩;simp only at a1 a2 a3 a4 a5 a6;have j:=f99 hc hv Ab;rw[es] at j;rcases A8 s n with hlt|GR
   .obtain⟨n,rfl⟩:∃m,n=m+1:=⟨n-1,Ab⟩;have z:((n+1:Nat):Int)-1=(n:Int):=Ab;have hn:n<l.length:=a2;have g:=q n hn Ab;rw[V9 hn,Ac g] at a4;rw[Wa hn,Ac g] at a5;have b:=aC4 (h:=h1) (hl _ (AP hn)) he;simp only[Cn,z,j.Ag,(Ab:(s:Int)<=(n:Int)),AD,AG,AK,hc.load,Bb,HZ.Dw hn,CM.Df,CM.HN,Ae,b.Ag,Cu (Ab:f<9223372036854775807),D7 (Ab: -9223372036854775808<=(n:Int)-1) (Ab:(n:Int)-1<9223372036854775808)];rw[Dk];refine⟨λh2=>?_,λh2=>?_⟩
    .rw[Ad h2] at a4 a5;refine A7.next ((n:Int),f+1,n) rfl ⟨Gp,Gp,Gp,Gp,?_,.inr ⟨n,hn,rfl⟩,rfl⟩ Gp;simp only
     rw[a5];by_cases hf:0<=OS e.c (l.take n);.simp[hf]
     .simp[hf,(Ab:(0:Int)<=(n:Int))]
    .rw[Ac (by simp[h2])] at a4;rw[Ac (show¬JS l[n].c e.c=true by simp[h2])] at a5;refine A7.next (A,f,n) rfl ⟨Gp,Gp,Gp,Gp,?_,a6,rfl⟩ Gp;simp only
     rw[a5];by_cases hf:0<=OS e.c (l.take n);.simp[hf]
     .simp[hf]
   .obtain rfl:n=s:=by omega
    obtain⟨b1,b2⟩:=dR (e:=e.c) es;rw[b1,Bb] at a4;rw[b2,Ac Br] at a5;simp only[Cn,j.Ag,(Ab:¬(n:Int)<=(n:Int)-1),AG,AK,AF];by_cases h3:3<=f
    .rcases a6 with a6|⟨k,hk,rfl⟩
     .omega
     rw[Ac Ab] at a5;obtain⟨i,b,WK⟩:=aC5 (h:=h1) hv hk Ab;have O7:(Bm l k).length<=l.length:=by unfold Bm;rw[Ap,Aw,A5];omega
     have w:At (put h1 id o i) id o i:=hc.put;obtain⟨a,YY,r2⟩:=wN (h:=put h1 id o i) he;obtain⟨u2,y,PG⟩:=wO (h:=put h1 id o i) WK a (Ae (Bm l k).length) Ab;rw[B6,Hm] at PG;simp only[Cn,(Ab:(3:Int)<=(f:Int)),AD,AG,AK,hc.load,Bb,b.Ag,hc.store (Er.cells WK),w.load,Bn.FL WK,r2.Ag,C5,y.Ag,w.store (Er.cells PG),Xt];refine⟨_,rfl,rfl,a,u2,YY,rfl,?_⟩;rw[OT,Ad ⟨h0,Ab⟩,a5,Bz];exact PG
    .obtain⟨a,YY,b⟩:=wN (h:=h1) he;obtain⟨u,r2,hu⟩:=wO (h:=h1) hv a (Ae l.length) Ab;rw[B6,Hm] at hu;simp only[Cn,(Ab:¬(3:Int)<=(f:Int)),AG,AK,AF,hc.load,Bb,HZ.FL,b.Ag,C5,r2.Ag,hc.store (Er.cells hu)];refine⟨_,rfl,rfl,a,u,YY,rfl,?_⟩;rw[OT,Ac Ab];exact hu
 obtain⟨r,h',hr,rfl,a,u,YY,rfl,hu⟩:=Ng.ret;exact⟨u,a,YY,hr,hu⟩
end
end
section
section
variable{h:Ah}{v:Aa}{l:List CM}{id o:Nat}
def f208(hs:QP h id o l)(hb:l.length<=900000000)(node:Int){e:CM}(he:qK e):∃u t a,a.c=e.c/\Co cx 172 [Pt id o,I node,.agg e.row] h (.bool (decide (0<=Jb node l))) (put h id o u++t)/\Er (if Jb node l<0 then l else l.set (Jb node l).toNat a) u:=by
 obtain⟨v,hc,hv⟩:=(show QP h id o l from hs);rcases Zr node l with h1|⟨k,hk,h1⟩
 .refine⟨v,[],e,rfl,?_,by rw[h1];exact hv⟩;have b:=hc.lO (Bn.SC hv);rw[Aj,XQ,dh,hc.same,Bi];simp only[Cn,CM.Df,(f41 hc hv Ab node).Ag,h1,(Br:(-1:Int)<0),AD,AK,AG,b];rfl
 .have hne:l≠[]:=by intro e;subst e;simp at hk
  have hcl:=xq (h:=h) hv hne Ab;have g:=(hc.Ja (t:=[DH.cells (l.map CM.row).flatten])).store (u:= .CI h.length 0 l.length 3) rfl;rw[Xu hc] at g;obtain⟨a,YY,j⟩:=wN (h:=put h id o (.CI h.length 0 l.length 3)++[DH.cells (l.map CM.row).flatten]) he;obtain⟨r,x,p⟩:=hc.next (w:= .CI h.length 0 l.length 3) (X:= .cells (l.map CM.row).flatten) (Y:= .cells ((l.map CM.row).set k a.row).flatten);have f:=RI (z:=3) (R7 l) r (i:=k) (by simpa using hk) (q:=a.row) rfl;rw[p] at f;have m:Ax (.ER 3) [.CI h.length 0 l.length 3,I (k:Int)]=some (Pt h.length (k*3)):=E8 hk;have b:=hc.lP (Zl (R7 l) (i:=k) (q:=a.row) rfl);rw[BJ,As] at b;refine⟨.sl 3 ((l.map CM.row).set k a.row),[.DD],a,YY,?_,?_⟩;.rw[Aj,XQ,dh];simp only[Cn,CM.Df,CM.g0,CM.g1,CM.g2,CM.R6,(f41 hc hv Ab node).Ag,h1,(Ab:¬(k:Int)<0),AF,AK,AG,hc.load,Bb,hcl.Ag,g,x.load,j.Ag,C5,m,f,b,(Ab:(0:Int)<=(k:Int)),CR]
  .rw[h1,Ac Ab,Bz,<-F5];exact .mk
end
end
def Sd:List A0->Aa
 |[]=> .slnil
 |x::l=> .sl 3 ((x::l).map A0.row)
def P0{l:List A0}:Cw l (Sd l):=by cases l;exact .inr ⟨rfl,rfl⟩;exact .inl rfl
def pF{l:List A0}{x:A0}:Sd (l++[x])= .sl 3 ((l++[x]).map A0.row):=by cases l<;>rfl
structure PN where
 x:Ek
 kv:Aa
 av:Aa
 ok:av=Sd x.AE
def PN.row(p:PN):List Aa:=[I p.x.kind,I p.x.DA,p.kv,I p.x.CQ,I p.x.AY,.str p.x.name,p.av,.str p.x.data,.str p.x.z_,.str p.x.sys,.bool p.x.CS,I p.x.cont,I p.x.CJ]
def PN.Df{p:PN}:p.row.length=13:=rfl
def PN.zero:PN:=⟨{},.slnil,.slnil,rfl⟩
def pN(ps:List PN)(x:Int):PN:=ps.getD (x.toNat-1) PN.zero
def Dz(n:Int):List Aa:=[I n]
def EC(l:List Int)(v:Aa):Prop:=Bn 1 (l.map Dz) v
def IL(h:Ah)(kv:Aa)(l:List Int):Prop:=(kv= .slnil/\l=[])\/∃id cs,kv= .CI id 0 l.length 1/\h[id]?=some (.cells (l.map (Aa.int .i64)++cs))
def Gt:Aa->Option Nat
 | .CI id _ _ _=>some id
 |_=>none
def lQ(l:List (Int×Int)):Prop:=(l.map (·.1)).Nodup/\∀p∈l,nT p.1=true/\nT p.2=true
def Ui(h:Ah)(m:Option Nat)(f:Int->Int):Prop:=(m=none/\∀k,f k=0)\/∃(id:Nat) (l:List (Int×Int)),m=some id/\h[id]?=some (.map (l.map λx:Int×Int=>(I x.1,I x.2)))/\(∀k,(l.find? λx=>decide (k=x.1)).map (·.2)=if f k=0 then none else some (f k))/\lQ l
def Fa(a n:Nat)(m:Option Nat)(ps:List PN):List Nat:=a::n::(m.toList++ps.filterMap λp=>Gt p.kv)
structure PA(h:Ah)(a n:Nat)(m:Option Nat)(ps:List PN)(A:Ar):Prop where
 e:A.n=ps.map PN.x
 il:A.i.length=A.n.length
 ha:h[a]?=some (.cells [.CI n 0 ps.length 13,.map m])
 hn:h[n]?=some (.cells (ps.map PN.row).flatten)
 ks:∀p∈ps,IL h p.kv p.x.AX
 nd:(Fa a n m ps).Nodup
 mp:Ui h m A.inr
structure Fv(h:Ah)(F:Nat->Prop)(h':Ah)(F':Nat->Prop):Prop where
 len:h.length<=h'.length
 old:∀i,i<h.length->¬F i->h'[i]?=h[i]?
 BB:∀i,F' i->F i\/h.length<=i
section
variable{h h' h'' t:Ah}{F F' F'':Nat->Prop}
def Fv.refl:Fv h F h F:=⟨Ae _,λ_ _ _=>rfl,λ_ h=> .inl h⟩
def Fv.trans(x:Fv h F h' F')(y:Fv h' F' h'' F''):Fv h F h'' F'':=
 ⟨Bj x.len y.len,λi hi hF=>by
  rw[y.old i (JW hi x.len) (λh=>by rcases x.BB i h with h|h;exact hF h;omega)];exact x.old i hi hF,λi hi=>by
  rcases y.BB i hi with h|h
  .exact x.BB i h
  .exact .inr (Bj x.len h)⟩
def Fv.Ja:Fv h F (h++t) F:=⟨Av,λi hi _=>Al hi,λ_ h=> .inl h⟩
end
def PW(h:Ah)(F:Nat->Prop)(a:Nat)(A:Ar):Prop:=∃n m ps,PA h a n m ps A/\∀i,F i↔i∈Fa a n m ps
section
variable{h h':Ah}{a n:Nat}{m:Option Nat}{ps:List PN}{A:Ar}{x:Int}{F:Nat->Prop}
def IL.El{kv:Aa}{l:List Int}(hk:IL h kv l)(hf:∀id,Gt kv=some id->h'[id]?=h[id]?):IL h' kv l:=by
 rcases hk with⟨rfl,rfl⟩|⟨id,cs,rfl,hc⟩
 .exact .inl ⟨rfl,rfl⟩
 .exact .inr ⟨id,cs,rfl,by rw[hf id rfl];exact hc⟩
def Ui.El{f:Int->Int}(hk:Ui h m f)(hf:∀id,m=some id->h'[id]?=h[id]?):Ui h' m f:=by
 rcases hk with h1|⟨id,l,rfl,hc,h2⟩
 .exact .inl h1
 .exact .inr ⟨id,l,rfl,by rw[hf id rfl];exact hc,h2⟩
def JC{p:PN}{id:Nat}(hp:p∈ps)(hk:Gt p.kv=some id):id∈Fa a n m ps:=by unfold Fa;simp only[Az,An];exact .inr (.inr (.inr (BU.2 ⟨p,hp,hk⟩)))
def PA.El(w:PA h a n m ps A)(hf:∀i∈Fa a n m ps,h'[i]?=h[i]?):PA h' a n m ps A:=
 ⟨w.e,w.il,by rw[hf a (by simp[Fa])];exact w.ha,by rw[hf n (by simp[Fa])];exact w.hn,λp hp=>(w.ks p hp).El λid hk=>hf id (JC hp hk),w.nd,w.mp.El λid hm=>hf id (by simp[Fa,hm])⟩
def PA.lt(w:PA h a n m ps A):∀i∈Fa a n m ps,i<h.length:=by
 intro i hi;unfold Fa at hi;simp only[Az,An,BU] at hi;rcases hi with rfl|rfl|hi|⟨p,hp,hk⟩
 .exact(Ai.1 w.ha).1
 .exact(Ai.1 w.hn).1
 .rcases w.mp with⟨rfl,_⟩|⟨id,l,rfl,hc,_⟩
  .simp at hi
  .simp at hi;subst hi;exact(Ai.1 hc).1
 .rcases w.ks p hp with⟨e,_⟩|⟨id,cs,e,hc⟩
  .rw[e] at hk;cases hk
  .rw[e] at hk;cases hk;exact(Ai.1 hc).1
def PW.El(w:PW h F a A)(hf:∀i,F i->h'[i]?=h[i]?):PW h' F a A:=by obtain⟨n,m,ps,w,e⟩:=w;exact⟨n,m,ps,w.El λi hi=>hf i ((e i).2 hi),e⟩
def PW.lt(w:PW h F a A){i:Nat}(hi:F i):i<h.length:=by obtain⟨n,m,ps,w,e⟩:=w;exact w.lt i ((e i).1 hi)
def PA.wQ(w:PA h a n m ps A):A.n.length=ps.length:=by rw[w.e,As]
def PA.at(w:PA h a n m ps A)(hx:A.has x):x.toNat-1<ps.length/\((x.toNat-1:Nat):Int)=x-1:=by have:=w.wQ;unfold Ar.has at hx;omega
def PA.pn(w:PA h a n m ps A)(hx:A.has x):ps[x.toNat-1]?=some (pN ps x)/\(pN ps x).x=A.nd x/\pN ps x∈ps:=by
 have h1:=(w.at hx).1;have h2:ps[x.toNat-1]?=some ps[x.toNat-1]:=Ak h1;have h3:pN ps x=ps[x.toNat-1]:=by unfold pN;rw[Ay,h2];rfl
 refine⟨by rw[h3];exact h2,?_,by rw[h3];exact AP _⟩;unfold Ar.nd;rw[Ad hx,w.e,h3,Ay,Cj,h2];rfl
def L0{Af:List (List Aa)}{z i k:Nat}(hr:∀r∈Af,r.length=z)(hk:k<z){r:List Aa}(hi:Af[i]?=some r):Af.flatten[i*z+k]?=r[k]?:=by
 have h1:(Af.flatten.drop (i*z))[k]?=r[k]?:=by rw[Hq hr];obtain⟨hlt,e⟩:=Ai.1 hi;rw[AB hlt,e,Cy,Al (by rw[hr r (e▸AP hlt)];exact hk)]
 rwa [Ci] at h1
def ZQ(l:List PN):∀r∈l.map PN.row,r.length=13:=LR (f:=PN.row) (λ_=>PN.Df) l
def nP(n:Nat)(x:Int):Nat:=(x.toNat-1)*13
def PA.CC(w:PA h a n m ps A)(hx:A.has x){k:Nat}(hk:k<13):Bk h none (Pt n (nP n x+k))=(pN ps x).row[k]?:=by unfold nP;simp only[Bk,w.hn,E5];exact L0 (ZQ ps) hk (by rw[Cj,(w.pn hx).1];rfl)
def Se(w:PA h a n m ps A):Co cx 72 [Pt a 0,I x] h (.bool (decide (A.has x))) h:=by
 have d:Bk h none (Pt a 0)=some (.CI n 0 ps.length 13):=by simp only[Bk,w.ha];rfl
 have c:Ax (.len false) [.CI n 0 ps.length 13]=some (I (ps.length:Int)):=rfl;rw[Aj,vR,t72];simp only[abS,d,c];have hl:=w.wQ;have b:A.has x↔1<=x/\x<=(ps.length:Int):=by unfold Ar.has;rw[hl]
 refine⟨λh1=>?_,λh1=>?_⟩;.congr 2;rw[DM,b];exact⟨λh=>⟨h1,h⟩,λh=>h.2⟩
 .rw[A4 (λh=>h1 (b.1 h).1)]
def PA.nodes(w:PA h a n m ps A):Bk h none (Pt a 0)=some (.CI n 0 ps.length 13):=by simp only[Bk,w.ha];rfl
def PA.len(w:PA h a n m ps A):((ps.length:Nat):Int)=A.len:=by unfold Ar.len;rw[w.wQ]
def kf(w:PA h a n m ps A){l:List Int}{v:Aa}(hv:EC l v)(hb:l.length<=1000):Co cx 118 [Pt a 0,v] h (I (if∀x∈l,A.has x then 0 else 3)) h:=by
 have hv:Bn 1 (l.map Dz) v:=hv;rw[Aj,jO,uz];simp only[abS,hv.FL];refine BF (λk:Nat=>[I 0,I (k:Int)]) (λk h1=>k<=l.length/\(∀x∈l.take k,A.has x)/\h1=h) (λk=>l.length-k) 0 rfl ⟨AZ _,Av,rfl⟩ ?_;rintro k h1 ⟨hk,ha,rfl⟩;rcases A8 k l.length with hlt|GR
 .have i1:(k:Int)<(l.length:Int):=by omega
  have b:Bk h1 none (.B3 (Dz l[k]))=some (I l[k]):=rfl;simp only[Cn,dG,i1,hv.Dw hlt,b,(Se (x:=l[k]) w).Ag,Cu (Ab:k<9223372036854775807)];rw[Dk];refine⟨λh2=>?_,λh2=>?_⟩
  .have h2:¬A.has l[k]:=by simpa using h2
   rw[Ac (λh3=>h2 (h3 _ (AP hlt)))]
  .have h2:A.has l[k]:=by simpa using h2
   refine A7.next (k+1) rfl ⟨hlt,?_,rfl⟩ Ab;intro x hx;rw[AL hlt,An,Eg] at hx;rcases hx with hx|rfl
   .exact ha x hx
   .exact h2
 .have i1:¬(k:Int)<(l.length:Int):=by omega
  rw[AT GR] at ha;simp only[abS,i1,Ad ha]
def Q0(w:PA h a n m ps A):Co cx 118 [Pt a 0,.sl 1 [[I x]]] h (I (if A.has x then 0 else 3)) h:=by have:=kf w (l:=[x]) (v:= .sl 1 [[I x]]) .mk Av;simpa using this
def JU{y:Int}(w:PA h a n m ps A):Co cx 118 [Pt a 0,.sl 1 [[I x],[I y]]] h (I (if A.has x/\A.has y then 0 else 3)) h:=by have:=kf w (l:=[x,y]) (v:= .sl 1 [[I x],[I y]]) .mk Av;simpa using this
def E9{x:Int}:Ax (.Cb 1) [I x]=some (.sl 1 [[I x]]):=rfl
def EO{x y:Int}:Ax (.Cb 1) [I x,I y]=some (.sl 1 [[I x],[I y]]):=rfl
def Lv.of(b:Lv A)(hx:A.has x):1<=x/\x<=1000000000:=by have:=b.n;unfold Ar.has at hx;omega
def Hv(w:PA h a n m ps A)(b:Lv A)(hx:A.has x):Co cx 76 [Pt a 0,I x] h (Pt n (nP n x)) h:=by
 have hr:=b.of hx;have d:=(w.at hx).2;have c:Ax (.ER 13) [.CI n 0 ps.length 13,I (x-1)]=some (Pt n (nP n x)):=by rw[<-d];exact E8 (w.at hx).1
 rw[Aj,eT,t76];simp only[abS,w.nodes,D7 (Ab: -9223372036854775808<=x-1) (Ab:x-1<9223372036854775808),c]
def PA.f0(w:PA h a n m ps A)(hx:A.has x):Bk h none (Pt n (nP n x))=some (I (A.nd x).kind):=by have:=w.CC hx (k:=0) Br;rw[<-(w.pn hx).2.1];exact this
def PA.f1(w:PA h a n m ps A)(hx:A.has x):Bk h none (Pt n (nP n x+1))=some (I (A.nd x).DA):=by have:=w.CC hx (k:=1) Br;rw[<-(w.pn hx).2.1];exact this
def PA.f2(w:PA h a n m ps A)(hx:A.has x):Bk h none (Pt n (nP n x+2))=some (pN ps x).kv:=by have:=w.CC hx (k:=2) Br;exact this
def PA.f4(w:PA h a n m ps A)(hx:A.has x):Bk h none (Pt n (nP n x+4))=some (I (A.nd x).AY):=by have:=w.CC hx (k:=4) Br;rw[<-(w.pn hx).2.1];exact this
def PA.f5(w:PA h a n m ps A)(hx:A.has x):Bk h none (Pt n (nP n x+5))=some (.str (A.nd x).name):=by have:=w.CC hx (k:=5) Br;rw[<-(w.pn hx).2.1];exact this
def PA.f6(w:PA h a n m ps A)(hx:A.has x):Bk h none (Pt n (nP n x+6))=some (pN ps x).av:=by have:=w.CC hx (k:=6) Br;exact this
def PA.Kq(w:PA h a n m ps A)(hx:A.has x):IL h (pN ps x).kv (A.nd x).AX:=by rw[<-(w.pn hx).2.1];exact w.ks _ (w.pn hx).2.2
def PA.Ī(w:PA h a n m ps A)(hx:A.has x):(pN ps x).av=Sd (A.nd x).AE:=by rw[<-(w.pn hx).2.1];exact(pN ps x).ok
def PA.row(w:PA h a n m ps A)(hx:A.has x):Bk h (some 13) (Pt n (nP n x))=some (.agg (pN ps x).row):=by
 have h1:((ps.map PN.row).flatten.drop (nP n x)).take 13=(pN ps x).row/\nP n x+13<=(ps.map PN.row).flatten.length:=by unfold nP;have hlt:=(w.at hx).1;have hg:=(w.pn hx).1;rw[Hq (ZQ ps),FI (ZQ ps),As];refine⟨?_,Ab⟩;rw[<-Lw,AB hlt,Be,Cy];rw[Ak hlt,Bs] at hg;rw[hg];exact HR PN.Df
 simp only[Bk,w.hn,KX];rw[Ad h1.2,h1.1]
def Lr:∀{l:List Int} {cs pre:List Aa},Cf (pre++(l.map (Aa.int .i64)++cs)) 1 pre.length l.length=l.map Dz
 |[],_,_=>rfl
 |x::l,cs,pre=>by have:=Lr (l:=l) (cs:=cs) (pre:=pre++[I x]);simp only[AA,Ap,BN] at this;simp only[Be,AO,Cf,Cl];rw[JK rfl];simp only[Cl,Bt] at this;rw[this];rfl
def IL.Af{kv:Aa}{l:List Int}(hk:IL h kv l):Gc h 1 kv=some (l.map Dz):=by
 rcases hk with⟨rfl,rfl⟩|⟨id,cs,rfl,hc⟩
 .rfl
 .have:=Lr (l:=l) (cs:=cs) (pre:=[]);simp only[Bt,Bq] at this;simp only[Gc,BE,hc,this];rw[Ad Av]
def IL.len{kv:Aa}{l:List Int}(hk:IL h kv l):Ax (.len false) [kv]=some (I (l.length:Int)):=by rcases hk with⟨rfl,rfl⟩|⟨id,cs,rfl,hc⟩<;>rfl
def kg{kv:Aa}{l:List Int}(hk:IL h kv l)(hb:l.length<=1000000000):∃v,Co cx 105 [kv] h v h/\EC l v:=by
 have hr:=hk.Af;rcases hk with⟨rfl,rfl⟩|⟨id,cs,rfl,hc⟩
 .exact⟨.slnil,by rw[Aj,XI,cq];simp only[Cn,show Ax (.Gb false .sl) [.slnil,.slnil]=some (.bool true) from rfl],.inr ⟨rfl,rfl⟩⟩
 .refine⟨.sl 1 (l.map Dz),?_,.mk⟩;have b:Oe h 1 8 (.sl 1 []) (.CI id 0 l.length 1)=some (.sl 1 (l.map Dz)):=by
   unfold Oe;rw[hr,BZ];cases l with
   |nil=>rfl
   |cons x l=>
    have:(x::l).length*8<=AN:=by have:AN=140737488355328:=rfl;omega
    simp only[Be,C0,AO,As,Bq] at this⊢;rw[Ad ⟨trivial,by simpa using this⟩];rfl
  rw[Aj,XI,cq];simp only[Cn,show Ax (.Gb false .sl) [.CI id 0 l.length 1,.slnil]=some (.bool false) from rfl,show Ax (.Cb 1) []=some (.sl 1 []) from rfl,b]
def Ex(h:Ah)(v:Aa)(l:List A0):Prop:=(v= .slnil/\l=[])\/∃id,v= .CI id 0 l.length 3/\h[id]?=some (.cells (l.map A0.row).flatten)/\id<h.length
def Ex.Ja{v:Aa}{l:List A0}{t:Ah}(hv:Ex h v l):Ex (h++t) v l:=by
 rcases hv with h1|⟨id,e,hc,hl⟩
 .exact .inl h1
 .exact .inr ⟨id,e,by rw[Al hl];exact hc,by rw[Ap];omega⟩
def Ex.cells{v:Aa}{l:List A0}(hv:Ex h v l):v.cells=[v]:=by rcases hv with⟨rfl,_⟩|⟨id,rfl,_,_⟩<;>rfl
structure P1(h:Ah)(v:Aa)(l:List A0):Prop where
 len:Ax (.len false) [v]=some (I (l.length:Int))
 at_:∀k (hk:k<l.length),∃p,Ax (.ER 3) [v,I (k:Int)]=some p/\Bk h (some 3) p=some (.agg l[k].row)
def ZR{v:Aa}{l:List A0}(hv:Cw l v):P1 h v l:=⟨Bn.FL hv,λk hk=>⟨_,Bn.Dw hv hk,rfl⟩⟩
def wR(l:List A0):∀r∈l.map A0.row,r.length=3:=LR (f:=A0.row) (λ_=>rfl) l
def Ex.in_{v:Aa}{l:List A0}(hv:Ex h v l):P1 h v l:=by
 rcases hv with⟨rfl,rfl⟩|⟨id,rfl,hc,_⟩
 .exact⟨rfl,λk hk=>by simp at hk⟩
 .refine⟨rfl,λk hk=>⟨Pt id (k*3),E8 hk,?_⟩⟩;simp only[Bk,hc,KX];rw[Ad (by rw[FI (wR l),As];omega),Hq (wR l),<-Lw,AB hk,Be,Cy];rfl
def Up(N:Nat)(v:Aa):Prop:=∀id k,v= .CI id 0 k 3->N<=id
def wS{v:Aa}{l:List A0}(hv:v=Sd l)(hb:l.length<=1000000000):∃u t,Co cx 100047 [v] h u (h++t)/\Ex (h++t) u l/\Up h.length u:=by
 cases l with
 |nil=>refine⟨.slnil,[],?_,.inl ⟨rfl,rfl⟩,λ_ _ e=>nomatch e⟩;rw[Bi,Aj,O0,Sx,hv];simp only[Cn,Sd,show Ax (.Gb false .sl) [.slnil,.slnil]=some (.bool true) from rfl]
 |cons x l=>have e:=No (h:=h) (s:= .sl 3 []) (z:=3) (b:=40) (.inr rfl) (Bn.mk (z:=3) (Af:=(x::l).map A0.row)) Av (by rw[As];have:AN=140737488355328:=rfl;omega);rw[As] at e;refine⟨.CI h.length 0 (x::l).length 3,[.cells ((x::l).map A0.row).flatten],?_,.inr ⟨h.length,rfl,Av,Av⟩,λ_ _ e=>by injection e with e;omega⟩;rw[Aj,O0,Sx,hv];simp only[Cn,Sd,show Ax (.Gb false .sl) [.sl 3 ((x::l).map A0.row),.slnil]=some (.bool false) from rfl,show Ax (.Cb 3) []=some (.sl 3 []) from rfl,e]
def P2(h:Ah)(N:Nat)(x:Ek)(r:List Aa):Prop:=∃K V,r=[I x.kind,I x.DA,K,I x.CQ,I x.AY,.str x.name,V,.str x.data,.str x.z_,.str x.sys,.bool x.CS,I x.cont,I x.CJ]/\EC x.AX K/\Ex h V x.AE/\Up N V
def P2.Ja{x:Ek}{r:List Aa}{t:Ah}{N:Nat}(hr:P2 h N x r):P2 (h++t) N x r:=let⟨K,V,e,h1,h2,h3⟩:=hr;⟨K,V,e,h1,h2.Ja,h3⟩
def kh(w:PA h a n m ps A)(d:Lv A)(hx:A.has x)(aR:(A.nd x).AX.length<=1000000000):∃r t,Co cx 44 [Pt n (nP n x)] h (.agg r) (h++t)/\P2 (h++t) h.length (A.nd x) r:=by obtain⟨K,c,hK⟩:=kg (w.Kq hx) aR;obtain⟨V,t,r2,b,e⟩:=wS (h:=h) (w.Ī hx) (d.at_ x);refine⟨_,t,?_,K,V,rfl,hK,b,e⟩;have hc:K.cells=[K]:=Bn.cells hK;have e0:=w.row hx;have f:(pN ps x).row=_:=rfl;have ex:=(w.pn hx).2.1;rw[Aj,vG,t44];rw[PN.row,ex] at e0;simp only[abS,e0,w.f2 hx,w.f6 hx,c.Ag,C5,r2.Ag,hc,b.cells]
def ī(w:PA h a n m ps A)(b:Lv A)(aR:(A.nd x).AX.length<=1000000000):∃r t,Co cx 79 [Pt a 0,I x] h (.tuple [.agg r,I (if A.has x then 0 else 3)]) (h++t)/\P2 (h++t) h.length (A.nd x) r:=by
 by_cases hx:A.has x;.obtain⟨r,t,c,hr⟩:=kh w b hx aR;have F6:=hr;obtain⟨K,V,rfl,_⟩:=hr;refine⟨_,t,?_,F6⟩;rw[Aj,eU,t79];simp only[abS,↓reduceIte,Bl,E9,(Q0 (x:=x) w).Ag,Ad hx,Ct,BM,(Hv w b hx).Ag,c.Ag]
 .refine⟨_,[],?_,.slnil,.slnil,by rw[LW hx],by rw[LW hx];exact .inr ⟨rfl,rfl⟩,by rw[LW hx];exact .inl ⟨rfl,rfl⟩,λ_ _ e=>nomatch e⟩;rw[Aj,eU,t79,Bi];simp only[abS,↓reduceIte,Bl,E9,(Q0 (x:=x) w).Ag,Ac hx,Ct,(Br:¬(3:Int)=0),CR]
def kj(w:PA h a n m ps A)(c:Lv A)(aR:(A.nd x).AX.length<=1000000000):∃v,Co cx 121 [Pt a 0,I x] h v h/\EC (A.nd x).AX v:=by
 by_cases hx:A.has x;.obtain⟨K,b,hK⟩:=kg (w.Kq hx) aR;refine⟨K,?_,hK⟩;rw[Aj,XK,cz];simp only[abS,(Se (x:=x) w).Ag,AW hx,(Hv w c hx).Ag,w.f2 hx,b.Ag]
 .refine⟨.slnil,?_,by rw[LW hx];exact .inr ⟨rfl,rfl⟩⟩;rw[Aj,XK,cz];simp only[abS,(Se (x:=x) w).Ag,A4 hx]
def Ĭ(w:PA h a n m ps A)(b:Lv A):Co cx 163 [Pt a 0,I x] h (I (A.nd x).DA) h:=by
 by_cases hx:A.has x;.rw[Aj,XN,de];simp only[abS,(Se (x:=x) w).Ag,AW hx,(Hv w b hx).Ag,w.f1 hx]
 .rw[Aj,XN,de,LW hx];simp only[abS,(Se (x:=x) w).Ag,A4 hx]
def wT(w:PA h a n m ps A)(b:Lv A):Co cx 156 [Pt a 0,I x] h (I (if A.has x then(if(A.nd x).kind=1 then 0 else 9) else 3)) h:=by
 rw[Aj,kR,wg];by_cases hx:A.has x
 .simp only[abS,E9,(Q0 (x:=x) w).Ag,Ad hx,Ct,BM,(Hv w b hx).Ag,w.f0 hx];by_cases hk:(A.nd x).kind=1;.simp only[hk,abS,BM]
  .simp only[hk,abS]
 .simp only[abS,E9,(Q0 (x:=x) w).Ag,Ac hx,Ct,(Br:¬(3:Int)=0)]
def wU{l:List PN}:(l.map PN.row).flatten.length=l.length*13:=by rw[FI (ZQ l),As]
def ZS{p:PN}{n':Nat}(hk:Gt p.kv=none):Fa a n' m (ps++[p])=a::n'::(m.toList++ps.filterMap λp=>Gt p.kv):=by unfold Fa;rw[D1];simp[hk]
def wV{x:Ek}(hl:A.i.length=A.n.length):(A.add x).inr=A.inr:=by funext k;exact Sr hl
def dr(w:PA h a n m ps A)(hb:ps.length+1<=1000000000)(p:PN)(hk:p.kv= .slnil)(zS:p.x.AX=[]):
  ∃h',Co cx 75 [Pt a 0,.agg p.row] h (I (A.len+1)) h'/\PA h' a h.length m (ps++[p]) (A.add p.x)/\(∀i,i<h.length->i≠a->i≠n->h'[i]?=h[i]?)/\h'.length=h.length+1:=by
 have WJ:a<h.length:=w.lt a (by simp[Fa]);have N6:n<h.length:=w.lt n (by simp[Fa]);have E_:a≠n:=by have:=w.nd;simp[Fa] at this;exact this.1.1
 have c:=Mp (h:=h) (id:=n) (Af:=ps.map PN.row) (r2:=[p.row]) (v:= .sl 13 [p.row]) (b:=168) (ZQ ps) Br w.hn .mk Av (by rw[As];have:AN=140737488355328:=rfl;simp;omega);rw[As] at c;simp only[BN] at c;have Pw:(h.set n .DD++[DH.cells (ps.map PN.row++[p.row]).flatten])[a]?=some (.cells [.CI n 0 ps.length 13,.map m]):=by rw[Al (by simpa using WJ),Ao (DK E_)];exact w.ha
 have es:CK (h.set n .DD++[DH.cells (ps.map PN.row++[p.row]).flatten]) 1 (Pt a 0) (.CI h.length 0 (ps.length+1) 13)=some ((h.set n .DD++[DH.cells (ps.map PN.row++[p.row]).flatten]).set a (.cells [.CI h.length 0 (ps.length+1) 13,.map m])):=by simp only[CK,Pw];rfl
 have j:Bk ((h.set n .DD++[DH.cells (ps.map PN.row++[p.row]).flatten]).set a (.cells [.CI h.length 0 (ps.length+1) 13,.map m])) none (Pt a 0)=some (.CI h.length 0 (ps.length+1) 13):=by simp only[Bk];rw[AJ Ew];rfl
 have k:Ax (.len false) [.CI h.length 0 (ps.length+1) 13]=some (I ((ps.length+1:Nat):Int)):=rfl;have em:Ax (.Cb 13) [.agg p.row]=some (.sl 13 [p.row]):=PH (a:= .agg p.row) rfl Br;refine⟨(h.set n .DD++[DH.cells (ps.map PN.row++[p.row]).flatten]).set a (.cells [.CI h.length 0 (ps.length+1) 13,.map m]),?_,?_,?_,?_⟩;rotate_left
 .refine⟨by simp[Ar.add,w.e],by simp[Ar.add,w.il],?_,?_,?_,?_,?_⟩;.rw[AJ Ew];simp
  .rw[Ao Ab,BD Av];simp
  .intro q hq;rcases An.1 hq with hq|hq
   .refine(w.ks q hq).El λid Hn=>?_;have h1:id∈Fa a n m ps:=JC hq Hn;have h2:=w.lt id h1;have h3:=w.nd;have g:id∈m.toList++ps.filterMap λp=>Gt p.kv:=An.2 (.inr (BU.2 ⟨q,hq,Hn⟩));unfold Fa at h3;simp only[BC,Az,O2] at h3;have f:a≠id:=λe=>h3.1.2 (e▸g);have d:n≠id:=λe=>h3.2.1 (e▸g);rw[Ao f,Al (by simpa using h2),Ao d]
   .simp at hq;subst hq;exact .inl ⟨hk,zS⟩
  .rw[ZS (by rw[hk];rfl)];have h3:=w.nd;unfold Fa at h3;simp only[BC,Az,O2] at h3⊢;refine⟨⟨Ab,h3.1.2⟩,λhm=>?_,h3.2.2⟩;have:=w.lt h.length (by unfold Fa;simp only[Az];exact .inr (.inr hm));omega
  .rw[wV w.il];refine w.mp.El λid Hn=>?_;have h1:id∈m.toList++ps.filterMap λp=>Gt p.kv:=by simp[Hn]
   have h2:=w.lt id (by unfold Fa;simp only[Az];exact .inr (.inr h1));have h3:=w.nd;unfold Fa at h3;simp only[BC,Az,O2] at h3;have f:a≠id:=λe=>h3.1.2 (e▸h1);have d:n≠id:=λe=>h3.2.1 (e▸h1);rw[Ao f,Al (by simpa using h2),Ao d]
 .intro i hi h1 h2;rw[Ao (DK h1),Al (by simpa using hi),Ao (DK h2)]
 .simp
 .have hl:A.len+1=((ps.length+1:Nat):Int):=by rw[<-w.len];rfl
  rw[PN.row] at em c es j;rw[Aj,eS,t75,hl,PN.row];simp only[abS,Nat.reduceLeDiff,↓reduceIte,Bl,w.nodes,em,c,es,j,k]
def Q1{Af:List (List Aa)}{z i k:Nat}(hr:∀r∈Af,r.length=z)(hi:i<Af.length)(hk:k<z){v:Aa}:Af.flatten.take (i*z+k)++[v]++Af.flatten.drop (i*z+k+1)=(Af.set i (Af[i].set k v)).flatten:=by
 have hl:=hr _ (AP hi);rw[<-Zk hr hi];have b:Af.flatten.drop (i*z)=Af[i]++Af.flatten.drop (i*z+z):=by
  have e:i*z+z=(i+1)*z:=by rw[Bp,DZ]
  rw[e,Hq hr,Hq hr,AB hi,Cy]
 have d:Af.flatten.take (i*z+k)=Af.flatten.take (i*z)++Af[i].take k:=by rw[gg,b,Da Ab]
 have c:Af.flatten.drop (i*z+k+1)=Af[i].drop (k+1)++Af.flatten.drop (i*z+z):=by rw[O1,<-Eb,b,List.drop_append_of_le_length Ab]
 rw[d,c,Cc,Ad Ab];simp
def PA.sto(w:PA h a n m ps A)(hx:A.has x){k:Nat}(hk:k<13){v:Aa}(hv:v.cells=[v]){p:PN}(hp:p.row=(pN ps x).row.set k v){h1:Ah}(hn:h1[n]?=h[n]?):
  CK h1 1 (Pt n (nP n x+k)) v=some (h1.set n (.cells ((ps.set (x.toNat-1) p).map PN.row).flatten)):=by
 have hlt:=(w.at hx).1;have hg:=(w.pn hx).1;rw[Ak hlt,Bs] at hg;have e:=Q1 (Af:=ps.map PN.row) (i:=x.toNat-1) (k:=k) (v:=v) (ZQ ps) (by simpa using hlt) hk;rw[C3,hg,<-hp,<-F5] at e;unfold nP;simp only[CK,hn,w.hn,hv,BN,IP];rw[Ad (by rw[FI (ZQ ps),As];omega),e]
def Uj(w:PA h a n m ps A)(hx:A.has x)(p:PN):ps=ps.take (x.toNat-1)++pN ps x::ps.drop (x.toNat-1+1)/\ps.set (x.toNat-1) p=ps.take (x.toNat-1)++p::ps.drop (x.toNat-1+1):=by have hlt:=(w.at hx).1;have hg:=(w.pn hx).1;rw[Ak hlt,Bs] at hg;refine⟨?_,by rw[Cc,Ad hlt]⟩;conv=>lhs;rw[<-Cd (x.toNat-1) ps,AB hlt,hg]
def wW{y:Ek}:(A.set x y).inr=A.inr:=by funext k;exact PQ
def PA.qD(w:PA h a n m ps A)(hx:A.has x){p:PN}{h1:Ah}(ho:∀i∈Fa a n m ps,Gt (pN ps x).kv≠some i->h1[i]?=h[i]?)(hk:IL h1 p.kv p.x.AX)
  (hi:Gt p.kv=Gt (pN ps x).kv\/∀j,Gt p.kv=some j->h.length<=j):PA (h1.set n (.cells ((ps.set (x.toNat-1) p).map PN.row).flatten)) a n m (ps.set (x.toNat-1) p) (A.set x p.x):=by
 have hlt:=(w.at hx).1;have du:=(w.pn hx).2.2;obtain⟨y,z⟩:=Uj w hx p;have nd:=w.nd;have g:∀j,Gt (pN ps x).kv=some j->j∈m.toList++ps.filterMap λp=>Gt p.kv:=λj hj=>An.2 (.inr (BU.2 ⟨_,du,hj⟩));have XT:=nd;unfold Fa at XT;simp only[BC,Az,O2] at XT;have E_:a≠n:=XT.1.1;have l:Gt (pN ps x).kv≠some a:=λe=>XT.1.2 (g a e);have f:Gt (pN ps x).kv≠some n:=λe=>XT.2.1 (g n e);have N6:n<h.length:=w.lt n (by simp[Fa]);have u:h1[n]?=h[n]?:=ho n (by simp[Fa]) f;have v:n<h1.length:=by have:=w.hn;rw[<-u] at this;exact(Ai.1 this).1
 have oh:∀j,Gt p.kv=some j->j≠n/\j≠a:=by
  intro j hj;rcases hi with hi|hi
  .rw[hi] at hj;exact⟨λe=>f (e▸hj),λe=>l (e▸hj)⟩
  .have:=hi j hj;have:=w.lt a (by simp[Fa]);omega
 refine⟨?_,?_,?_,?_,?_,?_,?_⟩;.simp only[Ar.set,Ad hx];rw[w.e,F5]
 .rw[HO];exact w.il
 .rw[Ao (DK E_),ho a (by simp[Fa]) l,BJ];exact w.ha
 .rw[AJ v]
 .intro q hq;by_cases c:q=p;.rw[c];exact hk.El λid Hn=>by rw[Ao (DK (oh id Hn).1)]
  .rw[z] at hq;have d:q∈ps.take (x.toNat-1)++ps.drop (x.toNat-1+1):=by
    rcases An.1 hq with b|b
    .exact An.2 (.inl b)
    .exact An.2 (.inr ((Az.1 b).resolve_left c))
   have pq:q∈ps:=by
    rcases An.1 d with b|b
    .exact AS b
    .exact Bc b
   refine(w.ks q pq).El λj hj=>?_;have o:j∈Fa a n m ps:=JC pq hj;have t:j≠n:=λe=>XT.2.1 (e▸An.2 (.inr (BU.2 ⟨q,pq,hj⟩)));have fB:Gt (pN ps x).kv≠some j:=by
    intro s;have r:=(BH.1 XT.2.2).2.1;rw[y,D1,GV,s] at r;simp only[BH,BC,Az,BU] at r;rcases An.1 d with b|b
    .exact r.2.2 j ⟨q,b,hj⟩ j (.inl rfl) rfl
    .exact r.2.1.1 ⟨q,b,hj⟩
   rw[Ao (DK t),ho j o fB]
 .have fr:∀j,Gt p.kv=some j->Gt (pN ps x).kv=some j\/j∉Fa a n m ps:=by
   intro j hj;rcases hi with hi|hi
   .exact .inl (hi▸hj)
   .exact .inr λhm=>by have:=hi j hj;have:=w.lt j hm;omega
  have h1:=nd;unfold Fa at h1 fr⊢;rw[y,D1,GV] at h1;rw[y,D1,GV] at fr;rw[z,D1,GV];generalize List.filterMap (λp=>Gt p.kv) (ps.take (x.toNat-1))=T at h1 fr⊢;generalize List.filterMap (λp=>Gt p.kv) (ps.drop (x.toNat-1+1))=D at h1 fr⊢;cases hp:Gt p.kv with
  |none=>
   cases ho:Gt (pN ps x).kv with
   |none=>rw[ho] at h1;exact h1
   |some k=>rw[ho] at h1;refine h1.sublist ?_;simp
  |some j=>
   have:=fr j hp;cases ho:Gt (pN ps x).kv with
   |none=>rw[ho] at h1 this;simp only[BC,BH,Az,An] at h1 this⊢;grind
   |some k=>rw[ho] at h1 this;simp only[BC,BH,Az,An] at h1 this⊢;grind
 .rw[wW];refine w.mp.El λid Hn=>?_;have o:id∈m.toList++ps.filterMap λp=>Gt p.kv:=by simp[Hn]
  have t:n≠id:=λe=>XT.2.1 (e▸o);have fB:Gt (pN ps x).kv≠some id:=by intro Xa;exact(BH.1 XT.2.2).2.2 id (by simp[Hn]) id (BU.2 ⟨_,du,Xa⟩) rfl
  rw[Ao t,ho id (by unfold Fa;simp only[Az];exact .inr (.inr o)) fB]
def PA.pw(w:PA h a n m ps A):PW h (λi=>i∈Fa a n m ps) a A:=⟨n,m,ps,w,λ_=>Iff.rfl⟩
def Lv.add{y:Ek}(b:Lv A)(h1:A.len+1<=1000000000)(h2:y.AE.length<=1000000000)(h3:y.data.length<=1000000000):Lv (A.add y):=by
 refine⟨?_,λx=>?_,λx=>?_⟩;.unfold Ar.len at h1;simp[Ar.add];omega
 .rw[JT];split;.exact h2
  .exact b.at_ x
 .rw[JT];split;.exact h3
  .exact b.data x
def Lv.set{y:Ek}(b:Lv A)(h2:y.AE.length<=1000000000)(h3:y.data.length<=1000000000):Lv (A.set x y):=by
 refine⟨by rw[HO];exact b.n,λx=>?_,λx=>?_⟩<;>rw[IH]<;>split;.exact h2
 .exact b.at_ x
 .exact h3
 .exact b.data x
def dv{x y:Ek}:(A.add x).set (A.len+1) y=A.add y:=by unfold Ar.set;rw[Ad (DU.2 (.inr rfl))];unfold Ar.add Ar.len;have e:((A.n.length:Int)+1).toNat-1=A.n.length:=Ab;simp only[e];rw[Ce _ _ (Ae _),DL];rfl
def lR{p:PN}(w:PA h a n m ps A)(hx:A.has x)(hk:Gt p.kv=Gt (pN ps x).kv):Fa a n m (ps.set (x.toNat-1) p)=Fa a n m ps:=by obtain⟨c,b⟩:=Uj w hx p;unfold Fa;rw[b,D1,GV,hk];conv=>rhs;rw[c,D1,GV]
def PA.wr(w:PA h a n m ps A)(hx:A.has x){k:Nat}(hk:k<13){v:Aa}(hv:v.cells=[v]){p:PN}(hp:p.row=(pN ps x).row.set k v)(h1:p.kv=(pN ps x).kv)(h2:p.x.AX=(A.nd x).AX):
  ∃h',CK h 1 (Pt n (nP n x+k)) v=some h'/\PA h' a n m (ps.set (x.toNat-1) p) (A.set x p.x)/\Fa a n m (ps.set (x.toNat-1) p)=Fa a n m ps/\(∀i,i≠n->h'[i]?=h[i]?)/\h'.length=h.length:=by
 refine⟨_,w.sto hx hk hv hp rfl,w.qD hx (λi _ _=>rfl) (by rw[h1,h2];exact w.Kq hx) (.inl (by rw[h1])),lR w hx (by rw[h1]),λi hi=>by rw[Ao (DK hi)],BJ⟩
def PA.wX(w:PA h a n m ps A){h1:Ah}{N8:List PN}{A':Ar}(w':PA h1 a n m N8 A')(hi:Fa a n m N8=Fa a n m ps)(ho:∀i,i≠n->h1[i]?=h[i]?)(hl:h1.length=h.length):Fv h (λi=>i∈Fa a n m ps) h1 (λi=>i∈Fa a n m N8):=
 ⟨Ab,λi _ hn=>ho i (λe=>hn (by rw[e];simp[Fa])),λi VF=> .inl (by rwa [hi] at VF)⟩
def I0(q:Bool)(d:Int):PN:=⟨{kind:=1,CS:=q,CQ:=d},.slnil,.slnil,rfl⟩
def aC8(w:PA h a n m ps A)(g:Lv A)(hb:A.len+1<=1000000000)(q:Bool):
  ∃h',Co cx 24 [Pt a 0,.bool q] h (I (A.len+1)) h'/\PA h' a h.length m (ps++[I0 q (A.len+1)]) (A.add {kind:=1,CS:=q,CQ:=A.len+1})/\(∀i,i<h.length->i≠a->i≠n->h'[i]?=h[i]?)/\h'.length=h.length+1:=by
 have mO:=w.len;obtain⟨h1,d,w1,f,l1⟩:=dr w Ab (I0 q 0) rfl rfl;have kq:=g.add (y:=(I0 q 0).x) hb (by simp[I0]) (by simp[I0]);have hx:(A.add (I0 q 0).x).has (A.len+1):=DU.2 (.inr rfl);have hlen:(A.len+1).toNat-1=ps.length:=Ab;have oh:pN (ps++[I0 q 0]) (A.len+1)=I0 q 0:=by unfold pN;rw[hlen];simp
 obtain⟨h2,c,b,_,e,l⟩:=w1.wr hx (k:=3) Br (v:= I (A.len+1)) rfl (p:=I0 q (A.len+1)) (by rw[oh];rfl) (by rw[oh];rfl) (by rw[JT,Ad rfl];rfl);refine⟨h2,?_,?_,λi hi h3 j=>?_,Ab⟩;.have r2:=Hv w1 kq hx;rw[Aj,eL,t24];have ku:Co cx 75 [Pt a 0,.agg [I 1,I 0,.slnil,I 0,I 0,.str [],.slnil,.str [],.str [],.str [],.bool q,I 0,I 0]] h (I (A.len+1)) h1:=d;simp only[abS,Nat.reduceLeDiff,↓reduceIte,Bl,ku.Ag,r2.Ag,c]
 .rw[dv,hlen] at b;rw[Ce _ _ (Ae _),DL] at b;exact b
 .rw[e i Ab];exact f i hi h3 j
def KD(k d:Int)(s:Au):PN:=⟨{kind:=k,CQ:=d,data:=s},.slnil,.slnil,rfl⟩
def PA.P3(w:PA h a n m ps A){p:PN}{h1:Ah}(hk:Gt p.kv=none)(b:∀i,i<h.length->i≠a->i≠n->h1[i]?=h[i]?)(l1:h1.length=h.length+1):Fv h (λi=>i∈Fa a n m ps) h1 (λi=>i∈Fa a h.length m (ps++[p])):=by
 refine⟨Ab,λi hi hn=>b i hi (λe=>hn (by simp[Fa,e])) (λe=>hn (by simp[Fa,e])),λi hi=>?_⟩;rw[ZS hk] at hi;simp only[Az] at hi;rcases hi with rfl|rfl|hi
 .exact .inl (by simp[Fa])
 .exact .inr (Ae _)
 .exact .inl (by unfold Fa;simp only[Az];exact .inr (.inr hi))
def kx{k:Int}{s:Au}(w:PA h a n m ps A)(d:Lv A)(hb:A.len+1<=1000000000)(hd:A.has x/\(A.nd x).kind=1):
  ∃h',Co cx 119 [Pt a 0,I x,.agg (KD k 0 s).row] h (.tuple [I (A.len+1),I 0]) h'/\PA h' a h.length m (ps++[KD k x s]) (A.add (KD k x s).x)/\(∀i,i<h.length->i≠a->i≠n->h'[i]?=h[i]?)/\h'.length=h.length+1:=by
 have mO:=w.len;obtain⟨h1,b,w1,c,l1⟩:=dr w Ab (KD k x s) rfl rfl;refine⟨h1,?_,w1,c,l1⟩;rw[PN.row] at b;rw[Aj,jP,u_,PN.row];simp only[abS,(wT (x:=x) w d).Ag,Ad hd.1,Ad hd.2,Ct,BM,KD] at b⊢;simp only[Cn,b.Ag]
def aC9{s:Au}(w:PA h a n m ps A)(d:Lv A)(hb:A.len+1<=1000000000)(hd:A.has x/\(A.nd x).kind=1):
  ∃h',Co cx 66 [Pt a 0,I x,.str s] h (.tuple [I (A.len+1),I 0]) h'/\PA h' a h.length m (ps++[KD 5 x s]) (A.add (KD 5 x s).x)/\(∀i,i<h.length->i≠a->i≠n->h'[i]?=h[i]?)/\h'.length=h.length+1:=by
 obtain⟨h1,b,w1,c,l1⟩:=kx (k:=5) (s:=s) w d hb hd;refine⟨h1,?_,w1,c,l1⟩;have ku:Co cx 119 [Pt a 0,I x,.agg [I 5,I 0,.slnil,I 0,I 0,.str [],.slnil,.str s,.str [],.str [],.bool false,I 0,I 0]] h (.tuple [I (A.len+1),I 0]) h1:=b;rw[Aj,vN,t66];simp only[abS,Nat.reduceLeDiff,↓reduceIte,Bl,ku.Ag]
def ĭ{s:Au}(w:PA h a n m ps A)(d:Lv A)(hb:A.len+1<=1000000000)(hd:A.has x/\(A.nd x).kind=1):
  ∃h',Co cx 81 [Pt a 0,I x,.str s] h (.tuple [I (A.len+1),I 0]) h'/\PA h' a h.length m (ps++[KD 6 x s]) (A.add (KD 6 x s).x)/\(∀i,i<h.length->i≠a->i≠n->h'[i]?=h[i]?)/\h'.length=h.length+1:=by
 obtain⟨h1,b,w1,c,l1⟩:=kx (k:=6) (s:=s) w d hb hd;refine⟨h1,?_,w1,c,l1⟩;have ku:Co cx 119 [Pt a 0,I x,.agg [I 6,I 0,.slnil,I 0,I 0,.str [],.slnil,.str s,.str [],.str [],.bool false,I 0,I 0]] h (.tuple [I (A.len+1),I 0]) h1:=b;rw[Aj,ue,t81];simp only[abS,Nat.reduceLeDiff,↓reduceIte,Bl,ku.Ag]
def aDa{s:Au}(w:PA h a n m ps A)(e:Lv A)(hx:A.has x)(hk:(A.nd x).kind=5):
  ∃h' N8,Co cx 65 [Pt a 0,I x,.str s] h (I 0) h'/\PA h' a n m N8 (A.PT x s)/\Fv h (λi=>i∈Fa a n m ps) h' (λi=>i∈Fa a n m N8):=by
 have hp:=(w.pn hx).2.1;obtain⟨h2,c,b,g,d,f⟩:=w.wr hx (k:=7) Br (v:= .str s) rfl (p:=⟨{A.nd x with data:=s},(pN ps x).kv,(pN ps x).av,by rw[<-hp];exact(pN ps x).ok⟩) (by simp only[PN.row];rw[hp];rfl) rfl rfl;refine⟨h2,_,?_,b,w.wX b g d f⟩;rw[Aj,vM,t65];simp only[abS,E9,(Q0 (x:=x) w).Ag,Ad hx,Ct,BM,(Hv w e hx).Ag,w.f0 hx,hk,c]
def wY{y:Int}:Co cx 106 [.sl 1 [[I y]]] h (.bool (decide (BS.Ir y))) h:=by
 have hv:Bn 1 [[I y]] (.sl 1 [[I y]]):= .mk;have c:([[I y]]:List (List Aa))[0]=[I y]:=rfl;rw[Aj,jI,uq];simp only[Cn,hv.len];refine BF (λk:Nat=>[.bool false,I (k:Int)]) (λk h1=>k<=1/\(k=1->BS.Ir y)/\h1=h) (λk=>1 -k) 0 rfl ⟨AZ _,λe=>Ab,rfl⟩ ?_;rintro k h1 ⟨hk,ha,rfl⟩;rcases A8 k 1 with hlt|GR
 .obtain rfl:k=0:=by omega
  simp only[Cn,dG,(Br:((0:Nat):Int)<((1:Nat):Int)),hv.ER (show 0<[[I y]].length from EN),c,Cu (Ab:0<9223372036854775807)];refine⟨λh2=>?_,λh2=>⟨λh3=>?_,λh3=>?_⟩⟩;.rw[A4 (λb=>by unfold BS.Ir at b;omega)]
  .rw[A4 (λb=>by unfold BS.Ir at b;omega)]
  .exact A7.next 1 rfl ⟨Ae _,λ_=>⟨Ab,Ab⟩,rfl⟩ Ab
 .obtain rfl:k=1:=by omega
  simp only[abS,(Br:¬((1:Nat):Int)<((1:Nat):Int)),AW (ha rfl)]
def Uk{l out:List A0}{y:A0}:Gi out (l++[y])=if(Gi out l).any (λz=>decide (CV y=CV z)) then Gi out l else Gi out l++[y]:=by
 induction l generalizing out with
 |nil=>simp only[Bt,Gi];split<;>simp_all
 |cons z l ih=>
  rw[Cl,Gi,Gi];split;.exact ih
  .exact ih
def Į(y c:A0)(h:Ah):Co cx 158 [.agg c.row,.B3 y.row] h (.bool (decide (CV y=CV c))) h:=by
 rw[Aj,kS,wh,A0.row,A0.row];simp only[Cn];refine⟨λh1=>?_,λh1=>?_⟩;.congr 2;rw[DM];simp[CV,h1]
 .rw[A4 (λe=>h1 (by simp[CV] at e;exact e.1))]
def ky{F v:Aa}{l:List A0}{q:A0->Bool}(hv:P1 h v l)(hb:l.length<=1000000000)(hF:ZP F h q):Co cx 90 [v,F] h (.bool (l.any q)) h:=by
 obtain⟨f,caps,rfl,hf,hr⟩:=hF;have key:Co cx 138 [v,.func (.func f) [] caps] h (I (BV q 0 l)) h:=by
  rw[Aj,Su,wD];simp only[Cn,hv.len];refine BF (λn:Nat=>[I 0,I (n:Int)]) (λn h1=>n<=l.length/\BV q 0 l=BV q n (l.drop n)/\h1=h) (λn=>l.length-n) 0 rfl ⟨AZ _,rfl,rfl⟩ ?_;rintro n h1 ⟨qM,ha,rfl⟩;rcases A8 n l.length with hlt|GR
  .have i1:(n:Int)<(l.length:Int):=by omega
   obtain⟨p,c,b⟩:=hv.at_ n hlt;rw[AB hlt,BV] at ha;simp only[Cn,↓reduceIte,CA,dG,hf,i1,c,b,(hr l[n]).Ag,Cu (Ab:n<9223372036854775807)];rw[Dk];refine⟨λhe=>?_,λhe=>?_⟩;.rw[ha,Ad he]
   .rw[Ac (by simp[he])] at ha;exact A7.next (n+1) rfl ⟨hlt,ha,rfl⟩ Ab
  .have i1:¬(n:Int)<(l.length:Int):=by omega
   rw[A6 GR,BV] at ha;simp only[abS,↓reduceIte,CA,i1,ha]
 rw[Aj,eX,t90];simp only[Cn,key.Ag];congr 2
 rcases Gs (p:=q) (l:=l) (k:=0) with⟨h1,h2⟩|⟨n,y,h1,h2,h3⟩
 .rw[h1,y_];have:=HG.1 h2;simpa using this
 .rw[h1,y_,AW Ab,gD];exact⟨y,Ob h3,RQ h3⟩
def wZ{l:List A0}{v:Aa}(hv:P1 h v l)(hb:l.length<=1000000000)(hs:∀y∈l,BS.Ir y.AY):Co cx 107 [v] h (.tuple [Sd (Cp l),.bool true]) h:=by
 rw[Aj,jJ,ur];simp only[Cn,hv.len];refine BF (λk:Nat=>[.slnil,.bool false,Sd (Cp (l.take k)),I (k:Int)]) (λk h1=>k<=l.length/\h1=h) (λk=>l.length-k) 0 rfl ⟨AZ _,rfl⟩ ?_;rintro k h1 ⟨hk,rfl⟩;rcases A8 k l.length with hlt|GR
 .have i1:(k:Int)<(l.length:Int):=by omega
  obtain⟨p,j,e⟩:=hv.at_ k hlt;have inc:=Cu (Ab:k<9223372036854775807);have hsp:=hs _ (AP hlt);have i:=wY (h:=h1) (y:=l[k].AY);have hF:ZP (.func (.func 158) [] [.B3 l[k].row]) h1 (λc=>decide (CV l[k]=CV c)):=⟨_,_,rfl,Br,λc=>Į l[k] c h1⟩;have gV:(Cp (l.take k)).length<=1000000000:=by have:=NX (l:=l.take k);rw[Aw] at this;omega
  have r2:=ky (ZR P0) gV hF;have g:Cp (l.take (k+1))=if(Cp (l.take k)).any (λz=>decide (CV l[k]=CV z)) then Cp (l.take k) else Cp (l.take k)++[l[k]]:=by rw[AL hlt];exact Uk
  have d:=Bn.V6 (f:=A0.row) (a:=l[k]) (b:=40) (P0 (l:=Cp (l.take k))) (by have:=NX (l:=l.take k);rw[Aw] at this;have:AN=140737488355328:=rfl;omega);have em:Ax (.Cb 3) [.agg l[k].row]=some (.sl 3 [l[k].row]):=rfl;rw[<-pF] at d;rw[A0.row] at r2 em d e;simp only[abS,Nat.reduceLeDiff,↓reduceIte,i1,j,e,E9,i.Ag,AW hsp,r2.Ag,em,d,inc];rw[Dk];refine⟨λh2=>?_,λh2=>?_⟩;.exact A7.next (k+1) (by rw[g,Ac (by simpa using h2)]) ⟨hlt,rfl⟩ Ab
  .exact A7.next (k+1) (by rw[g,Ad (by simpa using h2)]) ⟨hlt,rfl⟩ Ab
 .have i1:¬(k:Int)<(l.length:Int):=by omega
  simp only[abS,↓reduceIte,i1,AT GR]
def į{l:List A0}{v:Aa}(w:PA h a n m ps A)(f:Lv A)(hx:A.has x)(hk:(A.nd x).kind=4)(hv:P1 h v l)(hb:l.length<=1000000000)(hs:∀y∈l,BS.Ir y.AY):
  ∃h' N8,Co cx 92 [Pt a 0,I x,v] h (I 0) h'/\PA h' a n m N8 (A.Kx x l)/\Fv h (λi=>i∈Fa a n m ps) h' (λi=>i∈Fa a n m N8):=by
 have hp:=(w.pn hx).2.1;have d:=wZ hv hb hs;obtain⟨h2,c,b,j,e,g⟩:=w.wr hx (k:=6) Br (v:=Sd (Cp l)) (Bn.cells P0) (p:=⟨{A.nd x with AE:=Cp l},(pN ps x).kv,Sd (Cp l),rfl⟩) (by simp only[PN.row];rw[hp];rfl) rfl rfl;refine⟨h2,_,?_,b,w.wX b j e g⟩;rw[Aj,uh,t92];simp only[abS,E9,(Q0 (x:=x) w).Ag,Ad hx,Ct,BM,(Hv w f hx).Ag,w.f0 hx,hk,d.Ag,c]
def İ(w:PA h a n m ps A)(hx:A.has x):Co cx 50 [Pt n (nP n x)] h (.bool (decide (PO (A.nd x)))) h:=by rw[Aj,eQ,t50];simp only[abS,w.f0 hx,w.f4 hx,w.f5 hx,PO];refine⟨λh1=>⟨λh2=>?_,λh2=>?_⟩,λh1=>?_⟩<;>simp[*]
def N9(x:Int×Int):Aa×Aa:=(I x.1,I x.2)
def XU{k:Int}:∀{l:List (Int×Int)} {i:Nat},(l.find? (λx=>decide (k=x.1))=none->JN k (l.map N9) i=some none)/\∀y,l.find? (λx=>decide (k=x.1))=some y->∃j,JN k (l.map N9) i=some (some (j,I y.2))
 |[],i=>⟨λ_=>rfl,λy h=>by cases h⟩
 |z::l,i=>by
  have ih:=XU (k:=k) (l:=l) (i:=i+1);simp only[Be,N9,JN,MC];by_cases e:k=z.1;.simp only[e,CR,BE];exact⟨λh=>(by cases h),λy h=>⟨i,by cases h;rfl⟩⟩
  .simp only[e,Ck,EX];exact ih
def Ui.get{f:Int->Int}(w:Ui h m f)(k:Int):D2 (.yW (I 0) true) h [.map m,I k]=some (h,if f k=0 then .tuple [I 0,.bool false] else .tuple [I (f k),.bool true]):=by
 rcases w with⟨rfl,h0⟩|⟨id,l,rfl,hc,hl,_⟩
 .rw[Ad (h0 k)];rfl
 .have hl:=hl k;have hm:=XU (k:=k) (l:=l) (i:=0);simp only[D2,gJ,hc];by_cases h0:f k=0
  .rw[Ad h0] at hl⊢;have e:l.find? (λx=>decide (k=x.1))=none:=by
    cases hf:l.find? (λx=>decide (k=x.1)) with
    |none=>rfl
    |some y=>rw[hf] at hl;cases hl
   have:=hm.1 e;unfold N9 at this;rw[this];rfl
  .rw[Ac h0] at hl⊢;cases hf:l.find? (λx=>decide (k=x.1)) with
   |none=>rw[hf] at hl;cases hl
   |some y=>rw[hf] at hl;simp only[BO,Bs] at hl;obtain⟨j,e⟩:=hm.2 y hf;unfold N9 at e;rw[e,<-hl];rfl
def lS{id:Nat}{l:List (Int×Int)}{k v:Int}(hc:h[id]?=some (.map (l.map N9)))(hn:l.find? (λx=>decide (k=x.1))=none):
  ∃h1,D2 (.L6 (I 0)) h [.map (some id),I k]=some (h1,.tuple [I 0,I l.length])/\∃h2,D2 .Lc h1 [.map (some id),I l.length,I v]=some (h2,.bool true)/\h2=h.set id (.map ((l++[(k,v)]).map N9)):=by
 have Hn:=(Ai.1 hc).1;have hm:=(XU (k:=k) (l:=l) (i:=0)).1 hn;refine⟨h.set id (.map (l.map N9++[(I k,I 0)])),?_,_,?_,rfl⟩;.simp only[D2,Si,hc,hm,BO,As]
 .have c:(h.set id (.map (l.map N9++[(I k,I 0)])))[id]?=some (.map (l.map N9++[(I k,I 0)])):=AJ Hn;have b:(l.map N9++[(I k,I 0)])[l.length]?=some (I k,I 0):=by rw[BD Av];simp
  simp only[D2,Sj,c,Bz,b];rw[Ad Ab,za,Ce _ _ Av];simp[N9]
def PA.ı(w:PA h a n m ps A):∀i∈m.toList++ps.filterMap (λp=>Gt p.kv),i<h.length/\i≠a/\i≠n:=by
 intro i hi;have h1:i∈Fa a n m ps:=by unfold Fa;simp only[Az];exact .inr (.inr hi)
 have h3:=w.nd;unfold Fa at h3;simp only[BC,Az,O2] at h3;exact⟨w.lt i h1,λe=>h3.1.2 (e▸hi),λe=>h3.2.1 (e▸hi)⟩
def PA.Ĳ(w:PA h a n m ps A){h1:Ah}{m':Option Nat}{A':Ar}(f:A'.n=A.n)(d:A'.i.length=A'.n.length)(ha:h1[a]?=some (.cells [.CI n 0 ps.length 13,.map m']))(ho:∀i,i<h.length->i≠a->m≠some i->h1[i]?=h[i]?)(hm:m'=m\/∃j,m'=some j/\h.length<=j)(hM:Ui h1 m' A'.inr):PA h1 a n m' ps A':=by
 have nd:=w.nd;have XT:=nd;unfold Fa at XT;simp only[BC,Az,O2] at XT;have hnm:m≠some n:=λe=>XT.2.1 (by simp[e]);refine⟨by rw[f];exact w.e,d,ha,?_,?_,?_,hM⟩;.rw[ho n (w.lt n (by simp[Fa])) (DK XT.1.1) hnm];exact w.hn
 .intro p hp;refine(w.ks p hp).El λid Hn=>?_;have h1:id∈ps.filterMap (λp=>Gt p.kv):=BU.2 ⟨p,hp,Hn⟩;have h2:=w.ı id (An.2 (.inr h1));exact ho id h2.1 h2.2.1 λe=>(BH.1 XT.2.2).2.2 id (by simp[e]) id h1 rfl
 .rcases hm with rfl|⟨j,rfl,hj⟩
  .exact nd
  .have c:∀i∈ps.filterMap (λp=>Gt p.kv),i<h.length:=λi hi=>(w.ı i (An.2 (.inr hi))).1;have k:=w.lt a (by simp[Fa]);have g:=w.lt n (by simp[Fa]);have b:=(BH.1 XT.2.2).2.1;unfold Fa;simp only[BC,Az,aEB,Cl,Bt,O2];exact⟨⟨XT.1.1,Ab,λhm=>XT.1.2 (An.2 (.inr hm))⟩,⟨Ab,λhm=>XT.2.1 (An.2 (.inr hm))⟩,λhm=>by have:=c j hm;omega,b⟩
def Ul{l:List (Int×Int)}{k v:Int}(hk:lQ l)(hn:l.find? (λx=>decide (k=x.1))=none)(h1:nT k=true)(h2:nT v=true):lQ (l++[(k,v)]):=by
 refine⟨?_,λp hp=>?_⟩;.rw[BW,BH];refine⟨hk.1,Av,λa ha b hb e=>?_⟩;obtain⟨x,hx,rfl⟩:=A3.1 ha;have h3:=HG.1 hn x hx;simp only[Be,DJ,Eg] at hb;exact h3 (by simpa using(e.trans hb).symm)
 .rcases An.1 hp with h|h
  .exact hk.2 p h
  .simp only[Eg] at h;subst h;exact⟨h1,h2⟩
def lT(hb:A.len<=1000000000)(hx:A.has x):nT x=true:=by have:=hx.1;have:=hx.2;unfold Ar.len at hb;unfold nT;simp;omega
def ĳ{i:Nat}(hm:m=some i):i∈Fa a n m ps:=by unfold Fa;simp[hm]
def PA.Ĵ(w:PA h a n m ps A){l:List (Int×Int)}{id:Nat}(r:m=some id)(hc:h[id]?=some (.map (l.map N9)))(hl:∀k,(l.find? λx=>decide (k=x.1)).map (·.2)=if A.inr k=0 then none else some (A.inr k))(ok:lQ l)(hb:A.len<=1000000000){d i:Int}(hd:A.has d)(hi:A.has i)(c:d≠i)(h0:A.inr d=0)(je:A.inr i=0):
  ∃h1 h2 h3,D2 (.L6 (I 0)) h [.map m,I d]=some (h1,.tuple [I 0,I l.length])/\D2 .Lc h1 [.map m,I l.length,I i]=some (h2,.bool true)/\
   D2 (.L6 (I 0)) h2 [.map m,I i]=some (h3,.tuple [I 0,I ((l.length+1:Nat):Int)])/\∃o,D2 .Lc h3 [.map m,I ((l.length+1:Nat):Int),I i]=some (o,.bool true)/\PA o a n m ps ((A.LV d i).LV i i)/\(∀j,j≠id->o[j]?=h[j]?)/\o.length=h.length:=by
 subst r;have Hn:=(Ai.1 hc).1;have b:∀k,A.inr k=0->l.find? (λx=>decide (k=x.1))=none:=by
  intro k hk;have:=hl k;rw[Ad hk] at this;cases hf:l.find? (λx=>decide (k=x.1)) with
  |none=>rfl
  |some y=>rw[hf] at this;cases this
 obtain⟨h1,C,h2,B,rfl⟩:=lS (v:=i) hc (b d h0);have JJ:(h.set id (.map ((l++[(d,i)]).map N9)))[id]?=some (.map ((l++[(d,i)]).map N9)):=AJ Hn;obtain⟨h3,u,o,t,rfl⟩:=lS (k:=i) (v:=i) JJ (by rw[Oz,b i je];simp[DK c]);simp only[Ap,BN] at u t;refine⟨h1,_,h3,C,B,u,_,t,?_,?_,Av⟩
 .have g:id≠a:=λe=>by have:=w.nd;unfold Fa at this;simp[e] at this
  refine w.Ĳ (m':=some id) (A':=(A.LV d i).LV i i) rfl ?_ ?_ ?_ (.inl rfl) ?_;.simp only[Ar.LV];split<;>split<;>simp[w.il]
  .rw[Ao g,Ao g];exact w.ha
  .intro j hj z s;have:id≠j:=λe=>s (by rw[e]);rw[Ao this,Ao this]
  .refine .inr ⟨id,l++[(d,i)]++[(i,i)],rfl,?_,λk=>?_,Ul (Ul ok (b d h0) (lT hb hd) (lT hb hi)) (by rw[Oz,b i je];simp[DK c]) (lT hb hi) (lT hb hi)⟩;.rw[AJ (by simpa using Hn)];rfl
   .have q:(A.LV d i).i.length=(A.LV d i).n.length:=by simp only[Ar.LV];split<;>simp[w.il]
    rw[TV q,TV w.il,Oz,Oz];have sB:(A.LV d i).has i:=hi;have hk:=hl k;have jq:i≠0:=by have:=hi.1;omega
    cases hf:l.find? (λx=>decide (k=x.1)) with
    |some y=>
     rw[hf] at hk;have dw:A.inr k≠0:=by intro e;rw[Ad e] at hk;cases hk
     have p:k≠i:=λe=>dw (e▸je);have f:k≠d:=λe=>dw (e▸h0);simp only[p,f,me,EX,Option.some_or];exact hk
    |none=>
     rw[hf] at hk;have dw:A.inr k=0:=by
      by_cases e:A.inr k=0;.exact e
      .rw[Ac e] at hk;cases hk
     by_cases f:k=d;.subst f;simp[c,hd,jq]
     .by_cases p:k=i;.subst p;simp[f,sB,jq]
      .simp[p,f,dw]
 .intro j hj;rw[Ao (DK hj),Ao (DK hj)]
def ĵ(w:PA h a n m ps A)(D:Lv A)(hb:A.len+1<=1000000000)(hx:A.has x):
  ∃h' n' m' N8,Co cx 157 [Pt a 0,I x] h (I (A.GM x)) h'/\PA h' a n' m' N8 (A.Ef x)/\Fv h (λi=>i∈Fa a n m ps) h' (λi=>i∈Fa a n' m' N8):=by
 have l1:Bk h none (Pt a 1)=some (.map m):=by simp only[Bk,w.ha];rfl
 have g1:=w.mp.get x;by_cases h0:A.inr x=0
 .obtain⟨h1,y,w1,C,d⟩:=aC8 w D hb false;have f:=w.P3 (p:=I0 false (A.len+1)) rfl C d;have r:A.GM x=A.len+1:=by unfold Ar.GM;rw[Ac (by simp[h0])]
  have s:A.Ef x=((A.add {kind:=1,CQ:=A.len+1}).LV x (A.len+1)).LV (A.len+1) (A.len+1):=by unfold Ar.Ef;rw[Ac (by simp[h0])]
  have dx:∀k,(A.add {kind:=1,CS:=false,CQ:=A.len+1}).inr k=A.inr k:=λk=>Sr w.il;have QG:(A.add {kind:=1,CS:=false,CQ:=A.len+1}).has x:=DU.2 (.inl hx);have yO:(A.add {kind:=1,CS:=false,CQ:=A.len+1}).has (A.len+1):=DU.2 (.inr rfl);have hne:=T6 hx;have je:A.inr (A.len+1)=0:=by unfold Ar.inr;rw[Ac OV]
  have z:Bk h1 none (Pt a 1)=some (.map m):=by simp only[Bk,w1.ha];rfl
  rw[Ad h0] at g1;have O8:(A.add {kind:=1,CS:=false,CQ:=A.len+1}).len<=1000000000:=by rw[Ms];exact hb
  rcases w1.mp with⟨rfl,hz⟩|⟨id,l,rfl,hc,hl,ho⟩
  .have sW:=w1.ha;have WJ:a<h1.length:=w1.lt a (by simp[Fa]);have Pw:(h1++[DH.map []])[a]?=some (.cells [.CI h.length 0 (ps++[I0 false (A.len+1)]).length 13,.map none]):=by rw[Al WJ];exact sW
   have es:CK (h1++[DH.map []]) 1 (Pt a 1) (.map (some h1.length))=some ((h1++[DH.map []]).set a (.cells [.CI h.length 0 (ps++[I0 false (A.len+1)]).length 13,.map (some h1.length)])):=by simp only[CK,Pw];rfl
   have tC:((h1++[DH.map []]).set a (.cells [.CI h.length 0 (ps++[I0 false (A.len+1)]).length 13,.map (some h1.length)]))[a]?=some (.cells [.CI h.length 0 (ps++[I0 false (A.len+1)]).length 13,.map (some h1.length)]):=AJ Ew;have K:Bk ((h1++[DH.map []]).set a (.cells [.CI h.length 0 (ps++[I0 false (A.len+1)]).length 13,.map (some h1.length)])) none (Pt a 1)=some (.map (some h1.length)):=by simp only[Bk,tC];rfl
   have yL:((h1++[DH.map []]).set a (.cells [.CI h.length 0 (ps++[I0 false (A.len+1)]).length 13,.map (some h1.length)]))[h1.length]?=some (.map (([]:List (Int×Int)).map N9)):=by rw[Ao Ab,BD (Ae _),DL];rfl
   have B:PA ((h1++[DH.map []]).set a (.cells [.CI h.length 0 (ps++[I0 false (A.len+1)]).length 13,.map (some h1.length)])) a h.length (some h1.length) (ps++[I0 false (A.len+1)]) (A.add {kind:=1,CS:=false,CQ:=A.len+1}):=by refine w1.Ĳ rfl w1.il tC (λi hi c _=>by rw[Ao (DK c),Al hi]) (.inr ⟨_,rfl,Ae _⟩) (.inr ⟨h1.length,[],rfl,yL,λk=>by rw[Ad (hz k)];rfl,IN,λp hp=>nomatch hp⟩)
   obtain⟨H,G,E,q,o,j,v,g,t,u,b⟩:=B.Ĵ rfl yL (λk=>by rw[Ad (hz k)];rfl) ⟨IN,λp hp=>nomatch hp⟩ O8 QG yO hne ((dx x).trans h0) ((dx _).trans je);refine⟨v,_,_,_,?_,s▸t,⟨by rw[b];simp;omega,λi hi UC=>?_,λi hi=>?_⟩⟩;.simp only[Bq] at q o j g;rw[Aj,Sv,wE,r];simp only[Cn,l1,g1,y.Ag,z,show Ax (.Gb false .mp) [.map none,.map none]=some (.bool true) from rfl,es,K,q,o,j,g]
   .have J:=f.old i hi UC;have c:i≠a:=λe=>UC (by simp[Fa,e]);rw[u i Ab,Ao (DK c),Al Ab,J]
   .unfold Fa at hi;simp only[Az,aEB,Cl,Bt] at hi;rcases hi with rfl|rfl|rfl|hi
    .exact .inl (by simp[Fa])
    .exact .inr (Ae _)
    .exact .inr Ab
    .exact f.BB i (by unfold Fa;simp only[Az,Option.toList_none,Bt];exact .inr (.inr hi))
  .obtain⟨H,G,E,q,o,j,v,g,t,u,b⟩:=w1.Ĵ rfl hc hl ho O8 QG yO hne ((dx x).trans h0) ((dx _).trans je);refine⟨v,_,_,_,?_,s▸t,⟨Ab,λi hi UC=>?_,f.BB⟩⟩;.rw[Aj,Sv,wE,r];simp only[Cn,l1,g1,y.Ag,z,show Ax (.Gb false .mp) [.map (some id),.map none]=some (.bool false) from rfl,q,o,j,g]
   .rw[u i (λe=>UC (e▸ĳ rfl))];exact f.old i hi UC
 .have r:A.GM x=A.inr x:=by unfold Ar.GM;rw[Ad h0]
  have s:A.Ef x=A:=by unfold Ar.Ef;rw[Ad h0]
  refine⟨h,n,m,ps,?_,by rw[s];exact w,.refl⟩;rw[Ac h0] at g1;rw[Aj,Sv,wE,r];simp only[Cn,l1,g1]
def Lv.Ķ(b:Lv A)(h1:A.len+1<=1000000000):Lv (A.Ef x):=by
 unfold Ar.Ef;split;.exact b
 .have:=b.add (y:={kind:=1,CQ:=A.len+1}) h1 Av Av;exact⟨this.n,this.at_,this.data⟩
def pG(hk:A.has x){d:Int}:(A.Ef d).nd x=A.nd x:=T2 (.inl (T6 hk))
def ķ{l:List A0}{v:Aa}{d sp:Int}{nm:Au}(w:PA h a n m ps A)(B:Lv A)(hb:A.len+3<=1000000000)(hd:A.has d/\(A.nd d).kind=1)(hsp:BS.Ir sp)(hv:Cw l v)(hl:l.length<=1000000000)(hs:∀y∈l,BS.Ir y.AY):
  ∃h' n' m' N8,Co cx 103 [Pt a 0,I d,I sp,.str nm,v] h (.tuple [I (A.len+1),I 0]) h'/\PA h' a n' m' N8 (A.elem d sp nm l)/\Fv h (λi=>i∈Fa a n m ps) h' (λi=>i∈Fa a n' m' N8)/\Lv (A.elem d sp nm l):=by
 have mO:=w.len;have t:=wZ (h:=h) (ZR hv) hl hs;obtain⟨u,hu⟩:∃u,u=Sd (Cp l):=⟨_,rfl⟩;rw[<-hu] at t;have YH:(Cp l).length<=1000000000:=by have:=NX (l:=l);omega
 have b:=wY (h:=h) (y:=sp);rw[AW hsp] at b;obtain⟨h1,N,w1,Q,l1⟩:=dr w Ab ⟨{kind:=4,CQ:=d,AY:=sp,name:=nm,AE:=Cp l},.slnil,u,hu⟩ rfl rfl;have kq:=B.add (y:={kind:=4,CQ:=d,AY:=sp,name:=nm,AE:=Cp l}) Ab YH Av;have QG:(A.add {kind:=4,CQ:=d,AY:=sp,name:=nm,AE:=Cp l}).has (A.len+1):=DU.2 (.inr rfl);have Qz:(A.add {kind:=4,CQ:=d,AY:=sp,name:=nm,AE:=Cp l}).nd (A.len+1)={kind:=4,CQ:=d,AY:=sp,name:=nm,AE:=Cp l}:=by rw[JT,Ad rfl]
 have E:=w.P3 (p:=⟨{kind:=4,CQ:=d,AY:=sp,name:=nm,AE:=Cp l},.slnil,u,hu⟩) rfl Q l1;have ku:Co cx 75 [Pt a 0,.agg [I 4,I 0,.slnil,I d,I sp,.str nm,u,.str [],.str [],.str [],.bool false,I 0,I 0]] h (I (A.len+1)) h1:=N;have r2:=Hv w1 kq QG;have f:=İ w1 QG;rw[Qz] at f;have hc:u.cells=[u]:=by rw[hu];exact Bn.cells P0
 unfold Ar.elem;simp only
 by_cases q:PO {kind:=4,CQ:=d,AY:=sp,name:=nm,AE:=Cp l}
 .rw[Ad q];rw[AW q] at f;have sj:(A.add {kind:=4,CQ:=d,AY:=sp,name:=nm,AE:=Cp l}).has d:=DU.2 (.inl hd.1);obtain⟨h2,T,U,xA,M,r,H⟩:=ĵ w1 kq (by rw[Ms];omega) sj;have z:=kq.Ķ (x:=d) (by rw[Ms];omega);have Yi:((xA.length:Nat):Int)=((A.add {kind:=4,CQ:=d,AY:=sp,name:=nm,AE:=Cp l}).Ef d).len:=r.len;have lU:((A.add {kind:=4,CQ:=d,AY:=sp,name:=nm,AE:=Cp l}).Ef d).len<=A.len+2:=by rw[oS,Ms];split<;>omega
  obtain⟨h3,L,e,P,l3⟩:=dr r Ab ⟨{kind:=2,CJ:=A.len+1,CQ:=(A.add {kind:=4,CQ:=d,AY:=sp,name:=nm,AE:=Cp l}).GM d},.slnil,.slnil,rfl⟩ rfl rfl;obtain⟨g,C⟩:∃g,g=xA++[⟨{kind:=2,CJ:=A.len+1,CQ:=(A.add {kind:=4,CQ:=d,AY:=sp,name:=nm,AE:=Cp l}).GM d},.slnil,.slnil,rfl⟩]:=⟨_,rfl⟩;have D:=r.P3 (p:=⟨{kind:=2,CJ:=A.len+1,CQ:=(A.add {kind:=4,CQ:=d,AY:=sp,name:=nm,AE:=Cp l}).GM d},.slnil,.slnil,rfl⟩) rfl P l3;rw[<-C] at e D;have j:=z.add (y:={kind:=2,CJ:=A.len+1,CQ:=(A.add {kind:=4,CQ:=d,AY:=sp,name:=nm,AE:=Cp l}).GM d}) Ab Av Av;have s:Co cx 75 [Pt a 0,.agg [I 2,I 0,.slnil,I ((A.add {kind:=4,CQ:=d,AY:=sp,name:=nm,AE:=Cp l}).GM d),I 0,.str [],.slnil,.str [],.str [],.str [],.bool false,I 0,I (A.len+1)]] h2 _ h3:=L;have Xa:=LX (h:=d) QG;have c:=DU (x:={kind:=2,CJ:=A.len+1,CQ:=(A.add {kind:=4,CQ:=d,AY:=sp,name:=nm,AE:=Cp l}).GM d}).2 (.inl Xa);have o:(((A.add {kind:=4,CQ:=d,AY:=sp,name:=nm,AE:=Cp l}).Ef d).add {kind:=2,CJ:=A.len+1,CQ:=(A.add {kind:=4,CQ:=d,AY:=sp,name:=nm,AE:=Cp l}).GM d}).nd (A.len+1)={kind:=4,CQ:=d,AY:=sp,name:=nm,AE:=Cp l}:=by rw[KA Xa,pG QG,Qz]
  have K:=Hv e j c;have hp:=(e.pn c).2.1;rw[o] at hp;obtain⟨S,J,G,R,O,l4⟩:=e.wr c (k:=11) Br (v:= I (((A.add {kind:=4,CQ:=d,AY:=sp,name:=nm,AE:=Cp l}).Ef d).len+1)) rfl (p:=⟨{kind:=4,CQ:=d,AY:=sp,name:=nm,AE:=Cp l,cont:=((A.add {kind:=4,CQ:=d,AY:=sp,name:=nm,AE:=Cp l}).Ef d).len+1},(pN g (A.len+1)).kv,(pN g (A.len+1)).av,by have:=(pN g (A.len+1)).ok;rw[hp] at this;exact this⟩) (by simp only[PN.row];rw[hp];rfl) rfl (by rw[o]);refine⟨S,_,_,_,?_,G,E.trans (H.trans (D.trans (e.wX G R O l4))),j.set YH Av⟩;rw[Aj,XG,cl];simp only[abS,Nat.reduceLeDiff,↓reduceIte,Bl,(wT (x:=d) w B).Ag,Ad hd.1,Ad hd.2,Ct,BM,t.Ag,E9,b.Ag,hc,ku.Ag,r2.Ag,f.Ag,M.Ag,s.Ag,K.Ag,J]
 .rw[Ac q];rw[A4 q] at f;refine⟨h1,_,_,_,?_,w1,E,kq⟩;rw[Aj,XG,cl];simp only[abS,Nat.reduceLeDiff,↓reduceIte,Bl,(wT (x:=d) w B).Ag,Ad hd.1,Ad hd.2,Ct,BM,t.Ag,E9,b.Ag,hc,ku.Ag,r2.Ag,f.Ag]
def Wh{U:Type}{p q:U->Bool}{y:U}:∀{l:List U},(∀x∈l,p x=true->q x=true)->y∈l->p y=false->q y=true->(l.filter p).length<(l.filter q).length
 |[],_,h,_,_=>by cases h
 |x::l,hi,hy,hp,hq=>by
  have le:∀{l:List U},(∀x∈l,p x=true->q x=true)->(l.filter p).length<=(l.filter q).length:=by
   intro l;induction l with
   |nil=>intro _;simp
   |cons z l ih=>
    intro hi;have:=ih λx hx=>hi x (by simp[hx]);rw[F8,F8];split;.rename_i hz;rw[Ad (hi z Av hz)];simp;exact this
    .split;.simp;omega
     .exact this
  have hl:=λx (hx:x∈l)=>hi x (by simp[hx]);rw[F8,F8];rcases Az.1 hy with rfl|hy
  .rw[Ac (by simp[hp]),Ad hq];have:=le hl;simp;omega
  .have ih:=Wh hl hy hp hq;split;.rename_i hz;rw[Ad (hi x Av hz)];simp;exact ih
   .split;.simp;omega
    .exact ih
def fC{r:Int->Nat}{k y:Int}(hr:∀h,A.has h->A.up h≠0->r (A.up h)<r h)(hR:Reach A k y)(hy:A.has y):r k<=r y:=by
 induction hR with
 |refl=>exact Ae _
 |@step z h1 h2 ih=>
  by_cases hz:A.has (A.up z);.have:=ih hz;have:=hr z hy h1;omega
  .cases h2 with
   |refl=>have:=hr z hy h1;omega
   |step h3 _=>exact absurd (TY hz) h3
open Classical in
def fD{e:Int}(ok:DS A e):∃r:Int->Nat,(∀h,A.has h->A.up h≠0->r (A.up h)<r h)/\∀h,r h<=A.n.length:=by
 obtain⟨r,hr⟩:=ok.U4;refine⟨λh=>((List.range A.n.length).filter λ(i:Nat)=>decide (Reach A ((i:Int)+1) h/\(i:Int)+1≠h)).length,λh b hu=>?_,λh=>?_⟩
 .have aM:=TZ ok b hu;have PG:=aM;unfold Ar.has at PG;have c:(((A.up h).toNat-1:Nat):Int)+1=A.up h:=Ab;refine Wh (y:=(A.up h).toNat-1) (λi _ hi=>?_) (KH.2 Ab) ?_ ?_;.rw[C6] at hi⊢;refine⟨.step hu hi.1,λe=>?_⟩;have h1:=fC hr hi.1 aM;have h2:=hr h b hu;rw[e] at h1;omega
  .rw[c];simp
  .rw[c,C6];exact⟨.step hu .refl,jt ok b hu⟩
 .have:=R_ (λ(i:Nat)=>decide (Reach A ((i:Int)+1) h/\(i:Int)+1≠h)) (List.range A.n.length);rwa [aHa] at this
def PA.cell(w:PA h a n m ps A)(hx:A.has x){k:Nat}(hk:k<13):(ps.map PN.row).flatten[0+(x.toNat-1)*13+k]?=(pN ps x).row[k]?:=by rw[By];exact L0 (ZQ ps) hk (by rw[Cj,(w.pn hx).1];rfl)
open Classical in
def Um(w:PA h a n m ps A){up:Int}{r:Int->Nat}{e:Int}(ok:DS A e)(hr:∀h,A.has h->A.up h≠0->r (A.up h)<r h)(aM:up≠0):∀(fuel:Nat) (x:Int),(x=0\/(A.has x/\r x<fuel))->J0 (ps.map PN.row).flatten 0 ps.length up fuel x=some (decide (Reach A up x))
 |fuel,x,hx=>by
  by_cases h0:x=0
  .subst h0;have no:¬Reach A up 0:=by
    intro hR;cases hR with
    |refl=>exact aM rfl
    |step h1 _=>exact h1 (TY (by unfold Ar.has;omega))
   rw[A4 no];cases fuel<;>rfl
  .have hx:=hx.resolve_left h0;cases fuel with
   |zero=>omega
   |succ fuel=>
    have c:J0 (ps.map PN.row).flatten 0 ps.length up (fuel+1) x=if x=up then some true else if 1<=x/\x<=ps.length then
      match FH (ps.map PN.row).flatten 0 x 1,FH (ps.map PN.row).flatten 0 x 12 with
      |some p,some q=>J0 (ps.map PN.row).flatten 0 ps.length up fuel (if p=0 then q else p)
      |_,_=>none
     else none:=by
     rw[J0];.rfl
     .exact λh=>h0 h
    rw[c];by_cases jk:x=up;.rw[Ad jk,jk,AW .refl]
    .rw[Ac jk,Ad (by have:=hx.1;have:=w.wQ;unfold Ar.has at*;omega)];have f:FH (ps.map PN.row).flatten 0 x 1=some (A.nd x).DA:=by unfold FH;rw[w.cell hx.1 Br,<-(w.pn hx.1).2.1];rfl
     have d:FH (ps.map PN.row).flatten 0 x 12=some (A.nd x).CJ:=by unfold FH;rw[w.cell hx.1 Br,<-(w.pn hx.1).2.1];rfl
     rw[f,d];simp only
     have b:(if(A.nd x).DA=0 then(A.nd x).CJ else(A.nd x).DA)=A.up x:=by unfold Ar.up;by_cases h:(A.nd x).DA=0<;>simp[h]
     rw[b];have ih:=Um w ok hr aM fuel (A.up x) (by
      by_cases hu:A.up x=0;.exact .inl hu
      .exact .inr ⟨TZ ok hx.1 hu,by have:=hr x hx.1 hu;omega⟩)
     rw[ih];congr 1
     rw[DM];constructor
     .intro h1;by_cases hu:A.up x=0
      .rw[hu] at h1;cases h1 with
       |refl=>exact absurd rfl aM
       |step h3 _=>exact absurd (TY (by unfold Ar.has;omega)) h3
      .exact .step hu h1
     .intro h1;cases h1 with
      |refl=>exact absurd rfl jk
      |step _ h2=>exact h2
open Classical in
def ĸ{up e:Int}(w:PA h a n m ps A)(ok:DS A e)(hu:A.has up)(hx:A.has x):Co cx 165 [Pt a 0,I up,I x] h (.bool (decide (Reach A up x))) h:=by
 obtain⟨r,hr,b⟩:=fD ok;have N6:=w.wQ;have hc:=Um w ok hr (up:=up) (by have:=hu.1;omega) (ps.length+1) x (.inr ⟨hx,by have:=b x;omega⟩);have c:D2 (.Qn LK) h [Pt a 0,I up,I x]=some (h,.bool (decide (Reach A up x))):=by simp only[D2,LK,w.ha,w.hn];rw[Ad (by rw[wU];omega),Ad (by unfold Ar.has at hu hx;omega),hc];rfl
 rw[Aj,show BY cx 165 [Pt a 0,I up,I x]=LL [Pt a 0,I up,I x] from rfl,LL];simp only[Cn,c]
structure Q2(h:Ah)(v:Aa)(l:List Int):Prop where
 len:Ax (.len false) [v]=some (I (l.length:Int))
 at_:∀k (hk:k<l.length),∃p,Ax (.ER 1) [v,I (k:Int)]=some p/\Bk h none p=some (I l[k])
def IL.L1{kv:Aa}{l:List Int}(hk:IL h kv l):Q2 h kv l:=by
 refine⟨hk.len,λk hlt=>?_⟩;rcases hk with⟨rfl,rfl⟩|⟨id,cs,rfl,hc⟩
 .simp at hlt
 .refine⟨Pt id k,by have:=E8 (id:=id) (z:=1) (k:= .i64) hlt;rwa [Fm] at this,?_⟩;simp only[Bk,hc,E5];rw[Al (by simpa using hlt)];simp[hlt]
def EC.L1{v:Aa}{l:List Int}(hv:EC l v):Q2 h v l:=⟨Bn.FL hv,λk hk=>⟨_,Bn.Dw hv hk,rfl⟩⟩
def xr{v:Aa}{l:List Int}(hv:Q2 h v l)(hb:l.length<=1000000000)(x:Int):Co cx 63 [v,I x] h (I (BV (λy=>decide (x=y)) 0 l)) h:=by
 rw[Aj,vK,t63];simp only[Cn,hv.len];refine BF (λk:Nat=>[I 0,I (k:Int)]) (λk h1=>k<=l.length/\BV (λy=>decide (x=y)) 0 l=BV (λy=>decide (x=y)) k (l.drop k)/\h1=h) (λk=>l.length-k) 0 rfl ⟨AZ _,rfl,rfl⟩ ?_;rintro k h1 ⟨hk,ha,rfl⟩;rcases A8 k l.length with hlt|GR
 .have i1:(k:Int)<(l.length:Int):=by omega
  obtain⟨p,c,b⟩:=hv.at_ k hlt;rw[AB hlt,BV] at ha;simp only[abS,i1,c,b,Cu (Ab:k<9223372036854775807)];refine⟨λh2=>?_,λh2=>?_⟩;.rw[ha,Ad (by simpa using h2)]
  .rw[Ac (by simpa using h2)] at ha;exact A7.next (k+1) rfl ⟨hlt,ha,rfl⟩ Ab
 .have i1:¬(k:Int)<(l.length:Int):=by omega
  rw[A6 GR,BV] at ha;simp only[abS,i1,ha]
def P4{l:List Int}{x:Int}(hx:x∈l):∃k,k<l.length/\BV (λy=>decide (x=y)) 0 l=(k:Int)/\l[k]?=some x/\l.takeWhile (λy=>decide (y≠x))=l.take k/\l.dropWhile (λy=>decide (y≠x))=l.drop k:=by
 have key:∀(l:List Int) (s:Nat),x∈l->∃k,k<l.length/\BV (λy=>decide (x=y)) s l=((s+k:Nat):Int)/\l[k]?=some x/\l.takeWhile (λy=>decide (y≠x))=l.take k/\l.dropWhile (λy=>decide (y≠x))=l.drop k:=by
  intro l;induction l with
  |nil=>intro s h;cases h
  |cons z l ih=>
   intro s h;by_cases e:x=z;.subst e;exact⟨0,Av,by rw[BV,Ad Av];simp,rfl,Av,Av⟩
   .have h2:x∈l:=(Az.1 h).resolve_left e;obtain⟨k,d,c,b,i,g⟩:=ih (s+1) h2;have f:z≠x:=λj=>e j.symm;refine⟨k+1,by simp;exact d,by rw[BV,Ac (by simpa using e),c];congr 1;omega,by simpa using b,?_,?_⟩;.rw[List.takeWhile_cons,Ad (by simpa using f),i];rfl
    .rw[List.dropWhile_cons,Ad (by simpa using f),g];rfl
 obtain⟨k,d,c,b⟩:=key l 0 hx;exact⟨k,d,by simpa using c,b⟩
def P5{l:List Int}{x:Int}{k:Nat}(hn:l.Nodup)(hk:l[k]?=some x):l.take k++l.drop (k+1)=l.filter λy=>decide (y≠x):=by
 obtain⟨hlt,e⟩:=Ai.1 hk;have c:l=l.take k++x::l.drop (k+1):=by conv=>lhs;rw[<-Cd k l,AB hlt,e]
 rw[c,BH,BC] at hn;conv=>rhs;rw[c,Eh,F8,Ac Av]
 rw[Vm.2 (λy hy=>by simpa using λb:y=x=>hn.2.2 y hy x Av b),Vm.2 (λy hy=>by simpa using λb:y=x=>hn.2.1.1 (b▸hy))]
def xt{id l k:Nat}(hl:0<l)(hk:k<=l):Ax (.Qo 1 false false true) [.CI id 0 l 1,I (k:Int)]=some (.CI id 0 k 1):=by
 have b:Fq (k:Int) l=some k:=by unfold Fq;rw[Ad Ab];rfl
 simp[Ax,J3,DO,b];omega
def xu{id l k:Nat}(hk:k<=l):Ax (.Qo 1 false true false) [.CI id 0 l 1,I (k:Int)]=some (if k<l then .CI id k (l-k) 1 else .sl 1 []):=by
 have b:Fq (k:Int) l=some k:=by unfold Fq;rw[Ad Ab];rfl
 simp[Ax,J3,DO,b];split<;>rfl
def Ĺ{id k:Nat}{l:List Int}{cs:List Aa}(hc:h[id]?=some (.cells (l.map (Aa.int .i64)++cs)))(hk:k<l.length)(hb:l.length<=1000000000):
  ∃FU,Co cx 187 [.CI id 0 l.length 1,I (k:Int),I ((k+1:Nat):Int)] h (.CI id 0 (l.length-1) 1) (h.set id (.cells ((l.take k++l.drop (k+1)).map (Aa.int .i64)++FU))):=by
 have Hn:=(Ai.1 hc).1;have jr:(l.take k++l.drop (k+1)).length=l.length-1:=by rw[Ap,Aw,A5];omega
 obtain⟨Pv,o,hcl⟩:∃Pv,ET h 1 8 (.CI id 0 k 1) (if k+1<l.length then .CI id (k+1) (l.length-(k+1)) 1 else .sl 1 [])=some (h.set id (.cells ((l.take k++l.drop (k+1)).map (Aa.int .i64)++Pv)),.CI id 0 (l.length-1) 1)/\1<=Pv.length:=by
  have f:Gc h 1 (if k+1<l.length then .CI id (k+1) (l.length-(k+1)) 1 else .sl 1 [])=some ((l.drop (k+1)).map Dz):=by
   by_cases Vw:k+1<l.length;rotate_left;.rw[Ac Vw,A6 Ab];rfl
   rw[Ad Vw];have c:=Lr (l:=l.drop (k+1)) (cs:=cs) (pre:=(l.take (k+1)).map (Aa.int .i64));rw[<-AA,<-BW,Cd] at c;simp only[As,Aw,A5] at c;rw[Cr Ab] at c;simp only[Gc,BE,hc,c];rw[Ad Ew]
  by_cases ĺ:k+1=l.length
  .refine⟨I l[k]::cs,?_,Av⟩;have g:l.drop (k+1)=[]:=A6 Ab;rw[g] at f⊢;have e:l.map (Aa.int .i64)++cs=(l.take k++[]).map (Aa.int .i64)++ I l[k]::cs:=by
    have:l=l.take k++[l[k]]:=by conv=>lhs;rw[<-Cd k l,AB hk,g]
    conv=>lhs;rw[this,BW,AA]
    rw[Bi];rfl
   have j:h.set id (.cells ((l.take k++[]).map (Aa.int .i64)++ I l[k]::cs))=h:=by rw[<-e];obtain⟨Yi,t⟩:=Ai.1 hc;rw[<-t,Ic]
   simp only[ET,f,DJ,BE];rw[j,(Ab:l.length-1=k)]
  .obtain⟨y,b,hd⟩:∃y b,l.drop (k+1)=y::b:=⟨_,_,AB (Ab:k+1<l.length)⟩;have lU:(y::b).length=l.length-(k+1):=by rw[<-hd,A5]
   rw[hd] at f;have Ļ:∀l3:List Int,(l3.map Dz).flatten=l3.map (Aa.int .i64):=by
    intro l3;induction l3 with
    |nil=>rfl
    |cons z l3 ih=>simp[Dz,ih]
   refine⟨(l.map (Aa.int .i64)++cs).drop (l.length-1),?_,Ew⟩;simp only[ET,f,Be,hc,BE];have s:(Dz y::b.map Dz).length=l.length-(k+1):=by rw[<-lU];simp
   have r:(Dz y::b.map Dz).flatten=(y::b).map (Aa.int .i64):=by have:=Ļ (y::b);simpa using this
   rw[s,r,Ad Ew];have q:(l.map (Aa.int .i64)++cs).take (0+k*1)=(l.take k).map (Aa.int .i64):=by rw[By,Fm,Da Ew,HW]
   rw[q,hd,(Ab:0+(k+(l.length-(k+1)))*1=l.length-1),(Ab:k+(l.length-(k+1))=l.length-1)];simp
 generalize kz:h.set id (.cells ((l.take k++l.drop (k+1)).map (Aa.int .i64)++Pv))=h2 at o;have JJ:h2[id]?=some (.cells ((l.take k++l.drop (k+1)).map (Aa.int .i64)++Pv)):=by rw[<-kz];exact AJ Hn
 have g:D2 (.mD 1 true true) h2 [.CI id 0 (l.length-1) 1,I ((l.length-1:Nat):Int),I (l.length:Int)]=some (h2,.CI id (l.length-1) 1 1):=by
  simp only[D2,Yr,JJ];have fE:((l.take k++l.drop (k+1)).map (Aa.int .i64)++Pv).length=l.length-1+Pv.length:=by rw[Ap,As,jr]
  have u:Fq (l.length:Int) ((((l.take k++l.drop (k+1)).map (Aa.int .i64)++Pv).length-0)/1)=some l.length:=by unfold Fq;rw[Ad (by rw[fE];omega)];rfl
  have c:Fq ((l.length-1:Nat):Int) l.length=some (l.length-1):=by unfold Fq;rw[Ad Ab];rfl
  rw[Ad ⟨trivial,trivial,AZ _⟩];simp only[DO,u,c,BZ,BO];rw[Ad (by rw[fE];omega)];congr 3
  .omega
  .omega
 have p:D2 (.clear 1 [I 0]) h2 [.CI id (l.length-1) 1 1]=some (h.set id (.cells ((l.take k++l.drop (k+1)).map (Aa.int .i64)++(I 0::Pv.drop 1))),.bool true):=by
  simp only[D2,SF,JJ];rw[Ad ⟨trivial,rfl,by rw[Ap,As,jr];omega⟩];congr 2
  rw[<-kz,za];congr 2
  have e:(((l.take k++l.drop (k+1)).map (Aa.int .i64)++Pv).take (l.length-1))=(l.take k++l.drop (k+1)).map (Aa.int .i64):=HR (by rw[As,jr]);have j:(((l.take k++l.drop (k+1)).map (Aa.int .i64)++Pv).drop (l.length-1+1*1))=Pv.drop 1:=by rw[show l.length-1+1*1=((l.take k++l.drop (k+1)).map (Aa.int .i64)).length+1 by rw[As,jr],Qe];simp
  rw[e,j];simp
 refine⟨I 0::Pv.drop 1,?_⟩;have d:∀i n,Ax (.len false) [.CI i 0 n 1]=some (I (n:Int)):=λ_ _=>rfl;have e:D2 (.aY 1) h [.CI id 0 l.length 1,I (k:Int),I ((k+1:Nat):Int),I (l.length:Int)]=some (h,.bool true):=by simp only[D2,SG];simp;omega
 rw[Aj,lF,xb];simp only[abS,d,e,(Ab:¬(k:Int)=((k+1:Nat):Int)),xt (id:=id) (Ab:0<l.length) (Ab:k<=l.length),xu (id:=id) (Ab:k+1<=l.length),o,g,p]
def xB:∀{n:Nat} {l:List Int},l.Nodup->(∀x∈l,1<=x/\x<=n)->l.length<=n
 |0,l,_,h=>by
  cases l with
  |nil=>simp
  |cons x l=>have:=h x Av;omega
 |n+1,l,hn,h=>by
  have ih:=xB (n:=n) (l:=l.filter λx=>decide (x≠(n:Int)+1)) (hn.filter _) (λx hx=>by
   have h1:=CU.1 hx;have h2:=h x h1.1;have h3:x≠(n:Int)+1:=by simpa using h1.2
   omega)
  have key:∀{l:List Int},l.Nodup->l.length<=(l.filter λx=>decide (x≠(n:Int)+1)).length+1:=by
   intro l hl;induction l with
   |nil=>simp
   |cons x l ih=>
    rw[BC] at hl;rw[F8];by_cases e:x=(n:Int)+1;.rw[Ac (by simp[e]),Vm.2 (λy hy=>by simpa using λb:y=(n:Int)+1=>hl.1 (by rw[e,<-b];exact hy))];simp
    .rw[Ad (by simpa using e)];have:=ih hl.2;simp only[AO];omega
  have:=key hn;omega
def xC{e:Int}(ok:DS A e)(x:Int):(A.nd x).AX.length<=A.n.length:=by
 by_cases hx:A.has x;.refine xB (ok.Nv x hx).Zv λk hk=>?_;exact(ok.Kq x hx k hk).1
 .rw[LW hx];exact AZ _
def Lv.AX{e:Int}(b:Lv A)(ok:DS A e)(x:Int):(A.nd x).AX.length<=1000000000:=Bj (xC ok x) b.n
def Lv.aDf{l:List Int}(b:Lv A):Lv (A.set x {A.nd x with AX:=l}):=b.set (b.at_ x) (b.data x)
def Lv.aDg{p:Int}(b:Lv A):Lv (A.set x {A.nd x with DA:=p}):=b.set (b.at_ x) (b.data x)
def Lv.cut(b:Lv A):Lv (A.cut x):=by
 unfold Ar.cut;simp only;split;.exact b
 .exact Lv.aDg b.aDf
def ļ{e:Int}(w:PA h a n m ps A)(g:Lv A)(ok:DS A e)(hx:A.has x):
  ∃h' N8,Co cx 166 [Pt a 0,I x] h (.tuple []) h'/\PA h' a n m N8 (A.cut x)/\Fv h (λi=>i∈Fa a n m ps) h' (λi=>i∈Fa a n m N8):=by
 have hb:=g.AX ok;by_cases hp:(A.nd x).DA=0
 .have t:A.cut x=A:=by unfold Ar.cut;simp only;rw[Ad hp]
  refine⟨h,ps,?_,by rw[t];exact w,.refl⟩;rw[Aj,XO,df];simp only[abS,(Hv w g hx).Ag,w.f1 hx,hp]
 .obtain⟨hq,hk⟩:=ok.DA x hx hp;generalize c:(A.nd x).DA=q at*;have hne:q≠x:=by rw[<-c];exact dS ok hx (by rw[c];exact hp)
  obtain⟨k,l,J,C,_,_⟩:=P4 hk;have Kq:=w.Kq hq;have j:=xr Kq.L1 (hb q) x;rw[J] at j;rcases r:Kq with⟨_,e0⟩|⟨id,cs,b,hc⟩
  .rw[e0] at l;simp at l
  clear r;rw[b] at j;obtain⟨FU,r2⟩:=Ĺ hc l (hb q);rw[P5 (ok.Nv q hq).Zv C] at r2;have VD:(A.nd q).AX.length-1=((A.nd q).AX.filter λy=>decide (y≠x)).length:=by rw[<-P5 (ok.Nv q hq).Zv C,Ap,Aw,A5];omega
  rw[VD] at r2;have zT:=(Ai.1 hc).1;have o:=(w.pn hq).2.1;generalize oj:h.set id (.cells (((A.nd q).AX.filter λy=>decide (y≠x)).map (Aa.int .i64)++FU))=h1 at r2;have Ľ:id∈Fa a n m ps:=JC (w.pn hq).2.2 (by rw[b];rfl);have aDh:id≠n:=by intro d;have:=w.nd;unfold Fa at this;simp only[BC,Az,O2] at this;exact this.2.1 (d▸An.2 (.inr (BU.2 ⟨_,(w.pn hq).2.2,by rw[b];rfl⟩)))
  have aJu:id≠a:=by intro d;have:=w.nd;unfold Fa at this;simp only[BC,Az,O2] at this;exact this.1.2 (d▸An.2 (.inr (BU.2 ⟨_,(w.pn hq).2.2,by rw[b];rfl⟩)))
  obtain⟨f,fF⟩:∃f:PN,f=⟨{A.nd q with AX:=(A.nd q).AX.filter λy=>decide (y≠x)},.CI id 0 ((A.nd q).AX.filter λy=>decide (y≠x)).length 1,(pN ps q).av,w.Ī hq⟩:=⟨_,rfl⟩;have tN:f.row=(pN ps q).row.set 2 (.CI id 0 ((A.nd q).AX.filter λy=>decide (y≠x)).length 1):=by rw[fF];simp only[PN.row];rw[o];rfl
  have u:h1[n]?=h[n]?:=by rw[<-oj,Ao aDh]
  have z:=w.sto hq (k:=2) Br (v:= .CI id 0 ((A.nd q).AX.filter λy=>decide (y≠x)).length 1) rfl tN u;have ľ:Gt f.kv=Gt (pN ps q).kv:=by rw[fF,b];rfl
  have w1:=w.qD hq (p:=f) (h1:=h1) (λi _ hi=>by rw[<-oj,Ao];intro d;exact hi (by rw[b,d];rfl)) (by rw[fF];exact .inr ⟨id,FU,rfl,by rw[<-oj];exact AJ zT⟩) (.inl ľ)
  have k_:=lR w hq ľ;generalize kz:h1.set n (.cells ((ps.set (q.toNat-1) f).map PN.row).flatten)=h2 at z w1;generalize aJv:ps.set (q.toNat-1) f=pH at w1 k_;have s:f.x={A.nd q with AX:=(A.nd q).AX.filter λy=>decide (y≠x)}:=by rw[fF]
  rw[s] at w1;have QG:(A.set q {A.nd q with AX:=(A.nd q).AX.filter λy=>decide (y≠x)}).has x:=HU.2 hx;have qN:=(w1.pn QG).2.1;have Qz:(A.set q {A.nd q with AX:=(A.nd q).AX.filter λy=>decide (y≠x)}).nd x=A.nd x:=by rw[IH,Ac (λh=>hne h.1.symm)]
  obtain⟨h3,E,D,i3,G,l3⟩:=w1.wr QG (k:=1) Br (v:= I 0) rfl (p:=⟨{A.nd x with DA:=0},(pN pH x).kv,(pN pH x).av,by have:=(pN pH x).ok;rw[qN,Qz] at this;exact this⟩) (by simp only[PN.row];rw[qN,Qz];rfl) rfl (B8 Ek.AX Qz).symm;have t:A.cut x=(A.set q {A.nd q with AX:=(A.nd q).AX.filter λy=>decide (y≠x)}).set x {A.nd x with DA:=0}:=by unfold Ar.cut;simp only;rw[c,Ac hp,Qz]
  refine⟨h3,_,?_,by rw[t];exact D,?_⟩;.have inc:=Cu (show k<9223372036854775807 by have:=hb q;omega);rw[Aj,XO,df];simp only[abS,(Hv w g hx).Ag,(Hv w g hq).Ag,w.f1 hx,c,hp,w.f2 hq,b,j.Ag,inc,r2.Ag,z,E]
  .have aJw:h2.length=h.length:=by rw[<-kz,BJ,<-oj,BJ]
   refine⟨Ab,λi hi UC=>?_,λi hi=> .inl (by rw[i3,k_] at hi;exact hi)⟩;have B:i≠n:=λd=>UC (d▸by simp[Fa]);have H:i≠id:=λd=>UC (d▸Ľ);rw[G i B,<-kz,Ao (DK B),<-oj,Ao (DK H)]
end
end Go.Am
end
