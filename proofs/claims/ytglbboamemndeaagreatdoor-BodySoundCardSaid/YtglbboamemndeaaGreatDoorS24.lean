/- Lemmas -/
import Derived.Test.YtglbboamemndeaaGreatDoorS20
import Derived.Test.YtglbboamemndeaaGreatDoorS21
import Derived.Test.YtglbboamemndeaaGreatDoorS22
import Derived.Test.YtglbboamemndeaaGreatDoorS23
import Derived.Test.YtglbboamemndeaaGreatDoorS18
set_option linter.all false
set_option maxRecDepth 100000
section
namespace Go.Am
open Go
abbrev nK:=List Aa->Option IT
def ů(g:IT):nK:=λl=>match l with
 |[]=>some (g)
 |_=>none
def Ű(g:Aa->IT):nK:=λl=>match l with
 |[a0]=>some (g a0)
 |_=>none
def ű(g:Aa->Aa->IT):nK:=λl=>match l with
 |[a0,a1]=>some (g a0 a1)
 |_=>none
def Ų(g:Aa->Aa->Aa->IT):nK:=λl=>match l with
 |[a0,a1,a2]=>some (g a0 a1 a2)
 |_=>none
def ų(g:Aa->Aa->Aa->Aa->IT):nK:=λl=>match l with
 |[a0,a1,a2,a3]=>some (g a0 a1 a2 a3)
 |_=>none
def Ŵ(g:Aa->Aa->Aa->Aa->Aa->IT):nK:=λl=>match l with
 |[a0,a1,a2,a3,a4]=>some (g a0 a1 a2 a3 a4)
 |_=>none
def XM(f:Nat)(g:nK):Prop:=∀l t,g l=some t->t=BZ cx f l
def TJ{f:Nat}{g:IT}(h:BZ cx f []=g):XM f (ů g):=by
 intro l t ht;unfold ů at ht;split at ht;.cases ht;exact(h).symm
 .cases ht
def BD{f:Nat}{g:Aa->IT}(h:∀a0,BZ cx f [a0]=g a0):XM f (Ű g):=by
 intro l t ht;unfold Ű at ht;split at ht;.cases ht;exact(h _).symm
 .cases ht
def Bt{f:Nat}{g:Aa->Aa->IT}(h:∀a0 a1,BZ cx f [a0,a1]=g a0 a1):XM f (ű g):=by
 intro l t ht;unfold ű at ht;split at ht;.cases ht;exact(h _ _).symm
 .cases ht
def El{f:Nat}{g:Aa->Aa->Aa->IT}(h:∀a0 a1 a2,BZ cx f [a0,a1,a2]=g a0 a1 a2):XM f (Ų g):=by
 intro l t ht;unfold Ų at ht;split at ht;.cases ht;exact(h _ _ _).symm
 .cases ht
def XN{f:Nat}{g:Aa->Aa->Aa->Aa->IT}(h:∀a0 a1 a2 a3,BZ cx f [a0,a1,a2,a3]=g a0 a1 a2 a3):XM f (ų g):=by
 intro l t ht;unfold ų at ht;split at ht;.cases ht;exact(h _ _ _ _).symm
 .cases ht
def qa{f:Nat}{g:Aa->Aa->Aa->Aa->Aa->IT}(h:∀a0 a1 a2 a3 a4,BZ cx f [a0,a1,a2,a3,a4]=g a0 a1 a2 a3 a4):XM f (Ŵ g):=by
 intro l t ht;unfold Ŵ at ht;split at ht;.cases ht;exact(h _ _ _ _ _).symm
 .cases ht
def tb0{f:Nat}{g:IT}(h:BZ cx f []=g):Nat×nK:=(f,ů g)
def Gi{f:Nat}{g:Aa->IT}(h:∀a0,BZ cx f [a0]=g a0):Nat×nK:=(f,Ű g)
def Fv{f:Nat}{g:Aa->Aa->IT}(h:∀a0 a1,BZ cx f [a0,a1]=g a0 a1):Nat×nK:=(f,ű g)
def Rw{f:Nat}{g:Aa->Aa->Aa->IT}(h:∀a0 a1 a2,BZ cx f [a0,a1,a2]=g a0 a1 a2):Nat×nK:=(f,Ų g)
def tb4{f:Nat}{g:Aa->Aa->Aa->Aa->IT}(h:∀a0 a1 a2 a3,BZ cx f [a0,a1,a2,a3]=g a0 a1 a2 a3):Nat×nK:=(f,ų g)
def tb5{f:Nat}{g:Aa->Aa->Aa->Aa->Aa->IT}(h:∀a0 a1 a2 a3 a4,BZ cx f [a0,a1,a2,a3,a4]=g a0 a1 a2 a3 a4):Nat×nK:=(f,Ŵ g)
def ï:List (Nat×nK):=[Gi pg,Fv ph,Fv pj,Gi pk,Gi pq,Gi pt,Gi sU,Fv XI,Fv PE,Fv Oi,Fv M0,Fv FZ,Fv Lj,Fv JS,Fv JT,Fv Rj,Fv II,Gi sV,Gi px,tb0 sW,Fv cT,Fv sX,Fv sY,Rw sZ,Fv tC,Fv TH,Rw cV,Rw tD,Gi cW,Gi tE,Fv tF,Fv cX,Gi tG,Rw cY,Gi XJ,Gi tH,Gi tI,Gi XK,Gi tJ,Fv tK,tb4 cZ,Fv tL,tb0 tM,Gi tN,Rw tO,Fv dB,tb5 tP,tb4 Oj,Gi tQ,Fv tR,Fv tS,Gi tT,Fv dD,Fv tU,Gi TI,Rw tV,Gi XL,tb0 tW,tb0 tX,Fv tY,Gi tZ,Gi dE,Gi dF,Gi dG,tb0 py,Fv pz,Gi p_,Fv uA,Fv Vl,Fv Vm,tb4 Qe,Fv dH,Rw dI,Fv dJ,Fv Vn,Gi dM,tb4 Vo,Fv dN,Fv Vp,Fv dO,Fv dQ,Fv dR,Rw dS,Rw dU,Rw dW,Rw dX,Fv dY,Fv dZ,Gi Sn,Gi eA,Fv Vq,Fv eB,Gi eC,Fv eD,Fv ME,Rw eE,Fv Vr,Fv eF,Rw eI,Fv eJ,Gi eK,Rw eL,Gi eM,Gi eO,Rw eP,Gi eQ,Fv eR,Fv eS,Fv eT,Gi eU,tb5 Vs,Fv Vt,Gi Vu,Fv eV,Rw Vv,Fv eW,Fv Vw,Fv eX,Fv eY,Fv eZ,Fv Vx,Fv Vy,Rw fA,Gi fB,Gi fC,Gi fD,Gi So,Gi fE,Gi fF,Gi fG,Gi KG,Gi fH,Gi Ok,Gi Qf,Gi Qg,Gi fI,Gi Vz,Gi Ol,Gi Sp,Gi Qh,Gi VA,Gi VB,Gi VC,Gi VD,Gi MF,Gi VE,Gi VF,Gi fJ,Gi VG,Gi VH,Gi MG,Gi Qi,Gi fK,Fv fL,Fv VI,Fv fM,Rw fN,Fv Sq,Gi fO,Fv fP,Fv fQ,Fv fR,Gi fS,Gi fU,Fv VJ,Rw fV,Fv fW,Fv fX,Gi fY,Fv fZ,Fv gA,Fv gB,Fv gC,Fv gD,Rw gE,Rw gF,Fv gG,tb4 gH,Rw gJ,Rw gK,tb0 gL,Fv gM,Gi gN,Fv gO,Gi gP,Gi gQ,Gi gR,Fv gS,Gi gT,Gi gU,Fv Sr,Gi VK,Fv Ss,Rw gV,Gi gW,Fv gX,Gi gY,Fv gZ,Fv hC,Gi hO,Gi hZ,Fv iA,Rw iB,Fv iC,Gi iD,Fv iE,Fv VL,Fv iF,Fv iG,Fv iH,Fv iI,Fv iJ,Fv VM,Gi Su,Rw iK,Rw iL,Fv iM,Rw VN,Rw VO,Fv iN,Gi iO,Fv iP,Rw VP,Gi iQ,Fv iR,Gi iS,Gi iT,Fv iU,Gi iV,Fv xQ,Gi Om,Gi On,Gi Oo]
def qb:List (Nat×nK)->Prop
 |[]=>True
 |(f,g)::l=>XM f g/\qb l
def qg:qb ï:=
 ⟨BD pg,Bt ph,Bt pj,BD pk,BD pq,BD pt,BD sU,Bt XI,Bt PE,Bt Oi,Bt M0,Bt FZ,Bt Lj,Bt JS,Bt JT,Bt Rj,Bt II,BD sV,BD px,TJ sW,Bt cT,Bt sX,Bt sY,El sZ,Bt tC,Bt TH,El cV,El tD,BD cW,BD tE,Bt tF,Bt cX,BD tG,El cY,BD XJ,BD tH,BD tI,BD XK,BD tJ,Bt tK,XN cZ,Bt tL,TJ tM,BD tN,El tO,Bt dB,qa tP,XN Oj,BD tQ,Bt tR,Bt tS,BD tT,Bt dD,Bt tU,BD TI,El tV,BD XL,TJ tW,TJ tX,Bt tY,BD tZ,BD dE,BD dF,BD dG,TJ py,Bt pz,BD p_,Bt uA,Bt Vl,Bt Vm,XN Qe,Bt dH,El dI,Bt dJ,Bt Vn,BD dM,XN Vo,Bt dN,Bt Vp,Bt dO,Bt dQ,Bt dR,El dS,El dU,El dW,El dX,Bt dY,Bt dZ,BD Sn,BD eA,Bt Vq,Bt eB,BD eC,Bt eD,Bt ME,El eE,Bt Vr,Bt eF,El eI,Bt eJ,BD eK,El eL,BD eM,BD eO,El eP,BD eQ,Bt eR,Bt eS,Bt eT,BD eU,qa Vs,Bt Vt,BD Vu,Bt eV,El Vv,Bt eW,Bt Vw,Bt eX,Bt eY,Bt eZ,Bt Vx,Bt Vy,El fA,BD fB,BD fC,BD fD,BD So,BD fE,BD fF,BD fG,BD KG,BD fH,BD Ok,BD Qf,BD Qg,BD fI,BD Vz,BD Ol,BD Sp,BD Qh,BD VA,BD VB,BD VC,BD VD,BD MF,BD VE,BD VF,BD fJ,BD VG,BD VH,BD MG,BD Qi,BD fK,Bt fL,Bt VI,Bt fM,El fN,Bt Sq,BD fO,Bt fP,Bt fQ,Bt fR,BD fS,BD fU,Bt VJ,El fV,Bt fW,Bt fX,BD fY,Bt fZ,Bt gA,Bt gB,Bt gC,Bt gD,El gE,El gF,Bt gG,XN gH,El gJ,El gK,TJ gL,Bt gM,BD gN,Bt gO,BD gP,BD gQ,BD gR,Bt gS,BD gT,BD gU,Bt Sr,BD VK,Bt Ss,El gV,BD gW,Bt gX,BD gY,Bt gZ,Bt hC,BD hO,BD hZ,Bt iA,El iB,Bt iC,BD iD,Bt iE,Bt VL,Bt iF,Bt iG,Bt iH,Bt iI,Bt iJ,Bt VM,BD Su,El iK,El iL,Bt iM,El VN,El VO,Bt iN,BD iO,Bt iP,El VP,BD iQ,Bt iR,BD iS,BD iT,Bt iU,BD iV,Bt xQ,BD Om,BD On,BD Oo,trivial⟩
def zh(f:Nat):List (Nat×nK)->List Aa->Option IT
 |[],_=>none
 |(k,g)::l,args=>if Nat.beq k f then g args else zh f l args
def xR{f:Nat}{args:List Aa}{t:IT}:∀{l:List (Nat×nK)},qb l->zh f l args=some t->t=BZ cx f args
 |[],_,h=>by cases h
 |(k,g)::l,ha,h=>by
  simp only[zh] at h;split at h;.rename_i hk;have hk:k=f:=MM hk;subst hk;exact ha.1 _ _ h
  .exact xR ha.2 h
noncomputable def ð(f:FuncId)(args:List Aa):IT:=match zh f ï args with
 |some t=>t
 |none=>BZ cx f args
def Rk:ð=BZ cx:=by
 funext f args;unfold ð;split;.rename_i t h;exact xR qg h
 .rfl
def XO:Option Ju->Bool
 |some (.ret,[.bool true],_)=>true
 |_=>false
def YY{r:Option Ju}(h:XO r=true):∃h',r=some (.ret,[.bool true],h'):=by
 unfold XO at h;split at h;.exact⟨_,rfl⟩
 .cases h
end Go.Am
end
section
namespace Go.Am
open Go
section
def aHA(s:Aj):Nr cx 207 [.str s] (.bool (decide (s∈JL))):=by rw[R6,fY];rw[show aC8 (.str s)=sw s (.ret .ret [tt]) (.ret .ret [ff]) JL from rfl,ng];exact⟨λh=>by simp[h],λh=>by simp[h]⟩
section
variable{Q:JE}{h:Ai}{k:Aa->IT}{s:Aj}
@[simp] theorem qi:W cx (.Cb 207 [.str s] k) Q h↔W cx (k (.bool (decide (s∈JL)))) Q h:=(aHA s).Cb rfl rfl
end
def f234(s:Aj):Nr cx 224 [.str s] (.bool (decide (s∈P8\/s∈JL))):=by rw[R6,gQ];rw[show aC9 (.str s)=sw s (.ret .ret [tt]) (.Cb 207 [.str s] λv=> .ret .ret [v]) P8 from rfl,ng];exact⟨λh=>by simp[h],λh=>by simp[h]⟩
def aHB(n:Int)(s:Aj):Nr cx 211 [I n,.str s] (.bool (decide (n=3/\s∈N8))):=by
 rw[R6,gC];by_cases h:n=3;.simp[h,N8];by_cases h1:s=[109,105]<;>by_cases h2:s=[109,110]<;>by_cases b:s=[109,111]<;>by_cases a:s=[109,115]<;>simp[h1,h2,b,a]
 .simp[h]
section
variable{Q:JE}{h:Ai}{k:Aa->IT}{s:Aj}{n:Int}
@[simp] theorem qj:W cx (.Cb 224 [.str s] k) Q h↔W cx (k (.bool (decide (s∈P8\/s∈JL)))) Q h:=(f234 s).Cb rfl rfl
@[simp] theorem aDe:W cx (.Cb 211 [I n,.str s] k) Q h↔W cx (k (.bool (decide (n=3/\s∈N8)))) Q h:=(aHB n s).Cb rfl rfl
end
def zi(n:Int)(s:Aj):Nr cx 124 [I n,.str s] (.bool (Ef n s)):=by
 rw[R6,eB];rw[show aC5 (I n) (.str s)= .op (.int .eql) [I n,I 3] λv=> .FH v (.op (.str .eql) [.str s,S aQt] λv=> .FH v (.ret .ret [tt]) (.Cb 211 [I n,.str s] λv=> .ret .ret [v]))
  (.op (.int .eql) [I n,I 2] λv=> .FH v (sw s (.ret .ret [tt]) (.op (.str .eql) [.str s,S aQq] λv=> .ret .ret [v]) [aRW,aQL])
  (.op (.int .eql) [I n,I 1] λv=> .FH v (sw s (.ret .ret [tt]) (.ret .ret [ff]) R5) (.ret .ret [ff]))) from rfl]
 by_cases a:n=3;.by_cases h:s=aQt<;>simp[a,Ef,h]
 .by_cases h2:n=2;.by_cases ha:s=aRW<;>by_cases hb:s=aQL<;>simp[h2,ng,Ef,ZR,ha,hb]
  .by_cases h1:n=1;.by_cases h:s∈R5<;>simp[h1,ng,Ef,h]
   .simp[a,h2,h1,Ef]
section
variable{Q:JE}{h:Ai}{k:Aa->IT}{s:Aj}{n:Int}
@[simp] theorem XP:W cx (.Cb 124 [I n,.str s] k) Q h↔W cx (k (.bool (Ef n s))) Q h:=(zi n s).Cb rfl rfl
end
end
section
end
section
section
variable{Q:JE}{h:Ai}{k:Aa->IT}{s:Aj}
end
section
variable{Q:JE}{h:Ai}{k:Aa->IT}{s:Aj}{n:Int}
end
end
section
def aHC(a b:Int)(h:Ai):B2 cx 231 [.int .i32 a,.int .i32 b] h (.func (.func 271) [] [.Cu [.int .i32 a],.Cu [.int .i32 b]]) h:=by rw[Ae,Ss];simp only[B9]
def aHD(c a b:Int)(h:Ai):B2 cx 271 [.int .i32 c,.Cu [.int .i32 a],.Cu [.int .i32 b]] h (.bool (decide (a<=c/\c<=b))) h:=by rw[Ae,VP];simp only[B9];refine⟨λh=>by simp[h],λh=>by simp[h]⟩
def aHE(c:Int):Nr cx 274 [.int .i32 c] (.bool (decide (65<=c/\c<=90))):=by rw[R6,iQ];simp only[B9,Nat.reduceLeDiff,↓reduceIte,(aHC _ _ _).Ad,Cc,(aHD _ _ _ _).Ad]
def ŵ(s:Aj)(hs:s.length<=AJ):Nr cx 236 [.str s] (.str (EM s)):=by
 have j8:s.length<=140737488355328:=hs;rw[R6,gW,aDb];have i:Io [] (.str s)=some ([.cells ((Hr s 0).map OH)],.CT 0 0 s.length 1):=by simp only[Io,hs,BE];rfl
 have g:Az (.len false) [.CT 0 0 s.length 1]=some (I (s.length:Int)):=rfl;simp only[B9,i,g];refine BM (λn:Nat=>[I (n:Int)]) (λn h=>n<=s.length/\h=[.cells ((Hr s n).map OH)]) (λn=>s.length-n) 0 rfl ⟨Bc _,rfl⟩ ?_;rintro n h ⟨hn,rfl⟩;rcases Bl n s.length with hlt|GS
 .have i1:(n:Int)<(s.length:Int):=by omega
  have f:Az (.FG 1) [.CT 0 0 s.length 1,I (n:Int)]=some (Pt 0 n):=by simp[Az,elemOf,LN,hlt]
  have e:Bd [.cells ((Hr s n).map OH)] none (Pt 0 n)=some (.int .u8 (s[n].toNat:Int)):=rR (by rw[CA,Xh hlt];rfl);have d:IntKind.i32.wrap (s[n].toNat:Int)=(s[n].toNat:Int):=m_ (by have:=s[n].toNat_lt;omega);simp only[B9,i1,AL,AR,AI,f,e,Vf,d,(aHE _).Cb rfl rfl,CE (Ac:n<9223372036854775807)];refine⟨λhe=>?_,λhe=>?_⟩
  .have ñ:65<=s[n].toNat/\s[n].toNat<=90:=by omega
   have c:CK [.cells ((Hr s n).map OH)] 1 (Pt 0 n) (.int .u8 ((s[n].toNat:Int)-65+97))=some [.cells (((Hr s n).map OH).set n (.int .u8 ((s[n].toNat:Int)-65+97)))]:=mT (by rw[Aw,Xg];exact hlt) rfl;simp only[B9,rO,rN,wrap_u8 (Ac:0<=((s[n].toNat:Int)-65)/\((s[n].toNat:Int)-65)<=255),wrap_u8 (Ac:0<=((s[n].toNat:Int)-65+97)/\((s[n].toNat:Int)-65+97)<=255),c];refine Br.next (n+1) rfl ⟨hlt,?_⟩ Ac;rw[Sb hlt,IL];have b:OH (Jo s[n])= .int .u8 ((s[n].toNat:Int)-65+97):=by unfold OH;rw[cE ñ];congr 1;omega
   rw[b]
  .have kE:¬(65<=s[n].toNat/\s[n].toNat<=90):=by omega
   refine Br.next (n+1) rfl ⟨hlt,?_⟩ Ac;rw[Sb hlt,Sa kE,Sc (Xh hlt)]
 .have i1:¬(n:Int)<(s.length:Int):=by omega
  have en:n=s.length:=Ac;subst en;have a:KK [.cells ((Hr s s.length).map OH)] (.CT 0 0 s.length 1)=some ([.Dw],.sl 1 (CX (EM s))):=by
   have hl:(EM s).length=s.length:=by simp[EM]
   rw[mS];simp only[KK,Ij];rw[Ag (by simp[hl])];rw[Ps (EM s) s.length 0 Ac];simp
  simp only[B9,i1,AN,AR,AI,a,Bz.YB (s:=EM s) .mk]
end
section
def Sv(l:Aj)(ws:List Aj):Prop:=Ev cx 269 [.str l] [] λr _=>r= .sl 1 (ws.map B6)
def QQ{l:Aj}{ws:List Aj}(n:Nat)(hr:(IT.run ð n (ð 269 [.str l]) []).map (λx=>(x.1,x.2.1))=some (.ret,[.sl 1 (ws.map B6)])):Sv l ws:=by obtain⟨⟨x,vs,h⟩,a,b⟩:=aA7.1 hr;cases b;rw[Rk] at a;exact⟨n,_,_,_,a,rfl,_,rfl,rfl⟩
def aDf{l:Aj}{ws:List Aj}(hf:Sv l ws)(hw:∀w∈ws,w.length<=AJ)(hn:ws.length<9223372036854775807)(name:Aj):Nr cx 226 [.str name,.str l] (.str (DH name ws)):=by
 rw[R6,gS];refine jb (hf.mono λr h1 e=>?_);subst e;have pC:Bz 1 (ws.map B6) (.sl 1 (ws.map B6)):= .mk;simp only[B9,pC.len];refine BM (λn:Nat=>[.str [],I (n:Int)]) (λn _=>n<=ws.length/\DH name ws=DH name (ws.drop n)) (λn=>ws.length-n) 0 rfl ⟨Bc _,rfl⟩ ?_;rintro n h ⟨ò,ha⟩;rcases Bl n ws.length with hlt|GS
 .have i1:(n:Int)<((ws.map B6).length:Int):=Ek;have de:n<(ws.map B6).length:=by simpa using hlt
  have a:(ws.map B6)[n]=[.str ws[n]]:=by simp[B6]
  rw[Ay hlt,DH] at ha;simp only[B9,i1,AL,AR,AI,pC.FG de,a,(ŵ ws[n] (hw _ (Bb hlt))).Cb rfl rfl,CE (Ac:n<9223372036854775807)];refine⟨λhe=>?_,λhe=>?_⟩;.rw[ha,Ag he]
  .rw[Af he] at ha;exact Br.next (n+1) rfl ⟨hlt,ha⟩ Ac
 .have i1:¬(n:Int)<((ws.map B6).length:Int):=Ek;rw[AV GS,DH] at ha;simp only[B9,i1,AN,AR,AI,ha]
def UT:Sv Tr Nu:=QQ 5000 C4
def UU:Sv Ts Nv:=QQ 5000 C4
def f151(s:Aj):Nr cx 142 [.str s] (.str (DH s Nu)):=by rw[R6,eU,show aC7 (.str s)= .Cb 226 [.str s,.str Tr] λv=> .ret .ret [v] from rfl];rw[(aDf (l:=Tr) UT Eg Eg s).Cb rfl rfl];simp only[B9]
def f235(s:Aj):Nr cx 225 [.str s] (.str (DH s Nv)):=by rw[R6,gR,show aDa (.str s)= .Cb 226 [.str s,.str Ts] λv=> .ret .ret [v] from rfl];rw[(aDf (l:=Ts) UU Eg Eg s).Cb rfl rfl];simp only[B9]
end
section
def aHF{v:Aa}{l:List AZ}(hv:A6 l v)(hn:l.length<9223372036854775807)(h:Ai){f:FuncId}{p:AZ->Bool}(hp:∀a∈l,B2 cx f [.agg a.row] h (.bool (p a)) h)(hf:f<=99999):
  B2 cx 196 [v,.func (.func f) [] []] h (I (BT p 0 l)) h:=by
 rw[Ae,Sq];have hlen:(l.map AZ.row).length=l.length:=Aw ..;simp only[B9,Bz.len hv];refine BM (λn:Nat=>[I 0,I (n:Int)]) (λn h1=>n<=l.length/\BT p 0 l=BT p n (l.drop n)/\h1=h) (λn=>l.length-n) 0 rfl ⟨Bc _,rfl,rfl⟩ ?_;rintro n h1 ⟨ò,ha,rfl⟩;rcases Bl n l.length with hlt|GS
 .have i1:(n:Int)<((l.map AZ.row).length:Int):=by rw[hlen];omega
  have c:(l.map AZ.row)[n]'(by rw[hlen];exact hlt)=AZ.row l[n]:=Ax;have b:E8 (AZ.row l[n]) 0 (some 3)=some (.agg (AZ.row l[n])):=by simp[AZ.row]
  rw[Ay hlt,BT] at ha;simp only[B9,↓reduceIte,Cc,hf,Bs,i1,AL,AR,AI,Bz.FG hv (show n<(l.map AZ.row).length by rw[hlen];exact hlt),c,b,(hp _ (Bb hlt)).Ad];rw[C8];refine⟨λhe=>?_,λhe=>?_⟩;.rw[ha,Ag he]
  .rw[Af (by simp[he])] at ha;simp only[B9,CE (Ac:n<9223372036854775807)];exact Br.next (n+1) rfl ⟨hlt,ha,rfl⟩ Ac
 .have i1:¬(n:Int)<((l.map AZ.row).length:Int):=by rw[hlen];omega
  rw[AV GS,BT] at ha;simp only[B9,↓reduceIte,Cc,hf,i1,AN,AR,AI,ha]
def f188(a:AZ)(h:Ai):B2 cx 197 [.agg a.row] h (.bool (wX a)) h:=by rw[Ae,fO,AZ.row];simp only[B9,wX];refine⟨λh=>by simp[h],λh=>by simp[h]⟩
def f189(a b:Aj)(ha:a.length<=AJ)(hb:b.length<=AJ):Nr cx 152 [.str a,.str b] (.bool (decide (EM a=EM b))):=by rw[R6,eX];simp only[B9,(ŵ a ha).Cb rfl rfl,(ŵ b hb).Cb rfl rfl]
def f96{v:Aa}{l:List AZ}(hv:A6 l v)(hl:∀a∈l,a.value.length<=AJ)(hn:l.length<9223372036854775807)(n:Int)(s:Aj)(h:Ai):B2 cx 105 [I n,.str s,v] h (.bool (Iu n s l)) h:=by
 rw[Ae,dI];simp only[B9,XP,(aHF hv hn h (λa _=>f188 a h) AM).Ad,Iu];refine⟨λh2=>by simp[h2],λh2=>⟨λb=>by simp[h2,b],λb=>⟨λg=>by simp[h2,b,g],λg=>?_⟩⟩⟩;rw[Af h2,Af b,Af g];rcases Gr (p:=wX) (l:=l) (k:=0) with⟨f,d⟩|⟨k,a,f,d,i⟩
 .rw[f,d];simp
 .rw[f,i,BB];obtain⟨hk,e⟩:=Al.1 d;have c:k<(l.map AZ.row).length:=by simpa using hk
  have o:(l.map AZ.row)[k]=AZ.row a:=by simp[e]
  have i1:(0:Int)<=(k:Int):=Ac;have Qr:a.value.length<=AJ:=hl a (e▸Bb hk);have m:EM wY=wY:=Pu Eg;have j:EM cF=cF:=Pu Eg;simp only[B9,i1,AL,AR,AI,Bz.FG hv c,o,AZ.row,(f189 a.value wY Qr AM).Cb rfl rfl,(f189 a.value cF Qr AM).Cb rfl rfl,m,j];refine⟨λh=>by simp[h],λh=>by simp[h]⟩
end
section
section
variable{U:Type}{f:U->List Aa}{l l2:List U}{v v2:Aa}{z b:Nat}{k k2:IntKind}
end
section
variable{h:Ai}{p:Aa}{l:List Item}
def Sw(hs:bp h p l):B2 cx 8 [p] h (I (l.length:Int)) h:=by
 rw[Ae,pg];rcases hs with⟨rfl,rfl⟩|⟨id,o,v,rfl,hc,hv⟩
 .simp
 .simp only[B9,HI,hc.load,Bp,hv.GO]
def Sx(hs:bp h p l)(i:Int):B2 cx 9 [p,I i] h (.agg (DO l i).row) h:=by
 rw[Ae,ph];simp only[B9,↓reduceIte,Bj,(Sw hs).Ad];refine⟨λhi=>by rw[Xj (.inl hi)];simp[Item.row,Item.zero],λhi=>⟨λhl=>by rw[Xj (.inr hl)];simp[Item.row,Item.zero],λhl=>?_⟩⟩;rcases hs with⟨rfl,rfl⟩|⟨id,o,v,rfl,hc,hv⟩
 .simp at hl;omega
 .obtain⟨n,rfl⟩:=S2 (Ac:0<=i);have hn:n<l.length:=Ac;simp only[B9,Nat.reduceLeDiff,↓reduceIte,Jw,hc.load,Bp,hv.DB hn,HL hn]
def f39(hs:bp h p l)(hn:l.length<=1000000000):B2 cx 135 [p] h (.agg (Fs l).row) h:=by rw[Ae,eM];simp only[B9,Jw,(Sw hs).Ad,DN (Ac: -9223372036854775808<=(l.length:Int)-1) (Ac:(l.length:Int)-1<9223372036854775808),(Sx hs _).Ad,Fs]
def UW(F:Aa)(h:Ai)(q:Item->Bool):Prop:=∃f caps,F= .func (.func f) [] caps/\f<=99999/\∀a:Item,B2 cx f (.agg a.row::caps) h (.bool (q a)) h
def UW.Iz{F:Aa}{q:Item->Bool}(hF:UW F h q)(a:Item){k:Aa->IT}{Q:JE}:W cx (.Iz F [.agg a.row] k) Q h↔W cx (k (.bool (q a))) Q h:=by obtain⟨f,caps,rfl,hf,hr⟩:=hF;rw[Mx];simp only[Cc,hf,↓reduceIte,BR,CD,LY,(hr a).Ad]
def Ŷ(hs:bp h p l)(hn:l.length<=1000000000){F:Aa}{q:Item->Bool}(hF:UW F h q):B2 cx 208 [p,F] h (I (AW q l)) h:=by
 obtain⟨f,caps,rfl,hf,hr⟩:=hF;rw[Ae,fZ];simp only[B9,(Sw hs).Ad,DN (Ac: -9223372036854775808<=(l.length:Int)-1) (Ac:(l.length:Int)-1<9223372036854775808)];refine BM (λn:Nat=>[I 0,I ((n:Int)-1)]) (λn h1=>n<=l.length/\AW q l=AW q (l.take n)/\h1=h) (λn=>n) l.length rfl ⟨Ab _,by rw[BN],rfl⟩ ?_;rintro n h1 ⟨ò,ha,rfl⟩;cases n with
 |zero=>have i1:¬(0:Int)<=((0:Nat):Int)-1:=Ac;rw[ha];simp only[B9,↓reduceIte,Cc,hf,i1,AN,AR,AI,Pw]
 |succ n=>
  have i1:(0:Int)<=((n+1:Nat):Int)-1:=Ac;have a:((n+1:Nat):Int)-1=(n:Int):=Ac;rcases hs with⟨rfl,rfl⟩|⟨id,o,v,rfl,hc,hv⟩
  .simp at ò
  .rw[N9 Ac] at ha;simp only[B9,Nat.reduceLeDiff,↓reduceIte,Cc,Jw,hf,a,(Ac:(0:Int)<=(n:Int)),AL,AR,AI,hc.load,Bp,hv.DB (Ac:n<l.length),(hr l[n]).Ad,DN (Ac: -9223372036854775808<=(n:Int)-1) (Ac:(n:Int)-1<9223372036854775808)];rw[C8];refine⟨λhe=>?_,λhe=>?_⟩;.rw[ha,Ag he]
   .rw[Af (by simp[he])] at ha;exact Br.next n rfl ⟨Ac,ha,rfl⟩ Ac
def aHG{v:Aa}{ws:List Aj}(hv:HP ws v)(hn:ws.length<=1000000000)(s:Aj)(h:Ai):B2 cx 257 [v,.str s] h (I (BT (λw=>decide (s=w)) 0 ws)) h:=by
 rw[Ae,iG];have hv:Bz 1 (ws.map B6) v:=hv;simp only[B9,hv.GO];refine BM (λn:Nat=>[I 0,I (n:Int)]) (λn h1=>n<=ws.length/\BT (λw=>decide (s=w)) 0 ws=BT (λw=>decide (s=w)) n (ws.drop n)/\h1=h) (λn=>ws.length-n) 0 rfl ⟨Bc _,rfl,rfl⟩ ?_;rintro n h1 ⟨ò,ha,rfl⟩;rcases Bl n ws.length with hlt|GS
 .have i1:(n:Int)<(ws.length:Int):=by omega
  rw[Ay hlt,BT] at ha;simp only[B9,i1,AL,AR,AI,hv.DB hlt,B6,CE (Ac:n<9223372036854775807)];refine⟨λhe=>?_,λhe=>?_⟩;.rw[ha,Ag (by simpa using he)]
  .rw[Af (by simpa using he)] at ha;exact Br.next (n+1) rfl ⟨hlt,ha,rfl⟩ Ac
 .have i1:¬(n:Int)<(ws.length:Int):=by omega
  rw[AV GS,BT] at ha;simp only[B9,i1,AN,AR,AI,ha]
def zj{v:Aa}{ws:List Aj}(hv:HP ws v)(hn:ws.length<=1000000000)(s:Aj)(h:Ai):B2 cx 198 [v,.str s] h (.bool (decide (s∈ws))) h:=by rw[Ae,fP];simp only[B9,(aHG hv hn s h).Ad,yr]
def f149{v:Aa}{ws:List Aj}(hv:HP ws v)(hn:ws.length<=1000000000)(a:Item)(h:Ai):B2 cx 140 [.agg a.row,v] h (.bool (Bf ws a)) h:=by rw[Ae,eS];simp only[B9,Jw,(zj hv hn _ h).Ad,Bf];refine⟨λh1=>by simp[h1],λh1=>by simp[h1]⟩
def aHH(a:Item)(h:Ai):B2 cx 284 [.agg a.row] h (.bool (Bf R7 a)) h:=by rw[Ae,iS];simp only[B9,Jw,rS,(f149 (ws:=R7) CO AM a h).Ad]
def f290(a:Item)(h:Ai):B2 cx 285 [.agg a.row] h (.bool (!Bf Pr a)) h:=by rw[Ae,iT];simp only[B9,Jw,mU,(f149 (ws:=Pr) CO AM a h).Ad]
def f291(n:Int)(j:n≠4)(i:n≠5)(a:Item)(h:Ai):B2 cx 286 [.agg a.row,.Cu [I n]] h (.bool (Oa n a)) h:=by have b1:=f149 (ws:=Vg) CO AM a h;have b2:=f149 (ws:=cD) CO AM a h;have b3:=f149 (ws:=[aQi]) CO AM a h;rw[Ae,iU];simp only[B9,Jw,XP,rT,bq,br,b1.Ad,b2.Ad,b3.Ad,Oa,j,i];refine⟨λh1=>by simp[h1],λh1=>⟨λh2=>by simp[h2],λh2=>?_⟩⟩;rw[C8];simp only[h1,h2,or_self,DR];refine⟨λd=>by simp[d],λd=>⟨λe=>?_,λe=>⟨λc=>by simp[d,c],λc=>by simp[d,e,c]⟩⟩⟩;rw[C8];exact⟨λc=>by simp[d,e,c],λc=>⟨λg=>Ac,λg=>by simp[d,c,g]⟩⟩
def f264(n:Int)(h:Ai):∃F,B2 cx 262 [I n] h F h/\UW F h (Oa n)/\F.cells=[F]:=by
 by_cases d:n=4
 .refine⟨.func (.func 284) [] [],?_,⟨_,_,rfl,AM,λa=>?_⟩,rfl⟩;.rw[Ae,Su];simp only[B9,d,AL,AR,AI]
  .have:=aHH a h;simpa[Oa,d] using this
 .by_cases c:n=5
  .refine⟨.func (.func 285) [] [],?_,⟨_,_,rfl,AM,λa=>?_⟩,rfl⟩;.rw[Ae,Su];simp only[B9,c,AL,AR,AI];simp
   .have:=f290 a h;simpa[Oa,c] using this
  .refine⟨.func (.func 286) [] [.Cu [I n]],?_,⟨_,_,rfl,AM,λa=>f291 n d c a h⟩,rfl⟩;rw[Ae,Su];simp only[B9,d,c,AN,AR,AI]
def aHI{g d:Aa}{q e:Item->Bool}(h1:UW g h q)(h2:UW d h e)(a:Item):B2 cx 263 [.agg a.row,.Cu [g],.Cu [d]] h (.bool (q a||e a)) h:=by have m:=λk Q=>h1.Iz a (k:=k) (Q:=Q);have j:=λk Q=>h2.Iz a (k:=k) (Q:=Q);rw[Ae,iK];obtain⟨f,caps,rfl,hf,i⟩:=h1;obtain⟨f',c,rfl,lg,r2⟩:=h2;simp only[B9,↓reduceIte,Cc,Jw,hf,lg,(i a).Ad,(r2 a).Ad];rw[C8];exact⟨λh=>by simp[h],λh=>by simp[h]⟩
def aDg(hs:bp h p l)(hn:l.length<=1000000000)(n:Int){F:Aa}{q:Item->Bool}(hF:UW F h q):B2 cx 204 [p,I n,F] h (.bool (Px q (Oa n) l.reverse)) h:=by
 obtain⟨G,g,aDh,Jj⟩:=f264 n h;have c:F.cells=[F]:=by obtain⟨f,caps,rfl,hf,_⟩:=hF;rfl
 have d:=hF;have hfit:UW (.func (.func 263) [] [.Cu [F],.Cu [G]]) h (λa=>q a||Oa n a):=⟨263,_,rfl,AM,λa=>aHI hF aDh a⟩;rw[Ae,fV];simp only[B9,↓reduceIte,Cc,c,g.Ad,Jj,(Ŷ hs hn hfit).Ad];rw[<-rU l true];rcases D5 (q:=λa=>q a||Oa n a) (l:=l) with⟨h1,h2⟩|⟨k,hk,h1,h2,i⟩
 .simp[h1]
 .have e:(0:Int)<=(k:Int)/\(k:Int).toNat<l.length:=⟨Ac,by simpa using hk⟩;simp only[h1];rw[o7 e];rcases hs with⟨rfl,rfl⟩|⟨id,o,v,rfl,hc,hv⟩
  .simp at hk
  .obtain⟨f,caps,rfl,hf,hr⟩:=d;simp only[B9,Nat.reduceLeDiff,↓reduceIte,Jw,hf,e.1,AL,AR,AI,hc.load,Bp,hv.DB hk,(hr l[k]).Ad,By]
def aHJ{v:Aa}{ws:List Aj}(hv:HP ws v)(hn:ws.length<=1000000000)(a:Item)(h:Ai):B2 cx 205 [.agg a.row,.Cu [v]] h (.bool (Bf ws a)) h:=by have b:=f149 hv hn a h;rw[Ae,fW];simp only[B9,Jw,b.Ad]
def aDi(hs:bp h p l)(hn:l.length<=1000000000)(n:Int){v:Aa}{ws:List Aj}(hv:HP ws v)(hw:ws.length<=1000000000):B2 cx 118 [p,I n,v] h (.bool (Px (Bf ws) (Oa n) l.reverse)) h:=by have hfit:UW (.func (.func 205) [] [.Cu [v]]) h (Bf ws):=⟨205,_,rfl,AM,λa=>aHJ hv hw a h⟩;rw[Ae,dX];simp only[B9,hv.cells,(aDg hs hn n hfit).Ad]
def aHK(node:Int)(a:Item)(h:Ai):B2 cx 265 [.agg a.row,.Cu [I node]] h (.bool (BK node a)) h:=by rw[Ae,iM,Item.row];simp only[B9,Jw,BK]
def aDj(hs:bp h p l)(hn:l.length<=1000000000)(n node:Int):B2 cx 214 [p,I n,I node] h (.bool (Px (BK node) (Oa n) l.reverse)) h:=by have hfit:UW (.func (.func 265) [] [.Cu [I node]]) h (BK node):=⟨265,_,rfl,AM,λa=>aHK node a h⟩;rw[Ae,gF];simp only[B9,(aDg hs hn n hfit).Ad]
def aHL(node:Int)(a:Item)(h:Ai):B2 cx 209 [.agg a.row,.Cu [I node]] h (.bool (BK node a)) h:=by rw[Ae,gA,Item.row];simp only[B9,Jw,BK]
def YZ(hs:bp h p l)(hn:l.length<=1000000000)(node:Int):B2 cx 120 [p,I node] h (I (AW (BK node) l)) h:=by have hfit:UW (.func (.func 209) [] [.Cu [I node]]) h (BK node):=⟨209,_,rfl,AM,λa=>aHL node a h⟩;rw[Ae,dZ];simp only[B9,(Ŷ hs hn hfit).Ad]
def f232(s:Aj)(a:Item)(h:Ai):B2 cx 222 [.agg a.row,.Cu [.str s]] h (.bool (Bf [s] a)) h:=by have b:=f149 (ws:=[s]) CO (Ax:[s].length<=1000000000) a h;rw[Ae,gO];simp only[B9,Jw,Ez (ws:=[s]) (args:=[.str s]) rfl Ax,b.Ad]
def zk(hs:bp h p l)(hn:l.length<=1000000000)(s:Aj):B2 cx 132 [p,.str s] h (I (AW (Bf [s]) l)) h:=by have hfit:UW (.func (.func 222) [] [.Cu [.str s]]) h (Bf [s]):=⟨222,_,rfl,AM,λa=>f232 s a h⟩;rw[Ae,eJ];simp only[B9,(Ŷ hs hn hfit).Ad]
end
end
section
section
variable{h:Ai}{p v:Aa}{l:List Item}
def aDk(hv:Dy l v)(a:Item){n:Nat}(hn:n<=l.length)(hb:l.length<=1000000000):∃u,B2 cx 195 [v,.agg a.row,I (n:Int)] h u h/\Dy (l.take n++a::l.drop n) u:=by
 have OS:(l.length+1)*40<=AJ:=by have:AJ=140737488355328:=rfl;omega
 obtain⟨t,q,h1⟩:=Bz.Sd hv (k:= .i64) hn;obtain⟨s,m,h2⟩:=Bz.Pv h1 (b:=40) (by rw[AB];have:AJ=140737488355328:=rfl;omega);have j:=Bz.Xi (a:=a) h2 (b:=40) (by rw[AB];have:AJ=140737488355328:=rfl;omega);obtain⟨r,i,e⟩:=Bz.wZ hv (k:= .i64) hn;obtain⟨d,g,c⟩:=Bz.nj (v:= .sl 4 ((l.take n++[a]).map Item.row)) .mk e (b:=40) (by rw[Ao,AB,Bi,AS];have:AJ=140737488355328:=rfl;omega);refine⟨d,?_,by rw[AT] at c;exact c⟩;rw[Ae,fN];simp only[B9,Jw,q,m,np,j,i,g]
def f95{id o:Nat}(hs:LB h id o l)(hb:l.length<=1000000000)(a:Item):∃u,B2 cx 104 [Pt id o,.agg a.row] h (.tuple []) (put h id o u)/\Dy (l++[a]) u:=by obtain⟨v,hc,hv⟩:=hs;obtain⟨u,hr,hu⟩:=aDk (h:=h) hv a (n:=l.length) (Ab _) hb;rw[BN,GQ] at hu;refine⟨u,?_,hu⟩;rw[Ae,dH];simp only[B9,Jw,Rs,D2,hc.load,Bp,Bz.GO hv,hr.Ad,hc.store hu.cells]
def aHN(hs:bp h p l)(hb:l.length<=1000000000)(node:Int):B2 cx 215 [p,I node] h (I (D0 node l)) h:=by
 rw[Ae,gG];have a: -1<=AW (BK node) l/\AW (BK node) l<l.length+1:=by rcases D5 (q:=BK node) (l:=l) with⟨h1,h2⟩|⟨n,hn,h1,h2,c⟩<;>rw[h1]<;>omega
 simp only[B9,(YZ hs hb node).Ad,Vh (Ac: -9223372036854775808<=AW (BK node) l+1) (Ac:AW (BK node) l+1<9223372036854775808)];rw[Mz];by_cases Jz:AW (BK node) l<0;.rw[Ag Jz];refine BM (λn:Nat=>[I 0,I (AW (BK node) l+1)]) (λn h1=>h1=h) (λn=>n) 0 rfl rfl ?_;rintro n h1 rfl;have i1:¬0<=AW (BK node) l:=Ac;simp only[B9,i1,AN,AR,AI]
 .rw[Af Jz];have i0:0<=AW (BK node) l:=Ac;obtain⟨m,hm⟩:=S2 i0;refine BM (λn:Nat=>[I 0,I (n:Int)]) (λn h1=>Gf Dp l (m+1)=Gf Dp l n/\h1=h) (λn=>l.length-n) (m+1) (by rw[hm];rfl) ⟨rfl,rfl⟩ ?_;rw[hm,By];rintro n h1 ⟨ha,rfl⟩;simp only[B9,(Ac:(0:Int)<=(m:Int)),AL,AR,AI,(Sw hs).Ad];rcases Bl n l.length with hlt|GS
  .have i1:(n:Int)<(l.length:Int):=by omega
   rw[cI hlt] at ha;rcases hs with⟨rfl,rfl⟩|⟨id,o,v,rfl,hc,hv⟩
   .simp at hlt
   .simp only[B9,Jw,i1,AL,AR,AI,hc.load,Bp,Bz.DB hv hlt,XP,CE (Ac:n<9223372036854775807)];rw[C8];refine⟨λhe=>?_,λhe=>?_⟩;.rw[ha,Ag (by exact he)]
    .rw[Af (by simp[Dp,he])] at ha;exact Br.next (n+1) rfl ⟨ha,rfl⟩ Ac
  .have i1:¬(n:Int)<(l.length:Int):=by omega
   rw[YW GS] at ha;simp only[B9,i1,AN,AR,AI,ha]
end
end
section
def XQ(F:Aa)(q:Item->Bool):Prop:=∃f caps,F= .func (.func f) [] caps/\f<=99999/\∀(a:Item) (h:Ai),B2 cx f (.agg a.row::caps) h (.bool (q a)) h
section
variable{h:Ai}{p v:Aa}{l:List Item}
def f42{id o:Nat}(hs:LB h id o l)(hb:l.length<=1000000000)(h2:2<=l.length):∃u,B2 cx 64 [Pt id o] h (.agg (Fs l).row) (put h id o u)/\Dy (l.take (l.length-1)) u:=by obtain⟨v,hc,hv⟩:=(show LB h id o l from hs);obtain⟨u,e,hu⟩:=Bz.Sd hv (k:= .i64) (Ac:l.length-1<=l.length);refine⟨u,?_,hu⟩;have a:(l.length:Int)-1=((l.length-1:Nat):Int):=Ac;rw[Ae,XK];simp only[B9,Jw,(Sw hs.at).Ad,(f39 hs.at hb).Ad,hc.load,Bp,Bz.GO hv,DN (Ac: -9223372036854775808<=(l.length:Int)-1) (Ac:(l.length:Int)-1<9223372036854775808),a,e,hc.store (Bz.cells hu),(Ac:¬(l.length:Int)<2),AN,AR,AI]
def zl{id o:Nat}(hs:LB h id o l)(hb:l.length<=1000000000){B A:Aa}{b a:Item->Bool}(hB:XQ B b)(e:XQ A a):
  ∃u,B2 cx 137 [Pt id o,B,A] h (I ((l.length:Int)-((Dd b a l).length:Int))) (put h id o u)/\Dy (Dd b a l) u:=by
 obtain⟨g,q,rfl,c,rb⟩:=hB;obtain⟨fa,ca,rfl,hfa,ra⟩:=e;have hlt:=hs.lt;have OT:Ev cx 137 [Pt id o,.func (.func g) [] q,.func (.func fa) [] ca] h λr h'=>r= I ((l.length:Int)-((Dd b a l).length:Int))/\∃u,h'=put h id o u/\Dy (Dd b a l) u:=by
  unfold Ev;rw[eP];refine BM (λn:Nat=>[I ((l.length:Int)-(n:Int))]) (λn h1=>n<=l.length/\(∃u,h1=put h id o u/\Dy (l.take n) u)/\Dd b a l=Dd b a (l.take n)) (λn=>n) l.length Ax ⟨Ab _,by rw[BN];exact hs.cK,by rw[BN]⟩ ?_;rintro n h1 ⟨hn,⟨u,rfl,hu⟩,ha⟩;have Lt:LB (put h id o u) id o (l.take n):= .Œ hlt hu;have vZ:(l.take n).length=n:=by rw[AB];omega
  simp only[B9,↓reduceIte,(Sw Lt.at).Ad,vZ];match n,hn,hu,ha,Lt,vZ with
  |0,hn,hu,ha,Lt,vZ=>rw[mV (l:=l.take 0) Ax] at ha;simp only[B9,(Ac:¬(1:Int)<((0:Nat):Int)),AN,AR,AI];exact⟨_,rfl,by rw[ha];rfl,u,rfl,by rw[ha];exact hu⟩
  |1,hn,hu,ha,Lt,vZ=>rw[mV (l:=l.take 1) (by rw[vZ];exact Ab _)] at ha;simp only[B9,(Ac:¬(1:Int)<((1:Nat):Int)),AN,AR,AI];exact⟨_,rfl,by rw[ha,vZ],u,rfl,by rw[ha];exact hu⟩
  |m+2,hn,hu,ha,Lt,vZ=>
   have hm:m+1<l.length:=Ac;have j:((l.length:Int)-((m+2:Nat):Int))+1=(l.length:Int)-((m+1:Nat):Int):=Ac;obtain⟨d,hr,Qs⟩:=f42 Lt Ac Ac;rw[Xk hm] at hr;have i:(l.take (m+2)).take ((l.take (m+2)).length-1)=l.take (m+1):=by rw[vZ,F5,Cx Ac];rfl
   rw[i] at Qs;rw[cG] at hr;have aDm:=f39 Lt.at Ac;rw[Xk hm] at aDm;rw[bx hm] at ha;simp only[B9,↓reduceIte,Cc,hfa,c,(Ac:(1:Int)<((m+2:Nat):Int)),AL,AR,AI,aDm.Ad,(rb _ _).Ad,hr.Ad,(ra _ _).Ad,Vh (Ac: -9223372036854775808<=((l.length:Int)-((m+2:Nat):Int))+1) (Ac:((l.length:Int)-((m+2:Nat):Int))+1<9223372036854775808),j];rw[C8,C8];refine⟨λS6=>⟨λmb=>?_,λmb=>?_⟩,λS6=>?_⟩
   .have S6:b l[m+1]=false:=by simpa using S6
    rw[Af (by simp[S6]),Ag mb] at ha;exact⟨_,rfl,by rw[ha,AB,Cx Ac],d,rfl,by rw[ha];exact Qs⟩
   .have S6:b l[m+1]=false:=by simpa using S6
    rw[Af (by simp[S6]),Af (by simp[mb])] at ha;exact Br.next (m+1) rfl ⟨Ac,⟨d,rfl,Qs⟩,ha⟩ Ac
   .have S6:b l[m+1]=true:=by simpa using S6
    rw[Ag S6] at ha;exact⟨_,rfl,by rw[ha,vZ],u,rfl,by rw[ha];exact hu⟩
 obtain⟨r,h',hr,rfl,u,rfl,hu⟩:=OT.ret;exact⟨u,hr,hu⟩
def Oq:XQ (.func (.func 138) [] []) Da:=⟨_,_,rfl,AM,λa h=>by rw[Ae,eQ];simp only[B9,Jw,Da]⟩
def uB{w:Aa}{ws:List Aj}(hw:HP ws w)(hn:ws.length<=1000000000):XQ (.func (.func 139) [] [.Cu [w]]) (Bf ws):=⟨_,_,rfl,AM,λa h=>by rw[Ae,eR];simp only[B9,Jw,(f149 hw hn a h).Ad]⟩
def iW(s:Aj):XQ (.func (.func 206) [] [.Cu [.str s]]) (EG s):=⟨_,_,rfl,AM,λa h=>by
 rw[Ae,fX];simp only[B9,Jw,qi,EG];refine⟨λh1=>by simp[h1],λh1=>?_⟩;rw[C8];refine⟨λh2=>?_,λh2=>?_⟩
 .have h2:a.name∉JL:=by simpa using h2
  simp[h2]
 .have h2:a.name∈JL:=by simpa using h2
  have h1:a.Be=1:=by simpa using h1
  simp[h2,h1]⟩
def Y0:XQ (.func (.func 223) [] []) DT:=⟨_,_,rfl,AM,λa h=>by
 rw[Ae,gP];simp only[B9,Jw,qj,DT];refine⟨λh1=>by simp[h1],λh1=>?_⟩;have h1:a.Be=1:=by simpa using h1
 simp[h1]⟩
def iX(node:Int):XQ (.func (.func 210) [] [.Cu [I node]]) (BK node):=⟨_,_,rfl,AM,λa h=>by rw[Ae,gB];simp only[B9,Jw,BK]⟩
def ŷ{id o:Nat}(hs:LB h id o l)(hb:l.length<=1000000000)(s:Aj):
  ∃u,B2 cx 119 [Pt id o,.str s] h (I ((l.length:Int)-((Dd (EG s) Da l).length:Int))) (put h id o u)/\Dy (Dd (EG s) Da l) u:=by
 obtain⟨u,hr,hu⟩:=zl hs hb (iW s) Oq;exact⟨u,by rw[Ae,dY];simp only[B9,hr.Ad],hu⟩
def f66{id o:Nat}(hs:LB h id o l)(hb:l.length<=1000000000){w:Aa}{ws:List Aj}(hw:HP ws w)(hn:ws.length<=1000000000):
  ∃u,B2 cx 66 [Pt id o,w] h (I ((l.length:Int)-((Dd Da (Bf ws) l).length:Int))) (put h id o u)/\Dy (Dd Da (Bf ws) l) u:=by
 obtain⟨u,hr,hu⟩:=zl hs hb Oq (uB hw hn);exact⟨u,by rw[Ae,tK];simp only[B9,HP.cells hw,hr.Ad],hu⟩
def aHO{id o:Nat}(hs:LB h id o l)(hb:l.length<=1000000000):
  ∃u,B2 cx 133 [Pt id o] h (I ((l.length:Int)-((Dd DT Da l).length:Int))) (put h id o u)/\Dy (Dd DT Da l) u:=by
 obtain⟨u,hr,hu⟩:=zl hs hb Y0 Oq;exact⟨u,by rw[Ae,eK];simp only[B9,hr.Ad],hu⟩
def aDn{id o:Nat}(hs:LB h id o l)(hb:l.length<=1000000000)(node:Int):
  ∃u,B2 cx 123 [Pt id o,I node] h (I ((l.length:Int)-((Gs node l).length:Int))) (put h id o u)/\Dy (Gs node l) u:=by
 by_cases Jz:AW (BK node) l<0;.obtain⟨u,e,hu⟩:=hs.cK;refine⟨u,?_,by rw[Gs,Ag Jz];exact hu⟩;rw[Gs,Ag Jz,Int.sub_self,Ae,Vq];simp only[B9,(YZ hs.at hb node).Ad,Jz,AL,AR,AI];exact e
 .obtain⟨u,hr,hu⟩:=zl hs hb Oq (iX node);refine⟨u,?_,by rw[Gs,Af Jz];exact hu⟩;rw[Gs,Af Jz,Ae,Vq];simp only[B9,(YZ hs.at hb node).Ad,Jz,AN,AR,AI,hr.Ad]
end
end
section
section
variable{h:Ai}{p v:Aa}{l:List Item}
def aHP(hv:Dy l v){k:Nat}(hk:k<l.length)(hb:l.length<=1000000000):∃u,B2 cx 239 [v,I (k:Int)] h u h/\Dy (Bv l k) u:=by obtain⟨r,j,h1⟩:=Bz.Sd hv (k:= .i64) (Ac:k<=l.length);obtain⟨q,i,h2⟩:=Bz.Pv h1 (b:=40) (xA (by rw[AB];omega));obtain⟨m,g,d⟩:=Bz.wZ hv (k:= .i64) (Ac:k+1<=l.length);obtain⟨a,e,c⟩:=Bz.nj h2 d (b:=40) (xA (by rw[AB,Bi];omega));refine⟨a,?_,c⟩;rw[Ae,gZ];simp only[B9,j,i,CE (Ac:k<9223372036854775807),g,e]
def ql{id o:Nat}(hs:LB h id o l)(hb:l.length<=1000000000)(node:Int):∃u,B2 cx 156 [Pt id o,I node] h (.bool (decide (1<=AW (BK node) l))) (put h id o u)/\Dy (Cv node l) u:=by
 by_cases Jz:AW (BK node) l<1;.obtain⟨u,e,hu⟩:=hs.cK;refine⟨u,?_,by rw[Cv,Ag Jz];exact hu⟩;rw[Ae,Vy,<-e];simp only[B9,(YZ hs.at hb node).Ad,Jz,AL,AR,AI,(Ac:¬1<=AW (BK node) l),C0]
 .rcases D5 (q:=BK node) (l:=l) with⟨h1,_⟩|⟨k,hk,h1,_⟩
  .rw[h1] at Jz;omega
  .obtain⟨v,hc,hv⟩:=(show LB h id o l from hs);obtain⟨u,hr,hu⟩:=aHP (h:=h) hv hk hb;refine⟨u,?_,by rw[Cv,Af Jz,h1];exact hu⟩;rw[Ae,Vy];simp only[B9,(YZ hs.at hb node).Ad,hc.load,Bp,h1];rw[h1] at Jz;simp only[B9,hr.Ad,Bp,hc.store (Dy.cells hu),show¬(k:Int)<1 from Jz,AN,AR,AI,(Ac:(1:Int)<=(k:Int)),DM]
def aHQ{id o:Nat}(hs:LB h id o l)(hb:l.length<=1000000000)(a:Item)(i:Int):∃u,B2 cx 218 [Pt id o,.agg a.row,I i] h (.tuple []) (put h id o u)/\Dy (l.take (Gg i l.length)++a::l.drop (Gg i l.length)) u:=by
 obtain⟨v,hc,hv⟩:=(show LB h id o l from hs);obtain⟨u,hr,hu⟩:=aDk (h:=h) hv a (n:=Gg i l.length) (by unfold Gg;omega) hb;refine⟨u,?_,hu⟩;rw[Ae,gK];have c:(if(l.length:Int)<(if i<1 then 1 else i) then(l.length:Int) else(if i<1 then 1 else i))=((Gg i l.length:Nat):Int):=by unfold Gg;split<;>split<;>omega
 simp only[B9,Jw,Rs,D2,hc.load,Bp,cB,Bz.GO hv,my,c,hr.Ad,hc.store (Dy.cells hu)]
def aHR(hv:Dy l v)(hne:l≠[])(hb:l.length<=1000000000):B2 cx 287 [v] h (.CT h.length 0 l.length 4) (h++[.cells (l.map Item.row).flatten]):=by
 have d:Az (.Fe false .sl) [v,.slnil]=some (.bool false):=by
  rcases hv with rfl|⟨rfl,hv⟩
  .rfl
  .exact absurd (by simpa using hv) hne
 have c:Az (.DX 4) []=some (.sl 4 []):=rfl;have a:=Pq (h:=h) (s:= .sl 4 []) (z:=4) (b:=40) (.inr rfl) hv (by simpa using hne) (by rw[Aw];exact xA Ac);rw[Aw] at a;rw[Ae,iV];simp only[B9,d,c,a]
section
variable{id o n z:Nat}{v w:Aa}{X Y:EN}{Av:List (List Aa)}
def At.next(ha:At h id o v):(Am.put h id o w++[X])[h.length]?=some X/\At (Am.put h id o w++[X]) id o w/\(Am.put h id o w++[X]).set h.length Y=Am.put h id o w++[Y]:=by have e:=LA (h:=h) (id:=id) (o:=o) (u:=w);refine⟨by rw[<-e];simp,ha.put.Jn,?_⟩;rw[B0 _ _ Ac,<-e,Eb];rfl
def At.xS(ha:At h id o v)(hv:KK h v=some (h,v)):Kk h 0 (Pt id o)=some h:=by have a:=ha.same;obtain⟨cs,hc,e⟩:=ha;simp only[Kk,hc,Bp,e,hv,Cd];rw[HQ hc] at a;rw[a]
def At.xT(ha:At h id o v)(hr:∀r∈Av,r.length=z):Kk (Am.put h id o (.CT h.length 0 Av.length z)++[.cells Av.flatten]) 0 (Pt id o)=some (Am.put h id o (.sl z Av)++[.Dw]):=by obtain⟨d,c,a⟩:=ha.next (w:= .CT h.length 0 Av.length z) (X:= .cells Av.flatten) (Y:= .Dw);have f1:=Nt hr d;rw[a] at f1;have a2:=(ha.next (w:= .CT h.length 0 Av.length z) (X:= .Dw) (Y:= .Dw)).2.1;obtain⟨cs,hc,e⟩:=c;obtain⟨RU,KS,g⟩:=a2;simp only[Kk,hc,Bp,e,f1,Cd,KS];rw[<-HQ (u:= .sl z Av) KS,cH ha.put,cG]
end
def aHS{id o:Nat}(hs:LB h id o l)(hb:l.length<=1000000000)(node:Int)(a:Item):∃u t,B2 cx 266 [Pt id o,I node,.agg a.row] h (.bool (decide (1<=AW (BK node) l))) (put h id o u++t)/\Dy (Py node a l) u:=by
 obtain⟨v,hc,hv⟩:=(show LB h id o l from hs);by_cases Jz:AW (BK node) l<1;.refine⟨v,[],?_,by rw[Py,Ag Jz];exact hv⟩;have c:=hc.xS (Bz.UD hv);rw[Ae,VN,hc.same,Bs];simp only[B9,Jw,(YZ hs.at hb node).Ad,Jz,AL,AR,AI,c,(Ac:¬1<=AW (BK node) l),C0]
 .rcases D5 (q:=BK node) (l:=l) with⟨h1,_⟩|⟨k,hk,h1,_⟩
  .rw[h1] at Jz;omega
  .have d:¬(k:Int)<1:=by rw[h1] at Jz;exact Jz
   have hne:l≠[]:=by intro e;subst e;simp at hk
   have hcl:=aHR (h:=h) hv hne hb;have j:=(hc.Jn (t:=[EN.cells (l.map Item.row).flatten])).store (u:= .CT h.length 0 l.length 4) rfl;rw[cH hc] at j;obtain⟨s,x,r⟩:=hc.next (w:= .CT h.length 0 l.length 4) (X:= .cells (l.map Item.row).flatten) (Y:= .cells ((l.map Item.row).set k a.row).flatten);have g:=Uq (z:=4) (aCK l) s (i:=k) (by simpa using hk) (q:=a.row) rfl;rw[r] at g;have m:Az (.FG 4) [.CT h.length 0 l.length 4,I (k:Int)]=some (Pt h.length (k*4)):=Ge hk;have c:=hc.xT (mQ (aCK l) (i:=k) (q:=a.row) rfl);rw[BY,Aw] at c;refine⟨.sl 4 ((l.map Item.row).set k a.row),[.Dw],?_,?_⟩;.rw[Ae,VN];simp only[B9,Jw,(YZ hs.at hb node).Ad,h1,d,AN,AR,AI,hc.load,Bp,hcl.Ad,j,x.load,m,g,c,(Ac:(1:Int)<=(k:Int)),DM]
   .rw[Py,Af Jz,h1,By,Dy,IL];exact .mk
end
end
section
section
variable{h:Ai}{p v w:Aa}{l:List Item}{ws:List Aj}
end
end
section
section
variable{e:De}{d:Aa}
end
section
variable{h:Ai}{v:Aa}{l:List De}{id o:Nat}
def f99(hc:At h id o v)(hv:EP l v)(hb:l.length<=1000000000):B2 cx 136 [Pt id o] h (I (since l)) h:=by
 have hv:Bz 3 (l.map De.row) v:=hv;rw[Ae,eO];simp only[B9,hc.load,Bp,hv.GO];refine BM (λn:Nat=>[I (n:Int)]) (λn h1=>n<=l.length/\since l=since (l.take n)/\h1=h) (λn=>n) l.length rfl ⟨Ab _,by rw[BN],rfl⟩ ?_;rintro n h1 ⟨hn,ha,rfl⟩;cases n with
 |zero=>simp only[B9,(Ac:¬(0:Int)<((0:Nat):Int)),AN,AR,AI,ha,b_];rfl
 |succ n=>rw[rX hn] at ha;simp only[B9,(Ac:(0:Int)<((n+1:Nat):Int)),AL,AR,AI,hc.load,Bp,MV (Ac:0<n+1) (Ac:n+1<9223372036854775807),Lq,hv.DB (show n<l.length from hn),De.at0];refine⟨λh0=>Br.next n rfl ⟨Ac,by rw[ha,Af h0],rfl⟩ Ac,λh0=>?_⟩;rw[Ag (by simpa using h0)] at ha;rw[ha];rfl
def aDo(hc:At h id o v)(hv:EP l v)(hb:l.length<=1000000000)(name:Aj):B2 cx 212 [Pt id o,.str name] h (I (QL name l)) h:=by
 have hv:Bz 3 (l.map De.row) v:=hv;rw[Ae,gD];simp only[B9,HI,hc.load,Bp,hv.GO,DN (Ac: -9223372036854775808<=(l.length:Int)-1) (Ac:(l.length:Int)-1<9223372036854775808)];refine BM (λn:Nat=>[I 0,I ((n:Int)-1)]) (λn h1=>n<=l.length/\QL name l=QL name (l.take n)/\h1=h) (λn=>n) l.length rfl ⟨Ab _,by rw[BN],rfl⟩ ?_;rintro n h1 ⟨hn,ha,rfl⟩;cases n with
 |zero=>have i1:¬(0:Int)<=((0:Nat):Int)-1:=Ac;rw[ha];simp only[B9,i1,AN,AR,AI,cc]
 |succ n=>
  have a:((n+1:Nat):Int)-1=(n:Int):=Ac;rw[rY hn] at ha;simp only[B9,a,(Ac:(0:Int)<=(n:Int)),AL,AR,AI,hc.load,Bp,hv.DB (show n<l.length from hn),De.at0,De.nl,DN (Ac: -9223372036854775808<=(n:Int)-1) (Ac:(n:Int)-1<9223372036854775808)];refine⟨λh0=>⟨λh1=>?_,λh1=>?_⟩,λh0=>?_⟩;.rw[ha,Af h0,Ag h1]
  .exact Br.next n rfl ⟨Ac,by rw[ha,Af h0,Af h1],rfl⟩ Ac
  .rw[ha,Ag (by simpa using h0)]
def f41(hc:At h id o v)(hv:EP l v)(hb:l.length<=1000000000)(node:Int):B2 cx 126 [Pt id o,I node] h (I (Kp node l)) h:=by
 have hv:Bz 3 (l.map De.row) v:=hv;rw[Ae,eD];simp only[B9,HI,hc.load,Bp,hv.GO,DN (Ac: -9223372036854775808<=(l.length:Int)-1) (Ac:(l.length:Int)-1<9223372036854775808)];refine⟨λh0=>by rw[Kp,Ag h0],λh0=>?_⟩;rw[Kp,Af h0];refine BM (λn:Nat=>[I 0,I ((n:Int)-1)]) (λn h1=>n<=l.length/\AW (Tu node) l=AW (Tu node) (l.take n)/\h1=h) (λn=>n) l.length rfl ⟨Ab _,by rw[BN],rfl⟩ ?_;rintro n h1 ⟨hn,ha,rfl⟩;cases n with
 |zero=>have i1:¬(0:Int)<=((0:Nat):Int)-1:=Ac;rw[ha];simp only[B9,i1,AN,AR,AI,Pw]
 |succ n=>
  have a:((n+1:Nat):Int)-1=(n:Int):=Ac;rw[N9 hn] at ha;simp only[B9,a,(Ac:(0:Int)<=(n:Int)),AL,AR,AI,hc.load,Bp,hv.DB (show n<l.length from hn),De.at0,DN (Ac: -9223372036854775808<=(n:Int)-1) (Ac:(n:Int)-1<9223372036854775808)];refine⟨λh1=>?_,λh1=>?_⟩;.rw[ha,Ag (by simpa[Tu] using h1)]
  .exact Br.next n rfl ⟨Ac,by rw[ha,Af (by simpa[Tu] using h1)],rfl⟩ Ac
end
section
variable{h:Ai}{v:Aa}{l:List AZ}
def aHT(hv:A6 l v)(hb:l.length<=1000000000)(x:AZ):B2 cx 283 [v,.agg x.row] h (I (BT (λa=>decide (x=a)) 0 l)) h:=by
 have hv:Bz 3 (l.map AZ.row) v:=hv;rw[Ae,iR];simp only[B9,hv.GO,AZ.DW,AZ.g0,AZ.g1,AZ.g2,AZ.UR];refine BM (λn:Nat=>[I 0,I (n:Int)]) (λn h1=>n<=l.length/\BT (λa=>decide (x=a)) 0 l=BT (λa=>decide (x=a)) n (l.drop n)/\h1=h) (λn=>l.length-n) 0 rfl ⟨Bc _,rfl,rfl⟩ ?_;rintro n h1 ⟨hn,ha,rfl⟩;rcases Bl n l.length with hlt|GS
 .have i1:(n:Int)<(l.length:Int):=by omega
  rw[Ay hlt,BT] at ha;simp only[B9,i1,AL,AR,AI,hv.DB hlt,AZ.DW,AZ.KT,Ab,nr,Bool.bne_false,CE (Ac:n<9223372036854775807)];refine⟨λh0=>?_,λh0=>?_⟩;.rw[ha,Ag (by simpa using h0)]
  .exact Br.next (n+1) rfl ⟨hlt,by rw[ha,Af (by simpa using h0)],rfl⟩ Ac
 .have i1:¬(n:Int)<(l.length:Int):=by omega
  rw[AV GS,BT] at ha;simp only[B9,i1,AN,AR,AI,ha]
def aHU(hv:A6 l v)(hb:l.length<=1000000000)(x:AZ):B2 cx 260 [v,.agg x.row] h (.bool (decide (x∈l))) h:=by
 rw[Ae,iJ];simp only[B9,AZ.DW,AZ.g0,AZ.g1,AZ.g2,AZ.UR,(aHT hv hb x).Ad];rcases Gr (p:=λa=>decide (x=a)) (l:=l) (k:=0) with⟨h1,h2⟩|⟨n,a,h1,h2,b⟩
 .rw[h1];have:x∉l:=λhm=>by have:=Lp.1 h2 x hm;simp at this
  simp[this]
 .have hm:=Cr h2;have he:x=a:=by simpa using UC b
  have hx:x∈l:=by rw[he];exact hm
  rw[h1];simp[hx]
def nL(F:Aa)(h:Ai)(q:AZ->Bool):Prop:=∃f caps,F= .func (.func f) [] caps/\f<=99999/\∀a:AZ,B2 cx f (.agg a.row::caps) h (.bool (q a)) h
def aDp{F:Aa}{q:AZ->Bool}(hv:A6 l v)(hb:l.length<=1000000000)(hF:nL F h q):B2 cx 196 [v,F] h (I (BT q 0 l)) h:=by
 have hv:Bz 3 (l.map AZ.row) v:=hv;obtain⟨f,caps,rfl,hf,hr⟩:=hF;rw[Ae,Sq];simp only[B9,hv.GO];refine BM (λn:Nat=>[I 0,I (n:Int)]) (λn h1=>n<=l.length/\BT q 0 l=BT q n (l.drop n)/\h1=h) (λn=>l.length-n) 0 rfl ⟨Bc _,rfl,rfl⟩ ?_;rintro n h1 ⟨ò,ha,rfl⟩;rcases Bl n l.length with hlt|GS
 .have i1:(n:Int)<(l.length:Int):=by omega
  rw[Ay hlt,BT] at ha;simp only[B9,↓reduceIte,Cc,hf,i1,AL,AR,AI,hv.DB hlt,AZ.DW,AZ.KT,Ab,(hr l[n]).Ad];rw[C8];refine⟨λhe=>?_,λhe=>?_⟩;.rw[ha,Ag he]
  .rw[Af (by simp[he])] at ha;simp only[B9,CE (Ac:n<9223372036854775807)];exact Br.next (n+1) rfl ⟨hlt,ha,rfl⟩ Ac
 .have i1:¬(n:Int)<(l.length:Int):=by omega
  rw[AV GS,BT] at ha;simp only[B9,↓reduceIte,Cc,hf,i1,AN,AR,AI,ha]
def aDq{F:Aa}{q:AZ->Bool}(hv:A6 l v)(hb:l.length<=1000000000)(hF:nL F h q):B2 cx 129 [v,F] h (.bool (l.any q)) h:=by
 rw[Ae,Vr];simp only[B9,(aDp hv hb hF).Ad];have:l.any q=(l.find? q).isSome:=by rw[Lb,aLx,M6]
 rw[this];rcases Gr (p:=q) (l:=l) (k:=0) with⟨h1,h2⟩|⟨n,a,h1,h2,b⟩
 .rw[h1,h2];simp
 .rw[h1,b];simp
def f191(hv:A6 l v)(hb:l.length<=1000000000)(x:AZ):B2 cx 259 [.agg x.row,.Cu [v]] h (.bool (!decide (x∈l))) h:=by rw[Ae,iI];simp only[B9,AZ.DW,AZ.g0,AZ.g1,AZ.g2,AZ.UR,(aHU hv hb x).Ad]
def aDr{b:List AZ}{w:Aa}(hv:A6 l v)(hb:l.length<=1000000000)(hw:A6 b w)(Qt:b.length<=1000000000):B2 cx 258 [v,w] h (.bool (decide (∀x∈l,x∈b))) h:=by
 have hF:nL (.func (.func 259) [] [.Cu [w]]) h λx=> !decide (x∈b):=⟨259,_,rfl,AM,λa=>f191 hw Qt a⟩;have e:(!l.any λx=> !decide (x∈b))=decide (∀x∈l,x∈b):=by rw[Lb];simp
 rw[Ae,iH,<-e];simp only[B9,Bz.cells hw,(aDq hv hb hF).Ad]
def f100{a b:De}(ha:gj a)(hb:gj b):B2 cx 199 [.agg a.row,.agg b.row] h (.bool (Lh a.c b.c)) h:=by
 have g:=aDr (h:=h) a.ok ha b.ok hb;have r2:=aDr (h:=h) b.ok hb a.ok ha;rw[Ae,fQ];simp only[B9,Nat.reduceLeDiff,↓reduceIte,Cc,Bs,De.DW,De.g1,De.g2,De.aHt,g.Ad,r2.Ad];refine⟨λh1=>⟨λh2=>⟨λf=>?_,λf=>?_⟩,λh2=>?_⟩,λh1=>?_⟩
 .have kH:a.c.As.length=b.c.As.length:=by omega
  simp only[Lh,h1,kH,PS];congr 3
  rw[eq_iff_iff];exact⟨λh=>⟨f,h⟩,λh=>h.2⟩
 .simp[Lh,f]
 .have kH:¬a.c.As.length=b.c.As.length:=by omega
  simp[Lh,kH]
 .simp[Lh,h1]
end
end
section
def Dj{Q:JE}{h:Ai}{a:Aa}{k:IT}:W cx (.same a a k) Q h↔W cx k Q h:=by refine⟨λhw=>?_,ix (Aa.Se a)⟩;obtain⟨m,x',HB,h',hr,q⟩:=hw.succ;simp only[IT.step,Aa.Se,BE] at hr;exact CP ⟨m,x',HB,h',hr,q⟩
section
variable{h:Ai}{v:Aa}{l:List De}{id o:Nat}
def f45{l:List AZ}(hv:A6 l v)(hb:l.length<=1000000000):∃u,B2 cx 94 [v] h u h/\A6 l u:=by
 have hv:Bz 3 (l.map AZ.row) v:=hv;rcases hv with rfl|⟨rfl,hn⟩
 .refine⟨.sl 3 (l.map AZ.row),?_,.mk⟩;have b:Az (.Fe false .sl) [.sl 3 (l.map AZ.row),.slnil]=some (.bool false):=rfl;have f:Az (.DX 3) []=some (.sl 3 []):=rfl;have c:QC h 3 40 (.sl 3 []) (.sl 3 (l.map AZ.row))=some (.sl 3 (l.map AZ.row)):=by
   simp only[QC,GX,BE,Cd];cases l with
   |nil=>rfl
   |cons a l=>have:(l.length+1)*40<=AJ:=xA (by simp at hb;omega);simp[Dm,this]
  rw[Ae,dG,t94];simp only[B9,b,f,c]
 .refine⟨.slnil,?_,?_⟩;.have b:Az (.Fe false .sl) [.slnil,.slnil]=some (.bool true):=rfl;rw[Ae,dG,t94];simp only[B9,b]
  .exact .inr ⟨rfl,hn⟩
def qm{e:De}(he:gj e):∃a:De,a.c=e.c/\B2 cx 201 [.agg e.row] h (.agg a.row) h:=by obtain⟨u,r,hu⟩:=f45 (h:=h) e.ok he;refine⟨⟨e.c,u,hu⟩,rfl,?_⟩;rw[Ae,fS];simp only[B9,De.DW,De.g0,De.g1,De.g2,r.Ad,Bz.cells hu];rfl
def aDs(hv:EP l v){k:Nat}(hk:k<l.length)(hb:l.length<=1000000000):∃u,B2 cx 200 [v,I (k:Int)] h u h/\EP (Bv l k) u:=by obtain⟨r,m,h1⟩:=Bz.Sd hv (k:= .i64) (Ac:k<=l.length);obtain⟨q,j,h2⟩:=Bz.Pv h1 (b:=48) (ZS (by rw[AB];omega));obtain⟨p,i,f⟩:=Bz.wZ hv (k:= .i64) (Ac:k+1<=l.length);obtain⟨a,g,c⟩:=Bz.nj h2 f (b:=48) (ZS (by rw[AB,Bi];omega));refine⟨a,?_,c⟩;rw[Ae,fR];simp only[B9,m,j,CE (Ac:k<9223372036854775807),i,g]
def f102(hv:EP l v)(e:De){k:Nat}(hk:k<=l.length)(hb:l.length<=1000000000):∃u,B2 cx 134 [v,.agg e.row,I (k:Int)] h u h/\EP (l.take k++e::l.drop k) u:=by obtain⟨x,r,h1⟩:=Bz.Sd hv (k:= .i64) hk;obtain⟨w,q,h2⟩:=Bz.Pv h1 (b:=48) (ZS (by rw[AB];omega));have p:=Bz.Xi (a:=e) h2 (b:=48) (ZS (by rw[AB];omega));obtain⟨t,m,i⟩:=Bz.wZ hv (k:= .i64) hk;obtain⟨g,j,c⟩:=Bz.nj (f:=De.row) (l:=l.take k++[e]) .mk i (b:=48) (ZS (by rw[Ao,AB,Bi,AS];omega));refine⟨g,?_,by rw[AT] at c;exact c⟩;rw[Ae,eL];simp only[B9,De.DW,De.g0,De.g1,De.g2,De.UR,r,q,cf De.DW,p,m,j]
def Ÿ(hv:EP l v)(hne:l≠[])(hb:l.length<=1000000000):B2 cx 121 [v] h (.CT h.length 0 l.length 3) (h++[.cells (l.map De.row).flatten]):=by
 have f:Az (.Fe false .sl) [v,.slnil]=some (.bool false):=by
  rcases hv with rfl|⟨rfl,hv⟩
  .rfl
  .exact absurd (by simpa using hv) hne
 have c:Az (.DX 3) []=some (.sl 3 []):=rfl;have a:=Pq (h:=h) (s:= .sl 3 []) (z:=3) (b:=48) (.inr rfl) hv (by simpa using hne) (by rw[Aw];exact ZS Ac);rw[Aw] at a;rw[Ae,Sn];simp only[B9,f,c,a]
def f63(hs:Tv h id o l)(hb:l.length<=1000000000):∃u,B2 cx 62 [Pt id o] h (.tuple []) (put h id o u)/\EP (l++[cN]) u:=by obtain⟨v,hc,hv⟩:=(show Tv h id o l from hs);obtain⟨u,hr,hu⟩:=f102 (h:=h) hv cN (Ab l.length) hb;rw[BN,GQ] at hu;refine⟨u,?_,hu⟩;rw[Ae,tI];simp only[B9,↓reduceIte,Bj,Rs,D2,hc.load,Bp,Bz.GO hv,nu,hr.Ad,hc.store (EP.cells hu)]
def aHW(hs:Tv h id o l)(hb:l.length<=1000000000){e:De}(he:gj e)(i:Int):∃u a,a.c=e.c/\B2 cx 217 [Pt id o,.agg e.row,I i] h (.tuple []) (put h id o u)/\EP (l.take (Gt i l.length)++a::l.drop (Gt i l.length)) u:=by
 obtain⟨v,hc,hv⟩:=(show Tv h id o l from hs);obtain⟨a,lX,b⟩:=qm (h:=h) he;obtain⟨u,hr,hu⟩:=f102 (h:=h) hv a (k:=Gt i l.length) (by unfold Gt;omega) hb;refine⟨u,a,lX,?_,hu⟩;have f:(if(l.length:Int)<(if i<0 then 0 else i) then(l.length:Int) else(if i<0 then 0 else i))=((Gt i l.length:Nat):Int):=by unfold Gt;split<;>split<;>omega
 rw[Ae,gJ];simp only[B9,De.DW,De.g0,De.g1,De.g2,De.UR,Rs,D2,hc.load,Bp,cB,Bz.GO hv,my,f,b.Ad,Dj,hr.Ad,hc.store (EP.cells hu)]
def f65(hs:Tv h id o l)(hb:l.length<=1000000000):∃u,B2 cx 65 [Pt id o] h (I ((l.length:Int)-((HF l:Nat):Int))) (put h id o u)/\EP (l.take (HF l)) u:=by
 obtain⟨v,hc,hv⟩:=(show Tv h id o l from hs);obtain⟨s,es,Lt,_⟩:=Rc l;have hcl:HF l<=l.length:=by unfold HF;omega
 obtain⟨u,b,hu⟩:=Bz.Sd hv (k:= .i64) hcl;refine⟨u,?_,hu⟩;have a:(if since l-1<0 then 0 else since l-1)=((HF l:Nat):Int):=by unfold HF;split<;>omega
 have vZ:(l.take (HF l)).length=HF l:=by rw[AB];omega
 have c:At (put h id o u) id o u:=hc.put;rw[Ae,tJ];simp only[B9,HI,hc.load,Bp,Bz.GO hv,(f99 hc hv hb).Ad,Dj,DN (Ac: -9223372036854775808<=since l-1) (Ac:since l-1<9223372036854775808),cB,a,b,hc.store (Bz.cells hu),c.load,Bz.GO hu,vZ,DN (Ac: -9223372036854775808<=(l.length:Int)-((HF l:Nat):Int)) (Ac:(l.length:Int)-((HF l:Nat):Int)<9223372036854775808)]
end
end
section
section
variable{e:Ci}{l:List De}{n s:Nat}
end
section
variable{h:Ai}{v:Aa}{l:List De}{id o:Nat}
set_option maxHeartbeats 1000000 in
def f30(hs:Tv h id o l)(hb:l.length<=900000000)(hl:∀x∈l,gj x){e:De}(he:gj e):∃u a,a.c=e.c/\B2 cx 110 [Pt id o,.agg e.row] h (.tuple []) (put h id o u)/\EP (Re e.c l++[a]) u:=by
 obtain⟨v,hc,hv⟩:=(show Tv h id o l from hs);have Hq:Bz 3 (l.map De.row) v:=hv;have Ik:=hs.lt;obtain⟨s,es,Lt,q,_⟩:=Rc l;have OT:Ev cx 110 [Pt id o,.agg e.row] h λr h'=>r= .tuple []/\∃(a:De) (u:Aa),a.c=e.c/\h'=put h id o u/\EP (Re e.c l++[a]) u:=by
  unfold Ev;rw[dN];by_cases h0:e.c.node=0;.obtain⟨a,lX,b⟩:=qm (h:=h) he;obtain⟨u,r2,hu⟩:=f102 (h:=h) hv a (Ab l.length) Ac;rw[BN,GQ] at hu;simp only[B9,De.DW,De.g0,De.g1,De.g2,HI,h0,Cj,AL,AI,AR,AN,hc.load,Bp,Hq.GO];rw[<-h0,De.UR];simp only[B9,b.Ad,Dj,hc.load,Bp,r2.Ad,hc.store (EP.cells hu)];refine⟨_,rfl,rfl,a,u,lX,rfl,?_⟩;rw[Re,Af (λh=>h.1 h0)];exact hu
  .simp only[B9,De.DW,De.g0,De.g1,De.g2,De.UR,HI,h0,Cj,AL,AI,AR,AN,hc.load,Bp,Hq.GO,DN (Ac: -9223372036854775808<=(l.length:Int)-1) (Ac:(l.length:Int)-1<9223372036854775808)];refine BM (λp:Int×Nat×Nat=>[I p.1,I (p.2.1:Int),I ((p.2.2:Int)-1)])
    (λp h1=>s<=p.2.2/\p.2.2<=l.length/\p.2.1+p.2.2<=l.length/\YX e.c l=p.2.1+YX e.c (l.take p.2.2)/\(Rd e.c l=if 0<=Rd e.c (l.take p.2.2) then Rd e.c (l.take p.2.2) else if p.2.1=0 then -1 else p.1)/\(p.2.1=0\/∃k:Nat,k<l.length/\p.1=(k:Int))/\h1=h)
    (λp=>p.2.2) (0,0,l.length) rfl ⟨Lt,Ab _,Ax,Ax,by
     rw[BN];have:∀l:List De,-1<=rZ e.c l:=by
      intro l;induction l with
      |nil=>exact NM _
      |cons x t ih=>rw[rZ];split<;>(try split)<;>(try split)<;>omega
     have:=this l.reverse;simp only[BE];unfold Rd;split<;>omega,.inl rfl,rfl⟩ ?_
   rintro⟨B,f,n⟩ h1 ⟨a1,a2,a3,a4,a5,a6,rfl⟩;simp only at a1 a2 a3 a4 a5 a6;have j:=f99 hc hv Ac;rw[es] at j;rcases Bl s n with hlt|GS
   .obtain⟨n,rfl⟩:∃m,n=m+1:=⟨n-1,Ac⟩;have A:((n+1:Nat):Int)-1=(n:Int):=Ac;have hn:n<l.length:=a2;have g:=q n hn Ac;rw[ZT hn,Af g] at a4;rw[ZU hn,Af g] at a5;have b:=f100 (h:=h1) (hl _ (Bb hn)) he;simp only[B9,A,j.Ad,(Ac:(s:Int)<=(n:Int)),AL,AI,AR,hc.load,Bp,Hq.DB hn,De.DW,De.KT,Ab,b.Ad,CE (Ac:f<9223372036854775807),DN (Ac: -9223372036854775808<=(n:Int)-1) (Ac:(n:Int)-1<9223372036854775808)];rw[C8];refine⟨λh2=>?_,λh2=>?_⟩
    .rw[Ag h2] at a4 a5;refine Br.next ((n:Int),f+1,n) rfl ⟨Gw,Gw,Gw,Gw,?_,.inr ⟨n,hn,rfl⟩,rfl⟩ Gw;simp only
     rw[a5];by_cases hf:0<=Rd e.c (l.take n);.simp[hf]
     .simp[hf,(Ac:(0:Int)<=(n:Int))]
    .rw[Af (by simp[h2])] at a4;rw[Af (show¬Lh l[n].c e.c=true by simp[h2])] at a5;refine Br.next (B,f,n) rfl ⟨Gw,Gw,Gw,Gw,?_,a6,rfl⟩ Gw;simp only
     rw[a5];by_cases hf:0<=Rd e.c (l.take n);.simp[hf]
     .simp[hf]
   .obtain rfl:n=s:=by omega
    obtain⟨b1,b2⟩:=sB (e:=e.c) es;rw[b1,Bp] at a4;rw[b2,Af AM] at a5;simp only[B9,j.Ad,(Ac:¬(n:Int)<=(n:Int)-1),AI,AR,AN];by_cases C:3<=f
    .rcases a6 with a6|⟨k,hk,rfl⟩
     .omega
     rw[Af Ac] at a5;obtain⟨i,b,bD⟩:=aDs (h:=h1) hv hk Ac;have WJ:(Bv l k).length<=l.length:=by unfold Bv;rw[Ao,AB,Bi];omega
     have w:At (put h1 id o i) id o i:=hc.put;obtain⟨a,lX,r2⟩:=qm (h:=put h1 id o i) he;obtain⟨y,z,Qs⟩:=f102 (h:=put h1 id o i) bD a (Ab (Bv l k).length) Ac;rw[BN,GQ] at Qs;simp only[B9,(Ac:(3:Int)<=(f:Int)),AL,AI,AR,hc.load,Bp,b.Ad,hc.store (EP.cells bD),w.load,Bz.GO bD,r2.Ad,Dj,z.Ad,w.store (EP.cells Qs),cG];refine⟨_,rfl,rfl,a,y,lX,rfl,?_⟩;rw[Re,Ag ⟨h0,Ac⟩,a5,By];exact Qs
    .obtain⟨a,lX,b⟩:=qm (h:=h1) he;obtain⟨u,r2,hu⟩:=f102 (h:=h1) hv a (Ab l.length) Ac;rw[BN,GQ] at hu;simp only[B9,(Ac:¬(3:Int)<=(f:Int)),AI,AR,AN,hc.load,Bp,Hq.GO,b.Ad,Dj,r2.Ad,hc.store (EP.cells hu)];refine⟨_,rfl,rfl,a,u,lX,rfl,?_⟩;rw[Re,Af Ac];exact hu
 obtain⟨r,h',hr,rfl,a,u,lX,rfl,hu⟩:=OT.ret;exact⟨u,a,lX,hr,hu⟩
end
end
section
section
variable{h:Ai}{v:Aa}{l:List De}{id o:Nat}
def aHY(hs:Tv h id o l)(hb:l.length<=900000000)(node:Int){e:De}(he:gj e):∃u t a,a.c=e.c/\B2 cx 267 [Pt id o,I node,.agg e.row] h (.bool (decide (0<=Kp node l))) (put h id o u++t)/\EP (if Kp node l<0 then l else l.set (Kp node l).toNat a) u:=by
 obtain⟨v,hc,hv⟩:=(show Tv h id o l from hs);rcases mW node l with h1|⟨k,hk,h1⟩
 .refine⟨v,[],e,rfl,?_,by rw[h1];exact hv⟩;have b:=hc.xS (Bz.UD hv);rw[Ae,VO,hc.same,Bs];simp only[B9,De.DW,(f41 hc hv Ac node).Ad,h1,(AM:(-1:Int)<0),AL,AR,AI,b];rfl
 .have hne:l≠[]:=by intro e;subst e;simp at hk
  have hcl:=Ÿ (h:=h) hv hne Ac;have g:=(hc.Jn (t:=[EN.cells (l.map De.row).flatten])).store (u:= .CT h.length 0 l.length 3) rfl;rw[cH hc] at g;obtain⟨a,lX,j⟩:=qm (h:=put h id o (.CT h.length 0 l.length 3)++[EN.cells (l.map De.row).flatten]) he;obtain⟨r,x,p⟩:=hc.next (w:= .CT h.length 0 l.length 3) (X:= .cells (l.map De.row).flatten) (Y:= .cells ((l.map De.row).set k a.row).flatten);have f:=Uq (z:=3) (cM l) r (i:=k) (by simpa using hk) (q:=a.row) rfl;rw[p] at f;have m:Az (.FG 3) [.CT h.length 0 l.length 3,I (k:Int)]=some (Pt h.length (k*3)):=Ge hk;have b:=hc.xT (mQ (cM l) (i:=k) (q:=a.row) rfl);rw[BY,Aw] at b;refine⟨.sl 3 ((l.map De.row).set k a.row),[.Dw],a,lX,?_,?_⟩;.rw[Ae,VO];simp only[B9,De.DW,De.g0,De.g1,De.g2,De.UR,(f41 hc hv Ac node).Ad,h1,(Ac:¬(k:Int)<0),AN,AR,AI,hc.load,Bp,hcl.Ad,g,x.load,j.Ad,Dj,m,f,b,(Ac:(0:Int)<=(k:Int)),DM]
  .rw[h1,Af Ac,By,<-IL];exact .mk
end
end
def UX:List AZ->Aa
 |[]=> .slnil
 |x::l=> .sl 3 ((x::l).map AZ.row)
def VQ{l:List AZ}:A6 l (UX l):=by cases l;exact .inr ⟨rfl,rfl⟩;exact .inl rfl
def df{l:List AZ}{x:AZ}:UX (l++[x])= .sl 3 ((l++[x]).map AZ.row):=by cases l<;>rfl
structure PN where
 x:Fg
 kv:Aa
 av:Aa
 ok:av=UX x.As
def PN.row(p:PN):List Aa:=[I p.x.kind,I p.x.GH,p.kv,I p.x.Cl,I p.x.Be,.str p.x.name,p.av,.str p.x.data,.str p.x.Jy,.str p.x.sys,.bool p.x.CL,I p.x.cont,I p.x.Dg]
def PN.DW{p:PN}:p.row.length=13:=rfl
def PN.zero:PN:=⟨{},.slnil,.slnil,rfl⟩
def pN(ps:List PN)(x:Int):PN:=ps.getD (x.toNat-1) PN.zero
def CM(n:Int):List Aa:=[I n]
def GI(l:List Int)(v:Aa):Prop:=Bz 1 (l.map CM) v
def JU(h:Ai)(kv:Aa)(l:List Int):Prop:=(kv= .slnil/\l=[])\/∃id cs,kv= .CT id 0 l.length 1/\h[id]?=some (.cells (l.map (Aa.int .i64)++cs))
def Hs:Aa->Option Nat
 | .CT id _ _ _=>some id
 |_=>none
def xU(l:List (Int×Int)):Prop:=(l.map (·.1)).Nodup/\∀p∈l,aw p.1=true/\aw p.2=true
def XR(h:Ai)(m:Option Nat)(f:Int->Int):Prop:=(m=none/\∀k,f k=0)\/∃(id:Nat) (l:List (Int×Int)),m=some id/\h[id]?=some (.map (l.map λx:Int×Int=>(I x.1,I x.2)))/\(∀k,(l.find? λx=>decide (k=x.1)).map (·.2)=if f k=0 then none else some (f k))/\xU l
def Fw(a n:Nat)(m:Option Nat)(ps:List PN):List Nat:=a::n::(m.toList++ps.filterMap λp=>Hs p.kv)
structure PA(h:Ai)(a n:Nat)(m:Option Nat)(ps:List PN)(A:Ar):Prop where
 e:A.n=ps.map PN.x
 il:A.i.length=A.n.length
 ha:h[a]?=some (.cells [.CT n 0 ps.length 13,.map m])
 hn:h[n]?=some (.cells (ps.map PN.row).flatten)
 ks:∀p∈ps,JU h p.kv p.x.Bm
 nd:(Fw a n m ps).Nodup
 mp:XR h m A.inr
structure EH(h:Ai)(F:Nat->Prop)(h':Ai)(F':Nat->Prop):Prop where
 len:h.length<=h'.length
 old:∀i,i<h.length->¬F i->h'[i]?=h[i]?
 BI:∀i,F' i->F i\/h.length<=i
section
variable{h h' h'' t:Ai}{F F' F'':Nat->Prop}
def EH.refl:EH h F h F:=⟨Ab _,λ_ _ _=>rfl,λ_ h=> .inl h⟩
def EH.trans(x:EH h F h' F')(y:EH h' F' h'' F''):EH h F h'' F'':=
 ⟨Bn x.len y.len,λi hi hF=>by
  rw[y.old i (IJ hi x.len) (λh=>by rcases x.BI i h with h|h;exact hF h;omega)];exact x.old i hi hF,λi hi=>by
  rcases y.BI i hi with h|h
  .exact x.BI i h
  .exact .inr (Bn x.len h)⟩
def EH.Jn:EH h F (h++t) F:=⟨Ax,λi hi _=>An hi,λ_ h=> .inl h⟩
end
def PW(h:Ai)(F:Nat->Prop)(a:Nat)(A:Ar):Prop:=∃n m ps,PA h a n m ps A/\∀i,F i↔i∈Fw a n m ps
section
variable{h h':Ai}{a n:Nat}{m:Option Nat}{ps:List PN}{A:Ar}{x:Int}{F:Nat->Prop}
def JU.E4{kv:Aa}{l:List Int}(hk:JU h kv l)(hf:∀id,Hs kv=some id->h'[id]?=h[id]?):JU h' kv l:=by
 rcases hk with⟨rfl,rfl⟩|⟨id,cs,rfl,hc⟩
 .exact .inl ⟨rfl,rfl⟩
 .exact .inr ⟨id,cs,rfl,by rw[hf id rfl];exact hc⟩
def XR.E4{f:Int->Int}(hk:XR h m f)(hf:∀id,m=some id->h'[id]?=h[id]?):XR h' m f:=by
 rcases hk with h1|⟨id,l,rfl,hc,h2⟩
 .exact .inl h1
 .exact .inr ⟨id,l,rfl,by rw[hf id rfl];exact hc,h2⟩
def KV{p:PN}{id:Nat}(hp:p∈ps)(hk:Hs p.kv=some id):id∈Fw a n m ps:=by unfold Fw;simp only[AF,Aq];exact .inr (.inr (.inr (B8.2 ⟨p,hp,hk⟩)))
def PA.E4(w:PA h a n m ps A)(hf:∀i∈Fw a n m ps,h'[i]?=h[i]?):PA h' a n m ps A:=
 ⟨w.e,w.il,by rw[hf a (by simp[Fw])];exact w.ha,by rw[hf n (by simp[Fw])];exact w.hn,λp hp=>(w.ks p hp).E4 λid hk=>hf id (KV hp hk),w.nd,w.mp.E4 λid hm=>hf id (by simp[Fw,hm])⟩
def PA.lt(w:PA h a n m ps A):∀i∈Fw a n m ps,i<h.length:=by
 intro i hi;unfold Fw at hi;simp only[AF,Aq,B8] at hi;rcases hi with rfl|rfl|hi|⟨p,hp,hk⟩
 .exact(Al.1 w.ha).1
 .exact(Al.1 w.hn).1
 .rcases w.mp with⟨rfl,_⟩|⟨id,l,rfl,hc,_⟩
  .simp at hi
  .simp at hi;subst hi;exact(Al.1 hc).1
 .rcases w.ks p hp with⟨e,_⟩|⟨id,cs,e,hc⟩
  .rw[e] at hk;cases hk
  .rw[e] at hk;cases hk;exact(Al.1 hc).1
def PW.E4(w:PW h F a A)(hf:∀i,F i->h'[i]?=h[i]?):PW h' F a A:=by obtain⟨n,m,ps,w,e⟩:=w;exact⟨n,m,ps,w.E4 λi hi=>hf i ((e i).2 hi),e⟩
def PW.lt(w:PW h F a A){i:Nat}(hi:F i):i<h.length:=by obtain⟨n,m,ps,w,e⟩:=w;exact w.lt i ((e i).1 hi)
def PA.qo(w:PA h a n m ps A):A.n.length=ps.length:=by rw[w.e,Aw]
def PA.at(w:PA h a n m ps A)(hx:A.has x):x.toNat-1<ps.length/\((x.toNat-1:Nat):Int)=x-1:=by have:=w.qo;unfold Ar.has at hx;omega
def PA.pn(w:PA h a n m ps A)(hx:A.has x):ps[x.toNat-1]?=some (pN ps x)/\(pN ps x).x=A.nd x/\pN ps x∈ps:=by
 have h1:=(w.at hx).1;have h2:ps[x.toNat-1]?=some ps[x.toNat-1]:=Au h1;have b:pN ps x=ps[x.toNat-1]:=by unfold pN;rw[AK,h2];rfl
 refine⟨by rw[b];exact h2,?_,by rw[b];exact Bb _⟩;unfold Ar.nd;rw[Ag hx,w.e,b,AK,CA,h2];rfl
def PF{Av:List (List Aa)}{z i k:Nat}(hr:∀r∈Av,r.length=z)(hk:k<z){r:List Aa}(hi:Av[i]?=some r):Av.flatten[i*z+k]?=r[k]?:=by
 have h1:(Av.flatten.drop (i*z))[k]?=r[k]?:=by rw[It hr];obtain⟨hlt,e⟩:=Al.1 hi;rw[Ay hlt,e,CB,An (by rw[hr r (e▸Bb hlt)];exact hk)]
 rwa [Cn] at h1
def nM(l:List PN):∀r∈l.map PN.row,r.length=13:=LZ (f:=PN.row) (λ_=>PN.DW) l
def nP(n:Nat)(x:Int):Nat:=(x.toNat-1)*13
def PA.Yx(w:PA h a n m ps A)(hx:A.has x){k:Nat}(hk:k<13):Bd h none (Pt n (nP n x+k))=(pN ps x).row[k]?:=by unfold nP;simp only[Bd,w.hn,Gq];exact PF (nM ps) hk (by rw[CA,(w.pn hx).1];rfl)
def UY(w:PA h a n m ps A):B2 cx 98 [Pt a 0,I x] h (.bool (decide (A.has x))) h:=by
 have d:Bd h none (Pt a 0)=some (.CT n 0 ps.length 13):=by simp only[Bd,w.ha];rfl
 have c:Az (.len false) [.CT n 0 ps.length 13]=some (I (ps.length:Int)):=rfl;rw[Ae,uA];simp only[abS,d,c];have hl:=w.qo;have b:A.has x↔1<=x/\x<=(ps.length:Int):=by unfold Ar.has;rw[hl]
 refine⟨λh1=>?_,λh1=>?_⟩;.congr 2;rw[C7,b];exact⟨λh=>⟨h1,h⟩,λh=>h.2⟩
 .rw[Ah (λh=>h1 (b.1 h).1)]
def PA.nodes(w:PA h a n m ps A):Bd h none (Pt a 0)=some (.CT n 0 ps.length 13):=by simp only[Bd,w.ha];rfl
def PA.len(w:PA h a n m ps A):((ps.length:Nat):Int)=A.len:=by unfold Ar.len;rw[w.qo]
def ó(w:PA h a n m ps A){l:List Int}{v:Aa}(hv:GI l v)(hb:l.length<=1000):B2 cx 148 [Pt a 0,v] h (I (if∀x∈l,A.has x then 0 else 3)) h:=by
 have hv:Bz 1 (l.map CM) v:=hv;rw[Ae,eW];simp only[abS,hv.GO];refine BM (λk:Nat=>[I 0,I (k:Int)]) (λk h1=>k<=l.length/\(∀x∈l.take k,A.has x)/\h1=h) (λk=>l.length-k) 0 rfl ⟨Bc _,Ax,rfl⟩ ?_;rintro k h1 ⟨hk,ha,rfl⟩;rcases Bl k l.length with hlt|GS
 .have i1:(k:Int)<(l.length:Int):=by omega
  have c:Bd h1 none (.Cu (CM l[k]))=some (I l[k]):=rfl;simp only[B9,YU,i1,hv.DB hlt,c,(UY (x:=l[k]) w).Ad,CE (Ac:k<9223372036854775807)];rw[C8];refine⟨λh2=>?_,λh2=>?_⟩
  .have h2:¬A.has l[k]:=by simpa using h2
   rw[Af (λb=>h2 (b _ (Bb hlt)))]
  .have h2:A.has l[k]:=by simpa using h2
   refine Br.next (k+1) rfl ⟨hlt,?_,rfl⟩ Ac;intro x hx;rw[AP hlt,Aq,AQ] at hx;rcases hx with hx|rfl
   .exact ha x hx
   .exact h2
 .have i1:¬(k:Int)<(l.length:Int):=by omega
  rw[A8 GS] at ha;simp only[abS,i1,Ag ha]
def Rl(w:PA h a n m ps A):B2 cx 148 [Pt a 0,.sl 1 [[I x]]] h (I (if A.has x then 0 else 3)) h:=by have:=ó w (l:=[x]) (v:= .sl 1 [[I x]]) .mk Ax;simpa using this
def Lk{y:Int}(w:PA h a n m ps A):B2 cx 148 [Pt a 0,.sl 1 [[I x],[I y]]] h (I (if A.has x/\A.has y then 0 else 3)) h:=by have:=ó w (l:=[x,y]) (v:= .sl 1 [[I x],[I y]]) .mk Ax;simpa using this
def Gj{x:Int}:Az (.DX 1) [I x]=some (.sl 1 [[I x]]):=rfl
def Fo{x y:Int}:Az (.DX 1) [I x,I y]=some (.sl 1 [[I x],[I y]]):=rfl
def Mn.of(b:Mn A)(hx:A.has x):1<=x/\x<=1000000000:=by have:=b.n;unfold Ar.has at hx;omega
def Ic(w:PA h a n m ps A)(b:Mn A)(hx:A.has x):B2 cx 102 [Pt a 0,I x] h (Pt n (nP n x)) h:=by
 have hr:=b.of hx;have d:=(w.at hx).2;have c:Az (.FG 13) [.CT n 0 ps.length 13,I (x-1)]=some (Pt n (nP n x)):=by rw[<-d];exact Ge (w.at hx).1
 rw[Ae,Vm];simp only[abS,w.nodes,DN (Ac: -9223372036854775808<=x-1) (Ac:x-1<9223372036854775808),c]
def PA.f0(w:PA h a n m ps A)(hx:A.has x):Bd h none (Pt n (nP n x))=some (I (A.nd x).kind):=by have:=w.Yx hx (k:=0) AM;rw[<-(w.pn hx).2.1];exact this
def PA.f1(w:PA h a n m ps A)(hx:A.has x):Bd h none (Pt n (nP n x+1))=some (I (A.nd x).GH):=by have:=w.Yx hx (k:=1) AM;rw[<-(w.pn hx).2.1];exact this
def PA.f2(w:PA h a n m ps A)(hx:A.has x):Bd h none (Pt n (nP n x+2))=some (pN ps x).kv:=by have:=w.Yx hx (k:=2) AM;exact this
def PA.f4(w:PA h a n m ps A)(hx:A.has x):Bd h none (Pt n (nP n x+4))=some (I (A.nd x).Be):=by have:=w.Yx hx (k:=4) AM;rw[<-(w.pn hx).2.1];exact this
def PA.f5(w:PA h a n m ps A)(hx:A.has x):Bd h none (Pt n (nP n x+5))=some (.str (A.nd x).name):=by have:=w.Yx hx (k:=5) AM;rw[<-(w.pn hx).2.1];exact this
def PA.f6(w:PA h a n m ps A)(hx:A.has x):Bd h none (Pt n (nP n x+6))=some (pN ps x).av:=by have:=w.Yx hx (k:=6) AM;exact this
def PA.MU(w:PA h a n m ps A)(hx:A.has x):JU h (pN ps x).kv (A.nd x).Bm:=by rw[<-(w.pn hx).2.1];exact w.ks _ (w.pn hx).2.2
def PA.att(w:PA h a n m ps A)(hx:A.has x):(pN ps x).av=UX (A.nd x).As:=by rw[<-(w.pn hx).2.1];exact(pN ps x).ok
def PA.row(w:PA h a n m ps A)(hx:A.has x):Bd h (some 13) (Pt n (nP n x))=some (.agg (pN ps x).row):=by
 have h1:((ps.map PN.row).flatten.drop (nP n x)).take 13=(pN ps x).row/\nP n x+13<=(ps.map PN.row).flatten.length:=by unfold nP;have hlt:=(w.at hx).1;have hg:=(w.pn hx).1;rw[It (nM ps),HE (nM ps),Aw];refine⟨?_,Ac⟩;rw[<-K5,Ay hlt,A9,CB];rw[Au hlt,Bx] at hg;rw[hg];exact I0 PN.DW
 simp only[Bd,w.hn,My];rw[Ag h1.2,h1.1]
def M1:∀{l:List Int} {cs Tm:List Aa},Cp (Tm++(l.map (Aa.int .i64)++cs)) 1 Tm.length l.length=l.map CM
 |[],_,_=>rfl
 |x::l,cs,Tm=>by have:=M1 (l:=l) (cs:=cs) (Tm:=Tm++[I x]);simp only[AT,Ao,AS] at this;simp only[A9,AG,Cp,CD];rw[La rfl];simp only[CD,BR] at this;rw[this];rfl
def JU.Av{kv:Aa}{l:List Int}(hk:JU h kv l):GX h 1 kv=some (l.map CM):=by
 rcases hk with⟨rfl,rfl⟩|⟨id,cs,rfl,hc⟩
 .rfl
 .have:=M1 (l:=l) (cs:=cs) (Tm:=[]);simp only[BR,Bk] at this;simp only[GX,BE,hc,this];rw[Ag Ax]
def JU.len{kv:Aa}{l:List Int}(hk:JU h kv l):Az (.len false) [kv]=some (I (l.length:Int)):=by rcases hk with⟨rfl,rfl⟩|⟨id,cs,rfl,hc⟩<;>rfl
def ô{kv:Aa}{l:List Int}(hk:JU h kv l)(hb:l.length<=1000000000):∃v,B2 cx 93 [kv] h v h/\GI l v:=by
 have hr:=hk.Av;rcases hk with⟨rfl,rfl⟩|⟨id,cs,rfl,hc⟩
 .exact⟨.slnil,by rw[Ae,dF,t93];simp only[B9,show Az (.Fe false .sl) [.slnil,.slnil]=some (.bool true) from rfl],.inr ⟨rfl,rfl⟩⟩
 .refine⟨.sl 1 (l.map CM),?_,.mk⟩;have b:QC h 1 8 (.sl 1 []) (.CT id 0 l.length 1)=some (.sl 1 (l.map CM)):=by
   unfold QC;rw[hr,Cd];cases l with
   |nil=>rfl
   |cons x l=>
    have:(x::l).length*8<=AJ:=by have:AJ=140737488355328:=rfl;omega
    simp only[A9,Dm,AG,Aw,Bk] at this⊢;rw[Ag ⟨trivial,by simpa using this⟩];rfl
  rw[Ae,dF,t93];simp only[B9,show Az (.Fe false .sl) [.CT id 0 l.length 1,.slnil]=some (.bool false) from rfl,show Az (.DX 1) []=some (.sl 1 []) from rfl,b]
def F7(h:Ai)(v:Aa)(l:List AZ):Prop:=(v= .slnil/\l=[])\/∃id,v= .CT id 0 l.length 3/\h[id]?=some (.cells (l.map AZ.row).flatten)/\id<h.length
def F7.Jn{v:Aa}{l:List AZ}{t:Ai}(hv:F7 h v l):F7 (h++t) v l:=by
 rcases hv with h1|⟨id,e,hc,hl⟩
 .exact .inl h1
 .exact .inr ⟨id,e,by rw[An hl];exact hc,by rw[Ao];omega⟩
def F7.cells{v:Aa}{l:List AZ}(hv:F7 h v l):v.cells=[v]:=by rcases hv with⟨rfl,_⟩|⟨id,rfl,_,_⟩<;>rfl
structure Sy(h:Ai)(v:Aa)(l:List AZ):Prop where
 len:Az (.len false) [v]=some (I (l.length:Int))
 at_:∀k (hk:k<l.length),∃p,Az (.FG 3) [v,I (k:Int)]=some p/\Bd h (some 3) p=some (.agg l[k].row)
def nN{v:Aa}{l:List AZ}(hv:A6 l v):Sy h v l:=⟨Bz.GO hv,λk hk=>⟨_,Bz.DB hv hk,rfl⟩⟩
def qp(l:List AZ):∀r∈l.map AZ.row,r.length=3:=LZ (f:=AZ.row) (λ_=>rfl) l
def F7.in_{v:Aa}{l:List AZ}(hv:F7 h v l):Sy h v l:=by
 rcases hv with⟨rfl,rfl⟩|⟨id,rfl,hc,_⟩
 .exact⟨rfl,λk hk=>by simp at hk⟩
 .refine⟨rfl,λk hk=>⟨Pt id (k*3),Ge hk,?_⟩⟩;simp only[Bd,hc,My];rw[Ag (by rw[HE (qp l),Aw];omega),It (qp l),<-K5,Ay hk,A9,CB];rfl
def Up(N:Nat)(v:Aa):Prop:=∀id k,v= .CT id 0 k 3->N<=id
def qu{v:Aa}{l:List AZ}(hv:v=UX l)(hb:l.length<=1000000000):∃u t,B2 cx 100094 [v] h u (h++t)/\F7 (h++t) u l/\Up h.length u:=by
 cases l with
 |nil=>refine⟨.slnil,[],?_,.inl ⟨rfl,rfl⟩,λ_ _ e=>nomatch e⟩;rw[Bs,Ae,On,hv];simp only[B9,UX,show Az (.Fe false .sl) [.slnil,.slnil]=some (.bool true) from rfl]
 |cons x l=>have e:=Pq (h:=h) (s:= .sl 3 []) (z:=3) (b:=40) (.inr rfl) (Bz.mk (z:=3) (Av:=(x::l).map AZ.row)) Ax (by rw[Aw];have:AJ=140737488355328:=rfl;omega);rw[Aw] at e;refine⟨.CT h.length 0 (x::l).length 3,[.cells ((x::l).map AZ.row).flatten],?_,.inr ⟨h.length,rfl,Ax,Ax⟩,λ_ _ e=>by injection e with e;omega⟩;rw[Ae,On,hv];simp only[B9,UX,show Az (.Fe false .sl) [.sl 3 ((x::l).map AZ.row),.slnil]=some (.bool false) from rfl,show Az (.DX 3) []=some (.sl 3 []) from rfl,e]
def XS(h:Ai)(N:Nat)(x:Fg)(r:List Aa):Prop:=∃K V,r=[I x.kind,I x.GH,K,I x.Cl,I x.Be,.str x.name,V,.str x.data,.str x.Jy,.str x.sys,.bool x.CL,I x.cont,I x.Dg]/\GI x.Bm K/\F7 h V x.As/\Up N V
def XS.Jn{x:Fg}{r:List Aa}{t:Ai}{N:Nat}(hr:XS h N x r):XS (h++t) N x r:=let⟨K,V,e,h1,h2,b⟩:=hr;⟨K,V,e,h1,h2.Jn,b⟩
def õ(w:PA h a n m ps A)(e:Mn A)(hx:A.has x)(v_:(A.nd x).Bm.length<=1000000000):∃r t,B2 cx 40 [Pt n (nP n x)] h (.agg r) (h++t)/\XS (h++t) h.length (A.nd x) r:=by obtain⟨K,d,c⟩:=ô (w.MU hx) v_;obtain⟨V,t,r2,b,f⟩:=qu (h:=h) (w.att hx) (e.at_ x);refine⟨_,t,?_,K,V,rfl,c,b,f⟩;have hc:K.cells=[K]:=Bz.cells c;have e0:=w.row hx;have g:(pN ps x).row=_:=rfl;have ex:=(w.pn hx).2.1;rw[Ae,sV];rw[PN.row,ex] at e0;simp only[abS,e0,w.f2 hx,w.f6 hx,d.Ad,Dj,r2.Ad,hc,b.cells]
def Ź(w:PA h a n m ps A)(b:Mn A)(v_:(A.nd x).Bm.length<=1000000000):∃r t,B2 cx 107 [Pt a 0,I x] h (.tuple [.agg r,I (if A.has x then 0 else 3)]) (h++t)/\XS (h++t) h.length (A.nd x) r:=by
 by_cases hx:A.has x;.obtain⟨r,t,c,hr⟩:=õ w b hx v_;have Hn:=hr;obtain⟨K,V,rfl,_⟩:=hr;refine⟨_,t,?_,Hn⟩;rw[Ae,Vn];simp only[abS,↓reduceIte,Bj,Gj,(Rl (x:=x) w).Ad,Ag hx,Cj,Ck,(Ic w b hx).Ad,c.Ad]
 .refine⟨_,[],?_,.slnil,.slnil,by rw[L2 hx],by rw[L2 hx];exact .inr ⟨rfl,rfl⟩,by rw[L2 hx];exact .inl ⟨rfl,rfl⟩,λ_ _ e=>nomatch e⟩;rw[Ae,Vn,Bs];simp only[abS,↓reduceIte,Bj,Gj,(Rl (x:=x) w).Ad,Af hx,Cj,(AM:¬(3:Int)=0),DM]
def ö(w:PA h a n m ps A)(c:Mn A)(v_:(A.nd x).Bm.length<=1000000000):∃v,B2 cx 193 [Pt a 0,I x] h v h/\GI (A.nd x).Bm v:=by
 by_cases hx:A.has x;.obtain⟨K,b,d⟩:=ô (w.MU hx) v_;refine⟨K,?_,d⟩;rw[Ae,VI];simp only[abS,(UY (x:=x) w).Ad,Ak hx,(Ic w c hx).Ad,w.f2 hx,b.Ad]
 .refine⟨.slnil,?_,by rw[L2 hx];exact .inr ⟨rfl,rfl⟩⟩;rw[Ae,VI];simp only[abS,(UY (x:=x) w).Ad,Ah hx]
def aDu(w:PA h a n m ps A)(b:Mn A):B2 cx 261 [Pt a 0,I x] h (I (A.nd x).GH) h:=by
 by_cases hx:A.has x;.rw[Ae,VM];simp only[abS,(UY (x:=x) w).Ad,Ak hx,(Ic w b hx).Ad,w.f1 hx]
 .rw[Ae,VM,L2 hx];simp only[abS,(UY (x:=x) w).Ad,Ah hx]
def nO(w:PA h a n m ps A)(b:Mn A):B2 cx 146 [Pt a 0,I x] h (I (if A.has x then(if(A.nd x).kind=1 then 0 else 9) else 3)) h:=by
 rw[Ae,eV];by_cases hx:A.has x
 .simp only[abS,Gj,(Rl (x:=x) w).Ad,Ag hx,Cj,Ck,(Ic w b hx).Ad,w.f0 hx];by_cases hk:(A.nd x).kind=1;.simp only[hk,abS,Ck]
  .simp only[hk,abS]
 .simp only[abS,Gj,(Rl (x:=x) w).Ad,Af hx,Cj,(AM:¬(3:Int)=0)]
def qv{l:List PN}:(l.map PN.row).flatten.length=l.length*13:=by rw[HE (nM l),Aw]
def nQ{p:PN}{n':Nat}(hk:Hs p.kv=none):Fw a n' m (ps++[p])=a::n'::(m.toList++ps.filterMap λp=>Hs p.kv):=by unfold Fw;rw[Et];simp[hk]
def qw{x:Fg}(hl:A.i.length=A.n.length):(A.add x).inr=A.inr:=by funext k;exact Vi hl
def qx(w:PA h a n m ps A)(hb:ps.length+1<=1000000000)(p:PN)(hk:p.kv= .slnil)(xj:p.x.Bm=[]):
  ∃h',B2 cx 101 [Pt a 0,.agg p.row] h (I (A.len+1)) h'/\PA h' a h.length m (ps++[p]) (A.add p.x)/\(∀i,i<h.length->i≠a->i≠n->h'[i]?=h[i]?)/\h'.length=h.length+1:=by
 have kD:a<h.length:=w.lt a (by simp[Fw]);have Qp:n<h.length:=w.lt n (by simp[Fw]);have j:a≠n:=by have:=w.nd;simp[Fw] at this;exact this.1.1
 have d:=N7 (h:=h) (id:=n) (Av:=ps.map PN.row) (r2:=[p.row]) (v:= .sl 13 [p.row]) (b:=168) (nM ps) AM w.hn .mk Ax (by rw[Aw];have:AJ=140737488355328:=rfl;simp;omega);rw[Aw] at d;simp only[AS] at d;have Tn:(h.set n .Dw++[EN.cells (ps.map PN.row++[p.row]).flatten])[a]?=some (.cells [.CT n 0 ps.length 13,.map m]):=by rw[An (by simpa using kD),Ap (DC j)];exact w.ha
 have es:CK (h.set n .Dw++[EN.cells (ps.map PN.row++[p.row]).flatten]) 1 (Pt a 0) (.CT h.length 0 (ps.length+1) 13)=some ((h.set n .Dw++[EN.cells (ps.map PN.row++[p.row]).flatten]).set a (.cells [.CT h.length 0 (ps.length+1) 13,.map m])):=by simp only[CK,Tn];rfl
 have l:Bd ((h.set n .Dw++[EN.cells (ps.map PN.row++[p.row]).flatten]).set a (.cells [.CT h.length 0 (ps.length+1) 13,.map m])) none (Pt a 0)=some (.CT h.length 0 (ps.length+1) 13):=by simp only[Bd];rw[AD Ek];rfl
 have o:Az (.len false) [.CT h.length 0 (ps.length+1) 13]=some (I ((ps.length+1:Nat):Int)):=rfl;have em:Az (.DX 13) [.agg p.row]=some (.sl 13 [p.row]):=R4 (a:= .agg p.row) rfl AM;refine⟨(h.set n .Dw++[EN.cells (ps.map PN.row++[p.row]).flatten]).set a (.cells [.CT h.length 0 (ps.length+1) 13,.map m]),?_,?_,?_,?_⟩;rotate_left
 .refine⟨by simp[Ar.add,w.e],by simp[Ar.add,w.il],?_,?_,?_,?_,?_⟩;.rw[AD Ek];simp
  .rw[Ap Ac,Bw Ax];simp
  .intro q hq;rcases Aq.1 hq with hq|hq
   .refine(w.ks q hq).E4 λid Ik=>?_;have h1:id∈Fw a n m ps:=KV hq Ik;have h2:=w.lt id h1;have c:=w.nd;have k:id∈m.toList++ps.filterMap λp=>Hs p.kv:=Aq.2 (.inr (B8.2 ⟨q,hq,Ik⟩));unfold Fw at c;simp only[BV,AF,PR] at c;have g:a≠id:=λe=>c.1.2 (e▸k);have f:n≠id:=λe=>c.2.1 (e▸k);rw[Ap g,An (by simpa using h2),Ap f]
   .simp at hq;subst hq;exact .inl ⟨hk,xj⟩
  .rw[nQ (by rw[hk];rfl)];have c:=w.nd;unfold Fw at c;simp only[BV,AF,PR] at c⊢;refine⟨⟨Ac,c.1.2⟩,λhm=>?_,c.2.2⟩;have:=w.lt h.length (by unfold Fw;simp only[AF];exact .inr (.inr hm));omega
  .rw[qw w.il];refine w.mp.E4 λid Ik=>?_;have h1:id∈m.toList++ps.filterMap λp=>Hs p.kv:=by simp[Ik]
   have h2:=w.lt id (by unfold Fw;simp only[AF];exact .inr (.inr h1));have c:=w.nd;unfold Fw at c;simp only[BV,AF,PR] at c;have g:a≠id:=λe=>c.1.2 (e▸h1);have f:n≠id:=λe=>c.2.1 (e▸h1);rw[Ap g,An (by simpa using h2),Ap f]
 .intro i hi h1 h2;rw[Ap (DC h1),An (by simpa using hi),Ap (DC h2)]
 .simp
 .have hl:A.len+1=((ps.length+1:Nat):Int):=by rw[<-w.len];rfl
  rw[PN.row] at em d es l;rw[Ae,Vl,hl,PN.row];simp only[abS,Nat.reduceLeDiff,↓reduceIte,Bj,w.nodes,em,d,es,l,o]
def Z5{Av:List (List Aa)}{z i k:Nat}(hr:∀r∈Av,r.length=z)(hi:i<Av.length)(hk:k<z){v:Aa}:Av.flatten.take (i*z+k)++[v]++Av.flatten.drop (i*z+k+1)=(Av.set i (Av[i].set k v)).flatten:=by
 have hl:=hr _ (Bb hi);rw[<-mP hr hi];have b:Av.flatten.drop (i*z)=Av[i]++Av.flatten.drop (i*z+z):=by
  have e:i*z+z=(i+1)*z:=by rw[BC,Eo]
  rw[e,It hr,It hr,Ay hi,CB]
 have d:Av.flatten.take (i*z+k)=Av.flatten.take (i*z)++Av[i].take k:=by rw[Æ,b,Dz Ac]
 have c:Av.flatten.drop (i*z+k+1)=Av[i].drop (k+1)++Av.flatten.drop (i*z+z):=by rw[Rr,<-ED,b,zB Ac]
 rw[d,c,Ce,Ag Ac];simp
def PA.sto(w:PA h a n m ps A)(hx:A.has x){k:Nat}(hk:k<13){v:Aa}(hv:v.cells=[v]){p:PN}(hp:p.row=(pN ps x).row.set k v){h1:Ai}(hn:h1[n]?=h[n]?):
  CK h1 1 (Pt n (nP n x+k)) v=some (h1.set n (.cells ((ps.set (x.toNat-1) p).map PN.row).flatten)):=by
 have hlt:=(w.at hx).1;have hg:=(w.pn hx).1;rw[Au hlt,Bx] at hg;have e:=Z5 (Av:=ps.map PN.row) (i:=x.toNat-1) (k:=k) (v:=v) (nM ps) (by simpa using hlt) hk;rw[FE,hg,<-hp,<-IL] at e;unfold nP;simp only[CK,hn,w.hn,hv,AS,PS];rw[Ag (by rw[HE (nM ps),Aw];omega),e]
def XT(w:PA h a n m ps A)(hx:A.has x)(p:PN):ps=ps.take (x.toNat-1)++pN ps x::ps.drop (x.toNat-1+1)/\ps.set (x.toNat-1) p=ps.take (x.toNat-1)++p::ps.drop (x.toNat-1+1):=by have hlt:=(w.at hx).1;have hg:=(w.pn hx).1;rw[Au hlt,Bx] at hg;refine⟨?_,by rw[Ce,Ag hlt]⟩;conv=>lhs;rw[<-Cw (x.toNat-1) ps,Ay hlt,hg]
def qy{y:Fg}:(A.set x y).inr=A.inr:=by funext k;exact Sf
def PA.fq(w:PA h a n m ps A)(hx:A.has x){p:PN}{h1:Ai}(ho:∀i∈Fw a n m ps,Hs (pN ps x).kv≠some i->h1[i]?=h[i]?)(hk:JU h1 p.kv p.x.Bm)
  (hi:Hs p.kv=Hs (pN ps x).kv\/∀j,Hs p.kv=some j->h.length<=j):PA (h1.set n (.cells ((ps.set (x.toNat-1) p).map PN.row).flatten)) a n m (ps.set (x.toNat-1) p) (A.set x p.x):=by
 have hlt:=(w.at hx).1;have zn:=(w.pn hx).2.2;obtain⟨z,B⟩:=XT w hx p;have nd:=w.nd;have g:∀j,Hs (pN ps x).kv=some j->j∈m.toList++ps.filterMap λp=>Hs p.kv:=λj hj=>Aq.2 (.inr (B8.2 ⟨_,zn,hj⟩));have iY:=nd;unfold Fw at iY;simp only[BV,AF,PR] at iY;have t:a≠n:=iY.1.1;have l:Hs (pN ps x).kv≠some a:=λe=>iY.1.2 (g a e);have f:Hs (pN ps x).kv≠some n:=λe=>iY.2.1 (g n e);have Qp:n<h.length:=w.lt n (by simp[Fw]);have v:h1[n]?=h[n]?:=ho n (by simp[Fw]) f;have y:n<h1.length:=by have:=w.hn;rw[<-v] at this;exact(Al.1 this).1
 have f_:∀j,Hs p.kv=some j->j≠n/\j≠a:=by
  intro j hj;rcases hi with hi|hi
  .rw[hi] at hj;exact⟨λe=>f (e▸hj),λe=>l (e▸hj)⟩
  .have:=hi j hj;have:=w.lt a (by simp[Fw]);omega
 refine⟨?_,?_,?_,?_,?_,?_,?_⟩;.simp only[Ar.set,Ag hx];rw[w.e,IL]
 .rw[IV];exact w.il
 .rw[Ap (DC t),ho a (by simp[Fw]) l,BY];exact w.ha
 .rw[AD y]
 .intro q hq;by_cases c:q=p;.rw[c];exact hk.E4 λid Ik=>by rw[Ap (DC (f_ id Ik).1)]
  .rw[B] at hq;have d:q∈ps.take (x.toNat-1)++ps.drop (x.toNat-1+1):=by
    rcases Aq.1 hq with b|b
    .exact Aq.2 (.inl b)
    .exact Aq.2 (.inr ((AF.1 b).resolve_left c))
   have Ŀ:q∈ps:=by
    rcases Aq.1 d with b|b
    .exact A0 b
    .exact Bu b
   refine(w.ks q Ŀ).E4 λj hj=>?_;have o:j∈Fw a n m ps:=KV Ŀ hj;have u:j≠n:=λe=>iY.2.1 (e▸Aq.2 (.inr (B8.2 ⟨q,Ŀ,hj⟩)));have Y1:Hs (pN ps x).kv≠some j:=by
    intro s;have r:=(BP.1 iY.2.2).2.1;rw[z,Et,HZ,s] at r;simp only[BP,BV,AF,B8] at r;rcases Aq.1 d with b|b
    .exact r.2.2 j ⟨q,b,hj⟩ j (.inl rfl) rfl
    .exact r.2.1.1 ⟨q,b,hj⟩
   rw[Ap (DC u),ho j o Y1]
 .have fr:∀j,Hs p.kv=some j->Hs (pN ps x).kv=some j\/j∉Fw a n m ps:=by
   intro j hj;rcases hi with hi|hi
   .exact .inl (hi▸hj)
   .exact .inr λhm=>by have:=hi j hj;have:=w.lt j hm;omega
  have h1:=nd;unfold Fw at h1 fr⊢;rw[z,Et,HZ] at h1;rw[z,Et,HZ] at fr;rw[B,Et,HZ];generalize List.filterMap (λp=>Hs p.kv) (ps.take (x.toNat-1))=T at h1 fr⊢;generalize List.filterMap (λp=>Hs p.kv) (ps.drop (x.toNat-1+1))=D at h1 fr⊢;cases hp:Hs p.kv with
  |none=>
   cases ho:Hs (pN ps x).kv with
   |none=>rw[ho] at h1;exact h1
   |some k=>rw[ho] at h1;refine h1.sublist ?_;simp
  |some j=>
   have:=fr j hp;cases ho:Hs (pN ps x).kv with
   |none=>rw[ho] at h1 this;simp only[BV,BP,AF,Aq] at h1 this⊢;grind
   |some k=>rw[ho] at h1 this;simp only[BV,BP,AF,Aq] at h1 this⊢;grind
 .rw[qy];refine w.mp.E4 λid Ik=>?_;have o:id∈m.toList++ps.filterMap λp=>Hs p.kv:=by simp[Ik]
  have u:n≠id:=λe=>iY.2.1 (e▸o);have Y1:Hs (pN ps x).kv≠some id:=by intro bT;exact(BP.1 iY.2.2).2.2 id (by simp[Ik]) id (B8.2 ⟨_,zn,bT⟩) rfl
  rw[Ap u,ho id (by unfold Fw;simp only[AF];exact .inr (.inr o)) Y1]
def PA.pw(w:PA h a n m ps A):PW h (λi=>i∈Fw a n m ps) a A:=⟨n,m,ps,w,λ_=>Iff.rfl⟩
def Mn.add{y:Fg}(b:Mn A)(h1:A.len+1<=1000000000)(h2:y.As.length<=1000000000)(c:y.data.length<=1000000000):Mn (A.add y):=by
 refine⟨?_,λx=>?_,λx=>?_⟩;.unfold Ar.len at h1;simp[Ar.add];omega
 .rw[Li];split;.exact h2
  .exact b.at_ x
 .rw[Li];split;.exact c
  .exact b.data x
def Mn.set{y:Fg}(b:Mn A)(h2:y.As.length<=1000000000)(c:y.data.length<=1000000000):Mn (A.set x y):=by
 refine⟨by rw[IV];exact b.n,λx=>?_,λx=>?_⟩<;>rw[JM]<;>split;.exact h2
 .exact b.at_ x
 .exact c
 .exact b.data x
def zp{x y:Fg}:(A.add x).set (A.len+1) y=A.add y:=by unfold Ar.set;rw[Ag (Ei.2 (.inr rfl))];unfold Ar.add Ar.len;have e:((A.n.length:Int)+1).toNat-1=A.n.length:=Ac;simp only[e];rw[B0 _ _ (Ab _),Eb];rfl
def xV{p:PN}(w:PA h a n m ps A)(hx:A.has x)(hk:Hs p.kv=Hs (pN ps x).kv):Fw a n m (ps.set (x.toNat-1) p)=Fw a n m ps:=by obtain⟨c,b⟩:=XT w hx p;unfold Fw;rw[b,Et,HZ,hk];conv=>rhs;rw[c,Et,HZ]
def PA.wr(w:PA h a n m ps A)(hx:A.has x){k:Nat}(hk:k<13){v:Aa}(hv:v.cells=[v]){p:PN}(hp:p.row=(pN ps x).row.set k v)(h1:p.kv=(pN ps x).kv)(h2:p.x.Bm=(A.nd x).Bm):
  ∃h',CK h 1 (Pt n (nP n x+k)) v=some h'/\PA h' a n m (ps.set (x.toNat-1) p) (A.set x p.x)/\Fw a n m (ps.set (x.toNat-1) p)=Fw a n m ps/\(∀i,i≠n->h'[i]?=h[i]?)/\h'.length=h.length:=by
 refine⟨_,w.sto hx hk hv hp rfl,w.fq hx (λi _ _=>rfl) (by rw[h1,h2];exact w.MU hx) (.inl (by rw[h1])),xV w hx (by rw[h1]),λi hi=>by rw[Ap (DC hi)],BY⟩
def PA.xW(w:PA h a n m ps A){h1:Ai}{Ot:List PN}{A':Ar}(w':PA h1 a n m Ot A')(hi:Fw a n m Ot=Fw a n m ps)(ho:∀i,i≠n->h1[i]?=h[i]?)(hl:h1.length=h.length):EH h (λi=>i∈Fw a n m ps) h1 (λi=>i∈Fw a n m Ot):=
 ⟨Ac,λi _ hn=>ho i (λe=>hn (by rw[e];simp[Fw])),λi kG=> .inl (by rwa [hi] at kG)⟩
def Ki(q:Bool)(d:Int):PN:=⟨{kind:=1,CL:=q,Cl:=d},.slnil,.slnil,rfl⟩
def aH0(w:PA h a n m ps A)(g:Mn A)(hb:A.len+1<=1000000000)(q:Bool):
  ∃h',B2 cx 44 [Pt a 0,.bool q] h (I (A.len+1)) h'/\PA h' a h.length m (ps++[Ki q (A.len+1)]) (A.add {kind:=1,CL:=q,Cl:=A.len+1})/\(∀i,i<h.length->i≠a->i≠n->h'[i]?=h[i]?)/\h'.length=h.length+1:=by
 have v8:=w.len;obtain⟨h1,d,w1,f,l1⟩:=qx w Ac (Ki q 0) rfl rfl;have ø:=g.add (y:=(Ki q 0).x) hb (by simp[Ki]) (by simp[Ki]);have hx:(A.add (Ki q 0).x).has (A.len+1):=Ei.2 (.inr rfl);have hlen:(A.len+1).toNat-1=ps.length:=Ac;have f_:pN (ps++[Ki q 0]) (A.len+1)=Ki q 0:=by unfold pN;rw[hlen];simp
 obtain⟨h2,c,b,_,e,o⟩:=w1.wr hx (k:=3) AM (v:= I (A.len+1)) rfl (p:=Ki q (A.len+1)) (by rw[f_];rfl) (by rw[f_];rfl) (by rw[Li,Ag rfl];rfl);refine⟨h2,?_,?_,λi hi l j=>?_,Ac⟩;.have r2:=Ic w1 ø hx;rw[Ae,cT];have ù:B2 cx 101 [Pt a 0,.agg [I 1,I 0,.slnil,I 0,I 0,.str [],.slnil,.str [],.str [],.str [],.bool q,I 0,I 0]] h (I (A.len+1)) h1:=d;simp only[abS,Nat.reduceLeDiff,↓reduceIte,Bj,ù.Ad,r2.Ad,c]
 .rw[zp,hlen] at b;rw[B0 _ _ (Ab _),Eb] at b;exact b
 .rw[e i Ac];exact f i hi l j
def L8(k d:Int)(s:Aj):PN:=⟨{kind:=k,Cl:=d,data:=s},.slnil,.slnil,rfl⟩
def PA.Qj(w:PA h a n m ps A){p:PN}{h1:Ai}(hk:Hs p.kv=none)(b:∀i,i<h.length->i≠a->i≠n->h1[i]?=h[i]?)(l1:h1.length=h.length+1):EH h (λi=>i∈Fw a n m ps) h1 (λi=>i∈Fw a h.length m (ps++[p])):=by
 refine⟨Ac,λi hi hn=>b i hi (λe=>hn (by simp[Fw,e])) (λe=>hn (by simp[Fw,e])),λi hi=>?_⟩;rw[nQ hk] at hi;simp only[AF] at hi;rcases hi with rfl|rfl|hi
 .exact .inl (by simp[Fw])
 .exact .inr (Ab _)
 .exact .inl (by unfold Fw;simp only[AF];exact .inr (.inr hi))
def ú{k:Int}{s:Aj}(w:PA h a n m ps A)(d:Mn A)(hb:A.len+1<=1000000000)(hd:A.has x/\(A.nd x).kind=1):
  ∃h',B2 cx 147 [Pt a 0,I x,.agg (L8 k 0 s).row] h (.tuple [I (A.len+1),I 0]) h'/\PA h' a h.length m (ps++[L8 k x s]) (A.add (L8 k x s).x)/\(∀i,i<h.length->i≠a->i≠n->h'[i]?=h[i]?)/\h'.length=h.length+1:=by
 have v8:=w.len;obtain⟨h1,b,w1,c,l1⟩:=qx w Ac (L8 k x s) rfl rfl;refine⟨h1,?_,w1,c,l1⟩;rw[PN.row] at b;rw[Ae,Vv,PN.row];simp only[abS,(nO (x:=x) w d).Ad,Ag hd.1,Ag hd.2,Cj,Ck,L8] at b⊢;simp only[B9,b.Ad]
def aH1{s:Aj}(w:PA h a n m ps A)(d:Mn A)(hb:A.len+1<=1000000000)(hd:A.has x/\(A.nd x).kind=1):
  ∃h',B2 cx 116 [Pt a 0,I x,.str s] h (.tuple [I (A.len+1),I 0]) h'/\PA h' a h.length m (ps++[L8 5 x s]) (A.add (L8 5 x s).x)/\(∀i,i<h.length->i≠a->i≠n->h'[i]?=h[i]?)/\h'.length=h.length+1:=by
 obtain⟨h1,b,w1,c,l1⟩:=ú (k:=5) (s:=s) w d hb hd;refine⟨h1,?_,w1,c,l1⟩;have ù:B2 cx 147 [Pt a 0,I x,.agg [I 5,I 0,.slnil,I 0,I 0,.str [],.slnil,.str s,.str [],.str [],.bool false,I 0,I 0]] h (.tuple [I (A.len+1),I 0]) h1:=b;rw[Ae,dU];simp only[abS,Nat.reduceLeDiff,↓reduceIte,Bj,ù.Ad]
def aDv{s:Aj}(w:PA h a n m ps A)(d:Mn A)(hb:A.len+1<=1000000000)(hd:A.has x/\(A.nd x).kind=1):
  ∃h',B2 cx 117 [Pt a 0,I x,.str s] h (.tuple [I (A.len+1),I 0]) h'/\PA h' a h.length m (ps++[L8 6 x s]) (A.add (L8 6 x s).x)/\(∀i,i<h.length->i≠a->i≠n->h'[i]?=h[i]?)/\h'.length=h.length+1:=by
 obtain⟨h1,b,w1,c,l1⟩:=ú (k:=6) (s:=s) w d hb hd;refine⟨h1,?_,w1,c,l1⟩;have ù:B2 cx 147 [Pt a 0,I x,.agg [I 6,I 0,.slnil,I 0,I 0,.str [],.slnil,.str s,.str [],.str [],.bool false,I 0,I 0]] h (.tuple [I (A.len+1),I 0]) h1:=b;rw[Ae,dW];simp only[abS,Nat.reduceLeDiff,↓reduceIte,Bj,ù.Ad]
def aH2{s:Aj}(w:PA h a n m ps A)(e:Mn A)(hx:A.has x)(hk:(A.nd x).kind=5):
  ∃h' Ot,B2 cx 115 [Pt a 0,I x,.str s] h (I 0) h'/\PA h' a n m Ot (A.Si x s)/\EH h (λi=>i∈Fw a n m ps) h' (λi=>i∈Fw a n m Ot):=by
 have hp:=(w.pn hx).2.1;obtain⟨h2,c,b,g,d,f⟩:=w.wr hx (k:=7) AM (v:= .str s) rfl (p:=⟨{A.nd x with data:=s},(pN ps x).kv,(pN ps x).av,by rw[<-hp];exact(pN ps x).ok⟩) (by simp only[PN.row];rw[hp];rfl) rfl rfl;refine⟨h2,_,?_,b,w.xW b g d f⟩;rw[Ae,dS];simp only[abS,Gj,(Rl (x:=x) w).Ad,Ag hx,Cj,Ck,(Ic w e hx).Ad,w.f0 hx,hk,c]
def û{y:Int}:B2 cx 227 [.sl 1 [[I y]]] h (.bool (decide (BS.JP y))) h:=by
 have hv:Bz 1 [[I y]] (.sl 1 [[I y]]):= .mk;have d:([[I y]]:List (List Aa))[0]=[I y]:=rfl;rw[Ae,gT];simp only[B9,hv.len];refine BM (λk:Nat=>[.bool false,I (k:Int)]) (λk h1=>k<=1/\(k=1->BS.JP y)/\h1=h) (λk=>1 -k) 0 rfl ⟨Bc _,λe=>Ac,rfl⟩ ?_;rintro k h1 ⟨hk,ha,rfl⟩;rcases Bl k 1 with hlt|GS
 .obtain rfl:k=0:=by omega
  simp only[B9,YU,(AM:((0:Nat):Int)<((1:Nat):Int)),hv.FG (show 0<[[I y]].length from Fk),d,CE (Ac:0<9223372036854775807)];refine⟨λh2=>?_,λh2=>⟨λc=>?_,λc=>?_⟩⟩;.rw[Ah (λb=>by unfold BS.JP at b;omega)]
  .rw[Ah (λb=>by unfold BS.JP at b;omega)]
  .exact Br.next 1 rfl ⟨Ab _,λ_=>⟨Ac,Ac⟩,rfl⟩ Ac
 .obtain rfl:k=1:=by omega
  simp only[abS,(AM:¬((1:Nat):Int)<((1:Nat):Int)),Ak (ha rfl)]
def XU{l out:List AZ}{y:AZ}:Gu out (l++[y])=if(Gu out l).any (λz=>decide (Db y=Db z)) then Gu out l else Gu out l++[y]:=by
 induction l generalizing out with
 |nil=>simp only[BR,Gu];split<;>simp_all
 |cons z l ih=>
  rw[CD,Gu,Gu];split;.exact ih
  .exact ih
def aDw(y c:AZ)(h:Ai):B2 cx 268 [.agg c.row,.Cu y.row] h (.bool (decide (Db y=Db c))) h:=by
 rw[Ae,iN,AZ.row,AZ.row];simp only[B9];refine⟨λh1=>?_,λh1=>?_⟩;.congr 2;rw[C7];simp[Db,h1]
 .rw[Ah (λe=>h1 (by simp[Db] at e;exact e.1))]
def ü{F v:Aa}{l:List AZ}{q:AZ->Bool}(hv:Sy h v l)(hb:l.length<=1000000000)(hF:nL F h q):B2 cx 129 [v,F] h (.bool (l.any q)) h:=by
 obtain⟨f,caps,rfl,hf,hr⟩:=hF;have key:B2 cx 196 [v,.func (.func f) [] caps] h (I (BT q 0 l)) h:=by
  rw[Ae,Sq];simp only[B9,hv.len];refine BM (λn:Nat=>[I 0,I (n:Int)]) (λn h1=>n<=l.length/\BT q 0 l=BT q n (l.drop n)/\h1=h) (λn=>l.length-n) 0 rfl ⟨Bc _,rfl,rfl⟩ ?_;rintro n h1 ⟨ò,ha,rfl⟩;rcases Bl n l.length with hlt|GS
  .have i1:(n:Int)<(l.length:Int):=by omega
   obtain⟨p,d,c⟩:=hv.at_ n hlt;rw[Ay hlt,BT] at ha;simp only[B9,↓reduceIte,Cc,YU,hf,i1,d,c,(hr l[n]).Ad,CE (Ac:n<9223372036854775807)];rw[C8];refine⟨λhe=>?_,λhe=>?_⟩;.rw[ha,Ag he]
   .rw[Af (by simp[he])] at ha;exact Br.next (n+1) rfl ⟨hlt,ha,rfl⟩ Ac
  .have i1:¬(n:Int)<(l.length:Int):=by omega
   rw[AV GS,BT] at ha;simp only[abS,↓reduceIte,Cc,i1,ha]
 rw[Ae,Vr];simp only[B9,key.Ad];congr 2
 rcases Gr (p:=q) (l:=l) (k:=0) with⟨h1,h2⟩|⟨n,y,h1,h2,b⟩
 .rw[h1,gu];have:=Lp.1 h2;simpa using this
 .rw[h1,gu,Ak Ac,M6];exact⟨y,Qy b,UC b⟩
def ý{l:List AZ}{v:Aa}(hv:Sy h v l)(hb:l.length<=1000000000)(hs:∀y∈l,BS.JP y.Be):B2 cx 221 [v] h (.tuple [UX (CC l),.bool true]) h:=by
 rw[Ae,gN];simp only[B9,hv.len];refine BM (λk:Nat=>[.slnil,.bool false,UX (CC (l.take k)),I (k:Int)]) (λk h1=>k<=l.length/\h1=h) (λk=>l.length-k) 0 rfl ⟨Bc _,rfl⟩ ?_;rintro k h1 ⟨hk,rfl⟩;rcases Bl k l.length with hlt|GS
 .have i1:(k:Int)<(l.length:Int):=by omega
  obtain⟨p,j,e⟩:=hv.at_ k hlt;have inc:=CE (Ac:k<9223372036854775807);have hsp:=hs _ (Bb hlt);have i:=û (h:=h1) (y:=l[k].Be);have hF:nL (.func (.func 268) [] [.Cu l[k].row]) h1 (λc=>decide (Db l[k]=Db c)):=⟨_,_,rfl,AM,λc=>aDw l[k] c h1⟩;have jw:(CC (l.take k)).length<=1000000000:=by have:=P9 (l:=l.take k);rw[AB] at this;omega
  have r2:=ü (nN VQ) jw hF;have g:CC (l.take (k+1))=if(CC (l.take k)).any (λz=>decide (Db l[k]=Db z)) then CC (l.take k) else CC (l.take k)++[l[k]]:=by rw[AP hlt];exact XU
  have d:=Bz.Xi (f:=AZ.row) (a:=l[k]) (b:=40) (VQ (l:=CC (l.take k))) (by have:=P9 (l:=l.take k);rw[AB] at this;have:AJ=140737488355328:=rfl;omega);have em:Az (.DX 3) [.agg l[k].row]=some (.sl 3 [l[k].row]):=rfl;rw[<-df] at d;rw[AZ.row] at r2 em d e;simp only[abS,Nat.reduceLeDiff,↓reduceIte,i1,j,e,Gj,i.Ad,Ak hsp,r2.Ad,em,d,inc];rw[C8];refine⟨λh2=>?_,λh2=>?_⟩;.exact Br.next (k+1) (by rw[g,Af (by simpa using h2)]) ⟨hlt,rfl⟩ Ac
  .exact Br.next (k+1) (by rw[g,Ag (by simpa using h2)]) ⟨hlt,rfl⟩ Ac
 .have i1:¬(k:Int)<(l.length:Int):=by omega
  simp only[abS,↓reduceIte,i1,A8 GS]
def aDx{l:List AZ}{v:Aa}(w:PA h a n m ps A)(f:Mn A)(hx:A.has x)(hk:(A.nd x).kind=4)(hv:Sy h v l)(hb:l.length<=1000000000)(hs:∀y∈l,BS.JP y.Be):
  ∃h' Ot,B2 cx 131 [Pt a 0,I x,v] h (I 0) h'/\PA h' a n m Ot (A.L5 x l)/\EH h (λi=>i∈Fw a n m ps) h' (λi=>i∈Fw a n m Ot):=by
 have hp:=(w.pn hx).2.1;have d:=ý hv hb hs;obtain⟨h2,c,b,j,e,g⟩:=w.wr hx (k:=6) AM (v:=UX (CC l)) (Bz.cells VQ) (p:=⟨{A.nd x with As:=CC l},(pN ps x).kv,UX (CC l),rfl⟩) (by simp only[PN.row];rw[hp];rfl) rfl rfl;refine⟨h2,_,?_,b,w.xW b j e g⟩;rw[Ae,eI];simp only[abS,Gj,(Rl (x:=x) w).Ad,Ag hx,Cj,Ck,(Ic w f hx).Ad,w.f0 hx,hk,d.Ad,c]
def aDy(w:PA h a n m ps A)(hx:A.has x):B2 cx 228 [Pt n (nP n x)] h (.bool (decide (US (A.nd x)))) h:=by rw[Ae,gU];simp only[abS,w.f0 hx,w.f4 hx,w.f5 hx,US];refine⟨λh1=>⟨λh2=>?_,λh2=>?_⟩,λh1=>?_⟩<;>simp[*]
def Qv(x:Int×Int):Aa×Aa:=(I x.1,I x.2)
def iZ{k:Int}:∀{l:List (Int×Int)} {i:Nat},(l.find? (λx=>decide (k=x.1))=none->H0 k (l.map Qv) i=some none)/\∀y,l.find? (λx=>decide (k=x.1))=some y->∃j,H0 k (l.map Qv) i=some (some (j,I y.2))
 |[],i=>⟨λ_=>rfl,λy h=>by cases h⟩
 |z::l,i=>by
  have ih:=iZ (k:=k) (l:=l) (i:=i+1);simp only[A9,Qv,H0,Hz];by_cases e:k=z.1;.simp only[e,DM,BE];exact⟨λh=>(by cases h),λy h=>⟨i,by cases h;rfl⟩⟩
  .simp only[e,C0,DR];exact ih
def XR.get{f:Int->Int}(w:XR h m f)(k:Int):DZ (.zD (I 0) true) h [.map m,I k]=some (h,if f k=0 then .tuple [I 0,.bool false] else .tuple [I (f k),.bool true]):=by
 rcases w with⟨rfl,h0⟩|⟨id,l,rfl,hc,hl,_⟩
 .rw[Ag (h0 k)];rfl
 .have hl:=hl k;have hm:=iZ (k:=k) (l:=l) (i:=0);simp only[DZ,kQ,hc];by_cases h0:f k=0
  .rw[Ag h0] at hl⊢;have e:l.find? (λx=>decide (k=x.1))=none:=by
    cases hf:l.find? (λx=>decide (k=x.1)) with
    |none=>rfl
    |some y=>rw[hf] at hl;cases hl
   have:=hm.1 e;unfold Qv at this;rw[this];rfl
  .rw[Af h0] at hl⊢;cases hf:l.find? (λx=>decide (k=x.1)) with
   |none=>rw[hf] at hl;cases hl
   |some y=>rw[hf] at hl;simp only[BJ,Bx] at hl;obtain⟨j,e⟩:=hm.2 y hf;unfold Qv at e;rw[e,<-hl];rfl
def xX{id:Nat}{l:List (Int×Int)}{k v:Int}(hc:h[id]?=some (.map (l.map Qv)))(hn:l.find? (λx=>decide (k=x.1))=none):
  ∃h1,DZ (.S7 (I 0)) h [.map (some id),I k]=some (h1,.tuple [I 0,I l.length])/\∃h2,DZ .NO h1 [.map (some id),I l.length,I v]=some (h2,.bool true)/\h2=h.set id (.map ((l++[(k,v)]).map Qv)):=by
 have Ik:=(Al.1 hc).1;have hm:=(iZ (k:=k) (l:=l) (i:=0)).1 hn;refine⟨h.set id (.map (l.map Qv++[(I k,I 0)])),?_,_,?_,rfl⟩;.simp only[DZ,U7,hc,hm,BJ,Aw]
 .have c:(h.set id (.map (l.map Qv++[(I k,I 0)])))[id]?=some (.map (l.map Qv++[(I k,I 0)])):=AD Ik;have b:(l.map Qv++[(I k,I 0)])[l.length]?=some (I k,I 0):=by rw[Bw Ax];simp
  simp only[DZ,RB,c,By,b];rw[Ag Ac,Mh,B0 _ _ Ax];simp[Qv]
def PA.aDz(w:PA h a n m ps A):∀i∈m.toList++ps.filterMap (λp=>Hs p.kv),i<h.length/\i≠a/\i≠n:=by
 intro i hi;have h1:i∈Fw a n m ps:=by unfold Fw;simp only[AF];exact .inr (.inr hi)
 have b:=w.nd;unfold Fw at b;simp only[BV,AF,PR] at b;exact⟨w.lt i h1,λe=>b.1.2 (e▸hi),λe=>b.2.1 (e▸hi)⟩
def PA.aDA(w:PA h a n m ps A){h1:Ai}{m':Option Nat}{A':Ar}(g:A'.n=A.n)(f:A'.i.length=A'.n.length)(ha:h1[a]?=some (.cells [.CT n 0 ps.length 13,.map m']))(ho:∀i,i<h.length->i≠a->m≠some i->h1[i]?=h[i]?)(hm:m'=m\/∃j,m'=some j/\h.length<=j)(b:XR h1 m' A'.inr):PA h1 a n m' ps A':=by
 have nd:=w.nd;have iY:=nd;unfold Fw at iY;simp only[BV,AF,PR] at iY;have hnm:m≠some n:=λe=>iY.2.1 (by simp[e]);refine⟨by rw[g];exact w.e,f,ha,?_,?_,?_,b⟩;.rw[ho n (w.lt n (by simp[Fw])) (DC iY.1.1) hnm];exact w.hn
 .intro p hp;refine(w.ks p hp).E4 λid Ik=>?_;have h1:id∈ps.filterMap (λp=>Hs p.kv):=B8.2 ⟨p,hp,Ik⟩;have h2:=w.aDz id (Aq.2 (.inr h1));exact ho id h2.1 h2.2.1 λe=>(BP.1 iY.2.2).2.2 id (by simp[e]) id h1 rfl
 .rcases hm with rfl|⟨j,rfl,hj⟩
  .exact nd
  .have d:∀i∈ps.filterMap (λp=>Hs p.kv),i<h.length:=λi hi=>(w.aDz i (Aq.2 (.inr hi))).1;have l:=w.lt a (by simp[Fw]);have k:=w.lt n (by simp[Fw]);have c:=(BP.1 iY.2.2).2.1;unfold Fw;simp only[BV,AF,aJT,CD,BR,PR];exact⟨⟨iY.1.1,Ac,λhm=>iY.1.2 (Aq.2 (.inr hm))⟩,⟨Ac,λhm=>iY.2.1 (Aq.2 (.inr hm))⟩,λhm=>by have:=d j hm;omega,c⟩
def XV{l:List (Int×Int)}{k v:Int}(hk:xU l)(hn:l.find? (λx=>decide (k=x.1))=none)(h1:aw k=true)(h2:aw v=true):xU (l++[(k,v)]):=by
 refine⟨?_,λp hp=>?_⟩;.rw[BW,BP];refine⟨hk.1,Ax,λa ha b hb e=>?_⟩;obtain⟨x,hx,rfl⟩:=A4.1 ha;have c:=Lp.1 hn x hx;simp only[A9,Dc,AQ] at hb;exact c (by simpa using(e.trans hb).symm)
 .rcases Aq.1 hp with h|h
  .exact hk.2 p h
  .simp only[AQ] at h;subst h;exact⟨h1,h2⟩
def xY(hb:A.len<=1000000000)(hx:A.has x):aw x=true:=by have:=hx.1;have:=hx.2;unfold Ar.len at hb;unfold aw;simp;omega
def aDB{i:Nat}(hm:m=some i):i∈Fw a n m ps:=by unfold Fw;simp[hm]
def PA.aDC(w:PA h a n m ps A){l:List (Int×Int)}{id:Nat}(s:m=some id)(hc:h[id]?=some (.map (l.map Qv)))(hl:∀k,(l.find? λx=>decide (k=x.1)).map (·.2)=if A.inr k=0 then none else some (A.inr k))(ok:xU l)(hb:A.len<=1000000000){d i:Int}(hd:A.has d)(hi:A.has i)(c:d≠i)(h0:A.inr d=0)(á:A.inr i=0):
  ∃h1 h2 q,DZ (.S7 (I 0)) h [.map m,I d]=some (h1,.tuple [I 0,I l.length])/\DZ .NO h1 [.map m,I l.length,I i]=some (h2,.bool true)/\
   DZ (.S7 (I 0)) h2 [.map m,I i]=some (q,.tuple [I 0,I ((l.length+1:Nat):Int)])/\∃o,DZ .NO q [.map m,I ((l.length+1:Nat):Int),I i]=some (o,.bool true)/\PA o a n m ps ((A.Nw d i).Nw i i)/\(∀j,j≠id->o[j]?=h[j]?)/\o.length=h.length:=by
 subst s;have Ik:=(Al.1 hc).1;have b:∀k,A.inr k=0->l.find? (λx=>decide (k=x.1))=none:=by
  intro k hk;have:=hl k;rw[Ag hk] at this;cases hf:l.find? (λx=>decide (k=x.1)) with
  |none=>rfl
  |some y=>rw[hf] at this;cases this
 obtain⟨h1,D,h2,C,rfl⟩:=xX (v:=i) hc (b d h0);have KS:(h.set id (.map ((l++[(d,i)]).map Qv)))[id]?=some (.map ((l++[(d,i)]).map Qv)):=AD Ik;obtain⟨q,z,o,u,rfl⟩:=xX (k:=i) (v:=i) KS (by rw[QX,b i á];simp[DC c]);simp only[Ao,AS] at z u;refine⟨h1,_,q,D,C,z,_,u,?_,?_,Ax⟩
 .have g:id≠a:=λe=>by have:=w.nd;unfold Fw at this;simp[e] at this
  refine w.aDA (m':=some id) (A':=(A.Nw d i).Nw i i) rfl ?_ ?_ ?_ (.inl rfl) ?_;.simp only[Ar.Nw];split<;>split<;>simp[w.il]
  .rw[Ap g,Ap g];exact w.ha
  .intro j hj B t;have:id≠j:=λe=>t (by rw[e]);rw[Ap this,Ap this]
  .refine .inr ⟨id,l++[(d,i)]++[(i,i)],rfl,?_,λk=>?_,XV (XV ok (b d h0) (xY hb hd) (xY hb hi)) (by rw[QX,b i á];simp[DC c]) (xY hb hi) (xY hb hi)⟩;.rw[AD (by simpa using Ik)];rfl
   .have r:(A.Nw d i).i.length=(A.Nw d i).n.length:=by simp only[Ar.Nw];split<;>simp[w.il]
    rw[Xo r,Xo w.il,QX,QX];have kh:(A.Nw d i).has i:=hi;have hk:=hl k;have þ:i≠0:=by have:=hi.1;omega
    cases hf:l.find? (λx=>decide (k=x.1)) with
    |some y=>
     rw[hf] at hk;have zq:A.inr k≠0:=by intro e;rw[Ag e] at hk;cases hk
     have p:k≠i:=λe=>zq (e▸á);have f:k≠d:=λe=>zq (e▸h0);simp only[p,f,Ē,DR,Option.some_or];exact hk
    |none=>
     rw[hf] at hk;have zq:A.inr k=0:=by
      by_cases e:A.inr k=0;.exact e
      .rw[Af e] at hk;cases hk
     by_cases f:k=d;.subst f;simp[c,hd,þ]
     .by_cases p:k=i;.subst p;simp[f,kh,þ]
      .simp[p,f,zq]
 .intro j hj;rw[Ap (DC hj),Ap (DC hj)]
def aDD(w:PA h a n m ps A)(D:Mn A)(hb:A.len+1<=1000000000)(hx:A.has x):
  ∃h' n' m' Ot,B2 cx 229 [Pt a 0,I x] h (I (A.HR x)) h'/\PA h' a n' m' Ot (A.ER x)/\EH h (λi=>i∈Fw a n m ps) h' (λi=>i∈Fw a n' m' Ot):=by
 have l1:Bd h none (Pt a 1)=some (.map m):=by simp only[Bd,w.ha];rfl
 have g1:=w.mp.get x;by_cases h0:A.inr x=0
 .obtain⟨h1,y,w1,C,d⟩:=aH0 w D hb false;have f:=w.Qj (p:=Ki false (A.len+1)) rfl C d;have r:A.HR x=A.len+1:=by unfold Ar.HR;rw[Af (by simp[h0])]
  have s:A.ER x=((A.add {kind:=1,Cl:=A.len+1}).Nw x (A.len+1)).Nw (A.len+1) (A.len+1):=by unfold Ar.ER;rw[Af (by simp[h0])]
  have zr:∀k,(A.add {kind:=1,CL:=false,Cl:=A.len+1}).inr k=A.inr k:=λk=>Vi w.il;have Tq:(A.add {kind:=1,CL:=false,Cl:=A.len+1}).has x:=Ei.2 (.inl hx);have vz:(A.add {kind:=1,CL:=false,Cl:=A.len+1}).has (A.len+1):=Ei.2 (.inr rfl);have hne:=Xx hx;have á:A.inr (A.len+1)=0:=by unfold Ar.inr;rw[Af Pz]
  have z:Bd h1 none (Pt a 1)=some (.map m):=by simp only[Bd,w1.ha];rfl
  rw[Ag h0] at g1;have S6:(A.add {kind:=1,CL:=false,Cl:=A.len+1}).len<=1000000000:=by rw[Ob];exact hb
  rcases w1.mp with⟨rfl,hz⟩|⟨id,l,rfl,hc,hl,ho⟩
  .have mb:=w1.ha;have kD:a<h1.length:=w1.lt a (by simp[Fw]);have Tn:(h1++[EN.map []])[a]?=some (.cells [.CT h.length 0 (ps++[Ki false (A.len+1)]).length 13,.map none]):=by rw[An kD];exact mb
   have es:CK (h1++[EN.map []]) 1 (Pt a 1) (.map (some h1.length))=some ((h1++[EN.map []]).set a (.cells [.CT h.length 0 (ps++[Ki false (A.len+1)]).length 13,.map (some h1.length)])):=by simp only[CK,Tn];rfl
   have mg:((h1++[EN.map []]).set a (.cells [.CT h.length 0 (ps++[Ki false (A.len+1)]).length 13,.map (some h1.length)]))[a]?=some (.cells [.CT h.length 0 (ps++[Ki false (A.len+1)]).length 13,.map (some h1.length)]):=AD Ek;have K:Bd ((h1++[EN.map []]).set a (.cells [.CT h.length 0 (ps++[Ki false (A.len+1)]).length 13,.map (some h1.length)])) none (Pt a 1)=some (.map (some h1.length)):=by simp only[Bd,mg];rfl
   have xk:((h1++[EN.map []]).set a (.cells [.CT h.length 0 (ps++[Ki false (A.len+1)]).length 13,.map (some h1.length)]))[h1.length]?=some (.map (([]:List (Int×Int)).map Qv)):=by rw[Ap Ac,Bw (Ab _),Eb];rfl
   have B:PA ((h1++[EN.map []]).set a (.cells [.CT h.length 0 (ps++[Ki false (A.len+1)]).length 13,.map (some h1.length)])) a h.length (some h1.length) (ps++[Ki false (A.len+1)]) (A.add {kind:=1,CL:=false,Cl:=A.len+1}):=by refine w1.aDA rfl w1.il mg (λi hi c _=>by rw[Ap (DC c),An hi]) (.inr ⟨_,rfl,Ab _⟩) (.inr ⟨h1.length,[],rfl,xk,λk=>by rw[Ag (hz k)];rfl,Mf,λp hp=>nomatch hp⟩)
   obtain⟨H,G,E,q,o,j,v,g,t,u,b⟩:=B.aDC rfl xk (λk=>by rw[Ag (hz k)];rfl) ⟨Mf,λp hp=>nomatch hp⟩ S6 Tq vz hne ((zr x).trans h0) ((zr _).trans á);refine⟨v,_,_,_,?_,s▸t,⟨by rw[b];simp;omega,λi hi kF=>?_,λi hi=>?_⟩⟩;.simp only[Bk] at q o j g;rw[Ae,Sr,r];simp only[B9,l1,g1,y.Ad,z,show Az (.Fe false .mp) [.map none,.map none]=some (.bool true) from rfl,es,K,q,o,j,g]
   .have J:=f.old i hi kF;have c:i≠a:=λe=>kF (by simp[Fw,e]);rw[u i Ac,Ap (DC c),An Ac,J]
   .unfold Fw at hi;simp only[AF,aJT,CD,BR] at hi;rcases hi with rfl|rfl|rfl|hi
    .exact .inl (by simp[Fw])
    .exact .inr (Ab _)
    .exact .inr Ac
    .exact f.BI i (by unfold Fw;simp only[AF,Option.toList_none,BR];exact .inr (.inr hi))
  .obtain⟨H,G,E,q,o,j,v,g,t,u,b⟩:=w1.aDC rfl hc hl ho S6 Tq vz hne ((zr x).trans h0) ((zr _).trans á);refine⟨v,_,_,_,?_,s▸t,⟨Ac,λi hi kF=>?_,f.BI⟩⟩;.rw[Ae,Sr,r];simp only[B9,l1,g1,y.Ad,z,show Az (.Fe false .mp) [.map (some id),.map none]=some (.bool false) from rfl,q,o,j,g]
   .rw[u i (λe=>kF (e▸aDB rfl))];exact f.old i hi kF
 .have r:A.HR x=A.inr x:=by unfold Ar.HR;rw[Ag h0]
  have s:A.ER x=A:=by unfold Ar.ER;rw[Ag h0]
  refine⟨h,n,m,ps,?_,by rw[s];exact w,.refl⟩;rw[Af h0] at g1;rw[Ae,Sr,r];simp only[B9,l1,g1]
def Mn.aDE(b:Mn A)(h1:A.len+1<=1000000000):Mn (A.ER x):=by
 unfold Ar.ER;split;.exact b
 .have:=b.add (y:={kind:=1,Cl:=A.len+1}) h1 Ax Ax;exact⟨this.n,this.at_,this.data⟩
def dg(hk:A.has x){d:Int}:(A.ER d).nd x=A.nd x:=Xt (.inl (Xx hk))
def aDF{l:List AZ}{v:Aa}{d sp:Int}{nm:Aj}(w:PA h a n m ps A)(B:Mn A)(hb:A.len+3<=1000000000)(hd:A.has d/\(A.nd d).kind=1)(hsp:BS.JP sp)(hv:A6 l v)(hl:l.length<=1000000000)(hs:∀y∈l,BS.JP y.Be):
  ∃h' n' m' Ot,B2 cx 143 [Pt a 0,I d,I sp,.str nm,v] h (.tuple [I (A.len+1),I 0]) h'/\PA h' a n' m' Ot (A.elem d sp nm l)/\EH h (λi=>i∈Fw a n m ps) h' (λi=>i∈Fw a n' m' Ot)/\Mn (A.elem d sp nm l):=by
 have v8:=w.len;have t:=ý (h:=h) (nN hv) hl hs;obtain⟨u,hu⟩:∃u,u=UX (CC l):=⟨_,rfl⟩;rw[<-hu] at t;have lG:(CC l).length<=1000000000:=by have:=P9 (l:=l);omega
 have b:=û (h:=h) (y:=sp);rw[Ak hsp] at b;obtain⟨h1,N,w1,Q,l1⟩:=qx w Ac ⟨{kind:=4,Cl:=d,Be:=sp,name:=nm,As:=CC l},.slnil,u,hu⟩ rfl rfl;have ø:=B.add (y:={kind:=4,Cl:=d,Be:=sp,name:=nm,As:=CC l}) Ac lG Ax;have Tq:(A.add {kind:=4,Cl:=d,Be:=sp,name:=nm,As:=CC l}).has (A.len+1):=Ei.2 (.inr rfl);have RO:(A.add {kind:=4,Cl:=d,Be:=sp,name:=nm,As:=CC l}).nd (A.len+1)={kind:=4,Cl:=d,Be:=sp,name:=nm,As:=CC l}:=by rw[Li,Ag rfl]
 have E:=w.Qj (p:=⟨{kind:=4,Cl:=d,Be:=sp,name:=nm,As:=CC l},.slnil,u,hu⟩) rfl Q l1;have ù:B2 cx 101 [Pt a 0,.agg [I 4,I 0,.slnil,I d,I sp,.str nm,u,.str [],.str [],.str [],.bool false,I 0,I 0]] h (I (A.len+1)) h1:=N;have r2:=Ic w1 ø Tq;have f:=aDy w1 Tq;rw[RO] at f;have hc:u.cells=[u]:=by rw[hu];exact Bz.cells VQ
 unfold Ar.elem;simp only
 by_cases q:US {kind:=4,Cl:=d,Be:=sp,name:=nm,As:=CC l}
 .rw[Ag q];rw[Ak q] at f;have Ś:(A.add {kind:=4,Cl:=d,Be:=sp,name:=nm,As:=CC l}).has d:=Ei.2 (.inl hd.1);obtain⟨h2,U,V,qz,M,r,H⟩:=aDD w1 ø (by rw[Ob];omega) Ś;have z:=ø.aDE (x:=d) (by rw[Ob];omega);have pF:((qz.length:Nat):Int)=((A.add {kind:=4,Cl:=d,Be:=sp,name:=nm,As:=CC l}).ER d).len:=r.len;have nR:((A.add {kind:=4,Cl:=d,Be:=sp,name:=nm,As:=CC l}).ER d).len<=A.len+2:=by rw[cm,Ob];split<;>omega
  obtain⟨T,L,e,P,l3⟩:=qx r Ac ⟨{kind:=2,Dg:=A.len+1,Cl:=(A.add {kind:=4,Cl:=d,Be:=sp,name:=nm,As:=CC l}).HR d},.slnil,.slnil,rfl⟩ rfl rfl;obtain⟨g,C⟩:∃g,g=qz++[⟨{kind:=2,Dg:=A.len+1,Cl:=(A.add {kind:=4,Cl:=d,Be:=sp,name:=nm,As:=CC l}).HR d},.slnil,.slnil,rfl⟩]:=⟨_,rfl⟩;have D:=r.Qj (p:=⟨{kind:=2,Dg:=A.len+1,Cl:=(A.add {kind:=4,Cl:=d,Be:=sp,name:=nm,As:=CC l}).HR d},.slnil,.slnil,rfl⟩) rfl P l3;rw[<-C] at e D;have j:=z.add (y:={kind:=2,Dg:=A.len+1,Cl:=(A.add {kind:=4,Cl:=d,Be:=sp,name:=nm,As:=CC l}).HR d}) Ac Ax Ax;have s:B2 cx 101 [Pt a 0,.agg [I 2,I 0,.slnil,I ((A.add {kind:=4,Cl:=d,Be:=sp,name:=nm,As:=CC l}).HR d),I 0,.str [],.slnil,.str [],.str [],.str [],.bool false,I 0,I (A.len+1)]] h2 _ T:=L;have bT:=Ny (h:=d) Tq;have c:=Ei (x:={kind:=2,Dg:=A.len+1,Cl:=(A.add {kind:=4,Cl:=d,Be:=sp,name:=nm,As:=CC l}).HR d}).2 (.inl bT);have o:(((A.add {kind:=4,Cl:=d,Be:=sp,name:=nm,As:=CC l}).ER d).add {kind:=2,Dg:=A.len+1,Cl:=(A.add {kind:=4,Cl:=d,Be:=sp,name:=nm,As:=CC l}).HR d}).nd (A.len+1)={kind:=4,Cl:=d,Be:=sp,name:=nm,As:=CC l}:=by rw[L6 bT,dg Tq,RO]
  have K:=Ic e j c;have hp:=(e.pn c).2.1;rw[o] at hp;obtain⟨S,J,G,R,O,l4⟩:=e.wr c (k:=11) AM (v:= I (((A.add {kind:=4,Cl:=d,Be:=sp,name:=nm,As:=CC l}).ER d).len+1)) rfl (p:=⟨{kind:=4,Cl:=d,Be:=sp,name:=nm,As:=CC l,cont:=((A.add {kind:=4,Cl:=d,Be:=sp,name:=nm,As:=CC l}).ER d).len+1},(pN g (A.len+1)).kv,(pN g (A.len+1)).av,by have:=(pN g (A.len+1)).ok;rw[hp] at this;exact this⟩) (by simp only[PN.row];rw[hp];rfl) rfl (by rw[o]);refine⟨S,_,_,_,?_,G,E.trans (H.trans (D.trans (e.xW G R O l4))),j.set lG Ax⟩;rw[Ae,Vs];simp only[abS,Nat.reduceLeDiff,↓reduceIte,Bj,(nO (x:=d) w B).Ad,Ag hd.1,Ag hd.2,Cj,Ck,t.Ad,Gj,b.Ad,hc,ù.Ad,r2.Ad,f.Ad,M.Ad,s.Ad,K.Ad,J]
 .rw[Af q];rw[Ah q] at f;refine⟨h1,_,_,_,?_,w1,E,ø⟩;rw[Ae,Vs];simp only[abS,Nat.reduceLeDiff,↓reduceIte,Bj,(nO (x:=d) w B).Ad,Ag hd.1,Ag hd.2,Cj,Ck,t.Ad,Gj,b.Ad,hc,ù.Ad,r2.Ad,f.Ad]
def Z6{U:Type}{p q:U->Bool}{y:U}:∀{l:List U},(∀x∈l,p x=true->q x=true)->y∈l->p y=false->q y=true->(l.filter p).length<(l.filter q).length
 |[],_,h,_,_=>by cases h
 |x::l,hi,hy,hp,hq=>by
  have le:∀{l:List U},(∀x∈l,p x=true->q x=true)->(l.filter p).length<=(l.filter q).length:=by
   intro l;induction l with
   |nil=>intro _;simp
   |cons z l ih=>
    intro hi;have:=ih λx hx=>hi x (by simp[hx]);rw[GR,GR];split;.rename_i hz;rw[Ag (hi z Ax hz)];simp;exact this
    .split;.simp;omega
     .exact this
  have hl:=λx (hx:x∈l)=>hi x (by simp[hx]);rw[GR,GR];rcases AF.1 hy with rfl|hy
  .rw[Af (by simp[hp]),Ag hq];have:=le hl;simp;omega
  .have ih:=Z6 hl hy hp hq;split;.rename_i hz;rw[Ag (hi x Ax hz)];simp;exact ih
   .split;.simp;omega
    .exact ih
def uC{r:Int->Nat}{k y:Int}(hr:∀h,A.has h->A.up h≠0->r (A.up h)<r h)(hR:Reach A k y)(hy:A.has y):r k<=r y:=by
 induction hR with
 |refl=>exact Ab _
 |@step z h1 h2 ih=>
  by_cases hz:A.has (A.up z);.have:=ih hz;have:=hr z hy h1;omega
  .cases h2 with
   |refl=>have:=hr z hy h1;omega
   |step b _=>exact absurd (Xr hz) b
open Classical in
def uD{e:Int}(ok:Er A e):∃r:Int->Nat,(∀h,A.has h->A.up h≠0->r (A.up h)<r h)/\∀h,r h<=A.n.length:=by
 obtain⟨r,hr⟩:=ok.cO;refine⟨λh=>((List.range A.n.length).filter λ(i:Nat)=>decide (Reach A ((i:Int)+1) h/\(i:Int)+1≠h)).length,λh b hu=>?_,λh=>?_⟩
 .have ñ:=cP ok b hu;have Qs:=ñ;unfold Ar.has at Qs;have c:(((A.up h).toNat-1:Nat):Int)+1=A.up h:=Ac;refine Z6 (y:=(A.up h).toNat-1) (λi _ hi=>?_) (List.mem_range.2 Ac) ?_ ?_;.rw[Co] at hi⊢;refine⟨.step hu hi.1,λe=>?_⟩;have h1:=uC hr hi.1 ñ;have h2:=hr h b hu;rw[e] at h1;omega
  .rw[c];simp
  .rw[c,Co];exact⟨.step hu .refl,é ok b hu⟩
 .have:=List.length_filter_le (λ(i:Nat)=>decide (Reach A ((i:Int)+1) h/\(i:Int)+1≠h)) (List.range A.n.length);rwa [List.length_range] at this
def PA.cell(w:PA h a n m ps A)(hx:A.has x){k:Nat}(hk:k<13):(ps.map PN.row).flatten[0+(x.toNat-1)*13+k]?=(pN ps x).row[k]?:=by rw[BB];exact PF (nM ps) hk (by rw[CA,(w.pn hx).1];rfl)
open Classical in
def XW(w:PA h a n m ps A){up:Int}{r:Int->Nat}{e:Int}(ok:Er A e)(hr:∀h,A.has h->A.up h≠0->r (A.up h)<r h)(ñ:up≠0):∀(fuel:Nat) (x:Int),(x=0\/(A.has x/\r x<fuel))->Ls (ps.map PN.row).flatten 0 ps.length up fuel x=some (decide (Reach A up x))
 |fuel,x,hx=>by
  by_cases h0:x=0
  .subst h0;have no:¬Reach A up 0:=by
    intro hR;cases hR with
    |refl=>exact ñ rfl
    |step h1 _=>exact h1 (Xr (by unfold Ar.has;omega))
   rw[Ah no];cases fuel<;>rfl
  .have hx:=hx.resolve_left h0;cases fuel with
   |zero=>omega
   |succ fuel=>
    have d:Ls (ps.map PN.row).flatten 0 ps.length up (fuel+1) x=if x=up then some true else if 1<=x/\x<=ps.length then
      match Gp (ps.map PN.row).flatten 0 x 1,Gp (ps.map PN.row).flatten 0 x 12 with
      |some p,some q=>Ls (ps.map PN.row).flatten 0 ps.length up fuel (if p=0 then q else p)
      |_,_=>none
     else none:=by
     rw[Ls];.rfl
     .exact λh=>h0 h
    rw[d];by_cases å:x=up;.rw[Ag å,å,Ak .refl]
    .rw[Af å,Ag (by have:=hx.1;have:=w.qo;unfold Ar.has at*;omega)];have g:Gp (ps.map PN.row).flatten 0 x 1=some (A.nd x).GH:=by unfold Gp;rw[w.cell hx.1 AM,<-(w.pn hx.1).2.1];rfl
     have f:Gp (ps.map PN.row).flatten 0 x 12=some (A.nd x).Dg:=by unfold Gp;rw[w.cell hx.1 AM,<-(w.pn hx.1).2.1];rfl
     rw[g,f];simp only
     have c:(if(A.nd x).GH=0 then(A.nd x).Dg else(A.nd x).GH)=A.up x:=by unfold Ar.up;by_cases h:(A.nd x).GH=0<;>simp[h]
     rw[c];have ih:=XW w ok hr ñ fuel (A.up x) (by
      by_cases hu:A.up x=0;.exact .inl hu
      .exact .inr ⟨cP ok hx.1 hu,by have:=hr x hx.1 hu;omega⟩)
     rw[ih];congr 1
     rw[C7];constructor
     .intro h1;by_cases hu:A.up x=0
      .rw[hu] at h1;cases h1 with
       |refl=>exact absurd rfl ñ
       |step b _=>exact absurd (Xr (by unfold Ar.has;omega)) b
      .exact .step hu h1
     .intro h1;cases h1 with
      |refl=>exact absurd rfl å
      |step _ h2=>exact h2
open Classical in
def aDG{up e:Int}(w:PA h a n m ps A)(ok:Er A e)(hu:A.has up)(hx:A.has x):B2 cx 149 [Pt a 0,I up,I x] h (.bool (decide (Reach A up x))) h:=by
 obtain⟨r,hr,b⟩:=uD ok;have Qp:=w.qo;have hc:=XW w ok hr (up:=up) (by have:=hu.1;omega) (ps.length+1) x (.inr ⟨hx,by have:=b x;omega⟩);have c:DZ (.VU Nk) h [Pt a 0,I up,I x]=some (h,.bool (decide (Reach A up x))):=by simp only[DZ,Nk,w.ha,w.hn];rw[Ag (by rw[qv];omega),Ag (by unfold Ar.has at hu hx;omega),hc];rfl
 rw[Ae,show BZ cx 149 [Pt a 0,I up,I x]=Nl [Pt a 0,I up,I x] from rfl,Nl];simp only[B9,c]
structure XX(h:Ai)(v:Aa)(l:List Int):Prop where
 len:Az (.len false) [v]=some (I (l.length:Int))
 at_:∀k (hk:k<l.length),∃p,Az (.FG 1) [v,I (k:Int)]=some p/\Bd h none p=some (I l[k])
def JU.Rm{kv:Aa}{l:List Int}(hk:JU h kv l):XX h kv l:=by
 refine⟨hk.len,λk hlt=>?_⟩;rcases hk with⟨rfl,rfl⟩|⟨id,cs,rfl,hc⟩
 .simp at hlt
 .refine⟨Pt id k,by have:=Ge (id:=id) (z:=1) (k:= .i64) hlt;rwa [GL] at this,?_⟩;simp only[Bd,hc,Gq];rw[An (by simpa using hlt)];simp[hlt]
def GI.Rm{v:Aa}{l:List Int}(hv:GI l v):XX h v l:=⟨Bz.GO hv,λk hk=>⟨_,Bz.DB hv hk,rfl⟩⟩
def ź{v:Aa}{l:List Int}(hv:XX h v l)(hb:l.length<=1000000000)(x:Int):B2 cx 113 [v,I x] h (I (BT (λy=>decide (x=y)) 0 l)) h:=by
 rw[Ae,dQ];simp only[B9,hv.len];refine BM (λk:Nat=>[I 0,I (k:Int)]) (λk h1=>k<=l.length/\BT (λy=>decide (x=y)) 0 l=BT (λy=>decide (x=y)) k (l.drop k)/\h1=h) (λk=>l.length-k) 0 rfl ⟨Bc _,rfl,rfl⟩ ?_;rintro k h1 ⟨hk,ha,rfl⟩;rcases Bl k l.length with hlt|GS
 .have i1:(k:Int)<(l.length:Int):=by omega
  obtain⟨p,c,b⟩:=hv.at_ k hlt;rw[Ay hlt,BT] at ha;simp only[abS,i1,c,b,CE (Ac:k<9223372036854775807)];refine⟨λh2=>?_,λh2=>?_⟩;.rw[ha,Ag (by simpa using h2)]
  .rw[Af (by simpa using h2)] at ha;exact Br.next (k+1) rfl ⟨hlt,ha,rfl⟩ Ac
 .have i1:¬(k:Int)<(l.length:Int):=by omega
  rw[AV GS,BT] at ha;simp only[abS,i1,ha]
def SB{l:List Int}{x:Int}(hx:x∈l):∃k,k<l.length/\BT (λy=>decide (x=y)) 0 l=(k:Int)/\l[k]?=some x/\l.takeWhile (λy=>decide (y≠x))=l.take k/\l.dropWhile (λy=>decide (y≠x))=l.drop k:=by
 have key:∀(l:List Int) (s:Nat),x∈l->∃k,k<l.length/\BT (λy=>decide (x=y)) s l=((s+k:Nat):Int)/\l[k]?=some x/\l.takeWhile (λy=>decide (y≠x))=l.take k/\l.dropWhile (λy=>decide (y≠x))=l.drop k:=by
  intro l;induction l with
  |nil=>intro s h;cases h
  |cons z l ih=>
   intro s h;by_cases e:x=z;.subst e;exact⟨0,Ax,by rw[BT,Ag Ax];simp,rfl,Ax,Ax⟩
   .have h2:x∈l:=(AF.1 h).resolve_left e;obtain⟨k,d,c,b,i,g⟩:=ih (s+1) h2;have f:z≠x:=λj=>e j.symm;refine⟨k+1,by simp;exact d,by rw[BT,Af (by simpa using e),c];congr 1;omega,by simpa using b,?_,?_⟩;.rw[List.takeWhile_cons,Ag (by simpa using f),i];rfl
    .rw[List.dropWhile_cons,Ag (by simpa using f),g];rfl
 obtain⟨k,d,c,b⟩:=key l 0 hx;exact⟨k,d,by simpa using c,b⟩
def SC{l:List Int}{x:Int}{k:Nat}(hn:l.Nodup)(hk:l[k]?=some x):l.take k++l.drop (k+1)=l.filter λy=>decide (y≠x):=by
 obtain⟨hlt,e⟩:=Al.1 hk;have c:l=l.take k++x::l.drop (k+1):=by conv=>lhs;rw[<-Cw k l,Ay hlt,e]
 rw[c,BP,BV] at hn;conv=>rhs;rw[c,ES,GR,Af Ax]
 rw[Zg.2 (λy hy=>by simpa using λb:y=x=>hn.2.2 y hy x Ax b),Zg.2 (λy hy=>by simpa using λb:y=x=>hn.2.1.1 (b▸hy))]
def Ż{id l k:Nat}(hl:0<l)(hk:k<=l):Az (.PU 1 false false true) [.CT id 0 l 1,I (k:Int)]=some (.CT id 0 k 1):=by
 have b:En (k:Int) l=some k:=by unfold En;rw[Ag Ac];rfl
 simp[Az,Im,Dx,b];omega
def ż{id l k:Nat}(hk:k<=l):Az (.PU 1 false true false) [.CT id 0 l 1,I (k:Int)]=some (if k<l then .CT id k (l-k) 1 else .sl 1 []):=by
 have b:En (k:Int) l=some k:=by unfold En;rw[Ag Ac];rfl
 simp[Az,Im,Dx,b];split<;>rfl
def aDH{id k:Nat}{l:List Int}{cs:List Aa}(hc:h[id]?=some (.cells (l.map (Aa.int .i64)++cs)))(hk:k<l.length)(hb:l.length<=1000000000):
  ∃GB,B2 cx 233 [.CT id 0 l.length 1,I (k:Int),I ((k+1:Nat):Int)] h (.CT id 0 (l.length-1) 1) (h.set id (.cells ((l.take k++l.drop (k+1)).map (Aa.int .i64)++GB))):=by
 have Ik:=(Al.1 hc).1;have Ž:(l.take k++l.drop (k+1)).length=l.length-1:=by rw[Ao,AB,Bi];omega
 obtain⟨RU,o,hcl⟩:∃RU,FN h 1 8 (.CT id 0 k 1) (if k+1<l.length then .CT id (k+1) (l.length-(k+1)) 1 else .sl 1 [])=some (h.set id (.cells ((l.take k++l.drop (k+1)).map (Aa.int .i64)++RU)),.CT id 0 (l.length-1) 1)/\1<=RU.length:=by
  have f:GX h 1 (if k+1<l.length then .CT id (k+1) (l.length-(k+1)) 1 else .sl 1 [])=some ((l.drop (k+1)).map CM):=by
   by_cases Zq:k+1<l.length;rotate_left;.rw[Af Zq,AV Ac];rfl
   rw[Ag Zq];have c:=M1 (l:=l.drop (k+1)) (cs:=cs) (Tm:=(l.take (k+1)).map (Aa.int .i64));rw[<-AT,<-BW,Cw] at c;simp only[Aw,AB,Bi] at c;rw[Cx Ac] at c;simp only[GX,BE,hc,c];rw[Ag Ek]
  by_cases aDI:k+1=l.length
  .refine⟨I l[k]::cs,?_,Ax⟩;have g:l.drop (k+1)=[]:=AV Ac;rw[g] at f⊢;have e:l.map (Aa.int .i64)++cs=(l.take k++[]).map (Aa.int .i64)++ I l[k]::cs:=by
    have:l=l.take k++[l[k]]:=by conv=>lhs;rw[<-Cw k l,Ay hk,g]
    conv=>lhs;rw[this,BW,AT]
    rw[Bs];rfl
   have j:h.set id (.cells ((l.take k++[]).map (Aa.int .i64)++ I l[k]::cs))=h:=by rw[<-e];obtain⟨pF,t⟩:=Al.1 hc;rw[<-t,Jg]
   simp only[FN,f,Dc,BE];rw[j,(Ac:l.length-1=k)]
  .obtain⟨y,b,hd⟩:∃y b,l.drop (k+1)=y::b:=⟨_,_,Ay (Ac:k+1<l.length)⟩;have nR:(y::b).length=l.length-(k+1):=by rw[<-hd,Bi]
   rw[hd] at f;have aDJ:∀l3:List Int,(l3.map CM).flatten=l3.map (Aa.int .i64):=by
    intro l3;induction l3 with
    |nil=>rfl
    |cons z l3 ih=>simp[CM,ih]
   refine⟨(l.map (Aa.int .i64)++cs).drop (l.length-1),?_,Ek⟩;simp only[FN,f,A9,hc,BE];have s:(CM y::b.map CM).length=l.length-(k+1):=by rw[<-nR];simp
   have r:(CM y::b.map CM).flatten=(y::b).map (Aa.int .i64):=by have:=aDJ (y::b);simpa using this
   rw[s,r,Ag Ek];have q:(l.map (Aa.int .i64)++cs).take (0+k*1)=(l.take k).map (Aa.int .i64):=by rw[BB,GL,Dz Ek,GM]
   rw[q,hd,(Ac:0+(k+(l.length-(k+1)))*1=l.length-1),(Ac:k+(l.length-(k+1))=l.length-1)];simp
 generalize ÿ:h.set id (.cells ((l.take k++l.drop (k+1)).map (Aa.int .i64)++RU))=h2 at o;have KS:h2[id]?=some (.cells ((l.take k++l.drop (k+1)).map (Aa.int .i64)++RU)):=by rw[<-ÿ];exact AD Ik
 have g:DZ (.zC 1 true true) h2 [.CT id 0 (l.length-1) 1,I ((l.length-1:Nat):Int),I (l.length:Int)]=some (h2,.CT id (l.length-1) 1 1):=by
  simp only[DZ,kP,KS];have uE:((l.take k++l.drop (k+1)).map (Aa.int .i64)++RU).length=l.length-1+RU.length:=by rw[Ao,Aw,Ž]
  have u:En (l.length:Int) ((((l.take k++l.drop (k+1)).map (Aa.int .i64)++RU).length-0)/1)=some l.length:=by unfold En;rw[Ag (by rw[uE];omega)];rfl
  have c:En ((l.length-1:Nat):Int) l.length=some (l.length-1):=by unfold En;rw[Ag Ac];rfl
  rw[Ag ⟨trivial,trivial,Bc _⟩];simp only[Dx,u,c,Cd,BJ];rw[Ag (by rw[uE];omega)];congr 3
  .omega
  .omega
 have p:DZ (.clear 1 [I 0]) h2 [.CT id (l.length-1) 1 1]=some (h.set id (.cells ((l.take k++l.drop (k+1)).map (Aa.int .i64)++(I 0::RU.drop 1))),.bool true):=by
  simp only[DZ,VX,KS];rw[Ag ⟨trivial,rfl,by rw[Ao,Aw,Ž];omega⟩];congr 2
  rw[<-ÿ,Mh];congr 2
  have e:(((l.take k++l.drop (k+1)).map (Aa.int .i64)++RU).take (l.length-1))=(l.take k++l.drop (k+1)).map (Aa.int .i64):=I0 (by rw[Aw,Ž]);have j:(((l.take k++l.drop (k+1)).map (Aa.int .i64)++RU).drop (l.length-1+1*1))=RU.drop 1:=by rw[show l.length-1+1*1=((l.take k++l.drop (k+1)).map (Aa.int .i64)).length+1 by rw[Aw,Ž],SV];simp
  rw[e,j];simp
 refine⟨I 0::RU.drop 1,?_⟩;have d:∀i n,Az (.len false) [.CT i 0 n 1]=some (I (n:Int)):=λ_ _=>rfl;have e:DZ (.pL 1) h [.CT id 0 l.length 1,I (k:Int),I ((k+1:Nat):Int),I (l.length:Int)]=some (h,.bool true):=by simp only[DZ,VY];simp;omega
 rw[Ae,gV];simp only[abS,d,e,(Ac:¬(k:Int)=((k+1:Nat):Int)),Ż (id:=id) (Ac:0<l.length) (Ac:k<=l.length),ż (id:=id) (Ac:k+1<=l.length),o,g,p]
def q_:∀{n:Nat} {l:List Int},l.Nodup->(∀x∈l,1<=x/\x<=n)->l.length<=n
 |0,l,_,h=>by
  cases l with
  |nil=>simp
  |cons x l=>have:=h x Ax;omega
 |n+1,l,hn,h=>by
  have ih:=q_ (n:=n) (l:=l.filter λx=>decide (x≠(n:Int)+1)) (hn.filter _) (λx hx=>by
   have h1:=Dl.1 hx;have h2:=h x h1.1;have c:x≠(n:Int)+1:=by simpa using h1.2
   omega)
  have key:∀{l:List Int},l.Nodup->l.length<=(l.filter λx=>decide (x≠(n:Int)+1)).length+1:=by
   intro l hl;induction l with
   |nil=>simp
   |cons x l ih=>
    rw[BV] at hl;rw[GR];by_cases e:x=(n:Int)+1;.rw[Af (by simp[e]),Zg.2 (λy hy=>by simpa using λb:y=(n:Int)+1=>hl.1 (by rw[e,<-b];exact hy))];simp
    .rw[Ag (by simpa using e)];have:=ih hl.2;simp only[AG];omega
  have:=key hn;omega
def rh{e:Int}(ok:Er A e)(x:Int):(A.nd x).Bm.length<=A.n.length:=by
 by_cases hx:A.has x;.refine q_ (ok.QN x hx).m0 λk hk=>?_;exact(ok.MU x hx k hk).1
 .rw[L2 hx];exact Bc _
def Mn.Bm{e:Int}(b:Mn A)(ok:Er A e)(x:Int):(A.nd x).Bm.length<=1000000000:=Bn (rh ok x) b.n
def Mn.aH7{l:List Int}(b:Mn A):Mn (A.set x {A.nd x with Bm:=l}):=b.set (b.at_ x) (b.data x)
def Mn.aH8{p:Int}(b:Mn A):Mn (A.set x {A.nd x with GH:=p}):=b.set (b.at_ x) (b.data x)
def Mn.cut(b:Mn A):Mn (A.cut x):=by
 unfold Ar.cut;simp only;split;.exact b
 .exact Mn.aH8 b.aH7
def Ā{e:Int}(w:PA h a n m ps A)(g:Mn A)(ok:Er A e)(hx:A.has x):
  ∃h' Ot,B2 cx 150 [Pt a 0,I x] h (.tuple []) h'/\PA h' a n m Ot (A.cut x)/\EH h (λi=>i∈Fw a n m ps) h' (λi=>i∈Fw a n m Ot):=by
 have hb:=g.Bm ok;by_cases hp:(A.nd x).GH=0
 .have t:A.cut x=A:=by unfold Ar.cut;simp only;rw[Ag hp]
  refine⟨h,ps,?_,by rw[t];exact w,.refl⟩;rw[Ae,Vw];simp only[abS,(Ic w g hx).Ad,w.f1 hx,hp]
 .obtain⟨hq,hk⟩:=ok.GH x hx hp;generalize c:(A.nd x).GH=q at*;have hne:q≠x:=by rw[<-c];exact sD ok hx (by rw[c];exact hp)
  obtain⟨k,l,J,C,_,_⟩:=SB hk;have MU:=w.MU hq;have j:=ź MU.Rm (hb q) x;rw[J] at j;rcases r:MU with⟨_,e0⟩|⟨id,cs,b,hc⟩
  .rw[e0] at l;simp at l
  clear r;rw[b] at j;obtain⟨GB,r2⟩:=aDH hc l (hb q);rw[SC (ok.QN q hq).m0 C] at r2;have Zw:(A.nd q).Bm.length-1=((A.nd q).Bm.filter λy=>decide (y≠x)).length:=by rw[<-SC (ok.QN q hq).m0 C,Ao,AB,Bi];omega
  rw[Zw] at r2;have xl:=(Al.1 hc).1;have o:=(w.pn hq).2.1;generalize Į:h.set id (.cells (((A.nd q).Bm.filter λy=>decide (y≠x)).map (Aa.int .i64)++GB))=h1 at r2;have aDK:id∈Fw a n m ps:=KV (w.pn hq).2.2 (by rw[b];rfl);have aH9:id≠n:=by intro d;have:=w.nd;unfold Fw at this;simp only[BV,AF,PR] at this;exact this.2.1 (d▸Aq.2 (.inr (B8.2 ⟨_,(w.pn hq).2.2,by rw[b];rfl⟩)))
  have aNB:id≠a:=by intro d;have:=w.nd;unfold Fw at this;simp only[BV,AF,PR] at this;exact this.1.2 (d▸Aq.2 (.inr (B8.2 ⟨_,(w.pn hq).2.2,by rw[b];rfl⟩)))
  obtain⟨f,uF⟩:∃f:PN,f=⟨{A.nd q with Bm:=(A.nd q).Bm.filter λy=>decide (y≠x)},.CT id 0 ((A.nd q).Bm.filter λy=>decide (y≠x)).length 1,(pN ps q).av,w.att hq⟩:=⟨_,rfl⟩;have aDL:f.row=(pN ps q).row.set 2 (.CT id 0 ((A.nd q).Bm.filter λy=>decide (y≠x)).length 1):=by rw[uF];simp only[PN.row];rw[o];rfl
  have u:h1[n]?=h[n]?:=by rw[<-Į,Ap aH9]
  have z:=w.sto hq (k:=2) AM (v:= .CT id 0 ((A.nd q).Bm.filter λy=>decide (y≠x)).length 1) rfl aDL u;have aDM:Hs f.kv=Hs (pN ps q).kv:=by rw[uF,b];rfl
  have w1:=w.fq hq (p:=f) (h1:=h1) (λi _ hi=>by rw[<-Į,Ap];intro d;exact hi (by rw[b,d];rfl)) (by rw[uF];exact .inr ⟨id,GB,rfl,by rw[<-Į];exact AD xl⟩) (.inl aDM)
  have ā:=xV w hq aDM;generalize ÿ:h1.set n (.cells ((ps.set (q.toNat-1) f).map PN.row).flatten)=h2 at z w1;generalize aNC:ps.set (q.toNat-1) f=Y2 at w1 ā;have s:f.x={A.nd q with Bm:=(A.nd q).Bm.filter λy=>decide (y≠x)}:=by rw[uF]
  rw[s] at w1;have Tq:(A.set q {A.nd q with Bm:=(A.nd q).Bm.filter λy=>decide (y≠x)}).has x:=I2.2 hx;have gl:=(w1.pn Tq).2.1;have RO:(A.set q {A.nd q with Bm:=(A.nd q).Bm.filter λy=>decide (y≠x)}).nd x=A.nd x:=by rw[JM,Af (λh=>hne h.1.symm)]
  obtain⟨K,E,D,i3,G,l3⟩:=w1.wr Tq (k:=1) AM (v:= I 0) rfl (p:=⟨{A.nd x with GH:=0},(pN Y2 x).kv,(pN Y2 x).av,by have:=(pN Y2 x).ok;rw[gl,RO] at this;exact this⟩) (by simp only[PN.row];rw[gl,RO];rfl) rfl (Cm Fg.Bm RO).symm;have t:A.cut x=(A.set q {A.nd q with Bm:=(A.nd q).Bm.filter λy=>decide (y≠x)}).set x {A.nd x with GH:=0}:=by unfold Ar.cut;simp only;rw[c,Af hp,RO]
  refine⟨K,_,?_,by rw[t];exact D,?_⟩;.have inc:=CE (show k<9223372036854775807 by have:=hb q;omega);rw[Ae,Vw];simp only[abS,(Ic w g hx).Ad,(Ic w g hq).Ad,w.f1 hx,c,hp,w.f2 hq,b,j.Ad,inc,r2.Ad,z,E]
  .have aND:h2.length=h.length:=by rw[<-ÿ,BY,<-Į,BY]
   refine⟨Ac,λi hi kF=>?_,λi hi=> .inl (by rw[i3,ā] at hi;exact hi)⟩;have B:i≠n:=λd=>kF (d▸by simp[Fw]);have H:i≠id:=λd=>kF (d▸aDK);rw[G i B,<-ÿ,Ap (DC B),<-Į,Ap (DC H)]
end
end Go.Am
end
