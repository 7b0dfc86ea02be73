/- Lemmas -/
import Derived.Test.YtbkijlifflhdiaaGreatDoorV20
import Derived.Test.YtbkijlifflhdiaaGreatDoorV21
import Derived.Test.YtbkijlifflhdiaaGreatDoorV22
import Derived.Test.YtbkijlifflhdiaaGreatDoorV23
import Derived.Test.YtbkijlifflhdiaaGreatDoorV19
set_option linter.all false
set_option maxRecDepth 100000
section
namespace Go.Am
open Go
abbrev uG:=List Aa->Option IT
def br(g:IT):uG:=λl=>match l with
 |[]=>some (g)
 |_=>none
def Lk(g:Aa->IT):uG:=λl=>match l with
 |[a0]=>some (g a0)
 |_=>none
def Fb(g:Aa->Aa->IT):uG:=λl=>match l with
 |[a0,a1]=>some (g a0 a1)
 |_=>none
def RL(g:Aa->Aa->Aa->IT):uG:=λl=>match l with
 |[a0,a1,a2]=>some (g a0 a1 a2)
 |_=>none
def nL(g:Aa->Aa->Aa->Aa->IT):uG:=λl=>match l with
 |[a0,a1,a2,a3]=>some (g a0 a1 a2 a3)
 |_=>none
def sm(g:Aa->Aa->Aa->Aa->Aa->IT):uG:=λl=>match l with
 |[a0,a1,a2,a3,a4]=>some (g a0 a1 a2 a3 a4)
 |_=>none
def T3(f:Nat)(g:uG):Prop:=∀l t,g l=some t->t=BK cx f l
def uH{f:Nat}{g:IT}(h:BK cx f []=g):T3 f (br g):=by
 intro l t ht;unfold br at ht;split at ht;.cases ht;exact(h).symm
 .cases ht
def Gc{f:Nat}{g:Aa->IT}(h:∀a0,BK cx f [a0]=g a0):T3 f (Lk g):=by
 intro l t ht;unfold Lk at ht;split at ht;.cases ht;exact(h _).symm
 .cases ht
def CE{f:Nat}{g:Aa->Aa->IT}(h:∀a0 a1,BK cx f [a0,a1]=g a0 a1):T3 f (Fb g):=by
 intro l t ht;unfold Fb at ht;split at ht;.cases ht;exact(h _ _).symm
 .cases ht
def Ll{f:Nat}{g:Aa->Aa->Aa->IT}(h:∀a0 a1 a2,BK cx f [a0,a1,a2]=g a0 a1 a2):T3 f (RL g):=by
 intro l t ht;unfold RL at ht;split at ht;.cases ht;exact(h _ _ _).symm
 .cases ht
def XD{f:Nat}{g:Aa->Aa->Aa->Aa->IT}(h:∀a0 a1 a2 a3,BK cx f [a0,a1,a2,a3]=g a0 a1 a2 a3):T3 f (nL g):=by
 intro l t ht;unfold nL at ht;split at ht;.cases ht;exact(h _ _ _ _).symm
 .cases ht
def sn{f:Nat}{g:Aa->Aa->Aa->Aa->Aa->IT}(h:∀a0 a1 a2 a3 a4,BK cx f [a0,a1,a2,a3,a4]=g a0 a1 a2 a3 a4):T3 f (sm g):=by
 intro l t ht;unfold sm at ht;split at ht;.cases ht;exact(h _ _ _ _ _).symm
 .cases ht
def gx:List (Nat×uG):=[(14,Lk t14),(18,Lk ŗ),(19,Fb t19),(20,Fb t20),(21,Fb Ř),(24,Lk t24),(25,Lk t25),(37,Lk t37),(42,br t42),(43,Fb ř),(44,RL vp),(45,Fb t45),(46,RL t46),(47,Fb Ś),(48,Fb t48),(49,Fb t49),(50,Fb t50),(51,RL t51),(52,RL t52),(53,nL t53),(54,Fb t54),(55,Fb ś),(56,Fb t56),(67,Lk t67),(76,nL t76),(77,Lk Ş),(81,Fb t81),(82,Lk t82),(84,Fb ş),(90,Fb Š),(91,Fb t91),(92,RL t92),(93,Fb t93),(94,nL š),(95,Lk t95),(96,Fb Ţ),(97,RL t97),(98,Fb t98),(99,Fb t99),(100,nL Xv),(113,Fb qh),(116,RL qi),(117,Fb zI),(120,Fb qj),(127,Fb t127),(128,Fb qk),(129,Lk ql),(130,sm zR),(131,Fb zS),(132,Fb zT),(134,RL qm),(135,Fb uE),(136,Lk qn),(137,Fb qo),(138,Fb qp),(139,Fb zV),(140,Fb qq),(141,Fb qt),(158,Fb qu),(161,Fb qv),(170,br qx),(171,Fb qy),(172,Lk qz),(173,Fb q_),(176,Lk rh),(177,Fb rj),(178,Lk rk),(179,Lk rl),(180,Fb uF),(181,RL rp),(182,Lk rq),(183,Fb r_),(205,Fb sd),(206,Lk å),(207,Lk sg),(219,Fb ë),(221,Fb sj),(231,RL sk),(100027,Lk Si)]
def uI:List (Nat×uG)->Prop
 |[]=>True
 |(f,g)::l=>T3 f g/\uI l
def uJ:uI gx:=
 ⟨Gc sX,Gc dS,CE sY,CE T0,CE dT,Gc sZ,Gc tC,Gc tE,uH tF,CE dU,Ll T1,CE tG,Ll tH,CE dV,CE tI,CE tJ,CE tK,Ll tL,Ll tM,XD T2,CE tN,CE dW,CE tO,Gc tS,XD dZ,Gc eA,CE tU,Gc tV,CE eC,CE eD,CE tX,Ll tY,CE tZ,XD eE,Gc uA,CE eF,Ll uB,CE uC,CE uD,XD K4,CE iM,Ll iN,CE Xx,CE iO,CE iP,CE iQ,Gc iR,sn Xy,CE Xz,CE XA,Ll iS,CE Sf,Gc iT,CE iU,CE iV,CE XB,CE iW,CE iX,CE iY,CE iZ,uH i7,CE jA,Gc jB,CE jC,Gc jD,CE jE,Gc jF,Gc jG,CE Sg,Ll jH,Gc jI,CE jJ,CE jM,Gc bk,Gc jN,CE bq,CE jO,Ll jP,Gc OI,trivial⟩
def bt(f:Nat):List (Nat×uG)->List Aa->Option IT
 |[],_=>none
 |(k,g)::l,args=>if Nat.beq k f then g args else bt f l args
def jQ{f:Nat}{args:List Aa}{t:IT}:∀{l:List (Nat×uG)},uI l->bt f l args=some t->t=BK cx f args
 |[],_,h=>by cases h
 |(k,g)::l,ha,h=>by
  simp only[bt] at h;split at h;.rename_i hk;have hk:k=f:=Nat.eq_of_beq_eq_true hk;subst hk;exact ha.1 _ _ h
  .exact jQ ha.2 h
noncomputable def vq(f:FuncId)(args:List Aa):IT:=match bt f gx args with
 |some t=>t
 |none=>BK cx f args
def uK:vq=BK cx:=by
 funext f args;unfold vq;split;.rename_i t h;exact jQ uJ h
 .rfl
def T4:Option IF->Bool
 |some (.ret,[.bool true],_)=>true
 |_=>false
def US{r:Option IF}(h:T4 r=true):∃h',r=some (.ret,[.bool true],h'):=by
 unfold T4 at h;split at h;.exact⟨_,rfl⟩
 .cases h
def nM{f:FuncId}{args:List Aa}{h:Ag}(n:Nat)(hr:T4 (IT.run vq n (vq f args) h)=true):Ev cx f args h λr _=>r= .bool true:=by obtain⟨h',e⟩:=US hr;rw[uK] at e;exact⟨n,_,_,_,e,rfl,_,rfl,rfl⟩
end Go.Am
end
section
namespace Go.Am
open Go
section
def aBE(s:Aq):OA cx 157 [.str s] (.bool (decide (s∈Iq))):=by rw[UM,af];rw[show Ò (.str s)=sw s (.ret .ret [tt]) (.ret .ret [ff]) Iq from rfl,rW];exact⟨λh=>by simp[h],λh=>by simp[h]⟩
section
variable{Q:IA}{h:Ag}{k:Aa->IT}{s:Aq}
@[simp] theorem uL:W cx (.Ck 157 [.str s] k) Q h↔W cx (k (.bool (decide (s∈Iq)))) Q h:=(aBE s).Ck rfl rfl
end
def aBF(s:Aq):OA cx 175 [.str s] (.bool (decide (s∈NF\/s∈Iq))):=by rw[UM,az];rw[show Ý (.str s)=sw s (.ret .ret [tt]) (.Ck 157 [.str s] λv=> .ret .ret [v]) NF from rfl,rW];exact⟨λh=>by simp[h],λh=>by simp[h]⟩
def aBG(n:Int)(s:Aq):OA cx 161 [I n,.str s] (.bool (decide (n=3/\s∈Md))):=by
 rw[UM,iZ,qv];by_cases h:n=3;.simp[h,Md];by_cases h1:s=[109,105]<;>by_cases h2:s=[109,110]<;>by_cases b:s=[109,111]<;>by_cases a:s=[109,115]<;>simp[h1,h2,b,a]
 .simp[h]
section
variable{Q:IA}{h:Ag}{k:Aa->IT}{s:Aq}{n:Int}
@[simp] theorem uM:W cx (.Ck 175 [.str s] k) Q h↔W cx (k (.bool (decide (s∈NF\/s∈Iq)))) Q h:=(aBF s).Ck rfl rfl
@[simp] theorem ì:W cx (.Ck 161 [I n,.str s] k) Q h↔W cx (k (.bool (decide (n=3/\s∈Md)))) Q h:=(aBG n s).Ck rfl rfl
end
def í(n:Int)(s:Aq):OA cx 113 [I n,.str s] (.bool (Hg n s)):=by
 rw[UM,iM];rw[show qh (I n) (.str s)= .op (.int .eql) [I n,I 3] λv=> .A4 v (.op (.str .eql) [.str s,S aJr] λv=> .A4 v (.ret .ret [tt]) (.Ck 161 [I n,.str s] λv=> .ret .ret [v]))
  (.op (.int .eql) [I n,I 2] λv=> .A4 v (sw s (.ret .ret [tt]) (.op (.str .eql) [.str s,S aJF] λv=> .ret .ret [v]) [aJZ,aJt])
  (.op (.int .eql) [I n,I 1] λv=> .A4 v (sw s (.ret .ret [tt]) (.ret .ret [ff]) Pn) (.ret .ret [ff]))) from rfl]
 by_cases a:n=3;.by_cases h:s=aJr<;>simp[a,Hg,h]
 .by_cases h2:n=2;.by_cases ha:s=aJZ<;>by_cases hb:s=aJt<;>simp[h2,rW,Hg,VS,ha,hb]
  .by_cases h1:n=1;.by_cases h:s∈Pn<;>simp[h1,rW,Hg,h]
   .simp[a,h2,h1,Hg]
section
variable{Q:IA}{h:Ag}{k:Aa->IT}{s:Aq}{n:Int}
@[simp] theorem T5:W cx (.Ck 113 [I n,.str s] k) Q h↔W cx (k (.bool (Hg n s))) Q h:=(í n s).Ck rfl rfl
end
end
section
end
section
section
variable{Q:IA}{h:Ag}{k:Aa->IT}{s:Aq}
end
section
variable{Q:IA}{h:Ag}{k:Aa->IT}{s:Aq}{n:Int}
end
end
section
def aBH(a b:Int)(h:Ag):Cm cx 221 [.int .i32 a,.int .i32 b] h (.func (.func 231) [] [.Cb [.int .i32 a],.Cb [.int .i32 b]]) h:=by rw[Ak,jO,sj];simp only[Ch]
def aBI(c a b:Int)(h:Ag):Cm cx 231 [.int .i32 c,.Cb [.int .i32 a],.Cb [.int .i32 b]] h (.bool (decide (a<=c/\c<=b))) h:=by rw[Ak,jP,sk];simp only[Ch];refine⟨λh=>by simp[h],λh=>by simp[h]⟩
def aBJ(c:Int):OA cx 207 [.int .i32 c] (.bool (decide (65<=c/\c<=90))):=by rw[UM,jN,sg];simp only[Ch,Nat.reduceLeDiff,↓reduceIte,(aBH _ _ _).Ah,CM,(aBI _ _ _ _).Ah]
def so(s:Aq)(hs:s.length<=AO):OA cx 182 [.str s] (.str (Fs s)):=by
 have XV:s.length<=140737488355328:=hs;rw[UM,jI,rq];have e1:HW [] (.str s)=some ([.cells ((F9 s 0).map Mx)],.CG 0 0 s.length 1):=by simp only[HW,hs,BB];rfl
 have i:Ax (.len false) [.CG 0 0 s.length 1]=some (I (s.length:Int)):=rfl;simp only[Ch,e1,i];refine BL (λn:Nat=>[I (n:Int)]) (λn h=>n<=s.length/\h=[.cells ((F9 s n).map Mx)]) (λn=>s.length-n) 0 rfl ⟨A8 _,rfl⟩ ?_;rintro n h ⟨hn,rfl⟩;rcases BH n s.length with hlt|HK
 .have i1:(n:Int)<(s.length:Int):=by omega
  have g:Ax (.F8 1) [.CG 0 0 s.length 1,I (n:Int)]=some (Pt 0 n):=by simp[Ax,elemOf,Lr,hlt]
  have f:BE [.cells ((F9 s n).map Mx)] none (Pt 0 n)=some (.int .u8 (s[n].toNat:Int)):=cP (by rw[CT,TD hlt];rfl);have e:IntKind.i32.wrap (s[n].toNat:Int)=(s[n].toNat:Int):=rU (by have:=s[n].toNat_lt;omega);simp only[Ch,i1,AU,AJ,AF,g,f,W9,e,(aBJ _).Ck rfl rfl,CQ (Ab:n<9223372036854775807)];refine⟨λhe=>?_,λhe=>?_⟩
  .have gy:65<=s[n].toNat/\s[n].toNat<=90:=by omega
   have d:Cx [.cells ((F9 s n).map Mx)] 1 (Pt 0 n) (.int .u8 ((s[n].toNat:Int)-65+97))=some [.cells (((F9 s n).map Mx).set n (.int .u8 ((s[n].toNat:Int)-65+97)))]:=Y7 (by rw[Aw,TC];exact hlt) rfl;simp only[Ch,cL,cK,wrap_u8 (Ab:0<=((s[n].toNat:Int)-65)/\((s[n].toNat:Int)-65)<=255),wrap_u8 (Ab:0<=((s[n].toNat:Int)-65+97)/\((s[n].toNat:Int)-65+97)<=255),d];refine A6.next (n+1) rfl ⟨hlt,?_⟩ Ab;rw[Pr hlt,Hw];have c:Mx (H7 s[n])= .int .u8 ((s[n].toNat:Int)-65+97):=by unfold Mx;rw[Xd gy];congr 1;omega
   rw[c]
  .have X0:¬(65<=s[n].toNat/\s[n].toNat<=90):=by omega
   refine A6.next (n+1) rfl ⟨hlt,?_⟩ Ab;rw[Pr hlt,Pq X0,rX (TD hlt)]
 .have i1:¬(n:Int)<(s.length:Int):=by omega
  have a:n=s.length:=Ab;subst a;have b:La [.cells ((F9 s s.length).map Mx)] (.CG 0 0 s.length 1)=some ([.Ec],.sl 1 (Cu (Fs s))):=by
   have hl:(Fs s).length=s.length:=by simp[Fs]
   rw[Y6];simp only[La,JP];rw[Ad (by simp[hl])];rw[Nb (Fs s) s.length 0 Ab];simp
  simp only[Ch,i1,AV,AJ,AF,b,Bu.Uu (s:=Fs s) .mk]
end
section
def PF(l:Aq)(ws:List Aq):Prop:=Ev cx 206 [.str l] [] λr _=>r= .sl 1 (ws.map CK)
def Oa{l:Aq}{ws:List Aq}(n:Nat)(hr:(IT.run vq n (vq 206 [.str l]) []).map (λx=>(x.1,x.2.1))=some (.ret,[.sl 1 (ws.map CK)])):PF l ws:=by obtain⟨⟨x,vs,h⟩,e1,a⟩:=QL.1 hr;cases a;rw[uK] at e1;exact⟨n,_,_,_,e1,rfl,_,rfl,rfl⟩
def î{l:Aq}{ws:List Aq}(hf:PF l ws)(hw:∀w∈ws,w.length<=AO)(hn:ws.length<9223372036854775807)(name:Aq):OA cx 177 [.str name,.str l] (.str (C7 name ws)):=by
 rw[UM,jE,rj];refine pO (hf.mono λr h1 e=>?_);subst e;have Z6:Bu 1 (ws.map CK) (.sl 1 (ws.map CK)):= .mk;simp only[Ch,Z6.len];refine BL (λn:Nat=>[.str [],I (n:Int)]) (λn _=>n<=ws.length/\C7 name ws=C7 name (ws.drop n)) (λn=>ws.length-n) 0 rfl ⟨A8 _,rfl⟩ ?_;rintro n h ⟨vr,ha⟩;rcases BH n ws.length with hlt|HK
 .have i1:(n:Int)<((ws.map CK).length:Int):=D5;have bY:n<(ws.map CK).length:=by simpa using hlt
  have e1:(ws.map CK)[n]=[.str ws[n]]:=by simp[CK]
  rw[AE hlt,C7] at ha;simp only[Ch,i1,AU,AJ,AF,Z6.F8 bY,e1,(so ws[n] (hw _ (AX hlt))).Ck rfl rfl,CQ (Ab:n<9223372036854775807)];refine⟨λhe=>?_,λhe=>?_⟩;.rw[ha,Ad he]
  .rw[Ac he] at ha;exact A6.next (n+1) rfl ⟨hlt,ha⟩ Ab
 .have i1:¬(n:Int)<((ws.map CK).length:Int):=D5;rw[Bc HK,C7] at ha;simp only[Ch,i1,AV,AJ,AF,ha]
def RM:PF Qp LL:=Oa 5000 AQ
def RN:PF Qq LM:=Oa 5000 AQ
def aBK(s:Aq):OA cx 129 [.str s] (.str (C7 s LL)):=by rw[UM,iR,show ql (.str s)= .Ck 177 [.str s,.str Qp] λv=> .ret .ret [v] from rfl];rw[(î (l:=Qp) RM eJ eJ s).Ck rfl rfl];simp only[Ch]
def f235(s:Aq):OA cx 176 [.str s] (.str (C7 s LM)):=by rw[UM,jD,show rh (.str s)= .Ck 177 [.str s,.str Qq] λv=> .ret .ret [v] from rfl];rw[(î (l:=Qq) RN eJ eJ s).Ck rfl rfl];simp only[Ch]
end
section
def f187{v:Aa}{l:List AS}(hv:Cl l v)(hn:l.length<9223372036854775807)(h:Ag){f:FuncId}{p:AS->Bool}(hp:∀a∈l,Cm cx f [.agg a.row] h (.bool (p a)) h)(hf:f<=99999):
  Cm cx 135 [v,.func (.func f) [] []] h (I (B5 p 0 l)) h:=by
 rw[Ak,Sf,uE];have hlen:(l.map AS.row).length=l.length:=Aw ..;simp only[Ch,Bu.len hv];refine BL (λn:Nat=>[I 0,I (n:Int)]) (λn h1=>n<=l.length/\B5 p 0 l=B5 p n (l.drop n)/\h1=h) (λn=>l.length-n) 0 rfl ⟨A8 _,rfl,rfl⟩ ?_;rintro n h1 ⟨vr,ha,rfl⟩;rcases BH n l.length with hlt|HK
 .have i1:(n:Int)<((l.map AS.row).length:Int):=by rw[hlen];omega
  have e1:(l.map AS.row)[n]'(by rw[hlen];exact hlt)=AS.row l[n]:=Au;have b:Ek (AS.row l[n]) 0 (some 3)=some (.agg (AS.row l[n])):=by simp[AS.row]
  rw[AE hlt,B5] at ha;simp only[Ch,↓reduceIte,CM,hf,BN,i1,AU,AJ,AF,Bu.F8 hv (show n<(l.map AS.row).length by rw[hlen];exact hlt),e1,b,(hp _ (AX hlt)).Ah];rw[C6];refine⟨λhe=>?_,λhe=>?_⟩;.rw[ha,Ad he]
  .rw[Ac (by simp[he])] at ha;simp only[Ch,CQ (Ab:n<9223372036854775807)];exact A6.next (n+1) rfl ⟨hlt,ha,rfl⟩ Ab
 .have i1:¬(n:Int)<((l.map AS.row).length:Int):=by rw[hlen];omega
  rw[Bc HK,B5] at ha;simp only[Ch,↓reduceIte,CM,hf,i1,AV,AJ,AF,ha]
def f188(a:AS)(h:Ag):Cm cx 136 [.agg a.row] h (.bool (hC a)) h:=by rw[Ak,iT,qn,AS.row];simp only[Ch,hC];refine⟨λh=>by simp[h],λh=>by simp[h]⟩
def f189(a b:Aq)(ha:a.length<=AO)(hb:b.length<=AO):OA cx 137 [.str a,.str b] (.bool (decide (Fs a=Fs b))):=by rw[UM,iU,qo];simp only[Ch,(so a ha).Ck rfl rfl,(so b hb).Ck rfl rfl]
def f96{v:Aa}{l:List AS}(hv:Cl l v)(hl:∀a∈l,a.value.length<=AO)(hn:l.length<9223372036854775807)(n:Int)(s:Aq)(h:Ag):Cm cx 92 [I n,.str s,v] h (.bool (Hh n s l)) h:=by
 rw[Ak,tY,t92];simp only[Ch,T5,(f187 hv hn h (λa _=>f188 a h) Be).Ah,Hh];refine⟨λh2=>by simp[h2],λh2=>⟨λb=>by simp[h2,b],λb=>⟨λg=>by simp[h2,b,g],λg=>?_⟩⟩⟩;rw[Ac h2,Ac b,Ac g];rcases Ga (p:=hC) (l:=l) (k:=0) with⟨f,d⟩|⟨k,a,f,d,i⟩
 .rw[f,d];simp
 .rw[f,i,Bm];obtain⟨hk,e⟩:=Ae.1 d;have c:k<(l.map AS.row).length:=by simpa using hk
  have e1:(l.map AS.row)[k]=AS.row a:=by simp[e]
  have i1:(0:Int)<=(k:Int):=Ab;have Ou:a.value.length<=AO:=hl a (e▸AX hk);have m:Fs hO=hO:=Rn eJ;have j:Fs Xe=Xe:=Rn eJ;simp only[Ch,i1,AU,AJ,AF,Bu.F8 hv c,e1,AS.row,(f189 a.value hO Ou Be).Ck rfl rfl,(f189 a.value Xe Ou Be).Ck rfl rfl,m,j];refine⟨λh=>by simp[h],λh=>by simp[h]⟩
end
section
section
variable{U:Type}{f:U->List Aa}{l l2:List U}{v v2:Aa}{z b:Nat}{k k2:IntKind}
end
section
variable{h:Ag}{p:Aa}{l:List Item}
def f104(hs:oW h p l):Cm cx 82 [p] h (I (l.length:Int)) h:=by
 rw[Ak,tV,t82];rcases hs with⟨rfl,rfl⟩|⟨id,o,v,rfl,hc,hv⟩
 .simp
 .simp only[Ch,Gn,hc.load,A9,hv.GF]
def T6(hs:oW h p l)(i:Int):Cm cx 81 [p,I i] h (.agg (Ir l i).row) h:=by
 rw[Ak,tU,t81];simp only[Ch,↓reduceIte,Bt,(f104 hs).Ah];refine⟨λhi=>by rw[TE (.inl hi)];simp[Item.row,Item.zero],λhi=>⟨λhl=>by rw[TE (.inr hl)];simp[Item.row,Item.zero],λhl=>?_⟩⟩;rcases hs with⟨rfl,rfl⟩|⟨id,o,v,rfl,hc,hv⟩
 .simp at hl;omega
 .obtain⟨n,rfl⟩:=PY (Ab:0<=i);have hn:n<l.length:=Ab;simp only[Ch,Nat.reduceLeDiff,↓reduceIte,Ic,hc.load,A9,hv.Dl hn,H8 hn]
def f39(hs:oW h p l)(hn:l.length<=1000000000):Cm cx 37 [p] h (.agg (GO l).row) h:=by rw[Ak,tE,t37];simp only[Ch,Ic,(f104 hs).Ah,DP (Ab: -9223372036854775808<=(l.length:Int)-1) (Ab:(l.length:Int)-1<9223372036854775808),(T6 hs _).Ah,GO]
def RO(F:Aa)(h:Ag)(q:Item->Bool):Prop:=∃f caps,F= .func (.func f) [] caps/\f<=99999/\∀a:Item,Cm cx f (.agg a.row::caps) h (.bool (q a)) h
def RO.EK{F:Aa}{q:Item->Bool}(hF:RO F h q)(a:Item){k:Aa->IT}{Q:IA}:W cx (.EK F [.agg a.row] k) Q h↔W cx (k (.bool (q a))) Q h:=by obtain⟨f,caps,rfl,hf,hr⟩:=hF;rw[M7];simp only[CM,hf,↓reduceIte,Bj,BW,M5,(hr a).Ah]
def sq(hs:oW h p l)(hn:l.length<=1000000000){F:Aa}{q:Item->Bool}(hF:RO F h q):Cm cx 158 [p,F] h (I (AM q l)) h:=by
 obtain⟨f,caps,rfl,hf,hr⟩:=hF;rw[Ak,iY,qu];simp only[Ch,(f104 hs).Ah,DP (Ab: -9223372036854775808<=(l.length:Int)-1) (Ab:(l.length:Int)-1<9223372036854775808)];refine BL (λn:Nat=>[I 0,I ((n:Int)-1)]) (λn h1=>n<=l.length/\AM q l=AM q (l.take n)/\h1=h) (λn=>n) l.length rfl ⟨Af _,by rw[BZ],rfl⟩ ?_;rintro n h1 ⟨vr,ha,rfl⟩;cases n with
 |zero=>have i1:¬(0:Int)<=((0:Nat):Int)-1:=Ab;rw[ha];simp only[Ch,↓reduceIte,CM,hf,i1,AV,AJ,AF,Nf]
 |succ n=>
  have i1:(0:Int)<=((n+1:Nat):Int)-1:=Ab;have a:((n+1:Nat):Int)-1=(n:Int):=Ab;rcases hs with⟨rfl,rfl⟩|⟨id,o,v,rfl,hc,hv⟩
  .simp at vr
  .rw[Me Ab] at ha;simp only[Ch,Nat.reduceLeDiff,↓reduceIte,CM,Ic,hf,a,(Ab:(0:Int)<=(n:Int)),AU,AJ,AF,hc.load,A9,hv.Dl (Ab:n<l.length),(hr l[n]).Ah,DP (Ab: -9223372036854775808<=(n:Int)-1) (Ab:(n:Int)-1<9223372036854775808)];rw[C6];refine⟨λhe=>?_,λhe=>?_⟩;.rw[ha,Ad he]
   .rw[Ac (by simp[he])] at ha;exact A6.next n rfl ⟨Ab,ha,rfl⟩ Ab
def aBL{v:Aa}{ws:List Aq}(hv:Jz ws v)(hn:ws.length<=1000000000)(s:Aq)(h:Ag):Cm cx 183 [v,.str s] h (I (B5 (λw=>decide (s=w)) 0 ws)) h:=by
 rw[Ak,jJ,r_];have hv:Bu 1 (ws.map CK) v:=hv;simp only[Ch,hv.GF];refine BL (λn:Nat=>[I 0,I (n:Int)]) (λn h1=>n<=ws.length/\B5 (λw=>decide (s=w)) 0 ws=B5 (λw=>decide (s=w)) n (ws.drop n)/\h1=h) (λn=>ws.length-n) 0 rfl ⟨A8 _,rfl,rfl⟩ ?_;rintro n h1 ⟨vr,ha,rfl⟩;rcases BH n ws.length with hlt|HK
 .have i1:(n:Int)<(ws.length:Int):=by omega
  rw[AE hlt,B5] at ha;simp only[Ch,i1,AU,AJ,AF,hv.Dl hlt,CK,CQ (Ab:n<9223372036854775807)];refine⟨λhe=>?_,λhe=>?_⟩;.rw[ha,Ad (by simpa using he)]
  .rw[Ac (by simpa using he)] at ha;exact A6.next (n+1) rfl ⟨hlt,ha,rfl⟩ Ab
 .have i1:¬(n:Int)<(ws.length:Int):=by omega
  rw[Bc HK,B5] at ha;simp only[Ch,i1,AV,AJ,AF,ha]
def ï{v:Aa}{ws:List Aq}(hv:Jz ws v)(hn:ws.length<=1000000000)(s:Aq)(h:Ag):Cm cx 138 [v,.str s] h (.bool (decide (s∈ws))) h:=by rw[Ak,iV,qp];simp only[Ch,(aBL hv hn s h).Ah,yK]
def Zu{v:Aa}{ws:List Aq}(hv:Jz ws v)(hn:ws.length<=1000000000)(a:Item)(h:Ag):Cm cx 127 [.agg a.row,v] h (.bool (BF ws a)) h:=by rw[Ak,iP,t127];simp only[Ch,Ic,(ï hv hn _ h).Ah,BF];refine⟨λh1=>by simp[h1],λh1=>by simp[h1]⟩
def aBM(a:Item)(h:Ag):Cm cx 215 [.agg a.row] h (.bool (BF Pp a)) h:=by rw[Ak,bm,ç];simp only[Ch,Ic,cQ,(Zu (ws:=Pp) DA Be a h).Ah]
def aBN(a:Item)(h:Ag):Cm cx 216 [.agg a.row] h (.bool (!BF Na a)) h:=by rw[Ak,bn,è];simp only[Ch,Ic,Y9,(Zu (ws:=Na) DA Be a h).Ah]
def aBO(n:Int)(i:n≠4)(g:n≠5)(a:Item)(h:Ag):Cm cx 217 [.agg a.row,.Cb [I n]] h (.bool (Ng n a)) h:=by have b1:=Zu (ws:=Sb) DA Be a h;have b2:=Zu (ws:=Xc) DA Be a h;have b3:=Zu (ws:=[aJw]) DA Be a h;rw[Ak,bo,é];simp only[Ch,Ic,T5,cR,mO,mP,b1.Ah,b2.Ah,b3.Ah,Ng,i,g];refine⟨λh1=>by simp[h1],λh1=>⟨λh2=>by simp[h2],λh2=>?_⟩⟩;rw[C6];simp only[h1,h2,or_self,EH];refine⟨λd=>by simp[d],λd=>⟨λe=>?_,λe=>⟨λc=>by simp[d,c],λc=>by simp[d,e,c]⟩⟩⟩;rw[C6];exact⟨λc=>by simp[d,e,c],λc=>⟨λh8=>Ab,λh8=>by simp[d,c,h8]⟩⟩
def f264(n:Int)(h:Ag):∃F,Cm cx 198 [I n] h F h/\RO F h (Ng n)/\F.cells=[F]:=by
 by_cases d:n=4
 .refine⟨.func (.func 215) [] [],?_,⟨_,_,rfl,Be,λa=>?_⟩,rfl⟩;.rw[Ak,XC,bd];simp only[Ch,d,AU,AJ,AF]
  .have:=aBM a h;simpa[Ng,d] using this
 .by_cases c:n=5
  .refine⟨.func (.func 216) [] [],?_,⟨_,_,rfl,Be,λa=>?_⟩,rfl⟩;.rw[Ak,XC,bd];simp only[Ch,c,AU,AJ,AF];simp
   .have:=aBN a h;simpa[Ng,c] using this
  .refine⟨.func (.func 217) [] [.Cb [I n]],?_,⟨_,_,rfl,Be,λa=>aBO n d c a h⟩,rfl⟩;rw[Ak,XC,bd];simp only[Ch,d,c,AV,AJ,AF]
def aBP{g d:Aa}{q e:Item->Bool}(h1:RO g h q)(h2:RO d h e)(a:Item):Cm cx 199 [.agg a.row,.Cb [g],.Cb [d]] h (.bool (q a||e a)) h:=by have c1:=λk Q=>h1.EK a (k:=k) (Q:=Q);have c2:=λk Q=>h2.EK a (k:=k) (Q:=Q);rw[Ak,be,á];obtain⟨f,caps,rfl,hf,i⟩:=h1;obtain⟨f',c,rfl,oR,r2⟩:=h2;simp only[Ch,↓reduceIte,CM,Ic,hf,oR,(i a).Ah,(r2 a).Ah];rw[C6];exact⟨λh=>by simp[h],λh=>by simp[h]⟩
def ð(hs:oW h p l)(hn:l.length<=1000000000)(n:Int){F:Aa}{q:Item->Bool}(hF:RO F h q):Cm cx 154 [p,I n,F] h (.bool (OB q (Ng n) l.reverse)) h:=by
 obtain⟨G,e,ñ,GC⟩:=f264 n h;have c:F.cells=[F]:=by obtain⟨f,caps,rfl,hf,_⟩:=hF;rfl
 have d:=hF;have hfit:RO (.func (.func 199) [] [.Cb [F],.Cb [G]]) h (λa=>q a||Ng n a):=⟨199,_,rfl,Be,λa=>aBP hF ñ a⟩;rw[Ak,zZ,Ï];simp only[Ch,↓reduceIte,CM,c,e.Ah,GC,(sq hs hn hfit).Ah];rw[<-cS l true];rcases Ds (q:=λa=>q a||Ng n a) (l:=l) with⟨h1,h2⟩|⟨k,hk,h1,h2,g⟩
 .simp[h1]
 .have c1:(0:Int)<=(k:Int)/\(k:Int).toNat<l.length:=⟨Ab,by simpa using hk⟩;simp only[h1];rw[Z0 c1];rcases hs with⟨rfl,rfl⟩|⟨id,o,v,rfl,hc,hv⟩
  .simp at hk
  .obtain⟨f,caps,rfl,hf,hr⟩:=d;simp only[Ch,Nat.reduceLeDiff,↓reduceIte,Ic,hf,c1.1,AU,AJ,AF,hc.load,A9,hv.Dl hk,(hr l[k]).Ah,Bw]
def aBQ{v:Aa}{ws:List Aq}(hv:Jz ws v)(hn:ws.length<=1000000000)(a:Item)(h:Ag):Cm cx 155 [.agg a.row,.Cb [v]] h (.bool (BF ws a)) h:=by have b:=Zu hv hn a h;rw[Ak,aa,Ð];simp only[Ch,Ic,b.Ah]
def aBR(hs:oW h p l)(hn:l.length<=1000000000)(n:Int){v:Aa}{ws:List Aq}(hv:Jz ws v)(hw:ws.length<=1000000000):Cm cx 107 [p,I n,v] h (.bool (OB (BF ws) (Ng n) l.reverse)) h:=by have hfit:RO (.func (.func 155) [] [.Cb [v]]) h (BF ws):=⟨155,_,rfl,Be,λa=>aBQ hv hw a h⟩;rw[Ak,zC,Z_];simp only[Ch,hv.cells,(ð hs hn n hfit).Ah]
def aBS(node:Int)(a:Item)(h:Ag):Cm cx 201 [.agg a.row,.Cb [I node]] h (.bool (BJ node a)) h:=by rw[Ak,bh,ã,Item.row];simp only[Ch,Ic,BJ]
def aBT(hs:oW h p l)(hn:l.length<=1000000000)(n node:Int):Cm cx 164 [p,I n,I node] h (.bool (OB (BJ node) (Ng n) l.reverse)) h:=by have hfit:RO (.func (.func 201) [] [.Cb [I node]]) h (BJ node):=⟨201,_,rfl,Be,λa=>aBS node a h⟩;rw[Ak,aq,t164];simp only[Ch,(ð hs hn n hfit).Ah]
def aBU(node:Int)(a:Item)(h:Ag):Cm cx 159 [.agg a.row,.Cb [I node]] h (.bool (BJ node a)) h:=by rw[Ak,ag,Ó,Item.row];simp only[Ch,Ic,BJ]
def UT(hs:oW h p l)(hn:l.length<=1000000000)(node:Int):Cm cx 109 [p,I node] h (I (AM (BJ node) l)) h:=by have hfit:RO (.func (.func 159) [] [.Cb [I node]]) h (BJ node):=⟨159,_,rfl,Be,λa=>aBU node a h⟩;rw[Ak,zE,t109];simp only[Ch,(sq hs hn hfit).Ah]
def f232(s:Aq)(a:Item)(h:Ag):Cm cx 173 [.agg a.row,.Cb [.str s]] h (.bool (BF [s] a)) h:=by have b:=Zu (ws:=[s]) DA (Au:[s].length<=1000000000) a h;rw[Ak,jC,q_];simp only[Ch,Ic,Eu (ws:=[s]) (args:=[.str s]) rfl Au,b.Ah]
def f144(hs:oW h p l)(hn:l.length<=1000000000)(s:Aq):Cm cx 120 [p,.str s] h (I (AM (BF [s]) l)) h:=by have hfit:RO (.func (.func 173) [] [.Cb [.str s]]) h (BF [s]):=⟨173,_,rfl,Be,λa=>f232 s a h⟩;rw[Ak,iO,qj];simp only[Ch,(sq hs hn hfit).Ah]
end
end
section
section
variable{h:Ag}{p v:Aa}{l:List Item}
def f186(hv:CW l v)(a:Item){n:Nat}(hn:n<=l.length)(hb:l.length<=1000000000):∃u,Cm cx 134 [v,.agg a.row,I (n:Int)] h u h/\CW (l.take n++a::l.drop n) u:=by
 have O0:(l.length+1)*40<=AO:=by have:AO=140737488355328:=rfl;omega
 obtain⟨s,e1,h1⟩:=Bu.Ro hv (k:= .i64) hn;obtain⟨r,m,h2⟩:=Bu.Nd h1 (b:=40) (by rw[Av];have:AO=140737488355328:=rfl;omega);have j:=Bu.Y8 (a:=a) h2 (b:=40) (by rw[Av];have:AO=140737488355328:=rfl;omega);obtain⟨q,i,e⟩:=Bu.hZ hv (k:= .i64) hn;obtain⟨d,g,c⟩:=Bu.yJ (v:= .sl 4 ((l.take n++[a]).map Item.row)) .mk e (b:=40) (by rw[Ao,Av,AW,BT];have:AO=140737488355328:=rfl;omega);refine⟨d,?_,by rw[AI] at c;exact c⟩;rw[Ak,iS,qm];simp only[Ch,Ic,e1,m,sB,j,i,g]
def f95{id o:Nat}(hs:JY h id o l)(hb:l.length<=1000000000)(a:Item):∃u,Cm cx 91 [Pt id o,.agg a.row] h (.tuple []) (put h id o u)/\CW (l++[a]) u:=by obtain⟨v,hc,hv⟩:=hs;obtain⟨u,hr,hu⟩:=f186 (h:=h) hv a (n:=l.length) (Af _) hb;rw[BZ,Ha] at hu;refine⟨u,?_,hu⟩;rw[Ak,tX,t91];simp only[Ch,Ic,OQ,Ns,hc.load,A9,Bu.GF hv,hr.Ah,hc.store hu.cells]
def aBV(hs:oW h p l)(hb:l.length<=1000000000)(node:Int):Cm cx 165 [p,I node] h (I (DQ node l)) h:=by
 rw[Ak,ar,Ø];have a: -1<=AM (BJ node) l/\AM (BJ node) l<l.length+1:=by rcases Ds (q:=BJ node) (l:=l) with⟨h1,h2⟩|⟨n,hn,h1,h2,c⟩<;>rw[h1]<;>omega
 simp only[Ch,(UT hs hb node).Ah,Xf (Ab: -9223372036854775808<=AM (BJ node) l+1) (Ab:AM (BJ node) l+1<9223372036854775808)];rw[KX];by_cases If:AM (BJ node) l<0;.rw[Ad If];refine BL (λn:Nat=>[I 0,I (AM (BJ node) l+1)]) (λn h1=>h1=h) (λn=>n) 0 rfl rfl ?_;rintro n h1 rfl;have i1:¬0<=AM (BJ node) l:=Ab;simp only[Ch,i1,AV,AJ,AF]
 .rw[Ac If];have i0:0<=AM (BJ node) l:=Ab;obtain⟨m,hm⟩:=PY i0;refine BL (λn:Nat=>[I 0,I (n:Int)]) (λn h1=>Fj Is l (m+1)=Fj Is l n/\h1=h) (λn=>l.length-n) (m+1) (by rw[hm];rfl) ⟨rfl,rfl⟩ ?_;rw[hm,Bw];rintro n h1 ⟨ha,rfl⟩;simp only[Ch,(Ab:(0:Int)<=(m:Int)),AU,AJ,AF,(f104 hs).Ah];rcases BH n l.length with hlt|HK
  .have i1:(n:Int)<(l.length:Int):=by omega
   rw[Xi hlt] at ha;rcases hs with⟨rfl,rfl⟩|⟨id,o,v,rfl,hc,hv⟩
   .simp at hlt
   .simp only[Ch,Ic,i1,AU,AJ,AF,hc.load,A9,Bu.Dl hv hlt,T5,CQ (Ab:n<9223372036854775807)];rw[C6];refine⟨λhe=>?_,λhe=>?_⟩;.rw[ha,Ad (by exact he)]
    .rw[Ac (by simp[Is,he])] at ha;exact A6.next (n+1) rfl ⟨ha,rfl⟩ Ab
  .have i1:¬(n:Int)<(l.length:Int):=by omega
   rw[UO HK] at ha;simp only[Ch,i1,AV,AJ,AF,ha]
end
end
section
def T7(F:Aa)(q:Item->Bool):Prop:=∃f caps,F= .func (.func f) [] caps/\f<=99999/\∀(a:Item) (h:Ag),Cm cx f (.agg a.row::caps) h (.bool (q a)) h
section
variable{h:Ag}{p v:Aa}{l:List Item}
def f42{id o:Nat}(hs:JY h id o l)(hb:l.length<=1000000000)(h2:2<=l.length):∃u,Cm cx 73 [Pt id o] h (.agg (GO l).row) (put h id o u)/\CW (l.take (l.length-1)) u:=by obtain⟨v,hc,hv⟩:=(show JY h id o l from hs);obtain⟨u,e,hu⟩:=Bu.Ro hv (k:= .i64) (Ab:l.length-1<=l.length);refine⟨u,?_,hu⟩;have e1:(l.length:Int)-1=((l.length-1:Nat):Int):=Ab;rw[Ak,dY,ŝ];simp only[Ch,Ic,(f104 hs.at).Ah,(f39 hs.at hb).Ah,hc.load,A9,Bu.GF hv,DP (Ab: -9223372036854775808<=(l.length:Int)-1) (Ab:(l.length:Int)-1<9223372036854775808),e1,e,hc.store (Bu.cells hu),(Ab:¬(l.length:Int)<2),AV,AJ,AF]
def f146{id o:Nat}(hs:JY h id o l)(hb:l.length<=1000000000){B A:Aa}{b a:Item->Bool}(hB:T7 B b)(d:T7 A a):
  ∃u,Cm cx 124 [Pt id o,B,A] h (I ((l.length:Int)-((EP b a l).length:Int))) (put h id o u)/\CW (EP b a l) u:=by
 obtain⟨e,i,rfl,ò,rb⟩:=hB;obtain⟨fa,ca,rfl,hfa,ra⟩:=d;have hlt:=hs.lt;have Oq:Ev cx 124 [Pt id o,.func (.func e) [] i,.func (.func fa) [] ca] h λr h'=>r= I ((l.length:Int)-((EP b a l).length:Int))/\∃u,h'=put h id o u/\CW (EP b a l) u:=by
  unfold Ev;rw[zO,È];refine BL (λn:Nat=>[I ((l.length:Int)-(n:Int))]) (λn h1=>n<=l.length/\(∃u,h1=put h id o u/\CW (l.take n) u)/\EP b a l=EP b a (l.take n)) (λn=>n) l.length Au ⟨Af _,by rw[BZ];exact hs.Xk,by rw[BZ]⟩ ?_;rintro n h1 ⟨hn,⟨u,rfl,hu⟩,ha⟩;have KH:JY (put h id o u) id o (l.take n):= .od hlt hu;have Z4:(l.take n).length=n:=by rw[Av];omega
  simp only[Ch,↓reduceIte,(f104 KH.at).Ah,Z4];match n,hn,hu,ha,KH,Z4 with
  |0,hn,hu,ha,KH,Z4=>rw[Za (l:=l.take 0) Au] at ha;simp only[Ch,(Ab:¬(1:Int)<((0:Nat):Int)),AV,AJ,AF];exact⟨_,rfl,by rw[ha];rfl,u,rfl,by rw[ha];exact hu⟩
  |1,hn,hu,ha,KH,Z4=>rw[Za (l:=l.take 1) (by rw[Z4];exact Af _)] at ha;simp only[Ch,(Ab:¬(1:Int)<((1:Nat):Int)),AV,AJ,AF];exact⟨_,rfl,by rw[ha,Z4],u,rfl,by rw[ha];exact hu⟩
  |m+2,hn,hu,ha,KH,Z4=>
   have hm:m+1<l.length:=Ab;have e1:((l.length:Int)-((m+2:Nat):Int))+1=(l.length:Int)-((m+1:Nat):Int):=Ab;obtain⟨c,hr,Ow⟩:=f42 KH Ab Ab;rw[TF hm] at hr;have g:(l.take (m+2)).take ((l.take (m+2)).length-1)=l.take (m+1):=by rw[Z4,FZ,Cg Ab];rfl
   rw[g] at Ow;rw[Xg] at hr;have ó:=f39 KH.at Ab;rw[TF hm] at ó;rw[mT hm] at ha;simp only[Ch,↓reduceIte,CM,hfa,ò,(Ab:(1:Int)<((m+2:Nat):Int)),AU,AJ,AF,ó.Ah,(rb _ _).Ah,hr.Ah,(ra _ _).Ah,Xf (Ab: -9223372036854775808<=((l.length:Int)-((m+2:Nat):Int))+1) (Ab:((l.length:Int)-((m+2:Nat):Int))+1<9223372036854775808),e1];rw[C6,C6];refine⟨λMI=>⟨λbO=>?_,λbO=>?_⟩,λMI=>?_⟩
   .have MI:b l[m+1]=false:=by simpa using MI
    rw[Ac (by simp[MI]),Ad bO] at ha;exact⟨_,rfl,by rw[ha,Av,Cg Ab],c,rfl,by rw[ha];exact Ow⟩
   .have MI:b l[m+1]=false:=by simpa using MI
    rw[Ac (by simp[MI]),Ac (by simp[bO])] at ha;exact A6.next (m+1) rfl ⟨Ab,⟨c,rfl,Ow⟩,ha⟩ Ab
   .have MI:b l[m+1]=true:=by simpa using MI
    rw[Ad MI] at ha;exact⟨_,rfl,by rw[ha,Z4],u,rfl,by rw[ha];exact hu⟩
 obtain⟨r,h',hr,rfl,u,rfl,hu⟩:=Oq.ret;exact⟨u,hr,hu⟩
def Mm:T7 (.func (.func 125) [] []) DZ:=⟨_,_,rfl,Be,λa h=>by rw[Ak,zP,É];simp only[Ch,Ic,DZ]⟩
def eK{w:Aa}{ws:List Aq}(hw:Jz ws w)(hn:ws.length<=1000000000):T7 (.func (.func 126) [] [.Cb [w]]) (BF ws):=⟨_,_,rfl,Be,λa h=>by rw[Ak,zQ,Ê];simp only[Ch,Ic,(Zu hw hn a h).Ah]⟩
def XE(s:Aq):T7 (.func (.func 156) [] [.Cb [.str s]]) (Hi s):=⟨_,_,rfl,Be,λa h=>by
 rw[Ak,ae,Ñ];simp only[Ch,Ic,uL,Hi];refine⟨λh1=>by simp[h1],λh1=>?_⟩;rw[C6];refine⟨λh2=>?_,λh2=>?_⟩
 .have h2:a.name∉Iq:=by simpa using h2
  simp[h2]
 .have h2:a.name∈Iq:=by simpa using h2
  have h1:a.AY=1:=by simpa using h1
  simp[h2,h1]⟩
def UU:T7 (.func (.func 174) [] []) Du:=⟨_,_,rfl,Be,λa h=>by
 rw[Ak,ay,Ü];simp only[Ch,Ic,uM,Du];refine⟨λh1=>by simp[h1],λh1=>?_⟩;have h1:a.AY=1:=by simpa using h1
 simp[h1]⟩
def XF(node:Int):T7 (.func (.func 160) [] [.Cb [I node]]) (BJ node):=⟨_,_,rfl,Be,λa h=>by rw[Ak,ah,Ô];simp only[Ch,Ic,BJ]⟩
def ô{id o:Nat}(hs:JY h id o l)(hb:l.length<=1000000000)(s:Aq):
  ∃u,Cm cx 108 [Pt id o,.str s] h (I ((l.length:Int)-((EP (Hi s) DZ l).length:Int))) (put h id o u)/\CW (EP (Hi s) DZ l) u:=by
 obtain⟨u,hr,hu⟩:=f146 hs hb (XE s) Mm;exact⟨u,by rw[Ak,zD,À];simp only[Ch,hr.Ah],hu⟩
def f66{id o:Nat}(hs:JY h id o l)(hb:l.length<=1000000000){w:Aa}{ws:List Aq}(hw:Jz ws w)(hn:ws.length<=1000000000):
  ∃u,Cm cx 75 [Pt id o,w] h (I ((l.length:Int)-((EP DZ (BF ws) l).length:Int))) (put h id o u)/\CW (EP DZ (BF ws) l) u:=by
 obtain⟨u,hr,hu⟩:=f146 hs hb Mm (eK hw hn);exact⟨u,by rw[Ak,qc,t75];simp only[Ch,Jz.cells hw,hr.Ah],hu⟩
def f145{id o:Nat}(hs:JY h id o l)(hb:l.length<=1000000000):
  ∃u,Cm cx 121 [Pt id o] h (I ((l.length:Int)-((EP Du DZ l).length:Int))) (put h id o u)/\CW (EP Du DZ l) u:=by
 obtain⟨u,hr,hu⟩:=f146 hs hb UU Mm;exact⟨u,by rw[Ak,zL,Å];simp only[Ch,hr.Ah],hu⟩
def õ{id o:Nat}(hs:JY h id o l)(hb:l.length<=1000000000)(node:Int):
  ∃u,Cm cx 112 [Pt id o,I node] h (I ((l.length:Int)-((HM node l).length:Int))) (put h id o u)/\CW (HM node l) u:=by
 by_cases If:AM (BJ node) l<0;.obtain⟨u,e,hu⟩:=hs.Xk;refine⟨u,?_,by rw[HM,Ad If];exact hu⟩;rw[HM,Ad If,Int.sub_self,Ak,iL,qg];simp only[Ch,(UT hs.at hb node).Ah,If,AU,AJ,AF];exact e
 .obtain⟨u,hr,hu⟩:=f146 hs hb Mm (XF node);refine⟨u,?_,by rw[HM,Ac If];exact hu⟩;rw[HM,Ac If,Ak,iL,qg];simp only[Ch,(UT hs.at hb node).Ah,If,AV,AJ,AF,hr.Ah]
end
end
section
section
variable{h:Ag}{p v:Aa}{l:List Item}
def f209(hv:CW l v){k:Nat}(hk:k<l.length)(hb:l.length<=1000000000):∃u,Cm cx 204 [v,I (k:Int)] h u h/\CW (Bf l k) u:=by obtain⟨q,e1,h1⟩:=Bu.Ro hv (k:= .i64) (Ab:k<=l.length);obtain⟨m,i,h2⟩:=Bu.Nd h1 (b:=40) (iA (by rw[Av];omega));obtain⟨j,g,d⟩:=Bu.hZ hv (k:= .i64) (Ab:k+1<=l.length);obtain⟨a,e,c⟩:=Bu.yJ h2 d (b:=40) (iA (by rw[Av,AW];omega));refine⟨a,?_,c⟩;rw[Ak,bj,ä];simp only[Ch,e1,i,CQ (Ab:k<9223372036854775807),g,e]
def sr{id o:Nat}(hs:JY h id o l)(hb:l.length<=1000000000)(node:Int):∃u,Cm cx 168 [Pt id o,I node] h (.bool (decide (1<=AM (BJ node) l))) (put h id o u)/\CW (DR node l) u:=by
 by_cases If:AM (BJ node) l<1;.obtain⟨u,e,hu⟩:=hs.Xk;refine⟨u,?_,by rw[DR,Ad If];exact hu⟩;rw[Ak,i5,qw,<-e];simp only[Ch,(UT hs.at hb node).Ah,If,AU,AJ,AF,(Ab:¬1<=AM (BJ node) l),FC]
 .rcases Ds (q:=BJ node) (l:=l) with⟨h1,_⟩|⟨k,hk,h1,_⟩
  .rw[h1] at If;omega
  .obtain⟨v,hc,hv⟩:=(show JY h id o l from hs);obtain⟨u,hr,hu⟩:=f209 (h:=h) hv hk hb;refine⟨u,?_,by rw[DR,Ac If,h1];exact hu⟩;rw[Ak,i5,qw];simp only[Ch,(UT hs.at hb node).Ah,hc.load,A9,h1];rw[h1] at If;simp only[Ch,hr.Ah,A9,hc.store (CW.cells hu),show¬(k:Int)<1 from If,AV,AJ,AF,(Ab:(1:Int)<=(k:Int)),Gp]
def aBX{id o:Nat}(hs:JY h id o l)(hb:l.length<=1000000000)(a:Item)(i:Int):∃u,Cm cx 169 [Pt id o,.agg a.row,I i] h (.tuple []) (put h id o u)/\CW (l.take (Hj i l.length)++a::l.drop (Hj i l.length)) u:=by
 obtain⟨v,hc,hv⟩:=(show JY h id o l from hs);obtain⟨u,hr,hu⟩:=f186 (h:=h) hv a (n:=Hj i l.length) (by unfold Hj;omega) hb;refine⟨u,?_,hu⟩;rw[Ak,ax,Û];have e1:(if(l.length:Int)<(if i<1 then 1 else i) then(l.length:Int) else(if i<1 then 1 else i))=((Hj i l.length:Nat):Int):=by unfold Hj;split<;>split<;>omega
 simp only[Ch,Ic,OQ,Ns,hc.load,A9,Xa,Bu.GF hv,rT,e1,hr.Ah,hc.store (CW.cells hu)]
def aBY(hv:CW l v)(hne:l≠[])(hb:l.length<=1000000000):Cm cx 218 [v] h (.CG h.length 0 l.length 4) (h++[.cells (l.map Item.row).flatten]):=by
 have e1:Ax (.FN false .sl) [v,.slnil]=some (.bool false):=by
  rcases hv with rfl|⟨rfl,hv⟩
  .rfl
  .exact absurd (by simpa using hv) hne
 have c:Ax (.Cd 4) []=some (.sl 4 []):=rfl;have a:=M9 (h:=h) (s:= .sl 4 []) (z:=4) (b:=40) (.inr rfl) hv (by simpa using hne) (by rw[Aw];exact iA Ab);rw[Aw] at a;rw[Ak,bp,ê];simp only[Ch,e1,c,a]
section
variable{id o n z:Nat}{v w:Aa}{X Y:FF}{An:List (List Aa)}
def At.next(ha:At h id o v):(Am.put h id o w++[X])[h.length]?=some X/\At (Am.put h id o w++[X]) id o w/\(Am.put h id o w++[X]).set h.length Y=Am.put h id o w++[Y]:=by have e:=KW (h:=h) (id:=id) (o:=o) (u:=w);refine⟨by rw[<-e];simp,ha.put.J5,?_⟩;rw[CO _ _ Ab,<-e,FD];rfl
def At.jR(ha:At h id o v)(hv:La h v=some (h,v)):Kb h 0 (Pt id o)=some h:=by have e1:=ha.same;obtain⟨cs,hc,e⟩:=ha;simp only[Kb,hc,A9,e,hv,BU];rw[Hr hc] at e1;rw[e1]
def At.jS(ha:At h id o v)(hr:∀r∈An,r.length=z):Kb (Am.put h id o (.CG h.length 0 An.length z)++[.cells An.flatten]) 0 (Pt id o)=some (Am.put h id o (.sl z An)++[.Ec]):=by obtain⟨c1,c2,a⟩:=ha.next (w:= .CG h.length 0 An.length z) (X:= .cells An.flatten) (Y:= .Ec);have f1:=Qo hr c1;rw[a] at f1;have a2:=(ha.next (w:= .CG h.length 0 An.length z) (X:= .Ec) (Y:= .Ec)).2.1;obtain⟨cs,hc,e⟩:=c2;obtain⟨Pd,Jr,c⟩:=a2;simp only[Kb,hc,A9,e,f1,BU,Jr];rw[<-Hr (u:= .sl z An) Jr,Xh ha.put,Xg]
end
def aBZ{id o:Nat}(hs:JY h id o l)(hb:l.length<=1000000000)(node:Int)(a:Item):∃u t,Cm cx 202 [Pt id o,I node,.agg a.row] h (.bool (decide (1<=AM (BJ node) l))) (put h id o u++t)/\CW (Nh node a l) u:=by
 obtain⟨v,hc,hv⟩:=(show JY h id o l from hs);by_cases If:AM (BJ node) l<1;.refine⟨v,[],?_,by rw[Nh,Ad If];exact hv⟩;have c:=hc.jR (Bu.Sn hv);rw[Ak,jK,sa,hc.same,BN];simp only[Ch,Ic,(UT hs.at hb node).Ah,If,AU,AJ,AF,c,(Ab:¬1<=AM (BJ node) l),FC]
 .rcases Ds (q:=BJ node) (l:=l) with⟨h1,_⟩|⟨k,hk,h1,_⟩
  .rw[h1] at If;omega
  .have ţ:¬(k:Int)<1:=by rw[h1] at If;exact If
   have hne:l≠[]:=by intro e;subst e;simp at hk
   have hcl:=aBY (h:=h) hv hne hb;have g:=(hc.J5 (t:=[FF.cells (l.map Item.row).flatten])).store (u:= .CG h.length 0 l.length 4) rfl;rw[Xh hc] at g;obtain⟨r,c2,m⟩:=hc.next (w:= .CG h.length 0 l.length 4) (X:= .cells (l.map Item.row).flatten) (Y:= .cells ((l.map Item.row).set k a.row).flatten);have d:=Rm (z:=4) (z_ l) r (i:=k) (by simpa using hk) (q:=a.row) rfl;rw[m] at d;have j:Ax (.F8 4) [.CG h.length 0 l.length 4,I (k:Int)]=some (Pt h.length (k*4)):=H6 hk;have c:=hc.jS (Y4 (z_ l) (i:=k) (q:=a.row) rfl);rw[Bz,Aw] at c;refine⟨.sl 4 ((l.map Item.row).set k a.row),[.Ec],?_,?_⟩;.rw[Ak,jK,sa];simp only[Ch,Ic,(UT hs.at hb node).Ah,h1,ţ,AV,AJ,AF,hc.load,A9,hcl.Ah,g,c2.load,j,d,c,(Ab:(1:Int)<=(k:Int)),Gp]
   .rw[Nh,Ac If,h1,Bw,CW,Hw];exact .mk
end
end
section
section
variable{h:Ag}{p v w:Aa}{l:List Item}{ws:List Aq}
end
end
section
section
variable{e:CJ}{d:Aa}
end
section
variable{h:Ag}{v:Aa}{l:List CJ}{id o:Nat}
def f99(hc:At h id o v)(hv:Ef l v)(hb:l.length<=1000000000):Cm cx 123 [Pt id o] h (I (since l)) h:=by
 have hv:Bu 3 (l.map CJ.row) v:=hv;rw[Ak,zN,Ç];simp only[Ch,hc.load,A9,hv.GF];refine BL (λn:Nat=>[I (n:Int)]) (λn h1=>n<=l.length/\since l=since (l.take n)/\h1=h) (λn=>n) l.length rfl ⟨Af _,by rw[BZ],rfl⟩ ?_;rintro n h1 ⟨hn,ha,rfl⟩;cases n with
 |zero=>simp only[Ch,(Ab:¬(0:Int)<((0:Nat):Int)),AV,AJ,AF,ha,mU];rfl
 |succ n=>rw[cV hn] at ha;simp only[Ch,(Ab:(0:Int)<((n+1:Nat):Int)),AU,AJ,AF,hc.load,A9,M8 (Ab:0<n+1) (Ab:n+1<9223372036854775807),XU,hv.Dl (show n<l.length from hn),CJ.zw];refine⟨λh0=>A6.next n rfl ⟨Ab,by rw[ha,Ac h0],rfl⟩ Ab,λh0=>?_⟩;rw[Ad (by simpa using h0)] at ha;rw[ha];rfl
def aB0(hc:At h id o v)(hv:Ef l v)(hb:l.length<=1000000000)(name:Aq):Cm cx 162 [Pt id o,.str name] h (I (N8 name l)) h:=by
 have hv:Bu 3 (l.map CJ.row) v:=hv;rw[Ak,aj,Õ];simp only[Ch,Gn,hc.load,A9,hv.GF,DP (Ab: -9223372036854775808<=(l.length:Int)-1) (Ab:(l.length:Int)-1<9223372036854775808)];refine BL (λn:Nat=>[I 0,I ((n:Int)-1)]) (λn h1=>n<=l.length/\N8 name l=N8 name (l.take n)/\h1=h) (λn=>n) l.length rfl ⟨Af _,by rw[BZ],rfl⟩ ?_;rintro n h1 ⟨hn,ha,rfl⟩;cases n with
 |zero=>have i1:¬(0:Int)<=((0:Nat):Int)-1:=Ab;rw[ha];simp only[Ch,i1,AV,AJ,AF,mV]
 |succ n=>
  have a:((n+1:Nat):Int)-1=(n:Int):=Ab;rw[cW hn] at ha;simp only[Ch,a,(Ab:(0:Int)<=(n:Int)),AU,AJ,AF,hc.load,A9,hv.Dl (show n<l.length from hn),CJ.zw,CJ.rZ,DP (Ab: -9223372036854775808<=(n:Int)-1) (Ab:(n:Int)-1<9223372036854775808)];refine⟨λh0=>⟨λh1=>?_,λh1=>?_⟩,λh0=>?_⟩;.rw[ha,Ac h0,Ad h1]
  .exact A6.next n rfl ⟨Ab,by rw[ha,Ac h0,Ac h1],rfl⟩ Ab
  .rw[ha,Ad (by simpa using h0)]
def f41(hc:At h id o v)(hv:Ef l v)(hb:l.length<=1000000000)(node:Int):Cm cx 114 [Pt id o,I node] h (I (IU node l)) h:=by
 have hv:Bu 3 (l.map CJ.row) v:=hv;rw[Ak,zH,Â];simp only[Ch,Gn,hc.load,A9,hv.GF,DP (Ab: -9223372036854775808<=(l.length:Int)-1) (Ab:(l.length:Int)-1<9223372036854775808)];refine⟨λh0=>by rw[IU,Ad h0],λh0=>?_⟩;rw[IU,Ac h0];refine BL (λn:Nat=>[I 0,I ((n:Int)-1)]) (λn h1=>n<=l.length/\AM (Qs node) l=AM (Qs node) (l.take n)/\h1=h) (λn=>n) l.length rfl ⟨Af _,by rw[BZ],rfl⟩ ?_;rintro n h1 ⟨hn,ha,rfl⟩;cases n with
 |zero=>have i1:¬(0:Int)<=((0:Nat):Int)-1:=Ab;rw[ha];simp only[Ch,i1,AV,AJ,AF,Nf]
 |succ n=>
  have a:((n+1:Nat):Int)-1=(n:Int):=Ab;rw[Me hn] at ha;simp only[Ch,a,(Ab:(0:Int)<=(n:Int)),AU,AJ,AF,hc.load,A9,hv.Dl (show n<l.length from hn),CJ.zw,DP (Ab: -9223372036854775808<=(n:Int)-1) (Ab:(n:Int)-1<9223372036854775808)];refine⟨λh1=>?_,λh1=>?_⟩;.rw[ha,Ad (by simpa[Qs] using h1)]
  .exact A6.next n rfl ⟨Ab,by rw[ha,Ac (by simpa[Qs] using h1)],rfl⟩ Ab
end
section
variable{h:Ag}{v:Aa}{l:List AS}
def aB2(hv:Cl l v)(hb:l.length<=1000000000)(x:AS):Cm cx 214 [v,.agg x.row] h (I (B5 (λa=>decide (x=a)) 0 l)) h:=by
 have hv:Bu 3 (l.map AS.row) v:=hv;rw[Ak,bl,æ];simp only[Ch,hv.GF,AS.Di,AS.g0,AS.g1,AS.g2,AS.RK];refine BL (λn:Nat=>[I 0,I (n:Int)]) (λn h1=>n<=l.length/\B5 (λa=>decide (x=a)) 0 l=B5 (λa=>decide (x=a)) n (l.drop n)/\h1=h) (λn=>l.length-n) 0 rfl ⟨A8 _,rfl,rfl⟩ ?_;rintro n h1 ⟨hn,ha,rfl⟩;rcases BH n l.length with hlt|HK
 .have i1:(n:Int)<(l.length:Int):=by omega
  rw[AE hlt,B5] at ha;simp only[Ch,i1,AU,AJ,AF,hv.Dl hlt,AS.Di,AS.Jj,Af,sC,Bool.bne_false,CQ (Ab:n<9223372036854775807)];refine⟨λh0=>?_,λh0=>?_⟩;.rw[ha,Ad (by simpa using h0)]
  .exact A6.next (n+1) rfl ⟨hlt,by rw[ha,Ac (by simpa using h0)],rfl⟩ Ab
 .have i1:¬(n:Int)<(l.length:Int):=by omega
  rw[Bc HK,B5] at ha;simp only[Ch,i1,AV,AJ,AF,ha]
def aB3(hv:Cl l v)(hb:l.length<=1000000000)(x:AS):Cm cx 197 [v,.agg x.row] h (.bool (decide (x∈l))) h:=by
 rw[Ak,bc,à];simp only[Ch,AS.Di,AS.g0,AS.g1,AS.g2,AS.RK,(aB2 hv hb x).Ah];rcases Ga (p:=λa=>decide (x=a)) (l:=l) (k:=0) with⟨h1,h2⟩|⟨n,a,h1,h2,b⟩
 .rw[h1];have:x∉l:=λhm=>by have:=JJ.1 h2 x hm;simp at this
  simp[this]
 .have hm:=B6 h2;have he:x=a:=by simpa using Rv b
  have hx:x∈l:=by rw[he];exact hm
  rw[h1];simp[hx]
def Zv(F:Aa)(h:Ag)(q:AS->Bool):Prop:=∃f caps,F= .func (.func f) [] caps/\f<=99999/\∀a:AS,Cm cx f (.agg a.row::caps) h (.bool (q a)) h
def ö{F:Aa}{q:AS->Bool}(hv:Cl l v)(hb:l.length<=1000000000)(hF:Zv F h q):Cm cx 135 [v,F] h (I (B5 q 0 l)) h:=by
 have hv:Bu 3 (l.map AS.row) v:=hv;obtain⟨f,caps,rfl,hf,hr⟩:=hF;rw[Ak,Sf,uE];simp only[Ch,hv.GF];refine BL (λn:Nat=>[I 0,I (n:Int)]) (λn h1=>n<=l.length/\B5 q 0 l=B5 q n (l.drop n)/\h1=h) (λn=>l.length-n) 0 rfl ⟨A8 _,rfl,rfl⟩ ?_;rintro n h1 ⟨vr,ha,rfl⟩;rcases BH n l.length with hlt|HK
 .have i1:(n:Int)<(l.length:Int):=by omega
  rw[AE hlt,B5] at ha;simp only[Ch,↓reduceIte,CM,hf,i1,AU,AJ,AF,hv.Dl hlt,AS.Di,AS.Jj,Af,(hr l[n]).Ah];rw[C6];refine⟨λhe=>?_,λhe=>?_⟩;.rw[ha,Ad he]
  .rw[Ac (by simp[he])] at ha;simp only[Ch,CQ (Ab:n<9223372036854775807)];exact A6.next (n+1) rfl ⟨hlt,ha,rfl⟩ Ab
 .have i1:¬(n:Int)<(l.length:Int):=by omega
  rw[Bc HK,B5] at ha;simp only[Ch,↓reduceIte,CM,hf,i1,AV,AJ,AF,ha]
def ø{F:Aa}{q:AS->Bool}(hv:Cl l v)(hb:l.length<=1000000000)(hF:Zv F h q):Cm cx 117 [v,F] h (.bool (l.any q)) h:=by
 rw[Ak,Xx,zI];simp only[Ch,(ö hv hb hF).Ah];have:l.any q=(l.find? q).isSome:=by rw[oK,List.find?_isSome,fM]
 rw[this];rcases Ga (p:=q) (l:=l) (k:=0) with⟨h1,h2⟩|⟨n,a,h1,h2,b⟩
 .rw[h1,h2];simp
 .rw[h1,b];simp
def f191(hv:Cl l v)(hb:l.length<=1000000000)(x:AS):Cm cx 196 [.agg x.row,.Cb [v]] h (.bool (!decide (x∈l))) h:=by rw[Ak,bb,ß];simp only[Ch,AS.Di,AS.g0,AS.g1,AS.g2,AS.RK,(aB3 hv hb x).Ah]
def f190{l2:List AS}{w:Aa}(hv:Cl l v)(hb:l.length<=1000000000)(hw:Cl l2 w)(M4:l2.length<=1000000000):Cm cx 195 [v,w] h (.bool (decide (∀x∈l,x∈l2))) h:=by
 have hF:Zv (.func (.func 196) [] [.Cb [w]]) h λx=> !decide (x∈l2):=⟨196,_,rfl,Be,λa=>f191 hw M4 a⟩;have e:(!l.any λx=> !decide (x∈l2))=decide (∀x∈l,x∈l2):=by rw[oK];simp
 rw[Ak,a_,Þ,<-e];simp only[Ch,Bu.cells hw,(ø hv hb hF).Ah]
def aB4{a b:CJ}(ha:oX a)(hb:oX b):Cm cx 151 [.agg a.row,.agg b.row] h (.bool (JA a.c b.c)) h:=by
 have g:=f190 (h:=h) a.ok ha b.ok hb;have r2:=f190 (h:=h) b.ok hb a.ok ha;rw[Ak,zW,Ì];simp only[Ch,Nat.reduceLeDiff,↓reduceIte,CM,BN,CJ.Di,CJ.g1,CJ.g2,CJ.aA8,g.Ah,r2.Ah];refine⟨λh1=>⟨λh2=>⟨λf=>?_,λf=>?_⟩,λh2=>?_⟩,λh1=>?_⟩
 .have X1:a.c.AB.length=b.c.AB.length:=by omega
  simp only[JA,h1,X1,PV];congr 3
  rw[eq_iff_iff];exact⟨λh=>⟨f,h⟩,λh=>h.2⟩
 .simp[JA,f]
 .have X1:¬a.c.AB.length=b.c.AB.length:=by omega
  simp[JA,X1]
 .simp[JA,h1]
end
end
section
def Dk{Q:IA}{h:Ag}{a:Aa}{k:IT}:W cx (.same a a k) Q h↔W cx k Q h:=by refine⟨λhw=>?_,ju (Aa.Ps a)⟩;obtain⟨m,x',Gu,h',hr,q⟩:=hw.succ;simp only[IT.step,Aa.Ps,BB] at hr;exact Cw ⟨m,x',Gu,h',hr,q⟩
section
variable{h:Ag}{v:Aa}{l:List CJ}{id o:Nat}
def f45{l:List AS}(hv:Cl l v)(hb:l.length<=1000000000):∃u,Cm cx 27 [v] h u h/\Cl l u:=by
 have hv:Bu 3 (l.map AS.row) v:=hv;rcases hv with rfl|⟨rfl,hn⟩
 .refine⟨.sl 3 (l.map AS.row),?_,.mk⟩;have e1:Ax (.FN false .sl) [.sl 3 (l.map AS.row),.slnil]=some (.bool false):=rfl;have c:Ax (.Cd 3) []=some (.sl 3 []):=rfl;have b:NX h 3 40 (.sl 3 []) (.sl 3 (l.map AS.row))=some (.sl 3 (l.map AS.row)):=by
   simp only[NX,Gt,BB,BU];cases l with
   |nil=>rfl
   |cons a l=>have:(l.length+1)*40<=AO:=iA (by simp at hb;omega);simp[CP,this]
  rw[Ak,tD,t27];simp only[Ch,e1,c,b]
 .refine⟨.slnil,?_,?_⟩;.have e1:Ax (.FN false .sl) [.slnil,.slnil]=some (.bool true):=rfl;rw[Ak,tD,t27];simp only[Ch,e1]
  .exact .inr ⟨rfl,hn⟩
def uN{e:CJ}(he:oX e):∃a:CJ,a.c=e.c/\Cm cx 153 [.agg e.row] h (.agg a.row) h:=by obtain⟨u,r,hu⟩:=f45 (h:=h) e.ok he;refine⟨⟨e.c,u,hu⟩,rfl,?_⟩;rw[Ak,zY,Î];simp only[Ch,CJ.Di,CJ.g0,CJ.g1,CJ.g2,r.Ah,Bu.cells hu];rfl
def f101(hv:Ef l v){k:Nat}(hk:k<l.length)(hb:l.length<=1000000000):∃u,Cm cx 152 [v,I (k:Int)] h u h/\Ef (Bf l k) u:=by obtain⟨q,e1,h1⟩:=Bu.Ro hv (k:= .i64) (Ab:k<=l.length);obtain⟨p,j,h2⟩:=Bu.Nd h1 (b:=48) (VT (by rw[Av];omega));obtain⟨m,i,f⟩:=Bu.hZ hv (k:= .i64) (Ab:k+1<=l.length);obtain⟨a,g,c⟩:=Bu.yJ h2 f (b:=48) (VT (by rw[Av,AW];omega));refine⟨a,?_,c⟩;rw[Ak,zX,Í];simp only[Ch,e1,j,CQ (Ab:k<9223372036854775807),i,g]
def f102(hv:Ef l v)(e:CJ){k:Nat}(hk:k<=l.length)(hb:l.length<=1000000000):∃u,Cm cx 122 [v,.agg e.row,I (k:Int)] h u h/\Ef (l.take k++e::l.drop k) u:=by obtain⟨w,e1,h1⟩:=Bu.Ro hv (k:= .i64) hk;obtain⟨t,q,h2⟩:=Bu.Nd h1 (b:=48) (VT (by rw[Av];omega));have p:=Bu.Y8 (a:=e) h2 (b:=48) (VT (by rw[Av];omega));obtain⟨r,m,i⟩:=Bu.hZ hv (k:= .i64) hk;obtain⟨g,j,c⟩:=Bu.yJ (f:=CJ.row) (l:=l.take k++[e]) .mk i (b:=48) (VT (by rw[Ao,Av,AW,BT];omega));refine⟨g,?_,by rw[AI] at c;exact c⟩;rw[Ak,zM,Æ];simp only[Ch,CJ.Di,CJ.g0,CJ.g1,CJ.g2,CJ.RK,e1,q,mW CJ.Di,p,m,j]
def su(hv:Ef l v)(hne:l≠[])(hb:l.length<=1000000000):Cm cx 110 [v] h (.CG h.length 0 l.length 3) (h++[.cells (l.map CJ.row).flatten]):=by
 have e1:Ax (.FN false .sl) [v,.slnil]=some (.bool false):=by
  rcases hv with rfl|⟨rfl,hv⟩
  .rfl
  .exact absurd (by simpa using hv) hne
 have c:Ax (.Cd 3) []=some (.sl 3 []):=rfl;have a:=M9 (h:=h) (s:= .sl 3 []) (z:=3) (b:=48) (.inr rfl) hv (by simpa using hne) (by rw[Aw];exact VT Ab);rw[Aw] at a;rw[Ak,Xw,zF];simp only[Ch,e1,c,a]
def f63(hs:Qt h id o l)(hb:l.length<=1000000000):∃u,Cm cx 71 [Pt id o] h (.tuple []) (put h id o u)/\Ef (l++[Xn]) u:=by obtain⟨v,hc,hv⟩:=(show Qt h id o l from hs);obtain⟨u,hr,hu⟩:=f102 (h:=h) hv Xn (Af l.length) hb;rw[BZ,Ha] at hu;refine⟨u,?_,hu⟩;rw[Ak,p_,t71];simp only[Ch,↓reduceIte,Bt,OQ,Ns,hc.load,A9,Bu.GF hv,sD,hr.Ah,hc.store (Ef.cells hu)]
def aB5(hs:Qt h id o l)(hb:l.length<=1000000000){e:CJ}(he:oX e)(i:Int):∃u a,a.c=e.c/\Cm cx 167 [Pt id o,.agg e.row,I i] h (.tuple []) (put h id o u)/\Ef (l.take (Ft i l.length)++a::l.drop (Ft i l.length)) u:=by
 obtain⟨v,hc,hv⟩:=(show Qt h id o l from hs);obtain⟨a,YE,b⟩:=uN (h:=h) he;obtain⟨u,hr,hu⟩:=f102 (h:=h) hv a (k:=Ft i l.length) (by unfold Ft;omega) hb;refine⟨u,a,YE,?_,hu⟩;have e1:(if(l.length:Int)<(if i<0 then 0 else i) then(l.length:Int) else(if i<0 then 0 else i))=((Ft i l.length:Nat):Int):=by unfold Ft;split<;>split<;>omega
 rw[Ak,aw,Ú];simp only[Ch,CJ.Di,CJ.g0,CJ.g1,CJ.g2,CJ.RK,OQ,Ns,hc.load,A9,Xa,Bu.GF hv,rT,e1,b.Ah,Dk,hr.Ah,hc.store (Ef.cells hu)]
def f65(hs:Qt h id o l)(hb:l.length<=1000000000):∃u,Cm cx 74 [Pt id o] h (I ((l.length:Int)-((Gl l:Nat):Int))) (put h id o u)/\Ef (l.take (Gl l)) u:=by
 obtain⟨v,hc,hv⟩:=(show Qt h id o l from hs);obtain⟨s,es,KH,_⟩:=OC l;have hcl:Gl l<=l.length:=by unfold Gl;omega
 obtain⟨u,e1,hu⟩:=Bu.Ro hv (k:= .i64) hcl;refine⟨u,?_,hu⟩;have a:(if since l-1<0 then 0 else since l-1)=((Gl l:Nat):Int):=by unfold Gl;split<;>omega
 have Z4:(l.take (Gl l)).length=Gl l:=by rw[Av];omega
 have c2:At (put h id o u) id o u:=hc.put;rw[Ak,qb,t74];simp only[Ch,Gn,hc.load,A9,Bu.GF hv,(f99 hc hv hb).Ah,Dk,DP (Ab: -9223372036854775808<=since l-1) (Ab:since l-1<9223372036854775808),Xa,a,e1,hc.store (Bu.cells hu),c2.load,Bu.GF hu,Z4,DP (Ab: -9223372036854775808<=(l.length:Int)-((Gl l:Nat):Int)) (Ab:(l.length:Int)-((Gl l:Nat):Int)<9223372036854775808)]
end
end
section
section
variable{e:Cp}{l:List CJ}{n s:Nat}
end
section
variable{h:Ag}{v:Aa}{l:List CJ}{id o:Nat}
set_option maxHeartbeats 1000000 in
def f30(hs:Qt h id o l)(hb:l.length<=900000000)(hl:∀x∈l,oX x){e:CJ}(he:oX e):∃u a,a.c=e.c/\Cm cx 105 [Pt id o,.agg e.row] h (.tuple []) (put h id o u)/\Ef (OE e.c l++[a]) u:=by
 obtain⟨v,hc,hv⟩:=(show Qt h id o l from hs);have Gv:Bu 3 (l.map CJ.row) v:=hv;have Hm:=hs.lt;obtain⟨s,es,KH,q,_⟩:=OC l;have Oq:Ev cx 105 [Pt id o,.agg e.row] h λr h'=>r= .tuple []/\∃(a:CJ) (u:Aa),a.c=e.c/\h'=put h id o u/\Ef (OE e.c l++[a]) u:=by
  unfold Ev;rw[zA,X_];by_cases h0:e.c.node=0;.obtain⟨a,YE,b⟩:=uN (h:=h) he;obtain⟨u,r2,hu⟩:=f102 (h:=h) hv a (Af l.length) Ab;rw[BZ,Ha] at hu;simp only[Ch,CJ.Di,CJ.g0,CJ.g1,CJ.g2,Gn,h0,CF,AU,AF,AJ,AV,hc.load,A9,Gv.GF];rw[<-h0,CJ.RK];simp only[Ch,b.Ah,Dk,hc.load,A9,r2.Ah,hc.store (Ef.cells hu)];refine⟨_,rfl,rfl,a,u,YE,rfl,?_⟩;rw[OE,Ac (λh=>h.1 h0)];exact hu
  .simp only[Ch,CJ.Di,CJ.g0,CJ.g1,CJ.g2,CJ.RK,Gn,h0,CF,AU,AF,AJ,AV,hc.load,A9,Gv.GF,DP (Ab: -9223372036854775808<=(l.length:Int)-1) (Ab:(l.length:Int)-1<9223372036854775808)];refine BL (λp:Int×Nat×Nat=>[I p.1,I (p.2.1:Int),I ((p.2.2:Int)-1)])
    (λp h1=>s<=p.2.2/\p.2.2<=l.length/\p.2.1+p.2.2<=l.length/\UP e.c l=p.2.1+UP e.c (l.take p.2.2)/\(OD e.c l=if 0<=OD e.c (l.take p.2.2) then OD e.c (l.take p.2.2) else if p.2.1=0 then -1 else p.1)/\(p.2.1=0\/∃k:Nat,k<l.length/\p.1=(k:Int))/\h1=h)
    (λp=>p.2.2) (0,0,l.length) rfl ⟨KH,Af _,Au,Au,by
     rw[BZ];have:∀l:List CJ,-1<=cX e.c l:=by
      intro l;induction l with
      |nil=>exact LS _
      |cons x t ih=>rw[cX];split<;>(try split)<;>(try split)<;>omega
     have:=this l.reverse;simp only[BB];unfold OD;split<;>omega,.inl rfl,rfl⟩ ?_
   rintro⟨A,f,n⟩ h1 ⟨a1,a2,a3,a4,a5,a6,rfl⟩;simp only at a1 a2 a3 a4 a5 a6;have j:=f99 hc hv Ab;rw[es] at j;rcases BH s n with hlt|HK
   .obtain⟨n,rfl⟩:∃m,n=m+1:=⟨n-1,Ab⟩;have z:((n+1:Nat):Int)-1=(n:Int):=Ab;have hn:n<l.length:=a2;have g:=q n hn Ab;rw[VU hn,Ac g] at a4;rw[VV hn,Ac g] at a5;have b:=aB4 (h:=h1) (hl _ (AX hn)) he;simp only[Ch,z,j.Ah,(Ab:(s:Int)<=(n:Int)),AU,AF,AJ,hc.load,A9,Gv.Dl hn,CJ.Di,CJ.Jj,Af,b.Ah,CQ (Ab:f<9223372036854775807),DP (Ab: -9223372036854775808<=(n:Int)-1) (Ab:(n:Int)-1<9223372036854775808)];rw[C6];refine⟨λh2=>?_,λh2=>?_⟩
    .rw[Ad h2] at a4 a5;refine A6.next ((n:Int),f+1,n) rfl ⟨GU,GU,GU,GU,?_,.inr ⟨n,hn,rfl⟩,rfl⟩ GU;simp only
     rw[a5];by_cases hf:0<=OD e.c (l.take n);.simp[hf]
     .simp[hf,(Ab:(0:Int)<=(n:Int))]
    .rw[Ac (by simp[h2])] at a4;rw[Ac (show¬JA l[n].c e.c=true by simp[h2])] at a5;refine A6.next (A,f,n) rfl ⟨GU,GU,GU,GU,?_,a6,rfl⟩ GU;simp only
     rw[a5];by_cases hf:0<=OD e.c (l.take n);.simp[hf]
     .simp[hf]
   .obtain rfl:n=s:=by omega
    obtain⟨b1,b2⟩:=cY (e:=e.c) es;rw[b1,A9] at a4;rw[b2,Ac Be] at a5;simp only[Ch,j.Ah,(Ab:¬(n:Int)<=(n:Int)-1),AF,AJ,AV];by_cases B:3<=f
    .rcases a6 with a6|⟨k,hk,rfl⟩
     .omega
     rw[Ac Ab] at a5;obtain⟨i,b,Wy⟩:=f101 (h:=h1) hv hk Ab;have RJ:(Bf l k).length<=l.length:=by unfold Bf;rw[Ao,Av,AW];omega
     have c1:At (put h1 id o i) id o i:=hc.put;obtain⟨a,YE,r2⟩:=uN (h:=put h1 id o i) he;obtain⟨w,y,Ow⟩:=f102 (h:=put h1 id o i) Wy a (Af (Bf l k).length) Ab;rw[BZ,Ha] at Ow;simp only[Ch,(Ab:(3:Int)<=(f:Int)),AU,AF,AJ,hc.load,A9,b.Ah,hc.store (Ef.cells Wy),c1.load,Bu.GF Wy,r2.Ah,Dk,y.Ah,c1.store (Ef.cells Ow),Xg];refine⟨_,rfl,rfl,a,w,YE,rfl,?_⟩;rw[OE,Ad ⟨h0,Ab⟩,a5,Bw];exact Ow
    .obtain⟨a,YE,b⟩:=uN (h:=h1) he;obtain⟨u,r2,hu⟩:=f102 (h:=h1) hv a (Af l.length) Ab;rw[BZ,Ha] at hu;simp only[Ch,(Ab:¬(3:Int)<=(f:Int)),AF,AJ,AV,hc.load,A9,Gv.GF,b.Ah,Dk,r2.Ah,hc.store (Ef.cells hu)];refine⟨_,rfl,rfl,a,u,YE,rfl,?_⟩;rw[OE,Ac Ab];exact hu
 obtain⟨r,h',hr,rfl,a,u,YE,rfl,hu⟩:=Oq.ret;exact⟨u,a,YE,hr,hu⟩
end
end
section
section
variable{h:Ag}{v:Aa}{l:List CJ}{id o:Nat}
def f208(hs:Qt h id o l)(hb:l.length<=900000000)(node:Int){e:CJ}(he:oX e):∃u t a,a.c=e.c/\Cm cx 203 [Pt id o,I node,.agg e.row] h (.bool (decide (0<=IU node l))) (put h id o u++t)/\Ef (if IU node l<0 then l else l.set (IU node l).toNat a) u:=by
 obtain⟨v,hc,hv⟩:=(show Qt h id o l from hs);rcases Zb node l with h1|⟨k,hk,h1⟩
 .refine⟨v,[],e,rfl,?_,by rw[h1];exact hv⟩;have b:=hc.jR (Bu.Sn hv);rw[Ak,jL,sc,hc.same,BN];simp only[Ch,CJ.Di,(f41 hc hv Ab node).Ah,h1,(Be:(-1:Int)<0),AU,AJ,AF,b];rfl
 .have hne:l≠[]:=by intro e;subst e;simp at hk
  have hcl:=su (h:=h) hv hne Ab;have g:=(hc.J5 (t:=[FF.cells (l.map CJ.row).flatten])).store (u:= .CG h.length 0 l.length 3) rfl;rw[Xh hc] at g;obtain⟨a,YE,j⟩:=uN (h:=put h id o (.CG h.length 0 l.length 3)++[FF.cells (l.map CJ.row).flatten]) he;obtain⟨r,c2,p⟩:=hc.next (w:= .CG h.length 0 l.length 3) (X:= .cells (l.map CJ.row).flatten) (Y:= .cells ((l.map CJ.row).set k a.row).flatten);have f:=Rm (z:=3) (Xm l) r (i:=k) (by simpa using hk) (q:=a.row) rfl;rw[p] at f;have m:Ax (.F8 3) [.CG h.length 0 l.length 3,I (k:Int)]=some (Pt h.length (k*3)):=H6 hk;have b:=hc.jS (Y4 (Xm l) (i:=k) (q:=a.row) rfl);rw[Bz,Aw] at b;refine⟨.sl 3 ((l.map CJ.row).set k a.row),[.Ec],a,YE,?_,?_⟩;.rw[Ak,jL,sc];simp only[Ch,CJ.Di,CJ.g0,CJ.g1,CJ.g2,CJ.RK,(f41 hc hv Ab node).Ah,h1,(Ab:¬(k:Int)<0),AV,AJ,AF,hc.load,A9,hcl.Ah,g,c2.load,j.Ah,Dk,m,f,b,(Ab:(0:Int)<=(k:Int)),Gp]
  .rw[h1,Ac Ab,Bw,<-Hw];exact .mk
end
end
def RP:List AS->Aa
 |[]=> .slnil
 |x::l=> .sl 3 ((x::l).map AS.row)
def Sj{l:List AS}:Cl l (RP l):=by cases l;exact .inr ⟨rfl,rfl⟩;exact .inl rfl
def nN{l:List AS}{x:AS}:RP (l++[x])= .sl 3 ((l++[x]).map AS.row):=by cases l<;>rfl
structure PN where
 x:DB
 kv:Aa
 av:Aa
 ok:av=RP x.AB
def PN.row(p:PN):List Aa:=[I p.x.kind,I p.x.ER,p.kv,I p.x.CD,I p.x.AY,.str p.x.name,p.av,.str p.x.data,.str p.x.L_,.str p.x.sys,.bool p.x.CB,I p.x.cont,I p.x.D0]
def PN.Di{p:PN}:p.row.length=13:=rfl
def PN.zero:PN:=⟨{},.slnil,.slnil,rfl⟩
def pN(ps:List PN)(x:Int):PN:=ps.getD (x.toNat-1) PN.zero
def Eo(n:Int):List Aa:=[I n]
def Hu(l:List Int)(v:Aa):Prop:=Bu 1 (l.map Eo) v
def Iv(h:Ag)(kv:Aa)(l:List Int):Prop:=(kv= .slnil/\l=[])\/∃id cs,kv= .CG id 0 l.length 1/\h[id]?=some (.cells (l.map (Aa.int .i64)++cs))
def Gd:Aa->Option Nat
 | .CG id _ _ _=>some id
 |_=>none
def jT(l:List (Int×Int)):Prop:=(l.map (·.1)).Nodup/\∀p∈l,lZ p.1=true/\lZ p.2=true
def T8(h:Ag)(m:Option Nat)(f:Int->Int):Prop:=(m=none/\∀k,f k=0)\/∃(id:Nat) (l:List (Int×Int)),m=some id/\h[id]?=some (.map (l.map λx:Int×Int=>(I x.1,I x.2)))/\(∀k,(l.find? λx=>decide (k=x.1)).map (·.2)=if f k=0 then none else some (f k))/\jT l
def Eh(a n:Nat)(m:Option Nat)(ps:List PN):List Nat:=a::n::(m.toList++ps.filterMap λp=>Gd p.kv)
structure PA(h:Ag)(a n:Nat)(m:Option Nat)(ps:List PN)(A:Ar):Prop where
 e:A.n=ps.map PN.x
 il:A.i.length=A.n.length
 ha:h[a]?=some (.cells [.CG n 0 ps.length 13,.map m])
 hn:h[n]?=some (.cells (ps.map PN.row).flatten)
 ks:∀p∈ps,Iv h p.kv p.x.AP
 nd:(Eh a n m ps).Nodup
 mp:T8 h m A.inr
structure ED(h:Ag)(F:Nat->Prop)(h':Ag)(F':Nat->Prop):Prop where
 len:h.length<=h'.length
 old:∀i,i<h.length->¬F i->h'[i]?=h[i]?
 Bn:∀i,F' i->F i\/h.length<=i
section
variable{h h' h'' t:Ag}{F F' F'':Nat->Prop}
def ED.refl:ED h F h F:=⟨Af _,λ_ _ _=>rfl,λ_ h=> .inl h⟩
def ED.trans(x:ED h F h' F')(y:ED h' F' h'' F''):ED h F h'' F'':=
 ⟨A5 x.len y.len,λi hi hF=>by
  rw[y.old i (Dm hi x.len) (λh=>by rcases x.Bn i h with h|h;exact hF h;omega)];exact x.old i hi hF,λi hi=>by
  rcases y.Bn i hi with h|h
  .exact x.Bn i h
  .exact .inr (A5 x.len h)⟩
def ED.J5:ED h F (h++t) F:=⟨Au,λi hi _=>Ai hi,λ_ h=> .inl h⟩
end
def PW(h:Ag)(F:Nat->Prop)(a:Nat)(A:Ar):Prop:=∃n m ps,PA h a n m ps A/\∀i,F i↔i∈Eh a n m ps
section
variable{h h':Ag}{a n:Nat}{m:Option Nat}{ps:List PN}{A:Ar}{x:Int}{F:Nat->Prop}
def Iv.DH{kv:Aa}{l:List Int}(hk:Iv h kv l)(hf:∀id,Gd kv=some id->h'[id]?=h[id]?):Iv h' kv l:=by
 rcases hk with⟨rfl,rfl⟩|⟨id,cs,rfl,hc⟩
 .exact .inl ⟨rfl,rfl⟩
 .exact .inr ⟨id,cs,rfl,by rw[hf id rfl];exact hc⟩
def T8.DH{f:Int->Int}(hk:T8 h m f)(hf:∀id,m=some id->h'[id]?=h[id]?):T8 h' m f:=by
 rcases hk with h1|⟨id,l,rfl,hc,h2⟩
 .exact .inl h1
 .exact .inr ⟨id,l,rfl,by rw[hf id rfl];exact hc,h2⟩
def Jk{p:PN}{id:Nat}(hp:p∈ps)(hk:Gd p.kv=some id):id∈Eh a n m ps:=by unfold Eh;simp only[Az,Al];exact .inr (.inr (.inr (BR.2 ⟨p,hp,hk⟩)))
def PA.DH(w:PA h a n m ps A)(hf:∀i∈Eh a n m ps,h'[i]?=h[i]?):PA h' a n m ps A:=
 ⟨w.e,w.il,by rw[hf a (by simp[Eh])];exact w.ha,by rw[hf n (by simp[Eh])];exact w.hn,λp hp=>(w.ks p hp).DH λid hk=>hf id (Jk hp hk),w.nd,w.mp.DH λid hm=>hf id (by simp[Eh,hm])⟩
def PA.lt(w:PA h a n m ps A):∀i∈Eh a n m ps,i<h.length:=by
 intro i hi;unfold Eh at hi;simp only[Az,Al,BR] at hi;rcases hi with rfl|rfl|hi|⟨p,hp,hk⟩
 .exact(Ae.1 w.ha).1
 .exact(Ae.1 w.hn).1
 .rcases w.mp with⟨rfl,_⟩|⟨id,l,rfl,hc,_⟩
  .simp at hi
  .simp at hi;subst hi;exact(Ae.1 hc).1
 .rcases w.ks p hp with⟨e,_⟩|⟨id,cs,e,hc⟩
  .rw[e] at hk;cases hk
  .rw[e] at hk;cases hk;exact(Ae.1 hc).1
def PW.DH(w:PW h F a A)(hf:∀i,F i->h'[i]?=h[i]?):PW h' F a A:=by obtain⟨n,m,ps,w,e⟩:=w;exact⟨n,m,ps,w.DH λi hi=>hf i ((e i).2 hi),e⟩
def PW.lt(w:PW h F a A){i:Nat}(hi:F i):i<h.length:=by obtain⟨n,m,ps,w,e⟩:=w;exact w.lt i ((e i).1 hi)
def PA.eL(w:PA h a n m ps A):A.n.length=ps.length:=by rw[w.e,Aw]
def PA.at(w:PA h a n m ps A)(hx:A.has x):x.toNat-1<ps.length/\((x.toNat-1:Nat):Int)=x-1:=by have:=w.eL;unfold Ar.has at hx;omega
def PA.pn(w:PA h a n m ps A)(hx:A.has x):ps[x.toNat-1]?=some (pN ps x)/\(pN ps x).x=A.nd x/\pN ps x∈ps:=by
 have h1:=(w.at hx).1;have h2:ps[x.toNat-1]?=some ps[x.toNat-1]:=Ap h1;have b:pN ps x=ps[x.toNat-1]:=by unfold pN;rw[AG,h2];rfl
 refine⟨by rw[b];exact h2,?_,by rw[b];exact AX _⟩;unfold Ar.nd;rw[Ad hx,w.e,b,AG,CT,h2];rfl
def T9{An:List (List Aa)}{z i k:Nat}(hr:∀r∈An,r.length=z)(hk:k<z){r:List Aa}(hi:An[i]?=some r):An.flatten[i*z+k]?=r[k]?:=by
 have h1:(An.flatten.drop (i*z))[k]?=r[k]?:=by rw[He hr];obtain⟨hlt,e⟩:=Ae.1 hi;rw[AE hlt,e,Cs,Ai (by rw[hr r (e▸AX hlt)];exact hk)]
 rwa [Cc] at h1
def Zw(l:List PN):∀r∈l.map PN.row,r.length=13:=Po (f:=PN.row) (λ_=>PN.Di) l
def nP(n:Nat)(x:Int):Nat:=(x.toNat-1)*13
def PA.E4(w:PA h a n m ps A)(hx:A.has x){k:Nat}(hk:k<13):BE h none (Pt n (nP n x+k))=(pN ps x).row[k]?:=by unfold nP;simp only[BE,w.hn,Ji];exact T9 (Zw ps) hk (by rw[CT,(w.pn hx).1];rfl)
def RQ(w:PA h a n m ps A):Cm cx 56 [Pt a 0,I x] h (.bool (decide (A.has x))) h:=by
 have e1:BE h none (Pt a 0)=some (.CG n 0 ps.length 13):=by simp only[BE,w.ha];rfl
 have c:Ax (.len false) [.CG n 0 ps.length 13]=some (I (ps.length:Int)):=rfl;rw[Ak,tO,t56];simp only[abS,e1,c];have hl:=w.eL;have b:A.has x↔1<=x/\x<=(ps.length:Int):=by unfold Ar.has;rw[hl]
 refine⟨λh1=>?_,λh1=>?_⟩;.congr 2;rw[Eb,b];exact⟨λh=>⟨h1,h⟩,λh=>h.2⟩
 .rw[Bk (λh=>h1 (b.1 h).1)]
def PA.nodes(w:PA h a n m ps A):BE h none (Pt a 0)=some (.CG n 0 ps.length 13):=by simp only[BE,w.ha];rfl
def PA.len(w:PA h a n m ps A):((ps.length:Nat):Int)=A.len:=by unfold Ar.len;rw[w.eL]
def gz(w:PA h a n m ps A){l:List Int}{v:Aa}(hv:Hu l v)(hb:l.length<=1000):Cm cx 54 [Pt a 0,v] h (I (if∀x∈l,A.has x then 0 else 3)) h:=by
 have hv:Bu 1 (l.map Eo) v:=hv;rw[Ak,tN,t54];simp only[abS,hv.GF];refine BL (λk:Nat=>[I 0,I (k:Int)]) (λk h1=>k<=l.length/\(∀x∈l.take k,A.has x)/\h1=h) (λk=>l.length-k) 0 rfl ⟨A8 _,Au,rfl⟩ ?_;rintro k h1 ⟨hk,ha,rfl⟩;rcases BH k l.length with hlt|HK
 .have i1:(k:Int)<(l.length:Int):=by omega
  have e1:BE h1 none (.Cb (Eo l[k]))=some (I l[k]):=rfl;simp only[Ch,cN,i1,hv.Dl hlt,e1,(RQ (x:=l[k]) w).Ah,CQ (Ab:k<9223372036854775807)];rw[C6];refine⟨λh2=>?_,λh2=>?_⟩
  .have h2:¬A.has l[k]:=by simpa using h2
   rw[Ac (λb=>h2 (b _ (AX hlt)))]
  .have h2:A.has l[k]:=by simpa using h2
   refine A6.next (k+1) rfl ⟨hlt,?_,rfl⟩ Ab;intro x hx;rw[AL hlt,Al,D2] at hx;rcases hx with hx|rfl
   .exact ha x hx
   .exact h2
 .have i1:¬(k:Int)<(l.length:Int):=by omega
  rw[AT HK] at ha;simp only[abS,i1,Ad ha]
def QC(w:PA h a n m ps A):Cm cx 54 [Pt a 0,.sl 1 [[I x]]] h (I (if A.has x then 0 else 3)) h:=by have:=gz w (l:=[x]) (v:= .sl 1 [[I x]]) .mk Au;simpa using this
def JF{y:Int}(w:PA h a n m ps A):Cm cx 54 [Pt a 0,.sl 1 [[I x],[I y]]] h (I (if A.has x/\A.has y then 0 else 3)) h:=by have:=gz w (l:=[x,y]) (v:= .sl 1 [[I x],[I y]]) .mk Au;simpa using this
def FY{x:Int}:Ax (.Cd 1) [I x]=some (.sl 1 [[I x]]):=rfl
def EA{x y:Int}:Ax (.Cd 1) [I x,I y]=some (.sl 1 [[I x],[I y]]):=rfl
def J1.of(b:J1 A)(hx:A.has x):1<=x/\x<=1000000000:=by have:=b.n;unfold Ar.has at hx;omega
def Hk(w:PA h a n m ps A)(b:J1 A)(hx:A.has x):Cm cx 55 [Pt a 0,I x] h (Pt n (nP n x)) h:=by
 have hr:=b.of hx;have e1:=(w.at hx).2;have c:Ax (.F8 13) [.CG n 0 ps.length 13,I (x-1)]=some (Pt n (nP n x)):=by rw[<-e1];exact H6 (w.at hx).1
 rw[Ak,dW,ś];simp only[abS,w.nodes,DP (Ab: -9223372036854775808<=x-1) (Ab:x-1<9223372036854775808),c]
def PA.f0(w:PA h a n m ps A)(hx:A.has x):BE h none (Pt n (nP n x))=some (I (A.nd x).kind):=by have:=w.E4 hx (k:=0) Be;rw[<-(w.pn hx).2.1];exact this
def PA.f1(w:PA h a n m ps A)(hx:A.has x):BE h none (Pt n (nP n x+1))=some (I (A.nd x).ER):=by have:=w.E4 hx (k:=1) Be;rw[<-(w.pn hx).2.1];exact this
def PA.f2(w:PA h a n m ps A)(hx:A.has x):BE h none (Pt n (nP n x+2))=some (pN ps x).kv:=by have:=w.E4 hx (k:=2) Be;exact this
def PA.f4(w:PA h a n m ps A)(hx:A.has x):BE h none (Pt n (nP n x+4))=some (I (A.nd x).AY):=by have:=w.E4 hx (k:=4) Be;rw[<-(w.pn hx).2.1];exact this
def PA.f5(w:PA h a n m ps A)(hx:A.has x):BE h none (Pt n (nP n x+5))=some (.str (A.nd x).name):=by have:=w.E4 hx (k:=5) Be;rw[<-(w.pn hx).2.1];exact this
def PA.f6(w:PA h a n m ps A)(hx:A.has x):BE h none (Pt n (nP n x+6))=some (pN ps x).av:=by have:=w.E4 hx (k:=6) Be;exact this
def PA.KU(w:PA h a n m ps A)(hx:A.has x):Iv h (pN ps x).kv (A.nd x).AP:=by rw[<-(w.pn hx).2.1];exact w.ks _ (w.pn hx).2.2
def PA.att(w:PA h a n m ps A)(hx:A.has x):(pN ps x).av=RP (A.nd x).AB:=by rw[<-(w.pn hx).2.1];exact(pN ps x).ok
def PA.row(w:PA h a n m ps A)(hx:A.has x):BE h (some 13) (Pt n (nP n x))=some (.agg (pN ps x).row):=by
 have h1:((ps.map PN.row).flatten.drop (nP n x)).take 13=(pN ps x).row/\nP n x+13<=(ps.map PN.row).flatten.length:=by unfold nP;have hlt:=(w.at hx).1;have hg:=(w.pn hx).1;rw[He (Zw ps),Gk (Zw ps),Aw];refine⟨?_,Ab⟩;rw[<-Lq,AE hlt,AZ,Cs];rw[Ap hlt,Bv] at hg;rw[hg];exact HI PN.Di
 simp only[BE,w.hn,KV];rw[Ad h1.2,h1.1]
def Lm:∀{l:List Int} {cs Gi:List Aa},B9 (Gi++(l.map (Aa.int .i64)++cs)) 1 Gi.length l.length=l.map Eo
 |[],_,_=>rfl
 |x::l,cs,Gi=>by have:=Lm (l:=l) (cs:=cs) (Gi:=Gi++[I x]);simp only[AI,Ao,BT] at this;simp only[AZ,AH,B9,BW];rw[Js rfl];simp only[BW,Bj] at this;rw[this];rfl
def Iv.An{kv:Aa}{l:List Int}(hk:Iv h kv l):Gt h 1 kv=some (l.map Eo):=by
 rcases hk with⟨rfl,rfl⟩|⟨id,cs,rfl,hc⟩
 .rfl
 .have:=Lm (l:=l) (cs:=cs) (Gi:=[]);simp only[Bj,Bd] at this;simp only[Gt,BB,hc,this];rw[Ad Au]
def Iv.len{kv:Aa}{l:List Int}(hk:Iv h kv l):Ax (.len false) [kv]=some (I (l.length:Int)):=by rcases hk with⟨rfl,rfl⟩|⟨id,cs,rfl,hc⟩<;>rfl
def g_{kv:Aa}{l:List Int}(hk:Iv h kv l)(hb:l.length<=1000000000):∃v,Cm cx 77 [kv] h v h/\Hu l v:=by
 have hr:=hk.An;rcases hk with⟨rfl,rfl⟩|⟨id,cs,rfl,hc⟩
 .exact⟨.slnil,by rw[Ak,eA,Ş];simp only[Ch,show Ax (.FN false .sl) [.slnil,.slnil]=some (.bool true) from rfl],.inr ⟨rfl,rfl⟩⟩
 .refine⟨.sl 1 (l.map Eo),?_,.mk⟩;have e1:NX h 1 8 (.sl 1 []) (.CG id 0 l.length 1)=some (.sl 1 (l.map Eo)):=by
   unfold NX;rw[hr,BU];cases l with
   |nil=>rfl
   |cons x l=>
    have:(x::l).length*8<=AO:=by have:AO=140737488355328:=rfl;omega
    simp only[AZ,CP,AH,Aw,Bd] at this⊢;rw[Ad ⟨trivial,by simpa using this⟩];rfl
  rw[Ak,eA,Ş];simp only[Ch,show Ax (.FN false .sl) [.CG id 0 l.length 1,.slnil]=some (.bool false) from rfl,show Ax (.Cd 1) []=some (.sl 1 []) from rfl,e1]
def Hl(h:Ag)(v:Aa)(l:List AS):Prop:=(v= .slnil/\l=[])\/∃id,v= .CG id 0 l.length 3/\h[id]?=some (.cells (l.map AS.row).flatten)/\id<h.length
def Hl.J5{v:Aa}{l:List AS}{t:Ag}(hv:Hl h v l):Hl (h++t) v l:=by
 rcases hv with h1|⟨id,e,hc,hl⟩
 .exact .inl h1
 .exact .inr ⟨id,e,by rw[Ai hl];exact hc,by rw[Ao];omega⟩
def Hl.cells{v:Aa}{l:List AS}(hv:Hl h v l):v.cells=[v]:=by rcases hv with⟨rfl,_⟩|⟨id,rfl,_,_⟩<;>rfl
structure K5(h:Ag)(v:Aa)(l:List AS):Prop where
 len:Ax (.len false) [v]=some (I (l.length:Int))
 at_:∀k (hk:k<l.length),∃p,Ax (.F8 3) [v,I (k:Int)]=some p/\BE h (some 3) p=some (.agg l[k].row)
def Zx{v:Aa}{l:List AS}(hv:Cl l v):K5 h v l:=⟨Bu.GF hv,λk hk=>⟨_,Bu.Dl hv hk,rfl⟩⟩
def sx(l:List AS):∀r∈l.map AS.row,r.length=3:=Po (f:=AS.row) (λ_=>rfl) l
def Hl.in_{v:Aa}{l:List AS}(hv:Hl h v l):K5 h v l:=by
 rcases hv with⟨rfl,rfl⟩|⟨id,rfl,hc,_⟩
 .exact⟨rfl,λk hk=>by simp at hk⟩
 .refine⟨rfl,λk hk=>⟨Pt id (k*3),H6 hk,?_⟩⟩;simp only[BE,hc,KV];rw[Ad (by rw[Gk (sx l),Aw];omega),He (sx l),<-Lq,AE hk,AZ,Cs];rfl
def Up(N:Nat)(v:Aa):Prop:=∀id k,v= .CG id 0 k 3->N<=id
def uO{v:Aa}{l:List AS}(hv:v=RP l)(hb:l.length<=1000000000):∃u t,Cm cx 100027 [v] h u (h++t)/\Hl (h++t) u l/\Up h.length u:=by
 cases l with
 |nil=>refine⟨.slnil,[],?_,.inl ⟨rfl,rfl⟩,λ_ _ e=>nomatch e⟩;rw[BN,Ak,OI,Si,hv];simp only[Ch,RP,show Ax (.FN false .sl) [.slnil,.slnil]=some (.bool true) from rfl]
 |cons x l=>have e:=M9 (h:=h) (s:= .sl 3 []) (z:=3) (b:=40) (.inr rfl) (Bu.mk (z:=3) (An:=(x::l).map AS.row)) Au (by rw[Aw];have:AO=140737488355328:=rfl;omega);rw[Aw] at e;refine⟨.CG h.length 0 (x::l).length 3,[.cells ((x::l).map AS.row).flatten],?_,.inr ⟨h.length,rfl,Au,Au⟩,λ_ _ e=>by injection e with e;omega⟩;rw[Ak,OI,Si,hv];simp only[Ch,RP,show Ax (.FN false .sl) [.sl 3 ((x::l).map AS.row),.slnil]=some (.bool false) from rfl,show Ax (.Cd 3) []=some (.sl 3 []) from rfl,e]
def OJ(h:Ag)(N:Nat)(x:DB)(r:List Aa):Prop:=∃K V,r=[I x.kind,I x.ER,K,I x.CD,I x.AY,.str x.name,V,.str x.data,.str x.L_,.str x.sys,.bool x.CB,I x.cont,I x.D0]/\Hu x.AP K/\Hl h V x.AB/\Up N V
def OJ.J5{x:DB}{r:List Aa}{t:Ag}{N:Nat}(hr:OJ h N x r):OJ (h++t) N x r:=let⟨K,V,e,h1,h2,b⟩:=hr;⟨K,V,e,h1,h2.J5,b⟩
def h_(w:PA h a n m ps A)(d:J1 A)(hx:A.has x)(NS:(A.nd x).AP.length<=1000000000):∃r t,Cm cx 24 [Pt n (nP n x)] h (.agg r) (h++t)/\OJ (h++t) h.length (A.nd x) r:=by obtain⟨K,c,hK⟩:=g_ (w.KU hx) NS;obtain⟨V,t,r2,b,e⟩:=uO (h:=h) (w.att hx) (d.at_ x);refine⟨_,t,?_,K,V,rfl,hK,b,e⟩;have hc:K.cells=[K]:=Bu.cells hK;have e0:=w.row hx;have e1:(pN ps x).row=_:=rfl;have ex:=(w.pn hx).2.1;rw[Ak,sZ,t24];rw[PN.row,ex] at e0;simp only[abS,e0,w.f2 hx,w.f6 hx,c.Ah,Dk,r2.Ah,hc,b.cells]
def bu(w:PA h a n m ps A)(b:J1 A)(NS:(A.nd x).AP.length<=1000000000):∃r t,Cm cx 21 [Pt a 0,I x] h (.tuple [.agg r,I (if A.has x then 0 else 3)]) (h++t)/\OJ (h++t) h.length (A.nd x) r:=by
 by_cases hx:A.has x;.obtain⟨r,t,c,hr⟩:=h_ w b hx NS;have FH:=hr;obtain⟨K,V,rfl,_⟩:=hr;refine⟨_,t,?_,FH⟩;rw[Ak,dT,Ř];simp only[abS,↓reduceIte,Bt,FY,(QC (x:=x) w).Ah,Ad hx,CF,B0,(Hk w b hx).Ah,c.Ah]
 .refine⟨_,[],?_,.slnil,.slnil,by rw[Km hx],by rw[Km hx];exact .inr ⟨rfl,rfl⟩,by rw[Km hx];exact .inl ⟨rfl,rfl⟩,λ_ _ e=>nomatch e⟩;rw[Ak,dT,Ř,BN];simp only[abS,↓reduceIte,Bt,FY,(QC (x:=x) w).Ah,Ac hx,CF,(Be:¬(3:Int)=0),Gp]
def uP(w:PA h a n m ps A)(c:J1 A)(NS:(A.nd x).AP.length<=1000000000):∃v,Cm cx 84 [Pt a 0,I x] h v h/\Hu (A.nd x).AP v:=by
 by_cases hx:A.has x;.obtain⟨K,b,hK⟩:=g_ (w.KU hx) NS;refine⟨K,?_,hK⟩;rw[Ak,eC,ş];simp only[abS,(RQ (x:=x) w).Ah,Bs hx,(Hk w c hx).Ah,w.f2 hx,b.Ah]
 .refine⟨.slnil,?_,by rw[Km hx];exact .inr ⟨rfl,rfl⟩⟩;rw[Ak,eC,ş];simp only[abS,(RQ (x:=x) w).Ah,Bk hx]
def ù(w:PA h a n m ps A)(b:J1 A):Cm cx 139 [Pt a 0,I x] h (I (A.nd x).ER) h:=by
 by_cases hx:A.has x;.rw[Ak,XB,zV];simp only[abS,(RQ (x:=x) w).Ah,Bs hx,(Hk w b hx).Ah,w.f1 hx]
 .rw[Ak,XB,zV,Km hx];simp only[abS,(RQ (x:=x) w).Ah,Bk hx]
def uQ(w:PA h a n m ps A)(b:J1 A):Cm cx 140 [Pt a 0,I x] h (I (if A.has x then(if(A.nd x).kind=1 then 0 else 9) else 3)) h:=by
 rw[Ak,iW,qq];by_cases hx:A.has x
 .simp only[abS,FY,(QC (x:=x) w).Ah,Ad hx,CF,B0,(Hk w b hx).Ah,w.f0 hx];by_cases hk:(A.nd x).kind=1;.simp only[hk,abS,B0]
  .simp only[hk,abS]
 .simp only[abS,FY,(QC (x:=x) w).Ah,Ac hx,CF,(Be:¬(3:Int)=0)]
def uR{l:List PN}:(l.map PN.row).flatten.length=l.length*13:=by rw[Gk (Zw l),Aw]
def Zy{p:PN}{n':Nat}(hk:Gd p.kv=none):Eh a n' m (ps++[p])=a::n'::(m.toList++ps.filterMap λp=>Gd p.kv):=by unfold Eh;rw[DJ];simp[hk]
def uS{x:DB}(hl:A.i.length=A.n.length):(A.add x).inr=A.inr:=by funext k;exact Sc hl
def bw(w:PA h a n m ps A)(hb:ps.length+1<=1000000000)(p:PN)(hk:p.kv= .slnil)(qL:p.x.AP=[]):
  ∃h',Cm cx 90 [Pt a 0,.agg p.row] h (I (A.len+1)) h'/\PA h' a h.length m (ps++[p]) (A.add p.x)/\(∀i,i<h.length->i≠a->i≠n->h'[i]?=h[i]?)/\h'.length=h.length+1:=by
 have XZ:a<h.length:=w.lt a (by simp[Eh]);have NQ:n<h.length:=w.lt n (by simp[Eh]);have vt:a≠n:=by have:=w.nd;simp[Eh] at this;exact this.1.1
 have d:=TB (h:=h) (id:=n) (An:=ps.map PN.row) (r2:=[p.row]) (v:= .sl 13 [p.row]) (b:=168) (Zw ps) Be w.hn .mk Au (by rw[Aw];have:AO=140737488355328:=rfl;simp;omega);rw[Aw] at d;simp only[BT] at d;have KI:(h.set n .Ec++[FF.cells (ps.map PN.row++[p.row]).flatten])[a]?=some (.cells [.CG n 0 ps.length 13,.map m]):=by rw[Ai (by simpa using XZ),Aj (Dv vt)];exact w.ha
 have es:Cx (h.set n .Ec++[FF.cells (ps.map PN.row++[p.row]).flatten]) 1 (Pt a 0) (.CG h.length 0 (ps.length+1) 13)=some ((h.set n .Ec++[FF.cells (ps.map PN.row++[p.row]).flatten]).set a (.cells [.CG h.length 0 (ps.length+1) 13,.map m])):=by simp only[Cx,KI];rfl
 have k:BE ((h.set n .Ec++[FF.cells (ps.map PN.row++[p.row]).flatten]).set a (.cells [.CG h.length 0 (ps.length+1) 13,.map m])) none (Pt a 0)=some (.CG h.length 0 (ps.length+1) 13):=by simp only[BE];rw[AA D5];rfl
 have l:Ax (.len false) [.CG h.length 0 (ps.length+1) 13]=some (I ((ps.length+1:Nat):Int)):=rfl;have em:Ax (.Cd 13) [.agg p.row]=some (.sl 13 [p.row]):=Pl (a:= .agg p.row) rfl Be;refine⟨(h.set n .Ec++[FF.cells (ps.map PN.row++[p.row]).flatten]).set a (.cells [.CG h.length 0 (ps.length+1) 13,.map m]),?_,?_,?_,?_⟩;rotate_left
 .refine⟨by simp[Ar.add,w.e],by simp[Ar.add,w.il],?_,?_,?_,?_,?_⟩;.rw[AA D5];simp
  .rw[Aj Ab,BG Au];simp
  .intro q hq;rcases Al.1 hq with hq|hq
   .refine(w.ks q hq).DH λid Hm=>?_;have h1:id∈Eh a n m ps:=Jk hq Hm;have h2:=w.lt id h1;have c:=w.nd;have j:id∈m.toList++ps.filterMap λp=>Gd p.kv:=Al.2 (.inr (BR.2 ⟨q,hq,Hm⟩));unfold Eh at c;simp only[By,Az,OO] at c;have g:a≠id:=λe=>c.1.2 (e▸j);have f:n≠id:=λe=>c.2.1 (e▸j);rw[Aj g,Ai (by simpa using h2),Aj f]
   .simp at hq;subst hq;exact .inl ⟨hk,qL⟩
  .rw[Zy (by rw[hk];rfl)];have c:=w.nd;unfold Eh at c;simp only[By,Az,OO] at c⊢;refine⟨⟨Ab,c.1.2⟩,λhm=>?_,c.2.2⟩;have:=w.lt h.length (by unfold Eh;simp only[Az];exact .inr (.inr hm));omega
  .rw[uS w.il];refine w.mp.DH λid Hm=>?_;have h1:id∈m.toList++ps.filterMap λp=>Gd p.kv:=by simp[Hm]
   have h2:=w.lt id (by unfold Eh;simp only[Az];exact .inr (.inr h1));have c:=w.nd;unfold Eh at c;simp only[By,Az,OO] at c;have g:a≠id:=λe=>c.1.2 (e▸h1);have f:n≠id:=λe=>c.2.1 (e▸h1);rw[Aj g,Ai (by simpa using h2),Aj f]
 .intro i hi h1 h2;rw[Aj (Dv h1),Ai (by simpa using hi),Aj (Dv h2)]
 .simp
 .have hl:A.len+1=((ps.length+1:Nat):Int):=by rw[<-w.len];rfl
  rw[PN.row] at em d es k;rw[Ak,eD,Š,hl,PN.row];simp only[abS,Nat.reduceLeDiff,↓reduceIte,Bt,w.nodes,em,d,es,k,l]
def V5{An:List (List Aa)}{z i k:Nat}(hr:∀r∈An,r.length=z)(hi:i<An.length)(hk:k<z){v:Aa}:An.flatten.take (i*z+k)++[v]++An.flatten.drop (i*z+k+1)=(An.set i (An[i].set k v)).flatten:=by
 have hl:=hr _ (AX hi);rw[<-Y3 hr hi];have e1:An.flatten.drop (i*z)=An[i]++An.flatten.drop (i*z+z):=by
  have d:i*z+z=(i+1)*z:=by rw[Bg,DI]
  rw[d,He hr,He hr,AE hi,Cs]
 have c:An.flatten.take (i*z+k)=An.flatten.take (i*z)++An[i].take k:=by rw[dk,e1,CY Ab]
 have b:An.flatten.drop (i*z+k+1)=An[i].drop (k+1)++An.flatten.drop (i*z+z):=by rw[ON,<-DU,e1,List.drop_append_of_le_length Ab]
 rw[c,b,B8,Ad Ab];simp
def PA.sto(w:PA h a n m ps A)(hx:A.has x){k:Nat}(hk:k<13){v:Aa}(hv:v.cells=[v]){p:PN}(hp:p.row=(pN ps x).row.set k v){h1:Ag}(hn:h1[n]?=h[n]?):
  Cx h1 1 (Pt n (nP n x+k)) v=some (h1.set n (.cells ((ps.set (x.toNat-1) p).map PN.row).flatten)):=by
 have hlt:=(w.at hx).1;have hg:=(w.pn hx).1;rw[Ap hlt,Bv] at hg;have e:=V5 (An:=ps.map PN.row) (i:=x.toNat-1) (k:=k) (v:=v) (Zw ps) (by simpa using hlt) hk;rw[Hb,hg,<-hp,<-Hw] at e;unfold nP;simp only[Cx,hn,w.hn,hv,BT,PV];rw[Ad (by rw[Gk (Zw ps),Aw];omega),e]
def Ua(w:PA h a n m ps A)(hx:A.has x)(p:PN):ps=ps.take (x.toNat-1)++pN ps x::ps.drop (x.toNat-1+1)/\ps.set (x.toNat-1) p=ps.take (x.toNat-1)++p::ps.drop (x.toNat-1+1):=by have hlt:=(w.at hx).1;have hg:=(w.pn hx).1;rw[Ap hlt,Bv] at hg;refine⟨?_,by rw[B8,Ad hlt]⟩;conv=>lhs;rw[<-BY (x.toNat-1) ps,AE hlt,hg]
def uT{y:DB}:(A.set x y).inr=A.inr:=by funext k;exact Pu
def PA.oL(w:PA h a n m ps A)(hx:A.has x){p:PN}{h1:Ag}(ho:∀i∈Eh a n m ps,Gd (pN ps x).kv≠some i->h1[i]?=h[i]?)(hk:Iv h1 p.kv p.x.AP)
  (hi:Gd p.kv=Gd (pN ps x).kv\/∀j,Gd p.kv=some j->h.length<=j):PA (h1.set n (.cells ((ps.set (x.toNat-1) p).map PN.row).flatten)) a n m (ps.set (x.toNat-1) p) (A.set x p.x):=by
 have hlt:=(w.at hx).1;have bx:=(w.pn hx).2.2;obtain⟨e1,t⟩:=Ua w hx p;have nd:=w.nd;have d:∀j,Gd (pN ps x).kv=some j->j∈m.toList++ps.filterMap λp=>Gd p.kv:=λj hj=>Al.2 (.inr (BR.2 ⟨_,bx,hj⟩));have XG:=nd;unfold Eh at XG;simp only[By,Az,OO] at XG;have vt:a≠n:=XG.1.1;have f:Gd (pN ps x).kv≠some a:=λe=>XG.1.2 (d a e);have ţ:Gd (pN ps x).kv≠some n:=λe=>XG.2.1 (d n e);have NQ:n<h.length:=w.lt n (by simp[Eh]);have r:h1[n]?=h[n]?:=ho n (by simp[Eh]) ţ;have s:n<h1.length:=by have:=w.hn;rw[<-r] at this;exact(Ae.1 this).1
 have lj:∀j,Gd p.kv=some j->j≠n/\j≠a:=by
  intro j hj;rcases hi with hi|hi
  .rw[hi] at hj;exact⟨λe=>ţ (e▸hj),λe=>f (e▸hj)⟩
  .have:=hi j hj;have:=w.lt a (by simp[Eh]);omega
 refine⟨?_,?_,?_,?_,?_,?_,?_⟩;.simp only[Ar.set,Ad hx];rw[w.e,Hw]
 .rw[HF];exact w.il
 .rw[Aj (Dv vt),ho a (by simp[Eh]) f,Bz];exact w.ha
 .rw[AA s]
 .intro q hq;by_cases c:q=p;.rw[c];exact hk.DH λid Hm=>by rw[Aj (Dv (lj id Hm).1)]
  .rw[t] at hq;have Ť:q∈ps.take (x.toNat-1)++ps.drop (x.toNat-1+1):=by
    rcases Al.1 hq with b|b
    .exact Al.2 (.inl b)
    .exact Al.2 (.inr ((Az.1 b).resolve_left c))
   have ml:q∈ps:=by
    rcases Al.1 Ť with b|b
    .exact AN b
    .exact A7 b
   refine(w.ks q ml).DH λj hj=>?_;have h8:j∈Eh a n m ps:=Jk ml hj;have o:j≠n:=λe=>XG.2.1 (e▸Al.2 (.inr (BR.2 ⟨q,ml,hj⟩)));have eM:Gd (pN ps x).kv≠some j:=by
    intro l;have g:=(Bx.1 XG.2.2).2.1;rw[e1,DJ,GH,l] at g;simp only[Bx,By,Az,BR] at g;rcases Al.1 Ť with b|b
    .exact g.2.2 j ⟨q,b,hj⟩ j (.inl rfl) rfl
    .exact g.2.1.1 ⟨q,b,hj⟩
   rw[Aj (Dv o),ho j h8 eM]
 .have fr:∀j,Gd p.kv=some j->Gd (pN ps x).kv=some j\/j∉Eh a n m ps:=by
   intro j hj;rcases hi with hi|hi
   .exact .inl (hi▸hj)
   .exact .inr λhm=>by have:=hi j hj;have:=w.lt j hm;omega
  have h1:=nd;unfold Eh at h1 fr⊢;rw[e1,DJ,GH] at h1;rw[e1,DJ,GH] at fr;rw[t,DJ,GH];generalize List.filterMap (λp=>Gd p.kv) (ps.take (x.toNat-1))=T at h1 fr⊢;generalize List.filterMap (λp=>Gd p.kv) (ps.drop (x.toNat-1+1))=D at h1 fr⊢;cases hp:Gd p.kv with
  |none=>
   cases ho:Gd (pN ps x).kv with
   |none=>rw[ho] at h1;exact h1
   |some k=>rw[ho] at h1;refine h1.sublist ?_;simp
  |some j=>
   have:=fr j hp;cases ho:Gd (pN ps x).kv with
   |none=>rw[ho] at h1 this;simp only[By,Bx,Az,Al] at h1 this⊢;grind
   |some k=>rw[ho] at h1 this;simp only[By,Bx,Az,Al] at h1 this⊢;grind
 .rw[uT];refine w.mp.DH λid Hm=>?_;have h8:id∈m.toList++ps.filterMap λp=>Gd p.kv:=by simp[Hm]
  have o:n≠id:=λe=>XG.2.1 (e▸h8);have eM:Gd (pN ps x).kv≠some id:=by intro WU;exact(Bx.1 XG.2.2).2.2 id (by simp[Hm]) id (BR.2 ⟨_,bx,WU⟩) rfl
  rw[Aj o,ho id (by unfold Eh;simp only[Az];exact .inr (.inr h8)) eM]
def PA.pw(w:PA h a n m ps A):PW h (λi=>i∈Eh a n m ps) a A:=⟨n,m,ps,w,λ_=>Iff.rfl⟩
def J1.add{y:DB}(b:J1 A)(h1:A.len+1<=1000000000)(h2:y.AB.length<=1000000000)(c:y.data.length<=1000000000):J1 (A.add y):=by
 refine⟨?_,λx=>?_,λx=>?_⟩;.unfold Ar.len at h1;simp[Ar.add];omega
 .rw[FV];split;.exact h2
  .exact b.at_ x
 .rw[FV];split;.exact c
  .exact b.data x
def J1.set{y:DB}(b:J1 A)(h2:y.AB.length<=1000000000)(c:y.data.length<=1000000000):J1 (A.set x y):=by
 refine⟨by rw[HF];exact b.n,λx=>?_,λx=>?_⟩<;>rw[GP]<;>split;.exact h2
 .exact b.at_ x
 .exact c
 .exact b.data x
def bz{x y:DB}:(A.add x).set (A.len+1) y=A.add y:=by unfold Ar.set;rw[Ad (Dj.2 (.inr rfl))];unfold Ar.add Ar.len;have e:((A.n.length:Int)+1).toNat-1=A.n.length:=Ab;simp only[e];rw[CO _ _ (Af _),FD];rfl
def jU{p:PN}(w:PA h a n m ps A)(hx:A.has x)(hk:Gd p.kv=Gd (pN ps x).kv):Eh a n m (ps.set (x.toNat-1) p)=Eh a n m ps:=by obtain⟨e1,b⟩:=Ua w hx p;unfold Eh;rw[b,DJ,GH,hk];conv=>rhs;rw[e1,DJ,GH]
def PA.wr(w:PA h a n m ps A)(hx:A.has x){k:Nat}(hk:k<13){v:Aa}(hv:v.cells=[v]){p:PN}(hp:p.row=(pN ps x).row.set k v)(h1:p.kv=(pN ps x).kv)(h2:p.x.AP=(A.nd x).AP):
  ∃h',Cx h 1 (Pt n (nP n x+k)) v=some h'/\PA h' a n m (ps.set (x.toNat-1) p) (A.set x p.x)/\Eh a n m (ps.set (x.toNat-1) p)=Eh a n m ps/\(∀i,i≠n->h'[i]?=h[i]?)/\h'.length=h.length:=by
 refine⟨_,w.sto hx hk hv hp rfl,w.oL hx (λi _ _=>rfl) (by rw[h1,h2];exact w.KU hx) (.inl (by rw[h1])),jU w hx (by rw[h1]),λi hi=>by rw[Aj (Dv hi)],Bz⟩
def PA.uU(w:PA h a n m ps A){h1:Ag}{KD:List PN}{A':Ar}(w':PA h1 a n m KD A')(hi:Eh a n m KD=Eh a n m ps)(ho:∀i,i≠n->h1[i]?=h[i]?)(hl:h1.length=h.length):ED h (λi=>i∈Eh a n m ps) h1 (λi=>i∈Eh a n m KD):=
 ⟨Ab,λi _ hn=>ho i (λe=>hn (by rw[e];simp[Eh])),λi NR=> .inl (by rwa [hi] at NR)⟩
def IJ(q:Bool)(d:Int):PN:=⟨{kind:=1,CB:=q,CD:=d},.slnil,.slnil,rfl⟩
def aB9(w:PA h a n m ps A)(g:J1 A)(hb:A.len+1<=1000000000)(q:Bool):
  ∃h',Cm cx 43 [Pt a 0,.bool q] h (I (A.len+1)) h'/\PA h' a h.length m (ps++[IJ q (A.len+1)]) (A.add {kind:=1,CB:=q,CD:=A.len+1})/\(∀i,i<h.length->i≠a->i≠n->h'[i]?=h[i]?)/\h'.length=h.length+1:=by
 have kX:=w.len;obtain⟨h1,d,w1,f,l1⟩:=bw w Ab (IJ q 0) rfl rfl;have ic:=g.add (y:=(IJ q 0).x) hb (by simp[IJ]) (by simp[IJ]);have hx:(A.add (IJ q 0).x).has (A.len+1):=Dj.2 (.inr rfl);have hlen:(A.len+1).toNat-1=ps.length:=Ab;have lj:pN (ps++[IJ q 0]) (A.len+1)=IJ q 0:=by unfold pN;rw[hlen];simp
 obtain⟨h2,c,b,_,e,l2⟩:=w1.wr hx (k:=3) Be (v:= I (A.len+1)) rfl (p:=IJ q (A.len+1)) (by rw[lj];rfl) (by rw[lj];rfl) (by rw[FV,Ad rfl];rfl);refine⟨h2,?_,?_,λi hi l j=>?_,Ab⟩;.have r2:=Hk w1 ic hx;rw[Ak,dU,ř];have ij:Cm cx 90 [Pt a 0,.agg [I 1,I 0,.slnil,I 0,I 0,.str [],.slnil,.str [],.str [],.str [],.bool q,I 0,I 0]] h (I (A.len+1)) h1:=d;simp only[abS,Nat.reduceLeDiff,↓reduceIte,Bt,ij.Ah,r2.Ah,c]
 .rw[bz,hlen] at b;rw[CO _ _ (Af _),FD] at b;exact b
 .rw[e i Ab];exact f i hi l j
def Kv(k d:Int)(s:Aq):PN:=⟨{kind:=k,CD:=d,data:=s},.slnil,.slnil,rfl⟩
def PA.PG(w:PA h a n m ps A){p:PN}{h1:Ag}(hk:Gd p.kv=none)(b:∀i,i<h.length->i≠a->i≠n->h1[i]?=h[i]?)(l1:h1.length=h.length+1):ED h (λi=>i∈Eh a n m ps) h1 (λi=>i∈Eh a h.length m (ps++[p])):=by
 refine⟨Ab,λi hi hn=>b i hi (λe=>hn (by simp[Eh,e])) (λe=>hn (by simp[Eh,e])),λi hi=>?_⟩;rw[Zy hk] at hi;simp only[Az] at hi;rcases hi with rfl|rfl|hi
 .exact .inl (by simp[Eh])
 .exact .inr (Af _)
 .exact .inl (by unfold Eh;simp only[Az];exact .inr (.inr hi))
def ir{k:Int}{s:Aq}(w:PA h a n m ps A)(d:J1 A)(hb:A.len+1<=1000000000)(hd:A.has x/\(A.nd x).kind=1):
  ∃h',Cm cx 97 [Pt a 0,I x,.agg (Kv k 0 s).row] h (.tuple [I (A.len+1),I 0]) h'/\PA h' a h.length m (ps++[Kv k x s]) (A.add (Kv k x s).x)/\(∀i,i<h.length->i≠a->i≠n->h'[i]?=h[i]?)/\h'.length=h.length+1:=by
 have kX:=w.len;obtain⟨h1,b,w1,c,l1⟩:=bw w Ab (Kv k x s) rfl rfl;refine⟨h1,?_,w1,c,l1⟩;rw[PN.row] at b;rw[Ak,uB,t97,PN.row];simp only[abS,(uQ (x:=x) w d).Ah,Ad hd.1,Ad hd.2,CF,B0,Kv] at b⊢;simp only[Ch,b.Ah]
def aCa{s:Aq}(w:PA h a n m ps A)(d:J1 A)(hb:A.len+1<=1000000000)(hd:A.has x/\(A.nd x).kind=1):
  ∃h',Cm cx 52 [Pt a 0,I x,.str s] h (.tuple [I (A.len+1),I 0]) h'/\PA h' a h.length m (ps++[Kv 5 x s]) (A.add (Kv 5 x s).x)/\(∀i,i<h.length->i≠a->i≠n->h'[i]?=h[i]?)/\h'.length=h.length+1:=by
 obtain⟨h1,b,w1,c,l1⟩:=ir (k:=5) (s:=s) w d hb hd;refine⟨h1,?_,w1,c,l1⟩;have ij:Cm cx 97 [Pt a 0,I x,.agg [I 5,I 0,.slnil,I 0,I 0,.str [],.slnil,.str s,.str [],.str [],.bool false,I 0,I 0]] h (.tuple [I (A.len+1),I 0]) h1:=b;rw[Ak,tM,t52];simp only[abS,Nat.reduceLeDiff,↓reduceIte,Bt,ij.Ah]
def ú{s:Aq}(w:PA h a n m ps A)(d:J1 A)(hb:A.len+1<=1000000000)(hd:A.has x/\(A.nd x).kind=1):
  ∃h',Cm cx 106 [Pt a 0,I x,.str s] h (.tuple [I (A.len+1),I 0]) h'/\PA h' a h.length m (ps++[Kv 6 x s]) (A.add (Kv 6 x s).x)/\(∀i,i<h.length->i≠a->i≠n->h'[i]?=h[i]?)/\h'.length=h.length+1:=by
 obtain⟨h1,b,w1,c,l1⟩:=ir (k:=6) (s:=s) w d hb hd;refine⟨h1,?_,w1,c,l1⟩;have ij:Cm cx 97 [Pt a 0,I x,.agg [I 6,I 0,.slnil,I 0,I 0,.str [],.slnil,.str s,.str [],.str [],.bool false,I 0,I 0]] h (.tuple [I (A.len+1),I 0]) h1:=b;rw[Ak,zB,Y_];simp only[abS,Nat.reduceLeDiff,↓reduceIte,Bt,ij.Ah]
def û{s:Aq}(w:PA h a n m ps A)(e:J1 A)(hx:A.has x)(hk:(A.nd x).kind=5):
  ∃h' KD,Cm cx 51 [Pt a 0,I x,.str s] h (I 0) h'/\PA h' a n m KD (A.JZ x s)/\ED h (λi=>i∈Eh a n m ps) h' (λi=>i∈Eh a n m KD):=by
 have hp:=(w.pn hx).2.1;obtain⟨h2,c,b,f,d,l2⟩:=w.wr hx (k:=7) Be (v:= .str s) rfl (p:=⟨{A.nd x with data:=s},(pN ps x).kv,(pN ps x).av,by rw[<-hp];exact(pN ps x).ok⟩) (by simp only[PN.row];rw[hp];rfl) rfl rfl;refine⟨h2,_,?_,b,w.uU b f d l2⟩;rw[Ak,tL,t51];simp only[abS,FY,(QC (x:=x) w).Ah,Ad hx,CF,B0,(Hk w e hx).Ah,w.f0 hx,hk,c]
def iu{y:Int}:Cm cx 178 [.sl 1 [[I y]]] h (.bool (decide (BS.JC y))) h:=by
 have hv:Bu 1 [[I y]] (.sl 1 [[I y]]):= .mk;have e1:([[I y]]:List (List Aa))[0]=[I y]:=rfl;rw[Ak,jF,rk];simp only[Ch,hv.len];refine BL (λk:Nat=>[.bool false,I (k:Int)]) (λk h1=>k<=1/\(k=1->BS.JC y)/\h1=h) (λk=>1 -k) 0 rfl ⟨A8 _,λe=>Ab,rfl⟩ ?_;rintro k h1 ⟨hk,ha,rfl⟩;rcases BH k 1 with hlt|HK
 .obtain rfl:k=0:=by omega
  simp only[Ch,cN,(Be:((0:Nat):Int)<((1:Nat):Int)),hv.F8 (show 0<[[I y]].length from DW),e1,CQ (Ab:0<9223372036854775807)];refine⟨λh2=>?_,λh2=>⟨λc=>?_,λc=>?_⟩⟩;.rw[Bk (λb=>by unfold BS.JC at b;omega)]
  .rw[Bk (λb=>by unfold BS.JC at b;omega)]
  .exact A6.next 1 rfl ⟨Af _,λ_=>⟨Ab,Ab⟩,rfl⟩ Ab
 .obtain rfl:k=1:=by omega
  simp only[abS,(Be:¬((1:Nat):Int)<((1:Nat):Int)),Bs (ha rfl)]
def Ub{l out:List AS}{y:AS}:FW out (l++[y])=if(FW out l).any (λz=>decide (Ew y=Ew z)) then FW out l else FW out l++[y]:=by
 induction l generalizing out with
 |nil=>simp only[Bj,FW];split<;>simp_all
 |cons z l ih=>
  rw[BW,FW,FW];split;.exact ih
  .exact ih
def ü(y c:AS)(h:Ag):Cm cx 205 [.agg c.row,.Cb y.row] h (.bool (decide (Ew y=Ew c))) h:=by
 rw[Ak,jM,sd,AS.row,AS.row];simp only[Ch];refine⟨λh1=>?_,λh1=>?_⟩;.congr 2;rw[Eb];simp[Ew,h1]
 .rw[Bk (λe=>h1 (by simp[Ew] at e;exact e.1))]
def iv{F v:Aa}{l:List AS}{q:AS->Bool}(hv:K5 h v l)(hb:l.length<=1000000000)(hF:Zv F h q):Cm cx 117 [v,F] h (.bool (l.any q)) h:=by
 obtain⟨f,caps,rfl,hf,hr⟩:=hF;have key:Cm cx 135 [v,.func (.func f) [] caps] h (I (B5 q 0 l)) h:=by
  rw[Ak,Sf,uE];simp only[Ch,hv.len];refine BL (λn:Nat=>[I 0,I (n:Int)]) (λn h1=>n<=l.length/\B5 q 0 l=B5 q n (l.drop n)/\h1=h) (λn=>l.length-n) 0 rfl ⟨A8 _,rfl,rfl⟩ ?_;rintro n h1 ⟨vr,ha,rfl⟩;rcases BH n l.length with hlt|HK
  .have i1:(n:Int)<(l.length:Int):=by omega
   obtain⟨p,e1,c⟩:=hv.at_ n hlt;rw[AE hlt,B5] at ha;simp only[Ch,↓reduceIte,CM,cN,hf,i1,e1,c,(hr l[n]).Ah,CQ (Ab:n<9223372036854775807)];rw[C6];refine⟨λhe=>?_,λhe=>?_⟩;.rw[ha,Ad he]
   .rw[Ac (by simp[he])] at ha;exact A6.next (n+1) rfl ⟨hlt,ha,rfl⟩ Ab
  .have i1:¬(n:Int)<(l.length:Int):=by omega
   rw[Bc HK,B5] at ha;simp only[abS,↓reduceIte,CM,i1,ha]
 rw[Ak,Xx,zI];simp only[Ch,key.Ah];congr 2
 rcases Ga (p:=q) (l:=l) (k:=0) with⟨h1,h2⟩|⟨n,y,h1,h2,b⟩
 .rw[h1,uo];have:=JJ.1 h2;simpa using this
 .rw[h1,uo,Bs Ab,fM];exact⟨y,NV b,Rv b⟩
def iw{l:List AS}{v:Aa}(hv:K5 h v l)(hb:l.length<=1000000000)(hs:∀y∈l,BS.JC y.AY):Cm cx 172 [v] h (.tuple [RP (CI l),.bool true]) h:=by
 rw[Ak,jB,qz];simp only[Ch,hv.len];refine BL (λk:Nat=>[.slnil,.bool false,RP (CI (l.take k)),I (k:Int)]) (λk h1=>k<=l.length/\h1=h) (λk=>l.length-k) 0 rfl ⟨A8 _,rfl⟩ ?_;rintro k h1 ⟨hk,rfl⟩;rcases BH k l.length with hlt|HK
 .have i1:(k:Int)<(l.length:Int):=by omega
  obtain⟨p,i,e⟩:=hv.at_ k hlt;have inc:=CQ (Ab:k<9223372036854775807);have hsp:=hs _ (AX hlt);have g:=iu (h:=h1) (y:=l[k].AY);have hF:Zv (.func (.func 205) [] [.Cb l[k].row]) h1 (λc=>decide (Ew l[k]=Ew c)):=⟨_,_,rfl,Be,λc=>ü l[k] c h1⟩;have xA:(CI (l.take k)).length<=1000000000:=by have:=Pw (l:=l.take k);rw[Av] at this;omega
  have r2:=iv (Zx Sj) xA hF;have e1:CI (l.take (k+1))=if(CI (l.take k)).any (λz=>decide (Ew l[k]=Ew z)) then CI (l.take k) else CI (l.take k)++[l[k]]:=by rw[AL hlt];exact Ub
  have d:=Bu.Y8 (f:=AS.row) (a:=l[k]) (b:=40) (Sj (l:=CI (l.take k))) (by have:=Pw (l:=l.take k);rw[Av] at this;have:AO=140737488355328:=rfl;omega);have em:Ax (.Cd 3) [.agg l[k].row]=some (.sl 3 [l[k].row]):=rfl;rw[<-nN] at d;rw[AS.row] at r2 em d e;simp only[abS,Nat.reduceLeDiff,↓reduceIte,i1,i,e,FY,g.Ah,Bs hsp,r2.Ah,em,d,inc];rw[C6];refine⟨λh2=>?_,λh2=>?_⟩;.exact A6.next (k+1) (by rw[e1,Ac (by simpa using h2)]) ⟨hlt,rfl⟩ Ab
  .exact A6.next (k+1) (by rw[e1,Ad (by simpa using h2)]) ⟨hlt,rfl⟩ Ab
 .have i1:¬(k:Int)<(l.length:Int):=by omega
  simp only[abS,↓reduceIte,i1,AT HK]
def ý{l:List AS}{v:Aa}(w:PA h a n m ps A)(f:J1 A)(hx:A.has x)(hk:(A.nd x).kind=4)(hv:K5 h v l)(hb:l.length<=1000000000)(hs:∀y∈l,BS.JC y.AY):
  ∃h' KD,Cm cx 119 [Pt a 0,I x,v] h (I 0) h'/\PA h' a n m KD (A.Kq x l)/\ED h (λi=>i∈Eh a n m ps) h' (λi=>i∈Eh a n m KD):=by
 have hp:=(w.pn hx).2.1;have d:=iw hv hb hs;obtain⟨h2,c,b,g,e,l2⟩:=w.wr hx (k:=6) Be (v:=RP (CI l)) (Bu.cells Sj) (p:=⟨{A.nd x with AB:=CI l},(pN ps x).kv,RP (CI l),rfl⟩) (by simp only[PN.row];rw[hp];rfl) rfl rfl;refine⟨h2,_,?_,b,w.uU b g e l2⟩;rw[Ak,zK,Ä];simp only[abS,FY,(QC (x:=x) w).Ah,Ad hx,CF,B0,(Hk w f hx).Ah,w.f0 hx,hk,d.Ah,c]
def þ(w:PA h a n m ps A)(hx:A.has x):Cm cx 179 [Pt n (nP n x)] h (.bool (decide (Z9 (A.nd x)))) h:=by rw[Ak,jG,rl];simp only[abS,w.f0 hx,w.f4 hx,w.f5 hx,Z9];refine⟨λh1=>⟨λh2=>?_,λh2=>?_⟩,λh1=>?_⟩<;>simp[*]
def NT(x:Int×Int):Aa×Aa:=(I x.1,I x.2)
def XH{k:Int}:∀{l:List (Int×Int)} {i:Nat},(l.find? (λx=>decide (k=x.1))=none->Ju k (l.map NT) i=some none)/\∀y,l.find? (λx=>decide (k=x.1))=some y->∃j,Ju k (l.map NT) i=some (some (j,I y.2))
 |[],i=>⟨λ_=>rfl,λy h=>by cases h⟩
 |z::l,i=>by
  have ih:=XH (k:=k) (l:=l) (i:=i+1);simp only[AZ,NT,Ju,Mq];by_cases e:k=z.1;.simp only[e,Gp,BB];exact⟨λh=>(by cases h),λy h=>⟨i,by cases h;rfl⟩⟩
  .simp only[e,FC,EH];exact ih
def T8.get{f:Int->Int}(w:T8 h m f)(k:Int):D4 (.wI (I 0) true) h [.map m,I k]=some (h,if f k=0 then .tuple [I 0,.bool false] else .tuple [I (f k),.bool true]):=by
 rcases w with⟨rfl,h0⟩|⟨id,l,rfl,hc,hl,_⟩
 .rw[Ad (h0 k)];rfl
 .have hl:=hl k;have hm:=XH (k:=k) (l:=l) (i:=0);simp only[D4,fR,hc];by_cases h0:f k=0
  .rw[Ad h0] at hl⊢;have e:l.find? (λx=>decide (k=x.1))=none:=by
    cases hf:l.find? (λx=>decide (k=x.1)) with
    |none=>rfl
    |some y=>rw[hf] at hl;cases hl
   have:=hm.1 e;unfold NT at this;rw[this];rfl
  .rw[Ac h0] at hl⊢;cases hf:l.find? (λx=>decide (k=x.1)) with
   |none=>rw[hf] at hl;cases hl
   |some y=>rw[hf] at hl;simp only[BM,Bv] at hl;obtain⟨j,e⟩:=hm.2 y hf;unfold NT at e;rw[e,<-hl];rfl
def jV{id:Nat}{l:List (Int×Int)}{k v:Int}(hc:h[id]?=some (.map (l.map NT)))(hn:l.find? (λx=>decide (k=x.1))=none):
  ∃h1,D4 (.LW (I 0)) h [.map (some id),I k]=some (h1,.tuple [I 0,I l.length])/\∃h2,D4 .K8 h1 [.map (some id),I l.length,I v]=some (h2,.bool true)/\h2=h.set id (.map ((l++[(k,v)]).map NT)):=by
 have Hm:=(Ae.1 hc).1;have hm:=(XH (k:=k) (l:=l) (i:=0)).1 hn;refine⟨h.set id (.map (l.map NT++[(I k,I 0)])),?_,_,?_,rfl⟩;.simp only[D4,RX,hc,hm,BM,Aw]
 .have e1:(h.set id (.map (l.map NT++[(I k,I 0)])))[id]?=some (.map (l.map NT++[(I k,I 0)])):=AA Hm;have b:(l.map NT++[(I k,I 0)])[l.length]?=some (I k,I 0):=by rw[BG Au];simp
  simp only[D4,RY,e1,Bw,b];rw[Ad Ab,uq,CO _ _ Au];simp[NT]
def PA.ÿ(w:PA h a n m ps A):∀i∈m.toList++ps.filterMap (λp=>Gd p.kv),i<h.length/\i≠a/\i≠n:=by
 intro i hi;have h1:i∈Eh a n m ps:=by unfold Eh;simp only[Az];exact .inr (.inr hi)
 have b:=w.nd;unfold Eh at b;simp only[By,Az,OO] at b;exact⟨w.lt i h1,λe=>b.1.2 (e▸hi),λe=>b.2.1 (e▸hi)⟩
def PA.Ā(w:PA h a n m ps A){h1:Ag}{m':Option Nat}{A':Ar}(e1:A'.n=A.n)(d:A'.i.length=A'.n.length)(ha:h1[a]?=some (.cells [.CG n 0 ps.length 13,.map m']))(ho:∀i,i<h.length->i≠a->m≠some i->h1[i]?=h[i]?)(hm:m'=m\/∃j,m'=some j/\h.length<=j)(b:T8 h1 m' A'.inr):PA h1 a n m' ps A':=by
 have nd:=w.nd;have XG:=nd;unfold Eh at XG;simp only[By,Az,OO] at XG;have hnm:m≠some n:=λe=>XG.2.1 (by simp[e]);refine⟨by rw[e1];exact w.e,d,ha,?_,?_,?_,b⟩;.rw[ho n (w.lt n (by simp[Eh])) (Dv XG.1.1) hnm];exact w.hn
 .intro p hp;refine(w.ks p hp).DH λid Hm=>?_;have h1:id∈ps.filterMap (λp=>Gd p.kv):=BR.2 ⟨p,hp,Hm⟩;have h2:=w.ÿ id (Al.2 (.inr h1));exact ho id h2.1 h2.2.1 λe=>(Bx.1 XG.2.2).2.2 id (by simp[e]) id h1 rfl
 .rcases hm with rfl|⟨j,rfl,hj⟩
  .exact nd
  .have c:∀i∈ps.filterMap (λp=>Gd p.kv),i<h.length:=λi hi=>(w.ÿ i (Al.2 (.inr hi))).1;have g:=w.lt a (by simp[Eh]);have f:=w.lt n (by simp[Eh]);have h8:=(Bx.1 XG.2.2).2.1;unfold Eh;simp only[By,Az,aDr,BW,Bj,OO];exact⟨⟨XG.1.1,Ab,λhm=>XG.1.2 (Al.2 (.inr hm))⟩,⟨Ab,λhm=>XG.2.1 (Al.2 (.inr hm))⟩,λhm=>by have:=c j hm;omega,h8⟩
def Uc{l:List (Int×Int)}{k v:Int}(hk:jT l)(hn:l.find? (λx=>decide (k=x.1))=none)(h1:lZ k=true)(h2:lZ v=true):jT (l++[(k,v)]):=by
 refine⟨?_,λp hp=>?_⟩;.rw[B3,Bx];refine⟨hk.1,Au,λa ha b hb e=>?_⟩;obtain⟨x,hx,rfl⟩:=AR.1 ha;have c:=JJ.1 hn x hx;simp only[AZ,De,D2] at hb;exact c (by simpa using(e.trans hb).symm)
 .rcases Al.1 hp with h|h
  .exact hk.2 p h
  .simp only[D2] at h;subst h;exact⟨h1,h2⟩
def jW(hb:A.len<=1000000000)(hx:A.has x):lZ x=true:=by have:=hx.1;have:=hx.2;unfold Ar.len at hb;unfold lZ;simp;omega
def ā{i:Nat}(hm:m=some i):i∈Eh a n m ps:=by unfold Eh;simp[hm]
def PA.Ă(w:PA h a n m ps A){l:List (Int×Int)}{id:Nat}(s:m=some id)(hc:h[id]?=some (.map (l.map NT)))(hl:∀k,(l.find? λx=>decide (k=x.1)).map (·.2)=if A.inr k=0 then none else some (A.inr k))(ok:jT l)(hb:A.len<=1000000000){d i:Int}(hd:A.has d)(hi:A.has i)(c:d≠i)(h0:A.inr d=0)(fo:A.inr i=0):
  ∃h1 h2 q,D4 (.LW (I 0)) h [.map m,I d]=some (h1,.tuple [I 0,I l.length])/\D4 .K8 h1 [.map m,I l.length,I i]=some (h2,.bool true)/\
   D4 (.LW (I 0)) h2 [.map m,I i]=some (q,.tuple [I 0,I ((l.length+1:Nat):Int)])/\∃o,D4 .K8 q [.map m,I ((l.length+1:Nat):Int),I i]=some (o,.bool true)/\PA o a n m ps ((A.Lj d i).Lj i i)/\(∀j,j≠id->o[j]?=h[j]?)/\o.length=h.length:=by
 subst s;have Hm:=(Ae.1 hc).1;have b:∀k,A.inr k=0->l.find? (λx=>decide (k=x.1))=none:=by
  intro k hk;have:=hl k;rw[Ad hk] at this;cases hf:l.find? (λx=>decide (k=x.1)) with
  |none=>rfl
  |some y=>rw[hf] at this;cases this
 obtain⟨h1,e1,h2,C,rfl⟩:=jV (v:=i) hc (b d h0);have Jr:(h.set id (.map ((l++[(d,i)]).map NT)))[id]?=some (.map ((l++[(d,i)]).map NT)):=AA Hm;obtain⟨q,z,o,u,rfl⟩:=jV (k:=i) (v:=i) Jr (by rw[Od,b i fo];simp[Dv c]);simp only[Ao,BT] at z u;refine⟨h1,_,q,e1,C,z,_,u,?_,?_,Au⟩
 .have g:id≠a:=λe=>by have:=w.nd;unfold Eh at this;simp[e] at this
  refine w.Ā (m':=some id) (A':=(A.Lj d i).Lj i i) rfl ?_ ?_ ?_ (.inl rfl) ?_;.simp only[Ar.Lj];split<;>split<;>simp[w.il]
  .rw[Aj g,Aj g];exact w.ha
  .intro j hj B t;have:id≠j:=λe=>t (by rw[e]);rw[Aj this,Aj this]
  .refine .inr ⟨id,l++[(d,i)]++[(i,i)],rfl,?_,λk=>?_,Uc (Uc ok (b d h0) (jW hb hd) (jW hb hi)) (by rw[Od,b i fo];simp[Dv c]) (jW hb hi) (jW hb hi)⟩;.rw[AA (by simpa using Hm)];rfl
   .have r:(A.Lj d i).i.length=(A.Lj d i).n.length:=by simp only[Ar.Lj];split<;>simp[w.il]
    rw[TJ r,TJ w.il,Od,Od];have lM:(A.Lj d i).has i:=hi;have hk:=hl k;have yB:i≠0:=by have:=hi.1;omega
    cases hf:l.find? (λx=>decide (k=x.1)) with
    |some y=>
     rw[hf] at hk;have b_:A.inr k≠0:=by intro e;rw[Ad e] at hk;cases hk
     have p:k≠i:=λe=>b_ (e▸fo);have f:k≠d:=λe=>b_ (e▸h0);simp only[p,f,false_and,EH,Option.some_or];exact hk
    |none=>
     rw[hf] at hk;have b_:A.inr k=0:=by
      by_cases e:A.inr k=0;.exact e
      .rw[Ac e] at hk;cases hk
     by_cases f:k=d;.subst f;simp[c,hd,yB]
     .by_cases p:k=i;.subst p;simp[f,lM,yB]
      .simp[p,f,b_]
 .intro j hj;rw[Aj (Dv hj),Aj (Dv hj)]
def ă(w:PA h a n m ps A)(C:J1 A)(hb:A.len+1<=1000000000)(hx:A.has x):
  ∃h' n' m' KD,Cm cx 180 [Pt a 0,I x] h (I (A.Gy x)) h'/\PA h' a n' m' KD (A.DS x)/\ED h (λi=>i∈Eh a n m ps) h' (λi=>i∈Eh a n' m' KD):=by
 have l1:BE h none (Pt a 1)=some (.map m):=by simp only[BE,w.ha];rfl
 have g1:=w.mp.get x;by_cases h0:A.inr x=0
 .obtain⟨h1,y,w1,B,d⟩:=aB9 w C hb false;have f:=w.PG (p:=IJ false (A.len+1)) rfl B d;have r:A.Gy x=A.len+1:=by unfold Ar.Gy;rw[Ac (by simp[h0])]
  have s:A.DS x=((A.add {kind:=1,CD:=A.len+1}).Lj x (A.len+1)).Lj (A.len+1) (A.len+1):=by unfold Ar.DS;rw[Ac (by simp[h0])]
  have cc:∀k,(A.add {kind:=1,CB:=false,CD:=A.len+1}).inr k=A.inr k:=λk=>Sc w.il;have Qm:(A.add {kind:=1,CB:=false,CD:=A.len+1}).has x:=Dj.2 (.inl hx);have oS:(A.add {kind:=1,CB:=false,CD:=A.len+1}).has (A.len+1):=Dj.2 (.inr rfl);have hne:=TU hx;have fo:A.inr (A.len+1)=0:=by unfold Ar.inr;rw[Ac OG]
  have l2:BE h1 none (Pt a 1)=some (.map m):=by simp only[BE,w1.ha];rfl
  rw[Ad h0] at g1;have MI:(A.add {kind:=1,CB:=false,CD:=A.len+1}).len<=1000000000:=by rw[Mf];exact hb
  rcases w1.mp with⟨rfl,hz⟩|⟨id,l,rfl,hc,hl,ho⟩
  .have bO:=w1.ha;have XZ:a<h1.length:=w1.lt a (by simp[Eh]);have KI:(h1++[FF.map []])[a]?=some (.cells [.CG h.length 0 (ps++[IJ false (A.len+1)]).length 13,.map none]):=by rw[Ai XZ];exact bO
   have es:Cx (h1++[FF.map []]) 1 (Pt a 1) (.map (some h1.length))=some ((h1++[FF.map []]).set a (.cells [.CG h.length 0 (ps++[IJ false (A.len+1)]).length 13,.map (some h1.length)])):=by simp only[Cx,KI];rfl
   have UG:((h1++[FF.map []]).set a (.cells [.CG h.length 0 (ps++[IJ false (A.len+1)]).length 13,.map (some h1.length)]))[a]?=some (.cells [.CG h.length 0 (ps++[IJ false (A.len+1)]).length 13,.map (some h1.length)]):=AA D5;have H:BE ((h1++[FF.map []]).set a (.cells [.CG h.length 0 (ps++[IJ false (A.len+1)]).length 13,.map (some h1.length)])) none (Pt a 1)=some (.map (some h1.length)):=by simp only[BE,UG];rfl
   have oQ:((h1++[FF.map []]).set a (.cells [.CG h.length 0 (ps++[IJ false (A.len+1)]).length 13,.map (some h1.length)]))[h1.length]?=some (.map (([]:List (Int×Int)).map NT)):=by rw[Aj Ab,BG (Af _),FD];rfl
   have z:PA ((h1++[FF.map []]).set a (.cells [.CG h.length 0 (ps++[IJ false (A.len+1)]).length 13,.map (some h1.length)])) a h.length (some h1.length) (ps++[IJ false (A.len+1)]) (A.add {kind:=1,CB:=false,CD:=A.len+1}):=by refine w1.Ā rfl w1.il UG (λi hi c _=>by rw[Aj (Dv c),Ai hi]) (.inr ⟨_,rfl,Af _⟩) (.inr ⟨h1.length,[],rfl,oQ,λk=>by rw[Ad (hz k)];rfl,GZ,λp hp=>nomatch hp⟩)
   obtain⟨E,D,k3,q,o,j,v,g,t,u,b⟩:=z.Ă rfl oQ (λk=>by rw[Ad (hz k)];rfl) ⟨GZ,λp hp=>nomatch hp⟩ MI Qm oS hne ((cc x).trans h0) ((cc _).trans fo);refine⟨v,_,_,_,?_,s▸t,⟨by rw[b];simp;omega,λi hi R5=>?_,λi hi=>?_⟩⟩;.simp only[Bd] at q o j g;rw[Ak,Sg,uF,r];simp only[Ch,l1,g1,y.Ah,l2,show Ax (.FN false .mp) [.map none,.map none]=some (.bool true) from rfl,es,H,q,o,j,g]
   .have G:=f.old i hi R5;have c:i≠a:=λe=>R5 (by simp[Eh,e]);rw[u i Ab,Aj (Dv c),Ai Ab,G]
   .unfold Eh at hi;simp only[Az,aDr,BW,Bj] at hi;rcases hi with rfl|rfl|rfl|hi
    .exact .inl (by simp[Eh])
    .exact .inr (Af _)
    .exact .inr Ab
    .exact f.Bn i (by unfold Eh;simp only[Az,Option.toList_none,Bj];exact .inr (.inr hi))
  .obtain⟨E,D,k3,q,o,j,v,g,t,u,b⟩:=w1.Ă rfl hc hl ho MI Qm oS hne ((cc x).trans h0) ((cc _).trans fo);refine⟨v,_,_,_,?_,s▸t,⟨Ab,λi hi R5=>?_,f.Bn⟩⟩;.rw[Ak,Sg,uF,r];simp only[Ch,l1,g1,y.Ah,l2,show Ax (.FN false .mp) [.map (some id),.map none]=some (.bool false) from rfl,q,o,j,g]
   .rw[u i (λe=>R5 (e▸ā rfl))];exact f.old i hi R5
 .have r:A.Gy x=A.inr x:=by unfold Ar.Gy;rw[Ad h0]
  have s:A.DS x=A:=by unfold Ar.DS;rw[Ad h0]
  refine⟨h,n,m,ps,?_,by rw[s];exact w,.refl⟩;rw[Ac h0] at g1;rw[Ak,Sg,uF,r];simp only[Ch,l1,g1]
def J1.Ą(b:J1 A)(h1:A.len+1<=1000000000):J1 (A.DS x):=by
 unfold Ar.DS;split;.exact b
 .have:=b.add (y:={kind:=1,CD:=A.len+1}) h1 Au Au;exact⟨this.n,this.at_,this.data⟩
def nO(hk:A.has x){d:Int}:(A.DS d).nd x=A.nd x:=TP (.inl (TU hk))
def ą{l:List AS}{v:Aa}{d sp:Int}{nm:Aq}(w:PA h a n m ps A)(z:J1 A)(hb:A.len+3<=1000000000)(hd:A.has d/\(A.nd d).kind=1)(hsp:BS.JC sp)(hv:Cl l v)(hl:l.length<=1000000000)(hs:∀y∈l,BS.JC y.AY):
  ∃h' n' m' KD,Cm cx 130 [Pt a 0,I d,I sp,.str nm,v] h (.tuple [I (A.len+1),I 0]) h'/\PA h' a n' m' KD (A.elem d sp nm l)/\ED h (λi=>i∈Eh a n m ps) h' (λi=>i∈Eh a n' m' KD)/\J1 (A.elem d sp nm l):=by
 have kX:=w.len;have s:=iw (h:=h) (Zx hv) hl hs;obtain⟨u,hu⟩:∃u,u=RP (CI l):=⟨_,rfl⟩;rw[<-hu] at s;have oN:(CI l).length<=1000000000:=by have:=Pw (l:=l);omega
 have b:=iu (h:=h) (y:=sp);rw[Bs hsp] at b;obtain⟨h1,M,w1,P,l1⟩:=bw w Ab ⟨{kind:=4,CD:=d,AY:=sp,name:=nm,AB:=CI l},.slnil,u,hu⟩ rfl rfl;have ic:=z.add (y:={kind:=4,CD:=d,AY:=sp,name:=nm,AB:=CI l}) Ab oN Au;have Qm:(A.add {kind:=4,CD:=d,AY:=sp,name:=nm,AB:=CI l}).has (A.len+1):=Dj.2 (.inr rfl);have P1:(A.add {kind:=4,CD:=d,AY:=sp,name:=nm,AB:=CI l}).nd (A.len+1)={kind:=4,CD:=d,AY:=sp,name:=nm,AB:=CI l}:=by rw[FV,Ad rfl]
 have D:=w.PG (p:=⟨{kind:=4,CD:=d,AY:=sp,name:=nm,AB:=CI l},.slnil,u,hu⟩) rfl P l1;have ij:Cm cx 90 [Pt a 0,.agg [I 4,I 0,.slnil,I d,I sp,.str nm,u,.str [],.str [],.str [],.bool false,I 0,I 0]] h (I (A.len+1)) h1:=M;have r2:=Hk w1 ic Qm;have e:=þ w1 Qm;rw[P1] at e;have hc:u.cells=[u]:=by rw[hu];exact Bu.cells Sj
 unfold Ar.elem;simp only
 by_cases o:Z9 {kind:=4,CD:=d,AY:=sp,name:=nm,AB:=CI l}
 .rw[Ad o];rw[Bs o] at e;have ot:(A.add {kind:=4,CD:=d,AY:=sp,name:=nm,AB:=CI l}).has d:=Dj.2 (.inl hd.1);obtain⟨h2,T,U,XI,L,q,G⟩:=ă w1 ic (by rw[Mf];omega) ot;have t:=ic.Ą (x:=d) (by rw[Mf];omega);have Z8:((XI.length:Nat):Int)=((A.add {kind:=4,CD:=d,AY:=sp,name:=nm,AB:=CI l}).DS d).len:=q.len;have jX:((A.add {kind:=4,CD:=d,AY:=sp,name:=nm,AB:=CI l}).DS d).len<=A.len+2:=by rw[m6,Mf];split<;>omega
  obtain⟨S,K,c,O,l3⟩:=bw q Ab ⟨{kind:=2,D0:=A.len+1,CD:=(A.add {kind:=4,CD:=d,AY:=sp,name:=nm,AB:=CI l}).Gy d},.slnil,.slnil,rfl⟩ rfl rfl;obtain⟨f,B⟩:∃f,f=XI++[⟨{kind:=2,D0:=A.len+1,CD:=(A.add {kind:=4,CD:=d,AY:=sp,name:=nm,AB:=CI l}).Gy d},.slnil,.slnil,rfl⟩]:=⟨_,rfl⟩;have C:=q.PG (p:=⟨{kind:=2,D0:=A.len+1,CD:=(A.add {kind:=4,CD:=d,AY:=sp,name:=nm,AB:=CI l}).Gy d},.slnil,.slnil,rfl⟩) rfl O l3;rw[<-B] at c C;have g:=t.add (y:={kind:=2,D0:=A.len+1,CD:=(A.add {kind:=4,CD:=d,AY:=sp,name:=nm,AB:=CI l}).Gy d}) Ab Au Au;have r:Cm cx 90 [Pt a 0,.agg [I 2,I 0,.slnil,I ((A.add {kind:=4,CD:=d,AY:=sp,name:=nm,AB:=CI l}).Gy d),I 0,.str [],.slnil,.str [],.str [],.str [],.bool false,I 0,I (A.len+1)]] h2 _ S:=K;have WU:=LN (h:=d) Qm;have zk:=Dj (x:={kind:=2,D0:=A.len+1,CD:=(A.add {kind:=4,CD:=d,AY:=sp,name:=nm,AB:=CI l}).Gy d}).2 (.inl WU);have j:(((A.add {kind:=4,CD:=d,AY:=sp,name:=nm,AB:=CI l}).DS d).add {kind:=2,D0:=A.len+1,CD:=(A.add {kind:=4,CD:=d,AY:=sp,name:=nm,AB:=CI l}).Gy d}).nd (A.len+1)={kind:=4,CD:=d,AY:=sp,name:=nm,AB:=CI l}:=by rw[E5 WU,nO Qm,P1]
  have J:=Hk c g zk;have hp:=(c.pn zk).2.1;rw[j] at hp;obtain⟨R,H,E,Q,N,l4⟩:=c.wr zk (k:=11) Be (v:= I (((A.add {kind:=4,CD:=d,AY:=sp,name:=nm,AB:=CI l}).DS d).len+1)) rfl (p:=⟨{kind:=4,CD:=d,AY:=sp,name:=nm,AB:=CI l,cont:=((A.add {kind:=4,CD:=d,AY:=sp,name:=nm,AB:=CI l}).DS d).len+1},(pN f (A.len+1)).kv,(pN f (A.len+1)).av,by have:=(pN f (A.len+1)).ok;rw[hp] at this;exact this⟩) (by simp only[PN.row];rw[hp];rfl) rfl (by rw[j]);refine⟨R,_,_,_,?_,E,D.trans (G.trans (C.trans (c.uU E Q N l4))),g.set oN Au⟩;rw[Ak,Xy,zR];simp only[abS,Nat.reduceLeDiff,↓reduceIte,Bt,(uQ (x:=d) w z).Ah,Ad hd.1,Ad hd.2,CF,B0,s.Ah,FY,b.Ah,hc,ij.Ah,r2.Ah,e.Ah,L.Ah,r.Ah,J.Ah,H]
 .rw[Ac o];rw[Bk o] at e;refine⟨h1,_,_,_,?_,w1,D,ic⟩;rw[Ak,Xy,zR];simp only[abS,Nat.reduceLeDiff,↓reduceIte,Bt,(uQ (x:=d) w z).Ah,Ad hd.1,Ad hd.2,CF,B0,s.Ah,FY,b.Ah,hc,ij.Ah,r2.Ah,e.Ah]
def V6{U:Type}{p q:U->Bool}{y:U}:∀{l:List U},(∀x∈l,p x=true->q x=true)->y∈l->p y=false->q y=true->(l.filter p).length<(l.filter q).length
 |[],_,h,_,_=>by cases h
 |x::l,hi,hy,hp,hq=>by
  have le:∀{l:List U},(∀x∈l,p x=true->q x=true)->(l.filter p).length<=(l.filter q).length:=by
   intro l;induction l with
   |nil=>intro _;simp
   |cons z l ih=>
    intro hi;have:=ih λx hx=>hi x (by simp[hx]);rw[FJ,FJ];split;.rename_i hz;rw[Ad (hi z Au hz)];simp;exact this
    .split;.simp;omega
     .exact this
  have hl:=λx (hx:x∈l)=>hi x (by simp[hx]);rw[FJ,FJ];rcases Az.1 hy with rfl|hy
  .rw[Ac (by simp[hp]),Ad hq];have:=le hl;simp;omega
  .have ih:=V6 hl hy hp hq;split;.rename_i hz;rw[Ad (hi x Au hz)];simp;exact ih
   .split;.simp;omega
    .exact ih
def eO{r:Int->Nat}{k y:Int}(hr:∀h,A.has h->A.up h≠0->r (A.up h)<r h)(hR:Reach A k y)(hy:A.has y):r k<=r y:=by
 induction hR with
 |refl=>exact Af _
 |@step z h1 h2 ih=>
  by_cases hz:A.has (A.up z);.have:=ih hz;have:=hr z hy h1;omega
  .cases h2 with
   |refl=>have:=hr z hy h1;omega
   |step b _=>exact absurd (TM hz) b
open Classical in
def eP{e:Int}(ok:C8 A e):∃r:Int->Nat,(∀h,A.has h->A.up h≠0->r (A.up h)<r h)/\∀h,r h<=A.n.length:=by
 obtain⟨r,hr⟩:=ok.UQ;refine⟨λh=>((List.range A.n.length).filter λ(i:Nat)=>decide (Reach A ((i:Int)+1) h/\(i:Int)+1≠h)).length,λh b hu=>?_,λh=>?_⟩
 .have gy:=cZ ok b hu;have Ow:=gy;unfold Ar.has at Ow;have e1:(((A.up h).toNat-1:Nat):Int)+1=A.up h:=Ab;refine V6 (y:=(A.up h).toNat-1) (λi _ hi=>?_) (vY.2 Ab) ?_ ?_;.rw[Df] at hi⊢;refine⟨.step hu hi.1,λe=>?_⟩;have h1:=eO hr hi.1 gy;have h2:=hr h b hu;rw[e] at h1;omega
  .rw[e1];simp
  .rw[e1,Df];exact⟨.step hu .refl,gj ok b hu⟩
 .have:=wq (λ(i:Nat)=>decide (Reach A ((i:Int)+1) h/\(i:Int)+1≠h)) (List.range A.n.length);rwa [List.length_range] at this
def PA.cell(w:PA h a n m ps A)(hx:A.has x){k:Nat}(hk:k<13):(ps.map PN.row).flatten[0+(x.toNat-1)*13+k]?=(pN ps x).row[k]?:=by rw[Bm];exact T9 (Zw ps) hk (by rw[CT,(w.pn hx).1];rfl)
open Classical in
def Ud(w:PA h a n m ps A){up:Int}{r:Int->Nat}{e:Int}(ok:C8 A e)(hr:∀h,A.has h->A.up h≠0->r (A.up h)<r h)(gy:up≠0):∀(fuel:Nat) (x:Int),(x=0\/(A.has x/\r x<fuel))->JL (ps.map PN.row).flatten 0 ps.length up fuel x=some (decide (Reach A up x))
 |fuel,x,hx=>by
  by_cases h0:x=0
  .subst h0;have no:¬Reach A up 0:=by
    intro hR;cases hR with
    |refl=>exact gy rfl
    |step h1 _=>exact h1 (TM (by unfold Ar.has;omega))
   rw[Bk no];cases fuel<;>rfl
  .have hx:=hx.resolve_left h0;cases fuel with
   |zero=>omega
   |succ fuel=>
    have e1:JL (ps.map PN.row).flatten 0 ps.length up (fuel+1) x=if x=up then some true else if 1<=x/\x<=ps.length then
      match Fq (ps.map PN.row).flatten 0 x 1,Fq (ps.map PN.row).flatten 0 x 12 with
      |some p,some q=>JL (ps.map PN.row).flatten 0 ps.length up fuel (if p=0 then q else p)
      |_,_=>none
     else none:=by
     rw[JL];.rfl
     .exact λh=>h0 h
    rw[e1];by_cases fx:x=up;.rw[Ad fx,fx,Bs .refl]
    .rw[Ac fx,Ad (by have:=hx.1;have:=w.eL;unfold Ar.has at*;omega)];have c1:Fq (ps.map PN.row).flatten 0 x 1=some (A.nd x).ER:=by unfold Fq;rw[w.cell hx.1 Be,<-(w.pn hx.1).2.1];rfl
     have c2:Fq (ps.map PN.row).flatten 0 x 12=some (A.nd x).D0:=by unfold Fq;rw[w.cell hx.1 Be,<-(w.pn hx.1).2.1];rfl
     rw[c1,c2];simp only
     have c:(if(A.nd x).ER=0 then(A.nd x).D0 else(A.nd x).ER)=A.up x:=by unfold Ar.up;by_cases h:(A.nd x).ER=0<;>simp[h]
     rw[c];have ih:=Ud w ok hr gy fuel (A.up x) (by
      by_cases hu:A.up x=0;.exact .inl hu
      .exact .inr ⟨cZ ok hx.1 hu,by have:=hr x hx.1 hu;omega⟩)
     rw[ih];congr 1
     rw[Eb];constructor
     .intro h1;by_cases hu:A.up x=0
      .rw[hu] at h1;cases h1 with
       |refl=>exact absurd rfl gy
       |step b _=>exact absurd (TM (by unfold Ar.has;omega)) b
      .exact .step hu h1
     .intro h1;cases h1 with
      |refl=>exact absurd rfl fx
      |step _ h2=>exact h2
open Classical in
def Ć{up e:Int}(w:PA h a n m ps A)(ok:C8 A e)(hu:A.has up)(hx:A.has x):Cm cx 142 [Pt a 0,I up,I x] h (.bool (decide (Reach A up x))) h:=by
 obtain⟨r,hr,b⟩:=eP ok;have NQ:=w.eL;have hc:=Ud w ok hr (up:=up) (by have:=hu.1;omega) (ps.length+1) x (.inr ⟨hx,by have:=b x;omega⟩);have e1:D4 (.P3 LF) h [Pt a 0,I up,I x]=some (h,.bool (decide (Reach A up x))):=by simp only[D4,LF,w.ha,w.hn];rw[Ad (by rw[uR];omega),Ad (by unfold Ar.has at hu hx;omega),hc];rfl
 rw[Ak,show BK cx 142 [Pt a 0,I up,I x]=LG [Pt a 0,I up,I x] from rfl,LG];simp only[Ch,e1]
structure OK(h:Ag)(v:Aa)(l:List Int):Prop where
 len:Ax (.len false) [v]=some (I (l.length:Int))
 at_:∀k (hk:k<l.length),∃p,Ax (.F8 1) [v,I (k:Int)]=some p/\BE h none p=some (I l[k])
def Iv.RR{kv:Aa}{l:List Int}(hk:Iv h kv l):OK h kv l:=by
 refine⟨hk.len,λk hlt=>?_⟩;rcases hk with⟨rfl,rfl⟩|⟨id,cs,rfl,hc⟩
 .simp at hlt
 .refine⟨Pt id k,by have:=H6 (id:=id) (z:=1) (k:= .i64) hlt;rwa [Iy] at this,?_⟩;simp only[BE,hc,Ji];rw[Ai (by simpa using hlt)];simp[hlt]
def Hu.RR{v:Aa}{l:List Int}(hv:Hu l v):OK h v l:=⟨Bu.GF hv,λk hk=>⟨_,Bu.Dl hv hk,rfl⟩⟩
def sy{v:Aa}{l:List Int}(hv:OK h v l)(hb:l.length<=1000000000)(x:Int):Cm cx 49 [v,I x] h (I (B5 (λy=>decide (x=y)) 0 l)) h:=by
 rw[Ak,tJ,t49];simp only[Ch,hv.len];refine BL (λk:Nat=>[I 0,I (k:Int)]) (λk h1=>k<=l.length/\B5 (λy=>decide (x=y)) 0 l=B5 (λy=>decide (x=y)) k (l.drop k)/\h1=h) (λk=>l.length-k) 0 rfl ⟨A8 _,rfl,rfl⟩ ?_;rintro k h1 ⟨hk,ha,rfl⟩;rcases BH k l.length with hlt|HK
 .have i1:(k:Int)<(l.length:Int):=by omega
  obtain⟨p,e1,b⟩:=hv.at_ k hlt;rw[AE hlt,B5] at ha;simp only[abS,i1,e1,b,CQ (Ab:k<9223372036854775807)];refine⟨λh2=>?_,λh2=>?_⟩;.rw[ha,Ad (by simpa using h2)]
  .rw[Ac (by simpa using h2)] at ha;exact A6.next (k+1) rfl ⟨hlt,ha,rfl⟩ Ab
 .have i1:¬(k:Int)<(l.length:Int):=by omega
  rw[Bc HK,B5] at ha;simp only[abS,i1,ha]
def XJ{l:List Int}{x:Int}(hx:x∈l):∃k,k<l.length/\B5 (λy=>decide (x=y)) 0 l=(k:Int)/\l[k]?=some x/\l.takeWhile (λy=>decide (y≠x))=l.take k/\l.dropWhile (λy=>decide (y≠x))=l.drop k:=by
 have key:∀(l:List Int) (s:Nat),x∈l->∃k,k<l.length/\B5 (λy=>decide (x=y)) s l=((s+k:Nat):Int)/\l[k]?=some x/\l.takeWhile (λy=>decide (y≠x))=l.take k/\l.dropWhile (λy=>decide (y≠x))=l.drop k:=by
  intro l;induction l with
  |nil=>intro s h;cases h
  |cons z l ih=>
   intro s h;by_cases e:x=z;.subst e;exact⟨0,Au,by rw[B5,Ad Au];simp,rfl,Au,Au⟩
   .have h2:x∈l:=(Az.1 h).resolve_left e;obtain⟨k,c,b,k3,g,f⟩:=ih (s+1) h2;have d:z≠x:=λi=>e i.symm;refine⟨k+1,by simp;exact c,by rw[B5,Ac (by simpa using e),b];congr 1;omega,by simpa using k3,?_,?_⟩;.rw[List.takeWhile_cons,Ad (by simpa using d),g];rfl
    .rw[List.dropWhile_cons,Ad (by simpa using d),f];rfl
 obtain⟨k,c,b,k3⟩:=key l 0 hx;exact⟨k,c,by simpa using b,k3⟩
def PH{l:List Int}{x:Int}{k:Nat}(hn:l.Nodup)(hk:l[k]?=some x):l.take k++l.drop (k+1)=l.filter λy=>decide (y≠x):=by
 obtain⟨hlt,e⟩:=Ae.1 hk;have e1:l=l.take k++x::l.drop (k+1):=by conv=>lhs;rw[<-BY k l,AE hlt,e]
 rw[e1,Bx,By] at hn;conv=>rhs;rw[e1,D3,FJ,Ac Au]
 rw[Ve.2 (λy hy=>by simpa using λb:y=x=>hn.2.2 y hy x Au b),Ve.2 (λy hy=>by simpa using λb:y=x=>hn.2.1.1 (b▸hy))]
def s_{id l k:Nat}(hl:0<l)(hk:k<=l):Ax (.P4 1 false false true) [.CG id 0 l 1,I (k:Int)]=some (.CG id 0 k 1):=by
 have e1:E8 (k:Int) l=some k:=by unfold E8;rw[Ad Ab];rfl
 simp[Ax,JR,Dx,e1];omega
def ta{id l k:Nat}(hk:k<=l):Ax (.P4 1 false true false) [.CG id 0 l 1,I (k:Int)]=some (if k<l then .CG id k (l-k) 1 else .sl 1 []):=by
 have e1:E8 (k:Int) l=some k:=by unfold E8;rw[Ad Ab];rfl
 simp[Ax,JR,Dx,e1];split<;>rfl
def ć{id k:Nat}{l:List Int}{cs:List Aa}(hc:h[id]?=some (.cells (l.map (Aa.int .i64)++cs)))(hk:k<l.length)(hb:l.length<=1000000000):
  ∃Fx,Cm cx 181 [.CG id 0 l.length 1,I (k:Int),I ((k+1:Nat):Int)] h (.CG id 0 (l.length-1) 1) (h.set id (.cells ((l.take k++l.drop (k+1)).map (Aa.int .i64)++Fx))):=by
 have Hm:=(Ae.1 hc).1;have vu:(l.take k++l.drop (k+1)).length=l.length-1:=by rw[Ao,Av,AW];omega
 obtain⟨Pd,j,hcl⟩:∃Pd,hgrow h 1 8 (.CG id 0 k 1) (if k+1<l.length then .CG id (k+1) (l.length-(k+1)) 1 else .sl 1 [])=some (h.set id (.cells ((l.take k++l.drop (k+1)).map (Aa.int .i64)++Pd)),.CG id 0 (l.length-1) 1)/\1<=Pd.length:=by
  have e:Gt h 1 (if k+1<l.length then .CG id (k+1) (l.length-(k+1)) 1 else .sl 1 [])=some ((l.drop (k+1)).map Eo):=by
   by_cases Vo:k+1<l.length;rotate_left;.rw[Ac Vo,Bc Ab];rfl
   rw[Ad Vo];have b:=Lm (l:=l.drop (k+1)) (cs:=cs) (Gi:=(l.take (k+1)).map (Aa.int .i64));rw[<-AI,<-B3,BY] at b;simp only[Aw,Av,AW] at b;rw[Cg Ab] at b;simp only[Gt,BB,hc,b];rw[Ad D5]
  by_cases Ĉ:k+1=l.length
  .refine⟨I l[k]::cs,?_,Au⟩;have f:l.drop (k+1)=[]:=Bc Ab;rw[f] at e⊢;have d:l.map (Aa.int .i64)++cs=(l.take k++[]).map (Aa.int .i64)++ I l[k]::cs:=by
    have:l=l.take k++[l[k]]:=by conv=>lhs;rw[<-BY k l,AE hk,f]
    conv=>lhs;rw[this,B3,AI]
    rw[BN];rfl
   have g:h.set id (.cells ((l.take k++[]).map (Aa.int .i64)++ I l[k]::cs))=h:=by rw[<-d];obtain⟨Z8,s⟩:=Ae.1 hc;rw[<-s,HV]
   simp only[hgrow,e,De,BB];rw[g,(Ab:l.length-1=k)]
  .obtain⟨y,l2,hd⟩:∃y l2,l.drop (k+1)=y::l2:=⟨_,_,AE (Ab:k+1<l.length)⟩;have jX:(y::l2).length=l.length-(k+1):=by rw[<-hd,AW]
   rw[hd] at e;have ĉ:∀l3:List Int,(l3.map Eo).flatten=l3.map (Aa.int .i64):=by
    intro l3;induction l3 with
    |nil=>rfl
    |cons z l3 ih=>simp[Eo,ih]
   refine⟨(l.map (Aa.int .i64)++cs).drop (l.length-1),?_,D5⟩;simp only[hgrow,e,AZ,hc,BB];have r:(Eo y::l2.map Eo).length=l.length-(k+1):=by rw[<-jX];simp
   have q:(Eo y::l2.map Eo).flatten=(y::l2).map (Aa.int .i64):=by have:=ĉ (y::l2);simpa using this
   rw[r,q,Ad D5];have p:(l.map (Aa.int .i64)++cs).take (0+k*1)=(l.take k).map (Aa.int .i64):=by rw[Bm,Iy,CY D5,HO]
   rw[p,hd,(Ab:0+(k+(l.length-(k+1)))*1=l.length-1),(Ab:k+(l.length-(k+1))=l.length-1)];simp
 generalize ix:h.set id (.cells ((l.take k++l.drop (k+1)).map (Aa.int .i64)++Pd))=h2 at j;have Jr:h2[id]?=some (.cells ((l.take k++l.drop (k+1)).map (Aa.int .i64)++Pd)):=by rw[<-ix];exact AA Hm
 have f:D4 (.kL 1 true true) h2 [.CG id 0 (l.length-1) 1,I ((l.length-1:Nat):Int),I (l.length:Int)]=some (h2,.CG id (l.length-1) 1 1):=by
  simp only[D4,Ya,Jr];have eQ:((l.take k++l.drop (k+1)).map (Aa.int .i64)++Pd).length=l.length-1+Pd.length:=by rw[Ao,Aw,vu]
  have e1:E8 (l.length:Int) ((((l.take k++l.drop (k+1)).map (Aa.int .i64)++Pd).length-0)/1)=some l.length:=by unfold E8;rw[Ad (by rw[eQ];omega)];rfl
  have b:E8 ((l.length-1:Nat):Int) l.length=some (l.length-1):=by unfold E8;rw[Ad Ab];rfl
  rw[Ad ⟨trivial,trivial,A8 _⟩];simp only[Dx,e1,b,BU,BM];rw[Ad (by rw[eQ];omega)];congr 3
  .omega
  .omega
 have o:D4 (.clear 1 [I 0]) h2 [.CG id (l.length-1) 1 1]=some (h.set id (.cells ((l.take k++l.drop (k+1)).map (Aa.int .i64)++(I 0::Pd.drop 1))),.bool true):=by
  simp only[D4,Sq,Jr];rw[Ad ⟨trivial,rfl,by rw[Ao,Aw,vu];omega⟩];congr 2
  rw[<-ix,uq];congr 2
  have d:(((l.take k++l.drop (k+1)).map (Aa.int .i64)++Pd).take (l.length-1))=(l.take k++l.drop (k+1)).map (Aa.int .i64):=HI (by rw[Aw,vu]);have g:(((l.take k++l.drop (k+1)).map (Aa.int .i64)++Pd).drop (l.length-1+1*1))=Pd.drop 1:=by rw[show l.length-1+1*1=((l.take k++l.drop (k+1)).map (Aa.int .i64)).length+1 by rw[Aw,vu],PS];simp
  rw[d,g];simp
 refine⟨I 0::Pd.drop 1,?_⟩;have c:∀i n,Ax (.len false) [.CG i 0 n 1]=some (I (n:Int)):=λ_ _=>rfl;have d:D4 (.aD 1) h [.CG id 0 l.length 1,I (k:Int),I ((k+1:Nat):Int),I (l.length:Int)]=some (h,.bool true):=by simp only[D4,Sr];simp;omega
 rw[Ak,jH,rp];simp only[abS,c,d,(Ab:¬(k:Int)=((k+1:Nat):Int)),s_ (id:=id) (Ab:0<l.length) (Ab:k<=l.length),ta (id:=id) (Ab:k+1<=l.length),j,f,o]
def uV:∀{n:Nat} {l:List Int},l.Nodup->(∀x∈l,1<=x/\x<=n)->l.length<=n
 |0,l,_,h=>by
  cases l with
  |nil=>simp
  |cons x l=>have:=h x Au;omega
 |n+1,l,hn,h=>by
  have ih:=uV (n:=n) (l:=l.filter λx=>decide (x≠(n:Int)+1)) (hn.filter _) (λx hx=>by
   have h1:=CH.1 hx;have h2:=h x h1.1;have c:x≠(n:Int)+1:=by simpa using h1.2
   omega)
  have key:∀{l:List Int},l.Nodup->l.length<=(l.filter λx=>decide (x≠(n:Int)+1)).length+1:=by
   intro l hl;induction l with
   |nil=>simp
   |cons x l ih=>
    rw[By] at hl;rw[FJ];by_cases e:x=(n:Int)+1;.rw[Ac (by simp[e]),Ve.2 (λy hy=>by simpa using λb:y=(n:Int)+1=>hl.1 (by rw[e,<-b];exact hy))];simp
    .rw[Ad (by simpa using e)];have:=ih hl.2;simp only[AH];omega
  have:=key hn;omega
def uW{e:Int}(ok:C8 A e)(x:Int):(A.nd x).AP.length<=A.n.length:=by
 by_cases hx:A.has x;.refine uV (ok.Qv x hx).mY λk hk=>?_;exact(ok.KU x hx k hk).1
 .rw[Km hx];exact A8 _
def J1.AP{e:Int}(b:J1 A)(ok:C8 A e)(x:Int):(A.nd x).AP.length<=1000000000:=A5 (uW ok x) b.n
def J1.aCe{l:List Int}(b:J1 A):J1 (A.set x {A.nd x with AP:=l}):=b.set (b.at_ x) (b.data x)
def J1.aCf{p:Int}(b:J1 A):J1 (A.set x {A.nd x with ER:=p}):=b.set (b.at_ x) (b.data x)
def J1.cut(b:J1 A):J1 (A.cut x):=by
 unfold Ar.cut;simp only;split;.exact b
 .exact J1.aCf b.aCe
def Ċ{e:Int}(w:PA h a n m ps A)(d:J1 A)(ok:C8 A e)(hx:A.has x):
  ∃h' KD,Cm cx 132 [Pt a 0,I x] h (.tuple []) h'/\PA h' a n m KD (A.cut x)/\ED h (λi=>i∈Eh a n m ps) h' (λi=>i∈Eh a n m KD):=by
 have hb:=d.AP ok;by_cases hp:(A.nd x).ER=0
 .have o:A.cut x=A:=by unfold Ar.cut;simp only;rw[Ad hp]
  refine⟨h,ps,?_,by rw[o];exact w,.refl⟩;rw[Ak,XA,zT];simp only[abS,(Hk w d hx).Ah,w.f1 hx,hp]
 .obtain⟨hq,hk⟩:=ok.ER x hx hp;generalize ť:(A.nd x).ER=q at*;have hne:q≠x:=by rw[<-ť];exact dA ok hx (by rw[ť];exact hp)
  obtain⟨k,g,D,k3,_,_⟩:=XJ hk;have KU:=w.KU hq;have f:=sy KU.RR (hb q) x;rw[D] at f;rcases Ŧ:KU with⟨_,e0⟩|⟨id,cs,b,hc⟩
  .rw[e0] at g;simp at g
  clear Ŧ;rw[b] at f;obtain⟨Fx,r2⟩:=ć hc g (hb q);rw[PH (ok.Qv q hq).mY k3] at r2;have Vu:(A.nd q).AP.length-1=((A.nd q).AP.filter λy=>decide (y≠x)).length:=by rw[<-PH (ok.Qv q hq).mY k3,Ao,Av,AW];omega
  rw[Vu] at r2;have xH:=(Ae.1 hc).1;have j:=(w.pn hq).2.1;generalize ll:h.set id (.cells (((A.nd q).AP.filter λy=>decide (y≠x)).map (Aa.int .i64)++Fx))=h1 at r2;have ċ:id∈Eh a n m ps:=Jk (w.pn hq).2.2 (by rw[b];rfl);have aCg:id≠n:=by intro e1;have:=w.nd;unfold Eh at this;simp only[By,Az,OO] at this;exact this.2.1 (e1▸Al.2 (.inr (BR.2 ⟨_,(w.pn hq).2.2,by rw[b];rfl⟩)))
  have aHj:id≠a:=by intro e1;have:=w.nd;unfold Eh at this;simp only[By,Az,OO] at this;exact this.1.2 (e1▸Al.2 (.inr (BR.2 ⟨_,(w.pn hq).2.2,by rw[b];rfl⟩)))
  obtain⟨c,Zz⟩:∃c:PN,c=⟨{A.nd q with AP:=(A.nd q).AP.filter λy=>decide (y≠x)},.CG id 0 ((A.nd q).AP.filter λy=>decide (y≠x)).length 1,(pN ps q).av,w.att hq⟩:=⟨_,rfl⟩;have Č:c.row=(pN ps q).row.set 2 (.CG id 0 ((A.nd q).AP.filter λy=>decide (y≠x)).length 1):=by rw[Zz];simp only[PN.row];rw[j];rfl
  have r:h1[n]?=h[n]?:=by rw[<-ll,Aj aCg]
  have s:=w.sto hq (k:=2) Be (v:= .CG id 0 ((A.nd q).AP.filter λy=>decide (y≠x)).length 1) rfl Č r;have č:Gd c.kv=Gd (pN ps q).kv:=by rw[Zz,b];rfl
  have w1:=w.oL hq (p:=c) (h1:=h1) (λi _ hi=>by rw[<-ll,Aj];intro e1;exact hi (by rw[b,e1];rfl)) (by rw[Zz];exact .inr ⟨id,Fx,rfl,by rw[<-ll];exact AA xH⟩) (.inl č)
  have iy:=jU w hq č;generalize ix:h1.set n (.cells ((ps.set (q.toNat-1) c).map PN.row).flatten)=h2 at s w1;generalize aHk:ps.set (q.toNat-1) c=QD at w1 iy;have l:c.x={A.nd q with AP:=(A.nd q).AP.filter λy=>decide (y≠x)}:=by rw[Zz]
  rw[l] at w1;have Qm:(A.set q {A.nd q with AP:=(A.nd q).AP.filter λy=>decide (y≠x)}).has x:=HN.2 hx;have o7:=(w1.pn Qm).2.1;have P1:(A.set q {A.nd q with AP:=(A.nd q).AP.filter λy=>decide (y≠x)}).nd x=A.nd x:=by rw[GP,Ac (λh=>hne h.1.symm)]
  obtain⟨E,z,u,i3,B,l3⟩:=w1.wr Qm (k:=1) Be (v:= I 0) rfl (p:=⟨{A.nd x with ER:=0},(pN QD x).kv,(pN QD x).av,by have:=(pN QD x).ok;rw[o7,P1] at this;exact this⟩) (by simp only[PN.row];rw[o7,P1];rfl) rfl (B1 DB.AP P1).symm;have o:A.cut x=(A.set q {A.nd q with AP:=(A.nd q).AP.filter λy=>decide (y≠x)}).set x {A.nd x with ER:=0}:=by unfold Ar.cut;simp only;rw[ť,Ac hp,P1]
  refine⟨E,_,?_,by rw[o];exact u,?_⟩;.have inc:=CQ (show k<9223372036854775807 by have:=hb q;omega);rw[Ak,XA,zT];simp only[abS,(Hk w d hx).Ah,(Hk w d hq).Ah,w.f1 hx,ť,hp,w.f2 hq,b,f.Ah,inc,r2.Ah,s,z]
  .have aHl:h2.length=h.length:=by rw[<-ix,Bz,<-ll,Bz]
   refine⟨Ab,λi hi R5=>?_,λi hi=> .inl (by rw[i3,iy] at hi;exact hi)⟩;have t:i≠n:=λe1=>R5 (e1▸by simp[Eh]);have C:i≠id:=λe1=>R5 (e1▸ċ);rw[B i t,<-ix,Aj (Dv t),<-ll,Aj (Dv C)]
end
end Go.Am
end
