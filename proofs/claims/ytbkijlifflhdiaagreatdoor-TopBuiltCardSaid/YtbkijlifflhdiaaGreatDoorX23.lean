/- Lemmas -/
import Derived.Test.YtbkijlifflhdiaaGreatDoorX19
import Derived.Test.YtbkijlifflhdiaaGreatDoorX20
import Derived.Test.YtbkijlifflhdiaaGreatDoorX21
import Derived.Test.YtbkijlifflhdiaaGreatDoorX22
import Derived.Test.YtbkijlifflhdiaaGreatDoorX18
set_option linter.all false
set_option maxRecDepth 100000
section
namespace Go.Am
open Go
abbrev vO:=List Aa->Option IT
def gd(g:IT):vO:=λl=>match l with
 |[]=>some (g)
 |_=>none
def LL(g:Aa->IT):vO:=λl=>match l with
 |[a0]=>some (g a0)
 |_=>none
def FM(g:Aa->Aa->IT):vO:=λl=>match l with
 |[a0,a1]=>some (g a0 a1)
 |_=>none
def SI(g:Aa->Aa->Aa->IT):vO:=λl=>match l with
 |[a0,a1,a2]=>some (g a0 a1 a2)
 |_=>none
def oX(g:Aa->Aa->Aa->Aa->IT):vO:=λl=>match l with
 |[a0,a1,a2,a3]=>some (g a0 a1 a2 a3)
 |_=>none
def xj(g:Aa->Aa->Aa->Aa->Aa->IT):vO:=λl=>match l with
 |[a0,a1,a2,a3,a4]=>some (g a0 a1 a2 a3 a4)
 |_=>none
def UI(f:Nat)(g:vO):Prop:=∀l t,g l=some t->t=B2 cx f l
def vP{f:Nat}{g:IT}(h:B2 cx f []=g):UI f (gd g):=by
 intro l t ht;unfold gd at ht;split at ht;.cases ht;exact(h).symm
 .cases ht
def GL{f:Nat}{g:Aa->IT}(h:∀a0,B2 cx f [a0]=g a0):UI f (LL g):=by
 intro l t ht;unfold LL at ht;split at ht;.cases ht;exact(h _).symm
 .cases ht
def CS{f:Nat}{g:Aa->Aa->IT}(h:∀a0 a1,B2 cx f [a0,a1]=g a0 a1):UI f (FM g):=by
 intro l t ht;unfold FM at ht;split at ht;.cases ht;exact(h _ _).symm
 .cases ht
def LM{f:Nat}{g:Aa->Aa->Aa->IT}(h:∀a0 a1 a2,B2 cx f [a0,a1,a2]=g a0 a1 a2):UI f (SI g):=by
 intro l t ht;unfold SI at ht;split at ht;.cases ht;exact(h _ _ _).symm
 .cases ht
def Yk{f:Nat}{g:Aa->Aa->Aa->Aa->IT}(h:∀a0 a1 a2 a3,B2 cx f [a0,a1,a2,a3]=g a0 a1 a2 a3):UI f (oX g):=by
 intro l t ht;unfold oX at ht;split at ht;.cases ht;exact(h _ _ _ _).symm
 .cases ht
def xk{f:Nat}{g:Aa->Aa->Aa->Aa->Aa->IT}(h:∀a0 a1 a2 a3 a4,B2 cx f [a0,a1,a2,a3,a4]=g a0 a1 a2 a3 a4):UI f (xj g):=by
 intro l t ht;unfold xj at ht;split at ht;.cases ht;exact(h _ _ _ _ _).symm
 .cases ht
def mf:List (Nat×vO):=[(14,LL t14),(18,LL t18),(19,FM t19),(20,FM t20),(21,FM t21),(24,LL t24),(25,LL t25),(37,LL t37),(42,gd t42),(43,FM t43),(44,SI zy),(45,FM t45),(46,SI t46),(47,FM t47),(48,FM t48),(49,FM t49),(50,FM t50),(51,SI t51),(52,SI t52),(53,oX t53),(54,FM t54),(55,FM t55),(56,FM t56),(67,LL t67),(76,oX t76),(77,LL t77),(81,FM t81),(82,LL t82),(84,FM t84),(90,FM t90),(91,FM t91),(92,SI t92),(93,FM t93),(94,oX t94),(95,LL t95),(96,FM t96),(97,SI t97),(98,FM t98),(99,FM t99),(100,oX Yc),(113,FM vp),(116,SI vq),(117,FM bu),(120,FM vr),(127,FM t127),(128,FM vt),(129,LL vu),(130,xj cq),(131,FM cr),(132,FM cw),(134,SI vw),(135,FM vM),(136,LL vy),(137,FM vz),(138,FM v_),(139,FM cy),(140,FM wb),(141,FM wc),(158,FM we),(161,FM wg),(170,gd wj),(171,FM wk),(172,LL wm),(173,FM wo),(176,LL wq),(177,FM wu),(178,LL wv),(179,LL wz),(180,FM vN),(181,SI w_),(182,LL xa),(183,FM xb),(205,FM xf),(206,LL ķ),(207,LL xg),(219,FM Ľ),(221,FM xh),(231,SI xi),(100027,LL S9)]
def vQ:List (Nat×vO)->Prop
 |[]=>True
 |(f,g)::l=>UI f g/\vQ l
def vR:vQ mf:=
 ⟨GL uK,GL fJ,CS uL,CS UF,CS fK,GL uM,GL uN,GL uP,vP uQ,CS fL,LM UG,CS uR,LM uS,CS fM,CS uT,CS uU,CS uV,LM uW,LM uX,Yk UH,CS uY,CS fN,CS uZ,GL vB,Yk fQ,GL fR,CS vD,GL vE,CS fS,CS fU,CS vF,LM vG,CS vH,Yk fV,GL vI,CS fW,LM vJ,CS vK,CS vL,Yk Lu,CS kC,LM kD,CS Ye,CS kE,CS kF,CS kG,GL kH,xk Yf,CS Yg,CS Yh,LM kI,CS S7,GL kJ,CS kK,CS kL,CS Yi,CS kM,CS kN,CS kO,CS kP,vP kR,CS kS,GL kT,CS kU,GL kW,CS kX,GL kY,GL kZ,CS S8,LM lA,GL lB,CS lC,CS lF,GL fo,GL lG,CS f_,CS lH,LM lI,GL Pv,trivial⟩
def gg(f:Nat):List (Nat×vO)->List Aa->Option IT
 |[],_=>none
 |(k,g)::l,args=>if Nat.beq k f then g args else gg f l args
def lJ{f:Nat}{args:List Aa}{t:IT}:∀{l:List (Nat×vO)},vQ l->gg f l args=some t->t=B2 cx f args
 |[],_,h=>by cases h
 |(k,g)::l,ha,h=>by
  simp only[gg] at h;split at h;.rename_i hk;have hk:k=f:=Nat.eq_of_beq_eq_true hk;subst hk;exact ha.1 _ _ h
  .exact lJ ha.2 h
noncomputable def z_(f:FuncId)(args:List Aa):IT:=match gg f mf args with
 |some t=>t
 |none=>B2 cx f args
def vS:z_=B2 cx:=by
 funext f args;unfold z_;split;.rename_i t h;exact lJ vR h
 .rfl
def UJ:Option Jb->Bool
 |some (.ret,[.bool true],_)=>true
 |_=>false
def VH{r:Option Jb}(h:UJ r=true):∃h',r=some (.ret,[.bool true],h'):=by
 unfold UJ at h;split at h;.exact⟨_,rfl⟩
 .cases h
def oY{f:FuncId}{args:List Aa}{h:Ah}(n:Nat)(hr:UJ (IT.run z_ n (z_ f args) h)=true):Ev cx f args h λr _=>r= .bool true:=by obtain⟨h',e⟩:=VH hr;rw[vS] at e;exact⟨n,_,_,_,e,rfl,_,rfl,rfl⟩
end Go.Am
end
section
namespace Go.Am
open Go
section
def aC0(s:Aq):OG cx 157 [.str s] (.bool (decide (s∈IW))):=by rw[Un,dh];rw[show ĥ (.str s)=sw s (.ret .ret [tt]) (.ret .ret [ff]) IW from rfl,tO];exact⟨λh=>by simp[h],λh=>by simp[h]⟩
section
variable{Q:IN}{h:Ah}{k:Aa->IT}{s:Aq}
@[simp] theorem vT:W cx (.Co 157 [.str s] k) Q h↔W cx (k (.bool (decide (s∈IW)))) Q h:=(aC0 s).Co rfl rfl
end
def aC1(s:Aq):OG cx 175 [.str s] (.bool (decide (s∈On\/s∈IW))):=by rw[Un,dz];rw[show į (.str s)=sw s (.ret .ret [tt]) (.Co 157 [.str s] λv=> .ret .ret [v]) On from rfl,tO];exact⟨λh=>by simp[h],λh=>by simp[h]⟩
def aC2(n:Int)(s:Aq):OG cx 161 [I n,.str s] (.bool (decide (n=3/\s∈MU))):=by
 rw[Un,kP,wg];by_cases h:n=3;.simp[h,MU];by_cases h1:s=[109,105]<;>by_cases h2:s=[109,110]<;>by_cases b:s=[109,111]<;>by_cases a:s=[109,115]<;>simp[h1,h2,b,a]
 .simp[h]
section
variable{Q:IN}{h:Ah}{k:Aa->IT}{s:Aq}{n:Int}
@[simp] theorem vU:W cx (.Co 175 [.str s] k) Q h↔W cx (k (.bool (decide (s∈On\/s∈IW)))) Q h:=(aC1 s).Co rfl rfl
@[simp] theorem ľ:W cx (.Co 161 [I n,.str s] k) Q h↔W cx (k (.bool (decide (n=3/\s∈MU)))) Q h:=(aC2 n s).Co rfl rfl
end
def Ŀ(n:Int)(s:Aq):OG cx 113 [I n,.str s] (.bool (HB n s)):=by
 rw[Un,kC];rw[show vp (I n) (.str s)= .op (.int .eql) [I n,I 3] λv=> .AX v (.op (.str .eql) [.str s,S aLa] λv=> .AX v (.ret .ret [tt]) (.Co 161 [I n,.str s] λv=> .ret .ret [v]))
  (.op (.int .eql) [I n,I 2] λv=> .AX v (sw s (.ret .ret [tt]) (.op (.str .eql) [.str s,S aLo] λv=> .ret .ret [v]) [aLI,aLc])
  (.op (.int .eql) [I n,I 1] λv=> .AX v (sw s (.ret .ret [tt]) (.ret .ret [ff]) Qg) (.ret .ret [ff]))) from rfl]
 by_cases a:n=3;.by_cases h:s=aLa<;>simp[a,HB,h]
 .by_cases h2:n=2;.by_cases ha:s=aLI<;>by_cases hb:s=aLc<;>simp[h2,tO,HB,WA,ha,hb]
  .by_cases h1:n=1;.by_cases h:s∈Qg<;>simp[h1,tO,HB,h]
   .simp[a,h2,h1,HB]
section
variable{Q:IN}{h:Ah}{k:Aa->IT}{s:Aq}{n:Int}
@[simp] theorem UK:W cx (.Co 113 [I n,.str s] k) Q h↔W cx (k (.bool (HB n s))) Q h:=(Ŀ n s).Co rfl rfl
end
end
section
end
section
section
variable{Q:IN}{h:Ah}{k:Aa->IT}{s:Aq}
end
section
variable{Q:IN}{h:Ah}{k:Aa->IT}{s:Aq}{n:Int}
end
end
section
def aC3(a b:Int)(h:Ah):Cx cx 221 [.int .i32 a,.int .i32 b] h (.func (.func 231) [] [.Cz [.int .i32 a],.Cz [.int .i32 b]]) h:=by rw[Aj,lH,xh];simp only[Cr]
def aC4(c a b:Int)(h:Ah):Cx cx 231 [.int .i32 c,.Cz [.int .i32 a],.Cz [.int .i32 b]] h (.bool (decide (a<=c/\c<=b))) h:=by rw[Aj,lI,xi];simp only[Cr];refine⟨λh=>by simp[h],λh=>by simp[h]⟩
def aC5(c:Int):OG cx 207 [.int .i32 c] (.bool (decide (65<=c/\c<=90))):=by rw[Un,lG,xg];simp only[Cr,Nat.reduceLeDiff,↓reduceIte,(aC3 _ _ _).Ag,De,(aC4 _ _ _ _).Ag]
def xl(s:Aq)(hs:s.length<=AQ):OG cx 182 [.str s] (.str (F7 s)):=by
 have YH:s.length<=140737488355328:=hs;rw[Un,lB,xa];have j:Ir [] (.str s)=some ([.cells ((GI s 0).map Nf)],.CL 0 0 s.length 1):=by simp only[Ir,hs,BH];rfl
 have i:Ay (.len false) [.CL 0 0 s.length 1]=some (I (s.length:Int)):=rfl;simp only[Cr,j,i];refine BI (λn:Nat=>[I (n:Int)]) (λn h=>n<=s.length/\h=[.cells ((GI s n).map Nf)]) (λn=>s.length-n) 0 rfl ⟨A7 _,rfl⟩ ?_;rintro n h ⟨hn,rfl⟩;rcases Bg n s.length with hlt|GW
 .have i1:(n:Int)<(s.length:Int):=by omega
  have g:Ay (.Gm 1) [.CL 0 0 s.length 1,I (n:Int)]=some (Pt 0 n):=by simp[Ay,elemOf,LW,hlt]
  have f:Bq [.cells ((GI s n).map Nf)] none (Pt 0 n)=some (.int .u8 (s[n].toNat:Int)):=eF (by rw[Cn,Uq hlt];rfl);have e:IntKind.i32.wrap (s[n].toNat:Int)=(s[n].toNat:Int):=tM (by have:=s[n].toNat_lt;omega);simp only[Cr,i1,AL,AP,AI,g,f,XQ,e,(aC5 _).Co rfl rfl,Ci (Ab:n<9223372036854775807)];refine⟨λhe=>?_,λhe=>?_⟩
  .have mg:65<=s[n].toNat/\s[n].toNat<=90:=by omega
   have d:CM [.cells ((GI s n).map Nf)] 1 (Pt 0 n) (.int .u8 ((s[n].toNat:Int)-65+97))=some [.cells (((GI s n).map Nf).set n (.int .u8 ((s[n].toNat:Int)-65+97)))]:=ZR (by rw[As,Uo];exact hlt) rfl;simp only[Cr,dZ,dY,wrap_u8 (Ab:0<=((s[n].toNat:Int)-65)/\((s[n].toNat:Int)-65)<=255),wrap_u8 (Ab:0<=((s[n].toNat:Int)-65+97)/\((s[n].toNat:Int)-65+97)<=255),d];refine A8.next (n+1) rfl ⟨hlt,?_⟩ Ab;rw[Qk hlt,Fo];have c:Nf (Iz s[n])= .int .u8 ((s[n].toNat:Int)-65+97):=by unfold Nf;rw[XU mg];congr 1;omega
   rw[c]
  .have YK:¬(65<=s[n].toNat/\s[n].toNat<=90):=by omega
   refine A8.next (n+1) rfl ⟨hlt,?_⟩ Ab;rw[Qk hlt,Qj YK,tP (Uq hlt)]
 .have i1:¬(n:Int)<(s.length:Int):=by omega
  have a:n=s.length:=Ab;subst a;have b:LA [.cells ((GI s s.length).map Nf)] (.CL 0 0 s.length 1)=some ([.DK],.sl 1 (CI (F7 s))):=by
   have hl:(F7 s).length=s.length:=by simp[F7]
   rw[ZQ];simp only[LA,Kk];rw[Ad (by simp[hl])];rw[NR (F7 s) s.length 0 Ab];simp
  simp only[Cr,i1,AM,AP,AI,b,Bu.Vk (s:=F7 s) .mk]
end
section
def Qu(l:Aq)(ws:List Aq):Prop:=Ev cx 206 [.str l] [] λr _=>r= .sl 1 (ws.map C1)
def OY{l:Aq}{ws:List Aq}(n:Nat)(hr:(IT.run z_ n (z_ 206 [.str l]) []).map (λx=>(x.1,x.2.1))=some (.ret,[.sl 1 (ws.map C1)])):Qu l ws:=by obtain⟨⟨x,vs,h⟩,a,b⟩:=zc.1 hr;cases b;rw[vS] at a;exact⟨n,_,_,_,a,rfl,_,rfl,rfl⟩
def ŀ{l:Aq}{ws:List Aq}(hf:Qu l ws)(hw:∀w∈ws,w.length<=AQ)(hn:ws.length<9223372036854775807)(name:Aq):OG cx 177 [.str name,.str l] (.str (Dv name ws)):=by
 rw[Un,kX,wu];refine qX (hf.mono λr h1 e=>?_);subst e;have bP:Bu 1 (ws.map C1) (.sl 1 (ws.map C1)):= .mk;simp only[Cr,bP.len];refine BI (λn:Nat=>[.str [],I (n:Int)]) (λn _=>n<=ws.length/\Dv name ws=Dv name (ws.drop n)) (λn=>ws.length-n) 0 rfl ⟨A7 _,rfl⟩ ?_;rintro n h ⟨xm,ha⟩;rcases Bg n ws.length with hlt|GW
 .have i1:(n:Int)<((ws.map C1).length:Int):=ER;have oZ:n<(ws.map C1).length:=by simpa using hlt
  have a:(ws.map C1)[n]=[.str ws[n]]:=by simp[C1]
  rw[AA hlt,Dv] at ha;simp only[Cr,i1,AL,AP,AI,bP.Gm oZ,a,(xl ws[n] (hw _ (AJ hlt))).Co rfl rfl,Ci (Ab:n<9223372036854775807)];refine⟨λhe=>?_,λhe=>?_⟩;.rw[ha,Ad he]
  .rw[Ac he] at ha;exact A8.next (n+1) rfl ⟨hlt,ha⟩ Ab
 .have i1:¬(n:Int)<((ws.map C1).length:Int):=ER;rw[Bd GW,Dv] at ha;simp only[Cr,i1,AM,AP,AI,ha]
def SJ:Qu Rl Mi:=OY 5000 A0
def SK:Qu Rm Mj:=OY 5000 A0
def aC6(s:Aq):OG cx 129 [.str s] (.str (Dv s Mi)):=by rw[Un,kH,show vu (.str s)= .Co 177 [.str s,.str Rl] λv=> .ret .ret [v] from rfl];rw[(ŀ (l:=Rl) SJ fY fY s).Co rfl rfl];simp only[Cr]
def f235(s:Aq):OG cx 176 [.str s] (.str (Dv s Mj)):=by rw[Un,kW,show wq (.str s)= .Co 177 [.str s,.str Rm] λv=> .ret .ret [v] from rfl];rw[(ŀ (l:=Rm) SK fY fY s).Co rfl rfl];simp only[Cr]
end
section
def f187{v:Aa}{l:List A3}(hv:Cp l v)(hn:l.length<9223372036854775807)(h:Ah){f:FuncId}{p:A3->Bool}(hp:∀a∈l,Cx cx f [.agg a.row] h (.bool (p a)) h)(hf:f<=99999):
  Cx cx 135 [v,.func (.func f) [] []] h (I (BZ p 0 l)) h:=by
 rw[Aj,S7,vM];have hlen:(l.map A3.row).length=l.length:=As ..;simp only[Cr,Bu.len hv];refine BI (λn:Nat=>[I 0,I (n:Int)]) (λn h1=>n<=l.length/\BZ p 0 l=BZ p n (l.drop n)/\h1=h) (λn=>l.length-n) 0 rfl ⟨A7 _,rfl,rfl⟩ ?_;rintro n h1 ⟨xm,ha,rfl⟩;rcases Bg n l.length with hlt|GW
 .have i1:(n:Int)<((l.map A3.row).length:Int):=by rw[hlen];omega
  have c:(l.map A3.row)[n]'(by rw[hlen];exact hlt)=A3.row l[n]:=Aw;have b:EJ (A3.row l[n]) 0 (some 3)=some (.agg (A3.row l[n])):=by simp[A3.row]
  rw[AA hlt,BZ] at ha;simp only[Cr,↓reduceIte,De,hf,BQ,i1,AL,AP,AI,Bu.Gm hv (show n<(l.map A3.row).length by rw[hlen];exact hlt),c,b,(hp _ (AJ hlt)).Ag];rw[Du];refine⟨λhe=>?_,λhe=>?_⟩;.rw[ha,Ad he]
  .rw[Ac (by simp[he])] at ha;simp only[Cr,Ci (Ab:n<9223372036854775807)];exact A8.next (n+1) rfl ⟨hlt,ha,rfl⟩ Ab
 .have i1:¬(n:Int)<((l.map A3.row).length:Int):=by rw[hlen];omega
  rw[Bd GW,BZ] at ha;simp only[Cr,↓reduceIte,De,hf,i1,AM,AP,AI,ha]
def f188(a:A3)(h:Ah):Cx cx 136 [.agg a.row] h (.bool (jK a)) h:=by rw[Aj,kJ,vy,A3.row];simp only[Cr,jK];refine⟨λh=>by simp[h],λh=>by simp[h]⟩
def f189(a b:Aq)(ha:a.length<=AQ)(hb:b.length<=AQ):OG cx 137 [.str a,.str b] (.bool (decide (F7 a=F7 b))):=by rw[Un,kK,vz];simp only[Cr,(xl a ha).Co rfl rfl,(xl b hb).Co rfl rfl]
def f96{v:Aa}{l:List A3}(hv:Cp l v)(hl:∀a∈l,a.value.length<=AQ)(hn:l.length<9223372036854775807)(n:Int)(s:Aq)(h:Ah):Cx cx 92 [I n,.str s,v] h (.bool (HC n s l)) h:=by
 rw[Aj,vG,t92];simp only[Cr,UK,(f187 hv hn h (λa _=>f188 a h) Bj).Ag,HC];refine⟨λh2=>by simp[h2],λh2=>⟨λb=>by simp[h2,b],λb=>⟨λf=>by simp[h2,b,f],λf=>?_⟩⟩⟩;rw[Ac h2,Ac b,Ac f];rcases GJ (p:=jK) (l:=l) (k:=0) with⟨d,c⟩|⟨k,a,d,c,g⟩
 .rw[d,c];simp
 .rw[d,g,BC];obtain⟨hk,e⟩:=Ae.1 c;have qu:k<(l.map A3.row).length:=by simpa using hk
  have m:(l.map A3.row)[k]=A3.row a:=by simp[e]
  have i1:(0:Int)<=(k:Int):=Ab;have Pj:a.value.length<=AQ:=hl a (e▸AJ hk);have j:F7 jL=jL:=Sg fY;have i:F7 XV=XV:=Sg fY;simp only[Cr,i1,AL,AP,AI,Bu.Gm hv qu,m,A3.row,(f189 a.value jL Pj Bj).Co rfl rfl,(f189 a.value XV Pj Bj).Co rfl rfl,j,i];refine⟨λh=>by simp[h],λh=>by simp[h]⟩
end
section
section
variable{U:Type}{f:U->List Aa}{l l2:List U}{v v2:Aa}{z b:Nat}{k k2:IntKind}
end
section
variable{h:Ah}{p:Aa}{l:List Item}
def f104(hs:qC h p l):Cx cx 82 [p] h (I (l.length:Int)) h:=by
 rw[Aj,vE,t82];rcases hs with⟨rfl,rfl⟩|⟨id,o,v,rfl,hc,hv⟩
 .simp
 .simp only[Cr,GU,hc.load,Bc,hv.Gi]
def UL(hs:qC h p l)(i:Int):Cx cx 81 [p,I i] h (.agg (EA l i).row) h:=by
 rw[Aj,vD,t81];simp only[Cr,↓reduceIte,BD,(f104 hs).Ag];refine⟨λhi=>by rw[Ur (.inl hi)];simp[Item.row,Item.zero],λhi=>⟨λhl=>by rw[Ur (.inr hl)];simp[Item.row,Item.zero],λhl=>?_⟩⟩;rcases hs with⟨rfl,rfl⟩|⟨id,o,v,rfl,hc,hv⟩
 .simp at hl;omega
 .obtain⟨n,rfl⟩:=QT (Ab:0<=i);have hn:n<l.length:=Ab;simp only[Cr,Nat.reduceLeDiff,↓reduceIte,IH,hc.load,Bc,hv.DC hn,IA hn]
def f39(hs:qC h p l)(hn:l.length<=1000000000):Cx cx 37 [p] h (.agg (E6 l).row) h:=by rw[Aj,uP,t37];simp only[Cr,IH,(f104 hs).Ag,Em (Ab: -9223372036854775808<=(l.length:Int)-1) (Ab:(l.length:Int)-1<9223372036854775808),(UL hs _).Ag,E6]
def SL(F:Aa)(h:Ah)(q:Item->Bool):Prop:=∃f caps,F= .func (.func f) [] caps/\f<=99999/\∀a:Item,Cx cx f (.agg a.row::caps) h (.bool (q a)) h
def SL.FH{F:Aa}{q:Item->Bool}(hF:SL F h q)(a:Item){k:Aa->IT}{Q:IN}:W cx (.FH F [.agg a.row] k) Q h↔W cx (k (.bool (q a))) Q h:=by obtain⟨f,caps,rfl,hf,hr⟩:=hF;rw[NO];simp only[De,hf,↓reduceIte,BG,CP,NM,(hr a).Ag]
def xn(hs:qC h p l)(hn:l.length<=1000000000){F:Aa}{q:Item->Bool}(hF:SL F h q):Cx cx 158 [p,F] h (I (AG q l)) h:=by
 obtain⟨f,caps,rfl,hf,hr⟩:=hF;rw[Aj,kO,we];simp only[Cr,(f104 hs).Ag,Em (Ab: -9223372036854775808<=(l.length:Int)-1) (Ab:(l.length:Int)-1<9223372036854775808)];refine BI (λn:Nat=>[I 0,I ((n:Int)-1)]) (λn h1=>n<=l.length/\AG q l=AG q (l.take n)/\h1=h) (λn=>n) l.length rfl ⟨Af _,by rw[B7],rfl⟩ ?_;rintro n h1 ⟨xm,ha,rfl⟩;cases n with
 |zero=>have i1:¬(0:Int)<=((0:Nat):Int)-1:=Ab;rw[ha];simp only[Cr,↓reduceIte,De,hf,i1,AM,AP,AI,NU]
 |succ n=>
  have i1:(0:Int)<=((n+1:Nat):Int)-1:=Ab;have a:((n+1:Nat):Int)-1=(n:Int):=Ab;rcases hs with⟨rfl,rfl⟩|⟨id,o,v,rfl,hc,hv⟩
  .simp at xm
  .rw[MV Ab] at ha;simp only[Cr,Nat.reduceLeDiff,↓reduceIte,De,IH,hf,a,(Ab:(0:Int)<=(n:Int)),AL,AP,AI,hc.load,Bc,hv.DC (Ab:n<l.length),(hr l[n]).Ag,Em (Ab: -9223372036854775808<=(n:Int)-1) (Ab:(n:Int)-1<9223372036854775808)];rw[Du];refine⟨λhe=>?_,λhe=>?_⟩;.rw[ha,Ad he]
   .rw[Ac (by simp[he])] at ha;exact A8.next n rfl ⟨Ab,ha,rfl⟩ Ab
def aC7{v:Aa}{ws:List Aq}(hv:Ka ws v)(hn:ws.length<=1000000000)(s:Aq)(h:Ah):Cx cx 183 [v,.str s] h (I (BZ (λw=>decide (s=w)) 0 ws)) h:=by
 rw[Aj,lC,xb];have hv:Bu 1 (ws.map C1) v:=hv;simp only[Cr,hv.Gi];refine BI (λn:Nat=>[I 0,I (n:Int)]) (λn h1=>n<=ws.length/\BZ (λw=>decide (s=w)) 0 ws=BZ (λw=>decide (s=w)) n (ws.drop n)/\h1=h) (λn=>ws.length-n) 0 rfl ⟨A7 _,rfl,rfl⟩ ?_;rintro n h1 ⟨xm,ha,rfl⟩;rcases Bg n ws.length with hlt|GW
 .have i1:(n:Int)<(ws.length:Int):=by omega
  rw[AA hlt,BZ] at ha;simp only[Cr,i1,AL,AP,AI,hv.DC hlt,C1,Ci (Ab:n<9223372036854775807)];refine⟨λhe=>?_,λhe=>?_⟩;.rw[ha,Ad (by simpa using he)]
  .rw[Ac (by simpa using he)] at ha;exact A8.next (n+1) rfl ⟨hlt,ha,rfl⟩ Ab
 .have i1:¬(n:Int)<(ws.length:Int):=by omega
  rw[Bd GW,BZ] at ha;simp only[Cr,i1,AM,AP,AI,ha]
def Ł{v:Aa}{ws:List Aq}(hv:Ka ws v)(hn:ws.length<=1000000000)(s:Aq)(h:Ah):Cx cx 138 [v,.str s] h (.bool (decide (s∈ws))) h:=by rw[Aj,kL,v_];simp only[Cr,(aC7 hv hn s h).Ag,aq]
def aE{v:Aa}{ws:List Aq}(hv:Ka ws v)(hn:ws.length<=1000000000)(a:Item)(h:Ah):Cx cx 127 [.agg a.row,v] h (.bool (Bl ws a)) h:=by rw[Aj,kF,t127];simp only[Cr,IH,(Ł hv hn _ h).Ag,Bl];refine⟨λh1=>by simp[h1],λh1=>by simp[h1]⟩
def aC8(a:Item)(h:Ah):Cx cx 215 [.agg a.row] h (.bool (Bl Qh a)) h:=by rw[Aj,fu,Ĺ];simp only[Cr,IH,eI,(aE (ws:=Qh) D7 Bj a h).Ag]
def aC9(a:Item)(h:Ah):Cx cx 216 [.agg a.row] h (.bool (!Bl NQ a)) h:=by rw[Aj,fw,ĺ];simp only[Cr,IH,ZS,(aE (ws:=NQ) D7 Bj a h).Ag]
def aDa(n:Int)(j:n≠4)(i:n≠5)(a:Item)(h:Ah):Cx cx 217 [.agg a.row,.Cz [I n]] h (.bool (LK n a)) h:=by have b1:=aE (ws:=Qi) D7 Bj a h;have b2:=aE (ws:=XT) D7 Bj a h;have b3:=aE (ws:=[aLf]) D7 Bj a h;rw[Aj,fx,Ļ];simp only[Cr,IH,UK,eJ,nY,nZ,b1.Ag,b2.Ag,b3.Ag,LK,j,i];refine⟨λh1=>by simp[h1],λh1=>⟨λh2=>by simp[h2],λh2=>?_⟩⟩;rw[Du];simp only[h1,h2,or_self,E9];refine⟨λd=>by simp[d],λd=>⟨λe=>?_,λe=>⟨λc=>by simp[d,c],λc=>by simp[d,e,c]⟩⟩⟩;rw[Du];exact⟨λc=>by simp[d,e,c],λc=>⟨λg=>Ab,λg=>by simp[d,c,g]⟩⟩
def f264(n:Int)(h:Ah):∃F,Cx cx 198 [I n] h F h/\SL F h (LK n)/\F.cells=[F]:=by
 by_cases d:n=4
 .refine⟨.func (.func 215) [] [],?_,⟨_,_,rfl,Bj,λa=>?_⟩,rfl⟩;.rw[Aj,Yj,e_];simp only[Cr,d,AL,AP,AI]
  .have:=aC8 a h;simpa[LK,d] using this
 .by_cases c:n=5
  .refine⟨.func (.func 216) [] [],?_,⟨_,_,rfl,Bj,λa=>?_⟩,rfl⟩;.rw[Aj,Yj,e_];simp only[Cr,c,AL,AP,AI];simp
   .have:=aC9 a h;simpa[LK,c] using this
  .refine⟨.func (.func 217) [] [.Cz [I n]],?_,⟨_,_,rfl,Bj,λa=>aDa n d c a h⟩,rfl⟩;rw[Aj,Yj,e_];simp only[Cr,d,c,AM,AP,AI]
def aDb{g d:Aa}{q e:Item->Bool}(h1:SL g h q)(h2:SL d h e)(a:Item):Cx cx 199 [.agg a.row,.Cz [g],.Cz [d]] h (.bool (q a||e a)) h:=by have m:=λk Q=>h1.FH a (k:=k) (Q:=Q);have j:=λk Q=>h2.FH a (k:=k) (Q:=Q);rw[Aj,fc,ĳ];obtain⟨f,caps,rfl,hf,i⟩:=h1;obtain⟨f',c,rfl,sJ,r2⟩:=h2;simp only[Cr,↓reduceIte,De,IH,hf,sJ,(i a).Ag,(r2 a).Ag];rw[Du];exact⟨λh=>by simp[h],λh=>by simp[h]⟩
def ł(hs:qC h p l)(hn:l.length<=1000000000)(n:Int){F:Aa}{q:Item->Bool}(hF:SL F h q):Cx cx 154 [p,I n,F] h (.bool (Mk q (LK n) l.reverse)) h:=by
 obtain⟨G,g,Ń,It⟩:=f264 n h;have c:F.cells=[F]:=by obtain⟨f,caps,rfl,hf,_⟩:=hF;rfl
 have d:=hF;have hfit:SL (.func (.func 199) [] [.Cz [F],.Cz [G]]) h (λa=>q a||LK n a):=⟨199,_,rfl,Bj,λa=>aDb hF Ń a⟩;rw[Aj,db,Ģ];simp only[Cr,↓reduceIte,De,c,g.Ag,It,(xn hs hn hfit).Ag];rw[<-eK l true];rcases CV (q:=λa=>q a||LK n a) (l:=l) with⟨h1,h2⟩|⟨k,hk,h1,h2,i⟩
 .simp[h1]
 .have e:(0:Int)<=(k:Int)/\(k:Int).toNat<l.length:=⟨Ab,by simpa using hk⟩;simp only[h1];rw[bI e];rcases hs with⟨rfl,rfl⟩|⟨id,o,v,rfl,hc,hv⟩
  .simp at hk
  .obtain⟨f,caps,rfl,hf,hr⟩:=d;simp only[Cr,Nat.reduceLeDiff,↓reduceIte,IH,hf,e.1,AL,AP,AI,hc.load,Bc,hv.DC hk,(hr l[k]).Ag,Bn]
def aDc{v:Aa}{ws:List Aq}(hv:Ka ws v)(hn:ws.length<=1000000000)(a:Item)(h:Ah):Cx cx 155 [.agg a.row,.Cz [v]] h (.bool (Bl ws a)) h:=by have b:=aE hv hn a h;rw[Aj,de,ģ];simp only[Cr,IH,b.Ag]
def aDd(hs:qC h p l)(hn:l.length<=1000000000)(n:Int){v:Aa}{ws:List Aq}(hv:Ka ws v)(hw:ws.length<=1000000000):Cx cx 107 [p,I n,v] h (.bool (Mk (Bl ws) (LK n) l.reverse)) h:=by have hfit:SL (.func (.func 155) [] [.Cz [v]]) h (Bl ws):=⟨155,_,rfl,Bj,λa=>aDc hv hw a h⟩;rw[Aj,bm,ē];simp only[Cr,hv.cells,(ł hs hn n hfit).Ag]
def aDe(node:Int)(a:Item)(h:Ah):Cx cx 201 [.agg a.row,.Cz [I node]] h (.bool (Br node a)) h:=by rw[Aj,fj,ĵ,Item.row];simp only[Cr,IH,Br]
def aDf(hs:qC h p l)(hn:l.length<=1000000000)(n node:Int):Cx cx 164 [p,I n,I node] h (.bool (Mk (Br node) (LK n) l.reverse)) h:=by have hfit:SL (.func (.func 201) [] [.Cz [I node]]) h (Br node):=⟨201,_,rfl,Bj,λa=>aDe node a h⟩;rw[Aj,dr,t164];simp only[Cr,(ł hs hn n hfit).Ag]
def aDg(node:Int)(a:Item)(h:Ah):Cx cx 159 [.agg a.row,.Cz [I node]] h (.bool (Br node a)) h:=by rw[Aj,di,Ħ,Item.row];simp only[Cr,IH,Br]
def VI(hs:qC h p l)(hn:l.length<=1000000000)(node:Int):Cx cx 109 [p,I node] h (I (AG (Br node) l)) h:=by have hfit:SL (.func (.func 159) [] [.Cz [I node]]) h (Br node):=⟨159,_,rfl,Bj,λa=>aDg node a h⟩;rw[Aj,bp,t109];simp only[Cr,(xn hs hn hfit).Ag]
def f232(s:Aq)(a:Item)(h:Ah):Cx cx 173 [.agg a.row,.Cz [.str s]] h (.bool (Bl [s] a)) h:=by have b:=aE (ws:=[s]) D7 (Aw:[s].length<=1000000000) a h;rw[Aj,kU,wo];simp only[Cr,IH,EW (ws:=[s]) (args:=[.str s]) rfl Aw,b.Ag]
def f144(hs:qC h p l)(hn:l.length<=1000000000)(s:Aq):Cx cx 120 [p,.str s] h (I (AG (Bl [s]) l)) h:=by have hfit:SL (.func (.func 173) [] [.Cz [.str s]]) h (Bl [s]):=⟨173,_,rfl,Bj,λa=>f232 s a h⟩;rw[Aj,kE,vr];simp only[Cr,(xn hs hn hfit).Ag]
end
end
section
section
variable{h:Ah}{p v:Aa}{l:List Item}
def f186(hv:Dg l v)(a:Item){n:Nat}(hn:n<=l.length)(hb:l.length<=1000000000):∃u,Cx cx 134 [v,.agg a.row,I (n:Int)] h u h/\Dg (l.take n++a::l.drop n) u:=by
 have PR:(l.length+1)*40<=AQ:=by have:AQ=140737488355328:=rfl;omega
 obtain⟨t,q,h1⟩:=Bu.Si hv (k:= .i64) hn;obtain⟨s,m,h2⟩:=Bu.NT h1 (b:=40) (by rw[Au];have:AQ=140737488355328:=rfl;omega);have j:=Bu.WB (a:=a) h2 (b:=40) (by rw[Au];have:AQ=140737488355328:=rfl;omega);obtain⟨r,i,e⟩:=Bu.jM hv (k:= .i64) hn;obtain⟨d,g,c⟩:=Bu.ao (v:= .sl 4 ((l.take n++[a]).map Item.row)) .mk e (b:=40) (by rw[Ap,Au,AV,BR];have:AQ=140737488355328:=rfl;omega);refine⟨d,?_,by rw[AB] at c;exact c⟩;rw[Aj,kI,vw];simp only[Cr,IH,q,m,tS,j,i,g]
def f95{id o:Nat}(hs:Kt h id o l)(hb:l.length<=1000000000)(a:Item):∃u,Cx cx 91 [Pt id o,.agg a.row] h (.tuple []) (put h id o u)/\Dg (l++[a]) u:=by obtain⟨v,hc,hv⟩:=hs;obtain⟨u,hr,hu⟩:=f186 (h:=h) hv a (n:=l.length) (Af _) hb;rw[B7,Hv] at hu;refine⟨u,?_,hu⟩;rw[Aj,vF,t91];simp only[Cr,IH,PD,DN,hc.load,Bc,Bu.Gi hv,hr.Ag,hc.store hu.cells]
def aDh(hs:qC h p l)(hb:l.length<=1000000000)(node:Int):Cx cx 165 [p,I node] h (I (CK node l)) h:=by
 rw[Aj,du,Ī];have a: -1<=AG (Br node) l/\AG (Br node) l<l.length+1:=by rcases CV (q:=Br node) (l:=l) with⟨h1,h2⟩|⟨n,hn,h1,h2,c⟩<;>rw[h1]<;>omega
 simp only[Cr,(VI hs hb node).Ag,XW (Ab: -9223372036854775808<=AG (Br node) l+1) (Ab:AG (Br node) l+1<9223372036854775808)];rw[JR];by_cases II:AG (Br node) l<0;.rw[Ad II];refine BI (λn:Nat=>[I 0,I (AG (Br node) l+1)]) (λn h1=>h1=h) (λn=>n) 0 rfl rfl ?_;rintro n h1 rfl;have i1:¬0<=AG (Br node) l:=Ab;simp only[Cr,i1,AM,AP,AI]
 .rw[Ac II];have i0:0<=AG (Br node) l:=Ab;obtain⟨m,hm⟩:=QT i0;refine BI (λn:Nat=>[I 0,I (n:Int)]) (λn h1=>Fm IX l (m+1)=Fm IX l n/\h1=h) (λn=>l.length-n) (m+1) (by rw[hm];rfl) ⟨rfl,rfl⟩ ?_;rw[hm,Bn];rintro n h1 ⟨ha,rfl⟩;simp only[Cr,(Ab:(0:Int)<=(m:Int)),AL,AP,AI,(f104 hs).Ag];rcases Bg n l.length with hlt|GW
  .have i1:(n:Int)<(l.length:Int):=by omega
   rw[XZ hlt] at ha;rcases hs with⟨rfl,rfl⟩|⟨id,o,v,rfl,hc,hv⟩
   .simp at hlt
   .simp only[Cr,IH,i1,AL,AP,AI,hc.load,Bc,Bu.DC hv hlt,UK,Ci (Ab:n<9223372036854775807)];rw[Du];refine⟨λhe=>?_,λhe=>?_⟩;.rw[ha,Ad (by exact he)]
    .rw[Ac (by simp[IX,he])] at ha;exact A8.next (n+1) rfl ⟨ha,rfl⟩ Ab
  .have i1:¬(n:Int)<(l.length:Int):=by omega
   rw[VD GW] at ha;simp only[Cr,i1,AM,AP,AI,ha]
end
end
section
def UM(F:Aa)(q:Item->Bool):Prop:=∃f caps,F= .func (.func f) [] caps/\f<=99999/\∀(a:Item) (h:Ah),Cx cx f (.agg a.row::caps) h (.bool (q a)) h
section
variable{h:Ah}{p v:Aa}{l:List Item}
def f42{id o:Nat}(hs:Kt h id o l)(hb:l.length<=1000000000)(h2:2<=l.length):∃u,Cx cx 73 [Pt id o] h (.agg (E6 l).row) (put h id o u)/\Dg (l.take (l.length-1)) u:=by obtain⟨v,hc,hv⟩:=(show Kt h id o l from hs);obtain⟨u,e,hu⟩:=Bu.Si hv (k:= .i64) (Ab:l.length-1<=l.length);refine⟨u,?_,hu⟩;have a:(l.length:Int)-1=((l.length-1:Nat):Int):=Ab;rw[Aj,fP,t73];simp only[Cr,IH,(f104 hs.at).Ag,(f39 hs.at hb).Ag,hc.load,Bc,Bu.Gi hv,Em (Ab: -9223372036854775808<=(l.length:Int)-1) (Ab:(l.length:Int)-1<9223372036854775808),a,e,hc.store (Bu.cells hu),(Ab:¬(l.length:Int)<2),AM,AP,AI]
def f146{id o:Nat}(hs:Kt h id o l)(hb:l.length<=1000000000){B A:Aa}{b a:Item->Bool}(hB:UM B b)(d:UM A a):
  ∃u,Cx cx 124 [Pt id o,B,A] h (I ((l.length:Int)-((E0 b a l).length:Int))) (put h id o u)/\Dg (E0 b a l) u:=by
 obtain⟨e,j,rfl,ń,rb⟩:=hB;obtain⟨fa,ca,rfl,hfa,ra⟩:=d;have hlt:=hs.lt;have NH:Ev cx 124 [Pt id o,.func (.func e) [] j,.func (.func fa) [] ca] h λr h'=>r= I ((l.length:Int)-((E0 b a l).length:Int))/\∃u,h'=put h id o u/\Dg (E0 b a l) u:=by
  unfold Ev;rw[cg,Ĝ];refine BI (λn:Nat=>[I ((l.length:Int)-(n:Int))]) (λn h1=>n<=l.length/\(∃u,h1=put h id o u/\Dg (l.take n) u)/\E0 b a l=E0 b a (l.take n)) (λn=>n) l.length Aw ⟨Af _,by rw[B7];exact hs.X1,by rw[B7]⟩ ?_;rintro n h1 ⟨hn,⟨u,rfl,hu⟩,ha⟩;have K9:Kt (put h id o u) id o (l.take n):= .td hlt hu;have iN:(l.take n).length=n:=by rw[Au];omega
  simp only[Cr,↓reduceIte,(f104 K9.at).Ag,iN];match n,hn,hu,ha,K9,iN with
  |0,hn,hu,ha,K9,iN=>rw[ZT (l:=l.take 0) Aw] at ha;simp only[Cr,(Ab:¬(1:Int)<((0:Nat):Int)),AM,AP,AI];exact⟨_,rfl,by rw[ha];rfl,u,rfl,by rw[ha];exact hu⟩
  |1,hn,hu,ha,K9,iN=>rw[ZT (l:=l.take 1) (by rw[iN];exact Af _)] at ha;simp only[Cr,(Ab:¬(1:Int)<((1:Nat):Int)),AM,AP,AI];exact⟨_,rfl,by rw[ha,iN],u,rfl,by rw[ha];exact hu⟩
  |m+2,hn,hu,ha,K9,iN=>
   have hm:m+1<l.length:=Ab;have i:((l.length:Int)-((m+2:Nat):Int))+1=(l.length:Int)-((m+1:Nat):Int):=Ab;obtain⟨c,hr,Qe⟩:=f42 K9 Ab Ab;rw[Us hm] at hr;have g:(l.take (m+2)).take ((l.take (m+2)).length-1)=l.take (m+1):=by rw[iN,GD,Ce Ab];rfl
   rw[g] at Qe;rw[XX] at hr;have Ņ:=f39 K9.at Ab;rw[Us hm] at Ņ;rw[oC hm] at ha;simp only[Cr,↓reduceIte,De,hfa,ń,(Ab:(1:Int)<((m+2:Nat):Int)),AL,AP,AI,Ņ.Ag,(rb _ _).Ag,hr.Ag,(ra _ _).Ag,XW (Ab: -9223372036854775808<=((l.length:Int)-((m+2:Nat):Int))+1) (Ab:((l.length:Int)-((m+2:Nat):Int))+1<9223372036854775808),i];rw[Du,Du];refine⟨λQZ=>⟨λsU=>?_,λsU=>?_⟩,λQZ=>?_⟩
   .have QZ:b l[m+1]=false:=by simpa using QZ
    rw[Ac (by simp[QZ]),Ad sU] at ha;exact⟨_,rfl,by rw[ha,Au,Ce Ab],c,rfl,by rw[ha];exact Qe⟩
   .have QZ:b l[m+1]=false:=by simpa using QZ
    rw[Ac (by simp[QZ]),Ac (by simp[sU])] at ha;exact A8.next (m+1) rfl ⟨Ab,⟨c,rfl,Qe⟩,ha⟩ Ab
   .have QZ:b l[m+1]=true:=by simpa using QZ
    rw[Ad QZ] at ha;exact⟨_,rfl,by rw[ha,iN],u,rfl,by rw[ha];exact hu⟩
 obtain⟨r,h',hr,rfl,u,rfl,hu⟩:=NH.ret;exact⟨u,hr,hu⟩
def M4:UM (.func (.func 125) [] []) Ee:=⟨_,_,rfl,Bj,λa h=>by rw[Aj,cj,ĝ];simp only[Cr,IH,Ee]⟩
def fZ{w:Aa}{ws:List Aq}(hw:Ka ws w)(hn:ws.length<=1000000000):UM (.func (.func 126) [] [.Cz [w]]) (Bl ws):=⟨_,_,rfl,Bj,λa h=>by rw[Aj,cm,Ğ];simp only[Cr,IH,(aE hw hn a h).Ag]⟩
def Yl(s:Aq):UM (.func (.func 156) [] [.Cz [.str s]]) (HD s):=⟨_,_,rfl,Bj,λa h=>by
 rw[Aj,dg,Ĥ];simp only[Cr,IH,vT,HD];refine⟨λh1=>by simp[h1],λh1=>?_⟩;rw[Du];refine⟨λh2=>?_,λh2=>?_⟩
 .have h2:a.name∉IW:=by simpa using h2
  simp[h2]
 .have h2:a.name∈IW:=by simpa using h2
  have h1:a.AW=1:=by simpa using h1
  simp[h2,h1]⟩
def VJ:UM (.func (.func 174) [] []) DG:=⟨_,_,rfl,Bj,λa h=>by
 rw[Aj,dy,Į];simp only[Cr,IH,vU,DG];refine⟨λh1=>by simp[h1],λh1=>?_⟩;have h1:a.AW=1:=by simpa using h1
 simp[h1]⟩
def Ym(node:Int):UM (.func (.func 160) [] [.Cz [I node]]) (Br node):=⟨_,_,rfl,Bj,λa h=>by rw[Aj,dj,ħ];simp only[Cr,IH,Br]⟩
def ņ{id o:Nat}(hs:Kt h id o l)(hb:l.length<=1000000000)(s:Aq):
  ∃u,Cx cx 108 [Pt id o,.str s] h (I ((l.length:Int)-((E0 (HD s) Ee l).length:Int))) (put h id o u)/\Dg (E0 (HD s) Ee l) u:=by
 obtain⟨u,hr,hu⟩:=f146 hs hb (Yl s) M4;exact⟨u,by rw[Aj,bn,Ĕ];simp only[Cr,hr.Ag],hu⟩
def f66{id o:Nat}(hs:Kt h id o l)(hb:l.length<=1000000000){w:Aa}{ws:List Aq}(hw:Ka ws w)(hn:ws.length<=1000000000):
  ∃u,Cx cx 75 [Pt id o,w] h (I ((l.length:Int)-((E0 Ee (Bl ws) l).length:Int))) (put h id o u)/\Dg (E0 Ee (Bl ws) l) u:=by
 obtain⟨u,hr,hu⟩:=f146 hs hb M4 (fZ hw hn);exact⟨u,by rw[Aj,vh,t75];simp only[Cr,Ka.cells hw,hr.Ag],hu⟩
def f145{id o:Nat}(hs:Kt h id o l)(hb:l.length<=1000000000):
  ∃u,Cx cx 121 [Pt id o] h (I ((l.length:Int)-((E0 DG Ee l).length:Int))) (put h id o u)/\Dg (E0 DG Ee l) u:=by
 obtain⟨u,hr,hu⟩:=f146 hs hb VJ M4;exact⟨u,by rw[Aj,bz,ę];simp only[Cr,hr.Ag],hu⟩
def Ň{id o:Nat}(hs:Kt h id o l)(hb:l.length<=1000000000)(node:Int):
  ∃u,Cx cx 112 [Pt id o,I node] h (I ((l.length:Int)-((GK node l).length:Int))) (put h id o u)/\Dg (GK node l) u:=by
 by_cases II:AG (Br node) l<0;.obtain⟨u,e,hu⟩:=hs.X1;refine⟨u,?_,by rw[GK,Ad II];exact hu⟩;rw[GK,Ad II,Int.sub_self,Aj,jZ,vo];simp only[Cr,(VI hs.at hb node).Ag,II,AL,AP,AI];exact e
 .obtain⟨u,hr,hu⟩:=f146 hs hb M4 (Ym node);refine⟨u,?_,by rw[GK,Ac II];exact hu⟩;rw[GK,Ac II,Aj,jZ,vo];simp only[Cr,(VI hs.at hb node).Ag,II,AM,AP,AI,hr.Ag]
end
end
section
section
variable{h:Ah}{p v:Aa}{l:List Item}
def f209(hv:Dg l v){k:Nat}(hk:k<l.length)(hb:l.length<=1000000000):∃u,Cx cx 204 [v,I (k:Int)] h u h/\Dg (Bk l k) u:=by obtain⟨r,j,h1⟩:=Bu.Si hv (k:= .i64) (Ab:k<=l.length);obtain⟨q,i,h2⟩:=Bu.NT h1 (b:=40) (jN (by rw[Au];omega));obtain⟨m,g,d⟩:=Bu.jM hv (k:= .i64) (Ab:k+1<=l.length);obtain⟨a,e,c⟩:=Bu.ao h2 d (b:=40) (jN (by rw[Au,AV];omega));refine⟨a,?_,c⟩;rw[Aj,fk,Ķ];simp only[Cr,j,i,Ci (Ab:k<9223372036854775807),g,e]
def xo{id o:Nat}(hs:Kt h id o l)(hb:l.length<=1000000000)(node:Int):∃u,Cx cx 168 [Pt id o,I node] h (.bool (decide (1<=AG (Br node) l))) (put h id o u)/\Dg (DS node l) u:=by
 by_cases II:AG (Br node) l<1;.obtain⟨u,e,hu⟩:=hs.X1;refine⟨u,?_,by rw[DS,Ad II];exact hu⟩;rw[Aj,kQ,wh,<-e];simp only[Cr,(VI hs.at hb node).Ag,II,AL,AP,AI,(Ab:¬1<=AG (Br node) l),CY]
 .rcases CV (q:=Br node) (l:=l) with⟨h1,_⟩|⟨k,hk,h1,_⟩
  .rw[h1] at II;omega
  .obtain⟨v,hc,hv⟩:=(show Kt h id o l from hs);obtain⟨u,hr,hu⟩:=f209 (h:=h) hv hk hb;refine⟨u,?_,by rw[DS,Ac II,h1];exact hu⟩;rw[Aj,kQ,wh];simp only[Cr,(VI hs.at hb node).Ag,hc.load,Bc,h1];rw[h1] at II;simp only[Cr,hr.Ag,Bc,hc.store (Dg.cells hu),show¬(k:Int)<1 from II,AM,AP,AI,(Ab:(1:Int)<=(k:Int)),DO]
def aDj{id o:Nat}(hs:Kt h id o l)(hb:l.length<=1000000000)(a:Item)(i:Int):∃u,Cx cx 169 [Pt id o,.agg a.row,I i] h (.tuple []) (put h id o u)/\Dg (l.take (GA i l.length)++a::l.drop (GA i l.length)) u:=by
 obtain⟨v,hc,hv⟩:=(show Kt h id o l from hs);obtain⟨u,hr,hu⟩:=f186 (h:=h) hv a (n:=GA i l.length) (by unfold GA;omega) hb;refine⟨u,?_,hu⟩;rw[Aj,dx,ĭ];have c:(if(l.length:Int)<(if i<1 then 1 else i) then(l.length:Int) else(if i<1 then 1 else i))=((GA i l.length:Nat):Int):=by unfold GA;split<;>split<;>omega
 simp only[Cr,IH,PD,DN,hc.load,Bc,XR,Bu.Gi hv,tL,c,hr.Ag,hc.store (Dg.cells hu)]
def aDk(hv:Dg l v)(hne:l≠[])(hb:l.length<=1000000000):Cx cx 218 [v] h (.CL h.length 0 l.length 4) (h++[.cells (l.map Item.row).flatten]):=by
 have d:Ay (.Gu false .sl) [v,.slnil]=some (.bool false):=by
  rcases hv with rfl|⟨rfl,hv⟩
  .rfl
  .exact absurd (by simpa using hv) hne
 have c:Ay (.Cf 4) []=some (.sl 4 []):=rfl;have a:=NP (h:=h) (s:= .sl 4 []) (z:=4) (b:=40) (.inr rfl) hv (by simpa using hne) (by rw[As];exact jN Ab);rw[As] at a;rw[Aj,fy,ļ];simp only[Cr,d,c,a]
section
variable{id o n z:Nat}{v w:Aa}{X Y:DJ}{Ao:List (List Aa)}
def At.next(ha:At h id o v):(Am.put h id o w++[X])[h.length]?=some X/\At (Am.put h id o w++[X]) id o w/\(Am.put h id o w++[X]).set h.length Y=Am.put h id o w++[Y]:=by have e:=Lo (h:=h) (id:=id) (o:=o) (u:=w);refine⟨by rw[<-e];simp,ha.put.Kr,?_⟩;rw[B6 _ _ Ab,<-e,DY];rfl
def At.lK(ha:At h id o v)(hv:LA h v=some (h,v)):KD h 0 (Pt id o)=some h:=by have a:=ha.same;obtain⟨cs,hc,e⟩:=ha;simp only[KD,hc,Bc,e,hv,B5];rw[HP hc] at a;rw[a]
def At.lL(ha:At h id o v)(hr:∀r∈Ao,r.length=z):KD (Am.put h id o (.CL h.length 0 Ao.length z)++[.cells Ao.flatten]) 0 (Pt id o)=some (Am.put h id o (.sl z Ao)++[.DK]):=by obtain⟨d,c,a⟩:=ha.next (w:= .CL h.length 0 Ao.length z) (X:= .cells Ao.flatten) (Y:= .DK);have f1:=Rk hr d;rw[a] at f1;have a2:=(ha.next (w:= .CL h.length 0 Ao.length z) (X:= .DK) (Y:= .DK)).2.1;obtain⟨cs,hc,e⟩:=c;obtain⟨P7,JB,g⟩:=a2;simp only[KD,hc,Bc,e,f1,B5,JB];rw[<-HP (u:= .sl z Ao) JB,XY ha.put,XX]
end
def aDl{id o:Nat}(hs:Kt h id o l)(hb:l.length<=1000000000)(node:Int)(a:Item):∃u t,Cx cx 202 [Pt id o,I node,.agg a.row] h (.bool (decide (1<=AG (Br node) l))) (put h id o u++t)/\Dg (NV node a l) u:=by
 obtain⟨v,hc,hv⟩:=(show Kt h id o l from hs);by_cases II:AG (Br node) l<1;.refine⟨v,[],?_,by rw[NV,Ad II];exact hv⟩;have c:=hc.lK (Bu.Th hv);rw[Aj,lD,xc,hc.same,BQ];simp only[Cr,IH,(VI hs.at hb node).Ag,II,AL,AP,AI,c,(Ab:¬1<=AG (Br node) l),CY]
 .rcases CV (q:=Br node) (l:=l) with⟨h1,_⟩|⟨k,hk,h1,_⟩
  .rw[h1] at II;omega
  .have d:¬(k:Int)<1:=by rw[h1] at II;exact II
   have hne:l≠[]:=by intro e;subst e;simp at hk
   have hcl:=aDk (h:=h) hv hne hb;have j:=(hc.Kr (t:=[DJ.cells (l.map Item.row).flatten])).store (u:= .CL h.length 0 l.length 4) rfl;rw[XY hc] at j;obtain⟨s,x,r⟩:=hc.next (w:= .CL h.length 0 l.length 4) (X:= .cells (l.map Item.row).flatten) (Y:= .cells ((l.map Item.row).set k a.row).flatten);have g:=Sf (z:=4) (û l) s (i:=k) (by simpa using hk) (q:=a.row) rfl;rw[r] at g;have m:Ay (.Gm 4) [.CL h.length 0 l.length 4,I (k:Int)]=some (Pt h.length (k*4)):=EV hk;have c:=hc.lL (ZO (û l) (i:=k) (q:=a.row) rfl);rw[Bv,As] at c;refine⟨.sl 4 ((l.map Item.row).set k a.row),[.DK],?_,?_⟩;.rw[Aj,lD,xc];simp only[Cr,IH,(VI hs.at hb node).Ag,h1,d,AM,AP,AI,hc.load,Bc,hcl.Ag,j,x.load,m,g,c,(Ab:(1:Int)<=(k:Int)),DO]
   .rw[NV,Ac II,h1,Bn,Dg,Fo];exact .mk
end
end
section
section
variable{h:Ah}{p v w:Aa}{l:List Item}{ws:List Aq}
end
end
section
section
variable{e:CN}{d:Aa}
end
section
variable{h:Ah}{v:Aa}{l:List CN}{id o:Nat}
def f99(hc:At h id o v)(hv:EL l v)(hb:l.length<=1000000000):Cx cx 123 [Pt id o] h (I (since l)) h:=by
 have hv:Bu 3 (l.map CN.row) v:=hv;rw[Aj,cf,ě];simp only[Cr,hc.load,Bc,hv.Gi];refine BI (λn:Nat=>[I (n:Int)]) (λn h1=>n<=l.length/\since l=since (l.take n)/\h1=h) (λn=>n) l.length rfl ⟨Af _,by rw[B7],rfl⟩ ?_;rintro n h1 ⟨hn,ha,rfl⟩;cases n with
 |zero=>simp only[Cr,(Ab:¬(0:Int)<((0:Nat):Int)),AM,AP,AI,ha,oD];rfl
 |succ n=>rw[eO hn] at ha;simp only[Cr,(Ab:(0:Int)<((n+1:Nat):Int)),AL,AP,AI,hc.load,Bc,LJ (Ab:0<n+1) (Ab:n+1<9223372036854775807),Oa,hv.DC (show n<l.length from hn),CN.ø];refine⟨λh0=>A8.next n rfl ⟨Ab,by rw[ha,Ac h0],rfl⟩ Ab,λh0=>?_⟩;rw[Ad (by simpa using h0)] at ha;rw[ha];rfl
def aDm(hc:At h id o v)(hv:EL l v)(hb:l.length<=1000000000)(name:Aq):Cx cx 162 [Pt id o,.str name] h (I (OW name l)) h:=by
 have hv:Bu 3 (l.map CN.row) v:=hv;rw[Aj,dk,Ĩ];simp only[Cr,GU,hc.load,Bc,hv.Gi,Em (Ab: -9223372036854775808<=(l.length:Int)-1) (Ab:(l.length:Int)-1<9223372036854775808)];refine BI (λn:Nat=>[I 0,I ((n:Int)-1)]) (λn h1=>n<=l.length/\OW name l=OW name (l.take n)/\h1=h) (λn=>n) l.length rfl ⟨Af _,by rw[B7],rfl⟩ ?_;rintro n h1 ⟨hn,ha,rfl⟩;cases n with
 |zero=>have i1:¬(0:Int)<=((0:Nat):Int)-1:=Ab;rw[ha];simp only[Cr,i1,AM,AP,AI,oE]
 |succ n=>
  have a:((n+1:Nat):Int)-1=(n:Int):=Ab;rw[eP hn] at ha;simp only[Cr,a,(Ab:(0:Int)<=(n:Int)),AL,AP,AI,hc.load,Bc,hv.DC (show n<l.length from hn),CN.ø,CN.tR,Em (Ab: -9223372036854775808<=(n:Int)-1) (Ab:(n:Int)-1<9223372036854775808)];refine⟨λh0=>⟨λh1=>?_,λh1=>?_⟩,λh0=>?_⟩;.rw[ha,Ac h0,Ad h1]
  .exact A8.next n rfl ⟨Ab,by rw[ha,Ac h0,Ac h1],rfl⟩ Ab
  .rw[ha,Ad (by simpa using h0)]
def f41(hc:At h id o v)(hv:EL l v)(hb:l.length<=1000000000)(node:Int):Cx cx 114 [Pt id o,I node] h (I (Jo node l)) h:=by
 have hv:Bu 3 (l.map CN.row) v:=hv;rw[Aj,bt,Ė];simp only[Cr,GU,hc.load,Bc,hv.Gi,Em (Ab: -9223372036854775808<=(l.length:Int)-1) (Ab:(l.length:Int)-1<9223372036854775808)];refine⟨λh0=>by rw[Jo,Ad h0],λh0=>?_⟩;rw[Jo,Ac h0];refine BI (λn:Nat=>[I 0,I ((n:Int)-1)]) (λn h1=>n<=l.length/\AG (Ro node) l=AG (Ro node) (l.take n)/\h1=h) (λn=>n) l.length rfl ⟨Af _,by rw[B7],rfl⟩ ?_;rintro n h1 ⟨hn,ha,rfl⟩;cases n with
 |zero=>have i1:¬(0:Int)<=((0:Nat):Int)-1:=Ab;rw[ha];simp only[Cr,i1,AM,AP,AI,NU]
 |succ n=>
  have a:((n+1:Nat):Int)-1=(n:Int):=Ab;rw[MV hn] at ha;simp only[Cr,a,(Ab:(0:Int)<=(n:Int)),AL,AP,AI,hc.load,Bc,hv.DC (show n<l.length from hn),CN.ø,Em (Ab: -9223372036854775808<=(n:Int)-1) (Ab:(n:Int)-1<9223372036854775808)];refine⟨λh1=>?_,λh1=>?_⟩;.rw[ha,Ad (by simpa[Ro] using h1)]
  .exact A8.next n rfl ⟨Ab,by rw[ha,Ac (by simpa[Ro] using h1)],rfl⟩ Ab
end
section
variable{h:Ah}{v:Aa}{l:List A3}
def aDo(hv:Cp l v)(hb:l.length<=1000000000)(x:A3):Cx cx 214 [v,.agg x.row] h (I (BZ (λa=>decide (x=a)) 0 l)) h:=by
 have hv:Bu 3 (l.map A3.row) v:=hv;rw[Aj,fq,ĸ];simp only[Cr,hv.Gi,A3.DI,A3.g0,A3.g1,A3.g2,A3.SG];refine BI (λn:Nat=>[I 0,I (n:Int)]) (λn h1=>n<=l.length/\BZ (λa=>decide (x=a)) 0 l=BZ (λa=>decide (x=a)) n (l.drop n)/\h1=h) (λn=>l.length-n) 0 rfl ⟨A7 _,rfl,rfl⟩ ?_;rintro n h1 ⟨hn,ha,rfl⟩;rcases Bg n l.length with hlt|GW
 .have i1:(n:Int)<(l.length:Int):=by omega
  rw[AA hlt,BZ] at ha;simp only[Cr,i1,AL,AP,AI,hv.DC hlt,A3.DI,A3.JQ,Af,tT,Bool.bne_false,Ci (Ab:n<9223372036854775807)];refine⟨λh0=>?_,λh0=>?_⟩;.rw[ha,Ad (by simpa using h0)]
  .exact A8.next (n+1) rfl ⟨hlt,by rw[ha,Ac (by simpa using h0)],rfl⟩ Ab
 .have i1:¬(n:Int)<(l.length:Int):=by omega
  rw[Bd GW,BZ] at ha;simp only[Cr,i1,AM,AP,AI,ha]
def aDp(hv:Cp l v)(hb:l.length<=1000000000)(x:A3):Cx cx 197 [v,.agg x.row] h (.bool (decide (x∈l))) h:=by
 rw[Aj,ew,Ĳ];simp only[Cr,A3.DI,A3.g0,A3.g1,A3.g2,A3.SG,(aDo hv hb x).Ag];rcases GJ (p:=λa=>decide (x=a)) (l:=l) (k:=0) with⟨h1,h2⟩|⟨n,a,h1,h2,b⟩
 .rw[h1];have:x∉l:=λhm=>by have:=Kg.1 h2 x hm;simp at this
  simp[this]
 .have hm:=Cb h2;have he:x=a:=by simpa using Sp b
  have hx:x∈l:=by rw[he];exact hm
  rw[h1];simp[hx]
def aF(F:Aa)(h:Ah)(q:A3->Bool):Prop:=∃f caps,F= .func (.func f) [] caps/\f<=99999/\∀a:A3,Cx cx f (.agg a.row::caps) h (.bool (q a)) h
def ň{F:Aa}{q:A3->Bool}(hv:Cp l v)(hb:l.length<=1000000000)(hF:aF F h q):Cx cx 135 [v,F] h (I (BZ q 0 l)) h:=by
 have hv:Bu 3 (l.map A3.row) v:=hv;obtain⟨f,caps,rfl,hf,hr⟩:=hF;rw[Aj,S7,vM];simp only[Cr,hv.Gi];refine BI (λn:Nat=>[I 0,I (n:Int)]) (λn h1=>n<=l.length/\BZ q 0 l=BZ q n (l.drop n)/\h1=h) (λn=>l.length-n) 0 rfl ⟨A7 _,rfl,rfl⟩ ?_;rintro n h1 ⟨xm,ha,rfl⟩;rcases Bg n l.length with hlt|GW
 .have i1:(n:Int)<(l.length:Int):=by omega
  rw[AA hlt,BZ] at ha;simp only[Cr,↓reduceIte,De,hf,i1,AL,AP,AI,hv.DC hlt,A3.DI,A3.JQ,Af,(hr l[n]).Ag];rw[Du];refine⟨λhe=>?_,λhe=>?_⟩;.rw[ha,Ad he]
  .rw[Ac (by simp[he])] at ha;simp only[Cr,Ci (Ab:n<9223372036854775807)];exact A8.next (n+1) rfl ⟨hlt,ha,rfl⟩ Ab
 .have i1:¬(n:Int)<(l.length:Int):=by omega
  rw[Bd GW,BZ] at ha;simp only[Cr,↓reduceIte,De,hf,i1,AM,AP,AI,ha]
def ŉ{F:Aa}{q:A3->Bool}(hv:Cp l v)(hb:l.length<=1000000000)(hF:aF F h q):Cx cx 117 [v,F] h (.bool (l.any q)) h:=by
 rw[Aj,Ye,bu];simp only[Cr,(ň hv hb hF).Ag];have:l.any q=(l.find? q).isSome:=by rw[pW,List.find?_isSome,QU]
 rw[this];rcases GJ (p:=q) (l:=l) (k:=0) with⟨h1,h2⟩|⟨n,a,h1,h2,b⟩
 .rw[h1,h2];simp
 .rw[h1,b];simp
def f191(hv:Cp l v)(hb:l.length<=1000000000)(x:A3):Cx cx 196 [.agg x.row,.Cz [v]] h (.bool (!decide (x∈l))) h:=by rw[Aj,ee,ı];simp only[Cr,A3.DI,A3.g0,A3.g1,A3.g2,A3.SG,(aDp hv hb x).Ag]
def f190{b:List A3}{w:Aa}(hv:Cp l v)(hb:l.length<=1000000000)(hw:Cp b w)(MA:b.length<=1000000000):Cx cx 195 [v,w] h (.bool (decide (∀x∈l,x∈b))) h:=by
 have hF:aF (.func (.func 196) [] [.Cz [w]]) h λx=> !decide (x∈b):=⟨196,_,rfl,Bj,λa=>f191 hw MA a⟩;have e:(!l.any λx=> !decide (x∈b))=decide (∀x∈l,x∈b):=by rw[pW];simp
 rw[Aj,d_,İ,<-e];simp only[Cr,Bu.cells hw,(ŉ hv hb hF).Ag]
def aDq{a b:CN}(ha:qD a)(hb:qD b):Cx cx 151 [.agg a.row,.agg b.row] h (.bool (Kb a.c b.c)) h:=by
 have g:=f190 (h:=h) a.ok ha b.ok hb;have r2:=f190 (h:=h) b.ok hb a.ok ha;rw[Aj,cz,ğ];simp only[Cr,Nat.reduceLeDiff,↓reduceIte,De,BQ,CN.DI,CN.g1,CN.g2,CN.aCu,g.Ag,r2.Ag];refine⟨λh1=>⟨λh2=>⟨λf=>?_,λf=>?_⟩,λh2=>?_⟩,λh1=>?_⟩
 .have YN:a.c.Av.length=b.c.Av.length:=by omega
  simp only[Kb,h1,YN,Mx];congr 3
  rw[eq_iff_iff];exact⟨λh=>⟨f,h⟩,λh=>h.2⟩
 .simp[Kb,f]
 .have YN:¬a.c.Av.length=b.c.Av.length:=by omega
  simp[Kb,YN]
 .simp[Kb,h1]
end
end
section
def Dx{Q:IN}{h:Ah}{a:Aa}{k:IT}:W cx (.same a a k) Q h↔W cx k Q h:=by refine⟨λhw=>?_,ot (Aa.Ql a)⟩;obtain⟨m,x',GY,h',hr,q⟩:=hw.succ;simp only[IT.step,Aa.Ql,BH] at hr;exact CF ⟨m,x',GY,h',hr,q⟩
section
variable{h:Ah}{v:Aa}{l:List CN}{id o:Nat}
def f45{l:List A3}(hv:Cp l v)(hb:l.length<=1000000000):∃u,Cx cx 27 [v] h u h/\Cp l u:=by
 have hv:Bu 3 (l.map A3.row) v:=hv;rcases hv with rfl|⟨rfl,hn⟩
 .refine⟨.sl 3 (l.map A3.row),?_,.mk⟩;have b:Ay (.Gu false .sl) [.sl 3 (l.map A3.row),.slnil]=some (.bool false):=rfl;have f:Ay (.Cf 3) []=some (.sl 3 []):=rfl;have c:ON h 3 40 (.sl 3 []) (.sl 3 (l.map A3.row))=some (.sl 3 (l.map A3.row)):=by
   simp only[ON,Gv,BH,B5];cases l with
   |nil=>rfl
   |cons a l=>have:(l.length+1)*40<=AQ:=jN (by simp at hb;omega);simp[C4,this]
  rw[Aj,uO,t27];simp only[Cr,b,f,c]
 .refine⟨.slnil,?_,?_⟩;.have b:Ay (.Gu false .sl) [.slnil,.slnil]=some (.bool true):=rfl;rw[Aj,uO,t27];simp only[Cr,b]
  .exact .inr ⟨rfl,hn⟩
def vV{e:CN}(he:qD e):∃a:CN,a.c=e.c/\Cx cx 153 [.agg e.row] h (.agg a.row) h:=by obtain⟨u,r,hu⟩:=f45 (h:=h) e.ok he;refine⟨⟨e.c,u,hu⟩,rfl,?_⟩;rw[Aj,da,ġ];simp only[Cr,CN.DI,CN.g0,CN.g1,CN.g2,r.Ag,Bu.cells hu];rfl
def f101(hv:EL l v){k:Nat}(hk:k<l.length)(hb:l.length<=1000000000):∃u,Cx cx 152 [v,I (k:Int)] h u h/\EL (Bk l k) u:=by obtain⟨r,m,h1⟩:=Bu.Si hv (k:= .i64) (Ab:k<=l.length);obtain⟨q,j,h2⟩:=Bu.NT h1 (b:=48) (WC (by rw[Au];omega));obtain⟨p,i,f⟩:=Bu.jM hv (k:= .i64) (Ab:k+1<=l.length);obtain⟨a,g,c⟩:=Bu.ao h2 f (b:=48) (WC (by rw[Au,AV];omega));refine⟨a,?_,c⟩;rw[Aj,c_,Ġ];simp only[Cr,m,j,Ci (Ab:k<9223372036854775807),i,g]
def f102(hv:EL l v)(e:CN){k:Nat}(hk:k<=l.length)(hb:l.length<=1000000000):∃u,Cx cx 122 [v,.agg e.row,I (k:Int)] h u h/\EL (l.take k++e::l.drop k) u:=by obtain⟨x,r,h1⟩:=Bu.Si hv (k:= .i64) hk;obtain⟨w,q,h2⟩:=Bu.NT h1 (b:=48) (WC (by rw[Au];omega));have p:=Bu.WB (a:=e) h2 (b:=48) (WC (by rw[Au];omega));obtain⟨t,m,i⟩:=Bu.jM hv (k:= .i64) hk;obtain⟨g,j,c⟩:=Bu.ao (f:=CN.row) (l:=l.take k++[e]) .mk i (b:=48) (WC (by rw[Ap,Au,AV,BR];omega));refine⟨g,?_,by rw[AB] at c;exact c⟩;rw[Aj,b_,Ě];simp only[Cr,CN.DI,CN.g0,CN.g1,CN.g2,CN.SG,r,q,oF CN.DI,p,m,j]
def xq(hv:EL l v)(hne:l≠[])(hb:l.length<=1000000000):Cx cx 110 [v] h (.CL h.length 0 l.length 3) (h++[.cells (l.map CN.row).flatten]):=by
 have f:Ay (.Gu false .sl) [v,.slnil]=some (.bool false):=by
  rcases hv with rfl|⟨rfl,hv⟩
  .rfl
  .exact absurd (by simpa using hv) hne
 have c:Ay (.Cf 3) []=some (.sl 3 []):=rfl;have a:=NP (h:=h) (s:= .sl 3 []) (z:=3) (b:=48) (.inr rfl) hv (by simpa using hne) (by rw[As];exact WC Ab);rw[As] at a;rw[Aj,Yd,bq];simp only[Cr,f,c,a]
def f63(hs:Rp h id o l)(hb:l.length<=1000000000):∃u,Cx cx 71 [Pt id o] h (.tuple []) (put h id o u)/\EL (l++[X3]) u:=by obtain⟨v,hc,hv⟩:=(show Rp h id o l from hs);obtain⟨u,hr,hu⟩:=f102 (h:=h) hv X3 (Af l.length) hb;rw[B7,Hv] at hu;refine⟨u,?_,hu⟩;rw[Aj,ve,t71];simp only[Cr,↓reduceIte,BD,PD,DN,hc.load,Bc,Bu.Gi hv,tU,hr.Ag,hc.store (EL.cells hu)]
def aDr(hs:Rp h id o l)(hb:l.length<=1000000000){e:CN}(he:qD e)(i:Int):∃u a,a.c=e.c/\Cx cx 167 [Pt id o,.agg e.row,I i] h (.tuple []) (put h id o u)/\EL (l.take (F8 i l.length)++a::l.drop (F8 i l.length)) u:=by
 obtain⟨v,hc,hv⟩:=(show Rp h id o l from hs);obtain⟨a,Zs,b⟩:=vV (h:=h) he;obtain⟨u,hr,hu⟩:=f102 (h:=h) hv a (k:=F8 i l.length) (by unfold F8;omega) hb;refine⟨u,a,Zs,?_,hu⟩;have f:(if(l.length:Int)<(if i<0 then 0 else i) then(l.length:Int) else(if i<0 then 0 else i))=((F8 i l.length:Nat):Int):=by unfold F8;split<;>split<;>omega
 rw[Aj,dw,Ĭ];simp only[Cr,CN.DI,CN.g0,CN.g1,CN.g2,CN.SG,PD,DN,hc.load,Bc,XR,Bu.Gi hv,tL,f,b.Ag,Dx,hr.Ag,hc.store (EL.cells hu)]
def f65(hs:Rp h id o l)(hb:l.length<=1000000000):∃u,Cx cx 74 [Pt id o] h (I ((l.length:Int)-((GS l:Nat):Int))) (put h id o u)/\EL (l.take (GS l)) u:=by
 obtain⟨v,hc,hv⟩:=(show Rp h id o l from hs);obtain⟨s,es,K9,_⟩:=Pm l;have hcl:GS l<=l.length:=by unfold GS;omega
 obtain⟨u,b,hu⟩:=Bu.Si hv (k:= .i64) hcl;refine⟨u,?_,hu⟩;have a:(if since l-1<0 then 0 else since l-1)=((GS l:Nat):Int):=by unfold GS;split<;>omega
 have iN:(l.take (GS l)).length=GS l:=by rw[Au];omega
 have c:At (put h id o u) id o u:=hc.put;rw[Aj,vg,t74];simp only[Cr,GU,hc.load,Bc,Bu.Gi hv,(f99 hc hv hb).Ag,Dx,Em (Ab: -9223372036854775808<=since l-1) (Ab:since l-1<9223372036854775808),XR,a,b,hc.store (Bu.cells hu),c.load,Bu.Gi hu,iN,Em (Ab: -9223372036854775808<=(l.length:Int)-((GS l:Nat):Int)) (Ab:(l.length:Int)-((GS l:Nat):Int)<9223372036854775808)]
end
end
section
section
variable{e:B8}{l:List CN}{n s:Nat}
end
section
variable{h:Ah}{v:Aa}{l:List CN}{id o:Nat}
set_option maxHeartbeats 1000000 in
def f30(hs:Rp h id o l)(hb:l.length<=900000000)(hl:∀x∈l,qD x){e:CN}(he:qD e):∃u a,a.c=e.c/\Cx cx 105 [Pt id o,.agg e.row] h (.tuple []) (put h id o u)/\EL (Po e.c l++[a]) u:=by
 obtain⟨v,hc,hv⟩:=(show Rp h id o l from hs);have Ig:Bu 3 (l.map CN.row) v:=hv;have Hw:=hs.lt;obtain⟨s,es,K9,q,_⟩:=Pm l;have NH:Ev cx 105 [Pt id o,.agg e.row] h λr h'=>r= .tuple []/\∃(a:CN) (u:Aa),a.c=e.c/\h'=put h id o u/\EL (Po e.c l++[a]) u:=by
  unfold Ev;rw[bj,đ];by_cases h0:e.c.node=0;.obtain⟨a,Zs,b⟩:=vV (h:=h) he;obtain⟨u,r2,hu⟩:=f102 (h:=h) hv a (Af l.length) Ab;rw[B7,Hv] at hu;simp only[Cr,CN.DI,CN.g0,CN.g1,CN.g2,GU,h0,CC,AL,AI,AP,AM,hc.load,Bc,Ig.Gi];rw[<-h0,CN.SG];simp only[Cr,b.Ag,Dx,hc.load,Bc,r2.Ag,hc.store (EL.cells hu)];refine⟨_,rfl,rfl,a,u,Zs,rfl,?_⟩;rw[Po,Ac (λh=>h.1 h0)];exact hu
  .simp only[Cr,CN.DI,CN.g0,CN.g1,CN.g2,CN.SG,GU,h0,CC,AL,AI,AP,AM,hc.load,Bc,Ig.Gi,Em (Ab: -9223372036854775808<=(l.length:Int)-1) (Ab:(l.length:Int)-1<9223372036854775808)];refine BI (λp:Int×Nat×Nat=>[I p.1,I (p.2.1:Int),I ((p.2.2:Int)-1)])
    (λp h1=>s<=p.2.2/\p.2.2<=l.length/\p.2.1+p.2.2<=l.length/\VE e.c l=p.2.1+VE e.c (l.take p.2.2)/\(Pn e.c l=if 0<=Pn e.c (l.take p.2.2) then Pn e.c (l.take p.2.2) else if p.2.1=0 then -1 else p.1)/\(p.2.1=0\/∃k:Nat,k<l.length/\p.1=(k:Int))/\h1=h)
    (λp=>p.2.2) (0,0,l.length) rfl ⟨K9,Af _,Aw,Aw,by
     rw[B7];have:∀l:List CN,-1<=eQ e.c l:=by
      intro l;induction l with
      |nil=>exact I6 _
      |cons x t ih=>rw[eQ];split<;>(try split)<;>(try split)<;>omega
     have:=this l.reverse;simp only[BH];unfold Pn;split<;>omega,.inl rfl,rfl⟩ ?_
   rintro⟨B,f,n⟩ h1 ⟨a1,a2,a3,a4,a5,a6,rfl⟩;simp only at a1 a2 a3 a4 a5 a6;have j:=f99 hc hv Ab;rw[es] at j;rcases Bg s n with hlt|GW
   .obtain⟨n,rfl⟩:∃m,n=m+1:=⟨n-1,Ab⟩;have A:((n+1:Nat):Int)-1=(n:Int):=Ab;have hn:n<l.length:=a2;have g:=q n hn Ab;rw[WD hn,Ac g] at a4;rw[WE hn,Ac g] at a5;have b:=aDq (h:=h1) (hl _ (AJ hn)) he;simp only[Cr,A,j.Ag,(Ab:(s:Int)<=(n:Int)),AL,AI,AP,hc.load,Bc,Ig.DC hn,CN.DI,CN.JQ,Af,b.Ag,Ci (Ab:f<9223372036854775807),Em (Ab: -9223372036854775808<=(n:Int)-1) (Ab:(n:Int)-1<9223372036854775808)];rw[Du];refine⟨λh2=>?_,λh2=>?_⟩
    .rw[Ad h2] at a4 a5;refine A8.next ((n:Int),f+1,n) rfl ⟨Hc,Hc,Hc,Hc,?_,.inr ⟨n,hn,rfl⟩,rfl⟩ Hc;simp only
     rw[a5];by_cases hf:0<=Pn e.c (l.take n);.simp[hf]
     .simp[hf,(Ab:(0:Int)<=(n:Int))]
    .rw[Ac (by simp[h2])] at a4;rw[Ac (show¬Kb l[n].c e.c=true by simp[h2])] at a5;refine A8.next (B,f,n) rfl ⟨Hc,Hc,Hc,Hc,?_,a6,rfl⟩ Hc;simp only
     rw[a5];by_cases hf:0<=Pn e.c (l.take n);.simp[hf]
     .simp[hf]
   .obtain rfl:n=s:=by omega
    obtain⟨b1,b2⟩:=eR (e:=e.c) es;rw[b1,Bc] at a4;rw[b2,Ac Bj] at a5;simp only[Cr,j.Ag,(Ab:¬(n:Int)<=(n:Int)-1),AI,AP,AM];by_cases C:3<=f
    .rcases a6 with a6|⟨k,hk,rfl⟩
     .omega
     rw[Ac Ab] at a5;obtain⟨i,b,Xs⟩:=f101 (h:=h1) hv hk Ab;have S0:(Bk l k).length<=l.length:=by unfold Bk;rw[Ap,Au,AV];omega
     have w:At (put h1 id o i) id o i:=hc.put;obtain⟨a,Zs,r2⟩:=vV (h:=put h1 id o i) he;obtain⟨y,z,Qe⟩:=f102 (h:=put h1 id o i) Xs a (Af (Bk l k).length) Ab;rw[B7,Hv] at Qe;simp only[Cr,(Ab:(3:Int)<=(f:Int)),AL,AI,AP,hc.load,Bc,b.Ag,hc.store (EL.cells Xs),w.load,Bu.Gi Xs,r2.Ag,Dx,z.Ag,w.store (EL.cells Qe),XX];refine⟨_,rfl,rfl,a,y,Zs,rfl,?_⟩;rw[Po,Ad ⟨h0,Ab⟩,a5,Bn];exact Qe
    .obtain⟨a,Zs,b⟩:=vV (h:=h1) he;obtain⟨u,r2,hu⟩:=f102 (h:=h1) hv a (Af l.length) Ab;rw[B7,Hv] at hu;simp only[Cr,(Ab:¬(3:Int)<=(f:Int)),AI,AP,AM,hc.load,Bc,Ig.Gi,b.Ag,Dx,r2.Ag,hc.store (EL.cells hu)];refine⟨_,rfl,rfl,a,u,Zs,rfl,?_⟩;rw[Po,Ac Ab];exact hu
 obtain⟨r,h',hr,rfl,a,u,Zs,rfl,hu⟩:=NH.ret;exact⟨u,a,Zs,hr,hu⟩
end
end
section
section
variable{h:Ah}{v:Aa}{l:List CN}{id o:Nat}
def f208(hs:Rp h id o l)(hb:l.length<=900000000)(node:Int){e:CN}(he:qD e):∃u t a,a.c=e.c/\Cx cx 203 [Pt id o,I node,.agg e.row] h (.bool (decide (0<=Jo node l))) (put h id o u++t)/\EL (if Jo node l<0 then l else l.set (Jo node l).toNat a) u:=by
 obtain⟨v,hc,hv⟩:=(show Rp h id o l from hs);rcases ZU node l with h1|⟨k,hk,h1⟩
 .refine⟨v,[],e,rfl,?_,by rw[h1];exact hv⟩;have b:=hc.lK (Bu.Th hv);rw[Aj,lE,xe,hc.same,BQ];simp only[Cr,CN.DI,(f41 hc hv Ab node).Ag,h1,(Bj:(-1:Int)<0),AL,AP,AI,b];rfl
 .have hne:l≠[]:=by intro e;subst e;simp at hk
  have hcl:=xq (h:=h) hv hne Ab;have g:=(hc.Kr (t:=[DJ.cells (l.map CN.row).flatten])).store (u:= .CL h.length 0 l.length 3) rfl;rw[XY hc] at g;obtain⟨a,Zs,j⟩:=vV (h:=put h id o (.CL h.length 0 l.length 3)++[DJ.cells (l.map CN.row).flatten]) he;obtain⟨r,x,p⟩:=hc.next (w:= .CL h.length 0 l.length 3) (X:= .cells (l.map CN.row).flatten) (Y:= .cells ((l.map CN.row).set k a.row).flatten);have f:=Sf (z:=3) (SH l) r (i:=k) (by simpa using hk) (q:=a.row) rfl;rw[p] at f;have m:Ay (.Gm 3) [.CL h.length 0 l.length 3,I (k:Int)]=some (Pt h.length (k*3)):=EV hk;have b:=hc.lL (ZO (SH l) (i:=k) (q:=a.row) rfl);rw[Bv,As] at b;refine⟨.sl 3 ((l.map CN.row).set k a.row),[.DK],a,Zs,?_,?_⟩;.rw[Aj,lE,xe];simp only[Cr,CN.DI,CN.g0,CN.g1,CN.g2,CN.SG,(f41 hc hv Ab node).Ag,h1,(Ab:¬(k:Int)<0),AM,AP,AI,hc.load,Bc,hcl.Ag,g,x.load,j.Ag,Dx,m,f,b,(Ab:(0:Int)<=(k:Int)),DO]
  .rw[h1,Ac Ab,Bn,<-Fo];exact .mk
end
end
def SM:List A3->Aa
 |[]=> .slnil
 |x::l=> .sl 3 ((x::l).map A3.row)
def Ta{l:List A3}:Cp l (SM l):=by cases l;exact .inr ⟨rfl,rfl⟩;exact .inl rfl
def o7{l:List A3}{x:A3}:SM (l++[x])= .sl 3 ((l++[x]).map A3.row):=by cases l<;>rfl
structure PN where
 x:D8
 kv:Aa
 av:Aa
 ok:av=SM x.Av
def PN.row(p:PN):List Aa:=[I p.x.kind,I p.x.FL,p.kv,I p.x.BO,I p.x.AW,.str p.x.name,p.av,.str p.x.data,.str p.x.zx,.str p.x.sys,.bool p.x.Cj,I p.x.cont,I p.x.C0]
def PN.DI{p:PN}:p.row.length=13:=rfl
def PN.zero:PN:=⟨{},.slnil,.slnil,rfl⟩
def pN(ps:List PN)(x:Int):PN:=ps.getD (x.toNat-1) PN.zero
def DH(n:Int):List Aa:=[I n]
def Ff(l:List Int)(v:Aa):Prop:=Bu 1 (l.map DH) v
def I3(h:Ah)(kv:Aa)(l:List Int):Prop:=(kv= .slnil/\l=[])\/∃id cs,kv= .CL id 0 l.length 1/\h[id]?=some (.cells (l.map (Aa.int .i64)++cs))
def GM:Aa->Option Nat
 | .CL id _ _ _=>some id
 |_=>none
def lM(l:List (Int×Int)):Prop:=(l.map (·.1)).Nodup/\∀p∈l,nL p.1=true/\nL p.2=true
def UN(h:Ah)(m:Option Nat)(f:Int->Int):Prop:=(m=none/\∀k,f k=0)\/∃(id:Nat) (l:List (Int×Int)),m=some id/\h[id]?=some (.map (l.map λx:Int×Int=>(I x.1,I x.2)))/\(∀k,(l.find? λx=>decide (k=x.1)).map (·.2)=if f k=0 then none else some (f k))/\lM l
def Fp(a n:Nat)(m:Option Nat)(ps:List PN):List Nat:=a::n::(m.toList++ps.filterMap λp=>GM p.kv)
structure PA(h:Ah)(a n:Nat)(m:Option Nat)(ps:List PN)(A:Ar):Prop where
 e:A.n=ps.map PN.x
 il:A.i.length=A.n.length
 ha:h[a]?=some (.cells [.CL n 0 ps.length 13,.map m])
 hn:h[n]?=some (.cells (ps.map PN.row).flatten)
 ks:∀p∈ps,I3 h p.kv p.x.AT
 nd:(Fp a n m ps).Nodup
 mp:UN h m A.inr
structure FD(h:Ah)(F:Nat->Prop)(h':Ah)(F':Nat->Prop):Prop where
 len:h.length<=h'.length
 old:∀i,i<h.length->¬F i->h'[i]?=h[i]?
 BE:∀i,F' i->F i\/h.length<=i
section
variable{h h' h'' t:Ah}{F F' F'':Nat->Prop}
def FD.refl:FD h F h F:=⟨Af _,λ_ _ _=>rfl,λ_ h=> .inl h⟩
def FD.trans(x:FD h F h' F')(y:FD h' F' h'' F''):FD h F h'' F'':=
 ⟨Bm x.len y.len,λi hi hF=>by
  rw[y.old i (Ke hi x.len) (λh=>by rcases x.BE i h with h|h;exact hF h;omega)];exact x.old i hi hF,λi hi=>by
  rcases y.BE i hi with h|h
  .exact x.BE i h
  .exact .inr (Bm x.len h)⟩
def FD.Kr:FD h F (h++t) F:=⟨Aw,λi hi _=>Al hi,λ_ h=> .inl h⟩
end
def PW(h:Ah)(F:Nat->Prop)(a:Nat)(A:Ar):Prop:=∃n m ps,PA h a n m ps A/\∀i,F i↔i∈Fp a n m ps
section
variable{h h':Ah}{a n:Nat}{m:Option Nat}{ps:List PN}{A:Ar}{x:Int}{F:Nat->Prop}
def I3.DU{kv:Aa}{l:List Int}(hk:I3 h kv l)(hf:∀id,GM kv=some id->h'[id]?=h[id]?):I3 h' kv l:=by
 rcases hk with⟨rfl,rfl⟩|⟨id,cs,rfl,hc⟩
 .exact .inl ⟨rfl,rfl⟩
 .exact .inr ⟨id,cs,rfl,by rw[hf id rfl];exact hc⟩
def UN.DU{f:Int->Int}(hk:UN h m f)(hf:∀id,m=some id->h'[id]?=h[id]?):UN h' m f:=by
 rcases hk with h1|⟨id,l,rfl,hc,h2⟩
 .exact .inl h1
 .exact .inr ⟨id,l,rfl,by rw[hf id rfl];exact hc,h2⟩
def JW{p:PN}{id:Nat}(hp:p∈ps)(hk:GM p.kv=some id):id∈Fp a n m ps:=by unfold Fp;simp only[Az,Ak];exact .inr (.inr (.inr (B1.2 ⟨p,hp,hk⟩)))
def PA.DU(w:PA h a n m ps A)(hf:∀i∈Fp a n m ps,h'[i]?=h[i]?):PA h' a n m ps A:=
 ⟨w.e,w.il,by rw[hf a (by simp[Fp])];exact w.ha,by rw[hf n (by simp[Fp])];exact w.hn,λp hp=>(w.ks p hp).DU λid hk=>hf id (JW hp hk),w.nd,w.mp.DU λid hm=>hf id (by simp[Fp,hm])⟩
def PA.lt(w:PA h a n m ps A):∀i∈Fp a n m ps,i<h.length:=by
 intro i hi;unfold Fp at hi;simp only[Az,Ak,B1] at hi;rcases hi with rfl|rfl|hi|⟨p,hp,hk⟩
 .exact(Ae.1 w.ha).1
 .exact(Ae.1 w.hn).1
 .rcases w.mp with⟨rfl,_⟩|⟨id,l,rfl,hc,_⟩
  .simp at hi
  .simp at hi;subst hi;exact(Ae.1 hc).1
 .rcases w.ks p hp with⟨e,_⟩|⟨id,cs,e,hc⟩
  .rw[e] at hk;cases hk
  .rw[e] at hk;cases hk;exact(Ae.1 hc).1
def PW.DU(w:PW h F a A)(hf:∀i,F i->h'[i]?=h[i]?):PW h' F a A:=by obtain⟨n,m,ps,w,e⟩:=w;exact⟨n,m,ps,w.DU λi hi=>hf i ((e i).2 hi),e⟩
def PW.lt(w:PW h F a A){i:Nat}(hi:F i):i<h.length:=by obtain⟨n,m,ps,w,e⟩:=w;exact w.lt i ((e i).1 hi)
def PA.vW(w:PA h a n m ps A):A.n.length=ps.length:=by rw[w.e,As]
def PA.at(w:PA h a n m ps A)(hx:A.has x):x.toNat-1<ps.length/\((x.toNat-1:Nat):Int)=x-1:=by have:=w.vW;unfold Ar.has at hx;omega
def PA.pn(w:PA h a n m ps A)(hx:A.has x):ps[x.toNat-1]?=some (pN ps x)/\(pN ps x).x=A.nd x/\pN ps x∈ps:=by
 have h1:=(w.at hx).1;have h2:ps[x.toNat-1]?=some ps[x.toNat-1]:=Ai h1;have b:pN ps x=ps[x.toNat-1]:=by unfold pN;rw[Ax,h2];rfl
 refine⟨by rw[b];exact h2,?_,by rw[b];exact AJ _⟩;unfold Ar.nd;rw[Ad hx,w.e,b,Ax,Cn,h2];rfl
def Mr{Ao:List (List Aa)}{z i k:Nat}(hr:∀r∈Ao,r.length=z)(hk:k<z){r:List Aa}(hi:Ao[i]?=some r):Ao.flatten[i*z+k]?=r[k]?:=by
 have h1:(Ao.flatten.drop (i*z))[k]?=r[k]?:=by rw[HA hr];obtain⟨hlt,e⟩:=Ae.1 hi;rw[AA hlt,e,Cy,Al (by rw[hr r (e▸AJ hlt)];exact hk)]
 rwa [Cm] at h1
def aG(l:List PN):∀r∈l.map PN.row,r.length=13:=Mh (f:=PN.row) (λ_=>PN.DI) l
def nP(n:Nat)(x:Int):Nat:=(x.toNat-1)*13
def PA.Dm(w:PA h a n m ps A)(hx:A.has x){k:Nat}(hk:k<13):Bq h none (Pt n (nP n x+k))=(pN ps x).row[k]?:=by unfold nP;simp only[Bq,w.hn,Fi];exact Mr (aG ps) hk (by rw[Cn,(w.pn hx).1];rfl)
def SO(w:PA h a n m ps A):Cx cx 56 [Pt a 0,I x] h (.bool (decide (A.has x))) h:=by
 have d:Bq h none (Pt a 0)=some (.CL n 0 ps.length 13):=by simp only[Bq,w.ha];rfl
 have c:Ay (.len false) [.CL n 0 ps.length 13]=some (I (ps.length:Int)):=rfl;rw[Aj,uZ,t56];simp only[abS,d,c];have hl:=w.vW;have b:A.has x↔1<=x/\x<=(ps.length:Int):=by unfold Ar.has;rw[hl]
 refine⟨λh1=>?_,λh1=>?_⟩;.congr 2;rw[DZ,b];exact⟨λh=>⟨h1,h⟩,λh=>h.2⟩
 .rw[Bb (λh=>h1 (b.1 h).1)]
def PA.nodes(w:PA h a n m ps A):Bq h none (Pt a 0)=some (.CL n 0 ps.length 13):=by simp only[Bq,w.ha];rfl
def PA.len(w:PA h a n m ps A):((ps.length:Nat):Int)=A.len:=by unfold Ar.len;rw[w.vW]
def mh(w:PA h a n m ps A){l:List Int}{v:Aa}(hv:Ff l v)(hb:l.length<=1000):Cx cx 54 [Pt a 0,v] h (I (if∀x∈l,A.has x then 0 else 3)) h:=by
 have hv:Bu 1 (l.map DH) v:=hv;rw[Aj,uY,t54];simp only[abS,hv.Gi];refine BI (λk:Nat=>[I 0,I (k:Int)]) (λk h1=>k<=l.length/\(∀x∈l.take k,A.has x)/\h1=h) (λk=>l.length-k) 0 rfl ⟨A7 _,Aw,rfl⟩ ?_;rintro k h1 ⟨hk,ha,rfl⟩;rcases Bg k l.length with hlt|GW
 .have i1:(k:Int)<(l.length:Int):=by omega
  have c:Bq h1 none (.Cz (DH l[k]))=some (I l[k]):=rfl;simp only[Cr,ZM,i1,hv.DC hlt,c,(SO (x:=l[k]) w).Ag,Ci (Ab:k<9223372036854775807)];rw[Du];refine⟨λh2=>?_,λh2=>?_⟩
  .have h2:¬A.has l[k]:=by simpa using h2
   rw[Ac (λb=>h2 (b _ (AJ hlt)))]
  .have h2:A.has l[k]:=by simpa using h2
   refine A8.next (k+1) rfl ⟨hlt,?_,rfl⟩ Ab;intro x hx;rw[AD hlt,Ak,Dl] at hx;rcases hx with hx|rfl
   .exact ha x hx
   .exact h2
 .have i1:¬(k:Int)<(l.length:Int):=by omega
  rw[AR GW] at ha;simp only[abS,i1,Ad ha]
def Rw(w:PA h a n m ps A):Cx cx 54 [Pt a 0,.sl 1 [[I x]]] h (I (if A.has x then 0 else 3)) h:=by have:=mh w (l:=[x]) (v:= .sl 1 [[I x]]) .mk Aw;simpa using this
def Kd{y:Int}(w:PA h a n m ps A):Cx cx 54 [Pt a 0,.sl 1 [[I x],[I y]]] h (I (if A.has x/\A.has y then 0 else 3)) h:=by have:=mh w (l:=[x,y]) (v:= .sl 1 [[I x],[I y]]) .mk Aw;simpa using this
def GB{x:Int}:Ay (.Cf 1) [I x]=some (.sl 1 [[I x]]):=rfl
def E2{x y:Int}:Ay (.Cf 1) [I x,I y]=some (.sl 1 [[I x],[I y]]):=rfl
def LS.of(b:LS A)(hx:A.has x):1<=x/\x<=1000000000:=by have:=b.n;unfold Ar.has at hx;omega
def HJ(w:PA h a n m ps A)(b:LS A)(hx:A.has x):Cx cx 55 [Pt a 0,I x] h (Pt n (nP n x)) h:=by
 have hr:=b.of hx;have d:=(w.at hx).2;have c:Ay (.Gm 13) [.CL n 0 ps.length 13,I (x-1)]=some (Pt n (nP n x)):=by rw[<-d];exact EV (w.at hx).1
 rw[Aj,fN,t55];simp only[abS,w.nodes,Em (Ab: -9223372036854775808<=x-1) (Ab:x-1<9223372036854775808),c]
def PA.f0(w:PA h a n m ps A)(hx:A.has x):Bq h none (Pt n (nP n x))=some (I (A.nd x).kind):=by have:=w.Dm hx (k:=0) Bj;rw[<-(w.pn hx).2.1];exact this
def PA.f1(w:PA h a n m ps A)(hx:A.has x):Bq h none (Pt n (nP n x+1))=some (I (A.nd x).FL):=by have:=w.Dm hx (k:=1) Bj;rw[<-(w.pn hx).2.1];exact this
def PA.f2(w:PA h a n m ps A)(hx:A.has x):Bq h none (Pt n (nP n x+2))=some (pN ps x).kv:=by have:=w.Dm hx (k:=2) Bj;exact this
def PA.f4(w:PA h a n m ps A)(hx:A.has x):Bq h none (Pt n (nP n x+4))=some (I (A.nd x).AW):=by have:=w.Dm hx (k:=4) Bj;rw[<-(w.pn hx).2.1];exact this
def PA.f5(w:PA h a n m ps A)(hx:A.has x):Bq h none (Pt n (nP n x+5))=some (.str (A.nd x).name):=by have:=w.Dm hx (k:=5) Bj;rw[<-(w.pn hx).2.1];exact this
def PA.f6(w:PA h a n m ps A)(hx:A.has x):Bq h none (Pt n (nP n x+6))=some (pN ps x).av:=by have:=w.Dm hx (k:=6) Bj;exact this
def PA.IG(w:PA h a n m ps A)(hx:A.has x):I3 h (pN ps x).kv (A.nd x).AT:=by rw[<-(w.pn hx).2.1];exact w.ks _ (w.pn hx).2.2
def PA.Ŋ(w:PA h a n m ps A)(hx:A.has x):(pN ps x).av=SM (A.nd x).Av:=by rw[<-(w.pn hx).2.1];exact(pN ps x).ok
def PA.row(w:PA h a n m ps A)(hx:A.has x):Bq h (some 13) (Pt n (nP n x))=some (.agg (pN ps x).row):=by
 have h1:((ps.map PN.row).flatten.drop (nP n x)).take 13=(pN ps x).row/\nP n x+13<=(ps.map PN.row).flatten.length:=by unfold nP;have hlt:=(w.at hx).1;have hg:=(w.pn hx).1;rw[HA (aG ps),F6 (aG ps),As];refine⟨?_,Ab⟩;rw[<-LV,AA hlt,Bi,Cy];rw[Ai hlt,BB] at hg;rw[hg];exact Ia PN.DI
 simp only[Bq,w.hn,Ln];rw[Ad h1.2,h1.1]
def LN:∀{l:List Int} {cs QY:List Aa},Cg (QY++(l.map (Aa.int .i64)++cs)) 1 QY.length l.length=l.map DH
 |[],_,_=>rfl
 |x::l,cs,QY=>by have:=LN (l:=l) (cs:=cs) (QY:=QY++[I x]);simp only[AB,Ap,BR] at this;simp only[Bi,AU,Cg,CP];rw[J4 rfl];simp only[CP,BG] at this;rw[this];rfl
def I3.Ao{kv:Aa}{l:List Int}(hk:I3 h kv l):Gv h 1 kv=some (l.map DH):=by
 rcases hk with⟨rfl,rfl⟩|⟨id,cs,rfl,hc⟩
 .rfl
 .have:=LN (l:=l) (cs:=cs) (QY:=[]);simp only[BG,BK] at this;simp only[Gv,BH,hc,this];rw[Ad Aw]
def I3.len{kv:Aa}{l:List Int}(hk:I3 h kv l):Ay (.len false) [kv]=some (I (l.length:Int)):=by rcases hk with⟨rfl,rfl⟩|⟨id,cs,rfl,hc⟩<;>rfl
def mi{kv:Aa}{l:List Int}(hk:I3 h kv l)(hb:l.length<=1000000000):∃v,Cx cx 77 [kv] h v h/\Ff l v:=by
 have hr:=hk.Ao;rcases hk with⟨rfl,rfl⟩|⟨id,cs,rfl,hc⟩
 .exact⟨.slnil,by rw[Aj,fR,t77];simp only[Cr,show Ay (.Gu false .sl) [.slnil,.slnil]=some (.bool true) from rfl],.inr ⟨rfl,rfl⟩⟩
 .refine⟨.sl 1 (l.map DH),?_,.mk⟩;have b:ON h 1 8 (.sl 1 []) (.CL id 0 l.length 1)=some (.sl 1 (l.map DH)):=by
   unfold ON;rw[hr,B5];cases l with
   |nil=>rfl
   |cons x l=>
    have:(x::l).length*8<=AQ:=by have:AQ=140737488355328:=rfl;omega
    simp only[Bi,C4,AU,As,BK] at this⊢;rw[Ad ⟨trivial,by simpa using this⟩];rfl
  rw[Aj,fR,t77];simp only[Cr,show Ay (.Gu false .sl) [.CL id 0 l.length 1,.slnil]=some (.bool false) from rfl,show Ay (.Cf 1) []=some (.sl 1 []) from rfl,b]
def FE(h:Ah)(v:Aa)(l:List A3):Prop:=(v= .slnil/\l=[])\/∃id,v= .CL id 0 l.length 3/\h[id]?=some (.cells (l.map A3.row).flatten)/\id<h.length
def FE.Kr{v:Aa}{l:List A3}{t:Ah}(hv:FE h v l):FE (h++t) v l:=by
 rcases hv with h1|⟨id,e,hc,hl⟩
 .exact .inl h1
 .exact .inr ⟨id,e,by rw[Al hl];exact hc,by rw[Ap];omega⟩
def FE.cells{v:Aa}{l:List A3}(hv:FE h v l):v.cells=[v]:=by rcases hv with⟨rfl,_⟩|⟨id,rfl,_,_⟩<;>rfl
structure Qv(h:Ah)(v:Aa)(l:List A3):Prop where
 len:Ay (.len false) [v]=some (I (l.length:Int))
 at_:∀k (hk:k<l.length),∃p,Ay (.Gm 3) [v,I (k:Int)]=some p/\Bq h (some 3) p=some (.agg l[k].row)
def aH{v:Aa}{l:List A3}(hv:Cp l v):Qv h v l:=⟨Bu.Gi hv,λk hk=>⟨_,Bu.DC hv hk,rfl⟩⟩
def vX(l:List A3):∀r∈l.map A3.row,r.length=3:=Mh (f:=A3.row) (λ_=>rfl) l
def FE.in_{v:Aa}{l:List A3}(hv:FE h v l):Qv h v l:=by
 rcases hv with⟨rfl,rfl⟩|⟨id,rfl,hc,_⟩
 .exact⟨rfl,λk hk=>by simp at hk⟩
 .refine⟨rfl,λk hk=>⟨Pt id (k*3),EV hk,?_⟩⟩;simp only[Bq,hc,Ln];rw[Ad (by rw[F6 (vX l),As];omega),HA (vX l),<-LV,AA hk,Bi,Cy];rfl
def Up(N:Nat)(v:Aa):Prop:=∀id k,v= .CL id 0 k 3->N<=id
def vY{v:Aa}{l:List A3}(hv:v=SM l)(hb:l.length<=1000000000):∃u t,Cx cx 100027 [v] h u (h++t)/\FE (h++t) u l/\Up h.length u:=by
 cases l with
 |nil=>refine⟨.slnil,[],?_,.inl ⟨rfl,rfl⟩,λ_ _ e=>nomatch e⟩;rw[BQ,Aj,Pv,S9,hv];simp only[Cr,SM,show Ay (.Gu false .sl) [.slnil,.slnil]=some (.bool true) from rfl]
 |cons x l=>have e:=NP (h:=h) (s:= .sl 3 []) (z:=3) (b:=40) (.inr rfl) (Bu.mk (z:=3) (Ao:=(x::l).map A3.row)) Aw (by rw[As];have:AQ=140737488355328:=rfl;omega);rw[As] at e;refine⟨.CL h.length 0 (x::l).length 3,[.cells ((x::l).map A3.row).flatten],?_,.inr ⟨h.length,rfl,Aw,Aw⟩,λ_ _ e=>by injection e with e;omega⟩;rw[Aj,Pv,S9,hv];simp only[Cr,SM,show Ay (.Gu false .sl) [.sl 3 ((x::l).map A3.row),.slnil]=some (.bool false) from rfl,show Ay (.Cf 3) []=some (.sl 3 []) from rfl,e]
def Qw(h:Ah)(N:Nat)(x:D8)(r:List Aa):Prop:=∃K V,r=[I x.kind,I x.FL,K,I x.BO,I x.AW,.str x.name,V,.str x.data,.str x.zx,.str x.sys,.bool x.Cj,I x.cont,I x.C0]/\Ff x.AT K/\FE h V x.Av/\Up N V
def Qw.Kr{x:D8}{r:List Aa}{t:Ah}{N:Nat}(hr:Qw h N x r):Qw (h++t) N x r:=let⟨K,V,e,h1,h2,b⟩:=hr;⟨K,V,e,h1,h2.Kr,b⟩
def mj(w:PA h a n m ps A)(e:LS A)(hx:A.has x)(vZ:(A.nd x).AT.length<=1000000000):∃r t,Cx cx 24 [Pt n (nP n x)] h (.agg r) (h++t)/\Qw (h++t) h.length (A.nd x) r:=by obtain⟨K,d,c⟩:=mi (w.IG hx) vZ;obtain⟨V,t,r2,b,f⟩:=vY (h:=h) (w.Ŋ hx) (e.at_ x);refine⟨_,t,?_,K,V,rfl,c,b,f⟩;have hc:K.cells=[K]:=Bu.cells c;have e0:=w.row hx;have g:(pN ps x).row=_:=rfl;have ex:=(w.pn hx).2.1;rw[Aj,uM,t24];rw[PN.row,ex] at e0;simp only[abS,e0,w.f2 hx,w.f6 hx,d.Ag,Dx,r2.Ag,hc,b.cells]
def ŋ(w:PA h a n m ps A)(b:LS A)(vZ:(A.nd x).AT.length<=1000000000):∃r t,Cx cx 21 [Pt a 0,I x] h (.tuple [.agg r,I (if A.has x then 0 else 3)]) (h++t)/\Qw (h++t) h.length (A.nd x) r:=by
 by_cases hx:A.has x;.obtain⟨r,t,c,hr⟩:=mj w b hx vZ;have GH:=hr;obtain⟨K,V,rfl,_⟩:=hr;refine⟨_,t,?_,GH⟩;rw[Aj,fK,t21];simp only[abS,↓reduceIte,BD,GB,(Rw (x:=x) w).Ag,Ad hx,CC,BT,(HJ w b hx).Ag,c.Ag]
 .refine⟨_,[],?_,.slnil,.slnil,by rw[IY hx],by rw[IY hx];exact .inr ⟨rfl,rfl⟩,by rw[IY hx];exact .inl ⟨rfl,rfl⟩,λ_ _ e=>nomatch e⟩;rw[Aj,fK,t21,BQ];simp only[abS,↓reduceIte,BD,GB,(Rw (x:=x) w).Ag,Ac hx,CC,(Bj:¬(3:Int)=0),DO]
def ml(w:PA h a n m ps A)(c:LS A)(vZ:(A.nd x).AT.length<=1000000000):∃v,Cx cx 84 [Pt a 0,I x] h v h/\Ff (A.nd x).AT v:=by
 by_cases hx:A.has x;.obtain⟨K,b,d⟩:=mi (w.IG hx) vZ;refine⟨K,?_,d⟩;rw[Aj,fS,t84];simp only[abS,(SO (x:=x) w).Ag,Bf hx,(HJ w c hx).Ag,w.f2 hx,b.Ag]
 .refine⟨.slnil,?_,by rw[IY hx];exact .inr ⟨rfl,rfl⟩⟩;rw[Aj,fS,t84];simp only[abS,(SO (x:=x) w).Ag,Bb hx]
def Ō(w:PA h a n m ps A)(b:LS A):Cx cx 139 [Pt a 0,I x] h (I (A.nd x).FL) h:=by
 by_cases hx:A.has x;.rw[Aj,Yi,cy];simp only[abS,(SO (x:=x) w).Ag,Bf hx,(HJ w b hx).Ag,w.f1 hx]
 .rw[Aj,Yi,cy,IY hx];simp only[abS,(SO (x:=x) w).Ag,Bb hx]
def v8(w:PA h a n m ps A)(b:LS A):Cx cx 140 [Pt a 0,I x] h (I (if A.has x then(if(A.nd x).kind=1 then 0 else 9) else 3)) h:=by
 rw[Aj,kM,wb];by_cases hx:A.has x
 .simp only[abS,GB,(Rw (x:=x) w).Ag,Ad hx,CC,BT,(HJ w b hx).Ag,w.f0 hx];by_cases hk:(A.nd x).kind=1;.simp only[hk,abS,BT]
  .simp only[hk,abS]
 .simp only[abS,GB,(Rw (x:=x) w).Ag,Ac hx,CC,(Bj:¬(3:Int)=0)]
def wA{l:List PN}:(l.map PN.row).flatten.length=l.length*13:=by rw[F6 (aG l),As]
def aI{p:PN}{n':Nat}(hk:GM p.kv=none):Fp a n' m (ps++[p])=a::n'::(m.toList++ps.filterMap λp=>GM p.kv):=by unfold Fp;rw[Eh];simp[hk]
def wB{x:D8}(hl:A.i.length=A.n.length):(A.add x).inr=A.inr:=by funext k;exact IZ hl
def gh(w:PA h a n m ps A)(hb:ps.length+1<=1000000000)(p:PN)(hk:p.kv= .slnil)(zG:p.x.AT=[]):
  ∃h',Cx cx 90 [Pt a 0,.agg p.row] h (I (A.len+1)) h'/\PA h' a h.length m (ps++[p]) (A.add p.x)/\(∀i,i<h.length->i≠a->i≠n->h'[i]?=h[i]?)/\h'.length=h.length+1:=by
 have Xr:a<h.length:=w.lt a (by simp[Fp]);have OF:n<h.length:=w.lt n (by simp[Fp]);have A_:a≠n:=by have:=w.nd;simp[Fp] at this;exact this.1.1
 have d:=MT (h:=h) (id:=n) (Ao:=ps.map PN.row) (r2:=[p.row]) (v:= .sl 13 [p.row]) (b:=168) (aG ps) Bj w.hn .mk Aw (by rw[As];have:AQ=140737488355328:=rfl;simp;omega);rw[As] at d;simp only[BR] at d;have Pf:(h.set n .DK++[DJ.cells (ps.map PN.row++[p.row]).flatten])[a]?=some (.cells [.CL n 0 ps.length 13,.map m]):=by rw[Al (by simpa using Xr),An (DX A_)];exact w.ha
 have es:CM (h.set n .DK++[DJ.cells (ps.map PN.row++[p.row]).flatten]) 1 (Pt a 0) (.CL h.length 0 (ps.length+1) 13)=some ((h.set n .DK++[DJ.cells (ps.map PN.row++[p.row]).flatten]).set a (.cells [.CL h.length 0 (ps.length+1) 13,.map m])):=by simp only[CM,Pf];rfl
 have k:Bq ((h.set n .DK++[DJ.cells (ps.map PN.row++[p.row]).flatten]).set a (.cells [.CL h.length 0 (ps.length+1) 13,.map m])) none (Pt a 0)=some (.CL h.length 0 (ps.length+1) 13):=by simp only[Bq];rw[AH ER];rfl
 have l:Ay (.len false) [.CL h.length 0 (ps.length+1) 13]=some (I ((ps.length+1:Nat):Int)):=rfl;have em:Ay (.Cf 13) [.agg p.row]=some (.sl 13 [p.row]):=Qf (a:= .agg p.row) rfl Bj;refine⟨(h.set n .DK++[DJ.cells (ps.map PN.row++[p.row]).flatten]).set a (.cells [.CL h.length 0 (ps.length+1) 13,.map m]),?_,?_,?_,?_⟩;rotate_left
 .refine⟨by simp[Ar.add,w.e],by simp[Ar.add,w.il],?_,?_,?_,?_,?_⟩;.rw[AH ER];simp
  .rw[An Ab,Bp Aw];simp
  .intro q hq;rcases Ak.1 hq with hq|hq
   .refine(w.ks q hq).DU λid Hw=>?_;have h1:id∈Fp a n m ps:=JW hq Hw;have h2:=w.lt id h1;have c:=w.nd;have j:id∈m.toList++ps.filterMap λp=>GM p.kv:=Ak.2 (.inr (B1.2 ⟨q,hq,Hw⟩));unfold Fp at c;simp only[BL,Az,Pz] at c;have g:a≠id:=λe=>c.1.2 (e▸j);have f:n≠id:=λe=>c.2.1 (e▸j);rw[An g,Al (by simpa using h2),An f]
   .simp at hq;subst hq;exact .inl ⟨hk,zG⟩
  .rw[aI (by rw[hk];rfl)];have c:=w.nd;unfold Fp at c;simp only[BL,Az,Pz] at c⊢;refine⟨⟨Ab,c.1.2⟩,λhm=>?_,c.2.2⟩;have:=w.lt h.length (by unfold Fp;simp only[Az];exact .inr (.inr hm));omega
  .rw[wB w.il];refine w.mp.DU λid Hw=>?_;have h1:id∈m.toList++ps.filterMap λp=>GM p.kv:=by simp[Hw]
   have h2:=w.lt id (by unfold Fp;simp only[Az];exact .inr (.inr h1));have c:=w.nd;unfold Fp at c;simp only[BL,Az,Pz] at c;have g:a≠id:=λe=>c.1.2 (e▸h1);have f:n≠id:=λe=>c.2.1 (e▸h1);rw[An g,Al (by simpa using h2),An f]
 .intro i hi h1 h2;rw[An (DX h1),Al (by simpa using hi),An (DX h2)]
 .simp
 .have hl:A.len+1=((ps.length+1:Nat):Int):=by rw[<-w.len];rfl
  rw[PN.row] at em d es k;rw[Aj,fU,t90,hl,PN.row];simp only[abS,Nat.reduceLeDiff,↓reduceIte,BD,w.nodes,em,d,es,k,l]
def Rx{Ao:List (List Aa)}{z i k:Nat}(hr:∀r∈Ao,r.length=z)(hi:i<Ao.length)(hk:k<z){v:Aa}:Ao.flatten.take (i*z+k)++[v]++Ao.flatten.drop (i*z+k+1)=(Ao.set i (Ao[i].set k v)).flatten:=by
 have hl:=hr _ (AJ hi);rw[<-ZN hr hi];have b:Ao.flatten.drop (i*z)=Ao[i]++Ao.flatten.drop (i*z+z):=by
  have e:i*z+z=(i+1)*z:=by rw[Bs,Ef]
  rw[e,HA hr,HA hr,AA hi,Cy]
 have d:Ao.flatten.take (i*z+k)=Ao.flatten.take (i*z)++Ao[i].take k:=by rw[jk,b,Di Ab]
 have c:Ao.flatten.drop (i*z+k+1)=Ao[i].drop (k+1)++Ao.flatten.drop (i*z+z):=by rw[Py,<-DL,b,List.drop_append_of_le_length Ab]
 rw[d,c,Cd,Ad Ab];simp
def PA.sto(w:PA h a n m ps A)(hx:A.has x){k:Nat}(hk:k<13){v:Aa}(hv:v.cells=[v]){p:PN}(hp:p.row=(pN ps x).row.set k v){h1:Ah}(hn:h1[n]?=h[n]?):
  CM h1 1 (Pt n (nP n x+k)) v=some (h1.set n (.cells ((ps.set (x.toNat-1) p).map PN.row).flatten)):=by
 have hlt:=(w.at hx).1;have hg:=(w.pn hx).1;rw[Ai hlt,BB] at hg;have e:=Rx (Ao:=ps.map PN.row) (i:=x.toNat-1) (k:=k) (v:=v) (aG ps) (by simpa using hlt) hk;rw[C5,hg,<-hp,<-Fo] at e;unfold nP;simp only[CM,hn,w.hn,hv,BR,Mx];rw[Ad (by rw[F6 (aG ps),As];omega),e]
def UO(w:PA h a n m ps A)(hx:A.has x)(p:PN):ps=ps.take (x.toNat-1)++pN ps x::ps.drop (x.toNat-1+1)/\ps.set (x.toNat-1) p=ps.take (x.toNat-1)++p::ps.drop (x.toNat-1+1):=by have hlt:=(w.at hx).1;have hg:=(w.pn hx).1;rw[Ai hlt,BB] at hg;refine⟨?_,by rw[Cd,Ad hlt]⟩;conv=>lhs;rw[<-BM (x.toNat-1) ps,AA hlt,hg]
def wC{y:D8}:(A.set x y).inr=A.inr:=by funext k;exact Lq
def PA.pZ(w:PA h a n m ps A)(hx:A.has x){p:PN}{h1:Ah}(ho:∀i∈Fp a n m ps,GM (pN ps x).kv≠some i->h1[i]?=h[i]?)(hk:I3 h1 p.kv p.x.AT)
  (hi:GM p.kv=GM (pN ps x).kv\/∀j,GM p.kv=some j->h.length<=j):PA (h1.set n (.cells ((ps.set (x.toNat-1) p).map PN.row).flatten)) a n m (ps.set (x.toNat-1) p) (A.set x p.x):=by
 have hlt:=(w.at hx).1;have gi:=(w.pn hx).2.2;obtain⟨y,z⟩:=UO w hx p;have nd:=w.nd;have g:∀j,GM (pN ps x).kv=some j->j∈m.toList++ps.filterMap λp=>GM p.kv:=λj hj=>Ak.2 (.inr (B1.2 ⟨_,gi,hj⟩));have Yn:=nd;unfold Fp at Yn;simp only[BL,Az,Pz] at Yn;have A_:a≠n:=Yn.1.1;have l:GM (pN ps x).kv≠some a:=λe=>Yn.1.2 (g a e);have f:GM (pN ps x).kv≠some n:=λe=>Yn.2.1 (g n e);have OF:n<h.length:=w.lt n (by simp[Fp]);have u:h1[n]?=h[n]?:=ho n (by simp[Fp]) f;have v:n<h1.length:=by have:=w.hn;rw[<-u] at this;exact(Ae.1 this).1
 have qi:∀j,GM p.kv=some j->j≠n/\j≠a:=by
  intro j hj;rcases hi with hi|hi
  .rw[hi] at hj;exact⟨λe=>f (e▸hj),λe=>l (e▸hj)⟩
  .have:=hi j hj;have:=w.lt a (by simp[Fp]);omega
 refine⟨?_,?_,?_,?_,?_,?_,?_⟩;.simp only[Ar.set,Ad hx];rw[w.e,Fo]
 .rw[H7];exact w.il
 .rw[An (DX A_),ho a (by simp[Fp]) l,Bv];exact w.ha
 .rw[AH v]
 .intro q hq;by_cases c:q=p;.rw[c];exact hk.DU λid Hw=>by rw[An (DX (qi id Hw).1)]
  .rw[z] at hq;have d:q∈ps.take (x.toNat-1)++ps.drop (x.toNat-1+1):=by
    rcases Ak.1 hq with b|b
    .exact Ak.2 (.inl b)
    .exact Ak.2 (.inr ((Az.1 b).resolve_left c))
   have rq:q∈ps:=by
    rcases Ak.1 d with b|b
    .exact AN b
    .exact A6 b
   refine(w.ks q rq).DU λj hj=>?_;have o:j∈Fp a n m ps:=JW rq hj;have t:j≠n:=λe=>Yn.2.1 (e▸Ak.2 (.inr (B1.2 ⟨q,rq,hj⟩)));have gA:GM (pN ps x).kv≠some j:=by
    intro s;have r:=(BF.1 Yn.2.2).2.1;rw[y,Eh,Hj,s] at r;simp only[BF,BL,Az,B1] at r;rcases Ak.1 d with b|b
    .exact r.2.2 j ⟨q,b,hj⟩ j (.inl rfl) rfl
    .exact r.2.1.1 ⟨q,b,hj⟩
   rw[An (DX t),ho j o gA]
 .have fr:∀j,GM p.kv=some j->GM (pN ps x).kv=some j\/j∉Fp a n m ps:=by
   intro j hj;rcases hi with hi|hi
   .exact .inl (hi▸hj)
   .exact .inr λhm=>by have:=hi j hj;have:=w.lt j hm;omega
  have h1:=nd;unfold Fp at h1 fr⊢;rw[y,Eh,Hj] at h1;rw[y,Eh,Hj] at fr;rw[z,Eh,Hj];generalize List.filterMap (λp=>GM p.kv) (ps.take (x.toNat-1))=T at h1 fr⊢;generalize List.filterMap (λp=>GM p.kv) (ps.drop (x.toNat-1+1))=D at h1 fr⊢;cases hp:GM p.kv with
  |none=>
   cases ho:GM (pN ps x).kv with
   |none=>rw[ho] at h1;exact h1
   |some k=>rw[ho] at h1;refine h1.sublist ?_;simp
  |some j=>
   have:=fr j hp;cases ho:GM (pN ps x).kv with
   |none=>rw[ho] at h1 this;simp only[BL,BF,Az,Ak] at h1 this⊢;grind
   |some k=>rw[ho] at h1 this;simp only[BL,BF,Az,Ak] at h1 this⊢;grind
 .rw[wC];refine w.mp.DU λid Hw=>?_;have o:id∈m.toList++ps.filterMap λp=>GM p.kv:=by simp[Hw]
  have t:n≠id:=λe=>Yn.2.1 (e▸o);have gA:GM (pN ps x).kv≠some id:=by intro XJ;exact(BF.1 Yn.2.2).2.2 id (by simp[Hw]) id (B1.2 ⟨_,gi,XJ⟩) rfl
  rw[An t,ho id (by unfold Fp;simp only[Az];exact .inr (.inr o)) gA]
def PA.pw(w:PA h a n m ps A):PW h (λi=>i∈Fp a n m ps) a A:=⟨n,m,ps,w,λ_=>Iff.rfl⟩
def LS.add{y:D8}(b:LS A)(h1:A.len+1<=1000000000)(h2:y.Av.length<=1000000000)(c:y.data.length<=1000000000):LS (A.add y):=by
 refine⟨?_,λx=>?_,λx=>?_⟩;.unfold Ar.len at h1;simp[Ar.add];omega
 .rw[EB];split;.exact h2
  .exact b.at_ x
 .rw[EB];split;.exact c
  .exact b.data x
def LS.set{y:D8}(b:LS A)(h2:y.Av.length<=1000000000)(c:y.data.length<=1000000000):LS (A.set x y):=by
 refine⟨by rw[H7];exact b.n,λx=>?_,λx=>?_⟩<;>rw[FA]<;>split;.exact h2
 .exact b.at_ x
 .exact c
 .exact b.data x
def gj{x y:D8}:(A.add x).set (A.len+1) y=A.add y:=by unfold Ar.set;rw[Ad (Dh.2 (.inr rfl))];unfold Ar.add Ar.len;have e:((A.n.length:Int)+1).toNat-1=A.n.length:=Ab;simp only[e];rw[B6 _ _ (Af _),DY];rfl
def lN{p:PN}(w:PA h a n m ps A)(hx:A.has x)(hk:GM p.kv=GM (pN ps x).kv):Fp a n m (ps.set (x.toNat-1) p)=Fp a n m ps:=by obtain⟨c,b⟩:=UO w hx p;unfold Fp;rw[b,Eh,Hj,hk];conv=>rhs;rw[c,Eh,Hj]
def PA.wr(w:PA h a n m ps A)(hx:A.has x){k:Nat}(hk:k<13){v:Aa}(hv:v.cells=[v]){p:PN}(hp:p.row=(pN ps x).row.set k v)(h1:p.kv=(pN ps x).kv)(h2:p.x.AT=(A.nd x).AT):
  ∃h',CM h 1 (Pt n (nP n x+k)) v=some h'/\PA h' a n m (ps.set (x.toNat-1) p) (A.set x p.x)/\Fp a n m (ps.set (x.toNat-1) p)=Fp a n m ps/\(∀i,i≠n->h'[i]?=h[i]?)/\h'.length=h.length:=by
 refine⟨_,w.sto hx hk hv hp rfl,w.pZ hx (λi _ _=>rfl) (by rw[h1,h2];exact w.IG hx) (.inl (by rw[h1])),lN w hx (by rw[h1]),λi hi=>by rw[An (DX hi)],Bv⟩
def PA.wD(w:PA h a n m ps A){h1:Ah}{OH:List PN}{A':Ar}(w':PA h1 a n m OH A')(hi:Fp a n m OH=Fp a n m ps)(ho:∀i,i≠n->h1[i]?=h[i]?)(hl:h1.length=h.length):FD h (λi=>i∈Fp a n m ps) h1 (λi=>i∈Fp a n m OH):=
 ⟨Ab,λi _ hn=>ho i (λe=>hn (by rw[e];simp[Fp])),λi YM=> .inl (by rwa [hi] at YM)⟩
def Je(q:Bool)(d:Int):PN:=⟨{kind:=1,Cj:=q,BO:=d},.slnil,.slnil,rfl⟩
def aDt(w:PA h a n m ps A)(f:LS A)(hb:A.len+1<=1000000000)(q:Bool):
  ∃h',Cx cx 43 [Pt a 0,.bool q] h (I (A.len+1)) h'/\PA h' a h.length m (ps++[Je q (A.len+1)]) (A.add {kind:=1,Cj:=q,BO:=A.len+1})/\(∀i,i<h.length->i≠a->i≠n->h'[i]?=h[i]?)/\h'.length=h.length+1:=by
 have mQ:=w.len;obtain⟨h1,c,w1,e,l1⟩:=gh w Ab (Je q 0) rfl rfl;have mm:=f.add (y:=(Je q 0).x) hb (by simp[Je]) (by simp[Je]);have hx:(A.add (Je q 0).x).has (A.len+1):=Dh.2 (.inr rfl);have hlen:(A.len+1).toNat-1=ps.length:=Ab;have qi:pN (ps++[Je q 0]) (A.len+1)=Je q 0:=by unfold pN;rw[hlen];simp
 obtain⟨h2,b,w2,_,d,l⟩:=w1.wr hx (k:=3) Bj (v:= I (A.len+1)) rfl (p:=Je q (A.len+1)) (by rw[qi];rfl) (by rw[qi];rfl) (by rw[EB,Ad rfl];rfl);refine⟨h2,?_,?_,λi hi j g=>?_,Ab⟩;.have r2:=HJ w1 mm hx;rw[Aj,fL,t43];have mn:Cx cx 90 [Pt a 0,.agg [I 1,I 0,.slnil,I 0,I 0,.str [],.slnil,.str [],.str [],.str [],.bool q,I 0,I 0]] h (I (A.len+1)) h1:=c;simp only[abS,Nat.reduceLeDiff,↓reduceIte,BD,mn.Ag,r2.Ag,b]
 .rw[gj,hlen] at w2;rw[B6 _ _ (Af _),DY] at w2;exact w2
 .rw[d i Ab];exact e i hi j g
def KT(k d:Int)(s:Aq):PN:=⟨{kind:=k,BO:=d,data:=s},.slnil,.slnil,rfl⟩
def PA.Qx(w:PA h a n m ps A){p:PN}{h1:Ah}(hk:GM p.kv=none)(b:∀i,i<h.length->i≠a->i≠n->h1[i]?=h[i]?)(l1:h1.length=h.length+1):FD h (λi=>i∈Fp a n m ps) h1 (λi=>i∈Fp a h.length m (ps++[p])):=by
 refine⟨Ab,λi hi hn=>b i hi (λe=>hn (by simp[Fp,e])) (λe=>hn (by simp[Fp,e])),λi hi=>?_⟩;rw[aI hk] at hi;simp only[Az] at hi;rcases hi with rfl|rfl|hi
 .exact .inl (by simp[Fp])
 .exact .inr (Af _)
 .exact .inl (by unfold Fp;simp only[Az];exact .inr (.inr hi))
def mo{k:Int}{s:Aq}(w:PA h a n m ps A)(d:LS A)(hb:A.len+1<=1000000000)(hd:A.has x/\(A.nd x).kind=1):
  ∃h',Cx cx 97 [Pt a 0,I x,.agg (KT k 0 s).row] h (.tuple [I (A.len+1),I 0]) h'/\PA h' a h.length m (ps++[KT k x s]) (A.add (KT k x s).x)/\(∀i,i<h.length->i≠a->i≠n->h'[i]?=h[i]?)/\h'.length=h.length+1:=by
 have mQ:=w.len;obtain⟨h1,b,w1,c,l1⟩:=gh w Ab (KT k x s) rfl rfl;refine⟨h1,?_,w1,c,l1⟩;rw[PN.row] at b;rw[Aj,vJ,t97,PN.row];simp only[abS,(v8 (x:=x) w d).Ag,Ad hd.1,Ad hd.2,CC,BT,KT] at b⊢;simp only[Cr,b.Ag]
def aDu{s:Aq}(w:PA h a n m ps A)(d:LS A)(hb:A.len+1<=1000000000)(hd:A.has x/\(A.nd x).kind=1):
  ∃h',Cx cx 52 [Pt a 0,I x,.str s] h (.tuple [I (A.len+1),I 0]) h'/\PA h' a h.length m (ps++[KT 5 x s]) (A.add (KT 5 x s).x)/\(∀i,i<h.length->i≠a->i≠n->h'[i]?=h[i]?)/\h'.length=h.length+1:=by
 obtain⟨h1,b,w1,c,l1⟩:=mo (k:=5) (s:=s) w d hb hd;refine⟨h1,?_,w1,c,l1⟩;have mn:Cx cx 97 [Pt a 0,I x,.agg [I 5,I 0,.slnil,I 0,I 0,.str [],.slnil,.str s,.str [],.str [],.bool false,I 0,I 0]] h (.tuple [I (A.len+1),I 0]) h1:=b;rw[Aj,uX,t52];simp only[abS,Nat.reduceLeDiff,↓reduceIte,BD,mn.Ag]
def ō{s:Aq}(w:PA h a n m ps A)(d:LS A)(hb:A.len+1<=1000000000)(hd:A.has x/\(A.nd x).kind=1):
  ∃h',Cx cx 106 [Pt a 0,I x,.str s] h (.tuple [I (A.len+1),I 0]) h'/\PA h' a h.length m (ps++[KT 6 x s]) (A.add (KT 6 x s).x)/\(∀i,i<h.length->i≠a->i≠n->h'[i]?=h[i]?)/\h'.length=h.length+1:=by
 obtain⟨h1,b,w1,c,l1⟩:=mo (k:=6) (s:=s) w d hb hd;refine⟨h1,?_,w1,c,l1⟩;have mn:Cx cx 97 [Pt a 0,I x,.agg [I 6,I 0,.slnil,I 0,I 0,.str [],.slnil,.str s,.str [],.str [],.bool false,I 0,I 0]] h (.tuple [I (A.len+1),I 0]) h1:=b;rw[Aj,bl,Ē];simp only[abS,Nat.reduceLeDiff,↓reduceIte,BD,mn.Ag]
def aDv{s:Aq}(w:PA h a n m ps A)(d:LS A)(hx:A.has x)(hk:(A.nd x).kind=5):
  ∃h' OH,Cx cx 51 [Pt a 0,I x,.str s] h (I 0) h'/\PA h' a n m OH (A.Qn x s)/\FD h (λi=>i∈Fp a n m ps) h' (λi=>i∈Fp a n m OH):=by
 have hp:=(w.pn hx).2.1;obtain⟨h2,b,w2,f,c,e⟩:=w.wr hx (k:=7) Bj (v:= .str s) rfl (p:=⟨{A.nd x with data:=s},(pN ps x).kv,(pN ps x).av,by rw[<-hp];exact(pN ps x).ok⟩) (by simp only[PN.row];rw[hp];rfl) rfl rfl;refine⟨h2,_,?_,w2,w.wD w2 f c e⟩;rw[Aj,uW,t51];simp only[abS,GB,(Rw (x:=x) w).Ag,Ad hx,CC,BT,(HJ w d hx).Ag,w.f0 hx,hk,b]
def mq{y:Int}:Cx cx 178 [.sl 1 [[I y]]] h (.bool (decide (BS.HR y))) h:=by
 have hv:Bu 1 [[I y]] (.sl 1 [[I y]]):= .mk;have d:([[I y]]:List (List Aa))[0]=[I y]:=rfl;rw[Aj,kY,wv];simp only[Cr,hv.len];refine BI (λk:Nat=>[.bool false,I (k:Int)]) (λk h1=>k<=1/\(k=1->BS.HR y)/\h1=h) (λk=>1 -k) 0 rfl ⟨A7 _,λe=>Ab,rfl⟩ ?_;rintro k h1 ⟨hk,ha,rfl⟩;rcases Bg k 1 with hlt|GW
 .obtain rfl:k=0:=by omega
  simp only[Cr,ZM,(Bj:((0:Nat):Int)<((1:Nat):Int)),hv.Gm (show 0<[[I y]].length from EY),d,Ci (Ab:0<9223372036854775807)];refine⟨λh2=>?_,λh2=>⟨λc=>?_,λc=>?_⟩⟩;.rw[Bb (λb=>by unfold BS.HR at b;omega)]
  .rw[Bb (λb=>by unfold BS.HR at b;omega)]
  .exact A8.next 1 rfl ⟨Af _,λ_=>⟨Ab,Ab⟩,rfl⟩ Ab
 .obtain rfl:k=1:=by omega
  simp only[abS,(Bj:¬((1:Nat):Int)<((1:Nat):Int)),Bf (ha rfl)]
def UP{l out:List A3}{y:A3}:F9 out (l++[y])=if(F9 out l).any (λz=>decide (CW y=CW z)) then F9 out l else F9 out l++[y]:=by
 induction l generalizing out with
 |nil=>simp only[BG,F9];split<;>simp_all
 |cons z l ih=>
  rw[CP,F9,F9];split;.exact ih
  .exact ih
def Ŏ(y c:A3)(h:Ah):Cx cx 205 [.agg c.row,.Cz y.row] h (.bool (decide (CW y=CW c))) h:=by
 rw[Aj,lF,xf,A3.row,A3.row];simp only[Cr];refine⟨λh1=>?_,λh1=>?_⟩;.congr 2;rw[DZ];simp[CW,h1]
 .rw[Bb (λe=>h1 (by simp[CW] at e;exact e.1))]
def mr{F v:Aa}{l:List A3}{q:A3->Bool}(hv:Qv h v l)(hb:l.length<=1000000000)(hF:aF F h q):Cx cx 117 [v,F] h (.bool (l.any q)) h:=by
 obtain⟨f,caps,rfl,hf,hr⟩:=hF;have key:Cx cx 135 [v,.func (.func f) [] caps] h (I (BZ q 0 l)) h:=by
  rw[Aj,S7,vM];simp only[Cr,hv.len];refine BI (λn:Nat=>[I 0,I (n:Int)]) (λn h1=>n<=l.length/\BZ q 0 l=BZ q n (l.drop n)/\h1=h) (λn=>l.length-n) 0 rfl ⟨A7 _,rfl,rfl⟩ ?_;rintro n h1 ⟨xm,ha,rfl⟩;rcases Bg n l.length with hlt|GW
  .have i1:(n:Int)<(l.length:Int):=by omega
   obtain⟨p,d,c⟩:=hv.at_ n hlt;rw[AA hlt,BZ] at ha;simp only[Cr,↓reduceIte,De,ZM,hf,i1,d,c,(hr l[n]).Ag,Ci (Ab:n<9223372036854775807)];rw[Du];refine⟨λhe=>?_,λhe=>?_⟩;.rw[ha,Ad he]
   .rw[Ac (by simp[he])] at ha;exact A8.next (n+1) rfl ⟨hlt,ha,rfl⟩ Ab
  .have i1:¬(n:Int)<(l.length:Int):=by omega
   rw[Bd GW,BZ] at ha;simp only[abS,↓reduceIte,De,i1,ha]
 rw[Aj,Ye,bu];simp only[Cr,key.Ag];congr 2
 rcases GJ (p:=q) (l:=l) (k:=0) with⟨h1,h2⟩|⟨n,y,h1,h2,b⟩
 .rw[h1,zd];have:=Kg.1 h2;simpa using this
 .rw[h1,zd,Bf Ab,QU];exact⟨y,OK b,Sp b⟩
def mw{l:List A3}{v:Aa}(hv:Qv h v l)(hb:l.length<=1000000000)(hs:∀y∈l,BS.HR y.AW):Cx cx 172 [v] h (.tuple [SM (Cl l),.bool true]) h:=by
 rw[Aj,kT,wm];simp only[Cr,hv.len];refine BI (λk:Nat=>[.slnil,.bool false,SM (Cl (l.take k)),I (k:Int)]) (λk h1=>k<=l.length/\h1=h) (λk=>l.length-k) 0 rfl ⟨A7 _,rfl⟩ ?_;rintro k h1 ⟨hk,rfl⟩;rcases Bg k l.length with hlt|GW
 .have i1:(k:Int)<(l.length:Int):=by omega
  obtain⟨p,j,e⟩:=hv.at_ k hlt;have inc:=Ci (Ab:k<9223372036854775807);have hsp:=hs _ (AJ hlt);have i:=mq (h:=h1) (y:=l[k].AW);have hF:aF (.func (.func 205) [] [.Cz l[k].row]) h1 (λc=>decide (CW l[k]=CW c)):=⟨_,_,rfl,Bj,λc=>Ŏ l[k] c h1⟩;have bO:(Cl (l.take k)).length<=1000000000:=by have:=Oo (l:=l.take k);rw[Au] at this;omega
  have r2:=mr (aH Ta) bO hF;have g:Cl (l.take (k+1))=if(Cl (l.take k)).any (λz=>decide (CW l[k]=CW z)) then Cl (l.take k) else Cl (l.take k)++[l[k]]:=by rw[AD hlt];exact UP
  have d:=Bu.WB (f:=A3.row) (a:=l[k]) (b:=40) (Ta (l:=Cl (l.take k))) (by have:=Oo (l:=l.take k);rw[Au] at this;have:AQ=140737488355328:=rfl;omega);have em:Ay (.Cf 3) [.agg l[k].row]=some (.sl 3 [l[k].row]):=rfl;rw[<-o7] at d;rw[A3.row] at r2 em d e;simp only[abS,Nat.reduceLeDiff,↓reduceIte,i1,j,e,GB,i.Ag,Bf hsp,r2.Ag,em,d,inc];rw[Du];refine⟨λh2=>?_,λh2=>?_⟩;.exact A8.next (k+1) (by rw[g,Ac (by simpa using h2)]) ⟨hlt,rfl⟩ Ab
  .exact A8.next (k+1) (by rw[g,Ad (by simpa using h2)]) ⟨hlt,rfl⟩ Ab
 .have i1:¬(k:Int)<(l.length:Int):=by omega
  simp only[abS,↓reduceIte,i1,AR GW]
def ŏ{l:List A3}{v:Aa}(w:PA h a n m ps A)(e:LS A)(hx:A.has x)(hk:(A.nd x).kind=4)(hv:Qv h v l)(hb:l.length<=1000000000)(hs:∀y∈l,BS.HR y.AW):
  ∃h' OH,Cx cx 119 [Pt a 0,I x,v] h (I 0) h'/\PA h' a n m OH (A.KP x l)/\FD h (λi=>i∈Fp a n m ps) h' (λi=>i∈Fp a n m OH):=by
 have hp:=(w.pn hx).2.1;have c:=mw hv hb hs;obtain⟨h2,b,w2,g,d,f⟩:=w.wr hx (k:=6) Bj (v:=SM (Cl l)) (Bu.cells Ta) (p:=⟨{A.nd x with Av:=Cl l},(pN ps x).kv,SM (Cl l),rfl⟩) (by simp only[PN.row];rw[hp];rfl) rfl rfl;refine⟨h2,_,?_,w2,w.wD w2 g d f⟩;rw[Aj,bx,Ę];simp only[abS,GB,(Rw (x:=x) w).Ag,Ad hx,CC,BT,(HJ w e hx).Ag,w.f0 hx,hk,c.Ag,b]
def Ő(w:PA h a n m ps A)(hx:A.has x):Cx cx 179 [Pt n (nP n x)] h (.bool (decide (S2 (A.nd x)))) h:=by rw[Aj,kZ,wz];simp only[abS,w.f0 hx,w.f4 hx,w.f5 hx,S2];refine⟨λh1=>⟨λh2=>?_,λh2=>?_⟩,λh1=>?_⟩<;>simp[*]
def OI(x:Int×Int):Aa×Aa:=(I x.1,I x.2)
def Yo{k:Int}:∀{l:List (Int×Int)} {i:Nat},(l.find? (λx=>decide (k=x.1))=none->J6 k (l.map OI) i=some none)/\∀y,l.find? (λx=>decide (k=x.1))=some y->∃j,J6 k (l.map OI) i=some (some (j,I y.2))
 |[],i=>⟨λ_=>rfl,λy h=>by cases h⟩
 |z::l,i=>by
  have ih:=Yo (k:=k) (l:=l) (i:=i+1);simp only[Bi,OI,J6,M8];by_cases e:k=z.1;.simp only[e,DO,BH];exact⟨λh=>(by cases h),λy h=>⟨i,by cases h;rfl⟩⟩
  .simp only[e,CY,E9];exact ih
def UN.get{f:Int->Int}(w:UN h m f)(k:Int):EC (.yG (I 0) true) h [.map m,I k]=some (h,if f k=0 then .tuple [I 0,.bool false] else .tuple [I (f k),.bool true]):=by
 rcases w with⟨rfl,h0⟩|⟨id,l,rfl,hc,hl,_⟩
 .rw[Ad (h0 k)];rfl
 .have hl:=hl k;have hm:=Yo (k:=k) (l:=l) (i:=0);simp only[EC,iE,hc];by_cases h0:f k=0
  .rw[Ad h0] at hl⊢;have e:l.find? (λx=>decide (k=x.1))=none:=by
    cases hf:l.find? (λx=>decide (k=x.1)) with
    |none=>rfl
    |some y=>rw[hf] at hl;cases hl
   have:=hm.1 e;unfold OI at this;rw[this];rfl
  .rw[Ac h0] at hl⊢;cases hf:l.find? (λx=>decide (k=x.1)) with
   |none=>rw[hf] at hl;cases hl
   |some y=>rw[hf] at hl;simp only[BU,BB] at hl;obtain⟨j,e⟩:=hm.2 y hf;unfold OI at e;rw[e,<-hl];rfl
def lO{id:Nat}{l:List (Int×Int)}{k v:Int}(hc:h[id]?=some (.map (l.map OI)))(hn:l.find? (λx=>decide (k=x.1))=none):
  ∃h1,EC (.MB (I 0)) h [.map (some id),I k]=some (h1,.tuple [I 0,I l.length])/\∃h2,EC .Lw h1 [.map (some id),I l.length,I v]=some (h2,.bool true)/\h2=h.set id (.map ((l++[(k,v)]).map OI)):=by
 have Hw:=(Ae.1 hc).1;have hm:=(Yo (k:=k) (l:=l) (i:=0)).1 hn;refine⟨h.set id (.map (l.map OI++[(I k,I 0)])),?_,_,?_,rfl⟩;.simp only[EC,SR,hc,hm,BU,As]
 .have c:(h.set id (.map (l.map OI++[(I k,I 0)])))[id]?=some (.map (l.map OI++[(I k,I 0)])):=AH Hw;have b:(l.map OI++[(I k,I 0)])[l.length]?=some (I k,I 0):=by rw[Bp Aw];simp
  simp only[EC,SU,c,Bn,b];rw[Ad Ab,ze,B6 _ _ Aw];simp[OI]
def PA.ő(w:PA h a n m ps A):∀i∈m.toList++ps.filterMap (λp=>GM p.kv),i<h.length/\i≠a/\i≠n:=by
 intro i hi;have h1:i∈Fp a n m ps:=by unfold Fp;simp only[Az];exact .inr (.inr hi)
 have b:=w.nd;unfold Fp at b;simp only[BL,Az,Pz] at b;exact⟨w.lt i h1,λe=>b.1.2 (e▸hi),λe=>b.2.1 (e▸hi)⟩
def PA.Œ(w:PA h a n m ps A){h1:Ah}{m':Option Nat}{A':Ar}(g:A'.n=A.n)(f:A'.i.length=A'.n.length)(ha:h1[a]?=some (.cells [.CL n 0 ps.length 13,.map m']))(ho:∀i,i<h.length->i≠a->m≠some i->h1[i]?=h[i]?)(hm:m'=m\/∃j,m'=some j/\h.length<=j)(b:UN h1 m' A'.inr):PA h1 a n m' ps A':=by
 have nd:=w.nd;have Yn:=nd;unfold Fp at Yn;simp only[BL,Az,Pz] at Yn;have hnm:m≠some n:=λe=>Yn.2.1 (by simp[e]);refine⟨by rw[g];exact w.e,f,ha,?_,?_,?_,b⟩;.rw[ho n (w.lt n (by simp[Fp])) (DX Yn.1.1) hnm];exact w.hn
 .intro p hp;refine(w.ks p hp).DU λid Hw=>?_;have h1:id∈ps.filterMap (λp=>GM p.kv):=B1.2 ⟨p,hp,Hw⟩;have h2:=w.ő id (Ak.2 (.inr h1));exact ho id h2.1 h2.2.1 λe=>(BF.1 Yn.2.2).2.2 id (by simp[e]) id h1 rfl
 .rcases hm with rfl|⟨j,rfl,hj⟩
  .exact nd
  .have d:∀i∈ps.filterMap (λp=>GM p.kv),i<h.length:=λi hi=>(w.ő i (Ak.2 (.inr hi))).1;have l:=w.lt a (by simp[Fp]);have k:=w.lt n (by simp[Fp]);have c:=(BF.1 Yn.2.2).2.1;unfold Fp;simp only[BL,Az,aES,CP,BG,Pz];exact⟨⟨Yn.1.1,Ab,λhm=>Yn.1.2 (Ak.2 (.inr hm))⟩,⟨Ab,λhm=>Yn.2.1 (Ak.2 (.inr hm))⟩,λhm=>by have:=d j hm;omega,c⟩
def UQ{l:List (Int×Int)}{k v:Int}(hk:lM l)(hn:l.find? (λx=>decide (k=x.1))=none)(h1:nL k=true)(h2:nL v=true):lM (l++[(k,v)]):=by
 refine⟨?_,λp hp=>?_⟩;.rw[BV,BF];refine⟨hk.1,Aw,λa ha b hb e=>?_⟩;obtain⟨x,hx,rfl⟩:=AZ.1 ha;have c:=Kg.1 hn x hx;simp only[Bi,DW,Dl] at hb;exact c (by simpa using(e.trans hb).symm)
 .rcases Ak.1 hp with h|h
  .exact hk.2 p h
  .simp only[Dl] at h;subst h;exact⟨h1,h2⟩
def lP(hb:A.len<=1000000000)(hx:A.has x):nL x=true:=by have:=hx.1;have:=hx.2;unfold Ar.len at hb;unfold nL;simp;omega
def œ{i:Nat}(hm:m=some i):i∈Fp a n m ps:=by unfold Fp;simp[hm]
def PA.Ŕ(w:PA h a n m ps A){l:List (Int×Int)}{id:Nat}(s:m=some id)(hc:h[id]?=some (.map (l.map OI)))(hl:∀k,(l.find? λx=>decide (k=x.1)).map (·.2)=if A.inr k=0 then none else some (A.inr k))(ok:lM l)(hb:A.len<=1000000000){d i:Int}(hd:A.has d)(hi:A.has i)(c:d≠i)(h0:A.inr d=0)(kz:A.inr i=0):
  ∃h1 h2 q,EC (.MB (I 0)) h [.map m,I d]=some (h1,.tuple [I 0,I l.length])/\EC .Lw h1 [.map m,I l.length,I i]=some (h2,.bool true)/\
   EC (.MB (I 0)) h2 [.map m,I i]=some (q,.tuple [I 0,I ((l.length+1:Nat):Int)])/\∃o,EC .Lw q [.map m,I ((l.length+1:Nat):Int),I i]=some (o,.bool true)/\PA o a n m ps ((A.Kc d i).Kc i i)/\(∀j,j≠id->o[j]?=h[j]?)/\o.length=h.length:=by
 subst s;have Hw:=(Ae.1 hc).1;have b:∀k,A.inr k=0->l.find? (λx=>decide (k=x.1))=none:=by
  intro k hk;have:=hl k;rw[Ad hk] at this;cases hf:l.find? (λx=>decide (k=x.1)) with
  |none=>rfl
  |some y=>rw[hf] at this;cases this
 obtain⟨h1,D,h2,C,rfl⟩:=lO (v:=i) hc (b d h0);have JB:(h.set id (.map ((l++[(d,i)]).map OI)))[id]?=some (.map ((l++[(d,i)]).map OI)):=AH Hw;obtain⟨q,z,o,u,rfl⟩:=lO (k:=i) (v:=i) JB (by rw[O1,b i kz];simp[DX c]);simp only[Ap,BR] at z u;refine⟨h1,_,q,D,C,z,_,u,?_,?_,Aw⟩
 .have g:id≠a:=λe=>by have:=w.nd;unfold Fp at this;simp[e] at this
  refine w.Œ (m':=some id) (A':=(A.Kc d i).Kc i i) rfl ?_ ?_ ?_ (.inl rfl) ?_;.simp only[Ar.Kc];split<;>split<;>simp[w.il]
  .rw[An g,An g];exact w.ha
  .intro j hj B t;have:id≠j:=λe=>t (by rw[e]);rw[An this,An this]
  .refine .inr ⟨id,l++[(d,i)]++[(i,i)],rfl,?_,λk=>?_,UQ (UQ ok (b d h0) (lP hb hd) (lP hb hi)) (by rw[O1,b i kz];simp[DX c]) (lP hb hi) (lP hb hi)⟩;.rw[AH (by simpa using Hw)];rfl
   .have r:(A.Kc d i).i.length=(A.Kc d i).n.length:=by simp only[Ar.Kc];split<;>simp[w.il]
    rw[KN r,KN w.il,O1,O1];have rW:(A.Kc d i).has i:=hi;have hk:=hl k;have qG:i≠0:=by have:=hi.1;omega
    cases hf:l.find? (λx=>decide (k=x.1)) with
    |some y=>
     rw[hf] at hk;have gl:A.inr k≠0:=by intro e;rw[Ad e] at hk;cases hk
     have p:k≠i:=λe=>gl (e▸kz);have f:k≠d:=λe=>gl (e▸h0);simp only[p,f,false_and,E9,Option.some_or];exact hk
    |none=>
     rw[hf] at hk;have gl:A.inr k=0:=by
      by_cases e:A.inr k=0;.exact e
      .rw[Ac e] at hk;cases hk
     by_cases f:k=d;.subst f;simp[c,hd,qG]
     .by_cases p:k=i;.subst p;simp[f,rW,qG]
      .simp[p,f,gl]
 .intro j hj;rw[An (DX hj),An (DX hj)]
def ŕ(w:PA h a n m ps A)(C:LS A)(hb:A.len+1<=1000000000)(hx:A.has x):
  ∃h' n' m' OH,Cx cx 180 [Pt a 0,I x] h (I (A.Gj x)) h'/\PA h' a n' m' OH (A.CO x)/\FD h (λi=>i∈Fp a n m ps) h' (λi=>i∈Fp a n' m' OH):=by
 have l1:Bq h none (Pt a 1)=some (.map m):=by simp only[Bq,w.ha];rfl
 have g1:=w.mp.get x;by_cases h0:A.inr x=0
 .obtain⟨h1,y,w1,B,d⟩:=aDt w C hb false;have f:=w.Qx (p:=Je false (A.len+1)) rfl B d;have r:A.Gj x=A.len+1:=by unfold Ar.Gj;rw[Ac (by simp[h0])]
  have s:A.CO x=((A.add {kind:=1,BO:=A.len+1}).Kc x (A.len+1)).Kc (A.len+1) (A.len+1):=by unfold Ar.CO;rw[Ac (by simp[h0])]
  have gm:∀k,(A.add {kind:=1,Cj:=false,BO:=A.len+1}).inr k=A.inr k:=λk=>IZ w.il;have Ri:(A.add {kind:=1,Cj:=false,BO:=A.len+1}).has x:=Dh.2 (.inl hx);have yA:(A.add {kind:=1,Cj:=false,BO:=A.len+1}).has (A.len+1):=Dh.2 (.inr rfl);have hne:=Pu hx;have kz:A.inr (A.len+1)=0:=by unfold Ar.inr;rw[Ac NX]
  have z:Bq h1 none (Pt a 1)=some (.map m):=by simp only[Bq,w1.ha];rfl
  rw[Ad h0] at g1;have QZ:(A.add {kind:=1,Cj:=false,BO:=A.len+1}).len<=1000000000:=by rw[MW];exact hb
  rcases w1.mp with⟨rfl,hz⟩|⟨id,l,rfl,hc,hl,ho⟩
  .have sU:=w1.ha;have Xr:a<h1.length:=w1.lt a (by simp[Fp]);have Pf:(h1++[DJ.map []])[a]?=some (.cells [.CL h.length 0 (ps++[Je false (A.len+1)]).length 13,.map none]):=by rw[Al Xr];exact sU
   have es:CM (h1++[DJ.map []]) 1 (Pt a 1) (.map (some h1.length))=some ((h1++[DJ.map []]).set a (.cells [.CL h.length 0 (ps++[Je false (A.len+1)]).length 13,.map (some h1.length)])):=by simp only[CM,Pf];rfl
   have sY:((h1++[DJ.map []]).set a (.cells [.CL h.length 0 (ps++[Je false (A.len+1)]).length 13,.map (some h1.length)]))[a]?=some (.cells [.CL h.length 0 (ps++[Je false (A.len+1)]).length 13,.map (some h1.length)]):=AH ER;have J:Bq ((h1++[DJ.map []]).set a (.cells [.CL h.length 0 (ps++[Je false (A.len+1)]).length 13,.map (some h1.length)])) none (Pt a 1)=some (.map (some h1.length)):=by simp only[Bq,sY];rfl
   have zH:((h1++[DJ.map []]).set a (.cells [.CL h.length 0 (ps++[Je false (A.len+1)]).length 13,.map (some h1.length)]))[h1.length]?=some (.map (([]:List (Int×Int)).map OI)):=by rw[An Ab,Bp (Af _),DY];rfl
   have w2:PA ((h1++[DJ.map []]).set a (.cells [.CL h.length 0 (ps++[Je false (A.len+1)]).length 13,.map (some h1.length)])) a h.length (some h1.length) (ps++[Je false (A.len+1)]) (A.add {kind:=1,Cj:=false,BO:=A.len+1}):=by refine w1.Œ rfl w1.il sY (λi hi c _=>by rw[An (DX c),Al hi]) (.inr ⟨_,rfl,Af _⟩) (.inr ⟨h1.length,[],rfl,zH,λk=>by rw[Ad (hz k)];rfl,K0,λp hp=>nomatch hp⟩)
   obtain⟨G,E,D,q,o,j,v,g,t,u,b⟩:=w2.Ŕ rfl zH (λk=>by rw[Ad (hz k)];rfl) ⟨K0,λp hp=>nomatch hp⟩ QZ Ri yA hne ((gm x).trans h0) ((gm _).trans kz);refine⟨v,_,_,_,?_,s▸t,⟨by rw[b];simp;omega,λi hi YL=>?_,λi hi=>?_⟩⟩;.simp only[BK] at q o j g;rw[Aj,S8,vN,r];simp only[Cr,l1,g1,y.Ag,z,show Ay (.Gu false .mp) [.map none,.map none]=some (.bool true) from rfl,es,J,q,o,j,g]
   .have H:=f.old i hi YL;have c:i≠a:=λe=>YL (by simp[Fp,e]);rw[u i Ab,An (DX c),Al Ab,H]
   .unfold Fp at hi;simp only[Az,aES,CP,BG] at hi;rcases hi with rfl|rfl|rfl|hi
    .exact .inl (by simp[Fp])
    .exact .inr (Af _)
    .exact .inr Ab
    .exact f.BE i (by unfold Fp;simp only[Az,Option.toList_none,BG];exact .inr (.inr hi))
  .obtain⟨G,E,D,q,o,j,v,g,t,u,b⟩:=w1.Ŕ rfl hc hl ho QZ Ri yA hne ((gm x).trans h0) ((gm _).trans kz);refine⟨v,_,_,_,?_,s▸t,⟨Ab,λi hi YL=>?_,f.BE⟩⟩;.rw[Aj,S8,vN,r];simp only[Cr,l1,g1,y.Ag,z,show Ay (.Gu false .mp) [.map (some id),.map none]=some (.bool false) from rfl,q,o,j,g]
   .rw[u i (λe=>YL (e▸œ rfl))];exact f.old i hi YL
 .have r:A.Gj x=A.inr x:=by unfold Ar.Gj;rw[Ad h0]
  have s:A.CO x=A:=by unfold Ar.CO;rw[Ad h0]
  refine⟨h,n,m,ps,?_,by rw[s];exact w,.refl⟩;rw[Ac h0] at g1;rw[Aj,S8,vN,r];simp only[Cr,l1,g1]
def LS.Ŗ(b:LS A)(h1:A.len+1<=1000000000):LS (A.CO x):=by
 unfold Ar.CO;split;.exact b
 .have:=b.add (y:={kind:=1,BO:=A.len+1}) h1 Aw Aw;exact⟨this.n,this.at_,this.data⟩
def o8(hk:A.has x){d:Int}:(A.CO d).nd x=A.nd x:=Uz (.inl (Pu hk))
def ŗ{l:List A3}{v:Aa}{d sp:Int}{nm:Aq}(w:PA h a n m ps A)(z:LS A)(hb:A.len+3<=1000000000)(hd:A.has d/\(A.nd d).kind=1)(hsp:BS.HR sp)(hv:Cp l v)(hl:l.length<=1000000000)(hs:∀y∈l,BS.HR y.AW):
  ∃h' n' m' OH,Cx cx 130 [Pt a 0,I d,I sp,.str nm,v] h (.tuple [I (A.len+1),I 0]) h'/\PA h' a n' m' OH (A.elem d sp nm l)/\FD h (λi=>i∈Fp a n m ps) h' (λi=>i∈Fp a n' m' OH)/\LS (A.elem d sp nm l):=by
 have mQ:=w.len;have s:=mw (h:=h) (aH hv) hl hs;obtain⟨u,hu⟩:∃u,u=SM (Cl l):=⟨_,rfl⟩;rw[<-hu] at s;have YI:(Cl l).length<=1000000000:=by have:=Oo (l:=l);omega
 have b:=mq (h:=h) (y:=sp);rw[Bf hsp] at b;obtain⟨h1,M,w1,P,l1⟩:=gh w Ab ⟨{kind:=4,BO:=d,AW:=sp,name:=nm,Av:=Cl l},.slnil,u,hu⟩ rfl rfl;have mm:=z.add (y:={kind:=4,BO:=d,AW:=sp,name:=nm,Av:=Cl l}) Ab YI Aw;have Ri:(A.add {kind:=4,BO:=d,AW:=sp,name:=nm,Av:=Cl l}).has (A.len+1):=Dh.2 (.inr rfl);have PF:(A.add {kind:=4,BO:=d,AW:=sp,name:=nm,Av:=Cl l}).nd (A.len+1)={kind:=4,BO:=d,AW:=sp,name:=nm,Av:=Cl l}:=by rw[EB,Ad rfl]
 have D:=w.Qx (p:=⟨{kind:=4,BO:=d,AW:=sp,name:=nm,Av:=Cl l},.slnil,u,hu⟩) rfl P l1;have mn:Cx cx 90 [Pt a 0,.agg [I 4,I 0,.slnil,I d,I sp,.str nm,u,.str [],.str [],.str [],.bool false,I 0,I 0]] h (I (A.len+1)) h1:=M;have r2:=HJ w1 mm Ri;have f:=Ő w1 Ri;rw[PF] at f;have hc:u.cells=[u]:=by rw[hu];exact Bu.cells Ta
 unfold Ar.elem;simp only
 by_cases q:S2 {kind:=4,BO:=d,AW:=sp,name:=nm,Av:=Cl l}
 .rw[Ad q];rw[Bf q] at f;have tz:(A.add {kind:=4,BO:=d,AW:=sp,name:=nm,Av:=Cl l}).has d:=Dh.2 (.inl hd.1);obtain⟨h2,T,U,wE,L,w2,G⟩:=ŕ w1 mm (by rw[MW];omega) tz;have t:=mm.Ŗ (x:=d) (by rw[MW];omega);have YP:((wE.length:Nat):Int)=((A.add {kind:=4,BO:=d,AW:=sp,name:=nm,Av:=Cl l}).CO d).len:=w2.len;have lQ:((A.add {kind:=4,BO:=d,AW:=sp,name:=nm,Av:=Cl l}).CO d).len<=A.len+2:=by rw[oJ,MW];split<;>omega
  obtain⟨S,K,e,O,l3⟩:=gh w2 Ab ⟨{kind:=2,C0:=A.len+1,BO:=(A.add {kind:=4,BO:=d,AW:=sp,name:=nm,Av:=Cl l}).Gj d},.slnil,.slnil,rfl⟩ rfl rfl;obtain⟨g,B⟩:∃g,g=wE++[⟨{kind:=2,C0:=A.len+1,BO:=(A.add {kind:=4,BO:=d,AW:=sp,name:=nm,Av:=Cl l}).Gj d},.slnil,.slnil,rfl⟩]:=⟨_,rfl⟩;have C:=w2.Qx (p:=⟨{kind:=2,C0:=A.len+1,BO:=(A.add {kind:=4,BO:=d,AW:=sp,name:=nm,Av:=Cl l}).Gj d},.slnil,.slnil,rfl⟩) rfl O l3;rw[<-B] at e C;have j:=t.add (y:={kind:=2,C0:=A.len+1,BO:=(A.add {kind:=4,BO:=d,AW:=sp,name:=nm,Av:=Cl l}).Gj d}) Ab Aw Aw;have r:Cx cx 90 [Pt a 0,.agg [I 2,I 0,.slnil,I ((A.add {kind:=4,BO:=d,AW:=sp,name:=nm,Av:=Cl l}).Gj d),I 0,.str [],.slnil,.str [],.str [],.str [],.bool false,I 0,I (A.len+1)]] h2 _ S:=K;have XJ:=Kz (h:=d) Ri;have c:=Dh (x:={kind:=2,C0:=A.len+1,BO:=(A.add {kind:=4,BO:=d,AW:=sp,name:=nm,Av:=Cl l}).Gj d}).2 (.inl XJ);have o:(((A.add {kind:=4,BO:=d,AW:=sp,name:=nm,Av:=Cl l}).CO d).add {kind:=2,C0:=A.len+1,BO:=(A.add {kind:=4,BO:=d,AW:=sp,name:=nm,Av:=Cl l}).Gj d}).nd (A.len+1)={kind:=4,BO:=d,AW:=sp,name:=nm,Av:=Cl l}:=by rw[Ep XJ,o8 Ri,PF]
  have J:=HJ e j c;have hp:=(e.pn c).2.1;rw[o] at hp;obtain⟨R,H,E,Q,N,l4⟩:=e.wr c (k:=11) Bj (v:= I (((A.add {kind:=4,BO:=d,AW:=sp,name:=nm,Av:=Cl l}).CO d).len+1)) rfl (p:=⟨{kind:=4,BO:=d,AW:=sp,name:=nm,Av:=Cl l,cont:=((A.add {kind:=4,BO:=d,AW:=sp,name:=nm,Av:=Cl l}).CO d).len+1},(pN g (A.len+1)).kv,(pN g (A.len+1)).av,by have:=(pN g (A.len+1)).ok;rw[hp] at this;exact this⟩) (by simp only[PN.row];rw[hp];rfl) rfl (by rw[o]);refine⟨R,_,_,_,?_,E,D.trans (G.trans (C.trans (e.wD E Q N l4))),j.set YI Aw⟩;rw[Aj,Yf,cq];simp only[abS,Nat.reduceLeDiff,↓reduceIte,BD,(v8 (x:=d) w z).Ag,Ad hd.1,Ad hd.2,CC,BT,s.Ag,GB,b.Ag,hc,mn.Ag,r2.Ag,f.Ag,L.Ag,r.Ag,J.Ag,H]
 .rw[Ac q];rw[Bb q] at f;refine⟨h1,_,_,_,?_,w1,D,mm⟩;rw[Aj,Yf,cq];simp only[abS,Nat.reduceLeDiff,↓reduceIte,BD,(v8 (x:=d) w z).Ag,Ad hd.1,Ad hd.2,CC,BT,s.Ag,GB,b.Ag,hc,mn.Ag,r2.Ag,f.Ag]
def WM{U:Type}{p q:U->Bool}{y:U}:∀{l:List U},(∀x∈l,p x=true->q x=true)->y∈l->p y=false->q y=true->(l.filter p).length<(l.filter q).length
 |[],_,h,_,_=>by cases h
 |x::l,hi,hy,hp,hq=>by
  have le:∀{l:List U},(∀x∈l,p x=true->q x=true)->(l.filter p).length<=(l.filter q).length:=by
   intro l;induction l with
   |nil=>intro _;simp
   |cons z l ih=>
    intro hi;have:=ih λx hx=>hi x (by simp[hx]);rw[Gr,Gr];split;.rename_i hz;rw[Ad (hi z Aw hz)];simp;exact this
    .split;.simp;omega
     .exact this
  have hl:=λx (hx:x∈l)=>hi x (by simp[hx]);rw[Gr,Gr];rcases Az.1 hy with rfl|hy
  .rw[Ac (by simp[hp]),Ad hq];have:=le hl;simp;omega
  .have ih:=WM hl hy hp hq;split;.rename_i hz;rw[Ad (hi x Aw hz)];simp;exact ih
   .split;.simp;omega
    .exact ih
def gB{r:Int->Nat}{k y:Int}(hr:∀h,A.has h->A.up h≠0->r (A.up h)<r h)(hR:Reach A k y)(hy:A.has y):r k<=r y:=by
 induction hR with
 |refl=>exact Af _
 |@step z h1 h2 ih=>
  by_cases hz:A.has (A.up z);.have:=ih hz;have:=hr z hy h1;omega
  .cases h2 with
   |refl=>have:=hr z hy h1;omega
   |step b _=>exact absurd (Uy hz) b
open Classical in
def gC{e:Int}(ok:CX A e):∃r:Int->Nat,(∀h,A.has h->A.up h≠0->r (A.up h)<r h)/\∀h,r h<=A.n.length:=by
 obtain⟨r,hr⟩:=ok.X4;refine⟨λh=>((List.range A.n.length).filter λ(i:Nat)=>decide (Reach A ((i:Int)+1) h/\(i:Int)+1≠h)).length,λh b hu=>?_,λh=>?_⟩
 .have mg:=X5 ok b hu;have Qe:=mg;unfold Ar.has at Qe;have c:(((A.up h).toNat-1:Nat):Int)+1=A.up h:=Ab;refine WM (y:=(A.up h).toNat-1) (λi _ hi=>?_) (List.mem_range.2 Ab) ?_ ?_;.rw[C9] at hi⊢;refine⟨.step hu hi.1,λe=>?_⟩;have h1:=gB hr hi.1 mg;have h2:=hr h b hu;rw[e] at h1;omega
  .rw[c];simp
  .rw[c,C9];exact⟨.step hu .refl,ls ok b hu⟩
 .have:=O_ (λ(i:Nat)=>decide (Reach A ((i:Int)+1) h/\(i:Int)+1≠h)) (List.range A.n.length);rwa [List.length_range] at this
def PA.cell(w:PA h a n m ps A)(hx:A.has x){k:Nat}(hk:k<13):(ps.map PN.row).flatten[0+(x.toNat-1)*13+k]?=(pN ps x).row[k]?:=by rw[BC];exact Mr (aG ps) hk (by rw[Cn,(w.pn hx).1];rfl)
open Classical in
def UR(w:PA h a n m ps A){up:Int}{r:Int->Nat}{e:Int}(ok:CX A e)(hr:∀h,A.has h->A.up h≠0->r (A.up h)<r h)(mg:up≠0):∀(fuel:Nat) (x:Int),(x=0\/(A.has x/\r x<fuel))->Ki (ps.map PN.row).flatten 0 ps.length up fuel x=some (decide (Reach A up x))
 |fuel,x,hx=>by
  by_cases h0:x=0
  .subst h0;have no:¬Reach A up 0:=by
    intro hR;cases hR with
    |refl=>exact mg rfl
    |step h1 _=>exact h1 (Uy (by unfold Ar.has;omega))
   rw[Bb no];cases fuel<;>rfl
  .have hx:=hx.resolve_left h0;cases fuel with
   |zero=>omega
   |succ fuel=>
    have d:Ki (ps.map PN.row).flatten 0 ps.length up (fuel+1) x=if x=up then some true else if 1<=x/\x<=ps.length then
      match F5 (ps.map PN.row).flatten 0 x 1,F5 (ps.map PN.row).flatten 0 x 12 with
      |some p,some q=>Ki (ps.map PN.row).flatten 0 ps.length up fuel (if p=0 then q else p)
      |_,_=>none
     else none:=by
     rw[Ki];.rfl
     .exact λh=>h0 h
    rw[d];by_cases lj:x=up;.rw[Ad lj,lj,Bf .refl]
    .rw[Ac lj,Ad (by have:=hx.1;have:=w.vW;unfold Ar.has at*;omega)];have g:F5 (ps.map PN.row).flatten 0 x 1=some (A.nd x).FL:=by unfold F5;rw[w.cell hx.1 Bj,<-(w.pn hx.1).2.1];rfl
     have f:F5 (ps.map PN.row).flatten 0 x 12=some (A.nd x).C0:=by unfold F5;rw[w.cell hx.1 Bj,<-(w.pn hx.1).2.1];rfl
     rw[g,f];simp only
     have c:(if(A.nd x).FL=0 then(A.nd x).C0 else(A.nd x).FL)=A.up x:=by unfold Ar.up;by_cases h:(A.nd x).FL=0<;>simp[h]
     rw[c];have ih:=UR w ok hr mg fuel (A.up x) (by
      by_cases hu:A.up x=0;.exact .inl hu
      .exact .inr ⟨X5 ok hx.1 hu,by have:=hr x hx.1 hu;omega⟩)
     rw[ih];congr 1
     rw[DZ];constructor
     .intro h1;by_cases hu:A.up x=0
      .rw[hu] at h1;cases h1 with
       |refl=>exact absurd rfl mg
       |step b _=>exact absurd (Uy (by unfold Ar.has;omega)) b
      .exact .step hu h1
     .intro h1;cases h1 with
      |refl=>exact absurd rfl lj
      |step _ h2=>exact h2
open Classical in
def Ř{up e:Int}(w:PA h a n m ps A)(ok:CX A e)(hu:A.has up)(hx:A.has x):Cx cx 142 [Pt a 0,I up,I x] h (.bool (decide (Reach A up x))) h:=by
 obtain⟨r,hr,b⟩:=gC ok;have OF:=w.vW;have hc:=UR w ok hr (up:=up) (by have:=hu.1;omega) (ps.length+1) x (.inr ⟨hx,by have:=b x;omega⟩);have c:EC (.Td Mb) h [Pt a 0,I up,I x]=some (h,.bool (decide (Reach A up x))):=by simp only[EC,Mb,w.ha,w.hn];rw[Ad (by rw[wA];omega),Ad (by unfold Ar.has at hu hx;omega),hc];rfl
 rw[Aj,show B2 cx 142 [Pt a 0,I up,I x]=Mc [Pt a 0,I up,I x] from rfl,Mc];simp only[Cr,c]
structure N1(h:Ah)(v:Aa)(l:List Int):Prop where
 len:Ay (.len false) [v]=some (I (l.length:Int))
 at_:∀k (hk:k<l.length),∃p,Ay (.Gm 1) [v,I (k:Int)]=some p/\Bq h none p=some (I l[k])
def I3.Ms{kv:Aa}{l:List Int}(hk:I3 h kv l):N1 h kv l:=by
 refine⟨hk.len,λk hlt=>?_⟩;rcases hk with⟨rfl,rfl⟩|⟨id,cs,rfl,hc⟩
 .simp at hlt
 .refine⟨Pt id k,by have:=EV (id:=id) (z:=1) (k:= .i64) hlt;rwa [Gp] at this,?_⟩;simp only[Bq,hc,Fi];rw[Al (by simpa using hlt)];simp[hlt]
def Ff.Ms{v:Aa}{l:List Int}(hv:Ff l v):N1 h v l:=⟨Bu.Gi hv,λk hk=>⟨_,Bu.DC hv hk,rfl⟩⟩
def xr{v:Aa}{l:List Int}(hv:N1 h v l)(hb:l.length<=1000000000)(x:Int):Cx cx 49 [v,I x] h (I (BZ (λy=>decide (x=y)) 0 l)) h:=by
 rw[Aj,uU,t49];simp only[Cr,hv.len];refine BI (λk:Nat=>[I 0,I (k:Int)]) (λk h1=>k<=l.length/\BZ (λy=>decide (x=y)) 0 l=BZ (λy=>decide (x=y)) k (l.drop k)/\h1=h) (λk=>l.length-k) 0 rfl ⟨A7 _,rfl,rfl⟩ ?_;rintro k h1 ⟨hk,ha,rfl⟩;rcases Bg k l.length with hlt|GW
 .have i1:(k:Int)<(l.length:Int):=by omega
  obtain⟨p,c,b⟩:=hv.at_ k hlt;rw[AA hlt,BZ] at ha;simp only[abS,i1,c,b,Ci (Ab:k<9223372036854775807)];refine⟨λh2=>?_,λh2=>?_⟩;.rw[ha,Ad (by simpa using h2)]
  .rw[Ac (by simpa using h2)] at ha;exact A8.next (k+1) rfl ⟨hlt,ha,rfl⟩ Ab
 .have i1:¬(k:Int)<(l.length:Int):=by omega
  rw[Bd GW,BZ] at ha;simp only[abS,i1,ha]
def Qy{l:List Int}{x:Int}(hx:x∈l):∃k,k<l.length/\BZ (λy=>decide (x=y)) 0 l=(k:Int)/\l[k]?=some x/\l.takeWhile (λy=>decide (y≠x))=l.take k/\l.dropWhile (λy=>decide (y≠x))=l.drop k:=by
 have key:∀(l:List Int) (s:Nat),x∈l->∃k,k<l.length/\BZ (λy=>decide (x=y)) s l=((s+k:Nat):Int)/\l[k]?=some x/\l.takeWhile (λy=>decide (y≠x))=l.take k/\l.dropWhile (λy=>decide (y≠x))=l.drop k:=by
  intro l;induction l with
  |nil=>intro s h;cases h
  |cons z l ih=>
   intro s h;by_cases e:x=z;.subst e;exact⟨0,Aw,by rw[BZ,Ad Aw];simp,rfl,Aw,Aw⟩
   .have h2:x∈l:=(Az.1 h).resolve_left e;obtain⟨k,d,c,b,i,g⟩:=ih (s+1) h2;have f:z≠x:=λj=>e j.symm;refine⟨k+1,by simp;exact d,by rw[BZ,Ac (by simpa using e),c];congr 1;omega,by simpa using b,?_,?_⟩;.rw[List.takeWhile_cons,Ad (by simpa using f),i];rfl
    .rw[List.dropWhile_cons,Ad (by simpa using f),g];rfl
 obtain⟨k,d,c,b⟩:=key l 0 hx;exact⟨k,d,by simpa using c,b⟩
def Qz{l:List Int}{x:Int}{k:Nat}(hn:l.Nodup)(hk:l[k]?=some x):l.take k++l.drop (k+1)=l.filter λy=>decide (y≠x):=by
 obtain⟨hlt,e⟩:=Ae.1 hk;have c:l=l.take k++x::l.drop (k+1):=by conv=>lhs;rw[<-BM k l,AA hlt,e]
 rw[c,BF,BL] at hn;conv=>rhs;rw[c,DP,Gr,Ac Aw]
 rw[VS.2 (λy hy=>by simpa using λb:y=x=>hn.2.2 y hy x Aw b),VS.2 (λy hy=>by simpa using λb:y=x=>hn.2.1.1 (b▸hy))]
def wF{id l k:Nat}(hl:0<l)(hk:k<=l):Ay (.PI 1 false false true) [.CL id 0 l 1,I (k:Int)]=some (.CL id 0 k 1):=by
 have b:FG (k:Int) l=some k:=by unfold FG;rw[Ad Ab];rfl
 simp[Ay,Km,D2,b];omega
def xt{id l k:Nat}(hk:k<=l):Ay (.PI 1 false true false) [.CL id 0 l 1,I (k:Int)]=some (if k<l then .CL id k (l-k) 1 else .sl 1 []):=by
 have b:FG (k:Int) l=some k:=by unfold FG;rw[Ad Ab];rfl
 simp[Ay,Km,D2,b];split<;>rfl
def ř{id k:Nat}{l:List Int}{cs:List Aa}(hc:h[id]?=some (.cells (l.map (Aa.int .i64)++cs)))(hk:k<l.length)(hb:l.length<=1000000000):
  ∃Gd,Cx cx 181 [.CL id 0 l.length 1,I (k:Int),I ((k+1:Nat):Int)] h (.CL id 0 (l.length-1) 1) (h.set id (.cells ((l.take k++l.drop (k+1)).map (Aa.int .i64)++Gd))):=by
 have Hw:=(Ae.1 hc).1;have qH:(l.take k++l.drop (k+1)).length=l.length-1:=by rw[Ap,Au,AV];omega
 obtain⟨P7,o,hcl⟩:∃P7,FX h 1 8 (.CL id 0 k 1) (if k+1<l.length then .CL id (k+1) (l.length-(k+1)) 1 else .sl 1 [])=some (h.set id (.cells ((l.take k++l.drop (k+1)).map (Aa.int .i64)++P7)),.CL id 0 (l.length-1) 1)/\1<=P7.length:=by
  have f:Gv h 1 (if k+1<l.length then .CL id (k+1) (l.length-(k+1)) 1 else .sl 1 [])=some ((l.drop (k+1)).map DH):=by
   by_cases V5:k+1<l.length;rotate_left;.rw[Ac V5,Bd Ab];rfl
   rw[Ad V5];have c:=LN (l:=l.drop (k+1)) (cs:=cs) (QY:=(l.take (k+1)).map (Aa.int .i64));rw[<-AB,<-BV,BM] at c;simp only[As,Au,AV] at c;rw[Ce Ab] at c;simp only[Gv,BH,hc,c];rw[Ad ER]
  by_cases Ś:k+1=l.length
  .refine⟨I l[k]::cs,?_,Aw⟩;have g:l.drop (k+1)=[]:=Bd Ab;rw[g] at f⊢;have e:l.map (Aa.int .i64)++cs=(l.take k++[]).map (Aa.int .i64)++ I l[k]::cs:=by
    have:l=l.take k++[l[k]]:=by conv=>lhs;rw[<-BM k l,AA hk,g]
    conv=>lhs;rw[this,BV,AB]
    rw[BQ];rfl
   have j:h.set id (.cells ((l.take k++[]).map (Aa.int .i64)++ I l[k]::cs))=h:=by rw[<-e];obtain⟨YP,t⟩:=Ae.1 hc;rw[<-t,Iq]
   simp only[FX,f,DW,BH];rw[j,(Ab:l.length-1=k)]
  .obtain⟨y,b,hd⟩:∃y b,l.drop (k+1)=y::b:=⟨_,_,AA (Ab:k+1<l.length)⟩;have lQ:(y::b).length=l.length-(k+1):=by rw[<-hd,AV]
   rw[hd] at f;have ś:∀l3:List Int,(l3.map DH).flatten=l3.map (Aa.int .i64):=by
    intro l3;induction l3 with
    |nil=>rfl
    |cons z l3 ih=>simp[DH,ih]
   refine⟨(l.map (Aa.int .i64)++cs).drop (l.length-1),?_,ER⟩;simp only[FX,f,Bi,hc,BH];have s:(DH y::b.map DH).length=l.length-(k+1):=by rw[<-lQ];simp
   have r:(DH y::b.map DH).flatten=(y::b).map (Aa.int .i64):=by have:=ś (y::b);simpa using this
   rw[s,r,Ad ER];have q:(l.map (Aa.int .i64)++cs).take (0+k*1)=(l.take k).map (Aa.int .i64):=by rw[BC,Gp,Di ER,Ie]
   rw[q,hd,(Ab:0+(k+(l.length-(k+1)))*1=l.length-1),(Ab:k+(l.length-(k+1))=l.length-1)];simp
 generalize mz:h.set id (.cells ((l.take k++l.drop (k+1)).map (Aa.int .i64)++P7))=h2 at o;have JB:h2[id]?=some (.cells ((l.take k++l.drop (k+1)).map (Aa.int .i64)++P7)):=by rw[<-mz];exact AH Hw
 have g:EC (.mF 1 true true) h2 [.CL id 0 (l.length-1) 1,I ((l.length-1:Nat):Int),I (l.length:Int)]=some (h2,.CL id (l.length-1) 1 1):=by
  simp only[EC,YW,JB];have gD:((l.take k++l.drop (k+1)).map (Aa.int .i64)++P7).length=l.length-1+P7.length:=by rw[Ap,As,qH]
  have u:FG (l.length:Int) ((((l.take k++l.drop (k+1)).map (Aa.int .i64)++P7).length-0)/1)=some l.length:=by unfold FG;rw[Ad (by rw[gD];omega)];rfl
  have c:FG ((l.length-1:Nat):Int) l.length=some (l.length-1):=by unfold FG;rw[Ad Ab];rfl
  rw[Ad ⟨trivial,trivial,A7 _⟩];simp only[D2,u,c,B5,BU];rw[Ad (by rw[gD];omega)];congr 3
  .omega
  .omega
 have p:EC (.clear 1 [I 0]) h2 [.CL id (l.length-1) 1 1]=some (h.set id (.cells ((l.take k++l.drop (k+1)).map (Aa.int .i64)++(I 0::P7.drop 1))),.bool true):=by
  simp only[EC,Tk,JB];rw[Ad ⟨trivial,rfl,by rw[Ap,As,qH];omega⟩];congr 2
  rw[<-mz,ze];congr 2
  have e:(((l.take k++l.drop (k+1)).map (Aa.int .i64)++P7).take (l.length-1))=(l.take k++l.drop (k+1)).map (Aa.int .i64):=Ia (by rw[As,qH]);have j:(((l.take k++l.drop (k+1)).map (Aa.int .i64)++P7).drop (l.length-1+1*1))=P7.drop 1:=by rw[show l.length-1+1*1=((l.take k++l.drop (k+1)).map (Aa.int .i64)).length+1 by rw[As,qH],QM];simp
  rw[e,j];simp
 refine⟨I 0::P7.drop 1,?_⟩;have d:∀i n,Ay (.len false) [.CL i 0 n 1]=some (I (n:Int)):=λ_ _=>rfl;have e:EC (.bZ 1) h [.CL id 0 l.length 1,I (k:Int),I ((k+1:Nat):Int),I (l.length:Int)]=some (h,.bool true):=by simp only[EC,Tl];simp;omega
 rw[Aj,lA,w_];simp only[abS,d,e,(Ab:¬(k:Int)=((k+1:Nat):Int)),wF (id:=id) (Ab:0<l.length) (Ab:k<=l.length),xt (id:=id) (Ab:k+1<=l.length),o,g,p]
def wG:∀{n:Nat} {l:List Int},l.Nodup->(∀x∈l,1<=x/\x<=n)->l.length<=n
 |0,l,_,h=>by
  cases l with
  |nil=>simp
  |cons x l=>have:=h x Aw;omega
 |n+1,l,hn,h=>by
  have ih:=wG (n:=n) (l:=l.filter λx=>decide (x≠(n:Int)+1)) (hn.filter _) (λx hx=>by
   have h1:=CG.1 hx;have h2:=h x h1.1;have c:x≠(n:Int)+1:=by simpa using h1.2
   omega)
  have key:∀{l:List Int},l.Nodup->l.length<=(l.filter λx=>decide (x≠(n:Int)+1)).length+1:=by
   intro l hl;induction l with
   |nil=>simp
   |cons x l ih=>
    rw[BL] at hl;rw[Gr];by_cases e:x=(n:Int)+1;.rw[Ac (by simp[e]),VS.2 (λy hy=>by simpa using λb:y=(n:Int)+1=>hl.1 (by rw[e,<-b];exact hy))];simp
    .rw[Ad (by simpa using e)];have:=ih hl.2;simp only[AU];omega
  have:=key hn;omega
def wH{e:Int}(ok:CX A e)(x:Int):(A.nd x).AT.length<=A.n.length:=by
 by_cases hx:A.has x;.refine wG (ok.NW x hx).ZY λk hk=>?_;exact(ok.IG x hx k hk).1
 .rw[IY hx];exact A7 _
def LS.AT{e:Int}(b:LS A)(ok:CX A e)(x:Int):(A.nd x).AT.length<=1000000000:=Bm (wH ok x) b.n
def LS.aDA{l:List Int}(b:LS A):LS (A.set x {A.nd x with AT:=l}):=b.set (b.at_ x) (b.data x)
def LS.aDB{p:Int}(b:LS A):LS (A.set x {A.nd x with FL:=p}):=b.set (b.at_ x) (b.data x)
def LS.cut(b:LS A):LS (A.cut x):=by
 unfold Ar.cut;simp only;split;.exact b
 .exact LS.aDB b.aDA
def Ŝ{e:Int}(w:PA h a n m ps A)(g:LS A)(ok:CX A e)(hx:A.has x):
  ∃h' OH,Cx cx 132 [Pt a 0,I x] h (.tuple []) h'/\PA h' a n m OH (A.cut x)/\FD h (λi=>i∈Fp a n m ps) h' (λi=>i∈Fp a n m OH):=by
 have hb:=g.AT ok;by_cases hp:(A.nd x).FL=0
 .have t:A.cut x=A:=by unfold Ar.cut;simp only;rw[Ad hp]
  refine⟨h,ps,?_,by rw[t];exact w,.refl⟩;rw[Aj,Yh,cw];simp only[abS,(HJ w g hx).Ag,w.f1 hx,hp]
 .obtain⟨hq,hk⟩:=ok.FL x hx hp;generalize c:(A.nd x).FL=q at*;have hne:q≠x:=by rw[<-c];exact eT ok hx (by rw[c];exact hp)
  obtain⟨k,l,J,C,_,_⟩:=Qy hk;have IG:=w.IG hq;have j:=xr IG.Ms (hb q) x;rw[J] at j;rcases r:IG with⟨_,e0⟩|⟨id,cs,b,hc⟩
  .rw[e0] at l;simp at l
  clear r;rw[b] at j;obtain⟨Gd,r2⟩:=ř hc l (hb q);rw[Qz (ok.NW q hq).ZY C] at r2;have Wc:(A.nd q).AT.length-1=((A.nd q).AT.filter λy=>decide (y≠x)).length:=by rw[<-Qz (ok.NW q hq).ZY C,Ap,Au,AV];omega
  rw[Wc] at r2;have zI:=(Ae.1 hc).1;have o:=(w.pn hq).2.1;generalize qj:h.set id (.cells (((A.nd q).AT.filter λy=>decide (y≠x)).map (Aa.int .i64)++Gd))=h1 at r2;have ŝ:id∈Fp a n m ps:=JW (w.pn hq).2.2 (by rw[b];rfl);have aDC:id≠n:=by intro d;have:=w.nd;unfold Fp at this;simp only[BL,Az,Pz] at this;exact this.2.1 (d▸Ak.2 (.inr (B1.2 ⟨_,(w.pn hq).2.2,by rw[b];rfl⟩)))
  have aIT:id≠a:=by intro d;have:=w.nd;unfold Fp at this;simp only[BL,Az,Pz] at this;exact this.1.2 (d▸Ak.2 (.inr (B1.2 ⟨_,(w.pn hq).2.2,by rw[b];rfl⟩)))
  obtain⟨f,gE⟩:∃f:PN,f=⟨{A.nd q with AT:=(A.nd q).AT.filter λy=>decide (y≠x)},.CL id 0 ((A.nd q).AT.filter λy=>decide (y≠x)).length 1,(pN ps q).av,w.Ŋ hq⟩:=⟨_,rfl⟩;have Ş:f.row=(pN ps q).row.set 2 (.CL id 0 ((A.nd q).AT.filter λy=>decide (y≠x)).length 1):=by rw[gE];simp only[PN.row];rw[o];rfl
  have u:h1[n]?=h[n]?:=by rw[<-qj,An aDC]
  have z:=w.sto hq (k:=2) Bj (v:= .CL id 0 ((A.nd q).AT.filter λy=>decide (y≠x)).length 1) rfl Ş u;have ş:GM f.kv=GM (pN ps q).kv:=by rw[gE,b];rfl
  have w1:=w.pZ hq (p:=f) (h1:=h1) (λi _ hi=>by rw[<-qj,An];intro d;exact hi (by rw[b,d];rfl)) (by rw[gE];exact .inr ⟨id,Gd,rfl,by rw[<-qj];exact AH zI⟩) (.inl ş)
  have m_:=lN w hq ş;generalize mz:h1.set n (.cells ((ps.set (q.toNat-1) f).map PN.row).flatten)=h2 at z w1;generalize aIU:ps.set (q.toNat-1) f=o9 at w1 m_;have s:f.x={A.nd q with AT:=(A.nd q).AT.filter λy=>decide (y≠x)}:=by rw[gE]
  rw[s] at w1;have Ri:(A.set q {A.nd q with AT:=(A.nd q).AT.filter λy=>decide (y≠x)}).has x:=HE.2 hx;have qI:=(w1.pn Ri).2.1;have PF:(A.set q {A.nd q with AT:=(A.nd q).AT.filter λy=>decide (y≠x)}).nd x=A.nd x:=by rw[FA,Ac (λh=>hne h.1.symm)]
  obtain⟨K,E,D,i3,G,l3⟩:=w1.wr Ri (k:=1) Bj (v:= I 0) rfl (p:=⟨{A.nd x with FL:=0},(pN o9 x).kv,(pN o9 x).av,by have:=(pN o9 x).ok;rw[qI,PF] at this;exact this⟩) (by simp only[PN.row];rw[qI,PF];rfl) rfl (Ca D8.AT PF).symm;have t:A.cut x=(A.set q {A.nd q with AT:=(A.nd q).AT.filter λy=>decide (y≠x)}).set x {A.nd x with FL:=0}:=by unfold Ar.cut;simp only;rw[c,Ac hp,PF]
  refine⟨K,_,?_,by rw[t];exact D,?_⟩;.have inc:=Ci (show k<9223372036854775807 by have:=hb q;omega);rw[Aj,Yh,cw];simp only[abS,(HJ w g hx).Ag,(HJ w g hq).Ag,w.f1 hx,c,hp,w.f2 hq,b,j.Ag,inc,r2.Ag,z,E]
  .have aIV:h2.length=h.length:=by rw[<-mz,Bv,<-qj,Bv]
   refine⟨Ab,λi hi YL=>?_,λi hi=> .inl (by rw[i3,m_] at hi;exact hi)⟩;have B:i≠n:=λd=>YL (d▸by simp[Fp]);have H:i≠id:=λd=>YL (d▸ŝ);rw[G i B,<-mz,An (DX B),<-qj,An (DX H)]
end
end Go.Am
end
