/- Lemmas -/
import Derived.Test.YtjjnhgoknielgaaGreatDoorZ19
import Derived.Test.YtjjnhgoknielgaaGreatDoorZ20
import Derived.Test.YtjjnhgoknielgaaGreatDoorZ21
import Derived.Test.YtjjnhgoknielgaaGreatDoorZ22
import Derived.Test.YtjjnhgoknielgaaGreatDoorZ18
set_option linter.all false
set_option maxRecDepth 100000
section
namespace Go.Am
open Go
abbrev Ò:=List Aa->Option IT
def oG(g:IT):Ò:=λl=>match l with
 |[]=>some (g)
 |_=>none
def Dl(g:Aa->IT):Ò:=λl=>match l with
 |[a0]=>some (g a0)
 |_=>none
def CW(g:Aa->Aa->IT):Ò:=λl=>match l with
 |[a0,a1]=>some (g a0 a1)
 |_=>none
def JU(g:Aa->Aa->Aa->IT):Ò:=λl=>match l with
 |[a0,a1,a2]=>some (g a0 a1 a2)
 |_=>none
def uI(g:Aa->Aa->Aa->Aa->IT):Ò:=λl=>match l with
 |[a0,a1,a2,a3]=>some (g a0 a1 a2 a3)
 |_=>none
def aAH(g:Aa->Aa->Aa->Aa->Aa->IT):Ò:=λl=>match l with
 |[a0,a1,a2,a3,a4]=>some (g a0 a1 a2 a3 a4)
 |_=>none
def YN(f:Nat)(g:Ò):Prop:=∀l t,g l=some t->t=Cd cx f l
def UU{f:Nat}{g:IT}(h:Cd cx f []=g):YN f (oG g):=by
 intro l t ht;unfold oG at ht;split at ht;.cases ht;exact(h).symm
 .cases ht
def BK{f:Nat}{g:Aa->IT}(h:∀a0,Cd cx f [a0]=g a0):YN f (Dl g):=by
 intro l t ht;unfold Dl at ht;split at ht;.cases ht;exact(h _).symm
 .cases ht
def Bz{f:Nat}{g:Aa->Aa->IT}(h:∀a0 a1,Cd cx f [a0,a1]=g a0 a1):YN f (CW g):=by
 intro l t ht;unfold CW at ht;split at ht;.cases ht;exact(h _ _).symm
 .cases ht
def EN{f:Nat}{g:Aa->Aa->Aa->IT}(h:∀a0 a1 a2,Cd cx f [a0,a1,a2]=g a0 a1 a2):YN f (JU g):=by
 intro l t ht;unfold JU at ht;split at ht;.cases ht;exact(h _ _ _).symm
 .cases ht
def YO{f:Nat}{g:Aa->Aa->Aa->Aa->IT}(h:∀a0 a1 a2 a3,Cd cx f [a0,a1,a2,a3]=g a0 a1 a2 a3):YN f (uI g):=by
 intro l t ht;unfold uI at ht;split at ht;.cases ht;exact(h _ _ _ _).symm
 .cases ht
def Ó{f:Nat}{g:Aa->Aa->Aa->Aa->Aa->IT}(h:∀a0 a1 a2 a3 a4,Cd cx f [a0,a1,a2,a3,a4]=g a0 a1 a2 a3 a4):YN f (aAH g):=by
 intro l t ht;unfold aAH at ht;split at ht;.cases ht;exact(h _ _ _ _ _).symm
 .cases ht
def aCb:List (Nat×Ò):=[(7,Dl t7),(9,Dl t9),(12,CW t12),(13,CW t13),(16,CW t16),(17,Dl t17),(18,Dl t18),(19,oG t19),(20,CW t20),(21,Dl t21),(22,CW t22),(23,Dl t23),(24,CW t24),(25,CW t25),(26,Dl t26),(30,oG t30),(31,CW t31),(32,CW t32),(33,CW t33),(34,Dl t34),(35,Dl t35),(38,CW t38),(39,CW t39),(40,oG t40),(45,CW t45),(46,CW t46),(47,CW Ļ),(48,CW lI),(49,CW uy),(50,CW yP),(51,CW t51),(52,CW t52),(53,CW t53),(61,Dl t61),(62,JU t62),(63,JU t63),(64,CW t64),(65,aAH t65),(66,uI t66),(67,Dl t67),(68,CW t68),(69,CW t69),(70,CW t70),(71,Dl t71),(72,CW t72),(73,CW t73),(74,JU t74),(75,CW t75),(76,Dl t76),(77,Dl t77),(78,Dl t78),(79,Dl t79),(80,JU t80),(81,Dl t81),(82,Dl t82),(83,oG t83),(84,Dl t84),(85,oG t85),(86,CW t86),(87,CW t87),(88,Dl t88),(89,CW t89),(90,Dl t90),(91,Dl t91),(92,Dl t92),(101,Dl aAe),(102,Dl aD3),(103,CW aAf),(104,CW aD4),(105,JU aD5),(106,uI pz),(107,CW aD6),(108,JU aAg),(110,CW aAh),(111,CW aD7),(113,CW aD8),(114,CW aD9),(115,CW aEa),(116,CW aAi),(117,JU aEb),(118,CW aEc),(119,JU aEd),(120,JU aEe),(121,Dl aEf),(122,Dl aEg),(123,JU aEh),(124,CW aEi),(125,Dl aEj),(126,CW aEk),(127,CW t127),(128,JU aEl),(129,Dl aEm),(130,Dl aEn),(131,Dl aEo),(132,Dl Ë),(133,Dl aEp),(134,Dl aEq),(135,Dl aEr),(136,Dl Z9),(137,Dl aEs),(138,Dl uG),(139,Dl p_),(140,Dl qa),(141,Dl aEt),(142,Dl aAj),(143,Dl uH),(144,Dl Ì),(145,Dl qb),(146,Dl t146),(147,Dl aAk),(148,Dl t148),(149,Dl aAl),(150,Dl oD),(151,CW aEu),(152,Dl Í),(153,Dl aEv),(154,Dl aAm),(155,Dl aAn),(156,Dl aEw),(157,CW aAo),(158,Dl aAp),(159,Dl aAq),(160,Dl oE),(161,Dl qc),(162,Dl aEx),(163,CW aEy),(164,CW t164),(165,CW aEz),(166,CW aAr),(167,CW aEA),(168,JU aEB),(169,Dl aEC),(170,CW aED),(171,CW aEE),(172,Dl aEF),(173,JU aEG),(178,Dl aAs),(179,CW Î),(180,Dl aEH),(181,Dl aEI),(182,CW aEJ),(183,CW aEK),(185,JU aEL),(188,Dl aEM),(189,CW aEN),(190,CW aEO),(191,Dl aEP),(192,uI aAt),(193,uI aAu),(194,CW aAv),(195,CW aEQ),(196,CW aER),(197,Dl aES),(198,Dl aET),(199,JU aEU),(200,CW aEV),(201,CW aEW),(202,Dl aAw),(203,Dl aEX),(204,CW aEY),(205,Dl aEZ),(206,CW aE0),(207,JU aE1),(208,CW aE2),(209,JU aAx),(210,Dl aE3),(211,CW aE4),(212,CW aE5),(213,CW aAy),(214,CW aE6),(215,CW aE7),(216,CW oF),(217,JU aE8),(218,JU aE9),(219,CW aFa),(220,Dl aFb),(221,CW aFc),(222,CW aFd),(223,oG aFe),(224,CW aFf),(232,CW aFg),(233,JU aAz),(234,CW aAA),(235,CW aFh),(238,Dl aFi),(239,CW aFj),(240,Dl aFk),(241,CW aFl),(242,Dl aFm),(243,aAH aAB),(244,CW aAC),(245,JU aFn),(246,CW aFo),(247,CW aAD),(248,CW aFp),(249,JU aFq),(250,CW aFr),(251,JU aFs),(252,CW aFt),(253,uI aFu),(254,JU aFv),(255,JU aFw),(256,JU aFx),(257,CW aFy),(258,CW aFz),(271,CW aIU),(273,Dl aFA),(274,CW aFB),(275,Dl aFC),(276,Dl aFD),(277,Dl aFE),(278,CW Ï),(279,CW Ð),(280,Dl aFF),(281,CW aFG),(282,Dl aFH),(283,JU aFI),(284,JU aAF),(285,JU aAG),(286,Dl Ñ),(287,JU aFJ),(297,CW aFK),(298,CW aFL),(299,CW aFM),(300,CW aFN),(301,Dl aFO),(302,Dl aFP),(303,Dl aFQ),(304,CW aFR),(316,CW aFS),(100035,Dl WW),(100091,Dl iW),(200078,Dl WX)]
def Ô:List (Nat×Ò)->Prop
 |[]=>True
 |(f,g)::l=>YN f g/\Ô l
def Õ:Ô aCb:=
 ⟨BK aB9,BK aIQ,Bz tV,Bz tW,Bz aDY,BK aDZ,BK aD0,UU D_,Bz E_,BK F_,Bz G_,BK tX,Bz tY,Bz H_,BK I_,UU J_,Bz K_,Bz tZ,Bz gP,BK L_,BK uA,Bz uB,Bz M_,UU N_,Bz Sy,Bz QP,Bz PD,Bz I7,Bz Nh,Bz Lw,Bz Lx,Bz UT,Bz Kd,BK O_,EN uC,EN P_,Bz uD,Ó Q_,YO QQ,BK R_,Bz S_,Bz T_,Bz U_,BK V_,Bz YL,Bz W_,EN X_,Bz Y_,BK gQ,BK Z_,BK uE,BK gR,EN À,BK gS,BK Á,UU Â,BK Ã,UU Ä,Bz Å,Bz Æ,BK Ç,Bz È,BK É,BK uF,BK Ê,BK gT,BK yQ,Bz gU,Bz yR,EN yS,YO TO,Bz yT,EN gV,Bz gW,Bz yU,Bz yV,Bz yW,Bz yX,Bz gX,EN yY,Bz yZ,EN zA,EN zB,BK zC,BK zD,EN zE,Bz zF,BK zG,Bz zH,Bz gY,EN zI,BK zJ,BK zK,BK zL,BK WO,BK zM,BK zN,BK zO,BK MO,BK zP,BK Rw,BK TP,BK TQ,BK zQ,BK gZ,BK Rx,BK WQ,BK TR,BK hO,BK hZ,BK iA,BK iB,BK PE,Bz zR,BK WR,BK zS,BK iC,BK iD,BK zT,Bz iE,BK iF,BK iG,BK PF,BK TS,BK zU,Bz zV,Bz zW,Bz zX,Bz iH,Bz zY,EN zZ,BK ae,Bz af,Bz ag,BK ah,EN aj,BK iI,Bz WS,BK ak,BK al,Bz ao,Bz aq,EN au,BK aw,Bz ax,Bz ay,BK az,YO iJ,YO iK,Bz iL,Bz a_,Bz ba,BK bb,BK bc,EN bd,Bz be,Bz bg,BK iM,BK bj,Bz bk,BK bl,Bz bm,EN bn,Bz bp,EN iN,BK bq,Bz br,Bz bu,Bz iO,Bz bw,Bz bx,Bz PG,EN bz,EN b_,Bz cj,BK cp,Bz cq,Bz cr,UU cu,Bz cw,Bz cy,EN iP,Bz iQ,Bz cz,BK c_,Bz da,BK db,Bz de,BK df,Ó iR,Bz iS,EN dg,Bz dh,Bz iT,Bz di,EN dj,Bz dk,EN dm,Bz dr,YO du,EN dv,EN dw,EN dx,Bz dy,Bz dz,Bz aAE,BK d_,Bz ee,BK ej,BK ew,BK ey,Bz WT,Bz WU,BK ez,Bz e_,BK fc,EN fg,EN iU,EN iV,BK WV,EN fh,Bz fj,Bz fk,Bz fq,Bz fw,BK fx,BK fy,BK f_,Bz gd,Bz gj,BK SA,BK YM,BK SB,trivial⟩
def aAI(f:Nat):List (Nat×Ò)->List Aa->Option IT
 |[],_=>none
 |(k,g)::l,args=>if Nat.beq k f then g args else aAI f l args
def gl{f:Nat}{args:List Aa}{t:IT}:∀{l:List (Nat×Ò)},Ô l->aAI f l args=some t->t=Cd cx f args
 |[],_,h=>by cases h
 |(k,g)::l,ha,h=>by
  simp only[aAI] at h;split at h;.rename_i hk;have hk:k=f:=N1 hk;subst hk;exact ha.1 _ _ h
  .exact gl ha.2 h
noncomputable def tab(f:FuncId)(args:List Aa):IT:=match aAI f aCb args with
 |some t=>t
 |none=>Cd cx f args
def SC:tab=Cd cx:=by
 funext f args;unfold tab;split;.rename_i t h;exact gl Õ h
 .rfl
def YP:Option Ku->Bool
 |some (.ret,[.bool true],_)=>true
 |_=>false
def aA{r:Option Ku}(h:YP r=true):∃h',r=some (.ret,[.bool true],h'):=by
 unfold YP at h;split at h;.exact⟨_,rfl⟩
 .cases h
end Go.Am
end
section
namespace Go.Am
open Go
section
def aNC(s:Ah):Oz cx 220 [.str s] (.bool (decide (s∈Fl))):=by rw[Tv,cp];rw[show aFb (.str s)=sw s (.ret .ret [tt]) (.ret .ret [ff]) Fl from rfl,zg];exact⟨λh=>by simp[h],λh=>by simp[h]⟩
section
variable{Q:Lj}{h:Ai}{k:Aa->IT}{s:Ah}
@[simp] theorem Ö:W cx (.BH 220 [.str s] k) Q h↔W cx (k (.bool (decide (s∈Fl)))) Q h:=(aNC s).BH rfl rfl
end
def aND(s:Ah):Oz cx 198 [.str s] (.bool (decide (s∈Ro\/s∈Fl))):=by rw[Tv,bc];rw[show aET (.str s)=sw s (.ret .ret [tt]) (.BH 220 [.str s] λv=> .ret .ret [v]) Ro from rfl,zg];exact⟨λh=>by simp[h],λh=>by simp[h]⟩
def aNE(n:Int)(s:Ah):Oz cx 222 [I n,.str s] (.bool (decide (n=3/\s∈Pp))):=by
 rw[Tv,cr,aFd];by_cases h:n=3;.simp[h,Pp];by_cases h1:s=[109,105]<;>by_cases h2:s=[109,110]<;>by_cases h3:s=[109,111]<;>by_cases a:s=[109,115]<;>simp[h1,h2,h3,a]
 .simp[h]
section
variable{Q:Lj}{h:Ai}{k:Aa->IT}{s:Ah}{n:Int}
@[simp] theorem Ø:W cx (.BH 198 [.str s] k) Q h↔W cx (k (.bool (decide (s∈Ro\/s∈Fl)))) Q h:=(aND s).BH rfl rfl
@[simp] theorem aIV:W cx (.BH 222 [I n,.str s] k) Q h↔W cx (k (.bool (decide (n=3/\s∈Pp)))) Q h:=(aNE n s).BH rfl rfl
end
def aAJ(n:Int)(s:Ah):Oz cx 167 [I n,.str s] (.bool (D4 n s)):=by
 rw[Tv,zY];rw[show aEA (I n) (.str s)= .op (.int .eql) [I n,I 3] λv=> .A3 v (.op (.str .eql) [.str s,S aWM] λv=> .A3 v (.ret .ret [tt]) (.BH 222 [I n,.str s] λv=> .ret .ret [v]))
  (.op (.int .eql) [I n,I 2] λv=> .A3 v (sw s (.ret .ret [tt]) (.op (.str .eql) [.str s,S aWO] λv=> .ret .ret [v]) [aYf,aXa])
  (.op (.int .eql) [I n,I 1] λv=> .A3 v (sw s (.ret .ret [tt]) (.ret .ret [ff]) Tu) (.ret .ret [ff]))) from rfl]
 by_cases h3:n=3;.by_cases h:s=aWM<;>simp[h3,D4,h]
 .by_cases h2:n=2;.by_cases ha:s=aYf<;>by_cases hb:s=aXa<;>simp[h2,zg,D4,cM,ha,hb]
  .by_cases h1:n=1;.by_cases h:s∈Tu<;>simp[h1,zg,D4,h]
   .simp[h3,h2,h1,D4]
section
variable{Q:Lj}{h:Ai}{k:Aa->IT}{s:Ah}{n:Int}
@[simp] theorem YQ:W cx (.BH 167 [I n,.str s] k) Q h↔W cx (k (.bool (D4 n s))) Q h:=(aAJ n s).BH rfl rfl
end
end
section
end
section
section
variable{Q:Lj}{h:Ai}{k:Aa->IT}{s:Ah}
end
section
variable{Q:Lj}{h:Ai}{k:Aa->IT}{s:Ah}{n:Int}
end
end
section
def aNF(a b:Int)(h:Ai):Cy cx 179 [.int .i32 a,.int .i32 b] h (.func (.func 233) [] [.B9 [.int .i32 a],.B9 [.int .i32 b]]) h:=by rw[Ag,WS,Î];simp only[Cx]
def aNG(c a b:Int)(h:Ai):Cy cx 233 [.int .i32 c,.B9 [.int .i32 a],.B9 [.int .i32 b]] h (.bool (decide (a<=c/\c<=b))) h:=by rw[Ag,iP,aAz];simp only[Cx];refine⟨λh=>by simp[h],λh=>by simp[h]⟩
def aNH(c:Int):Oz cx 238 [.int .i32 c] (.bool (decide (65<=c/\c<=90))):=by rw[Tv,c_,aFi];simp only[Cx,Nat.reduceLeDiff,↓reduceIte,(aNF _ _ _).Ae,CN,(aNG _ _ _ _).Ae]
def aFT(s:Ah)(hs:s.length<=AV):Oz cx 188 [.str s] (.str (Fc s)):=by
 have lC:s.length<=140737488355328:=hs;rw[Tv,aw,aEM];have j:Jm [] (.str s)=some ([.cells ((H5 s 0).map P2)],.Dn 0 0 s.length 1):=by simp only[Jm,hs,BN];rfl
 have i:AH (.len false) [.Dn 0 0 s.length 1]=some (I (s.length:Int)):=rfl;simp only[Cx,j,i];refine Co (λn:Nat=>[I (n:Int)]) (λn h=>n<=s.length/\h=[.cells ((H5 s n).map P2)]) (λn=>s.length-n) 0 rfl ⟨Bp _,rfl⟩ ?_;rintro n h ⟨hn,rfl⟩;rcases Bl n s.length with hlt|IS
 .have i1:(n:Int)<(s.length:Int):=by omega
  have g:AH (.GY 1) [.Dn 0 0 s.length 1,I (n:Int)]=some (Pt 0 n):=by simp[AH,elemOf,MX,hlt]
  have f:Bn [.cells ((H5 s n).map P2)] none (Pt 0 n)=some (.int .u8 (s[n].toNat:Int)):=sX (by rw[Dm,Yu hlt];rfl);have e:IntKind.i32.wrap (s[n].toNat:Int)=(s[n].toNat:Int):=ze (by have:=s[n].toNat_lt;omega);simp only[Cx,i1,A0,AU,AN,g,f,WK,e,(aNH _).BH rfl rfl,Dw (Ab:n<9223372036854775807)];refine⟨λhe=>?_,λhe=>?_⟩
  .have a:65<=s[n].toNat/\s[n].toNat<=90:=by omega
   have d:C9 [.cells ((H5 s n).map P2)] 1 (Pt 0 n) (.int .u8 ((s[n].toNat:Int)-65+97))=some [.cells (((H5 s n).map P2).set n (.int .u8 ((s[n].toNat:Int)-65+97)))]:=nN (by rw[Aw,Yt];exact hlt) rfl;simp only[Cx,sT,sS,wrap_u8 (Ab:0<=((s[n].toNat:Int)-65)/\((s[n].toNat:Int)-65)<=255),wrap_u8 (Ab:0<=((s[n].toNat:Int)-65+97)/\((s[n].toNat:Int)-65+97)<=255),d];refine BC.next (n+1) rfl ⟨hlt,?_⟩ Ab;rw[Tz hlt,JJ];have c:P2 (Km s[n])= .int .u8 ((s[n].toNat:Int)-65+97):=by unfold P2;rw[fZ a];congr 1;omega
   rw[c]
  .have xE:¬(65<=s[n].toNat/\s[n].toNat<=90):=by omega
   refine BC.next (n+1) rfl ⟨hlt,?_⟩ Ab;rw[Tz hlt,Tx xE,TA (Yu hlt)]
 .have i1:¬(n:Int)<(s.length:Int):=by omega
  have en:n=s.length:=Ab;subst en;have b:LW [.cells ((H5 s s.length).map P2)] (.Dn 0 0 s.length 1)=some ([.Ef],.sl 1 (C8 (Fc s))):=by
   have hl:(Fc s).length=s.length:=by simp[Fc]
   rw[nM];simp only[LW,Ji];rw[Af (by simp[hl])];rw[QF (Fc s) s.length 0 Ab];simp
  simp only[Cx,i1,A5,AU,AN,b,BB.ZM (s:=Fc s) .mk]
end
section
def TT(l:Ah)(ws:List Ah):Prop:=Ev cx 240 [.str l] [] λr _=>r= .sl 1 (ws.map Cv)
def R4{l:Ah}{ws:List Ah}(n:Nat)(hr:(IT.run tab n (tab 240 [.str l]) []).map (λx=>(x.1,x.2.1))=some (.ret,[.sl 1 (ws.map Cv)])):TT l ws:=by obtain⟨⟨x,vs,h⟩,a,b⟩:=aGZ.1 hr;cases b;rw[SC] at a;exact⟨n,_,_,_,a,rfl,_,rfl,rfl⟩
def f236{l:Ah}{ws:List Ah}(hf:TT l ws)(hw:∀w∈ws,w.length<=AV)(hn:ws.length<9223372036854775807)(name:Ah):Oz cx 274 [.str name,.str l] (.str (Ea name ws)):=by
 rw[Tv,ee,aFB];refine wc (hf.mono λr h1 e=>?_);subst e;have qH:BB 1 (ws.map Cv) (.sl 1 (ws.map Cv)):= .mk;simp only[Cx,qH.len];refine Co (λn:Nat=>[.str [],I (n:Int)]) (λn _=>n<=ws.length/\Ea name ws=Ea name (ws.drop n)) (λn=>ws.length-n) 0 rfl ⟨Bp _,rfl⟩ ?_;rintro n h ⟨a,ha⟩;rcases Bl n ws.length with hlt|IS
 .have i1:(n:Int)<((ws.map Cv).length:Int):=Et;have qd:n<(ws.map Cv).length:=by simpa using hlt
  have b:(ws.map Cv)[n]=[.str ws[n]]:=by simp[Cv]
  rw[Az hlt,Ea] at ha;simp only[Cx,i1,A0,AU,AN,qH.GY qd,b,(aFT ws[n] (hw _ (AF hlt))).BH rfl rfl,Dw (Ab:n<9223372036854775807)];refine⟨λhe=>?_,λhe=>?_⟩;.rw[ha,Af he]
  .rw[Ac he] at ha;exact BC.next (n+1) rfl ⟨hlt,ha⟩ Ab
 .have i1:¬(n:Int)<((ws.map Cv).length:Int):=Et;rw[AR IS,Ea] at ha;simp only[Cx,i1,A5,AU,AN,ha]
def Wl:TT UF OD:=R4 5000 AP
def Wm:TT UG OE:=R4 5000 AP
def aNI(s:Ah):Oz cx 242 [.str s] (.str (Ea s OD)):=by rw[Tv,df,show aFm (.str s)= .BH 274 [.str s,.str UF] λv=> .ret .ret [v] from rfl];rw[(f236 (l:=UF) Wl Ed Ed s).BH rfl rfl];simp only[Cx]
def aIW(s:Ah):Oz cx 273 [.str s] (.str (Ea s OE)):=by rw[Tv,d_,show aFA (.str s)= .BH 274 [.str s,.str UG] λv=> .ret .ret [v] from rfl];rw[(f236 (l:=UG) Wm Ed Ed s).BH rfl rfl];simp only[Cx]
end
section
def f187{v:Aa}{l:List Be}(hv:Bw l v)(hn:l.length<9223372036854775807)(h:Ai){f:FuncId}{p:Be->Bool}(hp:∀a∈l,Cy cx f [.agg a.row] h (.bool (p a)) h)(hf:f<=99999):
  Cy cx 279 [v,.func (.func f) [] []] h (I (Cr p 0 l)) h:=by
 rw[Ag,WU,Ð];have hlen:(l.map Be.row).length=l.length:=Aw ..;simp only[Cx,BB.len hv];refine Co (λn:Nat=>[I 0,I (n:Int)]) (λn h1=>n<=l.length/\Cr p 0 l=Cr p n (l.drop n)/\h1=h) (λn=>l.length-n) 0 rfl ⟨Bp _,rfl,rfl⟩ ?_;rintro n h1 ⟨b,ha,rfl⟩;rcases Bl n l.length with hlt|IS
 .have i1:(n:Int)<((l.map Be.row).length:Int):=by rw[hlen];omega
  have d:(l.map Be.row)[n]'(by rw[hlen];exact hlt)=Be.row l[n]:=AB;have c:FG (Be.row l[n]) 0 (some 3)=some (.agg (Be.row l[n])):=by simp[Be.row]
  rw[Az hlt,Cr] at ha;simp only[Cx,↓reduceIte,CN,hf,Bg,i1,A0,AU,AN,BB.GY hv (show n<(l.map Be.row).length by rw[hlen];exact hlt),d,c,(hp _ (AF hlt)).Ae];rw[DC];refine⟨λhe=>?_,λhe=>?_⟩;.rw[ha,Af he]
  .rw[Ac (by simp[he])] at ha;simp only[Cx,Dw (Ab:n<9223372036854775807)];exact BC.next (n+1) rfl ⟨hlt,ha,rfl⟩ Ab
 .have i1:¬(n:Int)<((l.map Be.row).length:Int):=by rw[hlen];omega
  rw[AR IS,Cr] at ha;simp only[Cx,↓reduceIte,CN,hf,i1,A5,AU,AN,ha]
def aNJ(a:Be)(h:Ai):Cy cx 280 [.agg a.row] h (.bool (yA a)) h:=by rw[Ag,ez,aFF,Be.row];simp only[Cx,yA];refine⟨λh=>by simp[h],λh=>by simp[h]⟩
def Ù(a b:Ah)(ha:a.length<=AV)(hb:b.length<=AV):Oz cx 113 [.str a,.str b] (.bool (decide (Fc a=Fc b))):=by rw[Tv,yV,aD8];simp only[Cx,(aFT a ha).BH rfl rfl,(aFT b hb).BH rfl rfl]
def f96{v:Aa}{l:List Be}(hv:Bw l v)(hl:∀a∈l,a.value.length<=AV)(hn:l.length<9223372036854775807)(n:Int)(s:Ah)(h:Ai):Cy cx 245 [I n,.str s,v] h (.bool (Rp n s l)) h:=by
 rw[Ag,dg,aFn];simp only[Cx,YQ,(f187 hv hn h (λa _=>aNJ a h) AA).Ae,Rp];refine⟨λh2=>by simp[h2],λh2=>⟨λh3=>by simp[h2,h3],λh3=>⟨λf=>by simp[h2,h3,f],λf=>?_⟩⟩⟩;rw[Ac h2,Ac h3,Ac f];rcases He (p:=yA) (l:=l) (k:=0) with⟨d,c⟩|⟨k,a,d,c,g⟩
 .rw[d,c];simp
 .rw[d,g,BE];obtain⟨hk,e⟩:=Aj.1 c;have b:k<(l.map Be.row).length:=by simpa using hk
  have m:(l.map Be.row)[k]=Be.row a:=by simp[e]
  have i1:(0:Int)<=(k:Int):=Ab;have RH:a.value.length<=AV:=hl a (e▸AF hk);have j:Fc yB=yB:=QH Ed;have i:Fc gA=gA:=QH Ed;simp only[Cx,i1,A0,AU,AN,BB.GY hv b,m,Be.row,(Ù a.value yB RH AA).BH rfl rfl,(Ù a.value gA RH AA).BH rfl rfl,j,i];refine⟨λh=>by simp[h],λh=>by simp[h]⟩
end
section
section
variable{U:Type}{f:U->List Aa}{l l2:List U}{v v2:Aa}{z b:Nat}{k k2:IntKind}
end
section
variable{h:Ai}{p:Aa}{l:List Item}
def UW(hs:og h p l):Cy cx 121 [p] h (I (l.length:Int)) h:=by
 rw[Ag,zC,aEf];rcases hs with⟨rfl,rfl⟩|⟨id,o,v,rfl,hc,hv⟩
 .simp
 .simp only[Cx,Iq,hc.load,By,hv.GN]
def Wn(hs:og h p l)(i:Int):Cy cx 163 [p,I i] h (.agg (El l i).row) h:=by
 rw[Ag,zV,aEy];simp only[Cx,↓reduceIte,Cl,(UW hs).Ae];refine⟨λhi=>by rw[Yv (.inl hi)];simp[Item.row,Item.zero],λhi=>⟨λhl=>by rw[Yv (.inr hl)];simp[Item.row,Item.zero],λhl=>?_⟩⟩;rcases hs with⟨rfl,rfl⟩|⟨id,o,v,rfl,hc,hv⟩
 .simp at hl;omega
 .obtain⟨n,rfl⟩:=Ui (Ab:0<=i);have hn:n<l.length:=Ab;simp only[Cx,Nat.reduceLeDiff,↓reduceIte,Lo,hc.load,By,hv.DN hn,Iw hn]
def f39(hs:og h p l)(hn:l.length<=1000000000):Cy cx 122 [p] h (.agg (D1 l).row) h:=by rw[Ag,zD,aEg];simp only[Cx,Lo,(UW hs).Ae,Ek (Ab: -9223372036854775808<=(l.length:Int)-1) (Ab:(l.length:Int)-1<9223372036854775808),(Wn hs _).Ae,D1]
def Wo(F:Aa)(h:Ai)(q:Item->Bool):Prop:=∃f caps,F= .func (.func f) [] caps/\f<=99999/\∀a:Item,Cy cx f (.agg a.row::caps) h (.bool (q a)) h
def Wo.EG{F:Aa}{q:Item->Bool}(hF:Wo F h q)(a:Item){k:Aa->IT}{Q:Lj}:W cx (.EG F [.agg a.row] k) Q h↔W cx (k (.bool (q a))) Q h:=by obtain⟨f,caps,rfl,hf,hr⟩:=hF;rw[NO];simp only[CN,hf,↓reduceIte,BA,B8,M9,(hr a).Ae]
def aFU(hs:og h p l)(hn:l.length<=1000000000){F:Aa}{q:Item->Bool}(hF:Wo F h q):Cy cx 195 [p,F] h (I (AD q l)) h:=by
 obtain⟨f,caps,rfl,hf,hr⟩:=hF;rw[Ag,a_,aEQ];simp only[Cx,(UW hs).Ae,Ek (Ab: -9223372036854775808<=(l.length:Int)-1) (Ab:(l.length:Int)-1<9223372036854775808)];refine Co (λn:Nat=>[I 0,I ((n:Int)-1)]) (λn h1=>n<=l.length/\AD q l=AD q (l.take n)/\h1=h) (λn=>n) l.length rfl ⟨Ad _,by rw[Bk],rfl⟩ ?_;rintro n h1 ⟨a,ha,rfl⟩;cases n with
 |zero=>have i1:¬(0:Int)<=((0:Nat):Int)-1:=Ab;rw[ha];simp only[Cx,↓reduceIte,CN,hf,i1,A5,AU,AN,L3]
 |succ n=>
  have i1:(0:Int)<=((n+1:Nat):Int)-1:=Ab;have c:((n+1:Nat):Int)-1=(n:Int):=Ab;rcases hs with⟨rfl,rfl⟩|⟨id,o,v,rfl,hc,hv⟩
  .simp at a
  .rw[Pr Ab] at ha;simp only[Cx,Nat.reduceLeDiff,↓reduceIte,CN,Lo,hf,c,(Ab:(0:Int)<=(n:Int)),A0,AU,AN,hc.load,By,hv.DN (Ab:n<l.length),(hr l[n]).Ae,Ek (Ab: -9223372036854775808<=(n:Int)-1) (Ab:(n:Int)-1<9223372036854775808)];rw[DC];refine⟨λhe=>?_,λhe=>?_⟩;.rw[ha,Af he]
   .rw[Ac (by simp[he])] at ha;exact BC.next n rfl ⟨Ab,ha,rfl⟩ Ab
def aNK{v:Aa}{ws:List Ah}(hv:IB ws v)(hn:ws.length<=1000000000)(s:Ah)(h:Ai):Cy cx 239 [v,.str s] h (I (Cr (λw=>decide (s=w)) 0 ws)) h:=by
 rw[Ag,da,aFj];have hv:BB 1 (ws.map Cv) v:=hv;simp only[Cx,hv.GN];refine Co (λn:Nat=>[I 0,I (n:Int)]) (λn h1=>n<=ws.length/\Cr (λw=>decide (s=w)) 0 ws=Cr (λw=>decide (s=w)) n (ws.drop n)/\h1=h) (λn=>ws.length-n) 0 rfl ⟨Bp _,rfl,rfl⟩ ?_;rintro n h1 ⟨a,ha,rfl⟩;rcases Bl n ws.length with hlt|IS
 .have i1:(n:Int)<(ws.length:Int):=by omega
  rw[Az hlt,Cr] at ha;simp only[Cx,i1,A0,AU,AN,hv.DN hlt,Cv,Dw (Ab:n<9223372036854775807)];refine⟨λhe=>?_,λhe=>?_⟩;.rw[ha,Af (by simpa using he)]
  .rw[Ac (by simpa using he)] at ha;exact BC.next (n+1) rfl ⟨hlt,ha,rfl⟩ Ab
 .have i1:¬(n:Int)<(ws.length:Int):=by omega
  rw[AR IS,Cr] at ha;simp only[Cx,i1,A5,AU,AN,ha]
def aAK{v:Aa}{ws:List Ah}(hv:IB ws v)(hn:ws.length<=1000000000)(s:Ah)(h:Ai):Cy cx 190 [v,.str s] h (.bool (decide (s∈ws))) h:=by rw[Ag,ay,aEO];simp only[Cx,(aNK hv hn s h).Ae,ŵ]
def oH{v:Aa}{ws:List Ah}(hv:IB ws v)(hn:ws.length<=1000000000)(a:Item)(h:Ai):Cy cx 171 [.agg a.row,v] h (.bool (AG ws a)) h:=by rw[Ag,ag,aEE];simp only[Cx,Lo,(aAK hv hn _ h).Ae,AG];refine⟨λh1=>by simp[h1],λh1=>by simp[h1]⟩
def aNL(a:Item)(h:Ai):Cy cx 302 [.agg a.row] h (.bool (AG Tw a)) h:=by rw[Ag,fy,aFP];simp only[Cx,Lo,sY,(oH (ws:=Tw) Dg AA a h).Ae]
def f290(a:Item)(h:Ai):Cy cx 303 [.agg a.row] h (.bool (!AG QE a)) h:=by rw[Ag,f_,aFQ];simp only[Cx,Lo,nQ,(oH (ws:=QE) Dg AA a h).Ae]
def f291(n:Int)(i:n≠4)(g:n≠5)(a:Item)(h:Ai):Cy cx 304 [.agg a.row,.B9 [I n]] h (.bool (H7 n a)) h:=by have b1:=oH (ws:=Pq) Dg AA a h;have b2:=oH (ws:=fY) Dg AA a h;have b3:=oH (ws:=[aWx]) Dg AA a h;rw[Ag,gd,aFR];simp only[Cx,Lo,YQ,sZ,oj,om,b1.Ae,b2.Ae,b3.Ae,H7,i,g];refine⟨λh1=>by simp[h1],λh1=>⟨λh2=>by simp[h2],λh2=>?_⟩⟩;rw[DC];simp only[h1,h2,or_self,DP];refine⟨λh3=>by simp[h3],λh3=>⟨λd=>?_,λd=>⟨λc=>by simp[h3,c],λc=>by simp[h3,d,c]⟩⟩⟩;rw[DC];exact⟨λc=>by simp[h3,d,c],λc=>⟨λe=>Ab,λe=>by simp[h3,c,e]⟩⟩
def f264(n:Int)(h:Ai):∃F,Cy cx 286 [I n] h F h/\Wo F h (H7 n)/\F.cells=[F]:=by
 by_cases d:n=4
 .refine⟨.func (.func 302) [] [],?_,⟨_,_,rfl,AA,λa=>?_⟩,rfl⟩;.rw[Ag,WV,Ñ];simp only[Cx,d,A0,AU,AN]
  .have:=aNL a h;simpa[H7,d] using this
 .by_cases c:n=5
  .refine⟨.func (.func 303) [] [],?_,⟨_,_,rfl,AA,λa=>?_⟩,rfl⟩;.rw[Ag,WV,Ñ];simp only[Cx,c,A0,AU,AN];simp
   .have:=f290 a h;simpa[H7,c] using this
  .refine⟨.func (.func 304) [] [.B9 [I n]],?_,⟨_,_,rfl,AA,λa=>f291 n d c a h⟩,rfl⟩;rw[Ag,WV,Ñ];simp only[Cx,d,c,A5,AU,AN]
def aNM{g d:Aa}{q e:Item->Bool}(h1:Wo g h q)(h2:Wo d h e)(a:Item):Cy cx 287 [.agg a.row,.B9 [g],.B9 [d]] h (.bool (q a||e a)) h:=by have m:=λk Q=>h1.EG a (k:=k) (Q:=Q);have j:=λk Q=>h2.EG a (k:=k) (Q:=Q);rw[Ag,fh,aFJ];obtain⟨f,caps,rfl,hf,i⟩:=h1;obtain⟨f',c,rfl,ye,r2⟩:=h2;simp only[Cx,↓reduceIte,CN,Lo,hf,ye,(i a).Ae,(r2 a).Ae];rw[DC];exact⟨λh=>by simp[h],λh=>by simp[h]⟩
def aIX(hs:og h p l)(hn:l.length<=1000000000)(n:Int){F:Aa}{q:Item->Bool}(hF:Wo F h q):Cy cx 256 [p,I n,F] h (.bool (Il q (H7 n) l.reverse)) h:=by
 obtain⟨G,g,aIY,Ki⟩:=f264 n h;have c:F.cells=[F]:=by obtain⟨f,caps,rfl,hf,_⟩:=hF;rfl
 have d:=hF;have hfit:Wo (.func (.func 287) [] [.B9 [F],.B9 [G]]) h (λa=>q a||H7 n a):=⟨287,_,rfl,AA,λa=>aNM hF aIY a⟩;rw[Ag,dx,aFx];simp only[Cx,↓reduceIte,CN,c,g.Ae,Ki,(aFU hs hn hfit).Ae];rw[<-tC l true];rcases BY (q:=λa=>q a||H7 n a) (l:=l) with⟨h1,h2⟩|⟨k,hk,h1,h2,h3⟩
 .simp[h1]
 .have e:(0:Int)<=(k:Int)/\(k:Int).toNat<l.length:=⟨Ab,by simpa using hk⟩;simp only[h1];rw[qC e];rcases hs with⟨rfl,rfl⟩|⟨id,o,v,rfl,hc,hv⟩
  .simp at hk
  .obtain⟨f,caps,rfl,hf,hr⟩:=d;simp only[Cx,Nat.reduceLeDiff,↓reduceIte,Lo,hf,e.1,A0,AU,AN,hc.load,By,hv.DN hk,(hr l[k]).Ae,BF]
def f225{v:Aa}{ws:List Ah}(hv:IB ws v)(hn:ws.length<=1000000000)(a:Item)(h:Ai):Cy cx 257 [.agg a.row,.B9 [v]] h (.bool (AG ws a)) h:=by have b:=oH hv hn a h;rw[Ag,dy,aFy];simp only[Cx,Lo,b.Ae]
def aIZ(hs:og h p l)(hn:l.length<=1000000000)(n:Int){v:Aa}{ws:List Ah}(hv:IB ws v)(hw:ws.length<=1000000000):Cy cx 217 [p,I n,v] h (.bool (Il (AG ws) (H7 n) l.reverse)) h:=by have hfit:Wo (.func (.func 257) [] [.B9 [v]]) h (AG ws):=⟨257,_,rfl,AA,λa=>f225 hv hw a h⟩;rw[Ag,bz,aE8];simp only[Cx,hv.cells,(aIX hs hn n hfit).Ae]
def aNN(node:Int)(a:Item)(h:Ai):Cy cx 258 [.agg a.row,.B9 [I node]] h (.bool (Bt node a)) h:=by rw[Ag,dz,aFz,Item.row];simp only[Cx,Lo,Bt]
def aI0(hs:og h p l)(hn:l.length<=1000000000)(n node:Int):Cy cx 218 [p,I n,I node] h (.bool (Il (Bt node) (H7 n) l.reverse)) h:=by have hfit:Wo (.func (.func 258) [] [.B9 [I node]]) h (Bt node):=⟨258,_,rfl,AA,λa=>aNN node a h⟩;rw[Ag,b_,aE9];simp only[Cx,(aIX hs hn n hfit).Ae]
def aNO(node:Int)(a:Item)(h:Ai):Cy cx 214 [.agg a.row,.B9 [I node]] h (.bool (Bt node a)) h:=by rw[Ag,bw,aE6,Item.row];simp only[Cx,Lo,Bt]
def aB(hs:og h p l)(hn:l.length<=1000000000)(node:Int):Cy cx 151 [p,I node] h (I (AD (Bt node) l)) h:=by have hfit:Wo (.func (.func 214) [] [.B9 [I node]]) h (Bt node):=⟨214,_,rfl,AA,λa=>aNO node a h⟩;rw[Ag,zR,aEu];simp only[Cx,(aFU hs hn hfit).Ae]
def aNP(s:Ah)(a:Item)(h:Ai):Cy cx 196 [.agg a.row,.B9 [.str s]] h (.bool (AG [s] a)) h:=by have b:=oH (ws:=[s]) Dg (AB:[s].length<=1000000000) a h;rw[Ag,ba,aER];simp only[Cx,Lo,Fh (ws:=[s]) (args:=[.str s]) rfl AB,b.Ae]
def aAL(hs:og h p l)(hn:l.length<=1000000000)(s:Ah):Cy cx 124 [p,.str s] h (I (AD (AG [s]) l)) h:=by have hfit:Wo (.func (.func 196) [] [.B9 [.str s]]) h (AG [s]):=⟨196,_,rfl,AA,λa=>aNP s a h⟩;rw[Ag,zF,aEi];simp only[Cx,(aFU hs hn hfit).Ae]
end
end
section
section
variable{h:Ai}{p v:Aa}{l:List Item}
def f186(hv:D0 l v)(a:Item){n:Nat}(hn:n<=l.length)(hb:l.length<=1000000000):∃u,Cy cx 199 [v,.agg a.row,I (n:Int)] h u h/\D0 (l.take n++a::l.drop n) u:=by
 have Se:(l.length+1)*40<=AV:=by have:AV=140737488355328:=rfl;omega
 obtain⟨t,q,h1⟩:=BB.TB hv (k:= .i64) hn;obtain⟨s,m,h2⟩:=BB.gB h1 (b:=40) (by rw[Ay];have:AV=140737488355328:=rfl;omega);have j:=BB.nO (a:=a) h2 (b:=40) (by rw[Ay];have:AV=140737488355328:=rfl;omega);obtain⟨r,i,e⟩:=BB.yC hv (k:= .i64) hn;obtain⟨d,g,c⟩:=BB.Z6 (v:= .sl 4 ((l.take n++[a]).map Item.row)) .mk e (b:=40) (by rw[Ao,Ay,AX,AS];have:AV=140737488355328:=rfl;omega);refine⟨d,?_,by rw[A6] at c;exact c⟩;rw[Ag,bd,aEU];simp only[Cx,Lo,q,m,zk,j,i,g]
def f95{id o:Nat}(hs:ML h id o l)(hb:l.length<=1000000000)(a:Item):∃u,Cy cx 126 [Pt id o,.agg a.row] h (.tuple []) (put h id o u)/\D0 (l++[a]) u:=by obtain⟨v,hc,hv⟩:=hs;obtain⟨u,hr,hu⟩:=f186 (h:=h) hv a (n:=l.length) (Ad _) hb;rw[Bk,Ft] at hu;refine⟨u,?_,hu⟩;rw[Ag,zH,aEk];simp only[Cx,Lo,SS,Q8,hc.load,By,BB.GN hv,hr.Ae,hc.store hu.cells]
def aNQ(hs:og h p l)(hb:l.length<=1000000000)(node:Int):Cy cx 252 [p,I node] h (I (Eb node l)) h:=by
 rw[Ag,dr,aFt];have a: -1<=AD (Bt node) l/\AD (Bt node) l<l.length+1:=by rcases BY (q:=Bt node) (l:=l) with⟨h1,h2⟩|⟨n,hn,h1,h2,h3⟩<;>rw[h1]<;>omega
 simp only[Cx,(aB hs hb node).Ae,TC (Ab: -9223372036854775808<=AD (Bt node) l+1) (Ab:AD (Bt node) l+1<9223372036854775808)];rw[L4];by_cases Kz:AD (Bt node) l<0;.rw[Af Kz];refine Co (λn:Nat=>[I 0,I (AD (Bt node) l+1)]) (λn h1=>h1=h) (λn=>n) 0 rfl rfl ?_;rintro n h1 rfl;have i1:¬0<=AD (Bt node) l:=Ab;simp only[Cx,i1,A5,AU,AN]
 .rw[Ac Kz];have i0:0<=AD (Bt node) l:=Ab;obtain⟨m,hm⟩:=Ui i0;refine Co (λn:Nat=>[I 0,I (n:Int)]) (λn h1=>Gl AO l (m+1)=Gl AO l n/\h1=h) (λn=>l.length-n) (m+1) (by rw[hm];rfl) ⟨rfl,rfl⟩ ?_;rw[hm,BF];rintro n h1 ⟨ha,rfl⟩;simp only[Cx,(Ab:(0:Int)<=(m:Int)),A0,AU,AN,(UW hs).Ae];rcases Bl n l.length with hlt|IS
  .have i1:(n:Int)<(l.length:Int):=by omega
   rw[gE hlt] at ha;rcases hs with⟨rfl,rfl⟩|⟨id,o,v,rfl,hc,hv⟩
   .simp at hlt
   .simp only[Cx,Lo,i1,A0,AU,AN,hc.load,By,BB.DN hv hlt,YQ,Dw (Ab:n<9223372036854775807)];rw[DC];refine⟨λhe=>?_,λhe=>?_⟩;.rw[ha,Af (by exact he)]
    .rw[Ac (by simp[AO,he])] at ha;exact BC.next (n+1) rfl ⟨ha,rfl⟩ Ab
  .have i1:¬(n:Int)<(l.length:Int):=by omega
   rw[Z7 IS] at ha;simp only[Cx,i1,A5,AU,AN,ha]
end
end
section
def YR(F:Aa)(q:Item->Bool):Prop:=∃f caps,F= .func (.func f) [] caps/\f<=99999/\∀(a:Item) (h:Ai),Cy cx f (.agg a.row::caps) h (.bool (q a)) h
section
variable{h:Ai}{p v:Aa}{l:List Item}
def f42{id o:Nat}(hs:ML h id o l)(hb:l.length<=1000000000)(h2:2<=l.length):∃u,Cy cx 76 [Pt id o] h (.agg (D1 l).row) (put h id o u)/\D0 (l.take (l.length-1)) u:=by obtain⟨v,hc,hv⟩:=(show ML h id o l from hs);obtain⟨u,e,hu⟩:=BB.TB hv (k:= .i64) (Ab:l.length-1<=l.length);refine⟨u,?_,hu⟩;have a:(l.length:Int)-1=((l.length-1:Nat):Int):=Ab;rw[Ag,gQ,t76];simp only[Cx,Lo,(UW hs.at).Ae,(f39 hs.at hb).Ae,hc.load,By,BB.GN hv,Ek (Ab: -9223372036854775808<=(l.length:Int)-1) (Ab:(l.length:Int)-1<9223372036854775808),a,e,hc.store (BB.cells hu),(Ab:¬(l.length:Int)<2),A5,AU,AN]
def aAM{id o:Nat}(hs:ML h id o l)(hb:l.length<=1000000000){B A:Aa}{b a:Item->Bool}(hB:YR B b)(e:YR A a):
  ∃u,Cy cx 168 [Pt id o,B,A] h (I ((l.length:Int)-((D5 b a l).length:Int))) (put h id o u)/\D0 (D5 b a l) u:=by
 obtain⟨g,q,rfl,c,rb⟩:=hB;obtain⟨fa,ca,rfl,hfa,ra⟩:=e;have hlt:=hs.lt;have Qa:Ev cx 168 [Pt id o,.func (.func g) [] q,.func (.func fa) [] ca] h λr h'=>r= I ((l.length:Int)-((D5 b a l).length:Int))/\∃u,h'=put h id o u/\D0 (D5 b a l) u:=by
  unfold Ev;rw[zZ,aEB];refine Co (λn:Nat=>[I ((l.length:Int)-(n:Int))]) (λn h1=>n<=l.length/\(∃u,h1=put h id o u/\D0 (l.take n) u)/\D5 b a l=D5 b a (l.take n)) (λn=>n) l.length AB ⟨Ad _,by rw[Bk];exact hs.gG,by rw[Bk]⟩ ?_;rintro n h1 ⟨hn,⟨u,rfl,hu⟩,ha⟩;have Kw:ML (put h id o u) id o (l.take n):= .aDM hlt hu;have xA:(l.take n).length=n:=by rw[Ay];omega
  simp only[Cx,↓reduceIte,(UW Kw.at).Ae,xA];match n,hn,hu,ha,Kw,xA with
  |0,hn,hu,ha,Kw,xA=>rw[nR (l:=l.take 0) AB] at ha;simp only[Cx,(Ab:¬(1:Int)<((0:Nat):Int)),A5,AU,AN];exact⟨_,rfl,by rw[ha];rfl,u,rfl,by rw[ha];exact hu⟩
  |1,hn,hu,ha,Kw,xA=>rw[nR (l:=l.take 1) (by rw[xA];exact Ad _)] at ha;simp only[Cx,(Ab:¬(1:Int)<((1:Nat):Int)),A5,AU,AN];exact⟨_,rfl,by rw[ha,xA],u,rfl,by rw[ha];exact hu⟩
  |m+2,hn,hu,ha,Kw,xA=>
   have hm:m+1<l.length:=Ab;have j:((l.length:Int)-((m+2:Nat):Int))+1=(l.length:Int)-((m+1:Nat):Int):=Ab;obtain⟨d,hr,Tt⟩:=f42 Kw Ab Ab;rw[J9 hm] at hr;have i:(l.take (m+2)).take ((l.take (m+2)).length-1)=l.take (m+1):=by rw[xA,CI,BO Ab];rfl
   rw[i] at Tt;rw[gC] at hr;have aI2:=f39 Kw.at Ab;rw[J9 hm] at aI2;rw[ou hm] at ha;simp only[Cx,↓reduceIte,CN,hfa,c,(Ab:(1:Int)<((m+2:Nat):Int)),A0,AU,AN,aI2.Ae,(rb _ _).Ae,hr.Ae,(ra _ _).Ae,TC (Ab: -9223372036854775808<=((l.length:Int)-((m+2:Nat):Int))+1) (Ab:((l.length:Int)-((m+2:Nat):Int))+1<9223372036854775808),j];rw[DC,DC];refine⟨λQx=>⟨λyo=>?_,λyo=>?_⟩,λQx=>?_⟩
   .have Qx:b l[m+1]=false:=by simpa using Qx
    rw[Ac (by simp[Qx]),Af yo] at ha;exact⟨_,rfl,by rw[ha,Ay,BO Ab],d,rfl,by rw[ha];exact Tt⟩
   .have Qx:b l[m+1]=false:=by simpa using Qx
    rw[Ac (by simp[Qx]),Ac (by simp[yo])] at ha;exact BC.next (m+1) rfl ⟨Ab,⟨d,rfl,Tt⟩,ha⟩ Ab
   .have Qx:b l[m+1]=true:=by simpa using Qx
    rw[Af Qx] at ha;exact⟨_,rfl,by rw[ha,xA],u,rfl,by rw[ha];exact hu⟩
 obtain⟨r,h',hr,rfl,u,rfl,hu⟩:=Qa.ret;exact⟨u,hr,hu⟩
def PH:YR (.func (.func 169) [] []) Dh:=⟨_,_,rfl,AA,λa h=>by rw[Ag,ae,aEC];simp only[Cx,Lo,Dh]⟩
def uJ{w:Aa}{ws:List Ah}(hw:IB ws w)(hn:ws.length<=1000000000):YR (.func (.func 170) [] [.B9 [w]]) (AG ws):=⟨_,_,rfl,AA,λa h=>by rw[Ag,af,aED];simp only[Cx,Lo,(oH hw hn a h).Ae]⟩
def iX(s:Ah):YR (.func (.func 219) [] [.B9 [.str s]]) (CJ s):=⟨_,_,rfl,AA,λa h=>by
 rw[Ag,cj,aFa];simp only[Cx,Lo,Ö,CJ];refine⟨λh1=>by simp[h1],λh1=>?_⟩;rw[DC];refine⟨λh2=>?_,λh2=>?_⟩
 .have h2:a.name∉Fl:=by simpa using h2
  simp[h2]
 .have h2:a.name∈Fl:=by simpa using h2
  have h1:a.A9=1:=by simpa using h1
  simp[h2,h1]⟩
def aC:YR (.func (.func 197) [] []) EC:=⟨_,_,rfl,AA,λa h=>by
 rw[Ag,bb,aES];simp only[Cx,Lo,Ø,EC];refine⟨λh1=>by simp[h1],λh1=>?_⟩;have h1:a.A9=1:=by simpa using h1
 simp[h1]⟩
def iY(node:Int):YR (.func (.func 221) [] [.B9 [I node]]) (Bt node):=⟨_,_,rfl,AA,λa h=>by rw[Ag,cq,aFc];simp only[Cx,Lo,Bt]⟩
def aFV{id o:Nat}(hs:ML h id o l)(hb:l.length<=1000000000)(s:Ah):
  ∃u,Cy cx 165 [Pt id o,.str s] h (I ((l.length:Int)-((D5 (CJ s) Dh l).length:Int))) (put h id o u)/\D0 (D5 (CJ s) Dh l) u:=by
 obtain⟨u,hr,hu⟩:=aAM hs hb (iX s) PH;exact⟨u,by rw[Ag,zX,aEz];simp only[Cx,hr.Ae],hu⟩
def f66{id o:Nat}(hs:ML h id o l)(hb:l.length<=1000000000){w:Aa}{ws:List Ah}(hw:IB ws w)(hn:ws.length<=1000000000):
  ∃u,Cy cx 89 [Pt id o,w] h (I ((l.length:Int)-((D5 Dh (AG ws) l).length:Int))) (put h id o u)/\D0 (D5 Dh (AG ws) l) u:=by
 obtain⟨u,hr,hu⟩:=aAM hs hb PH (uJ hw hn);exact⟨u,by rw[Ag,È,t89];simp only[Cx,IB.cells hw,hr.Ae],hu⟩
def aNT{id o:Nat}(hs:ML h id o l)(hb:l.length<=1000000000):
  ∃u,Cy cx 125 [Pt id o] h (I ((l.length:Int)-((D5 EC Dh l).length:Int))) (put h id o u)/\D0 (D5 EC Dh l) u:=by
 obtain⟨u,hr,hu⟩:=aAM hs hb aC PH;exact⟨u,by rw[Ag,zG,aEj];simp only[Cx,hr.Ae],hu⟩
def aI3{id o:Nat}(hs:ML h id o l)(hb:l.length<=1000000000)(node:Int):
  ∃u,Cy cx 166 [Pt id o,I node] h (I ((l.length:Int)-((Hg node l).length:Int))) (put h id o u)/\D0 (Hg node l) u:=by
 by_cases Kz:AD (Bt node) l<0;.obtain⟨u,e,hu⟩:=hs.gG;refine⟨u,?_,by rw[Hg,Af Kz];exact hu⟩;rw[Hg,Af Kz,Int.sub_self,Ag,iH,aAr];simp only[Cx,(aB hs.at hb node).Ae,Kz,A0,AU,AN];exact e
 .obtain⟨u,hr,hu⟩:=aAM hs hb PH (iY node);refine⟨u,?_,by rw[Hg,Ac Kz];exact hu⟩;rw[Hg,Ac Kz,Ag,iH,aAr];simp only[Cx,(aB hs.at hb node).Ae,Kz,A5,AU,AN,hr.Ae]
end
end
section
section
variable{h:Ai}{p v:Aa}{l:List Item}
def aNU(hv:D0 l v){k:Nat}(hk:k<l.length)(hb:l.length<=1000000000):∃u,Cy cx 200 [v,I (k:Int)] h u h/\D0 (Bx l k) u:=by obtain⟨r,j,h1⟩:=BB.TB hv (k:= .i64) (Ab:k<=l.length);obtain⟨q,i,h2⟩:=BB.gB h1 (b:=40) (yD (by rw[Ay];omega));obtain⟨m,g,d⟩:=BB.yC hv (k:= .i64) (Ab:k+1<=l.length);obtain⟨a,e,c⟩:=BB.Z6 h2 d (b:=40) (yD (by rw[Ay,AX];omega));refine⟨a,?_,c⟩;rw[Ag,be,aEV];simp only[Cx,j,i,Dw (Ab:k<9223372036854775807),g,e]
def aAN{id o:Nat}(hs:ML h id o l)(hb:l.length<=1000000000)(node:Int):∃u,Cy cx 127 [Pt id o,I node] h (.bool (decide (1<=AD (Bt node) l))) (put h id o u)/\D0 (Ce node l) u:=by
 by_cases Kz:AD (Bt node) l<1;.obtain⟨u,e,hu⟩:=hs.gG;refine⟨u,?_,by rw[Ce,Af Kz];exact hu⟩;rw[Ag,gY,t127,<-e];simp only[Cx,(aB hs.at hb node).Ae,Kz,A0,AU,AN,(Ab:¬1<=AD (Bt node) l),Ir]
 .rcases BY (q:=Bt node) (l:=l) with⟨h1,_⟩|⟨k,hk,h1,_⟩
  .rw[h1] at Kz;omega
  .obtain⟨v,hc,hv⟩:=(show ML h id o l from hs);obtain⟨u,hr,hu⟩:=aNU (h:=h) hv hk hb;refine⟨u,?_,by rw[Ce,Ac Kz,h1];exact hu⟩;rw[Ag,gY,t127];simp only[Cx,(aB hs.at hb node).Ae,hc.load,By,h1];rw[h1] at Kz;simp only[Cx,hr.Ae,By,hc.store (D0.cells hu),show¬(k:Int)<1 from Kz,A5,AU,AN,(Ab:(1:Int)<=(k:Int)),KZ]
def aNV{id o:Nat}(hs:ML h id o l)(hb:l.length<=1000000000)(a:Item)(i:Int):∃u,Cy cx 255 [Pt id o,.agg a.row,I i] h (.tuple []) (put h id o u)/\D0 (l.take (HO i l.length)++a::l.drop (HO i l.length)) u:=by
 obtain⟨v,hc,hv⟩:=(show ML h id o l from hs);obtain⟨u,hr,hu⟩:=f186 (h:=h) hv a (n:=HO i l.length) (by unfold HO;omega) hb;refine⟨u,?_,hu⟩;rw[Ag,dw,aFw];have c:(if(l.length:Int)<(if i<1 then 1 else i) then(l.length:Int) else(if i<1 then 1 else i))=((HO i l.length:Nat):Int):=by unfold HO;split<;>split<;>omega
 simp only[Cx,Lo,SS,Q8,hc.load,By,fV,BB.GN hv,zc,c,hr.Ae,hc.store (D0.cells hu)]
def aNW(hv:D0 l v)(hne:l≠[])(hb:l.length<=1000000000):Cy cx 301 [v] h (.Dn h.length 0 l.length 4) (h++[.cells (l.map Item.row).flatten]):=by
 have d:AH (.Gf false .sl) [v,.slnil]=some (.bool false):=by
  rcases hv with rfl|⟨rfl,hv⟩
  .rfl
  .exact absurd (by simpa using hv) hne
 have c:AH (.CC 4) []=some (.sl 4 []):=rfl;have a:=QD (h:=h) (s:= .sl 4 []) (z:=4) (b:=40) (.inr rfl) hv (by simpa using hne) (by rw[Aw];exact yD Ab);rw[Aw] at a;rw[Ag,fx,aFO];simp only[Cx,d,c,a]
section
variable{id o n z:Nat}{v w:Aa}{X Y:GJ}{Ax:List (List Aa)}
def At.next(ha:At h id o v):(Am.put h id o w++[X])[h.length]?=some X/\At (Am.put h id o w++[X]) id o w/\(Am.put h id o w++[X]).set h.length Y=Am.put h id o w++[Y]:=by have e:=MK (h:=h) (id:=id) (o:=o) (u:=w);refine⟨by rw[<-e];simp,ha.put.Mo,?_⟩;rw[Cc _ _ Ab,<-e,E9];rfl
def At.gm(ha:At h id o v)(hv:LW h v=some (h,v)):Lg h 0 (Pt id o)=some h:=by have a:=ha.same;obtain⟨cs,hc,e⟩:=ha;simp only[Lg,hc,By,e,hv,Cw];rw[IC hc] at a;rw[a]
def At.gp(ha:At h id o v)(hr:∀r∈Ax,r.length=z):Lg (Am.put h id o (.Dn h.length 0 Ax.length z)++[.cells Ax.flatten]) 0 (Pt id o)=some (Am.put h id o (.sl z Ax)++[.Ef]):=by obtain⟨d,c,a⟩:=ha.next (w:= .Dn h.length 0 Ax.length z) (X:= .cells Ax.flatten) (Y:= .Ef);have f1:=OB hr d;rw[a] at f1;have a2:=(ha.next (w:= .Dn h.length 0 Ax.length z) (X:= .Ef) (Y:= .Ef)).2.1;obtain⟨cs,hc,e⟩:=c;obtain⟨Tk,Mn,g⟩:=a2;simp only[Lg,hc,By,e,f1,Cw,Mn];rw[<-IC (u:= .sl z Ax) Mn,gD ha.put,gC]
end
def aNX{id o:Nat}(hs:ML h id o l)(hb:l.length<=1000000000)(node:Int)(a:Item):∃u t,Cy cx 284 [Pt id o,I node,.agg a.row] h (.bool (decide (1<=AD (Bt node) l))) (put h id o u++t)/\D0 (QI node a l) u:=by
 obtain⟨v,hc,hv⟩:=(show ML h id o l from hs);by_cases Kz:AD (Bt node) l<1;.refine⟨v,[],?_,by rw[QI,Af Kz];exact hv⟩;have c:=hc.gm (BB.VY hv);rw[Ag,iU,aAF,hc.same,Bg];simp only[Cx,Lo,(aB hs.at hb node).Ae,Kz,A0,AU,AN,c,(Ab:¬1<=AD (Bt node) l),Ir]
 .rcases BY (q:=Bt node) (l:=l) with⟨h1,_⟩|⟨k,hk,h1,_⟩
  .rw[h1] at Kz;omega
  .have d:¬(k:Int)<1:=by rw[h1] at Kz;exact Kz
   have hne:l≠[]:=by intro e;subst e;simp at hk
   have hcl:=aNW (h:=h) hv hne hb;have j:=(hc.Mo (t:=[GJ.cells (l.map Item.row).flatten])).store (u:= .Dn h.length 0 l.length 4) rfl;rw[gD hc] at j;obtain⟨s,x,r⟩:=hc.next (w:= .Dn h.length 0 l.length 4) (X:= .cells (l.map Item.row).flatten) (Y:= .cells ((l.map Item.row).set k a.row).flatten);have g:=VI (z:=4) (aIw l) s (i:=k) (by simpa using hk) (q:=a.row) rfl;rw[r] at g;have m:AH (.GY 4) [.Dn h.length 0 l.length 4,I (k:Int)]=some (Pt h.length (k*4)):=Jq hk;have c:=hc.gp (nK (aIw l) (i:=k) (q:=a.row) rfl);rw[Ch,Aw] at c;refine⟨.sl 4 ((l.map Item.row).set k a.row),[.Ef],?_,?_⟩;.rw[Ag,iU,aAF];simp only[Cx,Lo,(aB hs.at hb node).Ae,h1,d,A5,AU,AN,hc.load,By,hcl.Ae,j,x.load,m,g,c,(Ab:(1:Int)<=(k:Int)),KZ]
   .rw[QI,Ac Kz,h1,BF,D0,JJ];exact .mk
end
end
section
section
variable{h:Ai}{p v w:Aa}{l:List Item}{ws:List Ah}
end
end
section
section
variable{e:DG}{d:Aa}
end
section
variable{h:Ai}{v:Aa}{l:List DG}{id o:Nat}
def f99(hc:At h id o v)(hv:Ff l v)(hb:l.length<=1000000000):Cy cx 172 [Pt id o] h (I (since l)) h:=by
 have hv:BB 3 (l.map DG.row) v:=hv;rw[Ag,ah,aEF];simp only[Cx,hc.load,By,hv.GN];refine Co (λn:Nat=>[I (n:Int)]) (λn h1=>n<=l.length/\since l=since (l.take n)/\h1=h) (λn=>n) l.length rfl ⟨Ad _,by rw[Bk],rfl⟩ ?_;rintro n h1 ⟨hn,ha,rfl⟩;cases n with
 |zero=>simp only[Cx,(Ab:¬(0:Int)<((0:Nat):Int)),A5,AU,AN,ha,oz];rfl
 |succ n=>rw[tF hn] at ha;simp only[Cx,(Ab:(0:Int)<((n+1:Nat):Int)),A0,AU,AN,hc.load,By,N8 (Ab:0<n+1) (Ab:n+1<9223372036854775807),MD,hv.DN (show n<l.length from hn),DG.at0];refine⟨λh0=>BC.next n rfl ⟨Ab,by rw[ha,Ac h0],rfl⟩ Ab,λh0=>?_⟩;rw[Af (by simpa using h0)] at ha;rw[ha];rfl
def aI4(hc:At h id o v)(hv:Ff l v)(hb:l.length<=1000000000)(name:Ah):Cy cx 212 [Pt id o,.str name] h (I (RY name l)) h:=by
 have hv:BB 3 (l.map DG.row) v:=hv;rw[Ag,bu,aE5];simp only[Cx,Iq,hc.load,By,hv.GN,Ek (Ab: -9223372036854775808<=(l.length:Int)-1) (Ab:(l.length:Int)-1<9223372036854775808)];refine Co (λn:Nat=>[I 0,I ((n:Int)-1)]) (λn h1=>n<=l.length/\RY name l=RY name (l.take n)/\h1=h) (λn=>n) l.length rfl ⟨Ad _,by rw[Bk],rfl⟩ ?_;rintro n h1 ⟨hn,ha,rfl⟩;cases n with
 |zero=>have i1:¬(0:Int)<=((0:Nat):Int)-1:=Ab;rw[ha];simp only[Cx,i1,A5,AU,AN,o_]
 |succ n=>
  have a:((n+1:Nat):Int)-1=(n:Int):=Ab;rw[tG hn] at ha;simp only[Cx,a,(Ab:(0:Int)<=(n:Int)),A0,AU,AN,hc.load,By,hv.DN (show n<l.length from hn),DG.at0,DG.zj,Ek (Ab: -9223372036854775808<=(n:Int)-1) (Ab:(n:Int)-1<9223372036854775808)];refine⟨λh0=>⟨λh1=>?_,λh1=>?_⟩,λh0=>?_⟩;.rw[ha,Ac h0,Af h1]
  .exact BC.next n rfl ⟨Ab,by rw[ha,Ac h0,Ac h1],rfl⟩ Ab
  .rw[ha,Af (by simpa using h0)]
def f41(hc:At h id o v)(hv:Ff l v)(hb:l.length<=1000000000)(node:Int):Cy cx 215 [Pt id o,I node] h (I (Lp node l)) h:=by
 have hv:BB 3 (l.map DG.row) v:=hv;rw[Ag,bx,aE7];simp only[Cx,Iq,hc.load,By,hv.GN,Ek (Ab: -9223372036854775808<=(l.length:Int)-1) (Ab:(l.length:Int)-1<9223372036854775808)];refine⟨λh0=>by rw[Lp,Af h0],λh0=>?_⟩;rw[Lp,Ac h0];refine Co (λn:Nat=>[I 0,I ((n:Int)-1)]) (λn h1=>n<=l.length/\AD (UJ node) l=AD (UJ node) (l.take n)/\h1=h) (λn=>n) l.length rfl ⟨Ad _,by rw[Bk],rfl⟩ ?_;rintro n h1 ⟨hn,ha,rfl⟩;cases n with
 |zero=>have i1:¬(0:Int)<=((0:Nat):Int)-1:=Ab;rw[ha];simp only[Cx,i1,A5,AU,AN,L3]
 |succ n=>
  have a:((n+1:Nat):Int)-1=(n:Int):=Ab;rw[Pr hn] at ha;simp only[Cx,a,(Ab:(0:Int)<=(n:Int)),A0,AU,AN,hc.load,By,hv.DN (show n<l.length from hn),DG.at0,Ek (Ab: -9223372036854775808<=(n:Int)-1) (Ab:(n:Int)-1<9223372036854775808)];refine⟨λh1=>?_,λh1=>?_⟩;.rw[ha,Af (by simpa[UJ] using h1)]
  .exact BC.next n rfl ⟨Ab,by rw[ha,Ac (by simpa[UJ] using h1)],rfl⟩ Ab
end
section
variable{h:Ai}{v:Aa}{l:List Be}
def f259(hv:Bw l v)(hb:l.length<=1000000000)(x:Be):Cy cx 316 [v,.agg x.row] h (I (Cr (λa=>decide (x=a)) 0 l)) h:=by
 have hv:BB 3 (l.map Be.row) v:=hv;rw[Ag,gj,aFS];simp only[Cx,hv.GN,Be.EL,Be.g0,Be.g1,Be.g2,Be.Wj];refine Co (λn:Nat=>[I 0,I (n:Int)]) (λn h1=>n<=l.length/\Cr (λa=>decide (x=a)) 0 l=Cr (λa=>decide (x=a)) n (l.drop n)/\h1=h) (λn=>l.length-n) 0 rfl ⟨Bp _,rfl,rfl⟩ ?_;rintro n h1 ⟨hn,ha,rfl⟩;rcases Bl n l.length with hlt|IS
 .have i1:(n:Int)<(l.length:Int):=by omega
  rw[Az hlt,Cr] at ha;simp only[Cx,i1,A0,AU,AN,hv.DN hlt,Be.EL,Be.OF,Ad,zl,Bool.bne_false,Dw (Ab:n<9223372036854775807)];refine⟨λh0=>?_,λh0=>?_⟩;.rw[ha,Af (by simpa using h0)]
  .exact BC.next (n+1) rfl ⟨hlt,by rw[ha,Ac (by simpa using h0)],rfl⟩ Ab
 .have i1:¬(n:Int)<(l.length:Int):=by omega
  rw[AR IS,Cr] at ha;simp only[Cx,i1,A5,AU,AN,ha]
def aNY(hv:Bw l v)(hb:l.length<=1000000000)(x:Be):Cy cx 300 [v,.agg x.row] h (.bool (decide (x∈l))) h:=by
 rw[Ag,fw,aFN];simp only[Cx,Be.EL,Be.g0,Be.g1,Be.g2,Be.Wj,(f259 hv hb x).Ae];rcases He (p:=λa=>decide (x=a)) (l:=l) (k:=0) with⟨h1,h2⟩|⟨n,a,h1,h2,h3⟩
 .rw[h1];have:x∉l:=λhm=>by have:=MC.1 h2 x hm;simp at this
  simp[this]
 .have hm:=CH h2;have he:x=a:=by simpa using VW h3
  have hx:x∈l:=by rw[he];exact hm
  rw[h1];simp[hx]
def oI(F:Aa)(h:Ai)(q:Be->Bool):Prop:=∃f caps,F= .func (.func f) [] caps/\f<=99999/\∀a:Be,Cy cx f (.agg a.row::caps) h (.bool (q a)) h
def aI5{F:Aa}{q:Be->Bool}(hv:Bw l v)(hb:l.length<=1000000000)(hF:oI F h q):Cy cx 279 [v,F] h (I (Cr q 0 l)) h:=by
 have hv:BB 3 (l.map Be.row) v:=hv;obtain⟨f,caps,rfl,hf,hr⟩:=hF;rw[Ag,WU,Ð];simp only[Cx,hv.GN];refine Co (λn:Nat=>[I 0,I (n:Int)]) (λn h1=>n<=l.length/\Cr q 0 l=Cr q n (l.drop n)/\h1=h) (λn=>l.length-n) 0 rfl ⟨Bp _,rfl,rfl⟩ ?_;rintro n h1 ⟨a,ha,rfl⟩;rcases Bl n l.length with hlt|IS
 .have i1:(n:Int)<(l.length:Int):=by omega
  rw[Az hlt,Cr] at ha;simp only[Cx,↓reduceIte,CN,hf,i1,A0,AU,AN,hv.DN hlt,Be.EL,Be.OF,Ad,(hr l[n]).Ae];rw[DC];refine⟨λhe=>?_,λhe=>?_⟩;.rw[ha,Af he]
  .rw[Ac (by simp[he])] at ha;simp only[Cx,Dw (Ab:n<9223372036854775807)];exact BC.next (n+1) rfl ⟨hlt,ha,rfl⟩ Ab
 .have i1:¬(n:Int)<(l.length:Int):=by omega
  rw[AR IS,Cr] at ha;simp only[Cx,↓reduceIte,CN,hf,i1,A5,AU,AN,ha]
def aI6{F:Aa}{q:Be->Bool}(hv:Bw l v)(hb:l.length<=1000000000)(hF:oI F h q):Cy cx 247 [v,F] h (.bool (l.any q)) h:=by
 rw[Ag,iT,aAD];simp only[Cx,(aI5 hv hb hF).Ae];have:l.any q=(l.find? q).isSome:=by rw[Mq,aRS,Od]
 rw[this];rcases He (p:=q) (l:=l) (k:=0) with⟨h1,h2⟩|⟨n,a,h1,h2,h3⟩
 .rw[h1,h2];simp
 .rw[h1,h3];simp
def aNZ(hv:Bw l v)(hb:l.length<=1000000000)(x:Be):Cy cx 299 [.agg x.row,.B9 [v]] h (.bool (!decide (x∈l))) h:=by rw[Ag,fq,aFM];simp only[Cx,Be.EL,Be.g0,Be.g1,Be.g2,Be.Wj,(aNY hv hb x).Ae]
def aI7{l2:List Be}{w:Aa}(hv:Bw l v)(hb:l.length<=1000000000)(hw:Bw l2 w)(Qb:l2.length<=1000000000):Cy cx 298 [v,w] h (.bool (decide (∀x∈l,x∈l2))) h:=by
 have hF:oI (.func (.func 299) [] [.B9 [w]]) h λx=> !decide (x∈l2):=⟨299,_,rfl,AA,λa=>aNZ hw Qb a⟩;have e:(!l.any λx=> !decide (x∈l2))=decide (∀x∈l,x∈l2):=by rw[Mq];simp
 rw[Ag,fk,aFL,<-e];simp only[Cx,BB.cells hw,(aI6 hv hb hF).Ae]
def aN0{a b:DG}(ha:uq a)(hb:uq b):Cy cx 281 [.agg a.row,.agg b.row] h (.bool (Mv a.c b.c)) h:=by
 have f:=aI7 (h:=h) a.ok ha b.ok hb;have r2:=aI7 (h:=h) b.ok hb a.ok ha;rw[Ag,e_,aFG];simp only[Cx,Nat.reduceLeDiff,↓reduceIte,CN,Bg,DG.EL,DG.g1,DG.g2,DG.aM4,f.Ae,r2.Ae];refine⟨λh1=>⟨λh2=>⟨λh3=>?_,λh3=>?_⟩,λh2=>?_⟩,λh1=>?_⟩
 .have lF:a.c.As.length=b.c.As.length:=by omega
  simp only[Mv,h1,lF,OX];congr 3
  rw[eq_iff_iff];exact⟨λh=>⟨h3,h⟩,λh=>h.2⟩
 .simp[Mv,h3]
 .have lF:¬a.c.As.length=b.c.As.length:=by omega
  simp[Mv,lF]
 .simp[Mv,h1]
end
end
section
def DI{Q:Lj}{h:Ai}{a:Aa}{k:IT}:W cx (.same a a k) Q h↔W cx k Q h:=by refine⟨λhw=>?_,vu (Aa.TD a)⟩;obtain⟨m,x',Ih,h',hr,q⟩:=hw.succ;simp only[IT.step,Aa.TD,BN] at hr;exact C0 ⟨m,x',Ih,h',hr,q⟩
section
variable{h:Ai}{v:Aa}{l:List DG}{id o:Nat}
def f45{l:List Be}(hv:Bw l v)(hb:l.length<=1000000000):∃u,Cy cx 35 [v] h u h/\Bw l u:=by
 have hv:BB 3 (l.map Be.row) v:=hv;rcases hv with rfl|⟨rfl,hn⟩
 .refine⟨.sl 3 (l.map Be.row),?_,.mk⟩;have b:AH (.Gf false .sl) [.sl 3 (l.map Be.row),.slnil]=some (.bool false):=rfl;have f:AH (.CC 3) []=some (.sl 3 []):=rfl;have c:RO h 3 40 (.sl 3 []) (.sl 3 (l.map Be.row))=some (.sl 3 (l.map Be.row)):=by
   simp only[RO,H0,BN,Cw];cases l with
   |nil=>rfl
   |cons a l=>have:(l.length+1)*40<=AV:=yD (by simp at hb;omega);simp[DZ,this]
  rw[Ag,uA,t35];simp only[Cx,b,f,c]
 .refine⟨.slnil,?_,?_⟩;.have b:AH (.Gf false .sl) [.slnil,.slnil]=some (.bool true):=rfl;rw[Ag,uA,t35];simp only[Cx,b]
  .exact .inr ⟨rfl,hn⟩
def Ú{e:DG}(he:uq e):∃a:DG,a.c=e.c/\Cy cx 282 [.agg e.row] h (.agg a.row) h:=by obtain⟨u,r,hu⟩:=f45 (h:=h) e.ok he;refine⟨⟨e.c,u,hu⟩,rfl,?_⟩;rw[Ag,fc,aFH];simp only[Cx,DG.EL,DG.g0,DG.g1,DG.g2,r.Ae,BB.cells hu];rfl
def aI8(hv:Ff l v){k:Nat}(hk:k<l.length)(hb:l.length<=1000000000):∃u,Cy cx 250 [v,I (k:Int)] h u h/\Ff (Bx l k) u:=by obtain⟨r,m,h1⟩:=BB.TB hv (k:= .i64) (Ab:k<=l.length);obtain⟨q,j,h2⟩:=BB.gB h1 (b:=48) (cN (by rw[Ay];omega));obtain⟨p,i,f⟩:=BB.yC hv (k:= .i64) (Ab:k+1<=l.length);obtain⟨a,g,c⟩:=BB.Z6 h2 f (b:=48) (cN (by rw[Ay,AX];omega));refine⟨a,?_,c⟩;rw[Ag,dk,aFr];simp only[Cx,m,j,Dw (Ab:k<9223372036854775807),i,g]
def Û(hv:Ff l v)(e:DG){k:Nat}(hk:k<=l.length)(hb:l.length<=1000000000):∃u,Cy cx 123 [v,.agg e.row,I (k:Int)] h u h/\Ff (l.take k++e::l.drop k) u:=by obtain⟨x,r,h1⟩:=BB.TB hv (k:= .i64) hk;obtain⟨w,q,h2⟩:=BB.gB h1 (b:=48) (cN (by rw[Ay];omega));have p:=BB.nO (a:=e) h2 (b:=48) (cN (by rw[Ay];omega));obtain⟨t,m,i⟩:=BB.yC hv (k:= .i64) hk;obtain⟨g,j,c⟩:=BB.Z6 (f:=DG.row) (l:=l.take k++[e]) .mk i (b:=48) (cN (by rw[Ao,Ay,AX,AS];omega));refine⟨g,?_,by rw[A6] at c;exact c⟩;rw[Ag,zE,aEh];simp only[Cx,DG.EL,DG.g0,DG.g1,DG.g2,DG.Wj,r,q,pc DG.EL,p,m,j]
def aFW(hv:Ff l v)(hne:l≠[])(hb:l.length<=1000000000):Cy cx 152 [v] h (.Dn h.length 0 l.length 3) (h++[.cells (l.map DG.row).flatten]):=by
 have f:AH (.Gf false .sl) [v,.slnil]=some (.bool false):=by
  rcases hv with rfl|⟨rfl,hv⟩
  .rfl
  .exact absurd (by simpa using hv) hne
 have c:AH (.CC 3) []=some (.sl 3 []):=rfl;have a:=QD (h:=h) (s:= .sl 3 []) (z:=3) (b:=48) (.inr rfl) hv (by simpa using hne) (by rw[Aw];exact cN Ab);rw[Aw] at a;rw[Ag,WR,Í];simp only[Cx,f,c,a]
def f63(hs:UK h id o l)(hb:l.length<=1000000000):∃u,Cy cx 77 [Pt id o] h (.tuple []) (put h id o u)/\Ff (l++[gJ]) u:=by obtain⟨v,hc,hv⟩:=(show UK h id o l from hs);obtain⟨u,hr,hu⟩:=Û (h:=h) hv gJ (Ad l.length) hb;rw[Bk,Ft] at hu;refine⟨u,?_,hu⟩;rw[Ag,Z_,t77];simp only[Cx,↓reduceIte,Cl,SS,Q8,hc.load,By,BB.GN hv,zm,hr.Ae,hc.store (Ff.cells hu)]
def aN1(hs:UK h id o l)(hb:l.length<=1000000000){e:DG}(he:uq e)(i:Int):∃u a,a.c=e.c/\Cy cx 254 [Pt id o,.agg e.row,I i] h (.tuple []) (put h id o u)/\Ff (l.take (Hh i l.length)++a::l.drop (Hh i l.length)) u:=by
 obtain⟨v,hc,hv⟩:=(show UK h id o l from hs);obtain⟨a,mV,b⟩:=Ú (h:=h) he;obtain⟨u,hr,hu⟩:=Û (h:=h) hv a (k:=Hh i l.length) (by unfold Hh;omega) hb;refine⟨u,a,mV,?_,hu⟩;have f:(if(l.length:Int)<(if i<0 then 0 else i) then(l.length:Int) else(if i<0 then 0 else i))=((Hh i l.length:Nat):Int):=by unfold Hh;split<;>split<;>omega
 rw[Ag,dv,aFv];simp only[Cx,DG.EL,DG.g0,DG.g1,DG.g2,DG.Wj,SS,Q8,hc.load,By,fV,BB.GN hv,zc,f,b.Ae,DI,hr.Ae,hc.store (Ff.cells hu)]
def f65(hs:UK h id o l)(hb:l.length<=1000000000):∃u,Cy cx 90 [Pt id o] h (I ((l.length:Int)-((Im l:Nat):Int))) (put h id o u)/\Ff (l.take (Im l)) u:=by
 obtain⟨v,hc,hv⟩:=(show UK h id o l from hs);obtain⟨s,es,Kw,_⟩:=Ss l;have hcl:Im l<=l.length:=by unfold Im;omega
 obtain⟨u,b,hu⟩:=BB.TB hv (k:= .i64) hcl;refine⟨u,?_,hu⟩;have a:(if since l-1<0 then 0 else since l-1)=((Im l:Nat):Int):=by unfold Im;split<;>omega
 have xA:(l.take (Im l)).length=Im l:=by rw[Ay];omega
 have c:At (put h id o u) id o u:=hc.put;rw[Ag,É,t90];simp only[Cx,Iq,hc.load,By,BB.GN hv,(f99 hc hv hb).Ae,DI,Ek (Ab: -9223372036854775808<=since l-1) (Ab:since l-1<9223372036854775808),fV,a,b,hc.store (BB.cells hu),c.load,BB.GN hu,xA,Ek (Ab: -9223372036854775808<=(l.length:Int)-((Im l:Nat):Int)) (Ab:(l.length:Int)-((Im l:Nat):Int)<9223372036854775808)]
end
end
section
section
variable{e:Ck}{l:List DG}{n s:Nat}
end
section
variable{h:Ai}{v:Aa}{l:List DG}{id o:Nat}
set_option maxHeartbeats 1000000 in
def f30(hs:UK h id o l)(hb:l.length<=900000000)(hl:∀x∈l,uq x){e:DG}(he:uq e):∃u a,a.c=e.c/\Cy cx 246 [Pt id o,.agg e.row] h (.tuple []) (put h id o u)/\Ff (Sv e.c l++[a]) u:=by
 obtain⟨v,hc,hv⟩:=(show UK h id o l from hs);have K5:BB 3 (l.map DG.row) v:=hv;have Jk:=hs.lt;obtain⟨s,es,Kw,iZ,_⟩:=Ss l;have Qa:Ev cx 246 [Pt id o,.agg e.row] h λr h'=>r= .tuple []/\∃(a:DG) (u:Aa),a.c=e.c/\h'=put h id o u/\Ff (Sv e.c l++[a]) u:=by
  unfold Ev;rw[dh,aFo];by_cases h0:e.c.node=0;.obtain⟨a,mV,b⟩:=Ú (h:=h) he;obtain⟨u,r2,hu⟩:=Û (h:=h) hv a (Ad l.length) Ab;rw[Bk,Ft] at hu;simp only[Cx,DG.EL,DG.g0,DG.g1,DG.g2,Iq,h0,CY,A0,AN,AU,A5,hc.load,By,K5.GN];rw[<-h0,DG.Wj];simp only[Cx,b.Ae,DI,hc.load,By,r2.Ae,hc.store (Ff.cells hu)];refine⟨_,rfl,rfl,a,u,mV,rfl,?_⟩;rw[Sv,Ac (λh=>h.1 h0)];exact hu
  .simp only[Cx,DG.EL,DG.g0,DG.g1,DG.g2,DG.Wj,Iq,h0,CY,A0,AN,AU,A5,hc.load,By,K5.GN,Ek (Ab: -9223372036854775808<=(l.length:Int)-1) (Ab:(l.length:Int)-1<9223372036854775808)];refine Co (λp:Int×Nat×Nat=>[I p.1,I (p.2.1:Int),I ((p.2.2:Int)-1)])
    (λp h1=>s<=p.2.2/\p.2.2<=l.length/\p.2.1+p.2.2<=l.length/\Z8 e.c l=p.2.1+Z8 e.c (l.take p.2.2)/\(Su e.c l=if 0<=Su e.c (l.take p.2.2) then Su e.c (l.take p.2.2) else if p.2.1=0 then -1 else p.1)/\(p.2.1=0\/∃k:Nat,k<l.length/\p.1=(k:Int))/\h1=h)
    (λp=>p.2.2) (0,0,l.length) rfl ⟨Kw,Ad _,AB,AB,by
     rw[Bk];have:∀l:List DG,-1<=tH e.c l:=by
      intro l;induction l with
      |nil=>exact OZ _
      |cons x t ih=>rw[tH];split<;>(try split)<;>(try split)<;>omega
     have:=this l.reverse;simp only[BN];unfold Su;split<;>omega,.inl rfl,rfl⟩ ?_
   rintro⟨A,f,n⟩ h1 ⟨a1,a2,a3,a4,a5,a6,rfl⟩;simp only at a1 a2 a3 a4 a5 a6;have j:=f99 hc hv Ab;rw[es] at j;rcases Bl s n with hlt|IS
   .obtain⟨n,rfl⟩:∃m,n=m+1:=⟨n-1,Ab⟩;have z:((n+1:Nat):Int)-1=(n:Int):=Ab;have hn:n<l.length:=a2;have g:=iZ n hn Ab;rw[cO hn,Ac g] at a4;rw[cP hn,Ac g] at a5;have b:=aN0 (h:=h1) (hl _ (AF hn)) he;simp only[Cx,z,j.Ae,(Ab:(s:Int)<=(n:Int)),A0,AN,AU,hc.load,By,K5.DN hn,DG.EL,DG.OF,Ad,b.Ae,Dw (Ab:f<9223372036854775807),Ek (Ab: -9223372036854775808<=(n:Int)-1) (Ab:(n:Int)-1<9223372036854775808)];rw[DC];refine⟨λh2=>?_,λh2=>?_⟩
    .rw[Af h2] at a4 a5;refine BC.next ((n:Int),f+1,n) rfl ⟨HC,HC,HC,HC,?_,.inr ⟨n,hn,rfl⟩,rfl⟩ HC;simp only
     rw[a5];by_cases hf:0<=Su e.c (l.take n);.simp[hf]
     .simp[hf,(Ab:(0:Int)<=(n:Int))]
    .rw[Ac (by simp[h2])] at a4;rw[Ac (show¬Mv l[n].c e.c=true by simp[h2])] at a5;refine BC.next (A,f,n) rfl ⟨HC,HC,HC,HC,?_,a6,rfl⟩ HC;simp only
     rw[a5];by_cases hf:0<=Su e.c (l.take n);.simp[hf]
     .simp[hf]
   .obtain rfl:n=s:=by omega
    obtain⟨b1,b2⟩:=tI (e:=e.c) es;rw[b1,By] at a4;rw[b2,Ac AA] at a5;simp only[Cx,j.Ae,(Ab:¬(n:Int)<=(n:Int)-1),AN,AU,A5];by_cases h3:3<=f
    .rcases a6 with a6|⟨k,hk,rfl⟩
     .omega
     rw[Ac Ab] at a5;obtain⟨i,b,eX⟩:=aI8 (h:=h1) hv hk Ab;have Um:(Bx l k).length<=l.length:=by unfold Bx;rw[Ao,Ay,AX];omega
     have q:At (put h1 id o i) id o i:=hc.put;obtain⟨a,mV,r2⟩:=Ú (h:=put h1 id o i) he;obtain⟨w,y,Tt⟩:=Û (h:=put h1 id o i) eX a (Ad (Bx l k).length) Ab;rw[Bk,Ft] at Tt;simp only[Cx,(Ab:(3:Int)<=(f:Int)),A0,AN,AU,hc.load,By,b.Ae,hc.store (Ff.cells eX),q.load,BB.GN eX,r2.Ae,DI,y.Ae,q.store (Ff.cells Tt),gC];refine⟨_,rfl,rfl,a,w,mV,rfl,?_⟩;rw[Sv,Af ⟨h0,Ab⟩,a5,BF];exact Tt
    .obtain⟨a,mV,b⟩:=Ú (h:=h1) he;obtain⟨u,r2,hu⟩:=Û (h:=h1) hv a (Ad l.length) Ab;rw[Bk,Ft] at hu;simp only[Cx,(Ab:¬(3:Int)<=(f:Int)),AN,AU,A5,hc.load,By,K5.GN,b.Ae,DI,r2.Ae,hc.store (Ff.cells hu)];refine⟨_,rfl,rfl,a,u,mV,rfl,?_⟩;rw[Sv,Ac Ab];exact hu
 obtain⟨r,h',hr,rfl,a,u,mV,rfl,hu⟩:=Qa.ret;exact⟨u,a,mV,hr,hu⟩
end
end
section
section
variable{h:Ai}{v:Aa}{l:List DG}{id o:Nat}
def aN2(hs:UK h id o l)(hb:l.length<=900000000)(node:Int){e:DG}(he:uq e):∃u t a,a.c=e.c/\Cy cx 285 [Pt id o,I node,.agg e.row] h (.bool (decide (0<=Lp node l))) (put h id o u++t)/\Ff (if Lp node l<0 then l else l.set (Lp node l).toNat a) u:=by
 obtain⟨v,hc,hv⟩:=(show UK h id o l from hs);rcases nS node l with h1|⟨k,hk,h1⟩
 .refine⟨v,[],e,rfl,?_,by rw[h1];exact hv⟩;have b:=hc.gm (BB.VY hv);rw[Ag,iV,aAG,hc.same,Bg];simp only[Cx,DG.EL,(f41 hc hv Ab node).Ae,h1,(AA:(-1:Int)<0),A0,AU,AN,b];rfl
 .have hne:l≠[]:=by intro e;subst e;simp at hk
  have hcl:=aFW (h:=h) hv hne Ab;have g:=(hc.Mo (t:=[GJ.cells (l.map DG.row).flatten])).store (u:= .Dn h.length 0 l.length 3) rfl;rw[gD hc] at g;obtain⟨a,mV,j⟩:=Ú (h:=put h id o (.Dn h.length 0 l.length 3)++[GJ.cells (l.map DG.row).flatten]) he;obtain⟨r,x,p⟩:=hc.next (w:= .Dn h.length 0 l.length 3) (X:= .cells (l.map DG.row).flatten) (Y:= .cells ((l.map DG.row).set k a.row).flatten);have f:=VI (z:=3) (gI l) r (i:=k) (by simpa using hk) (q:=a.row) rfl;rw[p] at f;have m:AH (.GY 3) [.Dn h.length 0 l.length 3,I (k:Int)]=some (Pt h.length (k*3)):=Jq hk;have b:=hc.gp (nK (gI l) (i:=k) (q:=a.row) rfl);rw[Ch,Aw] at b;refine⟨.sl 3 ((l.map DG.row).set k a.row),[.Ef],a,mV,?_,?_⟩;.rw[Ag,iV,aAG];simp only[Cx,DG.EL,DG.g0,DG.g1,DG.g2,DG.Wj,(f41 hc hv Ab node).Ae,h1,(Ab:¬(k:Int)<0),A5,AU,AN,hc.load,By,hcl.Ae,g,x.load,j.Ae,DI,m,f,b,(Ab:(0:Int)<=(k:Int)),KZ]
  .rw[h1,Ac Ab,BF,<-JJ];exact .mk
end
end
def Wp:List Be->Aa
 |[]=> .slnil
 |x::l=> .sl 3 ((x::l).map Be.row)
def WY{l:List Be}:Bw l (Wp l):=by cases l;exact .inr ⟨rfl,rfl⟩;exact .inl rfl
def qe{l:List Be}{x:Be}:Wp (l++[x])= .sl 3 ((l++[x]).map Be.row):=by cases l<;>rfl
structure PN where
 x:HP
 kv:Aa
 av:Aa
 ok:av=Wp x.As
def PN.row(p:PN):List Aa:=[I p.x.kind,I p.x.GR,p.kv,I p.x.BM,I p.x.A9,.str p.x.name,p.av,.str p.x.data,.str p.x.KB,.str p.x.sys,.bool p.x.DW,I p.x.cont,I p.x.Fm]
def PN.EL{p:PN}:p.row.length=13:=rfl
def PN.zero:PN:=⟨{},.slnil,.slnil,rfl⟩
def pN(ps:List PN)(x:Int):PN:=ps.getD (x.toNat-1) PN.zero
def Dj(n:Int):List Aa:=[I n]
def IH(l:List Int)(v:Aa):Prop:=BB 1 (l.map Dj) v
def KO(h:Ai)(kv:Aa)(l:List Int):Prop:=(kv= .slnil/\l=[])\/∃id cs,kv= .Dn id 0 l.length 1/\h[id]?=some (.cells (l.map (Aa.int .i64)++cs))
def H9:Aa->Option Nat
 | .Dn id _ _ _=>some id
 |_=>none
def YS(h:Ai)(m:Option Nat)(f:Int->Int):Prop:=(m=none/\∀k,f k=0)\/∃(id:Nat) (l:List (Int×Int)),m=some id/\h[id]?=some (.map (l.map λx:Int×Int=>(I x.1,I x.2)))/\∀k,(l.find? λx=>decide (k=x.1)).map (·.2)=if f k=0 then none else some (f k)
def Gb(a n:Nat)(m:Option Nat)(ps:List PN):List Nat:=a::n::(m.toList++ps.filterMap λp=>H9 p.kv)
structure PA(h:Ai)(a n:Nat)(m:Option Nat)(ps:List PN)(A:Ar):Prop where
 e:A.n=ps.map PN.x
 il:A.i.length=A.n.length
 ha:h[a]?=some (.cells [.Dn n 0 ps.length 13,.map m])
 hn:h[n]?=some (.cells (ps.map PN.row).flatten)
 ks:∀p∈ps,KO h p.kv p.x.Bm
 nd:(Gb a n m ps).Nodup
 mp:YS h m A.inr
structure Fo(h:Ai)(F:Nat->Prop)(h':Ai)(F':Nat->Prop):Prop where
 len:h.length<=h'.length
 old:∀i,i<h.length->¬F i->h'[i]?=h[i]?
 BT:∀i,F' i->F i\/h.length<=i
section
variable{h h' h'' t:Ai}{F F' F'':Nat->Prop}
def Fo.refl:Fo h F h F:=⟨Ad _,λ_ _ _=>rfl,λ_ h=> .inl h⟩
def Fo.trans(x:Fo h F h' F')(y:Fo h' F' h'' F''):Fo h F h'' F'':=
 ⟨Bv x.len y.len,λi hi hF=>by
  rw[y.old i (JI hi x.len) (λh=>by rcases x.BT i h with h|h;exact hF h;omega)];exact x.old i hi hF,λi hi=>by
  rcases y.BT i hi with h|h
  .exact x.BT i h
  .exact .inr (Bv x.len h)⟩
def Fo.Mo:Fo h F (h++t) F:=⟨AB,λi hi _=>Al hi,λ_ h=> .inl h⟩
end
def PW(h:Ai)(F:Nat->Prop)(a:Nat)(A:Ar):Prop:=∃n m ps,PA h a n m ps A/\∀i,F i↔i∈Gb a n m ps
section
variable{h h':Ai}{a n:Nat}{m:Option Nat}{ps:List PN}{A:Ar}{x:Int}{F:Nat->Prop}
def KO.FM{kv:Aa}{l:List Int}(hk:KO h kv l)(hf:∀id,H9 kv=some id->h'[id]?=h[id]?):KO h' kv l:=by
 rcases hk with⟨rfl,rfl⟩|⟨id,cs,rfl,hc⟩
 .exact .inl ⟨rfl,rfl⟩
 .exact .inr ⟨id,cs,rfl,by rw[hf id rfl];exact hc⟩
def YS.FM{f:Int->Int}(hk:YS h m f)(hf:∀id,m=some id->h'[id]?=h[id]?):YS h' m f:=by
 rcases hk with h1|⟨id,l,rfl,hc,h2⟩
 .exact .inl h1
 .exact .inr ⟨id,l,rfl,by rw[hf id rfl];exact hc,h2⟩
def L8{p:PN}{id:Nat}(hp:p∈ps)(hk:H9 p.kv=some id):id∈Gb a n m ps:=by unfold Gb;simp only[AE,An];exact .inr (.inr (.inr (Cq.2 ⟨p,hp,hk⟩)))
def PA.FM(w:PA h a n m ps A)(hf:∀i∈Gb a n m ps,h'[i]?=h[i]?):PA h' a n m ps A:=
 ⟨w.e,w.il,by rw[hf a (by simp[Gb])];exact w.ha,by rw[hf n (by simp[Gb])];exact w.hn,λp hp=>(w.ks p hp).FM λid hk=>hf id (L8 hp hk),w.nd,w.mp.FM λid hm=>hf id (by simp[Gb,hm])⟩
def PA.lt(w:PA h a n m ps A):∀i∈Gb a n m ps,i<h.length:=by
 intro i hi;unfold Gb at hi;simp only[AE,An,Cq] at hi;rcases hi with rfl|rfl|hi|⟨p,hp,hk⟩
 .exact(Aj.1 w.ha).1
 .exact(Aj.1 w.hn).1
 .rcases w.mp with⟨rfl,_⟩|⟨id,l,rfl,hc,_⟩
  .simp at hi
  .simp at hi;subst hi;exact(Aj.1 hc).1
 .rcases w.ks p hp with⟨e,_⟩|⟨id,cs,e,hc⟩
  .rw[e] at hk;cases hk
  .rw[e] at hk;cases hk;exact(Aj.1 hc).1
def PW.FM(w:PW h F a A)(hf:∀i,F i->h'[i]?=h[i]?):PW h' F a A:=by obtain⟨n,m,ps,w,e⟩:=w;exact⟨n,m,ps,w.FM λi hi=>hf i ((e i).2 hi),e⟩
def PW.lt(w:PW h F a A){i:Nat}(hi:F i):i<h.length:=by obtain⟨n,m,ps,w,e⟩:=w;exact w.lt i ((e i).1 hi)
def PA.Ü(w:PA h a n m ps A):A.n.length=ps.length:=by rw[w.e,Aw]
def PA.at(w:PA h a n m ps A)(hx:A.has x):x.toNat-1<ps.length/\((x.toNat-1:Nat):Int)=x-1:=by have:=w.Ü;unfold Ar.has at hx;omega
def PA.pn(w:PA h a n m ps A)(hx:A.has x):ps[x.toNat-1]?=some (pN ps x)/\(pN ps x).x=A.nd x/\pN ps x∈ps:=by
 have h1:=(w.at hx).1;have h2:ps[x.toNat-1]?=some ps[x.toNat-1]:=Av h1;have h3:pN ps x=ps[x.toNat-1]:=by unfold pN;rw[AJ,h2];rfl
 refine⟨by rw[h3];exact h2,?_,by rw[h3];exact AF _⟩;unfold Ar.nd;rw[Af hx,w.e,h3,AJ,Dm,h2];rfl
def YT{Ax:List (List Aa)}{z i k:Nat}(hr:∀r∈Ax,r.length=z)(hk:k<z){r:List Aa}(hi:Ax[i]?=some r):Ax.flatten[i*z+k]?=r[k]?:=by
 have h1:(Ax.flatten.drop (i*z))[k]?=r[k]?:=by rw[Jp hr];obtain⟨hlt,e⟩:=Aj.1 hi;rw[Az hlt,e,CO,Al (by rw[hr r (e▸AF hlt)];exact hk)]
 rwa [CF] at h1
def oJ(l:List PN):∀r∈l.map PN.row,r.length=13:=OC (f:=PN.row) (λ_=>PN.EL) l
def nP(n:Nat)(x:Int):Nat:=(x.toNat-1)*13
def PA.Cj(w:PA h a n m ps A)(hx:A.has x){k:Nat}(hk:k<13):Bn h none (Pt n (nP n x+k))=(pN ps x).row[k]?:=by unfold nP;simp only[Bn,w.hn,I4];exact YT (oJ ps) hk (by rw[Dm,(w.pn hx).1];rfl)
def Wq(w:PA h a n m ps A):Cy cx 22 [Pt a 0,I x] h (.bool (decide (A.has x))) h:=by
 have d:Bn h none (Pt a 0)=some (.Dn n 0 ps.length 13):=by simp only[Bn,w.ha];rfl
 have c:AH (.len false) [.Dn n 0 ps.length 13]=some (I (ps.length:Int)):=rfl;rw[Ag,G_,t22];simp only[abS,d,c];have hl:=w.Ü;have b:A.has x↔1<=x/\x<=(ps.length:Int):=by unfold Ar.has;rw[hl]
 refine⟨λh1=>?_,λh1=>?_⟩;.congr 2;rw[EF,b];exact⟨λh=>⟨h1,h⟩,λh=>h.2⟩
 .rw[Ap (λh=>h1 (b.1 h).1)]
def PA.nodes(w:PA h a n m ps A):Bn h none (Pt a 0)=some (.Dn n 0 ps.length 13):=by simp only[Bn,w.ha];rfl
def PA.len(w:PA h a n m ps A):((ps.length:Nat):Int)=A.len:=by unfold Ar.len;rw[w.Ü]
def aCf(w:PA h a n m ps A){l:List Int}{v:Aa}(hv:IH l v)(hb:l.length<=1000):Cy cx 25 [Pt a 0,v] h (I (if∀x∈l,A.has x then 0 else 3)) h:=by
 have hv:BB 1 (l.map Dj) v:=hv;rw[Ag,H_,t25];simp only[abS,hv.GN];refine Co (λk:Nat=>[I 0,I (k:Int)]) (λk h1=>k<=l.length/\(∀x∈l.take k,A.has x)/\h1=h) (λk=>l.length-k) 0 rfl ⟨Bp _,AB,rfl⟩ ?_;rintro k h1 ⟨hk,ha,rfl⟩;rcases Bl k l.length with hlt|IS
 .have i1:(k:Int)<(l.length:Int):=by omega
  have b:Bn h1 none (.B9 (Dj l[k]))=some (I l[k]):=rfl;simp only[Cx,fX,i1,hv.DN hlt,b,(Wq (x:=l[k]) w).Ae,Dw (Ab:k<9223372036854775807)];rw[DC];refine⟨λh2=>?_,λh2=>?_⟩
  .have h2:¬A.has l[k]:=by simpa using h2
   rw[Ac (λh3=>h2 (h3 _ (AF hlt)))]
  .have h2:A.has l[k]:=by simpa using h2
   refine BC.next (k+1) rfl ⟨hlt,?_,rfl⟩ Ab;intro x hx;rw[Bd hlt,An,Bq] at hx;rcases hx with hx|rfl
   .exact ha x hx
   .exact h2
 .have i1:¬(k:Int)<(l.length:Int):=by omega
  rw[Bf IS] at ha;simp only[abS,i1,Af ha]
def SD(w:PA h a n m ps A):Cy cx 25 [Pt a 0,.sl 1 [[I x]]] h (I (if A.has x then 0 else 3)) h:=by have:=aCf w (l:=[x]) (v:= .sl 1 [[I x]]) .mk AB;simpa using this
def Mx{y:Int}(w:PA h a n m ps A):Cy cx 25 [Pt a 0,.sl 1 [[I x],[I y]]] h (I (if A.has x/\A.has y then 0 else 3)) h:=by have:=aCf w (l:=[x,y]) (v:= .sl 1 [[I x],[I y]]) .mk AB;simpa using this
def GW{x:Int}:AH (.CC 1) [I x]=some (.sl 1 [[I x]]):=rfl
def FZ{x y:Int}:AH (.CC 1) [I x,I y]=some (.sl 1 [[I x],[I y]]):=rfl
def NB.of(b:NB A)(hx:A.has x):1<=x/\x<=1000000000:=by have:=b.n;unfold Ar.has at hx;omega
def I8(w:PA h a n m ps A)(b:NB A)(hx:A.has x):Cy cx 24 [Pt a 0,I x] h (Pt n (nP n x)) h:=by
 have hr:=b.of hx;have d:=(w.at hx).2;have c:AH (.GY 13) [.Dn n 0 ps.length 13,I (x-1)]=some (Pt n (nP n x)):=by rw[<-d];exact Jq (w.at hx).1
 rw[Ag,tY,t24];simp only[abS,w.nodes,Ek (Ab: -9223372036854775808<=x-1) (Ab:x-1<9223372036854775808),c]
def PA.f0(w:PA h a n m ps A)(hx:A.has x):Bn h none (Pt n (nP n x))=some (I (A.nd x).kind):=by have:=w.Cj hx (k:=0) AA;rw[<-(w.pn hx).2.1];exact this
def PA.f1(w:PA h a n m ps A)(hx:A.has x):Bn h none (Pt n (nP n x+1))=some (I (A.nd x).GR):=by have:=w.Cj hx (k:=1) AA;rw[<-(w.pn hx).2.1];exact this
def PA.f2(w:PA h a n m ps A)(hx:A.has x):Bn h none (Pt n (nP n x+2))=some (pN ps x).kv:=by have:=w.Cj hx (k:=2) AA;exact this
def PA.f4(w:PA h a n m ps A)(hx:A.has x):Bn h none (Pt n (nP n x+4))=some (I (A.nd x).A9):=by have:=w.Cj hx (k:=4) AA;rw[<-(w.pn hx).2.1];exact this
def PA.f5(w:PA h a n m ps A)(hx:A.has x):Bn h none (Pt n (nP n x+5))=some (.str (A.nd x).name):=by have:=w.Cj hx (k:=5) AA;rw[<-(w.pn hx).2.1];exact this
def PA.f6(w:PA h a n m ps A)(hx:A.has x):Bn h none (Pt n (nP n x+6))=some (pN ps x).av:=by have:=w.Cj hx (k:=6) AA;exact this
def PA.N7(w:PA h a n m ps A)(hx:A.has x):KO h (pN ps x).kv (A.nd x).Bm:=by rw[<-(w.pn hx).2.1];exact w.ks _ (w.pn hx).2.2
def PA.att(w:PA h a n m ps A)(hx:A.has x):(pN ps x).av=Wp (A.nd x).As:=by rw[<-(w.pn hx).2.1];exact(pN ps x).ok
def PA.row(w:PA h a n m ps A)(hx:A.has x):Bn h (some 13) (Pt n (nP n x))=some (.agg (pN ps x).row):=by
 have h1:((ps.map PN.row).flatten.drop (nP n x)).take 13=(pN ps x).row/\nP n x+13<=(ps.map PN.row).flatten.length:=by unfold nP;have hlt:=(w.at hx).1;have hg:=(w.pn hx).1;rw[Jp (oJ ps),Ik (oJ ps),Aw];refine⟨?_,Ab⟩;rw[<-Mk,Az hlt,Bj,CO];rw[Av hlt,BL] at hg;rw[hg];exact JZ PN.EL
 simp only[Bn,w.hn,NP];rw[Af h1.2,h1.1]
def Ob:∀{l:List Int} {cs JR:List Aa},CG (JR++(l.map (Aa.int .i64)++cs)) 1 JR.length l.length=l.map Dj
 |[],_,_=>rfl
 |x::l,cs,JR=>by have:=Ob (l:=l) (cs:=cs) (JR:=JR++[I x]);simp only[A6,Ao,AS] at this;simp only[Bj,AK,CG,B8];rw[Mp rfl];simp only[B8,BA] at this;rw[this];rfl
def KO.Ax{kv:Aa}{l:List Int}(hk:KO h kv l):H0 h 1 kv=some (l.map Dj):=by
 rcases hk with⟨rfl,rfl⟩|⟨id,cs,rfl,hc⟩
 .rfl
 .have:=Ob (l:=l) (cs:=cs) (JR:=[]);simp only[BA,AW] at this;simp only[H0,BN,hc,this];rw[Af AB]
def KO.len{kv:Aa}{l:List Int}(hk:KO h kv l):AH (.len false) [kv]=some (I (l.length:Int)):=by rcases hk with⟨rfl,rfl⟩|⟨id,cs,rfl,hc⟩<;>rfl
def aCg{kv:Aa}{l:List Int}(hk:KO h kv l)(hb:l.length<=1000000000):∃v,Cy cx 23 [kv] h v h/\IH l v:=by
 have hr:=hk.Ax;rcases hk with⟨rfl,rfl⟩|⟨id,cs,rfl,hc⟩
 .exact⟨.slnil,by rw[Ag,tX,t23];simp only[Cx,show AH (.Gf false .sl) [.slnil,.slnil]=some (.bool true) from rfl],.inr ⟨rfl,rfl⟩⟩
 .refine⟨.sl 1 (l.map Dj),?_,.mk⟩;have b:RO h 1 8 (.sl 1 []) (.Dn id 0 l.length 1)=some (.sl 1 (l.map Dj)):=by
   unfold RO;rw[hr,Cw];cases l with
   |nil=>rfl
   |cons x l=>
    have:(x::l).length*8<=AV:=by have:AV=140737488355328:=rfl;omega
    simp only[Bj,DZ,AK,Aw,AW] at this⊢;rw[Af ⟨trivial,by simpa using this⟩];rfl
  rw[Ag,tX,t23];simp only[Cx,show AH (.Gf false .sl) [.Dn id 0 l.length 1,.slnil]=some (.bool false) from rfl,show AH (.CC 1) []=some (.sl 1 []) from rfl,b]
def LS(h:Ai)(v:Aa)(l:List Be):Prop:=(v= .slnil/\l=[])\/∃id,v= .Dn id 0 l.length 3/\h[id]?=some (.cells (l.map Be.row).flatten)/\id<h.length
def LS.cells{v:Aa}{l:List Be}(hv:LS h v l):v.cells=[v]:=by rcases hv with⟨rfl,_⟩|⟨id,rfl,_,_⟩<;>rfl
structure TU(h:Ai)(v:Aa)(l:List Be):Prop where
 len:AH (.len false) [v]=some (I (l.length:Int))
 at_:∀k (hk:k<l.length),∃p,AH (.GY 3) [v,I (k:Int)]=some p/\Bn h (some 3) p=some (.agg l[k].row)
def oK{v:Aa}{l:List Be}(hv:Bw l v):TU h v l:=⟨BB.GN hv,λk hk=>⟨_,BB.DN hv hk,rfl⟩⟩
def aFX(l:List Be):∀r∈l.map Be.row,r.length=3:=OC (f:=Be.row) (λ_=>rfl) l
def LS.in_{v:Aa}{l:List Be}(hv:LS h v l):TU h v l:=by
 rcases hv with⟨rfl,rfl⟩|⟨id,rfl,hc,_⟩
 .exact⟨rfl,λk hk=>by simp at hk⟩
 .refine⟨rfl,λk hk=>⟨Pt id (k*3),Jq hk,?_⟩⟩;simp only[Bn,hc,NP];rw[Af (by rw[Ik (aFX l),Aw];omega),Jp (aFX l),<-Mk,Az hk,Bj,CO];rfl
def Up(N:Nat)(v:Aa):Prop:=∀id k,v= .Dn id 0 k 3->N<=id
def Ý{v:Aa}{l:List Be}(hv:v=Wp l)(hb:l.length<=1000000000):∃u t,Cy cx 100035 [v] h u (h++t)/\LS (h++t) u l/\Up h.length u:=by
 cases l with
 |nil=>refine⟨.slnil,[],?_,.inl ⟨rfl,rfl⟩,λ_ _ e=>nomatch e⟩;rw[Bg,Ag,SA,WW,hv];simp only[Cx,Wp,show AH (.Gf false .sl) [.slnil,.slnil]=some (.bool true) from rfl]
 |cons x l=>have e:=QD (h:=h) (s:= .sl 3 []) (z:=3) (b:=40) (.inr rfl) (BB.mk (z:=3) (Ax:=(x::l).map Be.row)) AB (by rw[Aw];have:AV=140737488355328:=rfl;omega);rw[Aw] at e;refine⟨.Dn h.length 0 (x::l).length 3,[.cells ((x::l).map Be.row).flatten],?_,.inr ⟨h.length,rfl,AB,AB⟩,λ_ _ e=>by injection e with e;omega⟩;rw[Ag,SA,WW,hv];simp only[Cx,Wp,show AH (.Gf false .sl) [.sl 3 ((x::l).map Be.row),.slnil]=some (.bool false) from rfl,show AH (.CC 3) []=some (.sl 3 []) from rfl,e]
def aI9(h:Ai)(N:Nat)(x:HP)(r:List Aa):Prop:=∃K V,r=[I x.kind,I x.GR,K,I x.BM,I x.A9,.str x.name,V,.str x.data,.str x.KB,.str x.sys,.bool x.DW,I x.cont,I x.Fm]/\IH x.Bm K/\LS h V x.As/\Up N V
def aJa(w:PA h a n m ps A)(f:NB A)(hx:A.has x)(b:(A.nd x).Bm.length<=1000000000):∃r t,Cy cx 26 [Pt n (nP n x)] h (.agg r) (h++t)/\aI9 (h++t) h.length (A.nd x) r:=by obtain⟨K,e,d⟩:=aCg (w.N7 hx) b;obtain⟨V,t,r2,c,g⟩:=Ý (h:=h) (w.att hx) (f.at_ x);refine⟨_,t,?_,K,V,rfl,d,c,g⟩;have hc:K.cells=[K]:=BB.cells d;have e0:=w.row hx;have i:(pN ps x).row=_:=rfl;have ex:=(w.pn hx).2.1;rw[Ag,I_,t26];rw[PN.row,ex] at e0;simp only[abS,e0,w.f2 hx,w.f6 hx,e.Ae,DI,r2.Ae,hc,c.cells]
def aAO(w:PA h a n m ps A)(c:NB A)(b:(A.nd x).Bm.length<=1000000000):∃r t,Cy cx 13 [Pt a 0,I x] h (.tuple [.agg r,I (if A.has x then 0 else 3)]) (h++t)/\aI9 (h++t) h.length (A.nd x) r:=by
 by_cases hx:A.has x;.obtain⟨r,t,d,hr⟩:=aJa w c hx b;have HY:=hr;obtain⟨K,V,rfl,_⟩:=hr;refine⟨_,t,?_,HY⟩;rw[Ag,tW,t13];simp only[abS,↓reduceIte,Cl,GW,(SD (x:=x) w).Ae,Af hx,CY,C4,(I8 w c hx).Ae,d.Ae]
 .refine⟨_,[],?_,.slnil,.slnil,by rw[OH hx],by rw[OH hx];exact .inr ⟨rfl,rfl⟩,by rw[OH hx];exact .inl ⟨rfl,rfl⟩,λ_ _ e=>nomatch e⟩;rw[Ag,tW,t13,Bg];simp only[abS,↓reduceIte,Cl,GW,(SD (x:=x) w).Ae,Ac hx,CY,(AA:¬(3:Int)=0),KZ]
def Þ(w:PA h a n m ps A)(d:NB A)(b:(A.nd x).Bm.length<=1000000000):∃v,Cy cx 12 [Pt a 0,I x] h v h/\IH (A.nd x).Bm v:=by
 by_cases hx:A.has x;.obtain⟨K,c,e⟩:=aCg (w.N7 hx) b;refine⟨K,?_,e⟩;rw[Ag,tV,t12];simp only[abS,(Wq (x:=x) w).Ae,Ak hx,(I8 w d hx).Ae,w.f2 hx,c.Ae]
 .refine⟨.slnil,?_,by rw[OH hx];exact .inr ⟨rfl,rfl⟩⟩;rw[Ag,tV,t12];simp only[abS,(Wq (x:=x) w).Ae,Ap hx]
def aJb(w:PA h a n m ps A)(b:NB A):Cy cx 234 [Pt a 0,I x] h (I (A.nd x).GR) h:=by
 by_cases hx:A.has x;.rw[Ag,iQ,aAA];simp only[abS,(Wq (x:=x) w).Ae,Ak hx,(I8 w b hx).Ae,w.f1 hx]
 .rw[Ag,iQ,aAA,OH hx];simp only[abS,(Wq (x:=x) w).Ae,Ap hx]
def oL(w:PA h a n m ps A)(b:NB A):Cy cx 107 [Pt a 0,I x] h (I (if A.has x then(if(A.nd x).kind=1 then 0 else 9) else 3)) h:=by
 rw[Ag,yT,aD6];by_cases hx:A.has x
 .simp only[abS,GW,(SD (x:=x) w).Ae,Af hx,CY,C4,(I8 w b hx).Ae,w.f0 hx];by_cases hk:(A.nd x).kind=1;.simp only[hk,abS,C4]
  .simp only[hk,abS]
 .simp only[abS,GW,(SD (x:=x) w).Ae,Ac hx,CY,(AA:¬(3:Int)=0)]
def ß{l:List PN}:(l.map PN.row).flatten.length=l.length*13:=by rw[Ik (oJ l),Aw]
def oM{p:PN}{n':Nat}(hk:H9 p.kv=none):Gb a n' m (ps++[p])=a::n'::(m.toList++ps.filterMap λp=>H9 p.kv):=by unfold Gb;rw[EV];simp[hk]
def à{x:HP}(hl:A.i.length=A.n.length):(A.add x).inr=A.inr:=by funext k;exact WL hl
def á(w:PA h a n m ps A)(hb:ps.length+1<=1000000000)(p:PN)(hk:p.kv= .slnil)(xm:p.x.Bm=[]):
  ∃h',Cy cx 38 [Pt a 0,.agg p.row] h (I (A.len+1)) h'/\PA h' a h.length m (ps++[p]) (A.add p.x)/\(∀i,i<h.length->i≠a->i≠n->h'[i]?=h[i]?)/\h'.length=h.length+1:=by
 have WE:a<h.length:=w.lt a (by simp[Gb]);have RG:n<h.length:=w.lt n (by simp[Gb]);have g:a≠n:=by have:=w.nd;simp[Gb] at this;exact this.1.1
 have c:=Sq (h:=h) (id:=n) (Ax:=ps.map PN.row) (r2:=[p.row]) (v:= .sl 13 [p.row]) (b:=168) (oJ ps) AA w.hn .mk AB (by rw[Aw];have:AV=140737488355328:=rfl;simp;omega);rw[Aw] at c;simp only[AS] at c;have UB:(h.set n .Ef++[GJ.cells (ps.map PN.row++[p.row]).flatten])[a]?=some (.cells [.Dn n 0 ps.length 13,.map m]):=by rw[Al (by simpa using WE),Aq (CZ g)];exact w.ha
 have es:C9 (h.set n .Ef++[GJ.cells (ps.map PN.row++[p.row]).flatten]) 1 (Pt a 0) (.Dn h.length 0 (ps.length+1) 13)=some ((h.set n .Ef++[GJ.cells (ps.map PN.row++[p.row]).flatten]).set a (.cells [.Dn h.length 0 (ps.length+1) 13,.map m])):=by simp only[C9,UB];rfl
 have el:Bn ((h.set n .Ef++[GJ.cells (ps.map PN.row++[p.row]).flatten]).set a (.cells [.Dn h.length 0 (ps.length+1) 13,.map m])) none (Pt a 0)=some (.Dn h.length 0 (ps.length+1) 13):=by simp only[Bn];rw[AI Et];rfl
 have k:AH (.len false) [.Dn h.length 0 (ps.length+1) 13]=some (I ((ps.length+1:Nat):Int)):=rfl;have em:AH (.CC 13) [.agg p.row]=some (.sl 13 [p.row]):=Ys (a:= .agg p.row) rfl AA;refine⟨(h.set n .Ef++[GJ.cells (ps.map PN.row++[p.row]).flatten]).set a (.cells [.Dn h.length 0 (ps.length+1) 13,.map m]),?_,?_,?_,?_⟩;rotate_left
 .refine⟨by simp[Ar.add,w.e],by simp[Ar.add,w.il],?_,?_,?_,?_,?_⟩;.rw[AI Et];simp
  .rw[Aq Ab,Bu AB];simp
  .intro q hq;rcases An.1 hq with hq|hq
   .refine(w.ks q hq).FM λid Jk=>?_;have h1:id∈Gb a n m ps:=L8 hq Jk;have h2:=w.lt id h1;have h3:=w.nd;have j:id∈m.toList++ps.filterMap λp=>H9 p.kv:=An.2 (.inr (Cq.2 ⟨q,hq,Jk⟩));unfold Gb at h3;simp only[B6,AE,PU] at h3;have f:a≠id:=λe=>h3.1.2 (e▸j);have d:n≠id:=λe=>h3.2.1 (e▸j);rw[Aq f,Al (by simpa using h2),Aq d]
   .simp at hq;subst hq;exact .inl ⟨hk,xm⟩
  .rw[oM (by rw[hk];rfl)];have h3:=w.nd;unfold Gb at h3;simp only[B6,AE,PU] at h3⊢;refine⟨⟨Ab,h3.1.2⟩,λhm=>?_,h3.2.2⟩;have:=w.lt h.length (by unfold Gb;simp only[AE];exact .inr (.inr hm));omega
  .rw[à w.il];refine w.mp.FM λid Jk=>?_;have h1:id∈m.toList++ps.filterMap λp=>H9 p.kv:=by simp[Jk]
   have h2:=w.lt id (by unfold Gb;simp only[AE];exact .inr (.inr h1));have h3:=w.nd;unfold Gb at h3;simp only[B6,AE,PU] at h3;have f:a≠id:=λe=>h3.1.2 (e▸h1);have d:n≠id:=λe=>h3.2.1 (e▸h1);rw[Aq f,Al (by simpa using h2),Aq d]
 .intro i hi h1 h2;rw[Aq (CZ h1),Al (by simpa using hi),Aq (CZ h2)]
 .simp
 .have hl:A.len+1=((ps.length+1:Nat):Int):=by rw[<-w.len];rfl
  rw[PN.row] at em c es el;rw[Ag,uB,t38,hl,PN.row];simp only[abS,Nat.reduceLeDiff,↓reduceIte,Cl,w.nodes,em,c,es,el,k]
def cZ{Ax:List (List Aa)}{z i k:Nat}(hr:∀r∈Ax,r.length=z)(hi:i<Ax.length)(hk:k<z){v:Aa}:Ax.flatten.take (i*z+k)++[v]++Ax.flatten.drop (i*z+k+1)=(Ax.set i (Ax[i].set k v)).flatten:=by
 have hl:=hr _ (AF hi);rw[<-nJ hr hi];have b:Ax.flatten.drop (i*z)=Ax[i]++Ax.flatten.drop (i*z+z):=by
  have e:i*z+z=(i+1)*z:=by rw[BJ,ER]
  rw[e,Jp hr,Jp hr,Az hi,CO]
 have d:Ax.flatten.take (i*z+k)=Ax.flatten.take (i*z)++Ax[i].take k:=by rw[aBu,b,Bi Ab]
 have c:Ax.flatten.drop (i*z+k+1)=Ax[i].drop (k+1)++Ax.flatten.drop (i*z+z):=by rw[SP,<-Ew,b,OY Ab]
 rw[d,c,B7,Af Ab];simp
def PA.sto(w:PA h a n m ps A)(hx:A.has x){k:Nat}(hk:k<13){v:Aa}(hv:v.cells=[v]){p:PN}(hp:p.row=(pN ps x).row.set k v){h1:Ai}(hn:h1[n]?=h[n]?):
  C9 h1 1 (Pt n (nP n x+k)) v=some (h1.set n (.cells ((ps.set (x.toNat-1) p).map PN.row).flatten)):=by
 have hlt:=(w.at hx).1;have hg:=(w.pn hx).1;rw[Av hlt,BL] at hg;have e:=cZ (Ax:=ps.map PN.row) (i:=x.toNat-1) (k:=k) (v:=v) (oJ ps) (by simpa using hlt) hk;rw[Ei,hg,<-hp,<-JJ] at e;unfold nP;simp only[C9,hn,w.hn,hv,AS,OX];rw[Af (by rw[Ik (oJ ps),Aw];omega),e]
def YU(w:PA h a n m ps A)(hx:A.has x)(p:PN):ps=ps.take (x.toNat-1)++pN ps x::ps.drop (x.toNat-1+1)/\ps.set (x.toNat-1) p=ps.take (x.toNat-1)++p::ps.drop (x.toNat-1+1):=by have hlt:=(w.at hx).1;have hg:=(w.pn hx).1;rw[Av hlt,BL] at hg;refine⟨?_,by rw[B7,Af hlt]⟩;conv=>lhs;rw[<-Br (x.toNat-1) ps,Az hlt,hg]
def â{y:HP}:(A.set x y).inr=A.inr:=by funext k;exact TE
def PA.uc(w:PA h a n m ps A)(hx:A.has x){p:PN}{h1:Ai}(ho:∀i∈Gb a n m ps,H9 (pN ps x).kv≠some i->h1[i]?=h[i]?)(hk:KO h1 p.kv p.x.Bm)
  (hi:H9 p.kv=H9 (pN ps x).kv\/∀j,H9 p.kv=some j->h.length<=j):PA (h1.set n (.cells ((ps.set (x.toNat-1) p).map PN.row).flatten)) a n m (ps.set (x.toNat-1) p) (A.set x p.x):=by
 have hlt:=(w.at hx).1;have uK:=(w.pn hx).2.2;obtain⟨C,E⟩:=YU w hx p;have nd:=w.nd;have l:∀j,H9 (pN ps x).kv=some j->j∈m.toList++ps.filterMap λp=>H9 p.kv:=λj hj=>An.2 (.inr (Cq.2 ⟨_,uK,hj⟩));have jA:=nd;unfold Gb at jA;simp only[B6,AE,PU] at jA;have v:a≠n:=jA.1.1;have o:H9 (pN ps x).kv≠some a:=λe=>jA.1.2 (l a e);have g:H9 (pN ps x).kv≠some n:=λe=>jA.2.1 (l n e);have RG:n<h.length:=w.lt n (by simp[Gb]);have z:h1[n]?=h[n]?:=ho n (by simp[Gb]) g;have B:n<h1.length:=by have:=w.hn;rw[<-z] at this;exact(Aj.1 this).1
 have t:∀j,H9 p.kv=some j->j≠n/\j≠a:=by
  intro j hj;rcases hi with hi|hi
  .rw[hi] at hj;exact⟨λe=>g (e▸hj),λe=>o (e▸hj)⟩
  .have:=hi j hj;have:=w.lt a (by simp[Gb]);omega
 refine⟨?_,?_,?_,?_,?_,?_,?_⟩;.simp only[Ar.set,Af hx];rw[w.e,JJ]
 .rw[JT];exact w.il
 .rw[Aq (CZ v),ho a (by simp[Gb]) o,Ch];exact w.ha
 .rw[AI B]
 .intro q hq;by_cases d:q=p;.rw[d];exact hk.FM λid Jk=>by rw[Aq (CZ (t id Jk).1)]
  .rw[E] at hq;have f:q∈ps.take (x.toNat-1)++ps.drop (x.toNat-1+1):=by
    rcases An.1 hq with b|b
    .exact An.2 (.inl b)
    .exact An.2 (.inr ((AE.1 b).resolve_left d))
   have c:q∈ps:=by
    rcases An.1 f with b|b
    .exact AZ b
    .exact AY b
   refine(w.ks q c).FM λj hj=>?_;have r:j∈Gb a n m ps:=L8 c hj;have y:j≠n:=λe=>jA.2.1 (e▸An.2 (.inr (Cq.2 ⟨q,c,hj⟩)));have YV:H9 (pN ps x).kv≠some j:=by
    intro u;have s:=(BW.1 jA.2.2).2.1;rw[C,EV,IV,u] at s;simp only[BW,B6,AE,Cq] at s;rcases An.1 f with b|b
    .exact s.2.2 j ⟨q,b,hj⟩ j (.inl rfl) rfl
    .exact s.2.1.1 ⟨q,b,hj⟩
   rw[Aq (CZ y),ho j r YV]
 .have fr:∀j,H9 p.kv=some j->H9 (pN ps x).kv=some j\/j∉Gb a n m ps:=by
   intro j hj;rcases hi with hi|hi
   .exact .inl (hi▸hj)
   .exact .inr λhm=>by have:=hi j hj;have:=w.lt j hm;omega
  have h1:=nd;unfold Gb at h1 fr⊢;rw[C,EV,IV] at h1;rw[C,EV,IV] at fr;rw[E,EV,IV];generalize List.filterMap (λp=>H9 p.kv) (ps.take (x.toNat-1))=T at h1 fr⊢;generalize List.filterMap (λp=>H9 p.kv) (ps.drop (x.toNat-1+1))=D at h1 fr⊢;cases hp:H9 p.kv with
  |none=>
   cases ho:H9 (pN ps x).kv with
   |none=>rw[ho] at h1;exact h1
   |some k=>rw[ho] at h1;refine h1.sublist ?_;simp
  |some j=>
   have:=fr j hp;cases ho:H9 (pN ps x).kv with
   |none=>rw[ho] at h1 this;simp only[B6,BW,AE,An] at h1 this⊢;grind
   |some k=>rw[ho] at h1 this;simp only[B6,BW,AE,An] at h1 this⊢;grind
 .rw[â];refine w.mp.FM λid Jk=>?_;have r:id∈m.toList++ps.filterMap λp=>H9 p.kv:=by simp[Jk]
  have y:n≠id:=λe=>jA.2.1 (e▸r);have YV:H9 (pN ps x).kv≠some id:=by intro ZI;exact(BW.1 jA.2.2).2.2 id (by simp[Jk]) id (Cq.2 ⟨_,uK,ZI⟩) rfl
  rw[Aq y,ho id (by unfold Gb;simp only[AE];exact .inr (.inr r)) YV]
def PA.pw(w:PA h a n m ps A):PW h (λi=>i∈Gb a n m ps) a A:=⟨n,m,ps,w,λ_=>aGY⟩
def NB.add{y:HP}(b:NB A)(h1:A.len+1<=1000000000)(h2:y.As.length<=1000000000)(h3:y.data.length<=1000000000):NB (A.add y):=by
 refine⟨?_,λx=>?_,λx=>?_⟩;.unfold Ar.len at h1;simp[Ar.add];omega
 .rw[Kb];split;.exact h2
  .exact b.at_ x
 .rw[Kb];split;.exact h3
  .exact b.data x
def NB.set{y:HP}(b:NB A)(h2:y.As.length<=1000000000)(h3:y.data.length<=1000000000):NB (A.set x y):=by
 refine⟨by rw[JT];exact b.n,λx=>?_,λx=>?_⟩<;>rw[Ka]<;>split;.exact h2
 .exact b.at_ x
 .exact h3
 .exact b.data x
def aAP{x y:HP}:(A.add x).set (A.len+1) y=A.add y:=by unfold Ar.set;rw[Af (Em.2 (.inr rfl))];unfold Ar.add Ar.len;have e:((A.n.length:Int)+1).toNat-1=A.n.length:=Ab;simp only[e];rw[Cc _ _ (Ad _),E9];rfl
def gq{p:PN}(w:PA h a n m ps A)(hx:A.has x)(hk:H9 p.kv=H9 (pN ps x).kv):Gb a n m (ps.set (x.toNat-1) p)=Gb a n m ps:=by obtain⟨c,b⟩:=YU w hx p;unfold Gb;rw[b,EV,IV,hk];conv=>rhs;rw[c,EV,IV]
def PA.wr(w:PA h a n m ps A)(hx:A.has x){k:Nat}(hk:k<13){v:Aa}(hv:v.cells=[v]){p:PN}(hp:p.row=(pN ps x).row.set k v)(h1:p.kv=(pN ps x).kv)(h2:p.x.Bm=(A.nd x).Bm):
  ∃h',C9 h 1 (Pt n (nP n x+k)) v=some h'/\PA h' a n m (ps.set (x.toNat-1) p) (A.set x p.x)/\Gb a n m (ps.set (x.toNat-1) p)=Gb a n m ps/\(∀i,i≠n->h'[i]?=h[i]?)/\h'.length=h.length:=by
 refine⟨_,w.sto hx hk hv hp rfl,w.uc hx (λi _ _=>rfl) (by rw[h1,h2];exact w.N7 hx) (.inl (by rw[h1])),gq w hx (by rw[h1]),λi hi=>by rw[Aq (CZ hi)],Ch⟩
def PA.gu(w:PA h a n m ps A){h1:Ai}{PI:List PN}{A':Ar}(w':PA h1 a n m PI A')(hi:Gb a n m PI=Gb a n m ps)(ho:∀i,i≠n->h1[i]?=h[i]?)(hl:h1.length=h.length):Fo h (λi=>i∈Gb a n m ps) h1 (λi=>i∈Gb a n m PI):=
 ⟨Ab,λi _ hn=>ho i (λe=>hn (by rw[e];simp[Gb])),λi bR=> .inl (by rwa [hi] at bR)⟩
def Lc(q:Bool)(d:Int):PN:=⟨{kind:=1,DW:=q,BM:=d},.slnil,.slnil,rfl⟩
def aN5(w:PA h a n m ps A)(o:NB A)(hb:A.len+1<=1000000000)(q:Bool):
  ∃h',Cy cx 32 [Pt a 0,.bool q] h (I (A.len+1)) h'/\PA h' a h.length m (ps++[Lc q (A.len+1)]) (A.add {kind:=1,DW:=q,BM:=A.len+1})/\(∀i,i<h.length->i≠a->i≠n->h'[i]?=h[i]?)/\h'.length=h.length+1:=by
 have eQ:=w.len;obtain⟨h1,g,w1,l,l1⟩:=á w Ab (Lc q 0) rfl rfl;have e:=o.add (y:=(Lc q 0).x) hb (by simp[Lc]) (by simp[Lc]);have hx:(A.add (Lc q 0).x).has (A.len+1):=Em.2 (.inr rfl);have hlen:(A.len+1).toNat-1=ps.length:=Ab;have b:pN (ps++[Lc q 0]) (A.len+1)=Lc q 0:=by unfold pN;rw[hlen];simp
 obtain⟨h2,f,c,_,j,l2⟩:=w1.wr hx (k:=3) AA (v:= I (A.len+1)) rfl (p:=Lc q (A.len+1)) (by rw[b];rfl) (by rw[b];rfl) (by rw[Kb,Af rfl];rfl);refine⟨h2,?_,?_,λi hi h3 r=>?_,Ab⟩;.have r2:=I8 w1 e hx;rw[Ag,tZ,t32];have d:Cy cx 38 [Pt a 0,.agg [I 1,I 0,.slnil,I 0,I 0,.str [],.slnil,.str [],.str [],.str [],.bool q,I 0,I 0]] h (I (A.len+1)) h1:=g;simp only[abS,Nat.reduceLeDiff,↓reduceIte,Cl,d.Ae,r2.Ae,f]
 .rw[aAP,hlen] at c;rw[Cc _ _ (Ad _),E9] at c;exact c
 .rw[j i Ab];exact l i hi h3 r
def Ni(k d:Int)(s:Ah):PN:=⟨{kind:=k,BM:=d,data:=s},.slnil,.slnil,rfl⟩
def PA.Ry(w:PA h a n m ps A){p:PN}{h1:Ai}(hk:H9 p.kv=none)(b:∀i,i<h.length->i≠a->i≠n->h1[i]?=h[i]?)(l1:h1.length=h.length+1):Fo h (λi=>i∈Gb a n m ps) h1 (λi=>i∈Gb a h.length m (ps++[p])):=by
 refine⟨Ab,λi hi hn=>b i hi (λe=>hn (by simp[Gb,e])) (λe=>hn (by simp[Gb,e])),λi hi=>?_⟩;rw[oM hk] at hi;simp only[AE] at hi;rcases hi with rfl|rfl|hi
 .exact .inl (by simp[Gb])
 .exact .inr (Ad _)
 .exact .inl (by unfold Gb;simp only[AE];exact .inr (.inr hi))
def aCk{k:Int}{s:Ah}(w:PA h a n m ps A)(d:NB A)(hb:A.len+1<=1000000000)(hd:A.has x/\(A.nd x).kind=1):
  ∃h',Cy cx 108 [Pt a 0,I x,.agg (Ni k 0 s).row] h (.tuple [I (A.len+1),I 0]) h'/\PA h' a h.length m (ps++[Ni k x s]) (A.add (Ni k x s).x)/\(∀i,i<h.length->i≠a->i≠n->h'[i]?=h[i]?)/\h'.length=h.length+1:=by
 have eQ:=w.len;obtain⟨h1,b,w1,c,l1⟩:=á w Ab (Ni k x s) rfl rfl;refine⟨h1,?_,w1,c,l1⟩;rw[PN.row] at b;rw[Ag,gV,aAg,PN.row];simp only[abS,(oL (x:=x) w d).Ae,Af hd.1,Af hd.2,CY,C4,Ni] at b⊢;simp only[Cx,b.Ae]
def aN6{s:Ah}(w:PA h a n m ps A)(e:NB A)(hb:A.len+1<=1000000000)(hd:A.has x/\(A.nd x).kind=1):
  ∃h',Cy cx 120 [Pt a 0,I x,.str s] h (.tuple [I (A.len+1),I 0]) h'/\PA h' a h.length m (ps++[Ni 5 x s]) (A.add (Ni 5 x s).x)/\(∀i,i<h.length->i≠a->i≠n->h'[i]?=h[i]?)/\h'.length=h.length+1:=by
 obtain⟨h1,c,w1,d,l1⟩:=aCk (k:=5) (s:=s) w e hb hd;refine⟨h1,?_,w1,d,l1⟩;have b:Cy cx 108 [Pt a 0,I x,.agg [I 5,I 0,.slnil,I 0,I 0,.str [],.slnil,.str s,.str [],.str [],.bool false,I 0,I 0]] h (.tuple [I (A.len+1),I 0]) h1:=c;rw[Ag,zB,aEe];simp only[abS,Nat.reduceLeDiff,↓reduceIte,Cl,b.Ae]
def aJc{s:Ah}(w:PA h a n m ps A)(e:NB A)(hb:A.len+1<=1000000000)(hd:A.has x/\(A.nd x).kind=1):
  ∃h',Cy cx 105 [Pt a 0,I x,.str s] h (.tuple [I (A.len+1),I 0]) h'/\PA h' a h.length m (ps++[Ni 6 x s]) (A.add (Ni 6 x s).x)/\(∀i,i<h.length->i≠a->i≠n->h'[i]?=h[i]?)/\h'.length=h.length+1:=by
 obtain⟨h1,c,w1,d,l1⟩:=aCk (k:=6) (s:=s) w e hb hd;refine⟨h1,?_,w1,d,l1⟩;have b:Cy cx 108 [Pt a 0,I x,.agg [I 6,I 0,.slnil,I 0,I 0,.str [],.slnil,.str s,.str [],.str [],.bool false,I 0,I 0]] h (.tuple [I (A.len+1),I 0]) h1:=c;rw[Ag,yS,aD5];simp only[abS,Nat.reduceLeDiff,↓reduceIte,Cl,b.Ae]
def aN7{s:Ah}(w:PA h a n m ps A)(e:NB A)(hx:A.has x)(hk:(A.nd x).kind=5):
  ∃h' PI,Cy cx 119 [Pt a 0,I x,.str s] h (I 0) h'/\PA h' a n m PI (A.Rr x s)/\Fo h (λi=>i∈Gb a n m ps) h' (λi=>i∈Gb a n m PI):=by
 have hp:=(w.pn hx).2.1;obtain⟨h2,c,b,f,d,l2⟩:=w.wr hx (k:=7) AA (v:= .str s) rfl (p:=⟨{A.nd x with data:=s},(pN ps x).kv,(pN ps x).av,by rw[<-hp];exact(pN ps x).ok⟩) (by simp only[PN.row];rw[hp];rfl) rfl rfl;refine⟨h2,_,?_,b,w.gu b f d l2⟩;rw[Ag,zA,aEd];simp only[abS,GW,(SD (x:=x) w).Ae,Af hx,CY,C4,(I8 w e hx).Ae,w.f0 hx,hk,c]
def aCl{y:Int}:Cy cx 276 [.sl 1 [[I y]]] h (.bool (decide (BS.L6 y))) h:=by
 have hv:BB 1 [[I y]] (.sl 1 [[I y]]):= .mk;have c:([[I y]]:List (List Aa))[0]=[I y]:=rfl;rw[Ag,ew,aFD];simp only[Cx,hv.len];refine Co (λk:Nat=>[.bool false,I (k:Int)]) (λk h1=>k<=1/\(k=1->BS.L6 y)/\h1=h) (λk=>1 -k) 0 rfl ⟨Bp _,λe=>Ab,rfl⟩ ?_;rintro k h1 ⟨hk,ha,rfl⟩;rcases Bl k 1 with hlt|IS
 .obtain rfl:k=0:=by omega
  simp only[Cx,fX,(AA:((0:Nat):Int)<((1:Nat):Int)),hv.GY (show 0<[[I y]].length from FW),c,Dw (Ab:0<9223372036854775807)];refine⟨λh2=>?_,λh2=>⟨λh3=>?_,λh3=>?_⟩⟩;.rw[Ap (λb=>by unfold BS.L6 at b;omega)]
  .rw[Ap (λb=>by unfold BS.L6 at b;omega)]
  .exact BC.next 1 rfl ⟨Ad _,λ_=>⟨Ab,Ab⟩,rfl⟩ Ab
 .obtain rfl:k=1:=by omega
  simp only[abS,(AA:¬((1:Nat):Int)<((1:Nat):Int)),Ak (ha rfl)]
def YW{l out:List Be}{y:Be}:GB out (l++[y])=if(GB out l).any (λz=>decide (FT y=FT z)) then GB out l else GB out l++[y]:=by
 induction l generalizing out with
 |nil=>simp only[BA,GB];split<;>simp_all
 |cons z l ih=>
  rw[B8,GB,GB];split;.exact ih
  .exact ih
def aJd(y c:Be)(h:Ai):Cy cx 297 [.agg c.row,.B9 y.row] h (.bool (decide (FT y=FT c))) h:=by
 rw[Ag,fj,aFK,Be.row,Be.row];simp only[Cx];refine⟨λh1=>?_,λh1=>?_⟩;.congr 2;rw[EF];simp[FT,h1]
 .rw[Ap (λe=>h1 (by simp[FT] at e;exact e.1))]
def aCm{F v:Aa}{l:List Be}{q:Be->Bool}(hv:TU h v l)(hb:l.length<=1000000000)(hF:oI F h q):Cy cx 247 [v,F] h (.bool (l.any q)) h:=by
 obtain⟨f,caps,rfl,hf,hr⟩:=hF;have key:Cy cx 279 [v,.func (.func f) [] caps] h (I (Cr q 0 l)) h:=by
  rw[Ag,WU,Ð];simp only[Cx,hv.len];refine Co (λn:Nat=>[I 0,I (n:Int)]) (λn h1=>n<=l.length/\Cr q 0 l=Cr q n (l.drop n)/\h1=h) (λn=>l.length-n) 0 rfl ⟨Bp _,rfl,rfl⟩ ?_;rintro n h1 ⟨b,ha,rfl⟩;rcases Bl n l.length with hlt|IS
  .have i1:(n:Int)<(l.length:Int):=by omega
   obtain⟨p,d,c⟩:=hv.at_ n hlt;rw[Az hlt,Cr] at ha;simp only[Cx,↓reduceIte,CN,fX,hf,i1,d,c,(hr l[n]).Ae,Dw (Ab:n<9223372036854775807)];rw[DC];refine⟨λhe=>?_,λhe=>?_⟩;.rw[ha,Af he]
   .rw[Ac (by simp[he])] at ha;exact BC.next (n+1) rfl ⟨hlt,ha,rfl⟩ Ab
  .have i1:¬(n:Int)<(l.length:Int):=by omega
   rw[AR IS,Cr] at ha;simp only[abS,↓reduceIte,CN,i1,ha]
 rw[Ag,iT,aAD];simp only[Cx,key.Ae];congr 2
 rcases He (p:=q) (l:=l) (k:=0) with⟨h1,h2⟩|⟨n,y,h1,h2,h3⟩
 .rw[h1,vf];have:=MC.1 h2;simpa using this
 .rw[h1,vf,Ak Ab,Od];exact⟨y,RL h3,VW h3⟩
def aCn{l:List Be}{v:Aa}(hv:TU h v l)(hb:l.length<=1000000000)(hs:∀y∈l,BS.L6 y.A9):Cy cx 275 [v] h (.tuple [Wp (Dt l),.bool true]) h:=by
 rw[Ag,ej,aFC];simp only[Cx,hv.len];refine Co (λk:Nat=>[.slnil,.bool false,Wp (Dt (l.take k)),I (k:Int)]) (λk h1=>k<=l.length/\h1=h) (λk=>l.length-k) 0 rfl ⟨Bp _,rfl⟩ ?_;rintro k h1 ⟨hk,rfl⟩;rcases Bl k l.length with hlt|IS
 .have i1:(k:Int)<(l.length:Int):=by omega
  obtain⟨p,j,e⟩:=hv.at_ k hlt;have inc:=Dw (Ab:k<9223372036854775807);have hsp:=hs _ (AF hlt);have i:=aCl (h:=h1) (y:=l[k].A9);have hF:oI (.func (.func 297) [] [.B9 l[k].row]) h1 (λc=>decide (FT l[k]=FT c)):=⟨_,_,rfl,AA,λc=>aJd l[k] c h1⟩;have Œ:(Dt (l.take k)).length<=1000000000:=by have:=TG (l:=l.take k);rw[Ay] at this;omega
  have r2:=aCm (oK WY) Œ hF;have g:Dt (l.take (k+1))=if(Dt (l.take k)).any (λz=>decide (FT l[k]=FT z)) then Dt (l.take k) else Dt (l.take k)++[l[k]]:=by rw[Bd hlt];exact YW
  have d:=BB.nO (f:=Be.row) (a:=l[k]) (b:=40) (WY (l:=Dt (l.take k))) (by have:=TG (l:=l.take k);rw[Ay] at this;have:AV=140737488355328:=rfl;omega);have em:AH (.CC 3) [.agg l[k].row]=some (.sl 3 [l[k].row]):=rfl;rw[<-qe] at d;rw[Be.row] at r2 em d e;simp only[abS,Nat.reduceLeDiff,↓reduceIte,i1,j,e,GW,i.Ae,Ak hsp,r2.Ae,em,d,inc];rw[DC];refine⟨λh2=>?_,λh2=>?_⟩;.exact BC.next (k+1) (by rw[g,Ac (by simpa using h2)]) ⟨hlt,rfl⟩ Ab
  .exact BC.next (k+1) (by rw[g,Af (by simpa using h2)]) ⟨hlt,rfl⟩ Ab
 .have i1:¬(k:Int)<(l.length:Int):=by omega
  simp only[abS,↓reduceIte,i1,Bf IS]
def aJe{l:List Be}{v:Aa}(w:PA h a n m ps A)(f:NB A)(hx:A.has x)(hk:(A.nd x).kind=4)(hv:TU h v l)(hb:l.length<=1000000000)(hs:∀y∈l,BS.L6 y.A9):
  ∃h' PI,Cy cx 249 [Pt a 0,I x,v] h (I 0) h'/\PA h' a n m PI (A.Nd x l)/\Fo h (λi=>i∈Gb a n m ps) h' (λi=>i∈Gb a n m PI):=by
 have hp:=(w.pn hx).2.1;have d:=aCn hv hb hs;obtain⟨h2,c,b,g,e,l2⟩:=w.wr hx (k:=6) AA (v:=Wp (Dt l)) (BB.cells WY) (p:=⟨{A.nd x with As:=Dt l},(pN ps x).kv,Wp (Dt l),rfl⟩) (by simp only[PN.row];rw[hp];rfl) rfl rfl;refine⟨h2,_,?_,b,w.gu b g e l2⟩;rw[Ag,dj,aFq];simp only[abS,GW,(SD (x:=x) w).Ae,Af hx,CY,C4,(I8 w f hx).Ae,w.f0 hx,hk,d.Ae,c]
def aJf(w:PA h a n m ps A)(hx:A.has x):Cy cx 277 [Pt n (nP n x)] h (.bool (decide (cQ (A.nd x)))) h:=by rw[Ag,ey,aFE];simp only[abS,w.f0 hx,w.f4 hx,w.f5 hx,cQ];refine⟨λh1=>⟨λh2=>?_,λh2=>?_⟩,λh1=>?_⟩<;>simp[*]
def RJ(x:Int×Int):Aa×Aa:=(I x.1,I x.2)
def jB{k:Int}:∀{l:List (Int×Int)} {i:Nat},(l.find? (λx=>decide (k=x.1))=none->IY k (l.map RJ) i=some none)/\∀y,l.find? (λx=>decide (k=x.1))=some y->∃j,IY k (l.map RJ) i=some (some (j,I y.2))
 |[],i=>⟨λ_=>rfl,λy h=>by cases h⟩
 |z::l,i=>by
  have ih:=jB (k:=k) (l:=l) (i:=i+1);simp only[Bj,RJ,IY,If];by_cases e:k=z.1;.simp only[e,KZ,BN];exact⟨λh=>(by cases h),λy h=>⟨i,by cases h;rfl⟩⟩
  .simp only[e,Ir,DP];exact ih
def YS.get{f:Int->Int}(w:YS h m f)(k:Int):Eu (.lf (I 0) true) h [.map m,I k]=some (h,if f k=0 then .tuple [I 0,.bool false] else .tuple [I (f k),.bool true]):=by
 rcases w with⟨rfl,h0⟩|⟨id,l,rfl,hc,hl⟩
 .rw[Af (h0 k)];rfl
 .have hl:=hl k;have hm:=jB (k:=k) (l:=l) (i:=0);simp only[Eu,lR,hc];by_cases h0:f k=0
  .rw[Af h0] at hl⊢;have e:l.find? (λx=>decide (k=x.1))=none:=by
    cases hf:l.find? (λx=>decide (k=x.1)) with
    |none=>rfl
    |some y=>rw[hf] at hl;cases hl
   have:=hm.1 e;unfold RJ at this;rw[this];rfl
  .rw[Ac h0] at hl⊢;cases hf:l.find? (λx=>decide (k=x.1)) with
   |none=>rw[hf] at hl;cases hl
   |some y=>rw[hf] at hl;simp only[BV,BL] at hl;obtain⟨j,e⟩:=hm.2 y hf;unfold RJ at e;rw[e,<-hl];rfl
def gw{id:Nat}{l:List (Int×Int)}{k v:Int}(hc:h[id]?=some (.map (l.map RJ)))(hn:l.find? (λx=>decide (k=x.1))=none):
  ∃h1,Eu (.O2 (I 0)) h [.map (some id),I k]=some (h1,.tuple [I 0,I l.length])/\∃h2,Eu .Ld h1 [.map (some id),I l.length,I v]=some (h2,.bool true)/\h2=h.set id (.map ((l++[(k,v)]).map RJ)):=by
 have Jk:=(Aj.1 hc).1;have hm:=(jB (k:=k) (l:=l) (i:=0)).1 hn;refine⟨h.set id (.map (l.map RJ++[(I k,I 0)])),?_,_,?_,rfl⟩;.simp only[Eu,Wy,hc,hm,BV,Aw]
 .have c:(h.set id (.map (l.map RJ++[(I k,I 0)])))[id]?=some (.map (l.map RJ++[(I k,I 0)])):=AI Jk;have b:(l.map RJ++[(I k,I 0)])[l.length]?=some (I k,I 0):=by rw[Bu AB];simp
  simp only[Eu,S2,c,BF,b];rw[Af Ab,Nu,Cc _ _ AB];simp[RJ]
def PA.aJg(w:PA h a n m ps A):∀i∈m.toList++ps.filterMap (λp=>H9 p.kv),i<h.length/\i≠a/\i≠n:=by
 intro i hi;have h1:i∈Gb a n m ps:=by unfold Gb;simp only[AE];exact .inr (.inr hi)
 have h3:=w.nd;unfold Gb at h3;simp only[B6,AE,PU] at h3;exact⟨w.lt i h1,λe=>h3.1.2 (e▸hi),λe=>h3.2.1 (e▸hi)⟩
def PA.aJh(w:PA h a n m ps A){h1:Ai}{m':Option Nat}{A':Ar}(g:A'.n=A.n)(f:A'.i.length=A'.n.length)(ha:h1[a]?=some (.cells [.Dn n 0 ps.length 13,.map m']))(ho:∀i,i<h.length->i≠a->m≠some i->h1[i]?=h[i]?)(hm:m'=m\/∃j,m'=some j/\h.length<=j)(b:YS h1 m' A'.inr):PA h1 a n m' ps A':=by
 have nd:=w.nd;have jA:=nd;unfold Gb at jA;simp only[B6,AE,PU] at jA;have hnm:m≠some n:=λe=>jA.2.1 (by simp[e]);refine⟨by rw[g];exact w.e,f,ha,?_,?_,?_,b⟩;.rw[ho n (w.lt n (by simp[Gb])) (CZ jA.1.1) hnm];exact w.hn
 .intro p hp;refine(w.ks p hp).FM λid Jk=>?_;have h1:id∈ps.filterMap (λp=>H9 p.kv):=Cq.2 ⟨p,hp,Jk⟩;have h2:=w.aJg id (An.2 (.inr h1));exact ho id h2.1 h2.2.1 λe=>(BW.1 jA.2.2).2.2 id (by simp[e]) id h1 rfl
 .rcases hm with rfl|⟨j,rfl,hj⟩
  .exact nd
  .have d:∀i∈ps.filterMap (λp=>H9 p.kv),i<h.length:=λi hi=>(w.aJg i (An.2 (.inr hi))).1;have l:=w.lt a (by simp[Gb]);have k:=w.lt n (by simp[Gb]);have c:=(BW.1 jA.2.2).2.1;unfold Gb;simp only[B6,AE,aQm,B8,BA,PU];exact⟨⟨jA.1.1,Ab,λhm=>jA.1.2 (An.2 (.inr hm))⟩,⟨Ab,λhm=>jA.2.1 (An.2 (.inr hm))⟩,λhm=>by have:=d j hm;omega,c⟩
def aJi{i:Nat}(hm:m=some i):i∈Gb a n m ps:=by unfold Gb;simp[hm]
def PA.aJj(w:PA h a n m ps A){l:List (Int×Int)}{id:Nat}(u:m=some id)(hc:h[id]?=some (.map (l.map RJ)))(hl:∀k,(l.find? λx=>decide (k=x.1)).map (·.2)=if A.inr k=0 then none else some (A.inr k)){d i:Int}(hd:A.has d)(hi:A.has i)(p:d≠i)(h0:A.inr d=0)(r:A.inr i=0):
  ∃h1 h2 h3,Eu (.O2 (I 0)) h [.map m,I d]=some (h1,.tuple [I 0,I l.length])/\Eu .Ld h1 [.map m,I l.length,I i]=some (h2,.bool true)/\
   Eu (.O2 (I 0)) h2 [.map m,I i]=some (h3,.tuple [I 0,I ((l.length+1:Nat):Int)])/\∃q,Eu .Ld h3 [.map m,I ((l.length+1:Nat):Int),I i]=some (q,.bool true)/\PA q a n m ps ((A.OG d i).OG i i)/\(∀j,j≠id->q[j]?=h[j]?)/\q.length=h.length:=by
 subst u;have Jk:=(Aj.1 hc).1;have b:∀k,A.inr k=0->l.find? (λx=>decide (k=x.1))=none:=by
  intro k hk;have:=hl k;rw[Af hk] at this;cases hf:l.find? (λx=>decide (k=x.1)) with
  |none=>rfl
  |some y=>rw[hf] at this;cases this
 obtain⟨h1,G,h2,E,rfl⟩:=gw (v:=i) hc (b d h0);have Mn:(h.set id (.map ((l++[(d,i)]).map RJ)))[id]?=some (.map ((l++[(d,i)]).map RJ)):=AI Jk;obtain⟨h3,C,q,B,rfl⟩:=gw (k:=i) (v:=i) Mn (by rw[qD,b i r];simp[CZ p]);simp only[Ao,AS] at C B;refine⟨h1,_,h3,G,E,C,_,B,?_,?_,AB⟩
 .have g:id≠a:=λe=>by have:=w.nd;unfold Gb at this;simp[e] at this
  refine w.aJh (m':=some id) (A':=(A.OG d i).OG i i) rfl ?_ ?_ ?_ (.inl rfl) ?_;.simp only[Ar.OG];split<;>split<;>simp[w.il]
  .rw[Aq g,Aq g];exact w.ha
  .intro j hj D z;have:id≠j:=λe=>z (by rw[e]);rw[Aq this,Aq this]
  .refine .inr ⟨id,l++[(d,i)]++[(i,i)],rfl,?_,λk=>?_⟩;.rw[AI (by simpa using Jk)];rfl
   .have t:(A.OG d i).i.length=(A.OG d i).n.length:=by simp only[Ar.OG];split<;>simp[w.il]
    rw[Yz t,Yz w.il,qD,qD];have xr:(A.OG d i).has i:=hi;have hk:=hl k;have o:i≠0:=by have:=hi.1;omega
    cases hf:l.find? (λx=>decide (k=x.1)) with
    |some y=>
     rw[hf] at hk;have c:A.inr k≠0:=by intro e;rw[Af e] at hk;cases hk
     have s:k≠i:=λe=>c (e▸r);have f:k≠d:=λe=>c (e▸h0);simp only[s,f,wF,DP,Option.some_or];exact hk
    |none=>
     rw[hf] at hk;have c:A.inr k=0:=by
      by_cases e:A.inr k=0;.exact e
      .rw[Ac e] at hk;cases hk
     by_cases f:k=d;.subst f;simp[p,hd,o]
     .by_cases s:k=i;.subst s;simp[f,xr,o]
      .simp[s,f,c]
 .intro j hj;rw[Aq (CZ hj),Aq (CZ hj)]
def aJk(w:PA h a n m ps A)(D:NB A)(hb:A.len+1<=1000000000)(hx:A.has x):
  ∃h' n' m' PI,Cy cx 278 [Pt a 0,I x] h (I (A.ID x)) h'/\PA h' a n' m' PI (A.Fg x)/\Fo h (λi=>i∈Gb a n m ps) h' (λi=>i∈Gb a n' m' PI):=by
 have l1:Bn h none (Pt a 1)=some (.map m):=by simp only[Bn,w.ha];rfl
 have g1:=w.mp.get x;by_cases h0:A.inr x=0
 .obtain⟨h1,z,w1,C,d⟩:=aN5 w D hb false;have g:=w.Ry (p:=Lc false (A.len+1)) rfl C d;have s:A.ID x=A.len+1:=by unfold Ar.ID;rw[Ac (by simp[h0])]
  have t:A.Fg x=((A.add {kind:=1,BM:=A.len+1}).OG x (A.len+1)).OG (A.len+1) (A.len+1):=by unfold Ar.Fg;rw[Ac (by simp[h0])]
  have aAR:∀k,(A.add {kind:=1,DW:=false,BM:=A.len+1}).inr k=A.inr k:=λk=>WL w.il;have UE:(A.add {kind:=1,DW:=false,BM:=A.len+1}).has x:=Em.2 (.inl hx);have sC:(A.add {kind:=1,DW:=false,BM:=A.len+1}).has (A.len+1):=Em.2 (.inr rfl);have hne:=Sx hx;have f:A.inr (A.len+1)=0:=by unfold Ar.inr;rw[Ac Pu]
  have l2:Bn h1 none (Pt a 1)=some (.map m):=by simp only[Bn,w1.ha];rfl
  rw[Af h0] at g1;rcases w1.mp with⟨rfl,hz⟩|⟨id,l,rfl,hc,hl⟩
  .have yo:=w1.ha;have WE:a<h1.length:=w1.lt a (by simp[Gb]);have UB:(h1++[GJ.map []])[a]?=some (.cells [.Dn h.length 0 (ps++[Lc false (A.len+1)]).length 13,.map none]):=by rw[Al WE];exact yo
   have es:C9 (h1++[GJ.map []]) 1 (Pt a 1) (.map (some h1.length))=some ((h1++[GJ.map []]).set a (.cells [.Dn h.length 0 (ps++[Lc false (A.len+1)]).length 13,.map (some h1.length)])):=by simp only[C9,UB];rfl
   have Ū:((h1++[GJ.map []]).set a (.cells [.Dn h.length 0 (ps++[Lc false (A.len+1)]).length 13,.map (some h1.length)]))[a]?=some (.cells [.Dn h.length 0 (ps++[Lc false (A.len+1)]).length 13,.map (some h1.length)]):=AI Et;have el:Bn ((h1++[GJ.map []]).set a (.cells [.Dn h.length 0 (ps++[Lc false (A.len+1)]).length 13,.map (some h1.length)])) none (Pt a 1)=some (.map (some h1.length)):=by simp only[Bn,Ū];rfl
   have ř:((h1++[GJ.map []]).set a (.cells [.Dn h.length 0 (ps++[Lc false (A.len+1)]).length 13,.map (some h1.length)]))[h1.length]?=some (.map (([]:List (Int×Int)).map RJ)):=by rw[Aq Ab,Bu (Ad _),E9];rfl
   have B:PA ((h1++[GJ.map []]).set a (.cells [.Dn h.length 0 (ps++[Lc false (A.len+1)]).length 13,.map (some h1.length)])) a h.length (some h1.length) (ps++[Lc false (A.len+1)]) (A.add {kind:=1,DW:=false,BM:=A.len+1}):=by refine w1.aJh rfl w1.il Ū (λi hi c _=>by rw[Aq (CZ c),Al hi]) (.inr ⟨_,rfl,Ad _⟩) (.inr ⟨h1.length,[],rfl,ř,λk=>by rw[Af (hz k)];rfl⟩)
   obtain⟨H,G,E,r,q,o,y,j,u,v,b⟩:=B.aJj rfl ř (λk=>by rw[Af (hz k)];rfl) UE sC hne ((aAR x).trans h0) ((aAR _).trans f);refine⟨y,_,_,_,?_,t▸u,⟨by rw[b];simp;omega,λi hi ZH=>?_,λi hi=>?_⟩⟩;.simp only[AW] at r q o j;rw[Ag,WT,Ï,s];simp only[Cx,l1,g1,z.Ae,l2,show AH (.Gf false .mp) [.map none,.map none]=some (.bool true) from rfl,es,el,r,q,o,j]
   .have J:=g.old i hi ZH;have c:i≠a:=λe=>ZH (by simp[Gb,e]);rw[v i Ab,Aq (CZ c),Al Ab,J]
   .unfold Gb at hi;simp only[AE,aQm,B8,BA] at hi;rcases hi with rfl|rfl|rfl|hi
    .exact .inl (by simp[Gb])
    .exact .inr (Ad _)
    .exact .inr Ab
    .exact g.BT i (by unfold Gb;simp only[AE,Option.toList_none,BA];exact .inr (.inr hi))
  .obtain⟨H,G,E,r,q,o,y,j,u,v,b⟩:=w1.aJj rfl hc hl UE sC hne ((aAR x).trans h0) ((aAR _).trans f);refine⟨y,_,_,_,?_,t▸u,⟨Ab,λi hi ZH=>?_,g.BT⟩⟩;.rw[Ag,WT,Ï,s];simp only[Cx,l1,g1,z.Ae,l2,show AH (.Gf false .mp) [.map (some id),.map none]=some (.bool false) from rfl,r,q,o,j]
   .rw[v i (λe=>ZH (e▸aJi rfl))];exact g.old i hi ZH
 .have s:A.ID x=A.inr x:=by unfold Ar.ID;rw[Af h0]
  have t:A.Fg x=A:=by unfold Ar.Fg;rw[Af h0]
  refine⟨h,n,m,ps,?_,by rw[t];exact w,.refl⟩;rw[Ac h0] at g1;rw[Ag,WT,Ï,s];simp only[Cx,l1,g1]
def NB.aJl(b:NB A)(h1:A.len+1<=1000000000):NB (A.Fg x):=by
 unfold Ar.Fg;split;.exact b
 .have:=b.add (y:={kind:=1,BM:=A.len+1}) h1 AB AB;exact⟨this.n,this.at_,this.data⟩
def qg(hk:A.has x){d:Int}:(A.Fg d).nd x=A.nd x:=YE (.inl (Sx hk))
def aJm{l:List Be}{v:Aa}{d sp:Int}{nm:Ah}(w:PA h a n m ps A)(D:NB A)(hb:A.len+3<=1000000000)(hd:A.has d/\(A.nd d).kind=1)(hsp:BS.L6 sp)(hv:Bw l v)(hl:l.length<=1000000000)(hs:∀y∈l,BS.L6 y.A9):
  ∃h' n' m' PI,Cy cx 243 [Pt a 0,I d,I sp,.str nm,v] h (.tuple [I (A.len+1),I 0]) h'/\PA h' a n' m' PI (A.elem d sp nm l)/\Fo h (λi=>i∈Gb a n m ps) h' (λi=>i∈Gb a n' m' PI)/\NB (A.elem d sp nm l):=by
 have eQ:=w.len;have B:=aCn (h:=h) (oK hv) hl hs;obtain⟨u,hu⟩:∃u,u=Wp (Dt l):=⟨_,rfl⟩;rw[<-hu] at B;have ue:(Dt l).length<=1000000000:=by have:=TG (l:=l);omega
 have c:=aCl (h:=h) (y:=sp);rw[Ak hsp] at c;obtain⟨h1,P,w1,S,l1⟩:=á w Ab ⟨{kind:=4,BM:=d,A9:=sp,name:=nm,As:=Dt l},.slnil,u,hu⟩ rfl rfl;have b:=D.add (y:={kind:=4,BM:=d,A9:=sp,name:=nm,As:=Dt l}) Ab ue AB;have UE:(A.add {kind:=4,BM:=d,A9:=sp,name:=nm,As:=Dt l}).has (A.len+1):=Em.2 (.inr rfl);have Te:(A.add {kind:=4,BM:=d,A9:=sp,name:=nm,As:=Dt l}).nd (A.len+1)={kind:=4,BM:=d,A9:=sp,name:=nm,As:=Dt l}:=by rw[Kb,Af rfl]
 have H:=w.Ry (p:=⟨{kind:=4,BM:=d,A9:=sp,name:=nm,As:=Dt l},.slnil,u,hu⟩) rfl S l1;have j:Cy cx 38 [Pt a 0,.agg [I 4,I 0,.slnil,I d,I sp,.str nm,u,.str [],.str [],.str [],.bool false,I 0,I 0]] h (I (A.len+1)) h1:=P;have r2:=I8 w1 b UE;have g:=aJf w1 UE;rw[Te] at g;have hc:u.cells=[u]:=by rw[hu];exact BB.cells WY
 unfold Ar.elem;simp only
 by_cases s:cQ {kind:=4,BM:=d,A9:=sp,name:=nm,As:=Dt l}
 .rw[Af s];rw[Ak s] at g;have ĺ:(A.add {kind:=4,BM:=d,A9:=sp,name:=nm,As:=Dt l}).has d:=Em.2 (.inl hd.1);obtain⟨h2,V,W,ã,O,t,K⟩:=aJk w1 b (by rw[Rq];omega) ĺ;have C:=b.aJl (x:=d) (by rw[Rq];omega);have sB:((ã.length:Nat):Int)=((A.add {kind:=4,BM:=d,A9:=sp,name:=nm,As:=Dt l}).Fg d).len:=t.len;have oN:((A.add {kind:=4,BM:=d,A9:=sp,name:=nm,As:=Dt l}).Fg d).len<=A.len+2:=by rw[pj,Rq];split<;>omega
  obtain⟨h3,N,f,R,l3⟩:=á t Ab ⟨{kind:=2,Fm:=A.len+1,BM:=(A.add {kind:=4,BM:=d,A9:=sp,name:=nm,As:=Dt l}).ID d},.slnil,.slnil,rfl⟩ rfl rfl;obtain⟨o,E⟩:∃o,o=ã++[⟨{kind:=2,Fm:=A.len+1,BM:=(A.add {kind:=4,BM:=d,A9:=sp,name:=nm,As:=Dt l}).ID d},.slnil,.slnil,rfl⟩]:=⟨_,rfl⟩;have G:=t.Ry (p:=⟨{kind:=2,Fm:=A.len+1,BM:=(A.add {kind:=4,BM:=d,A9:=sp,name:=nm,As:=Dt l}).ID d},.slnil,.slnil,rfl⟩) rfl R l3;rw[<-E] at f G;have q:=C.add (y:={kind:=2,Fm:=A.len+1,BM:=(A.add {kind:=4,BM:=d,A9:=sp,name:=nm,As:=Dt l}).ID d}) Ab AB AB;have z:Cy cx 38 [Pt a 0,.agg [I 2,I 0,.slnil,I ((A.add {kind:=4,BM:=d,A9:=sp,name:=nm,As:=Dt l}).ID d),I 0,.str [],.slnil,.str [],.str [],.str [],.bool false,I 0,I (A.len+1)]] h2 _ h3:=N;have ZI:=OJ (h:=d) UE;have e:=Em (x:={kind:=2,Fm:=A.len+1,BM:=(A.add {kind:=4,BM:=d,A9:=sp,name:=nm,As:=Dt l}).ID d}).2 (.inl ZI);have r:(((A.add {kind:=4,BM:=d,A9:=sp,name:=nm,As:=Dt l}).Fg d).add {kind:=2,Fm:=A.len+1,BM:=(A.add {kind:=4,BM:=d,A9:=sp,name:=nm,As:=Dt l}).ID d}).nd (A.len+1)={kind:=4,BM:=d,A9:=sp,name:=nm,As:=Dt l}:=by rw[Ls ZI,qg UE,Te]
  have M:=I8 f q e;have hp:=(f.pn e).2.1;rw[r] at hp;obtain⟨U,L,J,T,Q,l4⟩:=f.wr e (k:=11) AA (v:= I (((A.add {kind:=4,BM:=d,A9:=sp,name:=nm,As:=Dt l}).Fg d).len+1)) rfl (p:=⟨{kind:=4,BM:=d,A9:=sp,name:=nm,As:=Dt l,cont:=((A.add {kind:=4,BM:=d,A9:=sp,name:=nm,As:=Dt l}).Fg d).len+1},(pN o (A.len+1)).kv,(pN o (A.len+1)).av,by have:=(pN o (A.len+1)).ok;rw[hp] at this;exact this⟩) (by simp only[PN.row];rw[hp];rfl) rfl (by rw[r]);refine⟨U,_,_,_,?_,J,H.trans (K.trans (G.trans (f.gu J T Q l4))),q.set ue AB⟩;rw[Ag,iR,aAB];simp only[abS,Nat.reduceLeDiff,↓reduceIte,Cl,(oL (x:=d) w D).Ae,Af hd.1,Af hd.2,CY,C4,B.Ae,GW,c.Ae,hc,j.Ae,r2.Ae,g.Ae,O.Ae,z.Ae,M.Ae,L]
 .rw[Ac s];rw[Ap s] at g;refine⟨h1,_,_,_,?_,w1,H,b⟩;rw[Ag,iR,aAB];simp only[abS,Nat.reduceLeDiff,↓reduceIte,Cl,(oL (x:=d) w D).Ae,Af hd.1,Af hd.2,CY,C4,B.Ae,GW,c.Ae,hc,j.Ae,r2.Ae,g.Ae]
def dA{U:Type}{p q:U->Bool}{y:U}:∀{l:List U},(∀x∈l,p x=true->q x=true)->y∈l->p y=false->q y=true->(l.filter p).length<(l.filter q).length
 |[],_,h,_,_=>by cases h
 |x::l,hi,hy,hp,hq=>by
  have le:∀{l:List U},(∀x∈l,p x=true->q x=true)->(l.filter p).length<=(l.filter q).length:=by
   intro l;induction l with
   |nil=>intro _;simp
   |cons z l ih=>
    intro hi;have:=ih λx hx=>hi x (by simp[hx]);rw[HE,HE];split;.rename_i hz;rw[Af (hi z AB hz)];simp;exact this
    .split;.simp;omega
     .exact this
  have hl:=λx (hx:x∈l)=>hi x (by simp[hx]);rw[HE,HE];rcases AE.1 hy with rfl|hy
  .rw[Ac (by simp[hp]),Af hq];have:=le hl;simp;omega
  .have ih:=dA hl hy hp hq;split;.rename_i hz;rw[Af (hi x AB hz)];simp;exact ih
   .split;.simp;omega
    .exact ih
def uL{r:Int->Nat}{k y:Int}(hr:∀h,A.has h->A.up h≠0->r (A.up h)<r h)(hR:Reach A k y)(hy:A.has y):r k<=r y:=by
 induction hR with
 |refl=>exact Ad _
 |@step z h1 h2 ih=>
  by_cases hz:A.has (A.up z);.have:=ih hz;have:=hr z hy h1;omega
  .cases h2 with
   |refl=>have:=hr z hy h1;omega
   |step h3 _=>exact absurd (YC hz) h3
open Classical in
def uM{e:Int}(ok:EA A e):∃r:Int->Nat,(∀h,A.has h->A.up h≠0->r (A.up h)<r h)/\∀h,r h<=A.n.length:=by
 obtain⟨r,hr⟩:=ok.L5;refine⟨λh=>((List.range A.n.length).filter λ(i:Nat)=>decide (Reach A ((i:Int)+1) h/\(i:Int)+1≠h)).length,λh c hu=>?_,λh=>?_⟩
 .have b:=gK ok c hu;have Tt:=b;unfold Ar.has at Tt;have d:(((A.up h).toNat-1:Nat):Int)+1=A.up h:=Ab;refine dA (y:=(A.up h).toNat-1) (λi _ hi=>?_) (List.mem_range.2 Ab) ?_ ?_;.rw[Ct] at hi⊢;refine⟨.step hu hi.1,λe=>?_⟩;have h1:=uL hr hi.1 b;have h2:=hr h c hu;rw[e] at h1;omega
  .rw[d];simp
  .rw[d,Ct];exact⟨.step hu .refl,aB4 ok c hu⟩
 .have:=Wv (λ(i:Nat)=>decide (Reach A ((i:Int)+1) h/\(i:Int)+1≠h)) (List.range A.n.length);rwa [List.length_range] at this
def PA.cell(w:PA h a n m ps A)(hx:A.has x){k:Nat}(hk:k<13):(ps.map PN.row).flatten[0+(x.toNat-1)*13+k]?=(pN ps x).row[k]?:=by rw[BE];exact YT (oJ ps) hk (by rw[Dm,(w.pn hx).1];rfl)
open Classical in
def YX(w:PA h a n m ps A){up:Int}{r:Int->Nat}{e:Int}(ok:EA A e)(hr:∀h,A.has h->A.up h≠0->r (A.up h)<r h)(c:up≠0):∀(fuel:Nat) (x:Int),(x=0\/(A.has x/\r x<fuel))->MF (ps.map PN.row).flatten 0 ps.length up fuel x=some (decide (Reach A up x))
 |fuel,x,hx=>by
  by_cases h0:x=0
  .subst h0;have no:¬Reach A up 0:=by
    intro hR;cases hR with
    |refl=>exact c rfl
    |step h1 _=>exact h1 (YC (by unfold Ar.has;omega))
   rw[Ap no];cases fuel<;>rfl
  .have hx:=hx.resolve_left h0;cases fuel with
   |zero=>omega
   |succ fuel=>
    have f:MF (ps.map PN.row).flatten 0 ps.length up (fuel+1) x=if x=up then some true else if 1<=x/\x<=ps.length then
      match Hd (ps.map PN.row).flatten 0 x 1,Hd (ps.map PN.row).flatten 0 x 12 with
      |some p,some q=>MF (ps.map PN.row).flatten 0 ps.length up fuel (if p=0 then q else p)
      |_,_=>none
     else none:=by
     rw[MF];.rfl
     .exact λh=>h0 h
    rw[f];by_cases b:x=up;.rw[Af b,b,Ak .refl]
    .rw[Ac b,Af (by have:=hx.1;have:=w.Ü;unfold Ar.has at*;omega)];have i:Hd (ps.map PN.row).flatten 0 x 1=some (A.nd x).GR:=by unfold Hd;rw[w.cell hx.1 AA,<-(w.pn hx.1).2.1];rfl
     have g:Hd (ps.map PN.row).flatten 0 x 12=some (A.nd x).Fm:=by unfold Hd;rw[w.cell hx.1 AA,<-(w.pn hx.1).2.1];rfl
     rw[i,g];simp only
     have d:(if(A.nd x).GR=0 then(A.nd x).Fm else(A.nd x).GR)=A.up x:=by unfold Ar.up;by_cases h:(A.nd x).GR=0<;>simp[h]
     rw[d];have ih:=YX w ok hr c fuel (A.up x) (by
      by_cases hu:A.up x=0;.exact .inl hu
      .exact .inr ⟨gK ok hx.1 hu,by have:=hr x hx.1 hu;omega⟩)
     rw[ih];congr 1
     rw[EF];constructor
     .intro h1;by_cases hu:A.up x=0
      .rw[hu] at h1;cases h1 with
       |refl=>exact absurd rfl c
       |step h3 _=>exact absurd (YC (by unfold Ar.has;omega)) h3
      .exact .step hu h1
     .intro h1;cases h1 with
      |refl=>exact absurd rfl b
      |step _ h2=>exact h2
open Classical in
def aJn{up e:Int}(w:PA h a n m ps A)(ok:EA A e)(hu:A.has up)(hx:A.has x):Cy cx 109 [Pt a 0,I up,I x] h (.bool (decide (Reach A up x))) h:=by
 obtain⟨r,hr,b⟩:=uM ok;have RG:=w.Ü;have hc:=YX w ok hr (up:=up) (by have:=hu.1;omega) (ps.length+1) x (.inr ⟨hx,by have:=b x;omega⟩);have c:Eu (.Xl Ot) h [Pt a 0,I up,I x]=some (h,.bool (decide (Reach A up x))):=by simp only[Eu,Ot,w.ha,w.hn];rw[Af (by rw[ß];omega),Af (by unfold Ar.has at hu hx;omega),hc];rfl
 rw[Ag,show Cd cx 109 [Pt a 0,I up,I x]=Ou [Pt a 0,I up,I x] from rfl,Ou];simp only[Cx,c]
structure uN(h:Ai)(v:Aa)(l:List Int):Prop where
 len:AH (.len false) [v]=some (I (l.length:Int))
 at_:∀k (hk:k<l.length),∃p,AH (.GY 1) [v,I (k:Int)]=some p/\Bn h none p=some (I l[k])
def KO.oO{kv:Aa}{l:List Int}(hk:KO h kv l):uN h kv l:=by
 refine⟨hk.len,λk hlt=>?_⟩;rcases hk with⟨rfl,rfl⟩|⟨id,cs,rfl,hc⟩
 .simp at hlt
 .refine⟨Pt id k,by have:=Jq (id:=id) (z:=1) (k:= .i64) hlt;rwa [Hz] at this,?_⟩;simp only[Bn,hc,I4];rw[Al (by simpa using hlt)];simp[hlt]
def IH.oO{v:Aa}{l:List Int}(hv:IH l v):uN h v l:=⟨BB.GN hv,λk hk=>⟨_,BB.DN hv hk,rfl⟩⟩
def aFY{v:Aa}{l:List Int}(hv:uN h v l)(hb:l.length<=1000000000)(x:Int):Cy cx 111 [v,I x] h (I (Cr (λy=>decide (x=y)) 0 l)) h:=by
 rw[Ag,yU,aD7];simp only[Cx,hv.len];refine Co (λk:Nat=>[I 0,I (k:Int)]) (λk h1=>k<=l.length/\Cr (λy=>decide (x=y)) 0 l=Cr (λy=>decide (x=y)) k (l.drop k)/\h1=h) (λk=>l.length-k) 0 rfl ⟨Bp _,rfl,rfl⟩ ?_;rintro k h1 ⟨hk,ha,rfl⟩;rcases Bl k l.length with hlt|IS
 .have i1:(k:Int)<(l.length:Int):=by omega
  obtain⟨p,c,b⟩:=hv.at_ k hlt;rw[Az hlt,Cr] at ha;simp only[abS,i1,c,b,Dw (Ab:k<9223372036854775807)];refine⟨λh2=>?_,λh2=>?_⟩;.rw[ha,Af (by simpa using h2)]
  .rw[Ac (by simpa using h2)] at ha;exact BC.next (k+1) rfl ⟨hlt,ha,rfl⟩ Ab
 .have i1:¬(k:Int)<(l.length:Int):=by omega
  rw[AR IS,Cr] at ha;simp only[abS,i1,ha]
def jC{l:List Int}{x:Int}(hx:x∈l):∃k,k<l.length/\Cr (λy=>decide (x=y)) 0 l=(k:Int)/\l[k]?=some x/\l.takeWhile (λy=>decide (y≠x))=l.take k/\l.dropWhile (λy=>decide (y≠x))=l.drop k:=by
 have key:∀(l:List Int) (s:Nat),x∈l->∃k,k<l.length/\Cr (λy=>decide (x=y)) s l=((s+k:Nat):Int)/\l[k]?=some x/\l.takeWhile (λy=>decide (y≠x))=l.take k/\l.dropWhile (λy=>decide (y≠x))=l.drop k:=by
  intro l;induction l with
  |nil=>intro s h;cases h
  |cons z l ih=>
   intro s h;by_cases e:x=z;.subst e;exact⟨0,AB,by rw[Cr,Af AB];simp,rfl,AB,AB⟩
   .have h2:x∈l:=(AE.1 h).resolve_left e;obtain⟨k,d,c,b,i,g⟩:=ih (s+1) h2;have f:z≠x:=λj=>e j.symm;refine⟨k+1,by simp;exact d,by rw[Cr,Ac (by simpa using e),c];congr 1;omega,by simpa using b,?_,?_⟩;.rw[List.takeWhile_cons,Af (by simpa using f),i];rfl
    .rw[List.dropWhile_cons,Af (by simpa using f),g];rfl
 obtain⟨k,d,c,b⟩:=key l 0 hx;exact⟨k,d,by simpa using c,b⟩
def TV{l:List Int}{x:Int}{k:Nat}(hn:l.Nodup)(hk:l[k]?=some x):l.take k++l.drop (k+1)=l.filter λy=>decide (y≠x):=by
 obtain⟨hlt,e⟩:=Aj.1 hk;have c:l=l.take k++x::l.drop (k+1):=by conv=>lhs;rw[<-Br k l,Az hlt,e]
 rw[c,BW,B6] at hn;conv=>rhs;rw[c,Bc,HE,Ac AB]
 rw[Hn.2 (λy hy=>by simpa using λb:y=x=>hn.2.2 y hy x AB b),Hn.2 (λy hy=>by simpa using λb:y=x=>hn.2.1.1 (b▸hy))]
def aFZ{id l k:Nat}(hl:0<l)(hk:k<=l):AH (.Rb 1 false false true) [.Dn id 0 l 1,I (k:Int)]=some (.Dn id 0 k 1):=by
 have b:EP (k:Int) l=some k:=by unfold EP;rw[Af Ab];rfl
 simp[AH,Jl,DY,b];omega
def aF0{id l k:Nat}(hk:k<=l):AH (.Rb 1 false true false) [.Dn id 0 l 1,I (k:Int)]=some (if k<l then .Dn id k (l-k) 1 else .sl 1 []):=by
 have b:EP (k:Int) l=some k:=by unfold EP;rw[Af Ab];rfl
 simp[AH,Jl,DY,b];split<;>rfl
def aJo{id k:Nat}{l:List Int}{cs:List Aa}(hc:h[id]?=some (.cells (l.map (Aa.int .i64)++cs)))(hk:k<l.length)(hb:l.length<=1000000000):
  ∃Hp,Cy cx 185 [.Dn id 0 l.length 1,I (k:Int),I ((k+1:Nat):Int)] h (.Dn id 0 (l.length-1) 1) (h.set id (.cells ((l.take k++l.drop (k+1)).map (Aa.int .i64)++Hp))):=by
 have Jk:=(Aj.1 hc).1;have b:(l.take k++l.drop (k+1)).length=l.length-1:=by rw[Ao,Ay,AX];omega
 obtain⟨Tk,o,hcl⟩:∃Tk,GZ h 1 8 (.Dn id 0 k 1) (if k+1<l.length then .Dn id (k+1) (l.length-(k+1)) 1 else .sl 1 [])=some (h.set id (.cells ((l.take k++l.drop (k+1)).map (Aa.int .i64)++Tk)),.Dn id 0 (l.length-1) 1)/\1<=Tk.length:=by
  have f:H0 h 1 (if k+1<l.length then .Dn id (k+1) (l.length-(k+1)) 1 else .sl 1 [])=some ((l.drop (k+1)).map Dj):=by
   by_cases XF:k+1<l.length;rotate_left;.rw[Ac XF,AR Ab];rfl
   rw[Af XF];have c:=Ob (l:=l.drop (k+1)) (cs:=cs) (JR:=(l.take (k+1)).map (Aa.int .i64));rw[<-A6,<-Cg,Br] at c;simp only[Aw,Ay,AX] at c;rw[BO Ab] at c;simp only[H0,BN,hc,c];rw[Af Et]
  by_cases aJp:k+1=l.length
  .refine⟨I l[k]::cs,?_,AB⟩;have g:l.drop (k+1)=[]:=AR Ab;rw[g] at f⊢;have e:l.map (Aa.int .i64)++cs=(l.take k++[]).map (Aa.int .i64)++ I l[k]::cs:=by
    have:l=l.take k++[l[k]]:=by conv=>lhs;rw[<-Br k l,Az hk,g]
    conv=>lhs;rw[this,Cg,A6]
    rw[Bg];rfl
   have j:h.set id (.cells ((l.take k++[]).map (Aa.int .i64)++ I l[k]::cs))=h:=by rw[<-e];obtain⟨sB,t⟩:=Aj.1 hc;rw[<-t,N0]
   simp only[GZ,f,DM,BN];rw[j,(Ab:l.length-1=k)]
  .obtain⟨y,l2,hd⟩:∃y l2,l.drop (k+1)=y::l2:=⟨_,_,Az (Ab:k+1<l.length)⟩;have oN:(y::l2).length=l.length-(k+1):=by rw[<-hd,AX]
   rw[hd] at f;have aJq:∀l3:List Int,(l3.map Dj).flatten=l3.map (Aa.int .i64):=by
    intro l3;induction l3 with
    |nil=>rfl
    |cons z l3 ih=>simp[Dj,ih]
   refine⟨(l.map (Aa.int .i64)++cs).drop (l.length-1),?_,Et⟩;simp only[GZ,f,Bj,hc,BN];have s:(Dj y::l2.map Dj).length=l.length-(k+1):=by rw[<-oN];simp
   have r:(Dj y::l2.map Dj).flatten=(y::l2).map (Aa.int .i64):=by have:=aJq (y::l2);simpa using this
   rw[s,r,Af Et];have q:(l.map (Aa.int .i64)++cs).take (0+k*1)=(l.take k).map (Aa.int .i64):=by rw[BE,Hz,Bi Et,HA]
   rw[q,hd,(Ab:0+(k+(l.length-(k+1)))*1=l.length-1),(Ab:k+(l.length-(k+1))=l.length-1)];simp
 generalize qh:h.set id (.cells ((l.take k++l.drop (k+1)).map (Aa.int .i64)++Tk))=h2 at o;have Mn:h2[id]?=some (.cells ((l.take k++l.drop (k+1)).map (Aa.int .i64)++Tk)):=by rw[<-qh];exact AI Jk
 have g:Eu (.k_ 1 true true) h2 [.Dn id 0 (l.length-1) 1,I ((l.length-1:Nat):Int),I (l.length:Int)]=some (h2,.Dn id (l.length-1) 1 1):=by
  simp only[Eu,lQ,Mn];have uO:((l.take k++l.drop (k+1)).map (Aa.int .i64)++Tk).length=l.length-1+Tk.length:=by rw[Ao,Aw,b]
  have u:EP (l.length:Int) ((((l.take k++l.drop (k+1)).map (Aa.int .i64)++Tk).length-0)/1)=some l.length:=by unfold EP;rw[Af (by rw[uO];omega)];rfl
  have c:EP ((l.length-1:Nat):Int) l.length=some (l.length-1):=by unfold EP;rw[Af Ab];rfl
  rw[Af ⟨trivial,trivial,Bp _⟩];simp only[DY,u,c,Cw,BV];rw[Af (by rw[uO];omega)];congr 3
  .omega
  .omega
 have p:Eu (.clear 1 [I 0]) h2 [.Dn id (l.length-1) 1 1]=some (h.set id (.cells ((l.take k++l.drop (k+1)).map (Aa.int .i64)++(I 0::Tk.drop 1))),.bool true):=by
  simp only[Eu,Xp,Mn];rw[Af ⟨trivial,rfl,by rw[Ao,Aw,b];omega⟩];congr 2
  rw[<-qh,Nu];congr 2
  have e:(((l.take k++l.drop (k+1)).map (Aa.int .i64)++Tk).take (l.length-1))=(l.take k++l.drop (k+1)).map (Aa.int .i64):=JZ (by rw[Aw,b]);have j:(((l.take k++l.drop (k+1)).map (Aa.int .i64)++Tk).drop (l.length-1+1*1))=Tk.drop 1:=by rw[show l.length-1+1*1=((l.take k++l.drop (k+1)).map (Aa.int .i64)).length+1 by rw[Aw,b],Jf];simp
  rw[e,j];simp
 refine⟨I 0::Tk.drop 1,?_⟩;have d:∀i n,AH (.len false) [.Dn i 0 n 1]=some (I (n:Int)):=λ_ _=>rfl;have e:Eu (.qO 1) h [.Dn id 0 l.length 1,I (k:Int),I ((k+1:Nat):Int),I (l.length:Int)]=some (h,.bool true):=by simp only[Eu,Xq];simp;omega
 rw[Ag,au,aEL];simp only[abS,d,e,(Ab:¬(k:Int)=((k+1:Nat):Int)),aFZ (id:=id) (Ab:0<l.length) (Ab:k<=l.length),aF0 (id:=id) (Ab:k+1<=l.length),o,g,p]
def ä:∀{n:Nat} {l:List Int},l.Nodup->(∀x∈l,1<=x/\x<=n)->l.length<=n
 |0,l,_,h=>by
  cases l with
  |nil=>simp
  |cons x l=>have:=h x AB;omega
 |n+1,l,hn,h=>by
  have ih:=ä (n:=n) (l:=l.filter λx=>decide (x≠(n:Int)+1)) (hn.filter _) (λx hx=>by
   have h1:=BD.1 hx;have h2:=h x h1.1;have h3:x≠(n:Int)+1:=by simpa using h1.2
   omega)
  have key:∀{l:List Int},l.Nodup->l.length<=(l.filter λx=>decide (x≠(n:Int)+1)).length+1:=by
   intro l hl;induction l with
   |nil=>simp
   |cons x l ih=>
    rw[B6] at hl;rw[HE];by_cases e:x=(n:Int)+1;.rw[Ac (by simp[e]),Hn.2 (λy hy=>by simpa using λb:y=(n:Int)+1=>hl.1 (by rw[e,<-b];exact hy))];simp
    .rw[Af (by simpa using e)];have:=ih hl.2;simp only[AK];omega
  have:=key hn;omega
def å{e:Int}(ok:EA A e)(x:Int):(A.nd x).Bm.length<=A.n.length:=by
 by_cases hx:A.has x;.refine ä (ok.TH x hx).yG λk hk=>?_;exact(ok.N7 x hx k hk).1
 .rw[OH hx];exact Bp _
def NB.Bm{e:Int}(b:NB A)(ok:EA A e)(x:Int):(A.nd x).Bm.length<=1000000000:=Bv (å ok x) b.n
def NB.aOb{l:List Int}(b:NB A):NB (A.set x {A.nd x with Bm:=l}):=b.set (b.at_ x) (b.data x)
def NB.aOc{p:Int}(b:NB A):NB (A.set x {A.nd x with GR:=p}):=b.set (b.at_ x) (b.data x)
def NB.cut(b:NB A):NB (A.cut x):=by
 unfold Ar.cut;simp only;split;.exact b
 .exact NB.aOc b.aOb
def aCp{e:Int}(w:PA h a n m ps A)(g:NB A)(ok:EA A e)(hx:A.has x):
  ∃h' PI,Cy cx 110 [Pt a 0,I x] h (.tuple []) h'/\PA h' a n m PI (A.cut x)/\Fo h (λi=>i∈Gb a n m ps) h' (λi=>i∈Gb a n m PI):=by
 have hb:=g.Bm ok;by_cases hp:(A.nd x).GR=0
 .have t:A.cut x=A:=by unfold Ar.cut;simp only;rw[Af hp]
  refine⟨h,ps,?_,by rw[t];exact w,.refl⟩;rw[Ag,gW,aAh];simp only[abS,(I8 w g hx).Ae,w.f1 hx,hp]
 .obtain⟨hq,hk⟩:=ok.GR x hx hp;generalize c:(A.nd x).GR=q at*;have hne:q≠x:=by rw[<-c];exact tJ ok hx (by rw[c];exact hp)
  obtain⟨k,l,J,C,_,_⟩:=jC hk;have N7:=w.N7 hq;have j:=aFY N7.oO (hb q) x;rw[J] at j;rcases r:N7 with⟨_,e0⟩|⟨id,cs,b,hc⟩
  .rw[e0] at l;simp at l
  clear r;rw[b] at j;obtain⟨Hp,r2⟩:=aJo hc l (hb q);rw[TV (ok.TH q hq).yG C] at r2;have bP:(A.nd q).Bm.length-1=((A.nd q).Bm.filter λy=>decide (y≠x)).length:=by rw[<-TV (ok.TH q hq).yG C,Ao,Ay,AX];omega
  rw[bP] at r2;have Ś:=(Aj.1 hc).1;have o:=(w.pn hq).2.1;generalize Ķ:h.set id (.cells (((A.nd q).Bm.filter λy=>decide (y≠x)).map (Aa.int .i64)++Hp))=h1 at r2;have aJr:id∈Gb a n m ps:=L8 (w.pn hq).2.2 (by rw[b];rfl);have aOe:id≠n:=by intro d;have:=w.nd;unfold Gb at this;simp only[B6,AE,PU] at this;exact this.2.1 (d▸An.2 (.inr (Cq.2 ⟨_,(w.pn hq).2.2,by rw[b];rfl⟩)))
  have aTR:id≠a:=by intro d;have:=w.nd;unfold Gb at this;simp only[B6,AE,PU] at this;exact this.1.2 (d▸An.2 (.inr (Cq.2 ⟨_,(w.pn hq).2.2,by rw[b];rfl⟩)))
  obtain⟨f,uP⟩:∃f:PN,f=⟨{A.nd q with Bm:=(A.nd q).Bm.filter λy=>decide (y≠x)},.Dn id 0 ((A.nd q).Bm.filter λy=>decide (y≠x)).length 1,(pN ps q).av,w.att hq⟩:=⟨_,rfl⟩;have aJs:f.row=(pN ps q).row.set 2 (.Dn id 0 ((A.nd q).Bm.filter λy=>decide (y≠x)).length 1):=by rw[uP];simp only[PN.row];rw[o];rfl
  have u:h1[n]?=h[n]?:=by rw[<-Ķ,Aq aOe]
  have z:=w.sto hq (k:=2) AA (v:= .Dn id 0 ((A.nd q).Bm.filter λy=>decide (y≠x)).length 1) rfl aJs u;have aJt:H9 f.kv=H9 (pN ps q).kv:=by rw[uP,b];rfl
  have w1:=w.uc hq (p:=f) (h1:=h1) (λi _ hi=>by rw[<-Ķ,Aq];intro d;exact hi (by rw[b,d];rfl)) (by rw[uP];exact .inr ⟨id,Hp,rfl,by rw[<-Ķ];exact AI Ś⟩) (.inl aJt)
  have aCq:=gq w hq aJt;generalize qh:h1.set n (.cells ((ps.set (q.toNat-1) f).map PN.row).flatten)=h2 at z w1;generalize aTS:ps.set (q.toNat-1) f=aD at w1 aCq;have s:f.x={A.nd q with Bm:=(A.nd q).Bm.filter λy=>decide (y≠x)}:=by rw[uP]
  rw[s] at w1;have UE:(A.set q {A.nd q with Bm:=(A.nd q).Bm.filter λy=>decide (y≠x)}).has x:=J1.2 hx;have uz:=(w1.pn UE).2.1;have Te:(A.set q {A.nd q with Bm:=(A.nd q).Bm.filter λy=>decide (y≠x)}).nd x=A.nd x:=by rw[Ka,Ac (λh=>hne h.1.symm)]
  obtain⟨h3,E,D,i3,G,l3⟩:=w1.wr UE (k:=1) AA (v:= I 0) rfl (p:=⟨{A.nd x with GR:=0},(pN aD x).kv,(pN aD x).av,by have:=(pN aD x).ok;rw[uz,Te] at this;exact this⟩) (by simp only[PN.row];rw[uz,Te];rfl) rfl (B3 HP.Bm Te).symm;have t:A.cut x=(A.set q {A.nd q with Bm:=(A.nd q).Bm.filter λy=>decide (y≠x)}).set x {A.nd x with GR:=0}:=by unfold Ar.cut;simp only;rw[c,Ac hp,Te]
  refine⟨h3,_,?_,by rw[t];exact D,?_⟩;.have inc:=Dw (show k<9223372036854775807 by have:=hb q;omega);rw[Ag,gW,aAh];simp only[abS,(I8 w g hx).Ae,(I8 w g hq).Ae,w.f1 hx,c,hp,w.f2 hq,b,j.Ae,inc,r2.Ae,z,E]
  .have aTT:h2.length=h.length:=by rw[<-qh,Ch,<-Ķ,Ch]
   refine⟨Ab,λi hi ZH=>?_,λi hi=> .inl (by rw[i3,aCq] at hi;exact hi)⟩;have B:i≠n:=λd=>ZH (d▸by simp[Gb]);have H:i≠id:=λd=>ZH (d▸aJr);rw[G i B,<-qh,Aq (CZ B),<-Ķ,Aq (CZ H)]
end
end Go.Am
end
