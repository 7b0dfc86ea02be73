/- Lemmas -/
import Derived.Test.YtjboelmdplaenaaGreatDoorQ25
import Derived.Test.YtjboelmdplaenaaGreatDoorQ24
set_option linter.unusedVariables false
set_option linter.unusedSimpArgs false
section
set_option maxRecDepth 100000
namespace Go.Am
open Go
abbrev Ent:=List AVal→Option IT
def ent0 (g:IT):Ent:=λl=>match l with
 |[]=>some (g)
 |_=>none
def ent1 (g:AVal→IT):Ent:=λl=>match l with
 |[a0]=>some (g a0)
 |_=>none
def ent2 (g:AVal→AVal→IT):Ent:=λl=>match l with
 |[a0,a1]=>some (g a0 a1)
 |_=>none
def ent3 (g:AVal→AVal→AVal→IT):Ent:=λl=>match l with
 |[a0,a1,a2]=>some (g a0 a1 a2)
 |_=>none
def ent4 (g:AVal→AVal→AVal→AVal→IT):Ent:=λl=>match l with
 |[a0,a1,a2,a3]=>some (g a0 a1 a2 a3)
 |_=>none
def ent5 (g:AVal→AVal→AVal→AVal→AVal→IT):Ent:=λl=>match l with
 |[a0,a1,a2,a3,a4]=>some (g a0 a1 a2 a3 a4)
 |_=>none
def EntOk (f:Nat) (g:Ent):Prop:=∀l t,g l=some t→t=afun cx f l
theorem entOk0 {f:Nat} {g:IT} (h:afun cx f []=g):EntOk f (ent0 g):=by
 intro l t ht;unfold ent0 at ht;split at ht
 ·cases ht;exact(h).symm
 ·cases ht
theorem entOk1 {f:Nat} {g:AVal→IT} (h:∀a0,afun cx f [a0]=g a0):EntOk f (ent1 g):=by
 intro l t ht;unfold ent1 at ht;split at ht
 ·cases ht;exact(h _).symm
 ·cases ht
theorem entOk2 {f:Nat} {g:AVal→AVal→IT} (h:∀a0 a1,afun cx f [a0,a1]=g a0 a1):EntOk f (ent2 g):=by
 intro l t ht;unfold ent2 at ht;split at ht
 ·cases ht;exact(h _ _).symm
 ·cases ht
theorem entOk3 {f:Nat} {g:AVal→AVal→AVal→IT} (h:∀a0 a1 a2,afun cx f [a0,a1,a2]=g a0 a1 a2):EntOk f (ent3 g):=by
 intro l t ht;unfold ent3 at ht;split at ht
 ·cases ht;exact(h _ _ _).symm
 ·cases ht
theorem entOk4 {f:Nat} {g:AVal→AVal→AVal→AVal→IT} (h:∀a0 a1 a2 a3,afun cx f [a0,a1,a2,a3]=g a0 a1 a2 a3):EntOk f (ent4 g):=by
 intro l t ht;unfold ent4 at ht;split at ht
 ·cases ht;exact(h _ _ _ _).symm
 ·cases ht
theorem entOk5 {f:Nat} {g:AVal→AVal→AVal→AVal→AVal→IT} (h:∀a0 a1 a2 a3 a4,afun cx f [a0,a1,a2,a3,a4]=g a0 a1 a2 a3 a4):EntOk f (ent5 g):=by
 intro l t ht;unfold ent5 at ht;split at ht
 ·cases ht;exact(h _ _ _ _ _).symm
 ·cases ht
def table:List (Nat×Ent):=[(7,ent2 t7),(8,ent0 t8),(9,ent2 t9),(18,ent5 t18),(19,ent3 t19),(20,ent3 t20),(21,ent3 t21),(23,ent2 t23),(24,ent2 t24),(25,ent1 t25),(26,ent2 t26),(27,ent3 t27),(28,ent2 t28),(31,ent2 t31),(32,ent2 t32),(44,ent2 t44),(45,ent1 t45),(46,ent1 t46),(47,ent1 t47),(48,ent2 t48),(49,ent1 t49),(50,ent1 t50),(51,ent4 t51),(52,ent3 t52),(53,ent2 t53),(54,ent3 t54),(55,ent4 t55),(67,ent1 t67),(72,ent2 t72),(73,ent2 t73),(78,ent1 t78),(85,ent2 t85),(86,ent2 t86),(87,ent1 t87),(88,ent2 t88),(89,ent1 t89),(90,ent2 t90),(91,ent1 t91),(92,ent1 t92),(93,ent1 t93),(94,ent4 t94),(95,ent2 t95),(96,ent4 t96),(97,ent2 t97),(98,ent3 t98),(100,ent2 t100),(101,ent2 t101),(103,ent1 t103),(104,ent2 t104),(113,ent3 t113),(119,ent1 t119),(120,ent1 t120),(121,ent2 t121),(122,ent2 t122),(123,ent1 t123),(124,ent2 t124),(125,ent3 t125),(126,ent2 t126),(127,ent1 t127),(128,ent2 t128),(129,ent2 t129),(131,ent3 t131),(134,ent0 t134),(135,ent3 t135),(145,ent1 t145),(147,ent1 t147),(151,ent1 t151),(152,ent1 t152),(153,ent1 t153),(154,ent1 t154),(155,ent1 t155),(156,ent1 t156),(157,ent1 t157),(160,ent1 t160),(161,ent2 t161),(164,ent1 t164),(165,ent1 t165),(168,ent1 t168),(169,ent1 t169),(173,ent1 t173),(174,ent2 t174),(186,ent2 t186),(238,ent2 t238),(100068,ent1 t100068)]
def AllOk:List (Nat×Ent)→Prop
 |[]=>True
 |(f,g)::l=>EntOk f g∧AllOk l
theorem table_ok:AllOk table:=
 ⟨entOk2 t7_eq,entOk0 t8_eq,entOk2 t9_eq,entOk5 t18_eq,entOk3 t19_eq,entOk3 t20_eq,entOk3 t21_eq,entOk2 t23_eq,entOk2 t24_eq,entOk1 t25_eq,entOk2 t26_eq,entOk3 t27_eq,entOk2 t28_eq,entOk2 t31_eq,entOk2 t32_eq,entOk2 t44_eq,entOk1 t45_eq,entOk1 t46_eq,entOk1 t47_eq,entOk2 t48_eq,entOk1 t49_eq,entOk1 t50_eq,entOk4 t51_eq,entOk3 t52_eq,entOk2 t53_eq,entOk3 t54_eq,entOk4 t55_eq,entOk1 t67_eq,entOk2 t72_eq,entOk2 t73_eq,entOk1 t78_eq,entOk2 t85_eq,entOk2 t86_eq,entOk1 t87_eq,entOk2 t88_eq,entOk1 t89_eq,entOk2 t90_eq,entOk1 t91_eq,entOk1 t92_eq,entOk1 t93_eq,entOk4 t94_eq,entOk2 t95_eq,entOk4 t96_eq,entOk2 t97_eq,entOk3 t98_eq,entOk2 t100_eq,entOk2 t101_eq,entOk1 t103_eq,entOk2 t104_eq,entOk3 t113_eq,entOk1 t119_eq,entOk1 t120_eq,entOk2 t121_eq,entOk2 t122_eq,entOk1 t123_eq,entOk2 t124_eq,entOk3 t125_eq,entOk2 t126_eq,entOk1 t127_eq,entOk2 t128_eq,entOk2 t129_eq,entOk3 t131_eq,entOk0 t134_eq,entOk3 t135_eq,entOk1 t145_eq,entOk1 t147_eq,entOk1 t151_eq,entOk1 t152_eq,entOk1 t153_eq,entOk1 t154_eq,entOk1 t155_eq,entOk1 t156_eq,entOk1 t157_eq,entOk1 t160_eq,entOk2 t161_eq,entOk1 t164_eq,entOk1 t165_eq,entOk1 t168_eq,entOk1 t169_eq,entOk1 t173_eq,entOk2 t174_eq,entOk2 t186_eq,entOk2 t238_eq,entOk1 t100068_eq,trivial⟩
def look (f:Nat):List (Nat×Ent)→List AVal→Option IT
 |[],_=>none
 |(k,g)::l,args=>if Nat.beq k f then g args else look f l args
theorem look_ok {f:Nat} {args:List AVal} {t:IT}:∀{l:List (Nat×Ent)},AllOk l→look f l args=some t→t=afun cx f args
 |[],_,h=>by cases h
 |(k,g)::l,ha,h=>by
  simp only[look] at h;split at h
  ·rename_i hk;have hk:k=f:=Nat.eq_of_beq_eq_true hk;subst hk;exact ha.1 _ _ h
  ·exact look_ok ha.2 h
noncomputable def tab (f:FuncId) (args:List AVal):IT:=match look f table args with
 |some t=>t
 |none=>afun cx f args
theorem tab_eq:tab=afun cx:=by
 funext f args;unfold tab;split
 ·rename_i t h;exact look_ok table_ok h
 ·rfl
def saysTrue:Option Res→Bool
 |some (.ret,[.bool true],_)=>true
 |_=>false
theorem saysTrue_spec {r:Option Res} (h:saysTrue r=true):∃h',r=some (.ret,[.bool true],h'):=by
 unfold saysTrue at h;split at h
 ·exact⟨_,rfl⟩
 ·cases h
theorem Ev_of_tab {f:FuncId} {args:List AVal} {h:AHeap} (n:Nat) (hr:saysTrue (IT.run tab n (tab f args) h)=true):Ev cx f args h λr _=>r= .bool true:=by obtain⟨h',e⟩:=saysTrue_spec hr;rw[tab_eq] at e;exact⟨n,_,_,_,e,rfl,_,rfl,rfl⟩
end Go.Am
end
section
namespace Go.Am
open Go
set_option maxRecDepth 100000
def AsksR (F:AVal) (h:AHeap) (q:Attr→Bool):Prop:=∃f caps,F= .func (.func f) [] caps∧f≤99999∧∀a:Attr,Ret cx f (.agg a.row::caps) h (.bool (q a)) h
theorem W_same_self {Q:Post} {h:AHeap} {a:AVal} {k:IT}:W cx (.same a a k) Q h↔W cx k Q h:=by refine⟨λhw=>?_,W_same (AVal.beq_self a)⟩;obtain⟨m,x',vs',h',hr,q⟩:=hw.succ;simp only[IT.step,AVal.beq_self,if_true] at hr;exact W_succ ⟨m,x',vs',h',hr,q⟩
end Go.Am
end
section
namespace Go.Am
open Go
set_option maxRecDepth 100000
def avOf:List Attr→AVal
 |[]=> .slnil
 |x::l=> .sl 3 ((x::l).map Attr.row)
theorem avOf_is {l:List Attr}:IsAttrs l (avOf l):=by cases l;exact .inr ⟨rfl,rfl⟩;exact .inl rfl
theorem avOf_snoc {l:List Attr} {x:Attr}:avOf (l++[x])= .sl 3 ((l++[x]).map Attr.row):=by cases l<;>rfl
structure PN where
 x:ANode
 kv:AVal
 av:AVal
 ok:av=avOf x.attrs
def PN.row (p:PN):List AVal:=[.int .i64 p.x.kind,.int .i64 p.x.par,p.kv,.int .i64 p.x.doc,.int .i64 p.x.space,.str p.x.name,p.av,.str p.x.data,.str p.x.pub,.str p.x.sys,.bool p.x.quirks,.int .i64 p.x.cont,.int .i64 p.x.host]
theorem PN.len_row {p:PN}:p.row.length=13:=rfl
def PN.zero:PN:=⟨{},.slnil,.slnil,rfl⟩
def pN (ps:List PN) (x:Int):PN:=ps.getD (x.toNat-1) PN.zero
def intRow (n:Int):List AVal:=[.int .i64 n]
def IsInts (l:List Int) (v:AVal):Prop:=IsSl 1 (l.map intRow) v
def KidsAt (h:AHeap) (kv:AVal) (l:List Int):Prop:=(kv= .slnil∧l=[])∨(∃id cs,kv= .msl id 0 l.length 1∧h[id]?=some (.cells (l.map (AVal.int .i64)++cs)))∨kv= .sl 1 (l.map intRow)
def Hard (kv:AVal):Prop:=kv= .slnil∨∃id k,kv= .msl id 0 k 1
def kid?:AVal→Option Nat
 | .msl id _ _ _=>some id
 |_=>none
def MapOk (l:List (Int×Int)):Prop:=(l.map (·.1)).Nodup∧∀p∈l,in64 p.1=true∧in64 p.2=true
def MapAt (h:AHeap) (m:Option Nat) (f:Int→Int):Prop:=(m=none∧∀k,f k=0)∨∃(id:Nat) (l:List (Int×Int)),m=some id∧h[id]?=some (.map (l.map λx:Int×Int=>(AVal.int .i64 x.1,AVal.int .i64 x.2)))∧(∀k,(l.find? λx=>decide (k=x.1)).map (·.2)=if f k=0 then none else some (f k))∧MapOk l
def ids (a n:Nat) (m:Option Nat) (ps:List PN):List Nat:=a::n::(m.toList++ps.filterMap λp=>kid? p.kv)
structure PA sf (h:AHeap) (a n:Nat) (m:Option Nat) (ps:List PN) (A:Ar):Prop where
 e:A.n=ps.map PN.x
 il:A.i.length=A.n.length
 ha:h[a]?=some (.cells [.msl n 0 ps.length 13,.map m])
 hn:h[n]?=some (.cells (ps.map PN.row).flatten)
 ks:∀p∈ps,KidsAt h p.kv p.x.kids
 nd:(ids a n m ps).Nodup
 mp:MapAt h m A.inr
 hs:∀y,sf<y→1≤y→Hard (pN ps y).kv
structure Ext (h:AHeap) (F:Nat→Prop) (h':AHeap) (F':Nat→Prop):Prop where
 len:h.length≤h'.length
 old:∀i,i<h.length→¬F i→h'[i]?=h[i]?
 own:∀i,F' i→F i∨h.length≤i
section
variable {h h' h'' t:AHeap} {F F' F'':Nat→Prop}
theorem Ext.refl:Ext h F h F:=⟨Nat.le_refl _,λ_ _ _=>rfl,λ_ h=> .inl h⟩
theorem Ext.trans (x:Ext h F h' F') (y:Ext h' F' h'' F''):Ext h F h'' F'':=
 ⟨Nat.le_trans x.len y.len,λi hi hF=>by
  rw[y.old i (Nat.lt_of_lt_of_le hi x.len) (λh=>by rcases x.own i h with h|h;exact hF h;omega)];exact x.old i hi hF,λi hi=>by
  rcases y.own i hi with h|h
  ·exact x.own i h
  ·exact .inr (Nat.le_trans x.len h)⟩
theorem Ext.app:Ext h F (h++t) F:=⟨by simp,λi hi _=>List.getElem?_append_left hi,λ_ h=> .inl h⟩
end
def PW (sf:Int) (h:AHeap) (F:Nat→Prop) (a:Nat) (A:Ar):Prop:=∃n m ps,PA sf h a n m ps A∧∀i,F i↔i∈ids a n m ps
section
variable {h h':AHeap} {a n:Nat} {m:Option Nat} {ps:List PN} {A:Ar} {sf:Int} {x:Int} {F:Nat→Prop}
theorem KidsAt.frame {kv:AVal} {l:List Int} (hk:KidsAt h kv l) (hf:∀id,kid? kv=some id→h'[id]?=h[id]?):KidsAt h' kv l:=by
 rcases hk with⟨rfl,rfl⟩|⟨id,cs,rfl,hc⟩|rfl
 ·exact .inl ⟨rfl,rfl⟩
 ·exact .inr (.inl ⟨id,cs,rfl,by rw[hf id rfl];exact hc⟩)
 ·exact .inr (.inr rfl)
theorem MapAt.frame {f:Int→Int} (hk:MapAt h m f) (hf:∀id,m=some id→h'[id]?=h[id]?):MapAt h' m f:=by
 rcases hk with h1|⟨id,l,rfl,hc,h2⟩
 ·exact .inl h1
 ·exact .inr ⟨id,l,rfl,by rw[hf id rfl];exact hc,h2⟩
theorem mem_ids_kid {p:PN} {id:Nat} (hp:p∈ps) (hk:kid? p.kv=some id):id∈ids a n m ps:=by unfold ids;simp only[List.mem_cons,List.mem_append];exact .inr (.inr (.inr (List.mem_filterMap.2 ⟨p,hp,hk⟩)))
theorem PA.frame (w:PA sf h a n m ps A) (hf:∀i∈ids a n m ps,h'[i]?=h[i]?):PA sf h' a n m ps A:=
 ⟨w.e,w.il,by rw[hf a (by simp[ids])];exact w.ha,by rw[hf n (by simp[ids])];exact w.hn,λp hp=>(w.ks p hp).frame λid hk=>hf id (mem_ids_kid hp hk),w.nd,w.mp.frame λid hm=>hf id (by simp[ids,hm]),w.hs⟩
theorem PA.lt (w:PA sf h a n m ps A):∀i∈ids a n m ps,i<h.length:=by
 intro i hi;unfold ids at hi;simp only[List.mem_cons,List.mem_append,List.mem_filterMap] at hi;rcases hi with rfl|rfl|hi|⟨p,hp,hk⟩
 ·exact(List.getElem?_eq_some_iff.1 w.ha).1
 ·exact(List.getElem?_eq_some_iff.1 w.hn).1
 ·rcases w.mp with⟨rfl,_⟩|⟨id,l,rfl,hc,_⟩
  ·simp at hi
  ·simp at hi;subst hi;exact(List.getElem?_eq_some_iff.1 hc).1
 ·rcases w.ks p hp with⟨e,_⟩|⟨id,cs,e,hc⟩|e
  ·rw[e] at hk;cases hk
  ·rw[e] at hk;cases hk;exact(List.getElem?_eq_some_iff.1 hc).1
  ·rw[e] at hk;cases hk
theorem PW.frame (w:PW sf h F a A) (hf:∀i,F i→h'[i]?=h[i]?):PW sf h' F a A:=by obtain⟨n,m,ps,w,e⟩:=w;exact⟨n,m,ps,w.frame λi hi=>hf i ((e i).2 hi),e⟩
theorem PW.lt (w:PW sf h F a A) {i:Nat} (hi:F i):i<h.length:=by obtain⟨n,m,ps,w,e⟩:=w;exact w.lt i ((e i).1 hi)
theorem PW.app {t:AHeap} (w:PW sf h F a A):PW sf (h++t) F a A:=w.frame λi hi=>List.getElem?_append_left (w.lt hi)
theorem PA.nlen (w:PA sf h a n m ps A):A.n.length=ps.length:=by rw[w.e,List.length_map]
theorem PA.at (w:PA sf h a n m ps A) (hx:A.has x):x.toNat-1<ps.length∧((x.toNat-1:Nat):Int)=x-1:=by have:=w.nlen;unfold Ar.has at hx;omega
theorem PA.pn (w:PA sf h a n m ps A) (hx:A.has x):ps[x.toNat-1]?=some (pN ps x)∧(pN ps x).x=A.nd x∧pN ps x∈ps:=by
 have h1:=(w.at hx).1;have h2:ps[x.toNat-1]?=some ps[x.toNat-1]:=List.getElem?_eq_getElem h1;have h3:pN ps x=ps[x.toNat-1]:=by unfold pN;rw[List.getD_eq_getElem?_getD,h2];rfl
 refine⟨by rw[h3];exact h2,?_,by rw[h3];exact List.getElem_mem _⟩;unfold Ar.nd;rw[if_pos hx,w.e,h3,List.getD_eq_getElem?_getD,List.getElem?_map,h2];rfl
theorem flat_get {rows:List (List AVal)} {z i k:Nat} (hr:∀r∈rows,r.length=z) (hk:k<z) {r:List AVal} (hi:rows[i]?=some r):rows.flatten[i*z+k]?=r[k]?:=by
 have h1:(rows.flatten.drop (i*z))[k]?=r[k]?:=by rw[flat_drop hr];obtain⟨hlt,e⟩:=List.getElem?_eq_some_iff.1 hi;rw[List.drop_eq_getElem_cons hlt,e,List.flatten_cons,List.getElem?_append_left (by rw[hr r (e▸List.getElem_mem hlt)];exact hk)]
 rwa [List.getElem?_drop] at h1
theorem rowP (l:List PN):∀r∈l.map PN.row,r.length=13:=map_rows (f:=PN.row) (λ_=>PN.len_row) l
def nP (n:Nat) (x:Int):Nat:=(x.toNat-1)*13
theorem PA.fld (w:PA sf h a n m ps A) (hx:A.has x) {k:Nat} (hk:k<13):hload h none (.ptr (some (n,nP n x+k)))=(pN ps x).row[k]?:=by unfold nP;simp only[hload,w.hn,partOf_none];exact flat_get (rowP ps) hk (by rw[List.getElem?_map,(w.pn hx).1];rfl)
theorem f46w (w:PA sf h a n m ps A):Ret cx 32 [.ptr (some (a,0)),.int .i64 x] h (.bool (decide (A.has x))) h:=by
 have e1:hload h none (.ptr (some (a,0)))=some (.msl n 0 ps.length 13):=by simp only[hload,w.ha];rfl
 have e2:peval (.len false) [.msl n 0 ps.length 13]=some (.int .i64 (ps.length:Int)):=rfl;rw[ret_iff,t32_eq,t32];simp only[amS,bxS,e1,e2];have hl:=w.nlen;have e3:A.has x↔1≤x∧x≤(ps.length:Int):=by unfold Ar.has;rw[hl]
 refine⟨λh1=>?_,λh1=>?_⟩
 ·congr 2;rw[decide_eq_decide,e3];exact⟨λh=>⟨h1,h⟩,λh=>h.2⟩
 ·rw[decide_eq_false (λh=>h1 (e3.1 h).1)]
theorem PA.nodes (w:PA sf h a n m ps A):hload h none (.ptr (some (a,0)))=some (.msl n 0 ps.length 13):=by simp only[hload,w.ha];rfl
theorem PA.len (w:PA sf h a n m ps A):((ps.length:Nat):Int)=A.len:=by unfold Ar.len;rw[w.nlen]
theorem f107w (w:PA sf h a n m ps A) {l:List Int} {v:AVal} (hv:IsInts l v) (hb:l.length≤1000):Ret cx 23 [.ptr (some (a,0)),v] h (.int .i64 (if∀x∈l,A.has x then 0 else 3)) h:=by
 have hv:IsSl 1 (l.map intRow) v:=hv;rw[ret_iff,t23_eq,t23];simp only[amS,bxS,hv.lenM];refine W_loop_st (λk:Nat=>[.int .i64 0,.int .i64 (k:Int)]) (λk h1=>k≤l.length∧(∀x∈l.take k,A.has x)∧h1=h) (λk=>l.length-k) 0 rfl ⟨Nat.zero_le _,by simp,rfl⟩ ?_;rintro k h1 ⟨hk,ha,rfl⟩;rcases Nat.lt_or_ge k l.length with hlt|hge
 ·have i1:(k:Int)<(l.length:Int):=by omega
  have e1:hload h1 none (.rptr (intRow l[k]))=some (.int .i64 l[k]):=rfl;simp only[amS,bxS,i1,hv.eaddrM hlt,e1,f46w (x:=l[k]) w,pe_incN k];rw[cndW_iff];refine⟨λh2=>?_,λh2=>?_⟩
  ·have h2:¬A.has l[k]:=by simpa using h2
   rw[if_neg (λh3=>h2 (h3 _ (List.getElem_mem hlt)))]
  ·have h2:A.has l[k]:=by simpa using h2
   refine LoopPost.next (k+1) rfl ⟨hlt,?_,rfl⟩ (by omega);intro x hx;rw[List.take_succ_eq_append_getElem hlt,List.mem_append,List.mem_singleton] at hx;rcases hx with hx|rfl
   ·exact ha x hx
   ·exact h2
 ·have i1:¬(k:Int)<(l.length:Int):=by omega
  rw[List.take_of_length_le hge] at ha;simp only[amS,bxS,i1,if_pos ha]
theorem f107_1 (w:PA sf h a n m ps A):Ret cx 23 [.ptr (some (a,0)),.sl 1 [[.int .i64 x]]] h (.int .i64 (if A.has x then 0 else 3)) h:=by have:=f107w w (l:=[x]) (v:= .sl 1 [[.int .i64 x]]) .mk (by simp);simpa using this
theorem f107_2 {y:Int} (w:PA sf h a n m ps A):Ret cx 23 [.ptr (some (a,0)),.sl 1 [[.int .i64 x],[.int .i64 y]]] h (.int .i64 (if A.has x∧A.has y then 0 else 3)) h:=by have:=f107w w (l:=[x,y]) (v:= .sl 1 [[.int .i64 x],[.int .i64 y]]) .mk (by simp);simpa using this
theorem pe_mksl_i {x:Int}:peval (.mksl 1) [.int .i64 x]=some (.sl 1 [[.int .i64 x]]):=rfl
theorem pe_mksl_ii {x y:Int}:peval (.mksl 1) [.int .i64 x,.int .i64 y]=some (.sl 1 [[.int .i64 x],[.int .i64 y]]):=rfl
theorem Lim.of (lm:Lim A) (hx:A.has x):1≤x∧x≤1000000000:=by have:=lm.n;unfold Ar.has at hx;omega
theorem f94w (w:PA sf h a n m ps A) (lm:Lim A) (hx:A.has x):Ret cx 24 [.ptr (some (a,0)),.int .i64 x] h (.ptr (some (n,nP n x))) h:=by
 have hr:=lm.of hx;have e1:=(w.at hx).2;have e2:peval (.eaddr 13) [.msl n 0 ps.length 13,.int .i64 (x-1)]=some (.ptr (some (n,nP n x))):=by rw[←e1];exact eaddr_msl (w.at hx).1
 rw[ret_iff,t24_eq,t24];simp only[amS,bxS,w.nodes,pe_subN x 1,e2]
theorem PA.f0 (w:PA sf h a n m ps A) (hx:A.has x):hload h none (.ptr (some (n,nP n x)))=some (.int .i64 (A.nd x).kind):=by have:=w.fld hx (k:=0) (by decide);rw[←(w.pn hx).2.1];exact this
theorem PA.f1 (w:PA sf h a n m ps A) (hx:A.has x):hload h none (.ptr (some (n,nP n x+1)))=some (.int .i64 (A.nd x).par):=by have:=w.fld hx (k:=1) (by decide);rw[←(w.pn hx).2.1];exact this
theorem PA.f2 (w:PA sf h a n m ps A) (hx:A.has x):hload h none (.ptr (some (n,nP n x+2)))=some (pN ps x).kv:=by have:=w.fld hx (k:=2) (by decide);exact this
theorem PA.f3 (w:PA sf h a n m ps A) (hx:A.has x):hload h none (.ptr (some (n,nP n x+3)))=some (.int .i64 (A.nd x).doc):=by have:=w.fld hx (k:=3) (by decide);rw[←(w.pn hx).2.1];exact this
theorem PA.f4 (w:PA sf h a n m ps A) (hx:A.has x):hload h none (.ptr (some (n,nP n x+4)))=some (.int .i64 (A.nd x).space):=by have:=w.fld hx (k:=4) (by decide);rw[←(w.pn hx).2.1];exact this
theorem PA.f5 (w:PA sf h a n m ps A) (hx:A.has x):hload h none (.ptr (some (n,nP n x+5)))=some (.str (A.nd x).name):=by have:=w.fld hx (k:=5) (by decide);rw[←(w.pn hx).2.1];exact this
theorem PA.f6 (w:PA sf h a n m ps A) (hx:A.has x):hload h none (.ptr (some (n,nP n x+6)))=some (pN ps x).av:=by have:=w.fld hx (k:=6) (by decide);exact this
theorem PA.kid (w:PA sf h a n m ps A) (hx:A.has x):KidsAt h (pN ps x).kv (A.nd x).kids:=by rw[←(w.pn hx).2.1];exact w.ks _ (w.pn hx).2.2
theorem PA.att (w:PA sf h a n m ps A) (hx:A.has x):(pN ps x).av=avOf (A.nd x).attrs:=by rw[←(w.pn hx).2.1];exact(pN ps x).ok
theorem PA.row (w:PA sf h a n m ps A) (hx:A.has x):hload h (some 13) (.ptr (some (n,nP n x)))=some (.agg (pN ps x).row):=by
 have h1:((ps.map PN.row).flatten.drop (nP n x)).take 13=(pN ps x).row∧nP n x+13≤(ps.map PN.row).flatten.length:=by unfold nP;have hlt:=(w.at hx).1;have hg:=(w.pn hx).1;rw[flat_drop (rowP ps),flat_len (rowP ps),List.length_map];refine⟨?_,by omega⟩;rw[←List.map_drop,List.drop_eq_getElem_cons hlt,List.map_cons,List.flatten_cons];rw[List.getElem?_eq_getElem hlt,Option.some.injEq] at hg;rw[hg];exact List.take_left' PN.len_row
 simp only[hload,w.hn,partOf_some];rw[if_pos h1.2,h1.1]
theorem rowsFrom_ints:∀{l:List Int} {cs pre:List AVal},rowsFrom (pre++(l.map (AVal.int .i64)++cs)) 1 pre.length l.length=l.map intRow
 |[],_,_=>rfl
 |x::l,cs,pre=>by have:=rowsFrom_ints (l:=l) (cs:=cs) (pre:=pre++[.int .i64 x]);simp only[List.append_assoc,List.length_append,List.length_singleton] at this;simp only[List.map_cons,List.length_cons,rowsFrom,List.cons_append];rw[List.drop_left' rfl];simp only[List.cons_append,List.nil_append] at this;rw[this];rfl
theorem KidsAt.rows {kv:AVal} {l:List Int} (hk:KidsAt h kv l):rowsAt h 1 kv=some (l.map intRow):=by
 rcases hk with⟨rfl,rfl⟩|⟨id,cs,rfl,hc⟩|rfl
 ·rfl
 ·have:=rowsFrom_ints (l:=l) (cs:=cs) (pre:=[]);simp only[List.nil_append,List.length_nil] at this;simp only[rowsAt,if_true,hc,this];rw[if_pos (by simp)]
 ·simp only[rowsAt,if_true]
theorem KidsAt.len {kv:AVal} {l:List Int} (hk:KidsAt h kv l):peval (.len false) [kv]=some (.int .i64 (l.length:Int)):=by
 rcases hk with⟨rfl,rfl⟩|⟨id,cs,rfl,hc⟩|rfl
 ·rfl
 ·rfl
 ·exact IsSl.len (rows:=l.map intRow) .mk |>.trans (by simp)
theorem f196w {kv:AVal} {l:List Int} (hk:KidsAt h kv l) (hb:l.length≤1000000000):∃v,Ret cx 67 [kv] h v h∧IsInts l v:=by
 have hr:=hk.rows;have e1:happM h 1 8 (.sl 1 []) kv=some (.sl 1 (l.map intRow)):=by
  unfold happM;rw[hr,Option.bind_some]
  cases l with
  |nil=>rfl
  |cons x l=>
   have:(x::l).length*8≤maxBytes:=by have:maxBytes=140737488355328:=rfl;omega
   simp only[List.map_cons,appendTo,List.length_cons,List.length_map,List.length_nil] at this⊢;rw[if_pos ⟨trivial,by simpa using this⟩];rfl
 rcases hk with⟨rfl,rfl⟩|⟨id,cs,rfl,hc⟩|rfl
 ·exact⟨.slnil,by rw[ret_iff,t67_eq,t67];simp only[amS,show peval (.nileq false .sl) [.slnil,.slnil]=some (.bool true) from rfl],.inr ⟨rfl,rfl⟩⟩
 ·refine⟨.sl 1 (l.map intRow),?_,.mk⟩;rw[ret_iff,t67_eq,t67];simp only[amS,show peval (.nileq false .sl) [.msl id 0 l.length 1,.slnil]=some (.bool false) from rfl,show peval (.mksl 1) []=some (.sl 1 []) from rfl,e1]
 ·refine⟨.sl 1 (l.map intRow),?_,.mk⟩;rw[ret_iff,t67_eq,t67];simp only[amS,show peval (.nileq false .sl) [.sl 1 (l.map intRow),.slnil]=some (.bool false) from rfl,show peval (.mksl 1) []=some (.sl 1 []) from rfl,e1]
def AttrsAt (h:AHeap) (v:AVal) (l:List Attr):Prop:=(v= .slnil∧l=[])∨∃id,v= .msl id 0 l.length 3∧h[id]?=some (.cells (l.map Attr.row).flatten)∧id<h.length
theorem AttrsAt.app {v:AVal} {l:List Attr} {t:AHeap} (hv:AttrsAt h v l):AttrsAt (h++t) v l:=by
 rcases hv with h1|⟨id,e,hc,hl⟩
 ·exact .inl h1
 ·exact .inr ⟨id,e,by rw[List.getElem?_append_left hl];exact hc,by rw[List.length_append];omega⟩
theorem AttrsAt.cells {v:AVal} {l:List Attr} (hv:AttrsAt h v l):v.cells=[v]:=by rcases hv with⟨rfl,_⟩|⟨id,rfl,_,_⟩<;>rfl
structure AttrsIn (h:AHeap) (v:AVal) (l:List Attr):Prop where
 len:peval (.len false) [v]=some (.int .i64 (l.length:Int))
 at_:∀k (hk:k<l.length),∃p,peval (.eaddr 3) [v,.int .i64 (k:Int)]=some p∧hload h (some 3) p=some (.agg l[k].row)
theorem attrs_in {v:AVal} {l:List Attr} (hv:IsAttrs l v):AttrsIn h v l:=⟨IsSl.lenM hv,λk hk=>⟨_,IsSl.eaddrM hv hk,rfl⟩⟩
theorem rowA (l:List Attr):∀r∈l.map Attr.row,r.length=3:=map_rows (f:=Attr.row) (λ_=>rfl) l
theorem AttrsAt.in_ {v:AVal} {l:List Attr} (hv:AttrsAt h v l):AttrsIn h v l:=by
 rcases hv with⟨rfl,rfl⟩|⟨id,rfl,hc,_⟩
 ·exact⟨rfl,λk hk=>by simp at hk⟩
 ·refine⟨rfl,λk hk=>⟨.ptr (some (id,k*3)),eaddr_msl hk,?_⟩⟩;simp only[hload,hc,partOf_some];rw[if_pos (by rw[flat_len (rowA l),List.length_map];omega),flat_drop (rowA l),←List.map_drop,List.drop_eq_getElem_cons hk,List.map_cons,List.flatten_cons];rfl
def Up (N:Nat) (v:AVal):Prop:=∀id k,v= .msl id 0 k 3→N≤id
theorem f100045w {v:AVal} {l:List Attr} (hv:v=avOf l) (hb:l.length≤1000000000):∃u t,Ret cx 100068 [v] h u (h++t)∧AttrsAt (h++t) u l∧Up h.length u:=by
 cases l with
 |nil=>refine⟨.slnil,[],?_,.inl ⟨rfl,rfl⟩,λ_ _ e=>nomatch e⟩;rw[List.append_nil,ret_iff,t100068_eq,t100068,hv];simp only[amS,avOf,show peval (.nileq false .sl) [.slnil,.slnil]=some (.bool true) from rfl]
 |cons x l=>have e:=hobjOf_some (h:=h) (s:= .sl 3 []) (z:=3) (b:=40) (.inr rfl) (IsSl.mk (z:=3) (rows:=(x::l).map Attr.row)) (by simp) (by rw[List.length_map];have:maxBytes=140737488355328:=rfl;omega);rw[List.length_map] at e;refine⟨.msl h.length 0 (x::l).length 3,[.cells ((x::l).map Attr.row).flatten],?_,.inr ⟨h.length,rfl,by simp,by simp⟩,λ_ _ e=>by injection e with e;omega⟩;rw[ret_iff,t100068_eq,t100068,hv];simp only[amS,avOf,show peval (.nileq false .sl) [.sl 3 ((x::l).map Attr.row),.slnil]=some (.bool false) from rfl,show peval (.mksl 3) []=some (.sl 3 []) from rfl,e]
def NRow (h:AHeap) (N:Nat) (x:ANode) (r:List AVal):Prop:=∃K V,r=[.int .i64 x.kind,.int .i64 x.par,K,.int .i64 x.doc,.int .i64 x.space,.str x.name,V,.str x.data,.str x.pub,.str x.sys,.bool x.quirks,.int .i64 x.cont,.int .i64 x.host]∧IsInts x.kids K∧AttrsAt h V x.attrs∧Up N V
theorem NRow.app {x:ANode} {r:List AVal} {t:AHeap} {N:Nat} (hr:NRow h N x r):NRow (h++t) N x r:=let⟨K,V,e,h1,h2,h3⟩:=hr;⟨K,V,e,h1,h2.app,h3⟩
theorem f184w (w:PA sf h a n m ps A) (lm:Lim A) (hx:A.has x) (hkb:(A.nd x).kids.length≤1000000000):∃r t,Ret cx 25 [.ptr (some (n,nP n x))] h (.agg r) (h++t)∧NRow (h++t) h.length (A.nd x) r:=by obtain⟨K,r1,hK⟩:=f196w (w.kid hx) hkb;obtain⟨V,t,r2,hV,hU⟩:=f100045w (h:=h) (w.att hx) (lm.at_ x);refine⟨_,t,?_,K,V,rfl,hK,hV,hU⟩;have hc:K.cells=[K]:=IsSl.cells hK;have e0:=w.row hx;have e1:(pN ps x).row=_:=rfl;have ex:=(w.pn hx).2.1;rw[ret_iff,t25_eq,t25];rw[PN.row,ex] at e0;simp only[amS,bxS,e0,w.f2 hx,w.f6 hx,r1,W_same_self,r2,hc,hV.cells]
end
end Go.Am
end
section
namespace Go.Am
open Go
set_option maxRecDepth 100000
section
variable {h h':AHeap} {a n:Nat} {m:Option Nat} {ps:List PN} {A:Ar} {sf:Int} {x:Int} {F:Nat→Prop}
theorem f97w (w:PA sf h a n m ps A) (lm:Lim A) (hkb:(A.nd x).kids.length≤1000000000):∃r t,Ret cx 7 [.ptr (some (a,0)),.int .i64 x] h (.tuple [.agg r,.int .i64 (if A.has x then 0 else 3)]) (h++t)∧NRow (h++t) h.length (A.nd x) r:=by
 by_cases hx:A.has x
 ·obtain⟨r,t,r1,hr⟩:=f184w w lm hx hkb;have hr':=hr;obtain⟨K,V,rfl,_⟩:=hr;refine⟨_,t,?_,hr'⟩;rw[ret_iff,t7_eq,t7];simp only[amS,↓reduceIte,fillAt,bxS,pe_mksl_i,f107_1 (x:=x) w,if_pos hx,ne_eq,eq_self,f94w w lm hx,r1]
 ·refine⟨_,[],?_,.slnil,.slnil,by rw[nd_no hx],by rw[nd_no hx];exact .inr ⟨rfl,rfl⟩,by rw[nd_no hx];exact .inl ⟨rfl,rfl⟩,λ_ _ e=>nomatch e⟩;rw[ret_iff,t7_eq,t7,List.append_nil];simp only[amS,↓reduceIte,fillAt,bxS,pe_mksl_i,f107_1 (x:=x) w,if_neg hx,ne_eq,ieq,decide_true]
theorem f110w (w:PA sf h a n m ps A) (lm:Lim A) (hkb:(A.nd x).kids.length≤1000000000):∃v,Ret cx 73 [.ptr (some (a,0)),.int .i64 x] h v h∧IsInts (A.nd x).kids v:=by
 by_cases hx:A.has x
 ·obtain⟨K,r1,hK⟩:=f196w (w.kid hx) hkb;refine⟨K,?_,hK⟩;rw[ret_iff,t73_eq,t73];simp only[amS,bxS,f46w (x:=x) w,decide_eq_true hx,f94w w lm hx,w.f2 hx,r1]
 ·refine⟨.slnil,?_,by rw[nd_no hx];exact .inr ⟨rfl,rfl⟩⟩;rw[ret_iff,t73_eq,t73];simp only[amS,bxS,f46w (x:=x) w,decide_eq_false hx]
theorem f193w (w:PA sf h a n m ps A) (lm:Lim A):Ret cx 104 [.ptr (some (a,0)),.int .i64 x] h (.int .i64 (A.nd x).par) h:=by
 by_cases hx:A.has x
 ·rw[ret_iff,t104_eq,t104];simp only[amS,bxS,f46w (x:=x) w,decide_eq_true hx,f94w w lm hx,w.f1 hx]
 ·rw[ret_iff,t104_eq,t104,nd_no hx];simp only[amS,bxS,f46w (x:=x) w,decide_eq_false hx]
theorem f194w (w:PA sf h a n m ps A) (lm:Lim A):Ret cx 44 [.ptr (some (a,0)),.int .i64 x] h (.int .i64 (if A.has x then(if(A.nd x).kind=1 then 0 else 9) else 3)) h:=by
 rw[ret_iff,t44_eq,t44];by_cases hx:A.has x
 ·simp only[amS,bxS,pe_mksl_i,f107_1 (x:=x) w,if_pos hx,ne_eq,eq_self,f94w w lm hx,w.f0 hx];by_cases hk:(A.nd x).kind=1
  ·simp only[hk,amS,bxS,eq_self]
  ·simp only[hk,amS,bxS]
 ·simp only[amS,bxS,pe_mksl_i,f107_1 (x:=x) w,if_neg hx,ne_eq,ieq]
theorem len_rows {l:List PN}:(l.map PN.row).flatten.length=l.length*13:=by rw[flat_len (rowP l),List.length_map]
theorem ids_snoc {p:PN} {n':Nat} (hk:kid? p.kv=none):ids a n' m (ps++[p])=a::n'::(m.toList++ps.filterMap λp=>kid? p.kv):=by unfold ids;rw[List.filterMap_append];simp[hk]
theorem inr_add' {x:ANode} (hl:A.i.length=A.n.length):(A.add x).inr=A.inr:=by funext k;exact inr_add hl
theorem hard_snoc {p:PN} (hs:∀y,sf<y→1≤y→Hard (pN ps y).kv) (hp:Hard p.kv):∀y,sf<y→1≤y→Hard (pN (ps++[p]) y).kv:=λy h1 h2=>by
 have:=hs y h1 h2;unfold pN at this⊢;simp only[List.getD_eq_getElem?_getD] at this⊢;rcases Nat.lt_trichotomy (y.toNat-1) ps.length with h3|h3|h3
 ·rw[List.getElem?_append_left h3];exact this
 ·rw[List.getElem?_append_right (Nat.le_of_eq h3.symm),h3,Nat.sub_self];exact hp
 ·rw[List.getElem?_eq_none (by simp;omega)];exact .inl rfl
theorem hard_set {p:PN} {x:Int} (hs:∀y,sf<y→1≤y→Hard (pN ps y).kv) (hx:1≤x) (hp:sf<x→Hard p.kv):∀y,sf<y→1≤y→Hard (pN (ps.set (x.toNat-1) p) y).kv:=λy h1 h2=>by
 have:=hs y h1 h2;unfold pN at this⊢;simp only[List.getD_eq_getElem?_getD] at this⊢;rw[List.getElem?_set];split
 ·rename_i h3;obtain rfl:x=y:=by omega
  split
  ·exact hp h1
  ·exact .inl rfl
 ·exact this
theorem f93w (w:PA sf h a n m ps A) (hb:ps.length+1≤1000000000) (p:PN) (hk:p.kv= .slnil) (hks:p.x.kids=[]):
  ∃h',Ret cx 26 [.ptr (some (a,0)),.agg p.row] h (.int .i64 (A.len+1)) h'∧PA sf h' a h.length m (ps++[p]) (A.add p.x)∧(∀i,i<h.length→i≠a→i≠n→h'[i]?=h[i]?)∧h'.length=h.length+1:=by
 have hal:a<h.length:=w.lt a (by simp[ids]);have hnl:n<h.length:=w.lt n (by simp[ids]);have han:a≠n:=by have:=w.nd;simp[ids] at this;exact this.1.1
 have eg:=hgrow_some (h:=h) (id:=n) (rows:=ps.map PN.row) (r2:=[p.row]) (v:= .sl 13 [p.row]) (b:=168) (rowP ps) (by decide) w.hn .mk (by simp) (by rw[List.length_map];have:maxBytes=140737488355328:=rfl;simp;omega);rw[List.length_map] at eg;simp only[List.length_singleton] at eg;have ha2:(h.set n .dead++[AObj.cells (ps.map PN.row++[p.row]).flatten])[a]?=some (.cells [.msl n 0 ps.length 13,.map m]):=by rw[List.getElem?_append_left (by simpa using hal),List.getElem?_set_ne (Ne.symm han)];exact w.ha
 have es:hstore (h.set n .dead++[AObj.cells (ps.map PN.row++[p.row]).flatten]) 1 (.ptr (some (a,0))) (.msl h.length 0 (ps.length+1) 13)=some ((h.set n .dead++[AObj.cells (ps.map PN.row++[p.row]).flatten]).set a (.cells [.msl h.length 0 (ps.length+1) 13,.map m])):=by simp only[hstore,ha2];rfl
 have el:hload ((h.set n .dead++[AObj.cells (ps.map PN.row++[p.row]).flatten]).set a (.cells [.msl h.length 0 (ps.length+1) 13,.map m])) none (.ptr (some (a,0)))=some (.msl h.length 0 (ps.length+1) 13):=by simp only[hload];rw[List.getElem?_set_self (by simp;omega)];rfl
 have e2:peval (.len false) [.msl h.length 0 (ps.length+1) 13]=some (.int .i64 ((ps.length+1:Nat):Int)):=rfl;have em:peval (.mksl 13) [.agg p.row]=some (.sl 13 [p.row]):=pe_mksl1 (a:= .agg p.row) rfl (by decide);refine⟨(h.set n .dead++[AObj.cells (ps.map PN.row++[p.row]).flatten]).set a (.cells [.msl h.length 0 (ps.length+1) 13,.map m]),?_,?_,?_,?_⟩;rotate_left
 ·refine⟨by simp[Ar.add,w.e],by simp[Ar.add,w.il],?_,?_,?_,?_,?_,hard_snoc w.hs (.inl hk)⟩
  ·rw[List.getElem?_set_self (by simp;omega)];simp
  ·rw[List.getElem?_set_ne (by omega),List.getElem?_append_right (by simp)];simp
  ·intro q hq;rcases List.mem_append.1 hq with hq|hq
   ·refine(w.ks q hq).frame λid hid=>?_;have h1:id∈ids a n m ps:=mem_ids_kid hq hid;have h2:=w.lt id h1;have h3:=w.nd;have h4:id∈m.toList++ps.filterMap λp=>kid? p.kv:=List.mem_append.2 (.inr (List.mem_filterMap.2 ⟨q,hq,hid⟩));unfold ids at h3;simp only[List.nodup_cons,List.mem_cons,not_or] at h3;have n1:a≠id:=λe=>h3.1.2 (e▸h4);have n2:n≠id:=λe=>h3.2.1 (e▸h4);rw[List.getElem?_set_ne n1,List.getElem?_append_left (by simpa using h2),List.getElem?_set_ne n2]
   ·simp at hq;subst hq;exact .inl ⟨hk,hks⟩
  ·rw[ids_snoc (by rw[hk];rfl)];have h3:=w.nd;unfold ids at h3;simp only[List.nodup_cons,List.mem_cons,not_or] at h3⊢;refine⟨⟨by omega,h3.1.2⟩,λhm=>?_,h3.2.2⟩;have:=w.lt h.length (by unfold ids;simp only[List.mem_cons];exact .inr (.inr hm));omega
  ·rw[inr_add' w.il];refine w.mp.frame λid hid=>?_;have h1:id∈m.toList++ps.filterMap λp=>kid? p.kv:=by simp[hid]
   have h2:=w.lt id (by unfold ids;simp only[List.mem_cons];exact .inr (.inr h1));have h3:=w.nd;unfold ids at h3;simp only[List.nodup_cons,List.mem_cons,not_or] at h3;have n1:a≠id:=λe=>h3.1.2 (e▸h1);have n2:n≠id:=λe=>h3.2.1 (e▸h1);rw[List.getElem?_set_ne n1,List.getElem?_append_left (by simpa using h2),List.getElem?_set_ne n2]
 ·intro i hi h1 h2;rw[List.getElem?_set_ne (Ne.symm h1),List.getElem?_append_left (by simpa using hi),List.getElem?_set_ne (Ne.symm h2)]
 ·simp
 ·have hl:A.len+1=((ps.length+1:Nat):Int):=by rw[←w.len];rfl
  rw[PN.row] at em eg es el;rw[ret_iff,t26_eq,t26,hl,PN.row];simp only[amS,Nat.reduceLeDiff,↓reduceIte,fillAt,bxS,w.nodes,em,eg,es,el,e2]
theorem flat_set1 {rows:List (List AVal)} {z i k:Nat} (hr:∀r∈rows,r.length=z) (hi:i<rows.length) (hk:k<z) {v:AVal}:rows.flatten.take (i*z+k)++[v]++rows.flatten.drop (i*z+k+1)=(rows.set i (rows[i].set k v)).flatten:=by
 have hl:=hr _ (List.getElem_mem hi);rw[←flat_set hr hi];have e1:rows.flatten.drop (i*z)=rows[i]++rows.flatten.drop (i*z+z):=by
  have e2:i*z+z=(i+1)*z:=by rw[Nat.add_mul,Nat.one_mul]
  rw[e2,flat_drop hr,flat_drop hr,List.drop_eq_getElem_cons hi,List.flatten_cons]
 have e3:rows.flatten.take (i*z+k)=rows.flatten.take (i*z)++rows[i].take k:=by rw[List.take_add,e1,List.take_append_of_le_length (by omega)]
 have e4:rows.flatten.drop (i*z+k+1)=rows[i].drop (k+1)++rows.flatten.drop (i*z+z):=by rw[Nat.add_assoc,←List.drop_drop,e1,List.drop_append_of_le_length (by omega)]
 rw[e3,e4,List.set_eq_take_append_cons_drop,if_pos (by omega)];simp
theorem PA.sto (w:PA sf h a n m ps A) (hx:A.has x) {k:Nat} (hk:k<13) {v:AVal} (hv:v.cells=[v]) {p:PN} (hp:p.row=(pN ps x).row.set k v) {h1:AHeap} (hn:h1[n]?=h[n]?):
  hstore h1 1 (.ptr (some (n,nP n x+k))) v=some (h1.set n (.cells ((ps.set (x.toNat-1) p).map PN.row).flatten)):=by
 have hlt:=(w.at hx).1;have hg:=(w.pn hx).1;rw[List.getElem?_eq_getElem hlt,Option.some.injEq] at hg;have e:=flat_set1 (rows:=ps.map PN.row) (i:=x.toNat-1) (k:=k) (v:=v) (rowP ps) (by simpa using hlt) hk;rw[List.getElem_map,hg,←hp,←List.map_set] at e;unfold nP;simp only[hstore,hn,w.hn,hv,List.length_singleton,true_and];rw[if_pos (by rw[flat_len (rowP ps),List.length_map];omega),e]
theorem pn_split (w:PA sf h a n m ps A) (hx:A.has x) (p:PN):ps=ps.take (x.toNat-1)++pN ps x::ps.drop (x.toNat-1+1)∧ps.set (x.toNat-1) p=ps.take (x.toNat-1)++p::ps.drop (x.toNat-1+1):=by
 have hlt:=(w.at hx).1;have hg:=(w.pn hx).1;rw[List.getElem?_eq_getElem hlt,Option.some.injEq] at hg;refine⟨?_,by rw[List.set_eq_take_append_cons_drop,if_pos hlt]⟩
 conv=>lhs;rw[←List.take_append_drop (x.toNat-1) ps,List.drop_eq_getElem_cons hlt,hg]
theorem inr_set' {y:ANode}:(A.set x y).inr=A.inr:=by funext k;exact inr_set
theorem PA.upd (w:PA sf h a n m ps A) (hx:A.has x) {p:PN} {h1:AHeap} (ho:∀i∈ids a n m ps,kid? (pN ps x).kv≠some i→h1[i]?=h[i]?) (hk:KidsAt h1 p.kv p.x.kids)
  (hi:kid? p.kv=kid? (pN ps x).kv∨∀j,kid? p.kv=some j→h.length≤j) (hd:sf<x→Hard p.kv):PA sf (h1.set n (.cells ((ps.set (x.toNat-1) p).map PN.row).flatten)) a n m (ps.set (x.toNat-1) p) (A.set x p.x):=by
 have hlt:=(w.at hx).1;have hmem:=(w.pn hx).2.2;obtain⟨e1,e2⟩:=pn_split w hx p;have nd:=w.nd;have hkx:∀j,kid? (pN ps x).kv=some j→j∈m.toList++ps.filterMap λp=>kid? p.kv:=λj hj=>List.mem_append.2 (.inr (List.mem_filterMap.2 ⟨_,hmem,hj⟩));have nd':=nd;unfold ids at nd';simp only[List.nodup_cons,List.mem_cons,not_or] at nd';have han:a≠n:=nd'.1.1;have hak:kid? (pN ps x).kv≠some a:=λe=>nd'.1.2 (hkx a e);have hnk:kid? (pN ps x).kv≠some n:=λe=>nd'.2.1 (hkx n e);have hnl:n<h.length:=w.lt n (by simp[ids]);have h1n:h1[n]?=h[n]?:=ho n (by simp[ids]) hnk;have h1l:n<h1.length:=by have:=w.hn;rw[←h1n] at this;exact(List.getElem?_eq_some_iff.1 this).1
 have hpn:∀j,kid? p.kv=some j→j≠n∧j≠a:=by
  intro j hj;rcases hi with hi|hi
  ·rw[hi] at hj;exact⟨λe=>hnk (e▸hj),λe=>hak (e▸hj)⟩
  ·have:=hi j hj;have:=w.lt a (by simp[ids]);omega
 refine⟨?_,?_,?_,?_,?_,?_,?_,hard_set w.hs hx.1 hd⟩
 ·simp only[Ar.set,if_pos hx];rw[w.e,List.map_set]
 ·rw[nlen_set];exact w.il
 ·rw[List.getElem?_set_ne (Ne.symm han),ho a (by simp[ids]) hak,List.length_set];exact w.ha
 ·rw[List.getElem?_set_self h1l]
 ·intro q hq;by_cases hqp:q=p
  ·rw[hqp];exact hk.frame λid hid=>by rw[List.getElem?_set_ne (Ne.symm (hpn id hid).1)]
  ·rw[e2] at hq;have hq2:q∈ps.take (x.toNat-1)++ps.drop (x.toNat-1+1):=by
    rcases List.mem_append.1 hq with h7|h7
    ·exact List.mem_append.2 (.inl h7)
    ·exact List.mem_append.2 (.inr ((List.mem_cons.1 h7).resolve_left hqp))
   have hq':q∈ps:=by
    rcases List.mem_append.1 hq2 with h7|h7
    ·exact List.mem_of_mem_take h7
    ·exact List.mem_of_mem_drop h7
   refine(w.ks q hq').frame λj hj=>?_;have h8:j∈ids a n m ps:=mem_ids_kid hq' hj;have h9:j≠n:=λe=>nd'.2.1 (e▸List.mem_append.2 (.inr (List.mem_filterMap.2 ⟨q,hq',hj⟩)));have h10:kid? (pN ps x).kv≠some j:=by
    intro hjx;have h6:=(List.nodup_append.1 nd'.2.2).2.1;rw[e1,List.filterMap_append,List.filterMap_cons,hjx] at h6;simp only[List.nodup_append,List.nodup_cons,List.mem_cons,List.mem_filterMap] at h6;rcases List.mem_append.1 hq2 with h7|h7
    ·exact h6.2.2 j ⟨q,h7,hj⟩ j (.inl rfl) rfl
    ·exact h6.2.1.1 ⟨q,h7,hj⟩
   rw[List.getElem?_set_ne (Ne.symm h9),ho j h8 h10]
 ·have fr:∀j,kid? p.kv=some j→kid? (pN ps x).kv=some j∨j∉ids a n m ps:=by
   intro j hj;rcases hi with hi|hi
   ·exact .inl (hi▸hj)
   ·exact .inr λhm=>by have:=hi j hj;have:=w.lt j hm;omega
  have h1:=nd;unfold ids at h1 fr⊢;rw[e1,List.filterMap_append,List.filterMap_cons] at h1;rw[e1,List.filterMap_append,List.filterMap_cons] at fr;rw[e2,List.filterMap_append,List.filterMap_cons];generalize List.filterMap (λp=>kid? p.kv) (ps.take (x.toNat-1))=T at h1 fr⊢;generalize List.filterMap (λp=>kid? p.kv) (ps.drop (x.toNat-1+1))=D at h1 fr⊢
  cases hp:kid? p.kv with
  |none=>
   cases ho:kid? (pN ps x).kv with
   |none=>rw[ho] at h1;exact h1
   |some k=>rw[ho] at h1;refine h1.sublist ?_;simp
  |some j=>
   have:=fr j hp
   cases ho:kid? (pN ps x).kv with
   |none=>rw[ho] at h1 this;simp only[List.nodup_cons,List.nodup_append,List.mem_cons,List.mem_append] at h1 this⊢;grind
   |some k=>rw[ho] at h1 this;simp only[List.nodup_cons,List.nodup_append,List.mem_cons,List.mem_append] at h1 this⊢;grind
 ·rw[inr_set'];refine w.mp.frame λid hid=>?_;have h8:id∈m.toList++ps.filterMap λp=>kid? p.kv:=by simp[hid]
  have h9:n≠id:=λe=>nd'.2.1 (e▸h8);have h10:kid? (pN ps x).kv≠some id:=by intro hx2;exact(List.nodup_append.1 nd'.2.2).2.2 id (by simp[hid]) id (List.mem_filterMap.2 ⟨_,hmem,hx2⟩) rfl
  rw[List.getElem?_set_ne h9,ho id (by unfold ids;simp only[List.mem_cons];exact .inr (.inr h8)) h10]
end
end Go.Am
end
section
namespace Go.Am
open Go
set_option maxRecDepth 100000
section
variable {h h':AHeap} {a n:Nat} {m:Option Nat} {ps:List PN} {A:Ar} {sf:Int} {x:Int} {F:Nat→Prop}
theorem PA.pw (w:PA sf h a n m ps A):PW sf h (λi=>i∈ids a n m ps) a A:=⟨n,m,ps,w,λ_=>Iff.rfl⟩
theorem Lim.add {y:ANode} (lm:Lim A) (h1:A.len+1≤1000000000) (h2:y.attrs.length≤1000000000) (h3:y.data.length≤20000000000000):Lim (A.add y):=by
 refine⟨?_,λx=>?_,λx=>?_⟩
 ·unfold Ar.len at h1;simp[Ar.add];omega
 ·rw[nd_add];split
  ·exact h2
  ·exact lm.at_ x
 ·rw[nd_add];split
  ·exact h3
  ·exact lm.data x
theorem Lim.set {y:ANode} (lm:Lim A) (h2:y.attrs.length≤1000000000) (h3:y.data.length≤20000000000000):Lim (A.set x y):=by
 refine⟨by rw[nlen_set];exact lm.n,λx=>?_,λx=>?_⟩<;>rw[nd_set]<;>split
 ·exact h2
 ·exact lm.at_ x
 ·exact h3
 ·exact lm.data x
theorem set_add {x y:ANode}:(A.add x).set (A.len+1) y=A.add y:=by
 unfold Ar.set;rw[if_pos (has_add.2 (.inr rfl))];unfold Ar.add Ar.len;have e:((A.n.length:Int)+1).toNat-1=A.n.length:=by omega
 simp only[e];rw[List.set_append_right _ _ (Nat.le_refl _),Nat.sub_self];rfl
theorem ids_set {p:PN} (w:PA sf h a n m ps A) (hx:A.has x) (hk:kid? p.kv=kid? (pN ps x).kv):ids a n m (ps.set (x.toNat-1) p)=ids a n m ps:=by
 obtain⟨e1,e2⟩:=pn_split w hx p;unfold ids;rw[e2,List.filterMap_append,List.filterMap_cons,hk]
 conv=>rhs;rw[e1,List.filterMap_append,List.filterMap_cons]
theorem PA.wr (w:PA sf h a n m ps A) (hx:A.has x) {k:Nat} (hk:k<13) {v:AVal} (hv:v.cells=[v]) {p:PN} (hp:p.row=(pN ps x).row.set k v) (h1:p.kv=(pN ps x).kv) (h2:p.x.kids=(A.nd x).kids):
  ∃h',hstore h 1 (.ptr (some (n,nP n x+k))) v=some h'∧PA sf h' a n m (ps.set (x.toNat-1) p) (A.set x p.x)∧ids a n m (ps.set (x.toNat-1) p)=ids a n m ps∧(∀i,i≠n→h'[i]?=h[i]?)∧h'.length=h.length:=by
 refine⟨_,w.sto hx hk hv hp rfl,w.upd hx (λi _ _=>rfl) (by rw[h1,h2];exact w.kid hx) (.inl (by rw[h1])) (λhh=>by rw[h1];exact w.hs x hh hx.1),ids_set w hx (by rw[h1]),λi hi=>by rw[List.getElem?_set_ne (Ne.symm hi)],List.length_set⟩
theorem PA.wrRun (w:PA sf h a n m ps A) {h1:AHeap} {ps':List PN} {A':Ar} (w':PA sf h1 a n m ps' A') (hi:ids a n m ps'=ids a n m ps) (ho:∀i,i≠n→h1[i]?=h[i]?) (hl:h1.length=h.length):Ext h (λi=>i∈ids a n m ps) h1 (λi=>i∈ids a n m ps'):=
 ⟨by omega,λi _ hn=>ho i (λe=>hn (by rw[e];simp[ids])),λi hi2=> .inl (by rwa [hi] at hi2)⟩
def docPN (q:Bool) (d:Int):PN:=⟨{kind:=1,quirks:=q,doc:=d},.slnil,.slnil,rfl⟩
theorem f26w (w:PA sf h a n m ps A) (lm:Lim A) (hb:A.len+1≤1000000000) (q:Bool):
  ∃h',Ret cx 9 [.ptr (some (a,0)),.bool q] h (.int .i64 (A.len+1)) h'∧PA sf h' a h.length m (ps++[docPN q (A.len+1)]) (A.add {kind:=1,quirks:=q,doc:=A.len+1})∧(∀i,i<h.length→i≠a→i≠n→h'[i]?=h[i]?)∧h'.length=h.length+1:=by
 have hpl:=w.len;obtain⟨h1,r1,w1,o1,l1⟩:=f93w w (by omega) (docPN q 0) rfl rfl;have lm1:=lm.add (y:=(docPN q 0).x) hb (by simp[docPN]) (by simp[docPN]);have hx:(A.add (docPN q 0).x).has (A.len+1):=has_add.2 (.inr rfl);have hlen:(A.len+1).toNat-1=ps.length:=by omega
 have hpn:pN (ps++[docPN q 0]) (A.len+1)=docPN q 0:=by unfold pN;rw[hlen];simp
 obtain⟨h2,s2,w2,_,o2,l2⟩:=w1.wr hx (k:=3) (by decide) (v:= .int .i64 (A.len+1)) rfl (p:=docPN q (A.len+1)) (by rw[hpn];rfl) (by rw[hpn];rfl) (by rw[nd_add,if_pos rfl];rfl);refine⟨h2,?_,?_,λi hi h3 h4=>?_,by omega⟩
 ·have r2:=f94w w1 lm1 hx;rw[ret_iff,t9_eq,t9];have r1':Ret cx 26 [.ptr (some (a,0)),.agg [.int .i64 1,.int .i64 0,.slnil,.int .i64 0,.int .i64 0,.str [],.slnil,.str [],.str [],.str [],.bool q,.int .i64 0,.int .i64 0]] h (.int .i64 (A.len+1)) h1:=r1;simp only[amS,Nat.reduceLeDiff,↓reduceIte,fillAt,bxS,r1',r2,s2]
 ·rw[set_add,hlen] at w2;rw[List.set_append_right _ _ (Nat.le_refl _),Nat.sub_self] at w2;exact w2
 ·rw[o2 i (by omega)];exact o1 i hi h3 h4
def leafPN (k d:Int) (s:Bytes):PN:=⟨{kind:=k,doc:=d,data:=s},.slnil,.slnil,rfl⟩
theorem PA.ext_add (w:PA sf h a n m ps A) {p:PN} {h1:AHeap} (hk:kid? p.kv=none) (o1:∀i,i<h.length→i≠a→i≠n→h1[i]?=h[i]?) (l1:h1.length=h.length+1):Ext h (λi=>i∈ids a n m ps) h1 (λi=>i∈ids a h.length m (ps++[p])):=by
 refine⟨by omega,λi hi hn=>o1 i hi (λe=>hn (by simp[ids,e])) (λe=>hn (by simp[ids,e])),λi hi=>?_⟩;rw[ids_snoc hk] at hi;simp only[List.mem_cons] at hi;rcases hi with rfl|rfl|hi
 ·exact .inl (by simp[ids])
 ·exact .inr (Nat.le_refl _)
 ·exact .inl (by unfold ids;simp only[List.mem_cons];exact .inr (.inr hi))
theorem f108w {k:Int} {s:Bytes} (w:PA sf h a n m ps A) (lm:Lim A) (hb:A.len+1≤1000000000) (hd:A.has x∧(A.nd x).kind=1):
  ∃h',Ret cx 98 [.ptr (some (a,0)),.int .i64 x,.agg (leafPN k 0 s).row] h (.tuple [.int .i64 (A.len+1),.int .i64 0]) h'∧PA sf h' a h.length m (ps++[leafPN k x s]) (A.add (leafPN k x s).x)∧(∀i,i<h.length→i≠a→i≠n→h'[i]?=h[i]?)∧h'.length=h.length+1:=by
 have hpl:=w.len;obtain⟨h1,r1,w1,o1,l1⟩:=f93w w (by omega) (leafPN k x s) rfl rfl;refine⟨h1,?_,w1,o1,l1⟩;rw[PN.row] at r1;rw[ret_iff,t98_eq,t98,PN.row];simp only[amS,bxS,f194w (x:=x) w lm,if_pos hd.1,if_pos hd.2,ne_eq,eq_self,leafPN] at r1⊢;simp only[amS,r1]
theorem f37w {s:Bytes} (w:PA sf h a n m ps A) (lm:Lim A) (hb:A.len+1≤1000000000) (hd:A.has x∧(A.nd x).kind=1):
  ∃h',Ret cx 54 [.ptr (some (a,0)),.int .i64 x,.str s] h (.tuple [.int .i64 (A.len+1),.int .i64 0]) h'∧PA sf h' a h.length m (ps++[leafPN 5 x s]) (A.add (leafPN 5 x s).x)∧(∀i,i<h.length→i≠a→i≠n→h'[i]?=h[i]?)∧h'.length=h.length+1:=by
 obtain⟨h1,r1,w1,o1,l1⟩:=f108w (k:=5) (s:=s) w lm hb hd;refine⟨h1,?_,w1,o1,l1⟩;have r1':Ret cx 98 [.ptr (some (a,0)),.int .i64 x,.agg [.int .i64 5,.int .i64 0,.slnil,.int .i64 0,.int .i64 0,.str [],.slnil,.str s,.str [],.str [],.bool false,.int .i64 0,.int .i64 0]] h (.tuple [.int .i64 (A.len+1),.int .i64 0]) h1:=r1;rw[ret_iff,t54_eq,t54];simp only[amS,Nat.reduceLeDiff,↓reduceIte,fillAt,bxS,r1']
theorem f135w {s:Bytes} (w:PA sf h a n m ps A) (lm:Lim A) (hb:A.len+1≤1000000000) (hd:A.has x∧(A.nd x).kind=1):
  ∃h',Ret cx 71 [.ptr (some (a,0)),.int .i64 x,.str s] h (.tuple [.int .i64 (A.len+1),.int .i64 0]) h'∧PA sf h' a h.length m (ps++[leafPN 6 x s]) (A.add (leafPN 6 x s).x)∧(∀i,i<h.length→i≠a→i≠n→h'[i]?=h[i]?)∧h'.length=h.length+1:=by
 obtain⟨h1,r1,w1,o1,l1⟩:=f108w (k:=6) (s:=s) w lm hb hd;refine⟨h1,?_,w1,o1,l1⟩;have r1':Ret cx 98 [.ptr (some (a,0)),.int .i64 x,.agg [.int .i64 6,.int .i64 0,.slnil,.int .i64 0,.int .i64 0,.str [],.slnil,.str s,.str [],.str [],.bool false,.int .i64 0,.int .i64 0]] h (.tuple [.int .i64 (A.len+1),.int .i64 0]) h1:=r1;rw[ret_iff,t71_eq,t71];simp only[amS,Nat.reduceLeDiff,↓reduceIte,fillAt,bxS,r1']
theorem f36w {s:Bytes} (w:PA sf h a n m ps A) (lm:Lim A) (hx:A.has x) (hk:(A.nd x).kind=5):
  ∃h' ps',Ret cx 52 [.ptr (some (a,0)),.int .i64 x,.str s] h (.int .i64 0) h'∧PA sf h' a n m ps' (A.setData x s)∧Ext h (λi=>i∈ids a n m ps) h' (λi=>i∈ids a n m ps'):=by
 have hp:=(w.pn hx).2.1;obtain⟨h2,s2,w2,i2,o2,l2⟩:=w.wr hx (k:=7) (by decide) (v:= .str s) rfl (p:=⟨{A.nd x with data:=s},(pN ps x).kv,(pN ps x).av,by rw[←hp];exact(pN ps x).ok⟩) (by simp only[PN.row];rw[hp];rfl) rfl rfl;refine⟨h2,_,?_,w2,w.wrRun w2 i2 o2 l2⟩;rw[ret_iff,t52_eq,t52];simp only[amS,bxS,pe_mksl_i,f107_1 (x:=x) w,if_pos hx,ne_eq,eq_self,f94w w lm hx,w.f0 hx,hk,s2]
theorem f237w {y:Int}:Ret cx 46 [.sl 1 [[.int .i64 y]]] h (.bool (decide (BS.okSp y))) h:=by
 have hv:IsSl 1 [[AVal.int .i64 y]] (.sl 1 [[.int .i64 y]]):= .mk;have e1:([[AVal.int .i64 y]]:List (List AVal))[0]=[.int .i64 y]:=rfl;rw[ret_iff,t46_eq,t46];simp only[amS,hv.len];refine W_loop_st (λk:Nat=>[.bool false,.int .i64 (k:Int)]) (λk h1=>k≤1∧(k=1→BS.okSp y)∧h1=h) (λk=>1 -k) 0 rfl ⟨Nat.zero_le _,λe=>by omega,rfl⟩ ?_;rintro k h1 ⟨hk,ha,rfl⟩;rcases Nat.lt_or_ge k 1 with hlt|hge
 ·obtain rfl:k=0:=by omega
  simp only[amS,bxS,show((0:Nat):Int)<((1:Nat):Int) by decide,hv.eaddr (show 0<[[AVal.int .i64 y]].length from Nat.zero_lt_one),e1,pe_incN 0];refine⟨λh2=>?_,λh2=>⟨λh3=>?_,λh3=>?_⟩⟩
  ·rw[decide_eq_false (λhh=>by unfold BS.okSp at hh;omega)]
  ·rw[decide_eq_false (λhh=>by unfold BS.okSp at hh;omega)]
  ·exact LoopPost.next 1 rfl ⟨Nat.le_refl _,λ_=>⟨by omega,by omega⟩,rfl⟩ (by omega)
 ·obtain rfl:k=1:=by omega
  simp only[amS,bxS,show¬((1:Nat):Int)<((1:Nat):Int) by decide,decide_eq_true (ha rfl)]
theorem onceF_snoc {l out:List Attr} {y:Attr}:onceF out (l++[y])=if(onceF out l).any (λz=>decide (keyOf y=keyOf z)) then onceF out l else onceF out l++[y]:=by
 induction l generalizing out with
 |nil=>simp only[List.nil_append,onceF];split<;>simp_all
 |cons z l ih=>
  rw[List.cons_append,onceF,onceF];split
  ·exact ih
  ·exact ih
theorem f279w (y c:Attr) (h:AHeap):Ret cx 86 [.agg c.row,.rptr y.row] h (.bool (decide (keyOf y=keyOf c))) h:=by
 rw[ret_iff,t86_eq,t86,Attr.row,Attr.row];simp only[amS];refine⟨λh1=>?_,λh1=>?_⟩
 ·congr 2;rw[decide_eq_decide];simp[keyOf,h1]
 ·rw[decide_eq_false (λe=>h1 (by simp[keyOf] at e;exact e.1))]
theorem f141g {F v:AVal} {l:List Attr} {q:Attr→Bool} (hv:AttrsIn h v l) (hb:l.length≤1000000000) (hF:AsksR F h q):Ret cx 85 [v,F] h (.bool (l.any q)) h:=by
 obtain⟨f,caps,rfl,hf,hr⟩:=hF;have key:Ret cx 121 [v,.func (.func f) [] caps] h (.int .i64 (idxFrom q 0 l)) h:=by
  rw[ret_iff,t121_eq,t121];simp only[amS,hv.len];refine W_loop_st (λn:Nat=>[.int .i64 0,.int .i64 (n:Int)]) (λn h1=>n≤l.length∧idxFrom q 0 l=idxFrom q n (l.drop n)∧h1=h) (λn=>l.length-n) 0 rfl ⟨Nat.zero_le _,rfl,rfl⟩ ?_;rintro n h1 ⟨hn',ha,rfl⟩;rcases Nat.lt_or_ge n l.length with hlt|hge
  ·have i1:(n:Int)<(l.length:Int):=by omega
   obtain⟨p,e1,e2⟩:=hv.at_ n hlt;rw[List.drop_eq_getElem_cons hlt,idxFrom] at ha;simp only[amS,↓reduceIte,targetOf,bxS,hf,i1,e1,e2,hr l[n],pe_incN n];rw[cndW_iff];refine⟨λhe=>?_,λhe=>?_⟩
   ·rw[ha,if_pos he]
   ·rw[if_neg (by simp[he])] at ha;exact LoopPost.next (n+1) rfl ⟨hlt,ha,rfl⟩ (by omega)
  ·have i1:¬(n:Int)<(l.length:Int):=by omega
   rw[List.drop_of_length_le hge,idxFrom] at ha;simp only[amS,↓reduceIte,targetOf,bxS,i1,ha]
 rw[ret_iff,t85_eq,t85];simp only[amS,key]
 congr 2
 rcases idxFrom_find (p:=q) (l:=l) (k:=0) with⟨h1,h2⟩|⟨n,y,h1,h2,h3⟩
 ·rw[h1,eq_comm];have:=List.find?_eq_none.1 h2;simpa using this
 ·rw[h1,eq_comm,decide_eq_true (by omega),List.any_eq_true];exact⟨y,List.mem_of_find?_eq_some h3,List.find?_some h3⟩
theorem f231w {l:List Attr} {v:AVal} (hv:AttrsIn h v l) (hb:l.length≤1000000000) (hs:∀y∈l,BS.okSp y.space):Ret cx 45 [v] h (.tuple [avOf (once l),.bool true]) h:=by
 rw[ret_iff,t45_eq,t45];simp only[amS,hv.len];refine W_loop_st (λk:Nat=>[.slnil,.bool false,avOf (once (l.take k)),.int .i64 (k:Int)]) (λk h1=>k≤l.length∧h1=h) (λk=>l.length-k) 0 rfl ⟨Nat.zero_le _,rfl⟩ ?_;rintro k h1 ⟨hk,rfl⟩;rcases Nat.lt_or_ge k l.length with hlt|hge
 ·have i1:(k:Int)<(l.length:Int):=by omega
  obtain⟨p,p1,p2⟩:=hv.at_ k hlt;have inc:=pe_incN k;have hsp:=hs _ (List.getElem_mem hlt);have r1:=f237w (h:=h1) (y:=l[k].space);have hF:AsksR (.func (.func 86) [] [.rptr l[k].row]) h1 (λc=>decide (keyOf l[k]=keyOf c)):=⟨_,_,rfl,by decide,λc=>f279w l[k] c h1⟩;have hol:(once (l.take k)).length≤1000000000:=by have:=once_le (l:=l.take k);rw[List.length_take] at this;omega
  have r2:=f141g (attrs_in avOf_is) hol hF;have e1:once (l.take (k+1))=if(once (l.take k)).any (λz=>decide (keyOf l[k]=keyOf z)) then once (l.take k) else once (l.take k)++[l[k]]:=by rw[List.take_succ_eq_append_getElem hlt];exact onceF_snoc
  have e2:=IsSl.app1M (f:=Attr.row) (a:=l[k]) (b:=40) (avOf_is (l:=once (l.take k))) (by have:=once_le (l:=l.take k);rw[List.length_take] at this;have:maxBytes=140737488355328:=rfl;omega);have em:peval (.mksl 3) [.agg l[k].row]=some (.sl 3 [l[k].row]):=rfl;rw[←avOf_snoc] at e2;rw[Attr.row] at r2 em e2 p2;simp only[amS,Nat.reduceLeDiff,↓reduceIte,bxS,i1,p1,p2,pe_mksl_i,r1,decide_eq_true hsp,r2,em,e2,inc];rw[cndW_iff];refine⟨λh2=>?_,λh2=>?_⟩
  ·exact LoopPost.next (k+1) (by rw[e1,if_neg (by simpa using h2)]) ⟨hlt,rfl⟩ (by omega)
  ·exact LoopPost.next (k+1) (by rw[e1,if_pos (by simpa using h2)]) ⟨hlt,rfl⟩ (by omega)
 ·have i1:¬(k:Int)<(l.length:Int):=by omega
  simp only[amS,↓reduceIte,bxS,i1,List.take_of_length_le hge]
theorem f143w {l:List Attr} {v:AVal} (w:PA sf h a n m ps A) (lm:Lim A) (hx:A.has x) (hk:(A.nd x).kind=4) (hv:AttrsIn h v l) (hb:l.length≤1000000000) (hs:∀y∈l,BS.okSp y.space):
  ∃h' ps',Ret cx 108 [.ptr (some (a,0)),.int .i64 x,v] h (.int .i64 0) h'∧PA sf h' a n m ps' (A.setAttrs x l)∧Ext h (λi=>i∈ids a n m ps) h' (λi=>i∈ids a n m ps'):=by
 have hp:=(w.pn hx).2.1;have r1:=f231w hv hb hs;obtain⟨h2,s2,w2,i2,o2,l2⟩:=w.wr hx (k:=6) (by decide) (v:=avOf (once l)) (IsSl.cells avOf_is) (p:=⟨{A.nd x with attrs:=once l},(pN ps x).kv,avOf (once l),rfl⟩) (by simp only[PN.row];rw[hp];rfl) rfl rfl;refine⟨h2,_,?_,w2,w.wrRun w2 i2 o2 l2⟩;rw[ret_iff,t108_eq,t108];simp only[amS,bxS,pe_mksl_i,f107_1 (x:=x) w,if_pos hx,ne_eq,eq_self,f94w w lm hx,w.f0 hx,hk,r1,s2]
theorem f238w (w:PA sf h a n m ps A) (hx:A.has x):Ret cx 47 [.ptr (some (n,nP n x))] h (.bool (decide (isT (A.nd x)))) h:=by rw[ret_iff,t47_eq,t47];simp only[amS,bxS,w.f0 hx,w.f4 hx,w.f5 hx,isT];refine⟨λh1=>⟨λh2=>?_,λh2=>?_⟩,λh1=>?_⟩<;>simp[*]
end
end Go.Am
end
section
namespace Go.Am
open Go
set_option maxRecDepth 100000
section
variable {h h':AHeap} {a n:Nat} {m:Option Nat} {ps:List PN} {A:Ar} {sf:Int} {x:Int} {F:Nat→Prop}
def mEnc (x:Int×Int):AVal×AVal:=(.int .i64 x.1,.int .i64 x.2)
theorem mf_find {k:Int}:∀{l:List (Int×Int)} {i:Nat},(l.find? (λx=>decide (k=x.1))=none→mfindI k (l.map mEnc) i=some none)∧∀y,l.find? (λx=>decide (k=x.1))=some y→∃j,mfindI k (l.map mEnc) i=some (some (j,.int .i64 y.2))
 |[],i=>⟨λ_=>rfl,λy h=>by cases h⟩
 |z::l,i=>by
  have ih:=mf_find (k:=k) (l:=l) (i:=i+1);simp only[List.map_cons,mEnc,mfindI,List.find?_cons];by_cases e:k=z.1
  ·simp only[e,decide_true,if_true];exact⟨λh=>(by cases h),λy h=>⟨i,by cases h;rfl⟩⟩
  ·simp only[e,decide_false,if_false];exact ih
theorem MapAt.get {f:Int→Int} (w:MapAt h m f) (k:Int):meval (.getI (I 0) true) h [.map m,.int .i64 k]=some (h,if f k=0 then .tuple [I 0,.bool false] else .tuple [.int .i64 (f k),.bool true]):=by
 rcases w with⟨rfl,h0⟩|⟨id,l,rfl,hc,hl,_⟩
 ·rw[if_pos (h0 k)];rfl
 ·have hl:=hl k;have hm:=mf_find (k:=k) (l:=l) (i:=0);simp only[meval,hgetI,hc];by_cases h0:f k=0
  ·rw[if_pos h0] at hl⊢;have e:l.find? (λx=>decide (k=x.1))=none:=by
    cases hf:l.find? (λx=>decide (k=x.1)) with
    |none=>rfl
    |some y=>rw[hf] at hl;cases hl
   have:=hm.1 e;unfold mEnc at this;rw[this];rfl
  ·rw[if_neg h0] at hl⊢
   cases hf:l.find? (λx=>decide (k=x.1)) with
   |none=>rw[hf] at hl;cases hl
   |some y=>rw[hf] at hl;simp only[Option.map_some,Option.some.injEq] at hl;obtain⟨j,e⟩:=hm.2 y hf;unfold mEnc at e;rw[e,←hl];rfl
theorem map_new {id:Nat} {l:List (Int×Int)} {k v:Int} (hc:h[id]?=some (.map (l.map mEnc))) (hn:l.find? (λx=>decide (k=x.1))=none):
  ∃h1,meval (.entryI (I 0)) h [.map (some id),.int .i64 k]=some (h1,.tuple [I 0,.int .i64 l.length])∧∃h2,meval .storeI h1 [.map (some id),.int .i64 l.length,.int .i64 v]=some (h2,.bool true)∧h2=h.set id (.map ((l++[(k,v)]).map mEnc)):=by
 have hid:=(List.getElem?_eq_some_iff.1 hc).1;have hm:=(mf_find (k:=k) (l:=l) (i:=0)).1 hn;refine⟨h.set id (.map (l.map mEnc++[(.int .i64 k,I 0)])),?_,_,?_,rfl⟩
 ·simp only[meval,hentryI,hc,hm,Option.map_some,List.length_map]
 ·have e1:(h.set id (.map (l.map mEnc++[(.int .i64 k,I 0)])))[id]?=some (.map (l.map mEnc++[(.int .i64 k,I 0)])):=List.getElem?_set_self hid;have e2:(l.map mEnc++[(AVal.int .i64 k,I 0)])[l.length]?=some (.int .i64 k,I 0):=by rw[List.getElem?_append_right (by simp)];simp
  simp only[meval,hstoreI,e1,Int.toNat_natCast,e2];rw[if_pos (by omega),List.set_set,List.set_append_right _ _ (by simp)];simp[mEnc]
theorem PA.lt_m (w:PA sf h a n m ps A):∀i∈m.toList++ps.filterMap (λp=>kid? p.kv),i<h.length∧i≠a∧i≠n:=by
 intro i hi;have h1:i∈ids a n m ps:=by unfold ids;simp only[List.mem_cons];exact .inr (.inr hi)
 have h3:=w.nd;unfold ids at h3;simp only[List.nodup_cons,List.mem_cons,not_or] at h3;exact⟨w.lt i h1,λe=>h3.1.2 (e▸hi),λe=>h3.2.1 (e▸hi)⟩
theorem PA.setM (w:PA sf h a n m ps A) {h1:AHeap} {m':Option Nat} {A':Ar} (e1:A'.n=A.n) (e2:A'.i.length=A'.n.length) (ha:h1[a]?=some (.cells [.msl n 0 ps.length 13,.map m'])) (ho:∀i,i<h.length→i≠a→m≠some i→h1[i]?=h[i]?) (hm:m'=m∨∃j,m'=some j∧h.length≤j) (hM:MapAt h1 m' A'.inr):PA sf h1 a n m' ps A':=by
 have nd:=w.nd;have nd':=nd;unfold ids at nd';simp only[List.nodup_cons,List.mem_cons,not_or] at nd';have hnm:m≠some n:=λe=>nd'.2.1 (by simp[e]);refine⟨by rw[e1];exact w.e,e2,ha,?_,?_,?_,hM,w.hs⟩
 ·rw[ho n (w.lt n (by simp[ids])) (Ne.symm nd'.1.1) hnm];exact w.hn
 ·intro p hp;refine(w.ks p hp).frame λid hid=>?_;have h1:id∈ps.filterMap (λp=>kid? p.kv):=List.mem_filterMap.2 ⟨p,hp,hid⟩;have h2:=w.lt_m id (List.mem_append.2 (.inr h1));exact ho id h2.1 h2.2.1 λe=>(List.nodup_append.1 nd'.2.2).2.2 id (by simp[e]) id h1 rfl
 ·rcases hm with rfl|⟨j,rfl,hj⟩
  ·exact nd
  ·have h5:∀i∈ps.filterMap (λp=>kid? p.kv),i<h.length:=λi hi=>(w.lt_m i (List.mem_append.2 (.inr hi))).1;have h6:=w.lt a (by simp[ids]);have h7:=w.lt n (by simp[ids]);have h8:=(List.nodup_append.1 nd'.2.2).2.1;unfold ids;simp only[List.nodup_cons,List.mem_cons,Option.toList_some,List.cons_append,List.nil_append,not_or];exact⟨⟨nd'.1.1,by omega,λhm=>nd'.1.2 (List.mem_append.2 (.inr hm))⟩,⟨by omega,λhm=>nd'.2.1 (List.mem_append.2 (.inr hm))⟩,λhm=>by have:=h5 j hm;omega,h8⟩
theorem mapOk_snoc {l:List (Int×Int)} {k v:Int} (hk:MapOk l) (hn:l.find? (λx=>decide (k=x.1))=none) (h1:in64 k=true) (h2:in64 v=true):MapOk (l++[(k,v)]):=by
 refine⟨?_,λp hp=>?_⟩
 ·rw[List.map_append,List.nodup_append];refine⟨hk.1,by simp,λa ha b hb e=>?_⟩;obtain⟨x,hx,rfl⟩:=List.mem_map.1 ha;have h3:=List.find?_eq_none.1 hn x hx;simp only[List.map_cons,List.map_nil,List.mem_singleton] at hb;exact h3 (by simpa using(e.trans hb).symm)
 ·rcases List.mem_append.1 hp with h|h
  ·exact hk.2 p h
  ·simp only[List.mem_singleton] at h;subst h;exact⟨h1,h2⟩
theorem has64 (hb:A.len≤1000000000) (hx:A.has x):in64 x=true:=by have:=hx.1;have:=hx.2;unfold Ar.len at hb;unfold in64;simp;omega
theorem ids_m {i:Nat} (hm:m=some i):i∈ids a n m ps:=by unfold ids;simp[hm]
theorem PA.keys (w:PA sf h a n m ps A) {l:List (Int×Int)} {id:Nat} (hmi:m=some id) (hc:h[id]?=some (.map (l.map mEnc))) (hl:∀k,(l.find? λx=>decide (k=x.1)).map (·.2)=if A.inr k=0 then none else some (A.inr k)) (ok:MapOk l) (hb:A.len≤1000000000) {d i:Int} (hd:A.has d) (hi:A.has i) (hdi:d≠i) (h0:A.inr d=0) (h00:A.inr i=0):
  ∃h1 h2 h3,meval (.entryI (I 0)) h [.map m,.int .i64 d]=some (h1,.tuple [I 0,.int .i64 l.length])∧meval .storeI h1 [.map m,.int .i64 l.length,.int .i64 i]=some (h2,.bool true)∧
   meval (.entryI (I 0)) h2 [.map m,.int .i64 i]=some (h3,.tuple [I 0,.int .i64 ((l.length+1:Nat):Int)])∧∃h4,meval .storeI h3 [.map m,.int .i64 ((l.length+1:Nat):Int),.int .i64 i]=some (h4,.bool true)∧PA sf h4 a n m ps ((A.setI d i).setI i i)∧(∀j,j≠id→h4[j]?=h[j]?)∧h4.length=h.length:=by
 subst hmi;have hid:=(List.getElem?_eq_some_iff.1 hc).1;have fnone:∀k,A.inr k=0→l.find? (λx=>decide (k=x.1))=none:=by
  intro k hk;have:=hl k;rw[if_pos hk] at this
  cases hf:l.find? (λx=>decide (k=x.1)) with
  |none=>rfl
  |some y=>rw[hf] at this;cases this
 obtain⟨h1,e1,h2,e2,rfl⟩:=map_new (v:=i) hc (fnone d h0);have hc2:(h.set id (.map ((l++[(d,i)]).map mEnc)))[id]?=some (.map ((l++[(d,i)]).map mEnc)):=List.getElem?_set_self hid;obtain⟨h3,e3,h4,e4,rfl⟩:=map_new (k:=i) (v:=i) hc2 (by rw[List.find?_append,fnone i h00];simp[Ne.symm hdi]);simp only[List.length_append,List.length_singleton] at e3 e4;refine⟨h1,_,h3,e1,e2,e3,_,e4,?_,?_,by simp⟩
 ·have ida:id≠a:=λe=>by have:=w.nd;unfold ids at this;simp[e] at this
  refine w.setM (m':=some id) (A':=(A.setI d i).setI i i) rfl ?_ ?_ ?_ (.inl rfl) ?_
  ·simp only[Ar.setI];split<;>split<;>simp[w.il]
  ·rw[List.getElem?_set_ne ida,List.getElem?_set_ne ida];exact w.ha
  ·intro j hj hja hjm;have:id≠j:=λe=>hjm (by rw[e]);rw[List.getElem?_set_ne this,List.getElem?_set_ne this]
  ·refine .inr ⟨id,l++[(d,i)]++[(i,i)],rfl,?_,λk=>?_,mapOk_snoc (mapOk_snoc ok (fnone d h0) (has64 hb hd) (has64 hb hi)) (by rw[List.find?_append,fnone i h00];simp[Ne.symm hdi]) (has64 hb hi) (has64 hb hi)⟩
   ·rw[List.getElem?_set_self (by simpa using hid)];rfl
   ·have il1:(A.setI d i).i.length=(A.setI d i).n.length:=by simp only[Ar.setI];split<;>simp[w.il]
    rw[inr_setI il1,inr_setI w.il,List.find?_append,List.find?_append];have hi':(A.setI d i).has i:=hi;have hk:=hl k;have hi0:i≠0:=by have:=hi.1;omega
    cases hf:l.find? (λx=>decide (k=x.1)) with
    |some y=>
     rw[hf] at hk;have hk0:A.inr k≠0:=by intro e;rw[if_pos e] at hk;cases hk
     have n1:k≠i:=λe=>hk0 (e▸h00);have n2:k≠d:=λe=>hk0 (e▸h0);simp only[n1,n2,false_and,if_false,Option.some_or];exact hk
    |none=>
     rw[hf] at hk;have hk0:A.inr k=0:=by
      by_cases e:A.inr k=0
      ·exact e
      ·rw[if_neg e] at hk;cases hk
     by_cases n2:k=d
     ·subst n2;simp[hdi,hd,hi0]
     ·by_cases n1:k=i
      ·subst n1;simp[n2,hi',hi0]
      ·simp[n1,n2,hk0]
 ·intro j hj;rw[List.getElem?_set_ne (Ne.symm hj),List.getElem?_set_ne (Ne.symm hj)]
theorem f239w (w:PA sf h a n m ps A) (lm:Lim A) (hb:A.len+1≤1000000000) (hx:A.has x):
  ∃h' n' m' ps',Ret cx 48 [.ptr (some (a,0)),.int .i64 x] h (.int .i64 (A.inertH x)) h'∧PA sf h' a n' m' ps' (A.inertA x)∧Ext h (λi=>i∈ids a n m ps) h' (λi=>i∈ids a n' m' ps'):=by
 have l1:hload h none (.ptr (some (a,1)))=some (.map m):=by simp only[hload,w.ha];rfl
 have g1:=w.mp.get x;by_cases h0:A.inr x=0
 ·obtain⟨h1,r1,w1,o1,len1⟩:=f26w w lm hb false;have x1:=w.ext_add (p:=docPN false (A.len+1)) rfl o1 len1;have hN:A.inertH x=A.len+1:=by unfold Ar.inertH;rw[if_neg (by simp[h0])]
  have hA:A.inertA x=((A.add {kind:=1,doc:=A.len+1}).setI x (A.len+1)).setI (A.len+1) (A.len+1):=by unfold Ar.inertA;rw[if_neg (by simp[h0])]
  have hinr:∀k,(A.add {kind:=1,quirks:=false,doc:=A.len+1}).inr k=A.inr k:=λk=>inr_add w.il;have hx1:(A.add {kind:=1,quirks:=false,doc:=A.len+1}).has x:=has_add.2 (.inl hx);have hi1:(A.add {kind:=1,quirks:=false,doc:=A.len+1}).has (A.len+1):=has_add.2 (.inr rfl);have hne:=has_ne hx;have h00:A.inr (A.len+1)=0:=by unfold Ar.inr;rw[if_neg no_new]
  have l2:hload h1 none (.ptr (some (a,1)))=some (.map m):=by simp only[hload,w1.ha];rfl
  rw[if_pos h0] at g1;have hb1:(A.add {kind:=1,quirks:=false,doc:=A.len+1}).len≤1000000000:=by rw[len_add];exact hb
  rcases w1.mp with⟨rfl,hz⟩|⟨id,l,rfl,hc,hl,ho⟩
  ·have ha1:=w1.ha;have hal:a<h1.length:=w1.lt a (by simp[ids]);have ha2:(h1++[AObj.map []])[a]?=some (.cells [.msl h.length 0 (ps++[docPN false (A.len+1)]).length 13,.map none]):=by rw[List.getElem?_append_left hal];exact ha1
   have es:hstore (h1++[AObj.map []]) 1 (.ptr (some (a,1))) (.map (some h1.length))=some ((h1++[AObj.map []]).set a (.cells [.msl h.length 0 (ps++[docPN false (A.len+1)]).length 13,.map (some h1.length)])):=by simp only[hstore,ha2];rfl
   have ha3:((h1++[AObj.map []]).set a (.cells [.msl h.length 0 (ps++[docPN false (A.len+1)]).length 13,.map (some h1.length)]))[a]?=some (.cells [.msl h.length 0 (ps++[docPN false (A.len+1)]).length 13,.map (some h1.length)]):=List.getElem?_set_self (by simp;omega);have el:hload ((h1++[AObj.map []]).set a (.cells [.msl h.length 0 (ps++[docPN false (A.len+1)]).length 13,.map (some h1.length)])) none (.ptr (some (a,1)))=some (.map (some h1.length)):=by simp only[hload,ha3];rfl
   have hcm:((h1++[AObj.map []]).set a (.cells [.msl h.length 0 (ps++[docPN false (A.len+1)]).length 13,.map (some h1.length)]))[h1.length]?=some (.map (([]:List (Int×Int)).map mEnc)):=by rw[List.getElem?_set_ne (by omega),List.getElem?_append_right (Nat.le_refl _),Nat.sub_self];rfl
   have w2:PA sf ((h1++[AObj.map []]).set a (.cells [.msl h.length 0 (ps++[docPN false (A.len+1)]).length 13,.map (some h1.length)])) a h.length (some h1.length) (ps++[docPN false (A.len+1)]) (A.add {kind:=1,quirks:=false,doc:=A.len+1}):=by refine w1.setM rfl w1.il ha3 (λi hi hia _=>by rw[List.getElem?_set_ne (Ne.symm hia),List.getElem?_append_left hi]) (.inr ⟨_,rfl,Nat.le_refl _⟩) (.inr ⟨h1.length,[],rfl,hcm,λk=>by rw[if_pos (hz k)];rfl,List.nodup_nil,λp hp=>nomatch hp⟩)
   obtain⟨k1,k2,k3,m1,m2,m3,k4,m4,w3,o3,len3⟩:=w2.keys rfl hcm (λk=>by rw[if_pos (hz k)];rfl) ⟨List.nodup_nil,λp hp=>nomatch hp⟩ hb1 hx1 hi1 hne ((hinr x).trans h0) ((hinr _).trans h00);refine⟨k4,_,_,_,?_,hA▸w3,⟨by rw[len3];simp;omega,λi hi hin=>?_,λi hi=>?_⟩⟩
   ·simp only[List.length_nil] at m1 m2 m3 m4;rw[ret_iff,t48_eq,t48,hN];simp only[amS,l1,g1,r1,l2,show peval (.nileq false .mp) [.map none,.map none]=some (.bool true) from rfl,es,el,m1,m2,m3,m4]
   ·have h5:=x1.old i hi hin;have hia:i≠a:=λe=>hin (by simp[ids,e]);rw[o3 i (by omega),List.getElem?_set_ne (Ne.symm hia),List.getElem?_append_left (by omega),h5]
   ·unfold ids at hi;simp only[List.mem_cons,Option.toList_some,List.cons_append,List.nil_append] at hi;rcases hi with rfl|rfl|rfl|hi
    ·exact .inl (by simp[ids])
    ·exact .inr (Nat.le_refl _)
    ·exact .inr (by omega)
    ·exact x1.own i (by unfold ids;simp only[List.mem_cons,Option.toList_none,List.nil_append];exact .inr (.inr hi))
  ·obtain⟨k1,k2,k3,m1,m2,m3,k4,m4,w3,o3,len3⟩:=w1.keys rfl hc hl ho hb1 hx1 hi1 hne ((hinr x).trans h0) ((hinr _).trans h00);refine⟨k4,_,_,_,?_,hA▸w3,⟨by omega,λi hi hin=>?_,x1.own⟩⟩
   ·rw[ret_iff,t48_eq,t48,hN];simp only[amS,l1,g1,r1,l2,show peval (.nileq false .mp) [.map (some id),.map none]=some (.bool false) from rfl,m1,m2,m3,m4]
   ·rw[o3 i (λe=>hin (e▸ids_m rfl))];exact x1.old i hi hin
 ·have hN:A.inertH x=A.inr x:=by unfold Ar.inertH;rw[if_pos h0]
  have hA:A.inertA x=A:=by unfold Ar.inertA;rw[if_pos h0]
  refine⟨h,n,m,ps,?_,by rw[hA];exact w,.refl⟩;rw[if_neg h0] at g1;rw[ret_iff,t48_eq,t48,hN];simp only[amS,l1,g1]
theorem Lim.inert (lm:Lim A) (h1:A.len+1≤1000000000):Lim (A.inertA x):=by
 unfold Ar.inertA;split
 ·exact lm
 ·have:=lm.add (y:={kind:=1,doc:=A.len+1}) h1 (by simp) (by simp);exact⟨this.n,this.at_,this.data⟩
theorem nd_inert' (hk:A.has x) {d:Int}:(A.inertA d).nd x=A.nd x:=nd_inert (.inl (has_ne hk))
theorem f152w {l:List Attr} {v:AVal} {d sp:Int} {nm:Bytes} (w:PA sf h a n m ps A) (lm:Lim A) (hb:A.len+3≤1000000000) (hd:A.has d∧(A.nd d).kind=1) (hsp:BS.okSp sp) (hv:AttrsIn h v l) (hl:l.length≤1000000000) (hs:∀y∈l,BS.okSp y.space):
  ∃h' n' m' ps',Ret cx 18 [.ptr (some (a,0)),.int .i64 d,.int .i64 sp,.str nm,v] h (.tuple [.int .i64 (A.len+1),.int .i64 0]) h'∧PA sf h' a n' m' ps' (A.elem d sp nm l)∧Ext h (λi=>i∈ids a n m ps) h' (λi=>i∈ids a n' m' ps')∧Lim (A.elem d sp nm l):=by
 have hpl:=w.len;have r0:=f231w (h:=h) hv hl hs;obtain⟨u,hu⟩:∃u,u=avOf (once l):=⟨_,rfl⟩;rw[←hu] at r0;have hul:(once l).length≤1000000000:=by have:=once_le (l:=l);omega
 have r00:=f237w (h:=h) (y:=sp);rw[decide_eq_true hsp] at r00;obtain⟨h1,r1,w1,o1,l1⟩:=f93w w (by omega) ⟨{kind:=4,doc:=d,space:=sp,name:=nm,attrs:=once l},.slnil,u,hu⟩ rfl rfl;have lm1:=lm.add (y:={kind:=4,doc:=d,space:=sp,name:=nm,attrs:=once l}) (by omega) hul (by simp);have hx1:(A.add {kind:=4,doc:=d,space:=sp,name:=nm,attrs:=once l}).has (A.len+1):=has_add.2 (.inr rfl);have hn1:(A.add {kind:=4,doc:=d,space:=sp,name:=nm,attrs:=once l}).nd (A.len+1)={kind:=4,doc:=d,space:=sp,name:=nm,attrs:=once l}:=by rw[nd_add,if_pos rfl]
 have x1:=w.ext_add (p:=⟨{kind:=4,doc:=d,space:=sp,name:=nm,attrs:=once l},.slnil,u,hu⟩) rfl o1 l1;have r1':Ret cx 26 [.ptr (some (a,0)),.agg [.int .i64 4,.int .i64 0,.slnil,.int .i64 d,.int .i64 sp,.str nm,u,.str [],.str [],.str [],.bool false,.int .i64 0,.int .i64 0]] h (.int .i64 (A.len+1)) h1:=r1;have r2:=f94w w1 lm1 hx1;have r3:=f238w w1 hx1;rw[hn1] at r3;have hc:u.cells=[u]:=by rw[hu];exact IsSl.cells avOf_is
 unfold Ar.elem;simp only
 by_cases hT:isT {kind:=4,doc:=d,space:=sp,name:=nm,attrs:=once l}
 ·rw[if_pos hT];rw[decide_eq_true hT] at r3;have hd1:(A.add {kind:=4,doc:=d,space:=sp,name:=nm,attrs:=once l}).has d:=has_add.2 (.inl hd.1);obtain⟨h2,n2,m2,ps2,r4,w2,x2⟩:=f239w w1 lm1 (by rw[len_add];omega) hd1;have lm2:=lm1.inert (x:=d) (by rw[len_add];omega);have hl2:((ps2.length:Nat):Int)=((A.add {kind:=4,doc:=d,space:=sp,name:=nm,attrs:=once l}).inertA d).len:=w2.len;have hlen2:((A.add {kind:=4,doc:=d,space:=sp,name:=nm,attrs:=once l}).inertA d).len≤A.len+2:=by rw[len_inert,len_add];split<;>omega
  obtain⟨h3,r5,w3,o3,l3⟩:=f93w w2 (by omega) ⟨{kind:=2,host:=A.len+1,doc:=(A.add {kind:=4,doc:=d,space:=sp,name:=nm,attrs:=once l}).inertH d},.slnil,.slnil,rfl⟩ rfl rfl;obtain⟨qs,hqs⟩:∃qs,qs=ps2++[⟨{kind:=2,host:=A.len+1,doc:=(A.add {kind:=4,doc:=d,space:=sp,name:=nm,attrs:=once l}).inertH d},.slnil,.slnil,rfl⟩]:=⟨_,rfl⟩;have x3:=w2.ext_add (p:=⟨{kind:=2,host:=A.len+1,doc:=(A.add {kind:=4,doc:=d,space:=sp,name:=nm,attrs:=once l}).inertH d},.slnil,.slnil,rfl⟩) rfl o3 l3;rw[←hqs] at w3 x3;have lm3:=lm2.add (y:={kind:=2,host:=A.len+1,doc:=(A.add {kind:=4,doc:=d,space:=sp,name:=nm,attrs:=once l}).inertH d}) (by omega) (by simp) (by simp);have r5':Ret cx 26 [.ptr (some (a,0)),.agg [.int .i64 2,.int .i64 0,.slnil,.int .i64 ((A.add {kind:=4,doc:=d,space:=sp,name:=nm,attrs:=once l}).inertH d),.int .i64 0,.str [],.slnil,.str [],.str [],.str [],.bool false,.int .i64 0,.int .i64 (A.len+1)]] h2 _ h3:=r5;have hx2:=has_inert (h:=d) hx1;have hx3:=has_add (x:={kind:=2,host:=A.len+1,doc:=(A.add {kind:=4,doc:=d,space:=sp,name:=nm,attrs:=once l}).inertH d}).2 (.inl hx2);have hn3:(((A.add {kind:=4,doc:=d,space:=sp,name:=nm,attrs:=once l}).inertA d).add {kind:=2,host:=A.len+1,doc:=(A.add {kind:=4,doc:=d,space:=sp,name:=nm,attrs:=once l}).inertH d}).nd (A.len+1)={kind:=4,doc:=d,space:=sp,name:=nm,attrs:=once l}:=by rw[nd_add_old hx2,nd_inert' hx1,hn1]
  have r6:=f94w w3 lm3 hx3;have hp:=(w3.pn hx3).2.1;rw[hn3] at hp;obtain⟨h4,s4,w4,i4,o4,l4⟩:=w3.wr hx3 (k:=11) (by decide) (v:= .int .i64 (((A.add {kind:=4,doc:=d,space:=sp,name:=nm,attrs:=once l}).inertA d).len+1)) rfl (p:=⟨{kind:=4,doc:=d,space:=sp,name:=nm,attrs:=once l,cont:=((A.add {kind:=4,doc:=d,space:=sp,name:=nm,attrs:=once l}).inertA d).len+1},(pN qs (A.len+1)).kv,(pN qs (A.len+1)).av,by have:=(pN qs (A.len+1)).ok;rw[hp] at this;exact this⟩) (by simp only[PN.row];rw[hp];rfl) rfl (by rw[hn3]);refine⟨h4,_,_,_,?_,w4,x1.trans (x2.trans (x3.trans (w3.wrRun w4 i4 o4 l4))),lm3.set hul (by simp)⟩;rw[ret_iff,t18_eq,t18];simp only[amS,Nat.reduceLeDiff,↓reduceIte,fillAt,bxS,f194w (x:=d) w lm,if_pos hd.1,if_pos hd.2,ne_eq,eq_self,r0,pe_mksl_i,r00,hc,r1',r2,r3,r4,r5',r6,s4]
 ·rw[if_neg hT];rw[decide_eq_false hT] at r3;refine⟨h1,_,_,_,?_,w1,x1,lm1⟩;rw[ret_iff,t18_eq,t18];simp only[amS,Nat.reduceLeDiff,↓reduceIte,fillAt,bxS,f194w (x:=d) w lm,if_pos hd.1,if_pos hd.2,ne_eq,eq_self,r0,pe_mksl_i,r00,hc,r1',r2,r3]
end
end Go.Am
end
section
namespace Go.Am
open Go
set_option maxRecDepth 100000
section
variable {h h':AHeap} {a n:Nat} {m:Option Nat} {ps:List PN} {A:Ar} {sf:Int} {x:Int} {F:Nat→Prop}
theorem filter_lt {α:Type} {p q:α→Bool} {y:α}:∀{l:List α},(∀x∈l,p x=true→q x=true)→y∈l→p y=false→q y=true→(l.filter p).length<(l.filter q).length
 |[],_,h,_,_=>by cases h
 |x::l,hi,hy,hp,hq=>by
  have le:∀{l:List α},(∀x∈l,p x=true→q x=true)→(l.filter p).length≤(l.filter q).length:=by
   intro l
   induction l with
   |nil=>intro _;simp
   |cons z l ih=>
    intro hi;have:=ih λx hx=>hi x (by simp[hx]);rw[List.filter_cons,List.filter_cons];split
    ·rename_i hz;rw[if_pos (hi z (by simp) hz)];simp;exact this
    ·split
     ·simp;omega
     ·exact this
  have hl:=λx (hx:x∈l)=>hi x (by simp[hx]);rw[List.filter_cons,List.filter_cons];rcases List.mem_cons.1 hy with rfl|hy
  ·rw[if_neg (by simp[hp]),if_pos hq];have:=le hl;simp;omega
  ·have ih:=filter_lt hl hy hp hq;split
   ·rename_i hz;rw[if_pos (hi x (by simp) hz)];simp;exact ih
   ·split
    ·simp;omega
    ·exact ih
theorem reach_rank {r:Int→Nat} {k y:Int} (hr:∀h,A.has h→A.up h≠0→r (A.up h)<r h) (hR:Reach A k y) (hy:A.has y):r k≤r y:=by
 induction hR with
 |refl=>exact Nat.le_refl _
 |@step z h1 h2 ih=>
  by_cases hz:A.has (A.up z)
  ·have:=ih hz;have:=hr z hy h1;omega
  ·cases h2 with
   |refl=>have:=hr z hy h1;omega
   |step h3 _=>exact absurd (up_of_no hz) h3
open Classical in
theorem small_rank {e:Int} (ok:ArOk A e):∃r:Int→Nat,(∀h,A.has h→A.up h≠0→r (A.up h)<r h)∧∀h,r h≤A.n.length:=by
 obtain⟨r,hr⟩:=ok.rank;refine⟨λh=>((List.range A.n.length).filter λ(i:Nat)=>decide (Reach A ((i:Int)+1) h∧(i:Int)+1≠h)).length,λh hh hu=>?_,λh=>?_⟩
 ·have hup:=up_has ok hh hu;have hu2:=hup;unfold Ar.has at hu2;have e1:(((A.up h).toNat-1:Nat):Int)+1=A.up h:=by omega
  refine filter_lt (y:=(A.up h).toNat-1) (λi _ hi=>?_) (List.mem_range.2 (by omega)) ?_ ?_
  ·rw[decide_eq_true_eq] at hi⊢;refine⟨.step hu hi.1,λe=>?_⟩;have h1:=reach_rank hr hi.1 hup;have h2:=hr h hh hu;rw[e] at h1;omega
  ·rw[e1];simp
  ·rw[e1,decide_eq_true_eq];exact⟨.step hu .refl,up_ne ok hh hu⟩
 ·have:=List.length_filter_le (λ(i:Nat)=>decide (Reach A ((i:Int)+1) h∧(i:Int)+1≠h)) (List.range A.n.length)
  rwa [List.length_range] at this
theorem PA.cell (w:PA sf h a n m ps A) (hx:A.has x) {k:Nat} (hk:k<13):(ps.map PN.row).flatten[0+(x.toNat-1)*13+k]?=(pN ps x).row[k]?:=by rw[Nat.zero_add];exact flat_get (rowP ps) hk (by rw[List.getElem?_map,(w.pn hx).1];rfl)
open Classical in
theorem climb_spec (w:PA sf h a n m ps A) {up:Int} {r:Int→Nat} {e:Int} (ok:ArOk A e) (hr:∀h,A.has h→A.up h≠0→r (A.up h)<r h) (hup:up≠0):∀(fuel:Nat) (x:Int),(x=0∨(A.has x∧r x<fuel))→climb (ps.map PN.row).flatten 0 ps.length up fuel x=some (decide (Reach A up x))
 |fuel,x,hx=>by
  by_cases h0:x=0
  ·subst h0;have no:¬Reach A up 0:=by
    intro hR
    cases hR with
    |refl=>exact hup rfl
    |step h1 _=>exact h1 (up_of_no (by unfold Ar.has;omega))
   rw[decide_eq_false no]
   cases fuel<;>rfl
  ·have hx:=hx.resolve_left h0
   cases fuel with
   |zero=>omega
   |succ fuel=>
    have e1:climb (ps.map PN.row).flatten 0 ps.length up (fuel+1) x=if x=up then some true else if 1≤x∧x≤ps.length then
      match nodeCell (ps.map PN.row).flatten 0 x 1,nodeCell (ps.map PN.row).flatten 0 x 12 with
      |some p,some q=>climb (ps.map PN.row).flatten 0 ps.length up fuel (if p=0 then q else p)
      |_,_=>none
     else none:=by
     rw[climb]
     ·rfl
     ·exact λh=>h0 h
    rw[e1];by_cases hxu:x=up
    ·rw[if_pos hxu,hxu,decide_eq_true .refl]
    ·rw[if_neg hxu,if_pos (by have:=hx.1;have:=w.nlen;unfold Ar.has at*;omega)];have c1:nodeCell (ps.map PN.row).flatten 0 x 1=some (A.nd x).par:=by unfold nodeCell;rw[w.cell hx.1 (by decide),←(w.pn hx.1).2.1];rfl
     have c2:nodeCell (ps.map PN.row).flatten 0 x 12=some (A.nd x).host:=by unfold nodeCell;rw[w.cell hx.1 (by decide),←(w.pn hx.1).2.1];rfl
     rw[c1,c2];simp only
     have eu:(if(A.nd x).par=0 then(A.nd x).host else(A.nd x).par)=A.up x:=by unfold Ar.up;by_cases h:(A.nd x).par=0<;>simp[h]
     rw[eu];have ih:=climb_spec w ok hr hup fuel (A.up x) (by
      by_cases hu:A.up x=0
      ·exact .inl hu
      ·exact .inr ⟨up_has ok hx.1 hu,by have:=hr x hx.1 hu;omega⟩)
     rw[ih]
     congr 1
     rw[decide_eq_decide];constructor
     ·intro h1;by_cases hu:A.up x=0
      ·rw[hu] at h1
       cases h1 with
       |refl=>exact absurd rfl hup
       |step h3 _=>exact absurd (up_of_no (by unfold Ar.has;omega)) h3
      ·exact .step hu h1
     ·intro h1
      cases h1 with
      |refl=>exact absurd rfl hxu
      |step _ h2=>exact h2
open Classical in
theorem f197w {up e:Int} (w:PA sf h a n m ps A) (ok:ArOk A e) (hu:A.has up) (hx:A.has x):Ret cx 99 [.ptr (some (a,0)),.int .i64 up,.int .i64 x] h (.bool (decide (Reach A up x))) h:=by
 obtain⟨r,hr,hrn⟩:=small_rank ok;have hnl:=w.nlen;have hc:=climb_spec w ok hr (up:=up) (by have:=hu.1;omega) (ps.length+1) x (.inr ⟨hx,by have:=hrn x;omega⟩);have e1:meval (.custom gContains) h [.ptr (some (a,0)),.int .i64 up,.int .i64 x]=some (h,.bool (decide (Reach A up x))):=by simp only[meval,gContains,w.ha,w.hn];rw[if_pos (by rw[len_rows];omega),if_pos (by unfold Ar.has at hu hx;omega),hc];rfl
 rw[ret_iff,show afun cx 99 [.ptr (some (a,0)),.int .i64 up,.int .i64 x]=pContains [.ptr (some (a,0)),.int .i64 up,.int .i64 x] from rfl,pContains];simp only[amS,e1]
structure IntsAt (h:AHeap) (v:AVal) (l:List Int):Prop where
 len:peval (.len false) [v]=some (.int .i64 (l.length:Int))
 at_:∀k (hk:k<l.length),∃p,peval (.eaddr 1) [v,.int .i64 (k:Int)]=some p∧hload h none p=some (.int .i64 l[k])
theorem KidsAt.ints {kv:AVal} {l:List Int} (hk:KidsAt h kv l):IntsAt h kv l:=by
 refine⟨hk.len,λk hlt=>?_⟩;rcases hk with⟨rfl,rfl⟩|⟨id,cs,rfl,hc⟩|rfl
 ·simp at hlt
 ·refine⟨.ptr (some (id,k)),by have:=eaddr_msl (id:=id) (z:=1) (k:= .i64) hlt;rwa [Nat.mul_one] at this,?_⟩;simp only[hload,hc,partOf_none];rw[List.getElem?_append_left (by simpa using hlt)];simp[hlt]
 ·exact⟨_,IsSl.eaddrM (v:= .sl 1 (l.map intRow)) (f:=intRow) (l:=l) .mk hlt,rfl⟩
theorem IsInts.ints {v:AVal} {l:List Int} (hv:IsInts l v):IntsAt h v l:=⟨IsSl.lenM hv,λk hk=>⟨_,IsSl.eaddrM hv hk,rfl⟩⟩
theorem f34w {v:AVal} {l:List Int} (hv:IntsAt h v l) (hb:l.length≤1000000000) (x:Int):Ret cx 101 [v,.int .i64 x] h (.int .i64 (idxFrom (λy=>decide (x=y)) 0 l)) h:=by
 rw[ret_iff,t101_eq,t101];simp only[amS,hv.len];refine W_loop_st (λk:Nat=>[.int .i64 0,.int .i64 (k:Int)]) (λk h1=>k≤l.length∧idxFrom (λy=>decide (x=y)) 0 l=idxFrom (λy=>decide (x=y)) k (l.drop k)∧h1=h) (λk=>l.length-k) 0 rfl ⟨Nat.zero_le _,rfl,rfl⟩ ?_;rintro k h1 ⟨hk,ha,rfl⟩;rcases Nat.lt_or_ge k l.length with hlt|hge
 ·have i1:(k:Int)<(l.length:Int):=by omega
  obtain⟨p,e1,e2⟩:=hv.at_ k hlt;rw[List.drop_eq_getElem_cons hlt,idxFrom] at ha;simp only[amS,bxS,i1,e1,e2,pe_incN k];refine⟨λh2=>?_,λh2=>?_⟩
  ·rw[ha,if_pos (by simpa using h2)]
  ·rw[if_neg (by simpa using h2)] at ha;exact LoopPost.next (k+1) rfl ⟨hlt,ha,rfl⟩ (by omega)
 ·have i1:¬(k:Int)<(l.length:Int):=by omega
  rw[List.drop_of_length_le hge,idxFrom] at ha;simp only[amS,bxS,i1,ha]
theorem idx_mem {l:List Int} {x:Int} (hx:x∈l):∃k,k<l.length∧idxFrom (λy=>decide (x=y)) 0 l=(k:Int)∧l[k]?=some x∧l.takeWhile (λy=>decide (y≠x))=l.take k∧l.dropWhile (λy=>decide (y≠x))=l.drop k:=by
 have key:∀(l:List Int) (s:Nat),x∈l→∃k,k<l.length∧idxFrom (λy=>decide (x=y)) s l=((s+k:Nat):Int)∧l[k]?=some x∧l.takeWhile (λy=>decide (y≠x))=l.take k∧l.dropWhile (λy=>decide (y≠x))=l.drop k:=by
  intro l
  induction l with
  |nil=>intro s h;cases h
  |cons z l ih=>
   intro s h;by_cases e:x=z
   ·subst e;exact⟨0,by simp,by rw[idxFrom,if_pos (by simp)];simp,rfl,by simp,by simp⟩
   ·have h2:x∈l:=(List.mem_cons.1 h).resolve_left e;obtain⟨k,k1,k2,k3,k4,k5⟩:=ih (s+1) h2;have e':z≠x:=λe2=>e e2.symm;refine⟨k+1,by simp;exact k1,by rw[idxFrom,if_neg (by simpa using e),k2];congr 1;omega,by simpa using k3,?_,?_⟩
    ·rw[List.takeWhile_cons,if_pos (by simpa using e'),k4];rfl
    ·rw[List.dropWhile_cons,if_pos (by simpa using e'),k5];rfl
 obtain⟨k,k1,k2,k3⟩:=key l 0 hx;exact⟨k,k1,by simpa using k2,k3⟩
theorem erase_filter {l:List Int} {x:Int} {k:Nat} (hn:l.Nodup) (hk:l[k]?=some x):l.take k++l.drop (k+1)=l.filter λy=>decide (y≠x):=by
 obtain⟨hlt,e⟩:=List.getElem?_eq_some_iff.1 hk;have e1:l=l.take k++x::l.drop (k+1):=by conv=>lhs;rw[←List.take_append_drop k l,List.drop_eq_getElem_cons hlt,e]
 rw[e1,List.nodup_append,List.nodup_cons] at hn
 conv=>rhs;rw[e1,List.filter_append,List.filter_cons,if_neg (by simp)]
 rw[List.filter_eq_self.2 (λy hy=>by simpa using λe2:y=x=>hn.2.2 y hy x (by simp) e2),List.filter_eq_self.2 (λy hy=>by simpa using λe2:y=x=>hn.2.1.1 (e2▸hy))]
theorem msl_hi {id l k:Nat} (hl:0<l) (hk:k≤l):peval (.slc 1 false false true) [.msl id 0 l 1,.int .i64 (k:Int)]=some (.msl id 0 k 1):=by
 have e1:bound (k:Int) l=some k:=by unfold bound;rw[if_pos (by omega)];rfl
 simp[peval,sliceOf,boundsOf,e1];omega
theorem msl_lo {id l k:Nat} (hk:k≤l):peval (.slc 1 false true false) [.msl id 0 l 1,.int .i64 (k:Int)]=some (if k<l then .msl id k (l-k) 1 else .sl 1 []):=by
 have e1:bound (k:Int) l=some k:=by unfold bound;rw[if_pos (by omega)];rfl
 simp[peval,sliceOf,boundsOf,e1];split<;>rfl
theorem f261w {id k:Nat} {l:List Int} {cs:List AVal} (hc:h[id]?=some (.cells (l.map (AVal.int .i64)++cs))) (hk:k<l.length) (hb:l.length≤1000000000):
  ∃cs',Ret cx 131 [.msl id 0 l.length 1,.int .i64 (k:Int),.int .i64 ((k+1:Nat):Int)] h (.msl id 0 (l.length-1) 1) (h.set id (.cells ((l.take k++l.drop (k+1)).map (AVal.int .i64)++cs'))):=by
 have hid:=(List.getElem?_eq_some_iff.1 hc).1;have hll:(l.take k++l.drop (k+1)).length=l.length-1:=by rw[List.length_append,List.length_take,List.length_drop];omega
 obtain⟨cs2,eg,hcl⟩:∃cs2,hgrow h 1 8 (.msl id 0 k 1) (if k+1<l.length then .msl id (k+1) (l.length-(k+1)) 1 else .sl 1 [])=some (h.set id (.cells ((l.take k++l.drop (k+1)).map (AVal.int .i64)++cs2)),.msl id 0 (l.length-1) 1)∧1≤cs2.length:=by
  have er:rowsAt h 1 (if k+1<l.length then .msl id (k+1) (l.length-(k+1)) 1 else .sl 1 [])=some ((l.drop (k+1)).map intRow):=by
   by_cases hkl:k+1<l.length;rotate_left
   ·rw[if_neg hkl,List.drop_of_length_le (by omega)];rfl
   rw[if_pos hkl];have e2:=rowsFrom_ints (l:=l.drop (k+1)) (cs:=cs) (pre:=(l.take (k+1)).map (AVal.int .i64));rw[←List.append_assoc,←List.map_append,List.take_append_drop] at e2;simp only[List.length_map,List.length_take,List.length_drop] at e2;rw[Nat.min_eq_left (by omega)] at e2;simp only[rowsAt,if_true,hc,e2];rw[if_pos (by simp;omega)]
  by_cases hlast:k+1=l.length
  ·refine⟨.int .i64 l[k]::cs,?_,by simp⟩;have ed:l.drop (k+1)=[]:=List.drop_of_length_le (by omega);rw[ed] at er⊢;have e3:l.map (AVal.int .i64)++cs=(l.take k++[]).map (AVal.int .i64)++ .int .i64 l[k]::cs:=by
    have:l=l.take k++[l[k]]:=by conv=>lhs;rw[←List.take_append_drop k l,List.drop_eq_getElem_cons hk,ed]
    conv=>lhs;rw[this,List.map_append,List.append_assoc]
    rw[List.append_nil];rfl
   have e4:h.set id (.cells ((l.take k++[]).map (AVal.int .i64)++ .int .i64 l[k]::cs))=h:=by rw[←e3];obtain⟨hl2,e5⟩:=List.getElem?_eq_some_iff.1 hc;rw[←e5,List.set_getElem_self]
   simp only[hgrow,er,List.map_nil,if_true];rw[e4,show l.length-1=k by omega]
  ·obtain⟨y,l2,hd⟩:∃y l2,l.drop (k+1)=y::l2:=⟨_,_,List.drop_eq_getElem_cons (show k+1<l.length by omega)⟩;have hlen2:(y::l2).length=l.length-(k+1):=by rw[←hd,List.length_drop]
   rw[hd] at er;have hflat:∀l3:List Int,(l3.map intRow).flatten=l3.map (AVal.int .i64):=by
    intro l3;induction l3 with
    |nil=>rfl
    |cons z l3 ih=>simp[intRow,ih]
   refine⟨(l.map (AVal.int .i64)++cs).drop (l.length-1),?_,by simp;omega⟩;simp only[hgrow,er,List.map_cons,hc,if_true];have e6:(intRow y::l2.map intRow).length=l.length-(k+1):=by rw[←hlen2];simp
   have e7:(intRow y::l2.map intRow).flatten=(y::l2).map (AVal.int .i64):=by have:=hflat (y::l2);simpa using this
   rw[e6,e7,if_pos (by simp;omega)];have e8:(l.map (AVal.int .i64)++cs).take (0+k*1)=(l.take k).map (AVal.int .i64):=by rw[Nat.zero_add,Nat.mul_one,List.take_append_of_le_length (by simp;omega),List.map_take]
   rw[e8,hd,show 0+(k+(l.length-(k+1)))*1=l.length-1 by omega,show k+(l.length-(k+1))=l.length-1 by omega];simp
 generalize hh2:h.set id (.cells ((l.take k++l.drop (k+1)).map (AVal.int .i64)++cs2))=h2 at eg;have hc2:h2[id]?=some (.cells ((l.take k++l.drop (k+1)).map (AVal.int .i64)++cs2)):=by rw[←hh2];exact List.getElem?_set_self hid
 have ed:meval (.deep 1 true true) h2 [.msl id 0 (l.length-1) 1,.int .i64 ((l.length-1:Nat):Int),.int .i64 (l.length:Int)]=some (h2,.msl id (l.length-1) 1 1):=by
  simp only[meval,hdeep,hc2];have hcl2:((l.take k++l.drop (k+1)).map (AVal.int .i64)++cs2).length=l.length-1+cs2.length:=by rw[List.length_append,List.length_map,hll]
  have e1:bound (l.length:Int) ((((l.take k++l.drop (k+1)).map (AVal.int .i64)++cs2).length-0)/1)=some l.length:=by unfold bound;rw[if_pos (by rw[hcl2];omega)];rfl
  have e2:bound ((l.length-1:Nat):Int) l.length=some (l.length-1):=by unfold bound;rw[if_pos (by omega)];rfl
  rw[if_pos ⟨trivial,trivial,Nat.zero_le _⟩];simp only[boundsOf,e1,e2,Option.bind_some,Option.map_some];rw[if_pos (by rw[hcl2];omega)]
  congr 3
  ·omega
  ·omega
 have ec:meval (.clear 1 [I 0]) h2 [.msl id (l.length-1) 1 1]=some (h.set id (.cells ((l.take k++l.drop (k+1)).map (AVal.int .i64)++(I 0::cs2.drop 1))),.bool true):=by
  simp only[meval,hclear,hc2];rw[if_pos ⟨trivial,rfl,by rw[List.length_append,List.length_map,hll];omega⟩]
  congr 2
  rw[←hh2,List.set_set]
  congr 2
  have e3:(((l.take k++l.drop (k+1)).map (AVal.int .i64)++cs2).take (l.length-1))=(l.take k++l.drop (k+1)).map (AVal.int .i64):=List.take_left' (by rw[List.length_map,hll]);have e4:(((l.take k++l.drop (k+1)).map (AVal.int .i64)++cs2).drop (l.length-1+1*1))=cs2.drop 1:=by rw[show l.length-1+1*1=((l.take k++l.drop (k+1)).map (AVal.int .i64)).length+1 by rw[List.length_map,hll],List.drop_append];simp
  rw[e3,e4];simp
 refine⟨I 0::cs2.drop 1,?_⟩;have elen:∀i n,peval (.len false) [.msl i 0 n 1]=some (.int .i64 (n:Int)):=λ_ _=>rfl;have e3:meval (.chk3 1) h [.msl id 0 l.length 1,.int .i64 (k:Int),.int .i64 ((k+1:Nat):Int),.int .i64 (l.length:Int)]=some (h,.bool true):=by simp only[meval,chk3Of];simp;omega
 rw[ret_iff,t131_eq,t131];simp only[amS,bxS,elen,e3,show¬(k:Int)=((k+1:Nat):Int) by omega,msl_hi (id:=id) (show 0<l.length by omega) (show k≤l.length by omega),msl_lo (id:=id) (show k+1≤l.length by omega),eg,ed,ec]
theorem pigeon:∀{n:Nat} {l:List Int},l.Nodup→(∀x∈l,1≤x∧x≤n)→l.length≤n
 |0,l,_,h=>by
  cases l with
  |nil=>simp
  |cons x l=>have:=h x (by simp);omega
 |n+1,l,hn,h=>by
  have ih:=pigeon (n:=n) (l:=l.filter λx=>decide (x≠(n:Int)+1)) (hn.filter _) (λx hx=>by
   have h1:=List.mem_filter.1 hx;have h2:=h x h1.1;have h3:x≠(n:Int)+1:=by simpa using h1.2
   omega)
  have key:∀{l:List Int},l.Nodup→l.length≤(l.filter λx=>decide (x≠(n:Int)+1)).length+1:=by
   intro l hl
   induction l with
   |nil=>simp
   |cons x l ih=>
    rw[List.nodup_cons] at hl;rw[List.filter_cons];by_cases e:x=(n:Int)+1
    ·rw[if_neg (by simp[e]),List.filter_eq_self.2 (λy hy=>by simpa using λe2:y=(n:Int)+1=>hl.1 (by rw[e,←e2];exact hy))];simp
    ·rw[if_pos (by simpa using e)];have:=ih hl.2;simp only[List.length_cons];omega
  have:=key hn;omega
theorem kids_len {e:Int} (ok:ArOk A e) (x:Int):(A.nd x).kids.length≤A.n.length:=by
 by_cases hx:A.has x
 ·refine pigeon (ok.nok x hx).nod λk hk=>?_;exact(ok.kid x hx k hk).1
 ·rw[nd_no hx];exact Nat.zero_le _
theorem Lim.kids {e:Int} (lm:Lim A) (ok:ArOk A e) (x:Int):(A.nd x).kids.length≤1000000000:=Nat.le_trans (kids_len ok x) lm.n
theorem Lim.setK {l:List Int} (lm:Lim A):Lim (A.set x {A.nd x with kids:=l}):=lm.set (lm.at_ x) (lm.data x)
theorem Lim.setP {p:Int} (lm:Lim A):Lim (A.set x {A.nd x with par:=p}):=lm.set (lm.at_ x) (lm.data x)
theorem Lim.cut (lm:Lim A):Lim (A.cut x):=by
 unfold Ar.cut;simp only;split
 ·exact lm
 ·exact Lim.setP lm.setK
theorem f198w {e:Int} (w:PA sf h a n m ps A) (lm:Lim A) (ok:ArOk A e) (hx:A.has x) (hh:(A.nd x).par≠0→sf<(A.nd x).par):
  ∃h' ps',Ret cx 100 [.ptr (some (a,0)),.int .i64 x] h (.tuple []) h'∧PA sf h' a n m ps' (A.cut x)∧Ext h (λi=>i∈ids a n m ps) h' (λi=>i∈ids a n m ps'):=by
 have hb:=lm.kids ok;by_cases hp:(A.nd x).par=0
 ·have hA:A.cut x=A:=by unfold Ar.cut;simp only;rw[if_pos hp]
  refine⟨h,ps,?_,by rw[hA];exact w,.refl⟩;rw[ret_iff,t100_eq,t100];simp only[amS,bxS,f94w w lm hx,w.f1 hx,hp]
 ·obtain⟨hq,hk⟩:=ok.par x hx hp;have hh:=hh hp;generalize hqq:(A.nd x).par=q at*;have hne:q≠x:=by rw[←hqq];exact par_ne ok hx (by rw[hqq];exact hp)
  obtain⟨k,k1,k2,k3,_,_⟩:=idx_mem hk;have kid:=w.kid hq;have r1:=f34w kid.ints (hb q) x;rw[k2] at r1;have hard:=w.hs q hh hq.1;rcases hkv:kid with⟨_,e0⟩|⟨id,cs,ekv,hc⟩|e0
  ·rw[e0] at k1;simp at k1
  rotate_left
  ·rw[e0] at hard;rcases hard with hd|⟨_,_,hd⟩<;>cases hd
  clear hkv;rw[ekv] at r1;obtain⟨cs',r2⟩:=f261w hc k1 (hb q);rw[erase_filter (ok.nok q hq).nod k3] at r2;have hflen:(A.nd q).kids.length-1=((A.nd q).kids.filter λy=>decide (y≠x)).length:=by rw[←erase_filter (ok.nok q hq).nod k3,List.length_append,List.length_take,List.length_drop];omega
  rw[hflen] at r2;have hidl:=(List.getElem?_eq_some_iff.1 hc).1;have hpq:=(w.pn hq).2.1;generalize hh1:h.set id (.cells (((A.nd q).kids.filter λy=>decide (y≠x)).map (AVal.int .i64)++cs'))=h1 at r2;have hidin:id∈ids a n m ps:=mem_ids_kid (w.pn hq).2.2 (by rw[ekv];rfl);have hidn:id≠n:=by intro e1;have:=w.nd;unfold ids at this;simp only[List.nodup_cons,List.mem_cons,not_or] at this;exact this.2.1 (e1▸List.mem_append.2 (.inr (List.mem_filterMap.2 ⟨_,(w.pn hq).2.2,by rw[ekv];rfl⟩)))
  have hida:id≠a:=by intro e1;have:=w.nd;unfold ids at this;simp only[List.nodup_cons,List.mem_cons,not_or] at this;exact this.1.2 (e1▸List.mem_append.2 (.inr (List.mem_filterMap.2 ⟨_,(w.pn hq).2.2,by rw[ekv];rfl⟩)))
  obtain⟨p1,hp1⟩:∃p1:PN,p1=⟨{A.nd q with kids:=(A.nd q).kids.filter λy=>decide (y≠x)},.msl id 0 ((A.nd q).kids.filter λy=>decide (y≠x)).length 1,(pN ps q).av,w.att hq⟩:=⟨_,rfl⟩;have hrow1:p1.row=(pN ps q).row.set 2 (.msl id 0 ((A.nd q).kids.filter λy=>decide (y≠x)).length 1):=by rw[hp1];simp only[PN.row];rw[hpq];rfl
  have h1n:h1[n]?=h[n]?:=by rw[←hh1,List.getElem?_set_ne hidn]
  have s1:=w.sto hq (k:=2) (by decide) (v:= .msl id 0 ((A.nd q).kids.filter λy=>decide (y≠x)).length 1) rfl hrow1 h1n;have hkv1:kid? p1.kv=kid? (pN ps q).kv:=by rw[hp1,ekv];rfl
  have w1:=w.upd hq (p:=p1) (h1:=h1) (λi _ hi=>by rw[←hh1,List.getElem?_set_ne];intro e1;exact hi (by rw[ekv,e1];rfl)) (by rw[hp1];exact .inr (.inl ⟨id,cs',rfl,by rw[←hh1];exact List.getElem?_set_self hidl⟩)) (.inl hkv1) (λ_=>by rw[hp1];exact .inr ⟨_,_,rfl⟩)
  have hids1:=ids_set w hq hkv1;generalize hh2:h1.set n (.cells ((ps.set (q.toNat-1) p1).map PN.row).flatten)=h2 at s1 w1;generalize hps1:ps.set (q.toNat-1) p1=ps1 at w1 hids1;have hA1:p1.x={A.nd q with kids:=(A.nd q).kids.filter λy=>decide (y≠x)}:=by rw[hp1]
  rw[hA1] at w1;have hx1:(A.set q {A.nd q with kids:=(A.nd q).kids.filter λy=>decide (y≠x)}).has x:=has_set.2 hx;have hpx:=(w1.pn hx1).2.1;have hn1:(A.set q {A.nd q with kids:=(A.nd q).kids.filter λy=>decide (y≠x)}).nd x=A.nd x:=by rw[nd_set,if_neg (λh=>hne h.1.symm)]
  obtain⟨h3,s3,w3,i3,o3,l3⟩:=w1.wr hx1 (k:=1) (by decide) (v:= .int .i64 0) rfl (p:=⟨{A.nd x with par:=0},(pN ps1 x).kv,(pN ps1 x).av,by have:=(pN ps1 x).ok;rw[hpx,hn1] at this;exact this⟩) (by simp only[PN.row];rw[hpx,hn1];rfl) rfl (congrArg ANode.kids hn1).symm;have hA:A.cut x=(A.set q {A.nd q with kids:=(A.nd q).kids.filter λy=>decide (y≠x)}).set x {A.nd x with par:=0}:=by unfold Ar.cut;simp only;rw[hqq,if_neg hp,hn1]
  refine⟨h3,_,?_,by rw[hA];exact w3,?_⟩
  ·have inc:=pe_inc (show k<9223372036854775807 by have:=hb q;omega);rw[ret_iff,t100_eq,t100];simp only[amS,bxS,f94w w lm hx,f94w w lm hq,w.f1 hx,hqq,hp,w.f2 hq,ekv,r1,inc,r2,s1,s3]
  ·have hl12:h2.length=h.length:=by rw[←hh2,List.length_set,←hh1,List.length_set]
   refine⟨by omega,λi hi hin=>?_,λi hi=> .inl (by rw[i3,hids1] at hi;exact hi)⟩;have n1:i≠n:=λe1=>hin (e1▸by simp[ids]);have n2:i≠id:=λe1=>hin (e1▸hidin);rw[o3 i n1,←hh2,List.getElem?_set_ne (Ne.symm n1),←hh1,List.getElem?_set_ne (Ne.symm n2)]
end
end Go.Am
end
section
namespace Go.Am
open Go
set_option maxRecDepth 100000
section
variable {h h':AHeap} {a n:Nat} {m:Option Nat} {ps:List PN} {A:Ar} {sf:Int} {x:Int} {F:Nat→Prop}
theorem ids_set_sub {p:PN} (w:PA sf h a n m ps A) (hx:A.has x) {i:Nat} (hi:i∈ids a n m (ps.set (x.toNat-1) p)):i∈ids a n m ps∨kid? p.kv=some i:=by
 obtain⟨e1,e2⟩:=pn_split w hx p;unfold ids at hi⊢;rw[e2,List.filterMap_append] at hi;simp only[List.mem_cons,List.mem_append,List.mem_filterMap] at hi⊢;rcases hi with h1|h1|h1|⟨q,h1,h2⟩|⟨q,h1,h2⟩
 ·exact .inl (.inl h1)
 ·exact .inl (.inr (.inl h1))
 ·exact .inl (.inr (.inr (.inl h1)))
 ·exact .inl (.inr (.inr (.inr ⟨q,List.mem_of_mem_take h1,h2⟩)))
 ·rcases h1 with rfl|h1
  ·exact .inr h2
  ·exact .inl (.inr (.inr (.inr ⟨q,List.mem_of_mem_drop h1,h2⟩)))
theorem ins_kids {kv:AVal} {l:List Int} {k:Nat} (hk:KidsAt h kv l) (hd:Hard kv) (hkl:k≤l.length) (hb:l.length≤1000000000) (y:Int):
  ∃h1,meval .insI h [kv,.int .i64 (k:Int),.sl 1 [[.int .i64 y]]]=some (h1,.msl h.length 0 (l.length+1) 1)∧h1[h.length]?=some (.cells ((l.take k++y::l.drop k).map (AVal.int .i64)))∧(∀i,i<h.length→kid? kv≠some i→h1[i]?=h[i]?)∧h1.length=h.length+1:=by
 rcases hk with⟨rfl,rfl⟩|⟨id,cs,rfl,hc⟩|rfl
 rotate_right
 ·rcases hd with hd|⟨_,_,hd⟩<;>cases hd
 ·have:k=0:=by simpa using hkl
  subst this;exact⟨h++[.cells [.int .i64 y]],rfl,by simp,λi hi _=>List.getElem?_append_left hi,by simp⟩
 ·have hid:=(List.getElem?_eq_some_iff.1 hc).1;refine⟨h.set id .dead++[.cells ((l.take k++y::l.drop k).map (AVal.int .i64))],?_,by rw[List.getElem?_append_right (by simp)];simp,λi hi hn=>?_,by simp⟩
  ·simp only[meval,gInsert,hc];rw[if_pos (by have:maxBytes=140737488355328:=rfl;simp;omega)];simp only[Int.toNat_natCast];have e1:(l.map (AVal.int .i64)++cs).take k=(l.take k).map (AVal.int .i64):=by rw[List.take_append_of_le_length (by simpa using hkl),List.map_take]
   have e2:(l.map (AVal.int .i64)++cs).take l.length=l.map (AVal.int .i64):=List.take_left' (by simp);rw[e1,e2];simp
  ·rw[List.getElem?_append_left (by simpa using hi),List.getElem?_set_ne];intro e;exact hn (by rw[e];rfl)
theorem tput_no {p b:Int} (hf:¬Fits A p x b):A.tput p x b=A:=by unfold Ar.tput;rw[if_neg hf]
theorem insAt_at {l:List Int} {b y:Int} {k:Nat} (hb:b=0→k=l.length) (h2:b≠0→l.takeWhile (λy=>decide (y≠b))=l.take k∧l.dropWhile (λy=>decide (y≠b))=l.drop k):insAt l b y=l.take k++y::l.drop k:=by
 unfold insAt;by_cases h0:b=0
 ·rw[if_pos h0,hb h0];simp
 ·rw[if_neg h0,(h2 h0).1,(h2 h0).2]
open Classical in
set_option maxHeartbeats 1000000 in
theorem f112w {e p b:Int} (w:PA sf h a n m ps A) (lm:Lim A) (ok:ArOk A e) (hard:A.has p→A.has x→sf<p∧((A.nd x).par≠0→sf<(A.nd x).par)):
  ∃er h' ps',Ret cx 55 [.ptr (some (a,0)),.int .i64 p,.int .i64 x,.int .i64 b] h (.int .i64 er) h'∧PA sf h' a n m ps' (A.tput p x b)∧Ext h (λi=>i∈ids a n m ps) h' (λi=>i∈ids a n m ps'):=by
 by_cases hpx:A.has p∧A.has x;rotate_left
 ·refine⟨3,h,ps,?_,by rw[tput_no (λf=>hpx ⟨f.hp,f.hn⟩)];exact w,.refl⟩;rw[ret_iff,t55_eq,t55];simp only[amS,bxS,pe_mksl_ii,f107_2 (x:=p) (y:=x) w,if_neg hpx,ne_eq,ieq]
 obtain⟨hp,hx⟩:=hpx;by_cases hb:b≠0∧¬A.has b
 ·refine⟨3,h,ps,?_,by rw[tput_no (λf=>hb.2 (f.hb hb.1).1)];exact w,.refl⟩;rw[ret_iff,t55_eq,t55];simp only[amS,bxS,pe_mksl_ii,f107_2 (x:=p) (y:=x) w,if_pos (And.intro hp hx),ne_eq,eq_self,hb.1,f46w (x:=b) w,decide_eq_false hb.2,W_join_iff]
 have hbb:b=0∨(b≠0∧A.has b):=by
  by_cases h0:b=0
  ·exact .inl h0
  ·refine .inr ⟨h0,?_⟩;by_cases h1:A.has b
   ·exact h1
   ·exact absurd ⟨h0,h1⟩ hb
 by_cases kp:isPar (A.nd p).kind;rotate_left
 ·refine⟨4,h,ps,?_,by rw[tput_no (λf=>kp f.kp)];exact w,.refl⟩;unfold isPar at kp;have k1:¬(A.nd p).kind=1:=λe=>kp (.inl e);have k2:¬(A.nd p).kind=2:=λe=>kp (.inr (.inl e));have k4:¬(A.nd p).kind=4:=λe=>kp (.inr (.inr e));rw[ret_iff,t55_eq,t55];rcases hbb with h0|⟨h0,hb2⟩
  ·simp only[amS,bxS,pe_mksl_ii,f107_2 (x:=p) (y:=x) w,if_pos (And.intro hp hx),ne_eq,eq_self,f94w w lm hp,f94w w lm hx,w.f0 hp,w.f0 hx,k1,W_join_iff,h0,k2,k4]
  ·simp only[amS,bxS,pe_mksl_ii,f107_2 (x:=p) (y:=x) w,if_pos (And.intro hp hx),ne_eq,eq_self,f94w w lm hp,f94w w lm hx,w.f0 hp,w.f0 hx,k1,W_join_iff,h0,f46w (x:=b) w,decide_eq_true hb2,k2,k4]
 by_cases kn:(A.nd x).kind=1∨(A.nd x).kind=2
 ·refine⟨4,h,ps,?_,by rw[tput_no (λf=>by have:=f.kn;omega)];exact w,.refl⟩;rw[ret_iff,t55_eq,t55];rcases kp with k1|k1|k1<;>rcases kn with k2|k2<;>rcases hbb with h0|⟨h0,hb2⟩
  all_goals first|(simp only[amS,bxS,pe_mksl_ii,f107_2 (x:=p) (y:=x) w,if_pos (And.intro hp hx),ne_eq,eq_self,f94w w lm hp,f94w w lm hx,w.f0 hp,w.f0 hx,k1,ieq,W_join_iff,h0,k2];done)|simp only[amS,bxS,pe_mksl_ii,f107_2 (x:=p) (y:=x) w,if_pos (And.intro hp hx),ne_eq,eq_self,f94w w lm hp,f94w w lm hx,w.f0 hp,w.f0 hx,k1,ieq,W_join_iff,h0,f46w (x:=b) w,decide_eq_true hb2,k2]
 have kn1:¬(A.nd x).kind=1:=λe=>kn (.inl e);have kn2:¬(A.nd x).kind=2:=λe=>kn (.inr e);have rc:=f197w w ok hx hp;by_cases re:Reach A x p
 ·refine⟨4,h,ps,?_,by rw[tput_no (λf=>f.re re)];exact w,.refl⟩;rw[decide_eq_true re] at rc;rw[ret_iff,t55_eq,t55];rcases kp with k1|k1|k1<;>rcases hbb with h0|⟨h0,hb2⟩
  all_goals first|(simp only[amS,bxS,pe_mksl_ii,f107_2 (x:=p) (y:=x) w,if_pos (And.intro hp hx),ne_eq,eq_self,f94w w lm hp,f94w w lm hx,w.f0 hp,w.f0 hx,k1,ieq,W_join_iff,h0,kn1,kn2,rc];done)|simp only[amS,bxS,pe_mksl_ii,f107_2 (x:=p) (y:=x) w,if_pos (And.intro hp hx),ne_eq,eq_self,f94w w lm hp,f94w w lm hx,w.f0 hp,w.f0 hx,k1,ieq,W_join_iff,h0,f46w (x:=b) w,decide_eq_true hb2,kn1,kn2,rc]
 rw[decide_eq_false re] at rc;by_cases nf:b≠0∧(b=x∨(A.nd b).par≠p)
 ·refine⟨5,h,ps,?_,by rw[tput_no (λf=>by have:=f.hb nf.1;rcases nf.2 with h|h;exact this.2.1 h;exact h this.2.2)];exact w,.refl⟩;obtain⟨h0,nf⟩:=nf;have hb2:=(hbb.resolve_left h0).2;rw[ret_iff,t55_eq,t55];by_cases hbx:b=x
  ·have hbx':=hbx;rcases kp with k1|k1|k1<;>simp only[amS,bxS,pe_mksl_ii,f107_2 (x:=p) (y:=x) w,if_pos (And.intro hp hx),ne_eq,eq_self,f94w w lm hp,f94w w lm hx,w.f0 hp,w.f0 hx,k1,ieq,W_join_iff,kn1,kn2,rc,hbx,show¬x=0 from hbx▸h0,decide_eq_true hx,f46w (x:=x) w]
  ·have nf:=nf.resolve_left hbx;rcases kp with k1|k1|k1<;>simp only[amS,bxS,pe_mksl_ii,f107_2 (x:=p) (y:=x) w,if_pos (And.intro hp hx),ne_eq,eq_self,f94w w lm hp,f94w w lm hx,w.f0 hp,w.f0 hx,k1,ieq,W_join_iff,h0,f46w (x:=b) w,decide_eq_true hb2,kn1,kn2,rc,hbx,f94w w lm hb2,w.f1 hb2,nf]
 have fits:Fits A p x b:=⟨hp,hx,λh0=>⟨(hbb.resolve_left h0).2,λe=>nf ⟨h0,.inl e⟩,by
  by_cases h1:(A.nd b).par=p
  ·exact h1
  ·exact absurd ⟨h0,.inr h1⟩ nf⟩,kp,⟨kn1,kn2⟩,re⟩
 have hA:A.tput p x b=(A.cut x).ins p x b:=by unfold Ar.tput;rw[if_pos fits]
 obtain⟨h1,ps1,r1,w1,x1⟩:=f198w w lm ok hx (hard hp hx).2;have ok1:=ok_cut ok hx kn2;have lm1:=lm.cut (x:=x);have hp1:(A.cut x).has p:=has_cut.2 hp;have hx1:(A.cut x).has x:=has_cut.2 hx;have hxp:x≠p:=by rintro rfl;exact re .refl
 have hkb:=lm1.kids ok1 p;obtain⟨k,hkl,hki,hins⟩:∃k,k≤((A.cut x).nd p).kids.length∧(b=0→k=((A.cut x).nd p).kids.length)∧(b≠0→idxFrom (λy=>decide (b=y)) 0 ((A.cut x).nd p).kids=(k:Int)∧((A.cut x).nd p).kids.takeWhile (λy=>decide (y≠b))=((A.cut x).nd p).kids.take k∧((A.cut x).nd p).kids.dropWhile (λy=>decide (y≠b))=((A.cut x).nd p).kids.drop k):=by
  by_cases h0:b=0
  ·exact⟨_,Nat.le_refl _,λ_=>rfl,λh=>absurd h0 h⟩
  ·have fb:=fits.hb h0;have hpar:((A.cut x).nd b).par=p:=by
    rw[nd_cut ok hx,if_neg fb.2.1];split
    ·exact fb.2.2
    ·exact fb.2.2
   have hmem:b∈((A.cut x).nd p).kids:=by
    have:=(ok1.par b (has_cut.2 fb.1) (by rw[hpar];have:=hp.1;omega)).2
    rwa [hpar] at this
   obtain⟨k,k1,k2,_,k4,k5⟩:=idx_mem hmem;exact⟨k,by omega,λh=>absurd h h0,λ_=>⟨k2,k4,k5⟩⟩
 have hval:=insAt_at (y:=x) hki λh=>(hins h).2;have kid:=w1.kid hp1;obtain⟨h2,ei,hc2,ho2,hl2⟩:=ins_kids kid (w1.hs p (hard hp hx).1 hp.1) hkl hkb x;have hpp:=(w1.pn hp1).2.1;obtain⟨q1,hq1⟩:∃q1:PN,q1=⟨{(A.cut x).nd p with kids:=insAt ((A.cut x).nd p).kids b x},.msl h1.length 0 (((A.cut x).nd p).kids.length+1) 1,(pN ps1 p).av,w1.att hp1⟩:=⟨_,rfl⟩;have hq1x:q1.x={(A.cut x).nd p with kids:=insAt ((A.cut x).nd p).kids b x}:=by rw[hq1]
 have hrow:q1.row=(pN ps1 p).row.set 2 (.msl h1.length 0 (((A.cut x).nd p).kids.length+1) 1):=by rw[hq1];simp only[PN.row];rw[hpp];rfl
 have hnin:n∈ids a n m ps1:=by simp[ids]
 have hkn:kid? (pN ps1 p).kv≠some n:=by intro e1;have:=w1.nd;unfold ids at this;simp only[List.nodup_cons,List.mem_cons,not_or] at this;exact this.2.1 (List.mem_append.2 (.inr (List.mem_filterMap.2 ⟨_,(w1.pn hp1).2.2,e1⟩)))
 have s2:=w1.sto hp1 (k:=2) (by decide) (v:= .msl h1.length 0 (((A.cut x).nd p).kids.length+1) 1) rfl hrow (ho2 n (w1.lt n hnin) hkn);have hlen:(insAt ((A.cut x).nd p).kids b x).length=((A.cut x).nd p).kids.length+1:=by rw[hval,List.length_append,List.length_cons,List.length_take,List.length_drop];omega
 have w2:=w1.upd hp1 (p:=q1) (h1:=h2) (λi hi hn=>ho2 i (w1.lt i hi) hn) (by rw[hq1];refine .inr (.inl ⟨h1.length,[],by simp only[hlen],?_⟩);simp only[hval,List.append_nil];exact hc2) (.inr λj hj=>by rw[hq1] at hj;cases hj;exact Nat.le_refl _) (λ_=>by rw[hq1];exact .inr ⟨_,_,rfl⟩)
 have hsub:∀i,i∈ids a n m (ps1.set (p.toNat-1) q1)→i∈ids a n m ps1∨i=h1.length:=by
  intro i hi;rcases ids_set_sub w1 hp1 hi with h|h
  ·exact .inl h
  ·rw[hq1] at h;cases h;exact .inr rfl
 generalize hh3:h2.set n (.cells ((ps1.set (p.toNat-1) q1).map PN.row).flatten)=h3 at s2 w2;generalize hps2:ps1.set (p.toNat-1) q1=ps2 at w2 hsub;rw[hq1x] at w2;have hx2:((A.cut x).set p {(A.cut x).nd p with kids:=insAt ((A.cut x).nd p).kids b x}).has x:=has_set.2 hx1;have hn2:((A.cut x).set p {(A.cut x).nd p with kids:=insAt ((A.cut x).nd p).kids b x}).nd x=(A.cut x).nd x:=by rw[nd_set,if_neg (λh=>hxp h.1)]
 have hpx:=(w2.pn hx2).2.1;obtain⟨h4,s4,w4,i4,o4,l4⟩:=w2.wr hx2 (k:=1) (by decide) (v:= .int .i64 p) rfl (p:=⟨{(A.cut x).nd x with par:=p},(pN ps2 x).kv,(pN ps2 x).av,by have:=(pN ps2 x).ok;rw[hpx,hn2] at this;exact this⟩) (by simp only[PN.row];rw[hpx,hn2];rfl) rfl (congrArg ANode.kids hn2).symm;have hins2:(A.cut x).ins p x b=((A.cut x).set p {(A.cut x).nd p with kids:=insAt ((A.cut x).nd p).kids b x}).set x {(A.cut x).nd x with par:=p}:=by unfold Ar.ins;simp only;rw[hn2]
 refine⟨0,h4,_,?_,by rw[hA,hins2];exact w4,?_⟩
 ·rw[ret_iff,t55_eq,t55];by_cases h0:b=0
  ·rw[hki h0] at ei;have kl:=kid.len;rcases kp with k1|k1|k1<;>simp only[amS,bxS,pe_mksl_ii,f107_2 (x:=p) (y:=x) w,if_pos (And.intro hp hx),ne_eq,eq_self,f94w w lm hp,f94w w lm hx,w.f0 hp,w.f0 hx,k1,ieq,W_join_iff,h0,kn1,kn2,rc,r1,w1.f2 hp1,kl,pe_mksl_i,ei,s2,s4]
  ·have fb:=fits.hb h0;have hb2:=fb.1;have ri:=f34w kid.ints hkb b;rw[(hins h0).1] at ri;have kl:=kid.len;rcases kp with k1|k1|k1<;>simp only[amS,bxS,pe_mksl_ii,f107_2 (x:=p) (y:=x) w,if_pos (And.intro hp hx),ne_eq,eq_self,f94w w lm hp,f94w w lm hx,w.f0 hp,w.f0 hx,k1,ieq,W_join_iff,h0,f46w (x:=b) w,decide_eq_true hb2,kn1,kn2,rc,fb.2.1,f94w w lm hb2,w.f1 hb2,fb.2.2,r1,w1.f2 hp1,kl,ri,pe_mksl_i,ei,s2,s4]
 ·have hl3:h3.length=h1.length+1:=by rw[←hh3,List.length_set,hl2]
  have xx:Ext h1 (λi=>i∈ids a n m ps1) h4 (λi=>i∈ids a n m (ps2.set (x.toNat-1) ⟨{(A.cut x).nd x with par:=p},(pN ps2 x).kv,(pN ps2 x).av,by have:=(pN ps2 x).ok;rw[hpx,hn2] at this;exact this⟩)):=by
   refine⟨by omega,λi hi hin=>?_,λi hi=>?_⟩
   ·have n1:i≠n:=λe1=>hin (e1▸hnin);rw[o4 i n1,←hh3,List.getElem?_set_ne (Ne.symm n1)];exact ho2 i hi λe1=>hin (mem_ids_kid (w1.pn hp1).2.2 e1)
   ·rw[i4] at hi;rcases hsub i hi with h|h
    ·exact .inl h
    ·exact .inr (by omega)
  exact x1.trans xx
end
end Go.Am
end
