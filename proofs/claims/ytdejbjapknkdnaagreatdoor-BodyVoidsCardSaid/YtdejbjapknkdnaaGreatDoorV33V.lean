/- L -/
import Derived.Test.YtdejbjapknkdnaaGreatDoorV31
import Derived.Test.YtdejbjapknkdnaaGreatDoorV32
set_option linter.all false
namespace Go.Am
open Go
set_option maxRecDepth 100000
section
variable{h h':Ae}{bi lo:Nat}{b c:BS}{F F':Nat->Prop}{m n o a j:Nat}{t:Dv}{av:Aa}
def aJ7(m:Int):L4 cx 15 [.int .i64 m] (.bool (Pm m)):=by rw[PJ,aDi,t15];unfold Pm;by_cases h1:m=4<;>by_cases h2:m=6<;>by_cases h3:m=7<;>by_cases d:m=18<;>simp[h1,h2,h3,d]
def č(nm:Ad):Dv:=⟨3,nm,false,[],false,[],false,false,[],false,[],0⟩
def aGe(nm:Ad)(h:Ae):Cj cx 18 [.str nm] h (.agg (Ct (HG nm) .slnil)) h:=by rw[Ac,xy,t18];simp only[abS,Nat.reduceLeDiff,↓reduceIte,B6,HG]
def aJ9(nm:Ad)(h:Ae):Cj cx 20 [.str nm] h (.agg (Ct (č nm) .slnil)) h:=by rw[Ac,x_,t20];simp only[abS,Nat.reduceLeDiff,↓reduceIte,B6,č]
def QM:Bj ([]:List A9) .slnil:= .nil
def ò{nm:Ad}(h:nm.length<=1000):(č nm).Sm:=⟨h,U4,show([]:Ad).length<=1000 by decide,show(-2147483648:Int)<=0/\(0:Int)<=2147483647 by decide⟩
def WV(w:PB h bi b F)(p:DW b)(z:Zs b (j+1))(hj:j+1<=70)(ht:t.Sm)(hp:t.Ke.length<=AN)(d:Bj t.Aq av):FA h F 17 [.ptr (some (bi,0)),.agg (Ct t av)] (.bool (b.apply Hm t).2) bi (b.apply Hm t).1:=
 aF6 w (z.gz hj) ht d (λh=>f75 t hp h) p.U7 (λhm h' w' m _=>aJ1 w' (z.gz hj) ((p.dp (.inr hm)).1 hm) m)
def Zd(w:PB h bi b F)(rm:Cw b m):∃t' o' c' u,Cj cx 16 [.ptr (some (bi,0))] h (.agg (RQ b.Ug t' o' c')) (h++u)/\Qy (h++u) h.length b.Ug t' o' c':=by obtain⟨e,d,c,tt,G,w,hc,rfl⟩:=w;exact aOF w hc rm
def Qy.ô{s:SS}{t o c:Aa}(w:Qy h lo s t o c)(x:Ey h F h' F')(hF:∀i,F i->i<lo):Qy h' lo s t o c:=w.Ep λi h1 h2=>x.old i h2 λhf=>by have:=hF i hf;omega
def aGg{s s':SS}{t o c t' o' c':Aa}{lo d:Nat}(w:Qy h lo s t o c)(w':Qy h d s' t' o' c')(e:s.Au=s'.Au)(hb:s.Au.length<=1000000000):Cj cx 21 [.agg (RQ s t o c),.agg (RQ s' t' o' c')] h tt h:=by have f:=f18 w.o.YF (by rw[e];exact w'.o.YF) hb;rw[Ac,aDk,t21,RQ,RQ];simp only[Ce,f.call]
def oP{v:Aa}(h:lF (.int .i64) v):∃q,v= .int .i64 q:=by obtain⟨n,e,_⟩:=TN (show Zj (.int .i64) [v] from h);exact⟨n,by simpa using e⟩
end
end Go.Am
