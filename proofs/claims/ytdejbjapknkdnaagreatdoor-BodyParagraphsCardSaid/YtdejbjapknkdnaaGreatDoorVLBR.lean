/- Lemmas -/
import Derived.Test.YtdejbjapknkdnaaGreatDoorV31
set_option linter.all false
namespace Go.Am
open Go
set_option maxRecDepth 100000
section
variable{b:BS}{S:List Item}
def aGd(h:∀i∈S,AA [wP] i=false):ej S:=λA x C e hx=>by have:=h x (by rw[e];simp);rw[this] at hx;cases hx
def oO{i:Item}{ws:List Ad}(h:AA ws i=true)(hw:wP∉ws):AA [wP] i=false:=by
 cases h2:AA [wP] i with
 |false=>rfl
 |true=>have h3:=(Ch.1 h2).2;simp at h3;have a:=(Ch.1 h).2;rw[h3] at a;exact absurd a hw
def DW.Gq(o:DW b):ej (b.Au.filter AL):=by
 have key:∀m l tm,Shp m l tm->ej (l.filter AL):=by
  intro m l tm h;have Zg:(∀i∈l,AA [wP] i=false)->ej (l.filter AL):=λh=>aGd λi hi=>h i (BV.1 hi).1;rcases h with h|h|h|h|h|h
  .exact Zg (by rw[h.2.1];intro i hi;cases hi)
  .obtain⟨a,e,h1⟩:=h.2.1;exact Zg (by rw[e];intro i hi;simp at hi;rw[hi];exact oO h1 (by decide))
  .obtain⟨a,d,e,h1,h2⟩:=h.2.1;exact Zg (by
    rw[e];intro i hi;simp at hi;rcases hi with rfl|rfl
    .exact oO h1 (by decide)
    .exact oO h2 (by decide))
  .obtain⟨a,d,x,e,h1,h2,h3⟩:=h.2.1;exact Zg (by
    rw[e];intro i hi;simp at hi;rcases hi with rfl|rfl|rfl
    .exact oO h1 (by decide)
    .exact oO h2 (by decide)
    .exact oO h3 (by decide))
  .obtain⟨a,e,h1⟩:=h.2.1;exact Zg (by rw[e];intro i hi;simp at hi;rw[hi];exact oO h1 (by decide))
  .obtain⟨P,d⟩:=h.2;exact d.Gq
 by_cases c:b.mode=8
 .obtain⟨X,r,e,h1,_,_,sh⟩:=o.ZU c;rw[e,Bu];have hp:=key _ _ _ sh;cases hr:AL r with
  |true=>
   have:[r].filter AL=[r]:=by simp[hr]
   rw[this];exact hp.push λh=>by rw[oO h1 (by decide)] at h;cases h
  |false=>
   have:[r].filter AL=[]:=by simp[hr]
   rw[this,A8];exact hp
 .exact key _ _ _ (o.sh c)
end
def Za:∀l,OU [.sl SB] l->Ev cx 4 l [] λr _=>r= .bool true:=by
 rintro _ ⟨v,_,rfl,ha,rfl⟩;obtain⟨l,p,hl,hp⟩:=Ro ha;unfold Ev;rw[aH3,t4];rcases Rq hl p hp [] with⟨j,hs,hn⟩|j
 rotate_left;.simp only[abS,j.call,HW.AQ rfl rfl];exact⟨_,rfl,rfl⟩
 obtain⟨h',bi,F,i,w,x,dE⟩:=Rp (e:=0) p hp hs (by omega) [];by_cases h2:(Gl Hm (l.map (·.1)) (Ic false)).2=2;rotate_left
 .have e:((Gl Hm (l.map (·.1)) (Ic false)).2==2)=false:=by simpa using h2
  rw[e] at i;simp only[abS,j.call,i.call,HW.AQ rfl rfl];exact⟨_,rfl,rfl⟩
 obtain⟨o,z⟩:=dE h2;rw[h2] at i;generalize(Gl Hm (l.map (·.1)) (Ic false)).1=b at*;have Gq:=o.Gq;have qe:=z.rm.Au;simp only[abS,j.call,i.call,show((2:Nat)==2)=true from rfl];refine BO (λk:Nat=>[ff,.bool (Hc (AA [wP]) (Gg 3) (b.Au.take k).reverse),.int .i64 (k:Int)]) (λk h1=>k<=b.Au.length/\h1=h') (λk=>b.Au.length-k) 0 rfl ⟨AU _,rfl⟩ ?_;rintro k h1 ⟨hk,rfl⟩;have g:=VK w;by_cases hlt:k<b.Au.length
 .have d:(k:Int)<(b.Au.length:Int):=by omega
  have ra:=Ð w (k:Int);have q:DT b.Au (k:Int)=b.Au[k]:=HD hlt;rw[q] at ra;have Wi:b.Au[k]∈b.Au:=Ay hlt;have hnm:=z.rm.o7 _ Wi;have f:=aOA b.Au[k] h1;have rb:=aNp (h:=h1) 3 b.Au[k] (by omega);have c:=f167 (h:=h1) b.Au[k] (CO (ws:=[wP])) (by decide);have m:Az (.Cl 1) [S [112]]=some (.sl 1 ([wP].map B1)):=Ef (ws:=[wP]) rfl (by decide);have a:Hc (AA [wP]) (Gg 3) (b.Au.take (k+1)).reverse=if AA [wP] b.Au[k]=true then true else if Gg 3 b.Au[k]=true then false else Hc (AA [wP]) (Gg 3) (b.Au.take k).reverse:=by rw[AV hlt,DZ,Fm,FF,Hc]
  have Ŵ:AA [wP] b.Au[k]=true->Hc (AA [wP]) (Gg 3) (b.Au.take k).reverse=false:=λhx=>by
   rw[<-Ê];refine Gq ((b.Au.take k).filter AL) b.Au[k] ((b.Au.drop (k+1)).filter AL) ?_ hx;conv=>lhs;rw[<-Bl k b.Au,Ap hlt]
   rw[Bu,Ea (spP hx)]
  generalize b.Au[k]=n at*;rw[Item.row] at ra f rb c;have pi:=CI (show k<9223372036854775807 by omega);cases hb:Gg 3 n with
  |true=>
   rw[hb] at rb a;cases hi:AA [wP] n with
   |true=>rw[hi] at c a;simp only[abS,g.call,d,ra.call,f.call,rb.call,m,c.call,pi];exact Bk.next (k+1) (by rw[a];rfl) ⟨hlt,rfl⟩ (by omega)
   |false=>rw[hi] at c a;simp only[abS,g.call,d,ra.call,f.call,rb.call,m,c.call,pi];exact Bk.next (k+1) (by rw[a];rfl) ⟨hlt,rfl⟩ (by omega)
  |false=>
   rw[hb] at rb a;cases hi:AA [wP] n with
   |true=>rw[hi] at c a;rw[Ŵ hi];simp only[abS,g.call,d,ra.call,f.call,rb.call,m,c.call,pi];exact Bk.next (k+1) (by rw[a];rfl) ⟨hlt,rfl⟩ (by omega)
   |false=>rw[hi] at c a;simp only[abS,g.call,d,ra.call,f.call,rb.call,m,c.call,pi];exact Bk.next (k+1) (by rw[a];rfl) ⟨hlt,rfl⟩ (by omega)
 .have d:¬(k:Int)<(b.Au.length:Int):=by omega
  simp only[abS,g.call,d,HW.AQ rfl rfl];exact⟨_,rfl,rfl⟩
end Go.Am
