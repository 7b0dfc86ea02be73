/- Lemmas -/
import Derived.Test.YtjjnhgoknielgaaGreatDoorW18
set_option linter.all false
namespace Go.Am
set_option maxRecDepth 100000
section
variable{U:Type}{p q:U->Bool}{l:List U}
def SV{n:Nat}(hn:n<l.length)(h1:q l[n]=true)(h2:∀m (hm:m<l.length),n<m->q l[m]=false):AD q l=(n:Int):=by
 rcases BZ (q:=q) (l:=l) with⟨_,h⟩|⟨k,hk,e,h3,a⟩
 .rw[h _ (AG hn)] at h1;cases h1
 .rcases aTf k n with h|h|h
  .rw[a n hn h] at h1;cases h1
  .rw[e,h]
  .rw[h2 k hk h] at h3;cases h3
def Nu{n:Nat}(hn:n<l.length)(h1:q l[n]=true):(n:Int)<=AD q l:=by
 rcases BZ (q:=q) (l:=l) with⟨_,h⟩|⟨k,hk,e,h3,a⟩
 .rw[h _ (AG hn)] at h1;cases h1
 .by_cases h:k<n;.rw[a n hn h] at h1;cases h1
  .omega
def V4{m:Nat}(h0:0<=AD q l)(hm:AD q l<(m:Int)):AD q (l.take m)=AD q l:=by
 rcases BZ (q:=q) (l:=l) with⟨e,_⟩|⟨k,hk,e,h3,c⟩
 .omega
 .rw[e] at hm⊢;have UC:k<(l.take m).length:=by rw[Ax];omega
  refine SV UC (by rw[IH];exact h3) λj hj a=>?_;rw[IH];exact c j (by rw[Ax] at hj;omega) a
def qR(h:∀a,q a=true->p a=true):AD q l<=AD p l:=by
 rcases BZ (q:=q) (l:=l) with⟨e,_⟩|⟨k,hk,e,h3,c⟩
 .have:=(LG (q:=p) (l:=l)).2;omega
 .rw[e];exact Nu hk (h _ h3)
def Ug{i:U}(h:l.reverse.find? p=some i):∃a c,l=a++i::c/\p i=true/\∀x∈c,p x=false:=by
 obtain⟨h1,as,bs,e,h2⟩:=List.find?_eq_some_iff_append.1 h;refine⟨bs.reverse,as.reverse,?_,h1,λx hx=>?_⟩;.have:=B6 List.reverse e;rw[DG] at this;rw[this];simp
 .have:=h2 x (UA.1 hx);simpa using this
def HG{a c:List U}{i:U}(h1:q i=true)(h2:∀x∈c,q x=false):AD q (a++i::c)=(a.length:Int):=by refine SV (n:=a.length) AB (by simpa using h1) λm hm hlt=>?_;rw[ż Ac];obtain⟨k,e⟩:∃k,m-a.length=k+1:=⟨m-a.length-1,Ac⟩;simp only[e,JX];exact h2 _ (AG _)
end
section
variable{l:List Item}{p q:Item->Bool}{b:BS}{nm:Ah}{at_:List Bj}
def lp{i j:Int}(h:i<=j):Hc (Hc l j) i=Hc l i:=by unfold Hc;rw[CK];congr 1;omega
def Nv(c:∀a,q a=true->p a=true)(h:0<=AD q l):D6 Dm q (D6 p Dm l)=Hc l (AD q l):=by
 have h1:=qR (l:=l) c;rw[SI,PH];have e:AD q (Hc l (AD p l+1))=AD q l:=by unfold Hc;exact V4 h Ac
 rw[e];exact lp Ac
def vd(h:AD (AH [AW]) b.Au<0):b.Dn=b:=by unfold BS.Dn;rw[Ae h]
def Q6{a:Item}(h:AH [AW] a=true):EG a=true:=by
 unfold AH at h;have h:=CC h;have e:a.name=AW:=by simpa using h.2
 unfold EG;rw[e];refine Ak (.inr ?_);decide
def Zs(o:EC b)(nm:Ah):b.C1 nm=b\/(0<=AD (AH [nm]) b.Au/\b.C1 nm={b with Au:=Hc b.Au (AD (AH [nm]) b.Au)}):=by
 unfold BS.C1;split
 .rename_i i hi;obtain⟨a,c,e,h1,h2⟩:=Ug hi;split
  .rename_i h3;right;have j:AD (AH [nm]) b.Au=(a.length:Int):=by rw[e];exact HG h3 λx hx=>by have:=h2 x hx;rw[Lc] at this;exact this.1
   have hu:CL nm i=true:=by
    unfold AH at h3;have h3:=CC h3;have d:i.name=nm:=by simpa using h3.2
    unfold CL;exact Ak (.inr (.inr d))
   have WV:a.length<b.Au.length:=by rw[e];simp
   have Ÿ:b.Au[a.length]=i:=by simp[e]
   have k:(a.length:Int)<=AD (CL nm) b.Au:=Nu WV (by rw[Ÿ];exact hu);have h:AD (Bt i.node) b.Au=(a.length:Int):=by
    refine SV WV (by rw[Ÿ];simp[Bt]) λm hm hlt=>?_;unfold Bt;refine Ap λg=>?_;have tH:=o.mU;have f:(b.Au.map Item.node)[m]'(by simpa using hm)=(b.Au.map Item.node)[a.length]'(by simpa using WV):=by simp only[Ei,Ÿ];exact g
    have:=(Ow tH).1 f;omega
   refine⟨Ac,?_⟩;congr 1
   rw[SI,VY];have d:AD (Bt i.node) (Hc b.Au (AD (CL nm) b.Au+1))=AD (Bt i.node) b.Au:=by unfold Hc;exact V4 Ac Ac
   rw[d,h,Aa Ac,j];exact lp Ac
  .exact .inl rfl
 .exact .inl rfl
def EM:(b.Co nm at_ 1).Au=b.Au++[b.HA nm at_ 1]:=by unfold BS.Co BS.Gf;rw[Ae KG];simp only;rw[Ae KG]
def Uh:(b.HA nm at_ 1).node=b.a.len+1:=by unfold BS.HA;rw[Ae KG]
def V5{e:Cn}:b.settled e=true↔e.node=0\/e.node∈b.Au.map Item.node:=by
 unfold BS.settled;rw[aRE];refine or_congr aH9 ⟨λh=>?_,λh=>?_⟩
 .rcases BZ (q:=Bt e.node) (l:=b.Au) with⟨h1,_⟩|⟨n,hn,_,h2,_⟩
  .omega
  .exact A5.2 ⟨_,AG hn,CC h2⟩
 .obtain⟨i,hi,a⟩:=A5.1 h;obtain⟨n,hn,rfl⟩:=LU hi;have:=Nu (q:=Bt e.node) hn (Ak a);omega
end
end Go.Am
