/- Lemmas -/
import Derived.Test.YtjjnhgoknielgaaGreatDoorZ18
set_option linter.all false
namespace Go.Am
set_option maxRecDepth 100000
section
variable{U:Type}{p q:U->Bool}{l:List U}
def SF{n:Nat}(hn:n<l.length)(h1:q l[n]=true)(h2:∀m (hm:m<l.length),n<m->q l[m]=false):AD q l=(n:Int):=by
 rcases BY (q:=q) (l:=l) with⟨_,h⟩|⟨k,hk,e,h3,a⟩
 .rw[h _ (AF hn)] at h1;cases h1
 .rcases aRU k n with h|h|h
  .rw[a n hn h] at h1;cases h1
  .rw[e,h]
  .rw[h2 k hk h] at h3;cases h3
def Nk{n:Nat}(hn:n<l.length)(h1:q l[n]=true):(n:Int)<=AD q l:=by
 rcases BY (q:=q) (l:=l) with⟨_,h⟩|⟨k,hk,e,h3,a⟩
 .rw[h _ (AF hn)] at h1;cases h1
 .by_cases h:k<n;.rw[a n hn h] at h1;cases h1
  .omega
def VM{m:Nat}(h0:0<=AD q l)(hm:AD q l<(m:Int)):AD q (l.take m)=AD q l:=by
 rcases BY (q:=q) (l:=l) with⟨e,_⟩|⟨k,hk,e,h3,c⟩
 .omega
 .rw[e] at hm⊢;have Um:k<(l.take m).length:=by rw[Ay];omega
  refine SF Um (by rw[It];exact h3) λj hj a=>?_;rw[It];exact c j (by rw[Ay] at hj;omega) a
def o8(h:∀a,q a=true->p a=true):AD q l<=AD p l:=by
 rcases BY (q:=q) (l:=l) with⟨e,_⟩|⟨k,hk,e,h3,c⟩
 .have:=(Lu (q:=p) (l:=l)).2;omega
 .rw[e];exact Nk hk (h _ h3)
def T0{i:U}(h:l.reverse.find? p=some i):∃a c,l=a++i::c/\p i=true/\∀x∈c,p x=false:=by
 obtain⟨h1,as,bs,e,h2⟩:=List.find?_eq_some_iff_append.1 h;refine⟨bs.reverse,as.reverse,?_,h1,λx hx=>?_⟩;.have:=B3 List.reverse e;rw[DE] at this;rw[this];simp
 .have:=h2 x (Uk.1 hx);simpa using this
def Hv{a c:List U}{i:U}(h1:q i=true)(h2:∀x∈c,q x=false):AD q (a++i::c)=(a.length:Int):=by refine SF (n:=a.length) AB (by simpa using h1) λm hm hlt=>?_;rw[ł Ab];obtain⟨k,e⟩:∃k,m-a.length=k+1:=⟨m-a.length-1,Ab⟩;simp only[e,JK];exact h2 _ (AF _)
end
section
variable{l:List Item}{p q:Item->Bool}{b:BS}{nm:Ah}{at_:List Be}
def iu{i j:Int}(h:i<=j):GQ (GQ l j) i=GQ l i:=by unfold GQ;rw[CI];congr 1;omega
def Nl(c:∀a,q a=true->p a=true)(h:0<=AD q l):D5 Dh q (D5 p Dh l)=GQ l (AD q l):=by
 have h1:=o8 (l:=l) c;rw[Sr,Ps];have e:AD q (GQ l (AD p l+1))=AD q l:=by unfold GQ;exact VM h Ab
 rw[e];exact iu Ab
def rh(h:AD (AG [AT]) b.Au<0):b.Di=b:=by unfold BS.Di;rw[Af h]
def QV{a:Item}(h:AG [AT] a=true):EC a=true:=by
 unfold AG at h;have h:=CD h;have e:a.name=AT:=by simpa using h.2
 unfold EC;rw[e];refine Ak (.inr ?_);decide
def Y8(o:Ey b)(nm:Ah):b.CV nm=b\/(0<=AD (AG [nm]) b.Au/\b.CV nm={b with Au:=GQ b.Au (AD (AG [nm]) b.Au)}):=by
 unfold BS.CV;split
 .rename_i i hi;obtain⟨a,c,e,h1,h2⟩:=T0 hi;split
  .rename_i h3;right;have j:AD (AG [nm]) b.Au=(a.length:Int):=by rw[e];exact Hv h3 λx hx=>by have:=h2 x hx;rw[K0] at this;exact this.1
   have hu:CJ nm i=true:=by
    unfold AG at h3;have h3:=CD h3;have d:i.name=nm:=by simpa using h3.2
    unfold CJ;exact Ak (.inr (.inr d))
   have WE:a.length<b.Au.length:=by rw[e];simp
   have ľ:b.Au[a.length]=i:=by simp[e]
   have k:(a.length:Int)<=AD (CJ nm) b.Au:=Nk WE (by rw[ľ];exact hu);have h:AD (Bt i.node) b.Au=(a.length:Int):=by
    refine SF WE (by rw[ľ];simp[Bt]) λm hm hlt=>?_;unfold Bt;refine Ap λg=>?_;have rF:=o.lH;have f:(b.Au.map Item.node)[m]'(by simpa using hm)=(b.Au.map Item.node)[a.length]'(by simpa using WE):=by simp only[Ei,ľ];exact g
    have:=(Oe rF).1 f;omega
   refine⟨Ab,?_⟩;congr 1
   rw[Sr,VJ];have d:AD (Bt i.node) (GQ b.Au (AD (CJ nm) b.Au+1))=AD (Bt i.node) b.Au:=by unfold GQ;exact VM Ab Ab
   rw[d,h,Ac Ab,j];exact iu Ab
  .exact .inl rfl
 .exact .inl rfl
def EJ:(b.Cu nm at_ 1).Au=b.Au++[b.HQ nm at_ 1]:=by unfold BS.Cu BS.Gm;rw[Af Kw];simp only;rw[Af Kw]
def T1:(b.HQ nm at_ 1).node=b.a.len+1:=by unfold BS.HQ;rw[Af Kw]
def VN{e:Ck}:b.settled e=true↔e.node=0\/e.node∈b.Au.map Item.node:=by
 unfold BS.settled;rw[aQo];refine or_congr aGY ⟨λh=>?_,λh=>?_⟩
 .rcases BY (q:=Bt e.node) (l:=b.Au) with⟨h1,_⟩|⟨n,hn,_,h2,_⟩
  .omega
  .exact A7.2 ⟨_,AF hn,CD h2⟩
 .obtain⟨i,hi,a⟩:=A7.1 h;obtain⟨n,hn,rfl⟩:=LL hi;have:=Nk (q:=Bt e.node) hn (Ak a);omega
end
end Go.Am
