/- Lemmas -/
import Derived.Test.YtdejbjapknkdnaaGreatDoorV18
set_option linter.all false
namespace Go.Am
set_option maxRecDepth 100000
section
variable{U:Type}{p q:U->Bool}{l:List U}
def Su{n:Nat}(hn:n<l.length)(h1:q l[n]=true)(h2:∀m (hm:m<l.length),n<m->q l[m]=false):Ax q l=(n:Int):=by
 rcases B8 (q:=q) (l:=l) with⟨_,h⟩|⟨k,hk,e,h3,a⟩
 .rw[h _ (Ay hn)] at h1;cases h1
 .rcases aR0 k n with h|h|h
  .rw[a n hn h] at h1;cases h1
  .rw[e,h]
  .rw[h2 k hk h] at h3;cases h3
def MZ{n:Nat}(hn:n<l.length)(h1:q l[n]=true):(n:Int)<=Ax q l:=by
 rcases B8 (q:=q) (l:=l) with⟨_,h⟩|⟨k,hk,e,h3,a⟩
 .rw[h _ (Ay hn)] at h1;cases h1
 .by_cases h:k<n;.rw[a n hn h] at h1;cases h1
  .omega
def VI{m:Nat}(h0:0<=Ax q l)(hm:Ax q l<(m:Int)):Ax q (l.take m)=Ax q l:=by
 rcases B8 (q:=q) (l:=l) with⟨e,_⟩|⟨k,hk,e,h3,c⟩
 .omega
 .rw[e] at hm⊢;have Ua:k<(l.take m).length:=by rw[Av];omega
  refine Su Ua (by rw[If];exact h3) λj hj a=>?_;rw[If];exact c j (by rw[Av] at hj;omega) a
def nR(h:∀a,q a=true->p a=true):Ax q l<=Ax p l:=by
 rcases B8 (q:=q) (l:=l) with⟨e,_⟩|⟨k,hk,e,h3,c⟩
 .have:=(K4 (q:=p) (l:=l)).2;omega
 .rw[e];exact MZ hk (h _ h3)
def TO{i:U}(h:l.reverse.find? p=some i):∃a c,l=a++i::c/\p i=true/\∀x∈c,p x=false:=by
 obtain⟨h1,as,bs,e,h2⟩:=List.find?_eq_some_iff_append.1 h;refine⟨bs.reverse,as.reverse,?_,h1,λx hx=>?_⟩;.have:=BQ List.reverse e;rw[Ds] at this;rw[this];simp
 .have:=h2 x (T7.1 hx);simpa using this
def Hi{a c:List U}{i:U}(h1:q i=true)(h2:∀x∈c,q x=false):Ax q (a++i::c)=(a.length:Int):=by refine Su (n:=a.length) (by simp) (by simpa using h1) λm hm hlt=>?_;rw[Ď (by omega)];obtain⟨k,e⟩:∃k,m-a.length=k+1:=⟨m-a.length-1,by omega⟩;simp only[e,Nd];exact h2 _ (Ay _)
end
section
variable{l:List Item}{p q:Item->Bool}{b:BS}{nm:Ad}{at_:List A9}
def dj{i j:Int}(h:i<=j):Hd (Hd l j) i=Hd l i:=by unfold Hd;rw[Cy];congr 1;omega
def M0(c:∀a,q a=true->p a=true)(h:0<=Ax q l):DN C8 q (DN p C8 l)=Hd l (Ax q l):=by
 have h1:=nR (l:=l) c;rw[Si,Sg];have e:Ax q (Hd l (Ax p l+1))=Ax q l:=by unfold Hd;exact VI h (by omega)
 rw[e];exact dj (by omega)
def ob(h:Ax (AA [AF]) b.Au<0):b.CN=b:=by unfold BS.CN;rw[if_pos h]
def QA{a:Item}(h:AA [AF] a=true):Eh a=true:=by
 unfold AA at h;have h:=BB h;have e:a.name=AF:=by simpa using h.2
 unfold Eh;rw[e];refine Ag (.inr ?_);decide
def oc(h:0<=Ax (AA [AF]) b.Au):b.CN.Au=Hd b.Au (Ax (AA [AF]) b.Au)/\b.CN.tm=b.tm.dropLast/\b.CN.AW=EX b.AW:=by unfold BS.CN;rw[if_neg (by omega)];exact⟨M0 (λ_=>QA) h,rfl,rfl⟩
def YR(o:Fa b)(nm:Ad):b.Dg nm=b\/(0<=Ax (AA [nm]) b.Au/\b.Dg nm={b with Au:=Hd b.Au (Ax (AA [nm]) b.Au)}):=by
 unfold BS.Dg;split
 .rename_i i hi;obtain⟨a,c,e,h1,h2⟩:=TO hi;split
  .rename_i h3;right;have k:Ax (AA [nm]) b.Au=(a.length:Int):=by rw[e];exact Hi h3 λx hx=>by have:=h2 x hx;rw[KC] at this;exact this.1
   have hu:Cz nm i=true:=by
    unfold AA at h3;have h3:=BB h3;have f:i.name=nm:=by simpa using h3.2
    unfold Cz;exact Ag (.inr (.inr f))
   have S5:a.length<b.Au.length:=by rw[e];simp
   have Ĉ:b.Au[a.length]=i:=by simp[e]
   have n:(a.length:Int)<=Ax (Cz nm) b.Au:=MZ S5 (by rw[Ĉ];exact hu);have j:Ax (Bq i.node) b.Au=(a.length:Int):=by
    refine Su S5 (by rw[Ĉ];simp[Bq]) λm hm hlt=>?_;unfold Bq;refine Ak λh=>?_;have d:=o.qt;have g:(b.Au.map Item.node)[m]'(by simpa using hm)=(b.Au.map Item.node)[a.length]'(by simpa using S5):=by simp only[Ek,Ĉ];exact h
    have:=(List.getElem_inj d).1 g;omega
   refine⟨by omega,?_⟩;congr 1
   rw[Si,VE];have f:Ax (Bq i.node) (Hd b.Au (Ax (Cz nm) b.Au+1))=Ax (Bq i.node) b.Au:=by unfold Hd;exact VI (by omega) (by omega)
   rw[f,j,if_neg (by omega),k];exact dj (by omega)
  .exact .inl rfl
 .exact .inl rfl
def FY:(b.CX nm at_ 1).Au=b.Au++[b.IJ nm at_ 1]:=by unfold BS.CX BS.HL;rw[if_pos Lm];simp only;rw[if_pos Lm]
def nS:(b.IJ nm at_ 1).node=b.a.len+1:=by unfold BS.IJ;rw[if_pos Lm]
def nT{e:B2}:b.settled e=true↔e.node=0\/e.node∈b.Au.map Item.node:=by
 unfold BS.settled;rw[aP2];refine or_congr rk ⟨λh=>?_,λh=>?_⟩
 .rcases B8 (q:=Bq e.node) (l:=b.Au) with⟨h1,_⟩|⟨n,hn,_,h2,_⟩
  .omega
  .exact Bb.2 ⟨_,Ay hn,BB h2⟩
 .obtain⟨i,hi,a⟩:=Bb.1 h;obtain⟨n,hn,rfl⟩:=PG hi;have:=MZ (q:=Bq e.node) hn (Ag a);omega
end
end Go.Am
