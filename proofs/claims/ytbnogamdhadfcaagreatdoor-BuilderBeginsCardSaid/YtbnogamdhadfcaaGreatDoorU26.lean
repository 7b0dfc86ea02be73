/- Lemmas -/
import Derived.Test.YtbnogamdhadfcaaGreatDoorU25
import Derived.Test.YtbnogamdhadfcaaGreatDoorU20
set_option linter.unusedVariables false
set_option linter.unusedSimpArgs false
section
namespace Go.Am
open Go
set_option maxRecDepth 100000
section
section
variable{e:B3}{d:Aa}
end
section
variable{h:Ae}{v:Aa}{l:List B3}{id o:Nat}
theorem f99(hc:At h id o v)(hv:C0 l v)(hb:l.length<=1000000000):BE cx 154 [Pt id o] h (I (since l)) h:=by
 have hv:AL 3 (l.map B3.row) v:=hv;rw[Ab,mV,aAS];simp only[Az,hc.load,Bn,hv.Cq];refine A9 (λn:Nat=>[I (n:Int)]) (λn h1=>n<=l.length/\since l=since (l.take n)/\h1=h) (λn=>n) l.length rfl ⟨Ac _,by rw[Bu],rfl⟩ ?_;rintro n h1 ⟨hn,ha,rfl⟩;cases n with
 |zero=>simp only[Az,show¬(0:Int)<((0:Nat):Int) by omega,An,Ak,Ag,ha,rK];rfl
 |succ n=>rw[Vh hn] at ha;simp only[Az,show(0:Int)<((n+1:Nat):Int) by omega,Ap,Ak,Ag,hc.load,Bn,Hm (show 0<n+1 by omega) (show n+1<9223372036854775807 by omega),GH,hv.Bz (show n<l.length from hn),B3.uz];refine⟨λh0=>AF.next n rfl ⟨by omega,by rw[ha,if_neg h0],rfl⟩ (by omega),λh0=>?_⟩;rw[if_pos (by simpa using h0)] at ha;rw[ha];rfl
theorem qc(hv:C0 l v)(hb:l.length<=1000000000):BE cx 224 [v] h (I (since l)) h:=by
 have hv:AL 3 (l.map B3.row) v:=hv;rw[Ab,m_,aFp];refine A9 (λn:Nat=>[I (since (l.take n)),I (n:Int)]) (λn h1=>n<=l.length/\h1=h) (λn=>l.length-n) 0 rfl ⟨AO _,rfl⟩ ?_;rintro n h1 ⟨hn,rfl⟩;rcases AT n l.length with hlt|D2
 .have i1:(n:Int)<(l.length:Int):=by omega
  have e1:=Vh hlt;simp only[Az,hv.Cq,i1,Ap,Ak,Ag,hv.Bz hlt,B3.uz,BG (show n<9223372036854775807 by omega)];refine⟨λh0=>?_,λh0=>?_⟩;·rw[if_pos h0] at e1;exact AF.next (n+1) (by rw[e1];rfl) ⟨hlt,rfl⟩ (by omega)
  .rw[if_neg h0] at e1;exact AF.next (n+1) (by rw[e1]) ⟨hlt,rfl⟩ (by omega)
 .have i1:¬(n:Int)<(l.length:Int):=by omega
  simp only[Az,hv.Cq,i1,An,Ak,Ag,Ay D2]
theorem aK6(hc:At h id o v)(hv:C0 l v)(hb:l.length<=1000000000)(name:As):BE cx 172 [Pt id o,.str name] h (I (Ml name l)) h:=by
 have hv:AL 3 (l.map B3.row) v:=hv;rw[Ab,nB,aA2];simp only[Az,I3,hc.load,Bn,hv.Cq,CJ (show -9223372036854775808<=(l.length:Int)-1 by omega) (show(l.length:Int)-1<9223372036854775808 by omega)];refine A9 (λn:Nat=>[I 0,I ((n:Int)-1)]) (λn h1=>n<=l.length/\Ml name l=Ml name (l.take n)/\h1=h) (λn=>n) l.length rfl ⟨Ac _,by rw[Bu],rfl⟩ ?_;rintro n h1 ⟨hn,ha,rfl⟩;cases n with
 |zero=>
  have i1:¬(0:Int)<=((0:Nat):Int)-1:=by omega
  rw[ha];simp only[Az,i1,An,Ak,Ag,rL]
 |succ n=>
  have i2:((n+1:Nat):Int)-1=(n:Int):=by omega
  rw[P5 hn] at ha;simp only[Az,i2,show(0:Int)<=(n:Int) by omega,Ap,Ak,Ag,hc.load,Bn,hv.Bz (show n<l.length from hn),B3.uz,B3.bO,CJ (show -9223372036854775808<=(n:Int)-1 by omega) (show(n:Int)-1<9223372036854775808 by omega)];refine⟨λh0=>⟨λh1=>?_,λh1=>?_⟩,λh0=>?_⟩;·rw[ha,if_neg h0,if_pos h1]
  .exact AF.next n rfl ⟨by omega,by rw[ha,if_neg h0,if_neg h1],rfl⟩ (by omega)
  .rw[ha,if_pos (by simpa using h0)]
theorem aK7(hv:C0 l v)(hb:l.length<=1000000000)(name:As):BE cx 277 [v,.str name] h (I (Ml name l)) h:=by
 have Du:AL 3 (l.map B3.row) v:=hv;obtain⟨s,es,IP,hs2,B_⟩:=II l;have r1:=qc (h:=h) hv hb;rw[es] at r1;rw[Ab,ot,aFK];simp only[r1.call];refine A9 (λn:Nat=>[I (Ml name (l.take n)),I (n:Int)]) (λn h1=>s<=n/\n<=l.length/\h1=h) (λn=>l.length-n) s (by rw[bU es]) ⟨Ac _,IP,rfl⟩ ?_;rintro n h1 ⟨hsn,hn,rfl⟩;rcases AT n l.length with hlt|D2
 .have i1:(n:Int)<(l.length:Int):=by omega
  have e1:=P5 (name:=name) hlt;rw[if_neg (hs2 n hlt hsn)] at e1;simp only[Az,Du.Cq,i1,Ap,Ak,Ag,Du.Bz hlt,B3.bO,BG (show n<9223372036854775807 by omega)];refine⟨λh0=>?_,λh0=>?_⟩;·rw[if_pos h0] at e1;exact AF.next (n+1) (by rw[e1]) ⟨by omega,hlt,rfl⟩ (by omega)
  .rw[if_neg h0] at e1;exact AF.next (n+1) (by rw[e1]) ⟨by omega,hlt,rfl⟩ (by omega)
 .have i1:¬(n:Int)<(l.length:Int):=by omega
  simp only[Az,Du.Cq,i1,An,Ak,Ag,Ay D2]
theorem f41(hc:At h id o v)(hv:C0 l v)(hb:l.length<=1000000000)(node:Int):BE cx 92 [Pt id o,I node] h (I (GC node l)) h:=by
 have hv:AL 3 (l.map B3.row) v:=hv;rw[Ab,zF,t92];simp only[Az,I3,hc.load,Bn,hv.Cq,CJ (show -9223372036854775808<=(l.length:Int)-1 by omega) (show(l.length:Int)-1<9223372036854775808 by omega)];refine⟨λh0=>by rw[GC,if_pos h0],λh0=>?_⟩;rw[GC,if_neg h0];refine A9 (λn:Nat=>[I 0,I ((n:Int)-1)]) (λn h1=>n<=l.length/\AK (Of node) l=AK (Of node) (l.take n)/\h1=h) (λn=>n) l.length rfl ⟨Ac _,by rw[Bu],rfl⟩ ?_;rintro n h1 ⟨hn,ha,rfl⟩;cases n with
 |zero=>
  have i1:¬(0:Int)<=((0:Nat):Int)-1:=by omega
  rw[ha];simp only[Az,i1,An,Ak,Ag,IX]
 |succ n=>
  have i2:((n+1:Nat):Int)-1=(n:Int):=by omega
  rw[Gb hn] at ha;simp only[Az,i2,show(0:Int)<=(n:Int) by omega,Ap,Ak,Ag,hc.load,Bn,hv.Bz (show n<l.length from hn),B3.uz,CJ (show -9223372036854775808<=(n:Int)-1 by omega) (show(n:Int)-1<9223372036854775808 by omega)];refine⟨λh1=>?_,λh1=>?_⟩;·rw[ha,if_pos (by simpa[Of] using h1)]
  .exact AF.next n rfl ⟨by omega,by rw[ha,if_neg (by simpa[Of] using h1)],rfl⟩ (by omega)
theorem aK9(hv:C0 l v)(hb:l.length<=1000000000)(node:Int):BE cx 218 [v,I node] h (I (GC node l)) h:=by
 have Du:AL 3 (l.map B3.row) v:=hv;rw[Ab,mr,aFk];refine A9 (λn:Nat=>[I (GC node (l.take n)),I (n:Int)]) (λn h1=>n<=l.length/\h1=h) (λn=>l.length-n) 0 (by simp[GC,IX]) ⟨AO _,rfl⟩ ?_;rintro n h1 ⟨hn,rfl⟩;rcases AT n l.length with hlt|D2
 .have i1:(n:Int)<(l.length:Int):=by omega
  have e1:GC node (l.take (n+1))=if node=0 then -1 else if l[n].c.node=node then(n:Int) else AK (Of node) (l.take n):=by unfold GC;rw[Gb hlt];simp[Of]
  simp only[Az,Du.Cq,i1,Ap,Ak,Ag,Du.Bz hlt,B3.uz,BG (show n<9223372036854775807 by omega)];refine⟨λh0=>⟨λh1=>?_,λh1=>?_⟩,λh0=>?_⟩;·exact AF.next (n+1) (by rw[e1,if_neg h0,if_pos h1]) ⟨hlt,rfl⟩ (by omega)
  .exact AF.next (n+1) (by rw[e1,if_neg h0,if_neg h1,GC,if_neg h0]) ⟨hlt,rfl⟩ (by omega)
  .have h0:node=0:=by simpa using h0
   exact AF.next (n+1) (by rw[e1,if_pos h0,GC,if_pos h0]) ⟨hlt,rfl⟩ (by omega)
 .have i1:¬(n:Int)<(l.length:Int):=by omega
  simp only[Az,Du.Cq,i1,An,Ak,Ag,Ay D2]
end
section
variable{h:Ae}{v:Aa}{l:List AW}
theorem aGj(hv:Bx l v)(hb:l.length<=1000000000)(x:AW):BE cx 307 [v,.agg x.row] h (.bool (decide (x∈l))) h:=by
 have hv:AL 3 (l.map AW.row) v:=hv;rw[Ab,pv,aFW];simp only[Az,AW.Co,AW.g0,AW.g1,AW.g2,AW.Ny];refine A9 (λn:Nat=>[.bool false,I (n:Int)]) (λn h1=>n<=l.length/\x∉l.take n/\h1=h) (λn=>l.length-n) 0 rfl ⟨AO _,by simp,rfl⟩ ?_;rintro n h1 ⟨hn,ha,rfl⟩;rcases AT n l.length with hlt|D2
 .have i1:(n:Int)<(l.length:Int):=by omega
  simp only[Az,hv.Cq,i1,Ap,Ak,Ag,hv.Bz hlt,AW.Co,AW.GA,Ac,bR,Bool.bne_false,BG (show n<9223372036854775807 by omega)];refine⟨λh0=>?_,λh0=>?_⟩
  .have:x∈l:=by rw[<-h0];exact AJ hlt
   simp[this]
  .refine AF.next (n+1) rfl ⟨hlt,?_,rfl⟩ (by omega);rw[Av hlt,Ao,not_or];exact⟨ha,by simpa using λe=>h0 e.symm⟩
 .have i1:¬(n:Int)<(l.length:Int):=by omega
  rw[Ay D2] at ha;simp only[Az,hv.Cq,i1,An,Ak,Ag,AA ha]
theorem aLa(hv:Bx l v)(hb:l.length<=1000000000)(x:AW):BE cx 287 [v,.agg x.row] h (I (B9 (λa=>decide (x=a)) 0 l)) h:=by
 have hv:AL 3 (l.map AW.row) v:=hv;rw[Ab,oQ,aBF];simp only[Az,hv.Cq,AW.Co,AW.g0,AW.g1,AW.g2,AW.Ny];refine A9 (λn:Nat=>[I 0,I (n:Int)]) (λn h1=>n<=l.length/\B9 (λa=>decide (x=a)) 0 l=B9 (λa=>decide (x=a)) n (l.drop n)/\h1=h) (λn=>l.length-n) 0 rfl ⟨AO _,rfl,rfl⟩ ?_;rintro n h1 ⟨hn,ha,rfl⟩;rcases AT n l.length with hlt|D2
 .have i1:(n:Int)<(l.length:Int):=by omega
  rw[AG hlt,B9] at ha;simp only[Az,i1,Ap,Ak,Ag,hv.Bz hlt,AW.Co,AW.GA,Ac,bR,Bool.bne_false,BG (show n<9223372036854775807 by omega)];refine⟨λh0=>?_,λh0=>?_⟩;·rw[ha,if_pos (by simpa using h0)]
  .exact AF.next (n+1) rfl ⟨hlt,by rw[ha,if_neg (by simpa using h0)],rfl⟩ (by omega)
 .have i1:¬(n:Int)<(l.length:Int):=by omega
  rw[A3 D2,B9] at ha;simp only[Az,i1,An,Ak,Ag,ha]
theorem aLb(hv:Bx l v)(hb:l.length<=1000000000)(x:AW):BE cx 243 [v,.agg x.row] h (.bool (decide (x∈l))) h:=by
 rw[Ab,oH,aBw];simp only[Az,AW.Co,AW.g0,AW.g1,AW.g2,AW.Ny,(aLa hv hb x).call];rcases GR (p:=λa=>decide (x=a)) (l:=l) (k:=0) with⟨h1,h2⟩|⟨n,a,h1,h2,h3⟩
 .rw[h1];have:x∉l:=λhm=>by have:=ZA.1 h2 x hm;simp at this
  simp[this]
 .have hm:=CD h2;have he:x=a:=by simpa using List.find?_some h3
  have hx:x∈l:=by rw[he];exact hm
  rw[h1];simp[hx]
def cR(F:Aa)(h:Ae)(q:AW->Bool):Prop:=∃f caps,F= .func (.func f) [] caps/\f<=99999/\∀a:AW,BE cx f (.agg a.row::caps) h (.bool (q a)) h
theorem aGk{F:Aa}{q:AW->Bool}(hv:Bx l v)(hb:l.length<=1000000000)(hF:cR F h q):BE cx 118 [v,F] h (I (B9 q 0 l)) h:=by
 have hv:AL 3 (l.map AW.row) v:=hv;obtain⟨f,caps,rfl,hf,hr⟩:=hF;rw[Ab,T1,zI];simp only[Az,hv.Cq];refine A9 (λn:Nat=>[I 0,I (n:Int)]) (λn h1=>n<=l.length/\B9 q 0 l=B9 q n (l.drop n)/\h1=h) (λn=>l.length-n) 0 rfl ⟨AO _,rfl,rfl⟩ ?_;rintro n h1 ⟨zX,ha,rfl⟩;rcases AT n l.length with hlt|D2
 .have i1:(n:Int)<(l.length:Int):=by omega
  rw[AG hlt,B9] at ha;simp only[Az,↓reduceIte,Dt,hf,i1,Ap,Ak,Ag,hv.Bz hlt,AW.Co,AW.GA,Ac,(hr l[n]).call];rw[Ct];refine⟨λhe=>?_,λhe=>?_⟩;·rw[ha,if_pos he]
  .rw[if_neg (by simp[he])] at ha;simp only[Az,BG (show n<9223372036854775807 by omega)];exact AF.next (n+1) rfl ⟨hlt,ha,rfl⟩ (by omega)
 .have i1:¬(n:Int)<(l.length:Int):=by omega
  rw[A3 D2,B9] at ha;simp only[Az,↓reduceIte,Dt,hf,i1,An,Ak,Ag,ha]
theorem aGl{F:Aa}{q:AW->Bool}(hv:Bx l v)(hb:l.length<=1000000000)(hF:cR F h q):BE cx 148 [v,F] h (.bool (l.any q)) h:=by
 rw[Ab,Y1,t148];simp only[Az,(aGk hv hb hF).call];have:l.any q=(l.find? q).isSome:=by rw[Bool.eq_iff_iff,List.find?_isSome,List.any_eq_true]
 rw[this];rcases GR (p:=q) (l:=l) (k:=0) with⟨h1,h2⟩|⟨n,a,h1,h2,h3⟩
 .rw[h1,h2];simp
 .rw[h1,h3];simp
theorem aLc(hv:Bx l v)(hb:l.length<=1000000000)(x:AW):BE cx 242 [.agg x.row,.CA [v]] h (.bool (!decide (x∈l))) h:=by rw[Ab,oG,aBv];simp only[Az,AW.Co,AW.g0,AW.g1,AW.g2,AW.Ny,(aLb hv hb x).call]
theorem aGm{l2:List AW}{w:Aa}(hv:Bx l v)(hb:l.length<=1000000000)(hw:Bx l2 w)(MC:l2.length<=1000000000):BE cx 241 [v,w] h (.bool (decide (∀x∈l,x∈l2))) h:=by
 have hF:cR (.func (.func 242) [] [.CA [w]]) h λx=> !decide (x∈l2):=⟨242,_,rfl,by decide,λa=>aLc hw MC a⟩;have e:(!l.any λx=> !decide (x∈l2))=decide (∀x∈l,x∈l2):=by rw[Bool.eq_iff_iff];simp
 rw[Ab,oF,aBu,<-e];simp only[Az,AL.cells hw,(aGl hv hb hF).call]
theorem aLd{a b:B3}(ha:WK a)(hb:WK b):BE cx 167 [.agg a.row,.agg b.row] h (.bool (FN a.c b.c)) h:=by
 have r1:=aGm (h:=h) a.ok ha b.ok hb;have r2:=aGm (h:=h) b.ok hb a.ok ha;rw[Ab,m7,aAY];simp only[Az,Nat.reduceLeDiff,↓reduceIte,Dt,BB,B3.Co,B3.g1,B3.g2,B3.iv,r1.call,r2.call];refine⟨λh1=>⟨λh2=>⟨λh3=>?_,λh3=>?_⟩,λh2=>?_⟩,λh1=>?_⟩
 .have Xk:a.c.Ax.length=b.c.Ax.length:=by omega
  simp only[FN,h1,Xk,NC];congr 3
  rw[eq_iff_iff];exact⟨λh=>⟨h3,h⟩,λh=>h.2⟩
 .simp[FN,h3]
 .have Xk:¬a.c.Ax.length=b.c.Ax.length:=by omega
  simp[FN,Xk]
 .simp[FN,h1]
theorem f241{a b:B3}(ha:WK a)(hb:WK b):BE cx 270 [.agg a.row,.agg b.row] h (.bool (FN a.c b.c)) h:=by
 have va:AL 3 (a.c.Ax.map AW.row) a.v:=a.ok;have vb:AL 3 (b.c.Ax.map AW.row) b.v:=b.ok;unfold WK at ha hb;rw[Ab,oe,aFD];simp only[Az,B3.Co,B3.g1,B3.g2,B3.iv];refine⟨λh1=>?_,λh1=>⟨λh2=>?_,λh2=>?_⟩⟩;·simp[FN,h1]
 .have Xk:¬a.c.Ax.length=b.c.Ax.length:=by omega
  simp[FN,Xk]
 have h1:a.c.name=b.c.name:=by simpa using h1
 have h2:a.c.Ax.length=b.c.Ax.length:=by omega
 refine A9 (λn:Nat=>[.bool false,I (n:Int)]) (λn h1=>n<=a.c.Ax.length/\(∀x∈a.c.Ax.take n,x∈b.c.Ax)/\(∀x∈b.c.Ax.take n,x∈a.c.Ax)/\h1=h) (λn=>a.c.Ax.length-n) 0 rfl ⟨AO _,by simp,by simp,rfl⟩ ?_;rintro n h1 ⟨hn,WB,Nv,rfl⟩;rcases AT n a.c.Ax.length with hlt|D2
 .have i1:(n:Int)<(a.c.Ax.length:Int):=by omega
  have aBX:n<b.c.Ax.length:=by omega
  have m1:=AJ hlt;have m2:=AJ aBX;simp only[Az,B3.iv,i1,Ap,Ak,Ag,va.Bz hlt,vb.Bz aBX,AW.Co,AW.GA,Ac,(aGj b.ok hb _).call,(aGj a.ok ha _).call,BG (show n<9223372036854775807 by omega)];rw[Ct,Ct];refine⟨λh3=>?_,λh3=>⟨λh4=>?_,λh4=>?_⟩⟩
  .have h3:a.c.Ax[n]∉b.c.Ax:=by simpa using h3
   have:FN a.c b.c=false:=by simp only[FN,decide_eq_false_iff_not];exact λh=>h3 (h.2.2.1 _ m1)
   rw[this]
  .have h4:b.c.Ax[n]∉a.c.Ax:=by simpa using h4
   have:FN a.c b.c=false:=by simp only[FN,decide_eq_false_iff_not];exact λh=>h4 (h.2.2.2 _ m2)
   rw[this]
  .have h3:a.c.Ax[n]∈b.c.Ax:=by simpa using h3
   have h4:b.c.Ax[n]∈a.c.Ax:=by simpa using h4
   refine AF.next (n+1) rfl ⟨hlt,?_,?_,rfl⟩ (by omega)
   .rw[Av hlt];intro x hx;rcases Ao.1 hx with hx|hx
    .exact WB x hx
    .rw[Fl.1 hx];exact h3
   .rw[Av aBX];intro x hx;rcases Ao.1 hx with hx|hx
    .exact Nv x hx
    .rw[Fl.1 hx];exact h4
 .have i1:¬(n:Int)<(a.c.Ax.length:Int):=by omega
  rw[Ay D2] at WB;rw[Ay (by omega)] at Nv;have:FN a.c b.c=true:=by simp only[FN,DI];exact⟨by assumption,h2,WB,Nv⟩
  rw[this];simp only[Az,B3.iv,i1,An,Ak,Ag]
end
end
section
theorem Bv{Q:Post}{h:Ae}{a:Aa}{k:IT}:W cx (.same a a k) Q h↔W cx k Q h:=by refine⟨λhw=>?_,yc (Aa.QY a)⟩;obtain⟨m,x',Hi,h',hr,q⟩:=hw.succ;simp only[IT.step,Aa.QY,BN] at hr;exact CL ⟨m,x',Hi,h',hr,q⟩
section
variable{h:Ae}{v:Aa}{l:List B3}{id o:Nat}
theorem f45{l:List AW}(hv:Bx l v)(hb:l.length<=1000000000):∃u,BE cx 54 [v] h u h/\Bx l u:=by
 have hv:AL 3 (l.map AW.row) v:=hv;rcases hv with rfl|⟨rfl,hn⟩
 .refine⟨.sl 3 (l.map AW.row),?_,.mk⟩;have e1:Aw (.GL false .sl) [.sl 3 (l.map AW.row),.slnil]=some (.bool false):=rfl;have e2:Aw (.By 3) []=some (.sl 3 []):=rfl;have e3:O7 h 3 40 (.sl 3 []) (.sl 3 (l.map AW.row))=some (.sl 3 (l.map AW.row)):=by
   simp only[O7,Gi,BN,Cs];cases l with
   |nil=>rfl
   |cons a l=>have:(l.length+1)*40<=AS:=Pr (by simp at hb;omega);simp[DN,this]
  rw[Ab,iV,t54];simp only[Az,e1,e2,e3]
 .refine⟨.slnil,?_,?_⟩;·have e1:Aw (.GL false .sl) [.slnil,.slnil]=some (.bool true):=rfl;rw[Ab,iV,t54];simp only[Az,e1]
  .exact .inr ⟨rfl,hn⟩
theorem zY{e:B3}(he:WK e):∃e':B3,e'.c=e.c/\BE cx 169 [.agg e.row] h (.agg e'.row) h:=by obtain⟨u,r,hu⟩:=f45 (h:=h) e.ok he;refine⟨⟨e.c,u,hu⟩,rfl,?_⟩;rw[Ab,m9,aA0];simp only[Az,B3.Co,B3.g0,B3.g1,B3.g2,r.call,AL.cells hu];rfl
theorem aLe{e:B3}(he:WK e):∃e':B3,e'.c=e.c/\BE cx 223 [.agg e.row] h (.agg e'.row) h:=by obtain⟨u,r,hu⟩:=AL.Gm (f:=AW.row) e.ok (b:=40) (Pr (by unfold WK at he;omega));refine⟨⟨e.c,u,hu⟩,rfl,?_⟩;rw[Ab,mz,aFo];simp only[Az,B3.Co,B3.g0,B3.g1,B3.g2,r,AL.cells hu];rfl
theorem aLf(hv:C0 l v){k:Nat}(hk:k<l.length)(hb:l.length<=1000000000):∃u,BE cx 168 [v,I (k:Int)] h u h/\C0 (A6 l k) u:=by obtain⟨u1,e1,h1⟩:=AL.Lb hv (k:= .i64) (show k<=l.length by omega);obtain⟨u2,e2,h2⟩:=AL.Gm h1 (b:=48) (Oe (by rw[Al];omega));obtain⟨u4,e4,h4⟩:=AL.QU hv (k:= .i64) (show k+1<=l.length by omega);obtain⟨u5,e5,h5⟩:=AL.YC h2 h4 (b:=48) (Oe (by rw[Al,A7];omega));refine⟨u5,?_,h5⟩;rw[Ab,m8,aAZ];simp only[Az,e1,e2,BG (show k<9223372036854775807 by omega),e4,e5]
theorem zZ(hv:C0 l v)(e:B3){k:Nat}(hk:k<=l.length)(hb:l.length<=1000000000):∃u,BE cx 153 [v,.agg e.row,I (k:Int)] h u h/\C0 (l.take k++e::l.drop k) u:=by obtain⟨u1,e1,h1⟩:=AL.Lb hv (k:= .i64) hk;obtain⟨u2,e2,h2⟩:=AL.Gm h1 (b:=48) (Oe (by rw[Al];omega));have e3:=AL.Ja (a:=e) h2 (b:=48) (Oe (by rw[Al];omega));obtain⟨u4,e4,h4⟩:=AL.QU hv (k:= .i64) hk;obtain⟨u5,e5,h5⟩:=AL.YC (f:=B3.row) (l:=l.take k++[e]) .mk h4 (b:=48) (Oe (by rw[Aq,Al,A7,Bs];omega));refine⟨u5,?_,by rw[AB] at h5;exact h5⟩;rw[Ab,mU,aAR];simp only[Az,B3.Co,B3.g0,B3.g1,B3.g2,B3.Ny,e1,e2,KQ B3.Co,e3,e4,e5]
theorem aBY(hv:C0 l v)(hne:l≠[])(hb:l.length<=1000000000):BE cx 145 [v] h (.Cm h.length 0 l.length 3) (h++[.cells (l.map B3.row).flatten]):=by
 have e1:Aw (.GL false .sl) [v,.slnil]=some (.bool false):=by
  rcases hv with rfl|⟨rfl,hv⟩
  .rfl
  .exact absurd (by simpa using hv) hne
 have e2:Aw (.By 3) []=some (.sl 3 []):=rfl;have e3:=J8 (h:=h) (s:= .sl 3 []) (z:=3) (b:=48) (.inr rfl) hv (by simpa using hne) (by rw[Ai];exact Oe (by omega));rw[Ai] at e3;rw[Ab,T3,zK];simp only[Az,e1,e2,e3]
theorem f63(hs:RU h id o l)(hb:l.length<=1000000000):∃u,BE cx 67 [Pt id o] h (.tuple []) (put h id o u)/\C0 (l++[YI]) u:=by obtain⟨v,hc,hv⟩:=(show RU h id o l from hs);obtain⟨u,hr,hu⟩:=zZ (h:=h) hv YI (Ac l.length) hb;rw[Bu,Fs] at hu;refine⟨u,?_,hu⟩;rw[Ab,aAr,t67];simp only[Az,↓reduceIte,AI,kD,JN,hc.load,Bn,AL.Cq hv,xO,hr.call,hc.store (C0.cells hu)]
theorem aLg(hs:RU h id o l)(hb:l.length<=1000000000){e:B3}(he:WK e)(i:Int):∃u e',e'.c=e.c/\BE cx 177 [Pt id o,.agg e.row,I i] h (.tuple []) (put h id o u)/\C0 (l.take (Cl i l.length)++e'::l.drop (Cl i l.length)) u:=by
 obtain⟨v,hc,hv⟩:=(show RU h id o l from hs);obtain⟨e',O1,r1⟩:=zY (h:=h) he;obtain⟨u,hr,hu⟩:=zZ (h:=h) hv e' (k:=Cl i l.length) (by unfold Cl;omega) hb;refine⟨u,e',O1,?_,hu⟩;have e1:(if(l.length:Int)<(if i<0 then 0 else i) then(l.length:Int) else(if i<0 then 0 else i))=((Cl i l.length:Nat):Int):=by unfold Cl;split<;>split<;>omega
 rw[Ab,nG,aA7];simp only[Az,B3.Co,B3.g0,B3.g1,B3.g2,B3.Ny,kD,JN,hc.load,Bn,Yz,AL.Cq hv,xE,e1,r1.call,Bv,hr.call,hc.store (C0.cells hu)]
theorem f65(hs:RU h id o l)(hb:l.length<=1000000000):∃u,BE cx 69 [Pt id o] h (I ((l.length:Int)-((Eg l:Nat):Int))) (put h id o u)/\C0 (l.take (Eg l)) u:=by
 obtain⟨v,hc,hv⟩:=(show RU h id o l from hs);obtain⟨s,es,IP,_⟩:=II l;have hcl:Eg l<=l.length:=by unfold Eg;omega
 obtain⟨u,e1,hu⟩:=AL.Lb hv (k:= .i64) hcl;refine⟨u,?_,hu⟩;have e2:(if since l-1<0 then 0 else since l-1)=((Eg l:Nat):Int):=by unfold Eg;split<;>omega
 have eS:(l.take (Eg l)).length=Eg l:=by rw[Al];omega
 have c2:At (put h id o u) id o u:=hc.put;rw[Ab,aAs,t69];simp only[Az,I3,hc.load,Bn,AL.Cq hv,(f99 hc hv hb).call,Bv,CJ (show -9223372036854775808<=since l-1 by omega) (show since l-1<9223372036854775808 by omega),Yz,e2,e1,hc.store (AL.cells hu),c2.load,AL.Cq hu,eS,CJ (show -9223372036854775808<=(l.length:Int)-((Eg l:Nat):Int) by omega) (show(l.length:Int)-((Eg l:Nat):Int)<9223372036854775808 by omega)]
end
end
section
section
variable{e:Cd}{l:List B3}{n s:Nat}
end
section
variable{h:Ae}{v:Aa}{l:List B3}{id o:Nat}
set_option maxHeartbeats 1000000 in
theorem f30(hs:RU h id o l)(hb:l.length<=900000000)(hl:∀x∈l,WK x){e:B3}(he:WK e):∃u e',e'.c=e.c/\BE cx 84 [Pt id o,.agg e.row] h (.tuple []) (put h id o u)/\C0 (Ku e.c l++[e']) u:=by
 obtain⟨v,hc,hv⟩:=(show RU h id o l from hs);have Du:AL 3 (l.map B3.row) v:=hv;have Hj:=hs.lt;obtain⟨s,es,IP,hs2,_⟩:=II l;have Ik:Ev cx 84 [Pt id o,.agg e.row] h λr h'=>r= .tuple []/\∃(e':B3) (u:Aa),e'.c=e.c/\h'=put h id o u/\C0 (Ku e.c l++[e']) u:=by
  unfold Ev;rw[yY,t84];by_cases h0:e.c.node=0;·obtain⟨e',O1,r1⟩:=zY (h:=h) he;obtain⟨u,r2,hu⟩:=zZ (h:=h) hv e' (Ac l.length) (by omega);rw[Bu,Fs] at hu;simp only[Az,B3.Co,B3.g0,B3.g1,B3.g2,I3,h0,ne_eq,Ap,Ag,Ak,An,hc.load,Bn,Du.Cq];rw[<-h0,B3.Ny];simp only[Az,r1.call,Bv,hc.load,Bn,r2.call,hc.store (C0.cells hu)];refine⟨_,rfl,rfl,e',u,O1,rfl,?_⟩;rw[Ku,if_neg (λh=>h.1 h0)];exact hu
  .simp only[Az,B3.Co,B3.g0,B3.g1,B3.g2,B3.Ny,I3,h0,ne_eq,Ap,Ag,Ak,An,hc.load,Bn,Du.Cq,CJ (show -9223372036854775808<=(l.length:Int)-1 by omega) (show(l.length:Int)-1<9223372036854775808 by omega)];refine A9 (λp:Int×Nat×Nat=>[I p.1,I (p.2.1:Int),I ((p.2.2:Int)-1)])
    (λp h1=>s<=p.2.2/\p.2.2<=l.length/\p.2.1+p.2.2<=l.length/\QZ e.c l=p.2.1+QZ e.c (l.take p.2.2)/\(Mm e.c l=if 0<=Mm e.c (l.take p.2.2) then Mm e.c (l.take p.2.2) else if p.2.1=0 then -1 else p.1)/\(p.2.1=0\/∃k:Nat,k<l.length/\p.1=(k:Int))/\h1=h)
    (λp=>p.2.2) (0,0,l.length) rfl ⟨IP,Ac _,by simp,by simp,by
     rw[Bu];have:∀l:List B3,-1<=gX e.c l:=by
      intro l;induction l with
      |nil=>exact Fq _
      |cons x t ih=>rw[gX];split<;>(try split)<;>(try split)<;>omega
     have:=this l.reverse;simp only[BN];unfold Mm;split<;>omega,.inl rfl,rfl⟩ ?_
   rintro⟨fi,cn,n⟩ h1 ⟨a1,a2,a3,a4,a5,a6,rfl⟩;simp only at a1 a2 a3 a4 a5 a6;have r0:=f99 hc hv (by omega);rw[es] at r0;rcases AT s n with hlt|D2
   .obtain⟨n,rfl⟩:∃m,n=m+1:=⟨n-1,by omega⟩;have i2:((n+1:Nat):Int)-1=(n:Int):=by omega
    have hn:n<l.length:=a2;have hnz:=hs2 n hn (by omega);rw[RV hn,if_neg hnz] at a4;rw[RY hn,if_neg hnz] at a5;have r1:=aLd (h:=h1) (hl _ (AJ hn)) he;simp only[Az,i2,r0.call,show(s:Int)<=(n:Int) by omega,Ap,Ag,Ak,hc.load,Bn,Du.Bz hn,B3.Co,B3.GA,Ac,r1.call,BG (show cn<9223372036854775807 by omega),CJ (show -9223372036854775808<=(n:Int)-1 by omega) (show(n:Int)-1<9223372036854775808 by omega)];rw[Ct];refine⟨λh2=>?_,λh2=>?_⟩
    .rw[if_pos h2] at a4 a5;refine AF.next ((n:Int),cn+1,n) rfl ⟨by simp only;omega,by simp only;omega,by simp only;omega,by simp only;omega,?_,.inr ⟨n,hn,rfl⟩,rfl⟩ (by simp only;omega);simp only
     rw[a5];by_cases hf:0<=Mm e.c (l.take n);·simp[hf]
     .simp[hf,show(0:Int)<=(n:Int) by omega]
    .rw[if_neg (by simp[h2])] at a4;rw[if_neg (show¬FN l[n].c e.c=true by simp[h2])] at a5;refine AF.next (fi,cn,n) rfl ⟨by simp only;omega,by simp only;omega,by simp only;omega,by simp only;omega,?_,a6,rfl⟩ (by simp only;omega);simp only
     rw[a5];by_cases hf:0<=Mm e.c (l.take n);·simp[hf]
     .simp[hf]
   .obtain rfl:n=s:=by omega
    obtain⟨b1,b2⟩:=Vj (e:=e.c) es;rw[b1,Bn] at a4;rw[b2,if_neg (by decide)] at a5;simp only[Az,r0.call,show¬(n:Int)<=(n:Int)-1 by omega,Ag,Ak,An];by_cases h3:3<=cn
    .rcases a6 with a6|⟨k,hk,rfl⟩
     .omega
     rw[if_neg (by omega)] at a5;obtain⟨u1,r1,Nu⟩:=aLf (h:=h1) hv hk (by omega);have Wi:(A6 l k).length<=l.length:=by unfold A6;rw[Aq,Al,A7];omega
     have c1:At (put h1 id o u1) id o u1:=hc.put;obtain⟨e',O1,r2⟩:=zY (h:=put h1 id o u1) he;obtain⟨u2,r3,Il⟩:=zZ (h:=put h1 id o u1) Nu e' (Ac (A6 l k).length) (by omega);rw[Bu,Fs] at Il;simp only[Az,show(3:Int)<=(cn:Int) by omega,Ap,Ag,Ak,hc.load,Bn,r1.call,hc.store (C0.cells Nu),c1.load,AL.Cq Nu,r2.call,Bv,r3.call,c1.store (C0.cells Il),YD];refine⟨_,rfl,rfl,e',u2,O1,rfl,?_⟩;rw[Ku,if_pos ⟨h0,by omega⟩,a5,AQ];exact Il
    .obtain⟨e',O1,r1⟩:=zY (h:=h1) he;obtain⟨u,r2,hu⟩:=zZ (h:=h1) hv e' (Ac l.length) (by omega);rw[Bu,Fs] at hu;simp only[Az,show¬(3:Int)<=(cn:Int) by omega,Ag,Ak,An,hc.load,Bn,Du.Cq,r1.call,Bv,r2.call,hc.store (C0.cells hu)];refine⟨_,rfl,rfl,e',u,O1,rfl,?_⟩;rw[Ku,if_neg (by omega)];exact hu
 obtain⟨r,h',hr,rfl,e',u,O1,rfl,hu⟩:=Ik.ret;exact⟨u,e',O1,hr,hu⟩
end
end
section
section
variable{h:Ae}{v:Aa}{l:List B3}{id o:Nat}
theorem aLh(hs:RU h id o l)(hb:l.length<=900000000)(node:Int){e:B3}(he:WK e):∃u t e',e'.c=e.c/\BE cx 248 [Pt id o,I node,.agg e.row] h (.bool (decide (0<=GC node l))) (put h id o u++t)/\C0 (if GC node l<0 then l else l.set (GC node l).toNat e') u:=by
 obtain⟨v,hc,hv⟩:=(show RU h id o l from hs);rcases bV node l with h1|⟨k,hk,h1⟩
 .refine⟨v,[],e,rfl,?_,by rw[h1];exact hv⟩;have e2:=hc.oY (AL.KU hv);rw[Ab,Y8,nv,hc.same,BB];simp only[Az,B3.Co,(f41 hc hv (by omega) node).call,h1,show(-1:Int)<0 by decide,Ap,Ak,Ag,e2];rfl
 .have hne:l≠[]:=by intro e;subst e;simp at hk
  have hcl:=aBY (h:=h) hv hne (by omega);have s1:=(hc.HB (t:=[De.cells (l.map B3.row).flatten])).store (u:= .Cm h.length 0 l.length 3) rfl;rw[YE hc] at s1;obtain⟨e',O1,r1⟩:=zY (h:=put h id o (.Cm h.length 0 l.length 3)++[De.cells (l.map B3.row).flatten]) he;obtain⟨c3,c2,c4⟩:=hc.next (w:= .Cm h.length 0 l.length 3) (X:= .cells (l.map B3.row).flatten) (Y:= .cells ((l.map B3.row).set k e'.row).flatten);have s2:=SU (z:=3) (M2 l) c3 (i:=k) (by simpa using hk) (q:=e'.row) rfl;rw[c4] at s2;have e4:Aw (.Fm 3) [.Cm h.length 0 l.length 3,I (k:Int)]=some (Pt h.length (k*3)):=EZ hk;have e2:=hc.oZ (bI (M2 l) (i:=k) (q:=e'.row) rfl);rw[Bj,Ai] at e2;refine⟨.sl 3 ((l.map B3.row).set k e'.row),[.CG],e',O1,?_,?_⟩;·rw[Ab,Y8,nv];simp only[Az,B3.Co,B3.g0,B3.g1,B3.g2,B3.Ny,(f41 hc hv (by omega) node).call,h1,show¬(k:Int)<0 by omega,An,Ak,Ag,hc.load,Bn,hcl.call,s1,c2.load,r1.call,Bv,e4,s2,e2,show(0:Int)<=(k:Int) by omega,Ds]
  .rw[h1,if_neg (by omega),AQ,<-Fk];exact .mk
theorem aGn(hv:C0 l v)(hb:l.length<=900000000){k:Nat}(hk:k<l.length):∃u,BE cx 271 [v,I (k:Int)] h u h/\C0 (A6 l k) u:=by
 have Du:AL 3 (l.map B3.row) v:=hv;have Ik:Ev cx 271 [v,I (k:Int)] h λr h'=>h'=h/\C0 (A6 l k) r:=by
  unfold Ev;rw[og,aFE];refine A9 (λp:Nat×Aa=>[p.2,I (p.1:Int)]) (λp h1=>p.1<=l.length/\C0 (if p.1<=k then l.take p.1 else A6 (l.take p.1) k) p.2/\h1=h) (λp=>l.length-p.1) (0,.slnil) rfl ⟨AO _,by rw[if_pos (AO _)];exact .nil,rfl⟩ ?_;rintro⟨n,u⟩ h1 ⟨hn,hu,rfl⟩;simp only at hn hu;have inc:=BG (show n<9223372036854775807 by omega);rcases AT n l.length with hlt|D2
  .have i1:(n:Int)<(l.length:Int):=by omega
   have elem:=Du.Bz (k:= .i64) hlt;have hlen:(if n<=k then l.take n else A6 (l.take n) k).length<=l.length:=by
    split;·rw[Al];omega
    .unfold A6;rw[Aq,Al,A7,Al];omega
   have e3:=AL.Ja (a:=l[n]) hu (b:=48) (Oe (by omega));simp only[Az,Du.Cq,i1,Ap,Ak,Ag,elem,B3.Co,B3.GA,Ac,KQ B3.Co,e3,inc];refine⟨λh0=>?_,λh0=>?_⟩
   .refine AF.next (n+1,_) rfl ⟨hlt,?_,rfl⟩ (by simp only;omega);have h0:n≠k:=by omega
    have:(if n+1<=k then l.take (n+1) else A6 (l.take (n+1)) k)=(if n<=k then l.take n else A6 (l.take n) k)++[l[n]]:=by
     rw[Av hlt];by_cases vr:n<k;·rw[if_pos (by omega),if_pos (by omega)]
     .rw[if_neg (by omega),if_neg (by omega)];unfold A6;rw[CU (by rw[Al];omega),TJ (by rw[Al];omega),AB]
    simp only
    rw[this];exact .mk
   .refine AF.next (n+1,u) rfl ⟨hlt,?_,rfl⟩ (by simp only;omega);obtain rfl:n=k:=by omega
    have:(if n+1<=n then l.take (n+1) else A6 (l.take (n+1)) n)=l.take n:=by rw[if_neg (by omega)];unfold A6;rw[GV,Cn (by omega),A3 (by rw[Al];omega),BB]
    simp only
    rw[this];rw[if_pos (Ac _)] at hu;exact hu
  .have i1:¬(n:Int)<(l.length:Int):=by omega
   rw[if_neg (by omega),Ay D2] at hu;simp only[Az,Du.Cq,i1,An,Ak,Ag];exact⟨_,rfl,hu⟩
 obtain⟨r,h',hr,rfl,hu⟩:=Ik.ret;exact⟨r,hr,hu⟩
theorem f82(hv:C0 l v)(hb:l.length<=900000000){e:B3}(he:WK e)(i:Int):∃u e',e'.c=e.c/\BE cx 136 [v,.agg e.row,I i] h u h/\C0 (l.take (Cl i l.length)++e'::l.drop (Cl i l.length)) u:=by
 obtain⟨e',O1,r1⟩:=aLe (h:=h) he;have key:∀k:Nat,k<=l.length->∃u1 u2 u4 u5,Aw (.Hs 3 false false true) [v,I (k:Int)]=some u1/\Aw (.append 3 48) [.slnil,u1]=some u2/\Aw (.append 3 48) [u2,.sl 3 [e'.row]]=some (.sl 3 ((l.take k++[e']).map B3.row))/\Aw (.Hs 3 false true false) [v,I (k:Int)]=some u4/\Aw (.append 3 48) [.sl 3 ((l.take k++[e']).map B3.row),u4]=some u5/\C0 (l.take k++e'::l.drop k) u5:=by intro k hk;obtain⟨u1,e1,h1⟩:=AL.Lb hv (k:= .i64) hk;obtain⟨u2,e2,h2⟩:=AL.Gm h1 (b:=48) (Oe (by rw[Al];omega));have e3:=AL.Ja (a:=e') h2 (b:=48) (Oe (by rw[Al];omega));obtain⟨u4,e4,h4⟩:=AL.QU hv (k:= .i64) hk;obtain⟨u5,e5,h5⟩:=AL.YC (f:=B3.row) (l:=l.take k++[e']) .mk h4 (b:=48) (Oe (by rw[Aq,Al,A7,Bs];omega));exact⟨u1,u2,u4,u5,e1,e2,e3,e4,e5,by rw[AB] at h5;exact h5⟩
 obtain⟨u1,u2,u4,u5,e1,e2,e3,e4,e5,hu⟩:=key (Cl i l.length) (by unfold Cl;omega);refine⟨u5,e',O1,?_,hu⟩;have Du:AL 3 (l.map B3.row) v:=hv;rw[Ab,kf,aES];by_cases h1:i<0
 .have:Cl i l.length=0:=by unfold Cl;omega
  rw[this] at e1 e4;have e1:Aw (.Hs 3 false false true) [v,I 0]=some u1:=e1;have e4:Aw (.Hs 3 false true false) [v,I 0]=some u4:=e4;simp only[Az,B3.Co,B3.g0,B3.g1,B3.g2,B3.Ny,h1,Ap,An,Ak,Ag,Du.Cq,show¬(l.length:Int)<0 by omega,e1,e2,r1.call,KQ B3.Co,e3,e4,e5]
 .by_cases h2:(l.length:Int)<i
  .have:Cl i l.length=l.length:=by unfold Cl;omega
   rw[this] at e1 e4;simp only[Az,B3.Co,B3.g0,B3.g1,B3.g2,B3.Ny,h1,h2,Ap,An,Ak,Ag,Du.Cq,e1,e2,r1.call,KQ B3.Co,e3,e4,e5]
  .have:((Cl i l.length:Nat):Int)=i:=by unfold Cl;omega
   rw[this] at e1 e4;simp only[Az,B3.Co,B3.g0,B3.g1,B3.g2,B3.Ny,h1,h2,An,Ak,Ag,Du.Cq,e1,e2,r1.call,KQ B3.Co,e3,e4,e5]
theorem f84(hv:C0 l v)(hb:l.length<=900000000):∃u,BE cx 138 [v] h u h/\C0 (l.take (Eg l)) u:=by
 obtain⟨s,es,IP,_⟩:=II l;have hcl:Eg l<=l.length:=by unfold Eg;omega
 obtain⟨u,e1,hu⟩:=AL.Lb hv (k:= .i64) hcl;obtain⟨u2,e2,Il⟩:=AL.Gm hu (b:=48) (Oe (by rw[Al];omega));refine⟨u2,?_,Il⟩;rw[Ab,kg,aET];by_cases h1:since l-1<0
 .have:Eg l=0:=by unfold Eg;omega
  rw[this] at e1;have e1:Aw (.Hs 3 false false true) [v,I 0]=some u:=e1;simp only[Az,(qc hv (by omega)).call,CJ (show -9223372036854775808<=since l-1 by omega) (show since l-1<9223372036854775808 by omega),h1,Ap,Ak,Ag,e1,e2]
 .have:((Eg l:Nat):Int)=since l-1:=by unfold Eg;omega
  rw[this] at e1;simp only[Az,(qc hv (by omega)).call,CJ (show -9223372036854775808<=since l-1 by omega) (show since l-1<9223372036854775808 by omega),h1,An,Ak,Ag,e1,e2]
set_option maxHeartbeats 1000000 in
theorem aLi(hv:C0 l v)(hb:l.length<=900000000)(hl:∀x∈l,WK x){e:B3}(he:WK e):∃u e',e'.c=e.c/\BE cx 206 [v,.agg e.row] h u h/\C0 (Ku e.c l++[e']) u:=by
 have Du:AL 3 (l.map B3.row) v:=hv;obtain⟨s,es,IP,hs2,_⟩:=II l;have Ik:Ev cx 206 [v,.agg e.row] h λr h'=>h'=h/\∃e':B3,e'.c=e.c/\C0 (Ku e.c l++[e']) r:=by
  unfold Ev;rw[me,aE9];have r0:=qc (h:=h) hv (by omega);rw[es] at r0;obtain⟨b1,b2⟩:=Vj (e:=e.c) es;simp only[Az,B3.Co,B3.g0,B3.g1,B3.g2,B3.Ny,r0.call];refine A9 (λn:Nat=>[I (Mm e.c (l.take n)),I (QZ e.c (l.take n):Int),I (n:Int)])
   (λn h1=>s<=n/\n<=l.length/\QZ e.c (l.take n)<=n/\((QZ e.c (l.take n)=0/\Mm e.c (l.take n)= -1)\/∃k:Nat,k<n/\Mm e.c (l.take n)=(k:Int))/\h1=h) (λn=>l.length-n) s (by rw[b1,b2];rfl) ⟨Ac _,IP,by omega,.inl ⟨b1,b2⟩,rfl⟩ ?_
  rintro n h1 ⟨a1,a2,a3,a4,rfl⟩;rcases AT n l.length with hlt|D2
  .have i1:(n:Int)<(l.length:Int):=by omega
   have hnz:=hs2 n hlt a1;have e1:=RV (e:=e.c) hlt;have e2:=RY (e:=e.c) hlt;rw[if_neg hnz] at e1 e2;have r1:=f241 (h:=h1) (hl _ (AJ hlt)) he;simp only[Az,Du.Cq,i1,Ap,Ag,Ak,Du.Bz hlt,B3.Co,B3.GA,Ac,r1.call,BG (show QZ e.c (l.take n)<9223372036854775807 by omega),BG (show n<9223372036854775807 by omega)];rw[Ct];refine⟨λh2=>⟨λh3=>?_,λh3=>?_⟩,λh2=>?_⟩;·rw[if_pos h2] at e1 e2;rw[if_neg (by omega)] at e2;refine AF.next (n+1) (by rw[e1,e2]) ⟨by omega,hlt,by omega,.inr ⟨n,by omega,e2⟩,rfl⟩ (by omega)
   .rw[if_pos h2] at e1 e2;rw[if_pos (by omega)] at e2;refine AF.next (n+1) (by rw[e1,e2]) ⟨by omega,hlt,by omega,.inr ?_,rfl⟩ (by omega);rw[e2];rcases a4 with⟨_,a4⟩|⟨k,hk,a4⟩
    .omega
    .exact⟨k,by omega,a4⟩
   .rw[if_neg (by simp[h2])] at e1;rw[if_neg (show¬FN l[n].c e.c=true by simp[h2])] at e2;have e2':Mm e.c (l.take (n+1))=Mm e.c (l.take n):=by rw[e2];rcases a4 with⟨_,a4⟩|⟨k,hk,a4⟩<;>rw[a4]<;>simp
    refine AF.next (n+1) (by rw[e1,e2'];rfl) ⟨by omega,hlt,by omega,?_,rfl⟩ (by omega);rw[e1,e2'];rcases a4 with a4|⟨k,hk,a4⟩
    .exact .inl a4
    .exact .inr ⟨k,by omega,a4⟩
  .have i1:¬(n:Int)<(l.length:Int):=by omega
   rw[Ay D2] at a3 a4⊢;simp only[Az,Du.Cq,i1,Ag,Ak,An];refine⟨λh2=>⟨λh3=>?_,λh3=>?_⟩,λh2=>?_⟩
   .rcases a4 with⟨a4,_⟩|⟨k,hk,a4⟩
    .omega
    have Oz:k<l.length:=by omega
    obtain⟨u1,r1,Nu⟩:=aGn (h:=h1) hv hb Oz;have hlen:(A6 l k).length<=l.length:=by unfold A6;rw[Aq,Al,A7];omega
    obtain⟨u2,e',O1,r2,Il⟩:=f82 (h:=h1) Nu (by omega) he ((A6 l k).length:Int);have hcl:Cl ((A6 l k).length:Int) (A6 l k).length=(A6 l k).length:=by unfold Cl;omega
    rw[hcl,Bu,Fs] at Il;simp only[Az,a4,r1.call,AL.Cq Nu,r2.call];refine⟨_,rfl,e',O1,?_⟩;rw[Ku,if_pos ⟨h2,by omega⟩,a4,AQ];exact Il
   .obtain⟨u2,e',O1,r2,Il⟩:=f82 (h:=h1) hv hb he (l.length:Int);have hcl:Cl (l.length:Int) l.length=l.length:=by unfold Cl;omega
    rw[hcl,Bu,Fs] at Il;simp only[Az,r2.call];refine⟨_,rfl,e',O1,?_⟩;rw[Ku,if_neg (by omega)];exact Il
   .obtain⟨u2,e',O1,r2,Il⟩:=f82 (h:=h1) hv hb he (l.length:Int);have hcl:Cl (l.length:Int) l.length=l.length:=by unfold Cl;omega
    rw[hcl,Bu,Fs] at Il;simp only[Az,r2.call];refine⟨_,rfl,e',O1,?_⟩;rw[Ku,if_neg (λh=>h2 h.1)];exact Il
 obtain⟨r,h',hr,rfl,e',O1,hu⟩:=Ik.ret;exact⟨r,e',O1,hr,hu⟩
end
end
def Tw:List AW->Aa
 |[]=> .slnil
 |x::l=> .sl 3 ((x::l).map AW.row)
theorem T7{l:List AW}:Bx l (Tw l):=by cases l;exact .inr ⟨rfl,rfl⟩;exact .inl rfl
theorem sG{l:List AW}{x:AW}:Tw (l++[x])= .sl 3 ((l++[x]).map AW.row):=by cases l<;>rfl
structure PN where
 x:Eh
 kv:Aa
 av:Aa
 ok:av=Tw x.Ax
def PN.row(p:PN):List Aa:=[I p.x.kind,I p.x.E8,p.kv,I p.x.Cy,I p.x.AX,.str p.x.name,p.av,.str p.x.data,.str p.x.pub,.str p.x.sys,.bool p.x.Cb,I p.x.cont,I p.x.DT]
theorem PN.Co{p:PN}:p.row.length=13:=rfl
def PN.zero:PN:=⟨{},.slnil,.slnil,rfl⟩
def pN(ps:List PN)(x:Int):PN:=ps.getD (x.toNat-1) PN.zero
def Cc(n:Int):List Aa:=[I n]
def Dh(l:List Int)(v:Aa):Prop:=AL 1 (l.map Cc) v
def Je(h:Ae)(kv:Aa)(l:List Int):Prop:=(kv= .slnil/\l=[])\/∃id cs,kv= .Cm id 0 l.length 1/\h[id]?=some (.cells (l.map (Aa.int .i64)++cs))
def GK:Aa->Option Nat
 | .Cm id _ _ _=>some id
 |_=>none
def VH(h:Ae)(m:Option Nat)(f:Int->Int):Prop:=(m=none/\∀k,f k=0)\/∃(id:Nat) (l:List (Int×Int)),m=some id/\h[id]?=some (.map (l.map λx:Int×Int=>(I x.1,I x.2)))/\∀k,(l.find? λx=>decide (k=x.1)).map (·.2)=if f k=0 then none else some (f k)
def Fi(a n:Nat)(m:Option Nat)(ps:List PN):List Nat:=a::n::(m.toList++ps.filterMap λp=>GK p.kv)
structure PA(h:Ae)(a n:Nat)(m:Option Nat)(ps:List PN)(A:Ar):Prop where
 e:A.n=ps.map PN.x
 il:A.i.length=A.n.length
 ha:h[a]?=some (.cells [.Cm n 0 ps.length 13,.map m])
 hn:h[n]?=some (.cells (ps.map PN.row).flatten)
 ks:∀p∈ps,Je h p.kv p.x.AZ
 nd:(Fi a n m ps).Nodup
 mp:VH h m A.inr
structure Df(h:Ae)(F:Nat->Prop)(h':Ae)(F':Nat->Prop):Prop where
 len:h.length<=h'.length
 old:∀i,i<h.length->¬F i->h'[i]?=h[i]?
 own:∀i,F' i->F i\/h.length<=i
section
variable{h h' h'' t:Ae}{F F' F'':Nat->Prop}
theorem Df.refl:Df h F h F:=⟨Ac _,λ_ _ _=>rfl,λ_ h=> .inl h⟩
theorem Df.trans(x:Df h F h' F')(y:Df h' F' h'' F''):Df h F h'' F'':=
 ⟨Bt x.len y.len,λi hi hF=>by
  rw[y.old i (Zz hi x.len) (λh=>by rcases x.own i h with h|h;exact hF h;omega)];exact x.old i hi hF,λi hi=>by
  rcases y.own i hi with h|h
  .exact x.own i h
  .exact .inr (Bt x.len h)⟩
theorem Df.HB:Df h F (h++t) F:=⟨by simp,λi hi _=>Ad hi,λ_ h=> .inl h⟩
end
def PW(h:Ae)(F:Nat->Prop)(a:Nat)(A:Ar):Prop:=∃n m ps,PA h a n m ps A/\∀i,F i↔i∈Fi a n m ps
section
variable{h h':Ae}{a n:Nat}{m:Option Nat}{ps:List PN}{A:Ar}{x:Int}{F:Nat->Prop}
theorem Je.CP{kv:Aa}{l:List Int}(hk:Je h kv l)(hf:∀id,GK kv=some id->h'[id]?=h[id]?):Je h' kv l:=by
 rcases hk with⟨rfl,rfl⟩|⟨id,cs,rfl,hc⟩
 .exact .inl ⟨rfl,rfl⟩
 .exact .inr ⟨id,cs,rfl,by rw[hf id rfl];exact hc⟩
theorem VH.CP{f:Int->Int}(hk:VH h m f)(hf:∀id,m=some id->h'[id]?=h[id]?):VH h' m f:=by
 rcases hk with h1|⟨id,l,rfl,hc,h2⟩
 .exact .inl h1
 .exact .inr ⟨id,l,rfl,by rw[hf id rfl];exact hc,h2⟩
theorem Kd{p:PN}{id:Nat}(hp:p∈ps)(hk:GK p.kv=some id):id∈Fi a n m ps:=by unfold Fi;simp only[AM,Ao];exact .inr (.inr (.inr (Ci.2 ⟨p,hp,hk⟩)))
theorem PA.CP(w:PA h a n m ps A)(hf:∀i∈Fi a n m ps,h'[i]?=h[i]?):PA h' a n m ps A:=
 ⟨w.e,w.il,by rw[hf a (by simp[Fi])];exact w.ha,by rw[hf n (by simp[Fi])];exact w.hn,λp hp=>(w.ks p hp).CP λid hk=>hf id (Kd hp hk),w.nd,w.mp.CP λid hm=>hf id (by simp[Fi,hm])⟩
theorem PA.lt(w:PA h a n m ps A):∀i∈Fi a n m ps,i<h.length:=by
 intro i hi;unfold Fi at hi;simp only[AM,Ao,Ci] at hi;rcases hi with rfl|rfl|hi|⟨p,hp,hk⟩
 .exact(Ah.1 w.ha).1
 .exact(Ah.1 w.hn).1
 .rcases w.mp with⟨rfl,_⟩|⟨id,l,rfl,hc,_⟩
  .simp at hi
  .simp at hi;subst hi;exact(Ah.1 hc).1
 .rcases w.ks p hp with⟨e,_⟩|⟨id,cs,e,hc⟩
  .rw[e] at hk;cases hk
  .rw[e] at hk;cases hk;exact(Ah.1 hc).1
theorem PW.CP(w:PW h F a A)(hf:∀i,F i->h'[i]?=h[i]?):PW h' F a A:=by obtain⟨n,m,ps,w,e⟩:=w;exact⟨n,m,ps,w.CP λi hi=>hf i ((e i).2 hi),e⟩
theorem PW.lt(w:PW h F a A){i:Nat}(hi:F i):i<h.length:=by obtain⟨n,m,ps,w,e⟩:=w;exact w.lt i ((e i).1 hi)
theorem PA.aa(w:PA h a n m ps A):A.n.length=ps.length:=by rw[w.e,Ai]
theorem PA.at(w:PA h a n m ps A)(hx:A.has x):x.toNat-1<ps.length/\((x.toNat-1:Nat):Int)=x-1:=by have:=w.aa;unfold Ar.has at hx;omega
theorem PA.pn(w:PA h a n m ps A)(hx:A.has x):ps[x.toNat-1]?=some (pN ps x)/\(pN ps x).x=A.nd x/\pN ps x∈ps:=by
 have h1:=(w.at hx).1;have h2:ps[x.toNat-1]?=some ps[x.toNat-1]:=Af h1;have h3:pN ps x=ps[x.toNat-1]:=by unfold pN;rw[AE,h2];rfl
 refine⟨by rw[h3];exact h2,?_,by rw[h3];exact AJ _⟩;unfold Ar.nd;rw[if_pos hx,w.e,h3,AE,Cp,h2];rfl
theorem Ke{Au:List (List Aa)}{z i k:Nat}(hr:∀r∈Au,r.length=z)(hk:k<z){r:List Aa}(hi:Au[i]?=some r):Au.flatten[i*z+k]?=r[k]?:=by
 have h1:(Au.flatten.drop (i*z))[k]?=r[k]?:=by rw[HW hr];obtain⟨hlt,e⟩:=Ah.1 hi;rw[AG hlt,e,Db,Ad (by rw[hr r (e▸AJ hlt)];exact hk)]
 rwa [Cz] at h1
theorem cS(l:List PN):∀r∈l.map PN.row,r.length=13:=K9 (f:=PN.row) (λ_=>PN.Co) l
def nP(n:Nat)(x:Int):Nat:=(x.toNat-1)*13
theorem PA.BV(w:PA h a n m ps A)(hx:A.has x){k:Nat}(hk:k<13):Bb h none (Pt n (nP n x+k))=(pN ps x).row[k]?:=by unfold nP;simp only[Bb,w.hn,Et];exact Ke (cS ps) hk (by rw[Cp,(w.pn hx).1];rfl)
theorem Tx(w:PA h a n m ps A):BE cx 94 [Pt a 0,I x] h (.bool (decide (A.has x))) h:=by
 have e1:Bb h none (Pt a 0)=some (.Cm n 0 ps.length 13):=by simp only[Bb,w.ha];rfl
 have e2:Aw (.len false) [.Cm n 0 ps.length 13]=some (I (ps.length:Int)):=rfl;rw[Ab,zG,t94];simp only[Az,Bi,e1,e2];have hl:=w.aa;have e3:A.has x↔1<=x/\x<=(ps.length:Int):=by unfold Ar.has;rw[hl]
 refine⟨λh1=>?_,λh1=>?_⟩;·congr 2;rw[D1,e3];exact⟨λh=>⟨h1,h⟩,λh=>h.2⟩
 .rw[AA (λh=>h1 (e3.1 h).1)]
theorem PA.nodes(w:PA h a n m ps A):Bb h none (Pt a 0)=some (.Cm n 0 ps.length 13):=by simp only[Bb,w.ha];rfl
theorem PA.len(w:PA h a n m ps A):((ps.length:Nat):Int)=A.len:=by unfold Ar.len;rw[w.aa]
theorem vt(w:PA h a n m ps A){l:List Int}{v:Aa}(hv:Dh l v)(hb:l.length<=1000):BE cx 107 [Pt a 0,v] h (I (if∀x∈l,A.has x then 0 else 3)) h:=by
 have hv:AL 1 (l.map Cc) v:=hv;rw[Ab,YT,js];simp only[Az,Bi,hv.Cq];refine A9 (λk:Nat=>[I 0,I (k:Int)]) (λk h1=>k<=l.length/\(∀x∈l.take k,A.has x)/\h1=h) (λk=>l.length-k) 0 rfl ⟨AO _,by simp,rfl⟩ ?_;rintro k h1 ⟨hk,ha,rfl⟩;rcases AT k l.length with hlt|D2
 .have i1:(k:Int)<(l.length:Int):=by omega
  have e1:Bb h1 none (.CA (Cc l[k]))=some (I l[k]):=rfl;simp only[Az,Bi,i1,hv.Bz hlt,e1,(Tx (x:=l[k]) w).call,BG (show k<9223372036854775807 by omega)];rw[Ct];refine⟨λh2=>?_,λh2=>?_⟩
  .have h2:¬A.has l[k]:=by simpa using h2
   rw[if_neg (λh3=>h2 (h3 _ (AJ hlt)))]
  .have h2:A.has l[k]:=by simpa using h2
   refine AF.next (k+1) rfl ⟨hlt,?_,rfl⟩ (by omega);intro x hx;rw[Av hlt,Ao,Fl] at hx;rcases hx with hx|rfl
   .exact ha x hx
   .exact h2
 .have i1:¬(k:Int)<(l.length:Int):=by omega
  rw[Ay D2] at ha;simp only[Az,Bi,i1,if_pos ha]
theorem Sc(w:PA h a n m ps A):BE cx 107 [Pt a 0,.sl 1 [[I x]]] h (I (if A.has x then 0 else 3)) h:=by have:=vt w (l:=[x]) (v:= .sl 1 [[I x]]) .mk (by simp);simpa using this
theorem Ky{y:Int}(w:PA h a n m ps A):BE cx 107 [Pt a 0,.sl 1 [[I x],[I y]]] h (I (if A.has x/\A.has y then 0 else 3)) h:=by have:=vt w (l:=[x,y]) (v:= .sl 1 [[I x],[I y]]) .mk (by simp);simpa using this
theorem FW{x:Int}:Aw (.By 1) [I x]=some (.sl 1 [[I x]]):=rfl
theorem E5{x y:Int}:Aw (.By 1) [I x,I y]=some (.sl 1 [[I x],[I y]]):=rfl
theorem LF.of(lm:LF A)(hx:A.has x):1<=x/\x<=1000000000:=by have:=lm.n;unfold Ar.has at hx;omega
theorem H8(w:PA h a n m ps A)(lm:LF A)(hx:A.has x):BE cx 43 [Pt a 0,I x] h (Pt n (nP n x)) h:=by
 have hr:=lm.of hx;have e1:=(w.at hx).2;have e2:Aw (.Fm 13) [.Cm n 0 ps.length 13,I (x-1)]=some (Pt n (nP n x)):=by rw[<-e1];exact EZ (w.at hx).1
 rw[Ab,iS,t43];simp only[Az,Bi,w.nodes,CJ (show -9223372036854775808<=x-1 by omega) (show x-1<9223372036854775808 by omega),e2]
theorem PA.f0(w:PA h a n m ps A)(hx:A.has x):Bb h none (Pt n (nP n x))=some (I (A.nd x).kind):=by have:=w.BV hx (k:=0) (by decide);rw[<-(w.pn hx).2.1];exact this
theorem PA.f1(w:PA h a n m ps A)(hx:A.has x):Bb h none (Pt n (nP n x+1))=some (I (A.nd x).E8):=by have:=w.BV hx (k:=1) (by decide);rw[<-(w.pn hx).2.1];exact this
theorem PA.f2(w:PA h a n m ps A)(hx:A.has x):Bb h none (Pt n (nP n x+2))=some (pN ps x).kv:=by have:=w.BV hx (k:=2) (by decide);exact this
theorem PA.f4(w:PA h a n m ps A)(hx:A.has x):Bb h none (Pt n (nP n x+4))=some (I (A.nd x).AX):=by have:=w.BV hx (k:=4) (by decide);rw[<-(w.pn hx).2.1];exact this
theorem PA.f5(w:PA h a n m ps A)(hx:A.has x):Bb h none (Pt n (nP n x+5))=some (.str (A.nd x).name):=by have:=w.BV hx (k:=5) (by decide);rw[<-(w.pn hx).2.1];exact this
theorem PA.f6(w:PA h a n m ps A)(hx:A.has x):Bb h none (Pt n (nP n x+6))=some (pN ps x).av:=by have:=w.BV hx (k:=6) (by decide);exact this
theorem PA.LA(w:PA h a n m ps A)(hx:A.has x):Je h (pN ps x).kv (A.nd x).AZ:=by rw[<-(w.pn hx).2.1];exact w.ks _ (w.pn hx).2.2
theorem PA.ae(w:PA h a n m ps A)(hx:A.has x):(pN ps x).av=Tw (A.nd x).Ax:=by rw[<-(w.pn hx).2.1];exact(pN ps x).ok
theorem PA.row(w:PA h a n m ps A)(hx:A.has x):Bb h (some 13) (Pt n (nP n x))=some (.agg (pN ps x).row):=by
 have h1:((ps.map PN.row).flatten.drop (nP n x)).take 13=(pN ps x).row/\nP n x+13<=(ps.map PN.row).flatten.length:=by unfold nP;have hlt:=(w.at hx).1;have hg:=(w.pn hx).1;rw[HW (cS ps),Fe (cS ps),Ai];refine⟨?_,by omega⟩;rw[<-ND,AG hlt,Bl,Db];rw[Af hlt,BC] at hg;rw[hg];exact KJ PN.Co
 simp only[Bb,w.hn,J7];rw[if_pos h1.2,h1.1]
theorem LY:∀{l:List Int} {cs pre:List Aa},Ck (pre++(l.map (Aa.int .i64)++cs)) 1 pre.length l.length=l.map Cc
 |[],_,_=>rfl
 |x::l,cs,pre=>by have:=LY (l:=l) (cs:=cs) (pre:=pre++[I x]);simp only[AB,Aq,Bs] at this;simp only[Bl,Bc,Ck,CB];rw[NG rfl];simp only[CB,BH] at this;rw[this];rfl
theorem Je.Au{kv:Aa}{l:List Int}(hk:Je h kv l):Gi h 1 kv=some (l.map Cc):=by
 rcases hk with⟨rfl,rfl⟩|⟨id,cs,rfl,hc⟩
 .rfl
 .have:=LY (l:=l) (cs:=cs) (pre:=[]);simp only[BH,BT] at this;simp only[Gi,BN,hc,this];rw[if_pos (by simp)]
theorem Je.len{kv:Aa}{l:List Int}(hk:Je h kv l):Aw (.len false) [kv]=some (I (l.length:Int)):=by rcases hk with⟨rfl,rfl⟩|⟨id,cs,rfl,hc⟩<;>rfl
theorem vu{kv:Aa}{l:List Int}(hk:Je h kv l)(hb:l.length<=1000000000):∃v,BE cx 159 [kv] h v h/\Dh l v:=by
 have hr:=hk.Au;rcases hk with⟨rfl,rfl⟩|⟨id,cs,rfl,hc⟩
 .exact⟨.slnil,by rw[Ab,Y2,k_];simp only[Az,show Aw (.GL false .sl) [.slnil,.slnil]=some (.bool true) from rfl],.inr ⟨rfl,rfl⟩⟩
 .refine⟨.sl 1 (l.map Cc),?_,.mk⟩;have e1:O7 h 1 8 (.sl 1 []) (.Cm id 0 l.length 1)=some (.sl 1 (l.map Cc)):=by
   unfold O7;rw[hr,Cs];cases l with
   |nil=>rfl
   |cons x l=>
    have:(x::l).length*8<=AS:=by have:AS=140737488355328:=rfl;omega
    simp only[Bl,DN,Bc,Ai,BT] at this⊢;rw[if_pos ⟨trivial,by simpa using this⟩];rfl
  rw[Ab,Y2,k_];simp only[Az,show Aw (.GL false .sl) [.Cm id 0 l.length 1,.slnil]=some (.bool false) from rfl,show Aw (.By 1) []=some (.sl 1 []) from rfl,e1]
def H9(h:Ae)(v:Aa)(l:List AW):Prop:=(v= .slnil/\l=[])\/∃id,v= .Cm id 0 l.length 3/\h[id]?=some (.cells (l.map AW.row).flatten)/\id<h.length
theorem H9.HB{v:Aa}{l:List AW}{t:Ae}(hv:H9 h v l):H9 (h++t) v l:=by
 rcases hv with h1|⟨id,e,hc,hl⟩
 .exact .inl h1
 .exact .inr ⟨id,e,by rw[Ad hl];exact hc,by rw[Aq];omega⟩
theorem H9.cells{v:Aa}{l:List AW}(hv:H9 h v l):v.cells=[v]:=by rcases hv with⟨rfl,_⟩|⟨id,rfl,_,_⟩<;>rfl
structure LH(h:Ae)(v:Aa)(l:List AW):Prop where
 len:Aw (.len false) [v]=some (I (l.length:Int))
 at_:∀k (hk:k<l.length),∃p,Aw (.Fm 3) [v,I (k:Int)]=some p/\Bb h (some 3) p=some (.agg l[k].row)
theorem VI{v:Aa}{l:List AW}(hv:Bx l v):LH h v l:=⟨AL.Cq hv,λk hk=>⟨_,AL.Bz hv hk,rfl⟩⟩
theorem aBZ(l:List AW):∀r∈l.map AW.row,r.length=3:=K9 (f:=AW.row) (λ_=>rfl) l
theorem H9.in_{v:Aa}{l:List AW}(hv:H9 h v l):LH h v l:=by
 rcases hv with⟨rfl,rfl⟩|⟨id,rfl,hc,_⟩
 .exact⟨rfl,λk hk=>by simp at hk⟩
 .refine⟨rfl,λk hk=>⟨Pt id (k*3),EZ hk,?_⟩⟩;simp only[Bb,hc,J7];rw[if_pos (by rw[Fe (aBZ l),Ai];omega),HW (aBZ l),<-ND,AG hk,Bl,Db];rfl
def Up(N:Nat)(v:Aa):Prop:=∀id k,v= .Cm id 0 k 3->N<=id
theorem af{v:Aa}{l:List AW}(hv:v=Tw l)(hb:l.length<=1000000000):∃u t,BE cx 100054 [v] h u (h++t)/\H9 (h++t) u l/\Up h.length u:=by
 cases l with
 |nil=>refine⟨.slnil,[],?_,.inl ⟨rfl,rfl⟩,λ_ _ e=>nomatch e⟩;rw[BB,Ab,Qd,T6,hv];simp only[Az,Tw,show Aw (.GL false .sl) [.slnil,.slnil]=some (.bool true) from rfl]
 |cons x l=>have e:=J8 (h:=h) (s:= .sl 3 []) (z:=3) (b:=40) (.inr rfl) (AL.mk (z:=3) (Au:=(x::l).map AW.row)) (by simp) (by rw[Ai];have:AS=140737488355328:=rfl;omega);rw[Ai] at e;refine⟨.Cm h.length 0 (x::l).length 3,[.cells ((x::l).map AW.row).flatten],?_,.inr ⟨h.length,rfl,by simp,by simp⟩,λ_ _ e=>by injection e with e;omega⟩;rw[Ab,Qd,T6,hv];simp only[Az,Tw,show Aw (.GL false .sl) [.sl 3 ((x::l).map AW.row),.slnil]=some (.bool false) from rfl,show Aw (.By 3) []=some (.sl 3 []) from rfl,e]
def Tz(h:Ae)(N:Nat)(x:Eh)(r:List Aa):Prop:=∃K V,r=[I x.kind,I x.E8,K,I x.Cy,I x.AX,.str x.name,V,.str x.data,.str x.pub,.str x.sys,.bool x.Cb,I x.cont,I x.DT]/\Dh x.AZ K/\H9 h V x.Ax/\Up N V
theorem Tz.HB{x:Eh}{r:List Aa}{t:Ae}{N:Nat}(hr:Tz h N x r):Tz (h++t) N x r:=let⟨K,V,e,h1,h2,h3⟩:=hr;⟨K,V,e,h1,h2.HB,h3⟩
theorem vw(w:PA h a n m ps A)(lm:LF A)(hx:A.has x)(qd:(A.nd x).AZ.length<=1000000000):∃r t,BE cx 71 [Pt n (nP n x)] h (.agg r) (h++t)/\Tz (h++t) h.length (A.nd x) r:=by obtain⟨K,r1,hK⟩:=vu (w.LA hx) qd;obtain⟨V,t,r2,hV,hU⟩:=af (h:=h) (w.ae hx) (lm.at_ x);refine⟨_,t,?_,K,V,rfl,hK,hV,hU⟩;have hc:K.cells=[K]:=AL.cells hK;have e0:=w.row hx;have e1:(pN ps x).row=_:=rfl;have ex:=(w.pn hx).2.1;rw[Ab,yW,t71];rw[PN.row,ex] at e0;simp only[Az,Bi,e0,w.f2 hx,w.f6 hx,r1.call,Bv,r2.call,hc,hV.cells]
end
section
variable{h h':Ae}{a n:Nat}{m:Option Nat}{ps:List PN}{A:Ar}{x:Int}{F:Nat->Prop}
theorem qe(w:PA h a n m ps A)(lm:LF A)(qd:(A.nd x).AZ.length<=1000000000):∃r t,BE cx 45 [Pt a 0,I x] h (.tuple [.agg r,I (if A.has x then 0 else 3)]) (h++t)/\Tz (h++t) h.length (A.nd x) r:=by
 by_cases hx:A.has x;·obtain⟨r,t,r1,hr⟩:=vw w lm hx qd;have Fy:=hr;obtain⟨K,V,rfl,_⟩:=hr;refine⟨_,t,?_,Fy⟩;rw[Ab,YR,t45];simp only[Az,↓reduceIte,AI,Bi,FW,(Sc (x:=x) w).call,if_pos hx,ne_eq,Cu,(H8 w lm hx).call,r1.call]
 .refine⟨_,[],?_,.slnil,.slnil,by rw[GM hx],by rw[GM hx];exact .inr ⟨rfl,rfl⟩,by rw[GM hx];exact .inl ⟨rfl,rfl⟩,λ_ _ e=>nomatch e⟩;rw[Ab,YR,t45,BB];simp only[Az,↓reduceIte,AI,Bi,FW,(Sc (x:=x) w).call,if_neg hx,ne_eq,show¬(3:Int)=0 by decide,Ds]
theorem vy(w:PA h a n m ps A)(lm:LF A)(qd:(A.nd x).AZ.length<=1000000000):∃v,BE cx 113 [Pt a 0,I x] h v h/\Dh (A.nd x).AZ v:=by
 by_cases hx:A.has x;·obtain⟨K,r1,hK⟩:=vu (w.LA hx) qd;refine⟨K,?_,hK⟩;rw[Ab,YW,jv];simp only[Az,Bi,(Tx (x:=x) w).call,AD hx,(H8 w lm hx).call,w.f2 hx,r1.call]
 .refine⟨.slnil,?_,by rw[GM hx];exact .inr ⟨rfl,rfl⟩⟩;rw[Ab,YW,jv];simp only[Az,Bi,(Tx (x:=x) w).call,AA hx]
theorem aGp(w:PA h a n m ps A)(lm:LF A):BE cx 244 [Pt a 0,I x] h (I (A.nd x).E8) h:=by
 by_cases hx:A.has x;·rw[Ab,Y6,nr];simp only[Az,Bi,(Tx (x:=x) w).call,AD hx,(H8 w lm hx).call,w.f1 hx]
 .rw[Ab,Y6,nr,GM hx];simp only[Az,Bi,(Tx (x:=x) w).call,AA hx]
theorem aGq(w:PA h a n m ps A):BE cx 19 [Pt a 0] h (I A.len) h:=by have e2:Aw (.len false) [.Cm n 0 ps.length 13]=some (I (ps.length:Int)):=rfl;rw[Ab,aAc,t19];simp only[Az,Bi,w.nodes,e2,w.len]
theorem ag(w:PA h a n m ps A)(lm:LF A):BE cx 106 [Pt a 0,I x] h (I (if A.has x then(if(A.nd x).kind=1 then 0 else 9) else 3)) h:=by
 rw[Ab,lZ,aAy];by_cases hx:A.has x
 .simp only[Az,Bi,FW,(Sc (x:=x) w).call,if_pos hx,ne_eq,Cu,(H8 w lm hx).call,w.f0 hx];by_cases hk:(A.nd x).kind=1;·simp only[hk,Az,Bi,Cu]
  .simp only[hk,Az,Bi]
 .simp only[Az,Bi,FW,(Sc (x:=x) w).call,if_neg hx,ne_eq,show¬(3:Int)=0 by decide]
theorem ah{l:List PN}:(l.map PN.row).flatten.length=l.length*13:=by rw[Fe (cS l),Ai]
theorem cT{p:PN}{n':Nat}(hk:GK p.kv=none):Fi a n' m (ps++[p])=a::n'::(m.toList++ps.filterMap λp=>GK p.kv):=by unfold Fi;rw[Gt];simp[hk]
theorem aj{x:Eh}(hl:A.i.length=A.n.length):(A.add x).inr=A.inr:=by funext k;exact TZ hl
theorem qg(w:PA h a n m ps A)(hb:ps.length+1<=1000000000)(p:PN)(hk:p.kv= .slnil)(fo:p.x.AZ=[]):
  ∃h',BE cx 42 [Pt a 0,.agg p.row] h (I (A.len+1)) h'/\PA h' a h.length m (ps++[p]) (A.add p.x)/\(∀i,i<h.length->i≠a->i≠n->h'[i]?=h[i]?)/\h'.length=h.length+1:=by
 have hal:a<h.length:=w.lt a (by simp[Fi]);have Nt:n<h.length:=w.lt n (by simp[Fi]);have qh:a≠n:=by have:=w.nd;simp[Fi] at this;exact this.1.1
 have eg:=IF (h:=h) (id:=n) (Au:=ps.map PN.row) (r2:=[p.row]) (v:= .sl 13 [p.row]) (b:=168) (cS ps) (by decide) w.hn .mk (by simp) (by rw[Ai];have:AS=140737488355328:=rfl;simp;omega);rw[Ai] at eg;simp only[Bs] at eg;have Nv:(h.set n .CG++[De.cells (ps.map PN.row++[p.row]).flatten])[a]?=some (.cells [.Cm n 0 ps.length 13,.map m]):=by rw[Ad (by simpa using hal),Aj (DR qh)];exact w.ha
 have es:Cv (h.set n .CG++[De.cells (ps.map PN.row++[p.row]).flatten]) 1 (Pt a 0) (.Cm h.length 0 (ps.length+1) 13)=some ((h.set n .CG++[De.cells (ps.map PN.row++[p.row]).flatten]).set a (.cells [.Cm h.length 0 (ps.length+1) 13,.map m])):=by simp only[Cv,Nv];rfl
 have el:Bb ((h.set n .CG++[De.cells (ps.map PN.row++[p.row]).flatten]).set a (.cells [.Cm h.length 0 (ps.length+1) 13,.map m])) none (Pt a 0)=some (.Cm h.length 0 (ps.length+1) 13):=by simp only[Bb];rw[AN (by simp;omega)];rfl
 have e2:Aw (.len false) [.Cm h.length 0 (ps.length+1) 13]=some (I ((ps.length+1:Nat):Int)):=rfl;have em:Aw (.By 13) [.agg p.row]=some (.sl 13 [p.row]):=K8 (a:= .agg p.row) rfl (by decide);refine⟨(h.set n .CG++[De.cells (ps.map PN.row++[p.row]).flatten]).set a (.cells [.Cm h.length 0 (ps.length+1) 13,.map m]),?_,?_,?_,?_⟩;rotate_left
 .refine⟨by simp[Ar.add,w.e],by simp[Ar.add,w.il],?_,?_,?_,?_,?_⟩;·rw[AN (by simp;omega)];simp
  .rw[Aj (by omega),Bg (by simp)];simp
  .intro q hq;rcases Ao.1 hq with hq|hq
   .refine(w.ks q hq).CP λid Hj=>?_;have h1:id∈Fi a n m ps:=Kd hq Hj;have h2:=w.lt id h1;have h3:=w.nd;have h4:id∈m.toList++ps.filterMap λp=>GK p.kv:=Ao.2 (.inr (Ci.2 ⟨q,hq,Hj⟩));unfold Fi at h3;simp only[BW,AM,not_or] at h3;have n1:a≠id:=λe=>h3.1.2 (e▸h4);have n2:n≠id:=λe=>h3.2.1 (e▸h4);rw[Aj n1,Ad (by simpa using h2),Aj n2]
   .simp at hq;subst hq;exact .inl ⟨hk,fo⟩
  .rw[cT (by rw[hk];rfl)];have h3:=w.nd;unfold Fi at h3;simp only[BW,AM,not_or] at h3⊢;refine⟨⟨by omega,h3.1.2⟩,λhm=>?_,h3.2.2⟩;have:=w.lt h.length (by unfold Fi;simp only[AM];exact .inr (.inr hm));omega
  .rw[aj w.il];refine w.mp.CP λid Hj=>?_;have h1:id∈m.toList++ps.filterMap λp=>GK p.kv:=by simp[Hj]
   have h2:=w.lt id (by unfold Fi;simp only[AM];exact .inr (.inr h1));have h3:=w.nd;unfold Fi at h3;simp only[BW,AM,not_or] at h3;have n1:a≠id:=λe=>h3.1.2 (e▸h1);have n2:n≠id:=λe=>h3.2.1 (e▸h1);rw[Aj n1,Ad (by simpa using h2),Aj n2]
 .intro i hi h1 h2;rw[Aj (DR h1),Ad (by simpa using hi),Aj (DR h2)]
 .simp
 .have hl:A.len+1=((ps.length+1:Nat):Int):=by rw[<-w.len];rfl
  rw[PN.row] at em eg es el;rw[Ab,iR,t42,hl,PN.row];simp only[Az,Nat.reduceLeDiff,↓reduceIte,AI,Bi,w.nodes,em,eg,es,el,e2]
theorem Mt{Au:List (List Aa)}{z i k:Nat}(hr:∀r∈Au,r.length=z)(hi:i<Au.length)(hk:k<z){v:Aa}:Au.flatten.take (i*z+k)++[v]++Au.flatten.drop (i*z+k+1)=(Au.set i (Au[i].set k v)).flatten:=by
 have hl:=hr _ (AJ hi);rw[<-bH hr hi];have e1:Au.flatten.drop (i*z)=Au[i]++Au.flatten.drop (i*z+z):=by
  have e2:i*z+z=(i+1)*z:=by rw[BA,Ey]
  rw[e2,HW hr,HW hr,AG hi,Db]
 have e3:Au.flatten.take (i*z+k)=Au.flatten.take (i*z)++Au[i].take k:=by rw[List.take_add,e1,CU (by omega)]
 have e4:Au.flatten.drop (i*z+k+1)=Au[i].drop (k+1)++Au.flatten.drop (i*z+z):=by rw[Nat.add_assoc,<-E7,e1,TJ (by omega)]
 rw[e3,e4,BY,if_pos (by omega)];simp
theorem PA.sto(w:PA h a n m ps A)(hx:A.has x){k:Nat}(hk:k<13){v:Aa}(hv:v.cells=[v]){p:PN}(hp:p.row=(pN ps x).row.set k v){h1:Ae}(hn:h1[n]?=h[n]?):
  Cv h1 1 (Pt n (nP n x+k)) v=some (h1.set n (.cells ((ps.set (x.toNat-1) p).map PN.row).flatten)):=by
 have hlt:=(w.at hx).1;have hg:=(w.pn hx).1;rw[Af hlt,BC] at hg;have e:=Mt (Au:=ps.map PN.row) (i:=x.toNat-1) (k:=k) (v:=v) (cS ps) (by simpa using hlt) hk;rw[CY,hg,<-hp,<-Fk] at e;unfold nP;simp only[Cv,hn,w.hn,hv,Bs,NC];rw[if_pos (by rw[Fe (cS ps),Ai];omega),e]
theorem VJ(w:PA h a n m ps A)(hx:A.has x)(p:PN):ps=ps.take (x.toNat-1)++pN ps x::ps.drop (x.toNat-1+1)/\ps.set (x.toNat-1) p=ps.take (x.toNat-1)++p::ps.drop (x.toNat-1+1):=by have hlt:=(w.at hx).1;have hg:=(w.pn hx).1;rw[Af hlt,BC] at hg;refine⟨?_,by rw[BY,if_pos hlt]⟩;conv=>lhs;rw[<-CK (x.toNat-1) ps,AG hlt,hg]
theorem ak{y:Eh}:(A.set x y).inr=A.inr:=by funext k;exact Q0
theorem PA.tQ(w:PA h a n m ps A)(hx:A.has x){p:PN}{h1:Ae}(ho:∀i∈Fi a n m ps,GK (pN ps x).kv≠some i->h1[i]?=h[i]?)(hk:Je h1 p.kv p.x.AZ)
  (hi:GK p.kv=GK (pN ps x).kv\/∀j,GK p.kv=some j->h.length<=j):PA (h1.set n (.cells ((ps.set (x.toNat-1) p).map PN.row).flatten)) a n m (ps.set (x.toNat-1) p) (A.set x p.x):=by
 have hlt:=(w.at hx).1;have qi:=(w.pn hx).2.2;obtain⟨e1,e2⟩:=VJ w hx p;have nd:=w.nd;have hkx:∀j,GK (pN ps x).kv=some j->j∈m.toList++ps.filterMap λp=>GK p.kv:=λj hj=>Ao.2 (.inr (Ci.2 ⟨_,qi,hj⟩));have Zd:=nd;unfold Fi at Zd;simp only[BW,AM,not_or] at Zd;have qh:a≠n:=Zd.1.1;have hak:GK (pN ps x).kv≠some a:=λe=>Zd.1.2 (hkx a e);have vr:GK (pN ps x).kv≠some n:=λe=>Zd.2.1 (hkx n e);have Nt:n<h.length:=w.lt n (by simp[Fi]);have h1n:h1[n]?=h[n]?:=ho n (by simp[Fi]) vr;have h1l:n<h1.length:=by have:=w.hn;rw[<-h1n] at this;exact(Ah.1 this).1
 have y_:∀j,GK p.kv=some j->j≠n/\j≠a:=by
  intro j hj;rcases hi with hi|hi
  .rw[hi] at hj;exact⟨λe=>vr (e▸hj),λe=>hak (e▸hj)⟩
  .have:=hi j hj;have:=w.lt a (by simp[Fi]);omega
 refine⟨?_,?_,?_,?_,?_,?_,?_⟩;·simp only[Ar.set,if_pos hx];rw[w.e,Fk]
 .rw[It];exact w.il
 .rw[Aj (DR qh),ho a (by simp[Fi]) hak,Bj];exact w.ha
 .rw[AN h1l]
 .intro q hq;by_cases hqp:q=p;·rw[hqp];exact hk.CP λid Hj=>by rw[Aj (DR (y_ id Hj).1)]
  .rw[e2] at hq;have hq2:q∈ps.take (x.toNat-1)++ps.drop (x.toNat-1+1):=by
    rcases Ao.1 hq with h7|h7
    .exact Ao.2 (.inl h7)
    .exact Ao.2 (.inr ((AM.1 h7).resolve_left hqp))
   have wK:q∈ps:=by
    rcases Ao.1 hq2 with h7|h7
    .exact Bf h7
    .exact Bw h7
   refine(w.ks q wK).CP λj hj=>?_;have h8:j∈Fi a n m ps:=Kd wK hj;have h9:j≠n:=λe=>Zd.2.1 (e▸Ao.2 (.inr (Ci.2 ⟨q,wK,hj⟩)));have VK:GK (pN ps x).kv≠some j:=by
    intro hjx;have h6:=(B7.1 Zd.2.2).2.1;rw[e1,Gt,Ng,hjx] at h6;simp only[B7,BW,AM,Ci] at h6;rcases Ao.1 hq2 with h7|h7
    .exact h6.2.2 j ⟨q,h7,hj⟩ j (.inl rfl) rfl
    .exact h6.2.1.1 ⟨q,h7,hj⟩
   rw[Aj (DR h9),ho j h8 VK]
 .have fr:∀j,GK p.kv=some j->GK (pN ps x).kv=some j\/j∉Fi a n m ps:=by
   intro j hj;rcases hi with hi|hi
   .exact .inl (hi▸hj)
   .exact .inr λhm=>by have:=hi j hj;have:=w.lt j hm;omega
  have h1:=nd;unfold Fi at h1 fr⊢;rw[e1,Gt,Ng] at h1;rw[e1,Gt,Ng] at fr;rw[e2,Gt,Ng];generalize List.filterMap (λp=>GK p.kv) (ps.take (x.toNat-1))=T at h1 fr⊢;generalize List.filterMap (λp=>GK p.kv) (ps.drop (x.toNat-1+1))=D at h1 fr⊢;cases hp:GK p.kv with
  |none=>
   cases ho:GK (pN ps x).kv with
   |none=>rw[ho] at h1;exact h1
   |some k=>rw[ho] at h1;refine h1.sublist ?_;simp
  |some j=>
   have:=fr j hp;cases ho:GK (pN ps x).kv with
   |none=>rw[ho] at h1 this;simp only[BW,B7,AM,Ao] at h1 this⊢;grind
   |some k=>rw[ho] at h1 this;simp only[BW,B7,AM,Ao] at h1 this⊢;grind
 .rw[ak];refine w.mp.CP λid Hj=>?_;have h8:id∈m.toList++ps.filterMap λp=>GK p.kv:=by simp[Hj]
  have h9:n≠id:=λe=>Zd.2.1 (e▸h8);have VK:GK (pN ps x).kv≠some id:=by intro Yt;exact(B7.1 Zd.2.2).2.2 id (by simp[Hj]) id (Ci.2 ⟨_,qi,Yt⟩) rfl
  rw[Aj h9,ho id (by unfold Fi;simp only[AM];exact .inr (.inr h8)) VK]
end
section
variable{h h':Ae}{a n:Nat}{m:Option Nat}{ps:List PN}{A:Ar}{x:Int}{F:Nat->Prop}
theorem PA.pw(w:PA h a n m ps A):PW h (λi=>i∈Fi a n m ps) a A:=⟨n,m,ps,w,λ_=>Iff.rfl⟩
theorem LF.add{y:Eh}(lm:LF A)(h1:A.len+1<=1000000000)(h2:y.Ax.length<=1000000000)(h3:y.data.length<=1000000000):LF (A.add y):=by
 refine⟨?_,λx=>?_,λx=>?_⟩;·unfold Ar.len at h1;simp[Ar.add];omega
 .rw[HN];split;·exact h2
  .exact lm.at_ x
 .rw[HN];split;·exact h3
  .exact lm.data x
theorem LF.set{y:Eh}(lm:LF A)(h2:y.Ax.length<=1000000000)(h3:y.data.length<=1000000000):LF (A.set x y):=by
 refine⟨by rw[It];exact lm.n,λx=>?_,λx=>?_⟩<;>rw[IJ]<;>split;·exact h2
 .exact lm.at_ x
 .exact h3
 .exact lm.data x
theorem qj{x y:Eh}:(A.add x).set (A.len+1) y=A.add y:=by
 unfold Ar.set;rw[if_pos (Dj.2 (.inr rfl))];unfold Ar.add Ar.len;have e:((A.n.length:Int)+1).toNat-1=A.n.length:=by omega
 simp only[e];rw[B2 _ _ (Ac _),DB];rfl
theorem o7{p:PN}(w:PA h a n m ps A)(hx:A.has x)(hk:GK p.kv=GK (pN ps x).kv):Fi a n m (ps.set (x.toNat-1) p)=Fi a n m ps:=by obtain⟨e1,e2⟩:=VJ w hx p;unfold Fi;rw[e2,Gt,Ng,hk];conv=>rhs;rw[e1,Gt,Ng]
theorem PA.wr(w:PA h a n m ps A)(hx:A.has x){k:Nat}(hk:k<13){v:Aa}(hv:v.cells=[v]){p:PN}(hp:p.row=(pN ps x).row.set k v)(h1:p.kv=(pN ps x).kv)(h2:p.x.AZ=(A.nd x).AZ):
  ∃h',Cv h 1 (Pt n (nP n x+k)) v=some h'/\PA h' a n m (ps.set (x.toNat-1) p) (A.set x p.x)/\Fi a n m (ps.set (x.toNat-1) p)=Fi a n m ps/\(∀i,i≠n->h'[i]?=h[i]?)/\h'.length=h.length:=by
 refine⟨_,w.sto hx hk hv hp rfl,w.tQ hx (λi _ _=>rfl) (by rw[h1,h2];exact w.LA hx) (.inl (by rw[h1])),o7 w hx (by rw[h1]),λi hi=>by rw[Aj (DR hi)],Bj⟩
theorem PA.ao(w:PA h a n m ps A){h1:Ae}{Ip:List PN}{A':Ar}(w':PA h1 a n m Ip A')(hi:Fi a n m Ip=Fi a n m ps)(ho:∀i,i≠n->h1[i]?=h[i]?)(hl:h1.length=h.length):Df h (λi=>i∈Fi a n m ps) h1 (λi=>i∈Fi a n m Ip):=
 ⟨by omega,λi _ hn=>ho i (λe=>hn (by rw[e];simp[Fi])),λi TR=> .inl (by rwa [hi] at TR)⟩
def Jr(q:Bool)(d:Int):PN:=⟨{kind:=1,Cb:=q,Cy:=d},.slnil,.slnil,rfl⟩
theorem aLl(w:PA h a n m ps A)(lm:LF A)(hb:A.len+1<=1000000000)(q:Bool):
  ∃h',BE cx 13 [Pt a 0,.bool q] h (I (A.len+1)) h'/\PA h' a h.length m (ps++[Jr q (A.len+1)]) (A.add {kind:=1,Cb:=q,Cy:=A.len+1})/\(∀i,i<h.length->i≠a->i≠n->h'[i]?=h[i]?)/\h'.length=h.length+1:=by
 have ZD:=w.len;obtain⟨h1,r1,w1,o1,l1⟩:=qg w (by omega) (Jr q 0) rfl rfl;have vz:=lm.add (y:=(Jr q 0).x) hb (by simp[Jr]) (by simp[Jr]);have hx:(A.add (Jr q 0).x).has (A.len+1):=Dj.2 (.inr rfl);have hlen:(A.len+1).toNat-1=ps.length:=by omega
 have y_:pN (ps++[Jr q 0]) (A.len+1)=Jr q 0:=by unfold pN;rw[hlen];simp
 obtain⟨h2,s2,w2,_,o2,l2⟩:=w1.wr hx (k:=3) (by decide) (v:= I (A.len+1)) rfl (p:=Jr q (A.len+1)) (by rw[y_];rfl) (by rw[y_];rfl) (by rw[HN,if_pos rfl];rfl);refine⟨h2,?_,?_,λi hi h3 h4=>?_,by omega⟩;·have r2:=H8 w1 vz hx;rw[Ab,iP,t13];have v_:BE cx 42 [Pt a 0,.agg [I 1,I 0,.slnil,I 0,I 0,.str [],.slnil,.str [],.str [],.str [],.bool q,I 0,I 0]] h (I (A.len+1)) h1:=r1;simp only[Az,Nat.reduceLeDiff,↓reduceIte,AI,Bi,v_.call,r2.call,s2]
 .rw[qj,hlen] at w2;rw[B2 _ _ (Ac _),DB] at w2;exact w2
 .rw[o2 i (by omega)];exact o1 i hi h3 h4
def Hq(k d:Int)(s:As):PN:=⟨{kind:=k,Cy:=d,data:=s},.slnil,.slnil,rfl⟩
theorem PA.Rb(w:PA h a n m ps A){p:PN}{h1:Ae}(hk:GK p.kv=none)(o1:∀i,i<h.length->i≠a->i≠n->h1[i]?=h[i]?)(l1:h1.length=h.length+1):Df h (λi=>i∈Fi a n m ps) h1 (λi=>i∈Fi a h.length m (ps++[p])):=by
 refine⟨by omega,λi hi hn=>o1 i hi (λe=>hn (by simp[Fi,e])) (λe=>hn (by simp[Fi,e])),λi hi=>?_⟩;rw[cT hk] at hi;simp only[AM] at hi;rcases hi with rfl|rfl|hi
 .exact .inl (by simp[Fi])
 .exact .inr (Ac _)
 .exact .inl (by unfold Fi;simp only[AM];exact .inr (.inr hi))
theorem wc{k:Int}{s:As}(w:PA h a n m ps A)(lm:LF A)(hb:A.len+1<=1000000000)(hd:A.has x/\(A.nd x).kind=1):
  ∃h',BE cx 44 [Pt a 0,I x,.agg (Hq k 0 s).row] h (.tuple [I (A.len+1),I 0]) h'/\PA h' a h.length m (ps++[Hq k x s]) (A.add (Hq k x s).x)/\(∀i,i<h.length->i≠a->i≠n->h'[i]?=h[i]?)/\h'.length=h.length+1:=by
 have ZD:=w.len;obtain⟨h1,r1,w1,o1,l1⟩:=qg w (by omega) (Hq k x s) rfl rfl;refine⟨h1,?_,w1,o1,l1⟩;rw[PN.row] at r1;rw[Ab,yL,t44,PN.row];simp only[Az,Bi,(ag (x:=x) w lm).call,if_pos hd.1,if_pos hd.2,ne_eq,Cu,Hq] at r1⊢;simp only[Az,r1.call]
theorem aLm{s:As}(w:PA h a n m ps A)(lm:LF A)(hb:A.len+1<=1000000000)(hd:A.has x/\(A.nd x).kind=1):
  ∃h',BE cx 90 [Pt a 0,I x,.str s] h (.tuple [I (A.len+1),I 0]) h'/\PA h' a h.length m (ps++[Hq 5 x s]) (A.add (Hq 5 x s).x)/\(∀i,i<h.length->i≠a->i≠n->h'[i]?=h[i]?)/\h'.length=h.length+1:=by
 obtain⟨h1,r1,w1,o1,l1⟩:=wc (k:=5) (s:=s) w lm hb hd;refine⟨h1,?_,w1,o1,l1⟩;have v_:BE cx 44 [Pt a 0,I x,.agg [I 5,I 0,.slnil,I 0,I 0,.str [],.slnil,.str s,.str [],.str [],.bool false,I 0,I 0]] h (.tuple [I (A.len+1),I 0]) h1:=r1;rw[Ab,zD,t90];simp only[Az,Nat.reduceLeDiff,↓reduceIte,AI,Bi,v_.call]
theorem we{s:As}(w:PA h a n m ps A)(lm:LF A)(hb:A.len+1<=1000000000)(hd:A.has x/\(A.nd x).kind=1):
  ∃h',BE cx 14 [Pt a 0,I x,.str s] h (.tuple [I (A.len+1),I 0]) h'/\PA h' a h.length m (ps++[Hq 6 x s]) (A.add (Hq 6 x s).x)/\(∀i,i<h.length->i≠a->i≠n->h'[i]?=h[i]?)/\h'.length=h.length+1:=by
 obtain⟨h1,r1,w1,o1,l1⟩:=wc (k:=6) (s:=s) w lm hb hd;refine⟨h1,?_,w1,o1,l1⟩;have v_:BE cx 44 [Pt a 0,I x,.agg [I 6,I 0,.slnil,I 0,I 0,.str [],.slnil,.str s,.str [],.str [],.bool false,I 0,I 0]] h (.tuple [I (A.len+1),I 0]) h1:=r1;rw[Ab,aAa,t14];simp only[Az,Nat.reduceLeDiff,↓reduceIte,AI,Bi,v_.call]
theorem aLn{s:As}(w:PA h a n m ps A)(lm:LF A)(hx:A.has x)(hk:(A.nd x).kind=5):
  ∃h' Ip,BE cx 89 [Pt a 0,I x,.str s] h (I 0) h'/\PA h' a n m Ip (A.Q5 x s)/\Df h (λi=>i∈Fi a n m ps) h' (λi=>i∈Fi a n m Ip):=by
 have hp:=(w.pn hx).2.1;obtain⟨h2,s2,w2,i2,o2,l2⟩:=w.wr hx (k:=7) (by decide) (v:= .str s) rfl (p:=⟨{A.nd x with data:=s},(pN ps x).kv,(pN ps x).av,by rw[<-hp];exact(pN ps x).ok⟩) (by simp only[PN.row];rw[hp];rfl) rfl rfl;refine⟨h2,_,?_,w2,w.ao w2 i2 o2 l2⟩;rw[Ab,zC,t89];simp only[Az,Bi,FW,(Sc (x:=x) w).call,if_pos hx,ne_eq,Cu,(H8 w lm hx).call,w.f0 hx,hk,s2]
theorem wg{y:Int}:BE cx 160 [.sl 1 [[I y]]] h (.bool (decide (BS.Ho y))) h:=by
 have hv:AL 1 [[I y]] (.sl 1 [[I y]]):= .mk;have e1:([[I y]]:List (List Aa))[0]=[I y]:=rfl;rw[Ab,mZ,aAW];simp only[Az,hv.len];refine A9 (λk:Nat=>[.bool false,I (k:Int)]) (λk h1=>k<=1/\(k=1->BS.Ho y)/\h1=h) (λk=>1 -k) 0 rfl ⟨AO _,λe=>by omega,rfl⟩ ?_;rintro k h1 ⟨hk,ha,rfl⟩;rcases AT k 1 with hlt|D2
 .obtain rfl:k=0:=by omega
  simp only[Az,Bi,show((0:Nat):Int)<((1:Nat):Int) by decide,hv.Fm (show 0<[[I y]].length from B8),e1,BG (show 0<9223372036854775807 by omega)];refine⟨λh2=>?_,λh2=>⟨λh3=>?_,λh3=>?_⟩⟩;·rw[AA (λhh=>by unfold BS.Ho at hh;omega)]
  .rw[AA (λhh=>by unfold BS.Ho at hh;omega)]
  .exact AF.next 1 rfl ⟨Ac _,λ_=>⟨by omega,by omega⟩,rfl⟩ (by omega)
 .obtain rfl:k=1:=by omega
  simp only[Az,Bi,show¬((1:Nat):Int)<((1:Nat):Int) by decide,AD (ha rfl)]
theorem VL{l out:List AW}{y:AW}:GD out (l++[y])=if(GD out l).any (λz=>decide (Da y=Da z)) then GD out l else GD out l++[y]:=by
 induction l generalizing out with
 |nil=>simp only[BH,GD];split<;>simp_all
 |cons z l ih=>
  rw[CB,GD,GD];split;·exact ih
  .exact ih
theorem aGr(y c:AW)(h:Ae):BE cx 239 [.agg c.row,.CA y.row] h (.bool (decide (Da y=Da c))) h:=by
 rw[Ab,oE,aBt,AW.row,AW.row];simp only[Az];refine⟨λh1=>?_,λh1=>?_⟩;·congr 2;rw[D1];simp[Da,h1]
 .rw[AA (λe=>h1 (by simp[Da] at e;exact e.1))]
theorem wh{F v:Aa}{l:List AW}{q:AW->Bool}(hv:LH h v l)(hb:l.length<=1000000000)(hF:cR F h q):BE cx 148 [v,F] h (.bool (l.any q)) h:=by
 obtain⟨f,caps,rfl,hf,hr⟩:=hF;have key:BE cx 118 [v,.func (.func f) [] caps] h (I (B9 q 0 l)) h:=by
  rw[Ab,T1,zI];simp only[Az,hv.len];refine A9 (λn:Nat=>[I 0,I (n:Int)]) (λn h1=>n<=l.length/\B9 q 0 l=B9 q n (l.drop n)/\h1=h) (λn=>l.length-n) 0 rfl ⟨AO _,rfl,rfl⟩ ?_;rintro n h1 ⟨zX,ha,rfl⟩;rcases AT n l.length with hlt|D2
  .have i1:(n:Int)<(l.length:Int):=by omega
   obtain⟨p,e1,e2⟩:=hv.at_ n hlt;rw[AG hlt,B9] at ha;simp only[Az,↓reduceIte,Dt,Bi,hf,i1,e1,e2,(hr l[n]).call,BG (show n<9223372036854775807 by omega)];rw[Ct];refine⟨λhe=>?_,λhe=>?_⟩;·rw[ha,if_pos he]
   .rw[if_neg (by simp[he])] at ha;exact AF.next (n+1) rfl ⟨hlt,ha,rfl⟩ (by omega)
  .have i1:¬(n:Int)<(l.length:Int):=by omega
   rw[A3 D2,B9] at ha;simp only[Az,↓reduceIte,Dt,Bi,i1,ha]
 rw[Ab,Y1,t148];simp only[Az,key.call];congr 2
 rcases GR (p:=q) (l:=l) (k:=0) with⟨h1,h2⟩|⟨n,y,h1,h2,h3⟩
 .rw[h1,eq_comm];have:=ZA.1 h2;simpa using this
 .rw[h1,eq_comm,AD (by omega),List.any_eq_true];exact⟨y,List.mem_of_find?_eq_some h3,List.find?_some h3⟩
theorem wj{l:List AW}{v:Aa}(hv:LH h v l)(hb:l.length<=1000000000)(hs:∀y∈l,BS.Ho y.AX):BE cx 161 [v] h (.tuple [Tw (Cf l),.bool true]) h:=by
 rw[Ab,m6,aAX];simp only[Az,hv.len];refine A9 (λk:Nat=>[.slnil,.bool false,Tw (Cf (l.take k)),I (k:Int)]) (λk h1=>k<=l.length/\h1=h) (λk=>l.length-k) 0 rfl ⟨AO _,rfl⟩ ?_;rintro k h1 ⟨hk,rfl⟩;rcases AT k l.length with hlt|D2
 .have i1:(k:Int)<(l.length:Int):=by omega
  obtain⟨p,p1,p2⟩:=hv.at_ k hlt;have inc:=BG (show k<9223372036854775807 by omega);have hsp:=hs _ (AJ hlt);have r1:=wg (h:=h1) (y:=l[k].AX);have hF:cR (.func (.func 239) [] [.CA l[k].row]) h1 (λc=>decide (Da l[k]=Da c)):=⟨_,_,rfl,by decide,λc=>aGr l[k] c h1⟩;have tS:(Cf (l.take k)).length<=1000000000:=by have:=OM (l:=l.take k);rw[Al] at this;omega
  have r2:=wh (VI T7) tS hF;have e1:Cf (l.take (k+1))=if(Cf (l.take k)).any (λz=>decide (Da l[k]=Da z)) then Cf (l.take k) else Cf (l.take k)++[l[k]]:=by rw[Av hlt];exact VL
  have e2:=AL.Ja (f:=AW.row) (a:=l[k]) (b:=40) (T7 (l:=Cf (l.take k))) (by have:=OM (l:=l.take k);rw[Al] at this;have:AS=140737488355328:=rfl;omega);have em:Aw (.By 3) [.agg l[k].row]=some (.sl 3 [l[k].row]):=rfl;rw[<-sG] at e2;rw[AW.row] at r2 em e2 p2;simp only[Az,Nat.reduceLeDiff,↓reduceIte,Bi,i1,p1,p2,FW,r1.call,AD hsp,r2.call,em,e2,inc];rw[Ct];refine⟨λh2=>?_,λh2=>?_⟩;·exact AF.next (k+1) (by rw[e1,if_neg (by simpa using h2)]) ⟨hlt,rfl⟩ (by omega)
  .exact AF.next (k+1) (by rw[e1,if_pos (by simpa using h2)]) ⟨hlt,rfl⟩ (by omega)
 .have i1:¬(k:Int)<(l.length:Int):=by omega
  simp only[Az,↓reduceIte,Bi,i1,Ay D2]
theorem aGs{l:List AW}{v:Aa}(w:PA h a n m ps A)(lm:LF A)(hx:A.has x)(hk:(A.nd x).kind=4)(hv:LH h v l)(hb:l.length<=1000000000)(hs:∀y∈l,BS.Ho y.AX):
  ∃h' Ip,BE cx 150 [Pt a 0,I x,v] h (I 0) h'/\PA h' a n m Ip (A.Iu x l)/\Df h (λi=>i∈Fi a n m ps) h' (λi=>i∈Fi a n m Ip):=by
 have hp:=(w.pn hx).2.1;have r1:=wj hv hb hs;obtain⟨h2,s2,w2,i2,o2,l2⟩:=w.wr hx (k:=6) (by decide) (v:=Tw (Cf l)) (AL.cells T7) (p:=⟨{A.nd x with Ax:=Cf l},(pN ps x).kv,Tw (Cf l),rfl⟩) (by simp only[PN.row];rw[hp];rfl) rfl rfl;refine⟨h2,_,?_,w2,w.ao w2 i2 o2 l2⟩;rw[Ab,kx,aEX];simp only[Az,Bi,FW,(Sc (x:=x) w).call,if_pos hx,ne_eq,Cu,(H8 w lm hx).call,w.f0 hx,hk,r1.call,s2]
theorem aGt(w:PA h a n m ps A)(hx:A.has x):BE cx 74 [Pt n (nP n x)] h (.bool (decide (YJ (A.nd x)))) h:=by rw[Ab,yX,t74];simp only[Az,Bi,w.f0 hx,w.f4 hx,w.f5 hx,YJ];refine⟨λh1=>⟨λh2=>?_,λh2=>?_⟩,λh1=>?_⟩<;>simp[*]
end
section
variable{h h':Ae}{a n:Nat}{m:Option Nat}{ps:List PN}{A:Ar}{x:Int}{F:Nat->Prop}
def O2(x:Int×Int):Aa×Aa:=(I x.1,I x.2)
theorem Ze{k:Int}:∀{l:List (Int×Int)} {i:Nat},(l.find? (λx=>decide (k=x.1))=none->Ko k (l.map O2) i=some none)/\∀y,l.find? (λx=>decide (k=x.1))=some y->∃j,Ko k (l.map O2) i=some (some (j,I y.2))
 |[],i=>⟨λ_=>rfl,λy h=>by cases h⟩
 |z::l,i=>by
  have ih:=Ze (k:=k) (l:=l) (i:=i+1);simp only[Bl,O2,Ko,I0];by_cases e:k=z.1;·simp only[e,Ds,BN];exact⟨λh=>(by cases h),λy h=>⟨i,by cases h;rfl⟩⟩
  .simp only[e,Fj,Ea];exact ih
theorem VH.get{f:Int->Int}(w:VH h m f)(k:Int):Ep (.dn (I 0) true) h [.map m,I k]=some (h,if f k=0 then .tuple [I 0,.bool false] else .tuple [I (f k),.bool true]):=by
 rcases w with⟨rfl,h0⟩|⟨id,l,rfl,hc,hl⟩
 .rw[if_pos (h0 k)];rfl
 .have hl:=hl k;have hm:=Ze (k:=k) (l:=l) (i:=0);simp only[Ep,kH,hc];by_cases h0:f k=0
  .rw[if_pos h0] at hl⊢;have e:l.find? (λx=>decide (k=x.1))=none:=by
    cases hf:l.find? (λx=>decide (k=x.1)) with
    |none=>rfl
    |some y=>rw[hf] at hl;cases hl
   have:=hm.1 e;unfold O2 at this;rw[this];rfl
  .rw[if_neg h0] at hl⊢;cases hf:l.find? (λx=>decide (k=x.1)) with
   |none=>rw[hf] at hl;cases hl
   |some y=>rw[hf] at hl;simp only[BR,BC] at hl;obtain⟨j,e⟩:=hm.2 y hf;unfold O2 at e;rw[e,<-hl];rfl
theorem o8{id:Nat}{l:List (Int×Int)}{k v:Int}(hc:h[id]?=some (.map (l.map O2)))(hn:l.find? (λx=>decide (k=x.1))=none):
  ∃h1,Ep (.ME (I 0)) h [.map (some id),I k]=some (h1,.tuple [I 0,I l.length])/\∃h2,Ep .LM h1 [.map (some id),I l.length,I v]=some (h2,.bool true)/\h2=h.set id (.map ((l++[(k,v)]).map O2)):=by
 have Hj:=(Ah.1 hc).1;have hm:=(Ze (k:=k) (l:=l) (i:=0)).1 hn;refine⟨h.set id (.map (l.map O2++[(I k,I 0)])),?_,_,?_,rfl⟩;·simp only[Ep,TK,hc,hm,BR,Ai]
 .have e1:(h.set id (.map (l.map O2++[(I k,I 0)])))[id]?=some (.map (l.map O2++[(I k,I 0)])):=AN Hj;have e2:(l.map O2++[(I k,I 0)])[l.length]?=some (I k,I 0):=by rw[Bg (by simp)];simp
  simp only[Ep,TL,e1,AQ,e2];rw[if_pos (by omega),List.set_set,B2 _ _ (by simp)];simp[O2]
theorem PA.aGu(w:PA h a n m ps A):∀i∈m.toList++ps.filterMap (λp=>GK p.kv),i<h.length/\i≠a/\i≠n:=by
 intro i hi;have h1:i∈Fi a n m ps:=by unfold Fi;simp only[AM];exact .inr (.inr hi)
 have h3:=w.nd;unfold Fi at h3;simp only[BW,AM,not_or] at h3;exact⟨w.lt i h1,λe=>h3.1.2 (e▸hi),λe=>h3.2.1 (e▸hi)⟩
theorem PA.aGv(w:PA h a n m ps A){h1:Ae}{m':Option Nat}{A':Ar}(e1:A'.n=A.n)(e2:A'.i.length=A'.n.length)(ha:h1[a]?=some (.cells [.Cm n 0 ps.length 13,.map m']))(ho:∀i,i<h.length->i≠a->m≠some i->h1[i]?=h[i]?)(hm:m'=m\/∃j,m'=some j/\h.length<=j)(hM:VH h1 m' A'.inr):PA h1 a n m' ps A':=by
 have nd:=w.nd;have Zd:=nd;unfold Fi at Zd;simp only[BW,AM,not_or] at Zd;have hnm:m≠some n:=λe=>Zd.2.1 (by simp[e]);refine⟨by rw[e1];exact w.e,e2,ha,?_,?_,?_,hM⟩;·rw[ho n (w.lt n (by simp[Fi])) (DR Zd.1.1) hnm];exact w.hn
 .intro p hp;refine(w.ks p hp).CP λid Hj=>?_;have h1:id∈ps.filterMap (λp=>GK p.kv):=Ci.2 ⟨p,hp,Hj⟩;have h2:=w.aGu id (Ao.2 (.inr h1));exact ho id h2.1 h2.2.1 λe=>(B7.1 Zd.2.2).2.2 id (by simp[e]) id h1 rfl
 .rcases hm with rfl|⟨j,rfl,hj⟩
  .exact nd
  .have h5:∀i∈ps.filterMap (λp=>GK p.kv),i<h.length:=λi hi=>(w.aGu i (Ao.2 (.inr hi))).1;have h6:=w.lt a (by simp[Fi]);have h7:=w.lt n (by simp[Fi]);have h8:=(B7.1 Zd.2.2).2.1;unfold Fi;simp only[BW,AM,Option.toList_some,CB,BH,not_or];exact⟨⟨Zd.1.1,by omega,λhm=>Zd.1.2 (Ao.2 (.inr hm))⟩,⟨by omega,λhm=>Zd.2.1 (Ao.2 (.inr hm))⟩,λhm=>by have:=h5 j hm;omega,h8⟩
theorem aGw{i:Nat}(hm:m=some i):i∈Fi a n m ps:=by unfold Fi;simp[hm]
theorem PA.aGx(w:PA h a n m ps A){l:List (Int×Int)}{id:Nat}(hmi:m=some id)(hc:h[id]?=some (.map (l.map O2)))(hl:∀k,(l.find? λx=>decide (k=x.1)).map (·.2)=if A.inr k=0 then none else some (A.inr k)){d i:Int}(hd:A.has d)(hi:A.has i)(hdi:d≠i)(h0:A.inr d=0)(zm:A.inr i=0):
  ∃h1 h2 h3,Ep (.ME (I 0)) h [.map m,I d]=some (h1,.tuple [I 0,I l.length])/\Ep .LM h1 [.map m,I l.length,I i]=some (h2,.bool true)/\
   Ep (.ME (I 0)) h2 [.map m,I i]=some (h3,.tuple [I 0,I ((l.length+1:Nat):Int)])/\∃h4,Ep .LM h3 [.map m,I ((l.length+1:Nat):Int),I i]=some (h4,.bool true)/\PA h4 a n m ps ((A.H5 d i).H5 i i)/\(∀j,j≠id->h4[j]?=h[j]?)/\h4.length=h.length:=by
 subst hmi;have Hj:=(Ah.1 hc).1;have fnone:∀k,A.inr k=0->l.find? (λx=>decide (k=x.1))=none:=by
  intro k hk;have:=hl k;rw[if_pos hk] at this;cases hf:l.find? (λx=>decide (k=x.1)) with
  |none=>rfl
  |some y=>rw[hf] at this;cases this
 obtain⟨h1,e1,h2,e2,rfl⟩:=o8 (v:=i) hc (fnone d h0);have HV:(h.set id (.map ((l++[(d,i)]).map O2)))[id]?=some (.map ((l++[(d,i)]).map O2)):=AN Hj;obtain⟨h3,e3,h4,e4,rfl⟩:=o8 (k:=i) (v:=i) HV (by rw[List.find?_append,fnone i zm];simp[DR hdi]);simp only[Aq,Bs] at e3 e4;refine⟨h1,_,h3,e1,e2,e3,_,e4,?_,?_,by simp⟩
 .have ida:id≠a:=λe=>by have:=w.nd;unfold Fi at this;simp[e] at this
  refine w.aGv (m':=some id) (A':=(A.H5 d i).H5 i i) rfl ?_ ?_ ?_ (.inl rfl) ?_;·simp only[Ar.H5];split<;>split<;>simp[w.il]
  .rw[Aj ida,Aj ida];exact w.ha
  .intro j hj hja hjm;have:id≠j:=λe=>hjm (by rw[e]);rw[Aj this,Aj this]
  .refine .inr ⟨id,l++[(d,i)]++[(i,i)],rfl,?_,λk=>?_⟩;·rw[AN (by simpa using Hj)];rfl
   .have il1:(A.H5 d i).i.length=(A.H5 d i).n.length:=by simp only[Ar.H5];split<;>simp[w.il]
    rw[Og il1,Og w.il,List.find?_append,List.find?_append];have vN:(A.H5 d i).has i:=hi;have hk:=hl k;have sH:i≠0:=by have:=hi.1;omega
    cases hf:l.find? (λx=>decide (k=x.1)) with
    |some y=>
     rw[hf] at hk;have cQ:A.inr k≠0:=by intro e;rw[if_pos e] at hk;cases hk
     have n1:k≠i:=λe=>cQ (e▸zm);have n2:k≠d:=λe=>cQ (e▸h0);simp only[n1,n2,false_and,Ea,Option.some_or];exact hk
    |none=>
     rw[hf] at hk;have cQ:A.inr k=0:=by
      by_cases e:A.inr k=0;·exact e
      .rw[if_neg e] at hk;cases hk
     by_cases n2:k=d;·subst n2;simp[hdi,hd,sH]
     .by_cases n1:k=i;·subst n1;simp[n2,vN,sH]
      .simp[n1,n2,cQ]
 .intro j hj;rw[Aj (DR hj),Aj (DR hj)]
theorem aGy(w:PA h a n m ps A)(lm:LF A)(hb:A.len+1<=1000000000)(hx:A.has x):
  ∃h' n' m' Ip,BE cx 195 [Pt a 0,I x] h (I (A.EV x)) h'/\PA h' a n' m' Ip (A.CW x)/\Df h (λi=>i∈Fi a n m ps) h' (λi=>i∈Fi a n' m' Ip):=by
 have l1:Bb h none (Pt a 1)=some (.map m):=by simp only[Bb,w.ha];rfl
 have g1:=w.mp.get x;by_cases h0:A.inr x=0
 .obtain⟨h1,r1,w1,o1,len1⟩:=aLl w lm hb false;have x1:=w.Rb (p:=Jr false (A.len+1)) rfl o1 len1;have hN:A.EV x=A.len+1:=by unfold Ar.EV;rw[if_neg (by simp[h0])]
  have hA:A.CW x=((A.add {kind:=1,Cy:=A.len+1}).H5 x (A.len+1)).H5 (A.len+1) (A.len+1):=by unfold Ar.CW;rw[if_neg (by simp[h0])]
  have qk:∀k,(A.add {kind:=1,Cb:=false,Cy:=A.len+1}).inr k=A.inr k:=λk=>TZ w.il;have Nx:(A.add {kind:=1,Cb:=false,Cy:=A.len+1}).has x:=Dj.2 (.inl hx);have Tn:(A.add {kind:=1,Cb:=false,Cy:=A.len+1}).has (A.len+1):=Dj.2 (.inr rfl);have hne:=Vp hx;have zm:A.inr (A.len+1)=0:=by unfold Ar.inr;rw[if_neg P7]
  have l2:Bb h1 none (Pt a 1)=some (.map m):=by simp only[Bb,w1.ha];rfl
  rw[if_pos h0] at g1;rcases w1.mp with⟨rfl,hz⟩|⟨id,l,rfl,hc,hl⟩
  .have WB:=w1.ha;have hal:a<h1.length:=w1.lt a (by simp[Fi]);have Nv:(h1++[De.map []])[a]?=some (.cells [.Cm h.length 0 (ps++[Jr false (A.len+1)]).length 13,.map none]):=by rw[Ad hal];exact WB
   have es:Cv (h1++[De.map []]) 1 (Pt a 1) (.map (some h1.length))=some ((h1++[De.map []]).set a (.cells [.Cm h.length 0 (ps++[Jr false (A.len+1)]).length 13,.map (some h1.length)])):=by simp only[Cv,Nv];rfl
   have fV:((h1++[De.map []]).set a (.cells [.Cm h.length 0 (ps++[Jr false (A.len+1)]).length 13,.map (some h1.length)]))[a]?=some (.cells [.Cm h.length 0 (ps++[Jr false (A.len+1)]).length 13,.map (some h1.length)]):=AN (by simp;omega);have el:Bb ((h1++[De.map []]).set a (.cells [.Cm h.length 0 (ps++[Jr false (A.len+1)]).length 13,.map (some h1.length)])) none (Pt a 1)=some (.map (some h1.length)):=by simp only[Bb,fV];rfl
   have fq:((h1++[De.map []]).set a (.cells [.Cm h.length 0 (ps++[Jr false (A.len+1)]).length 13,.map (some h1.length)]))[h1.length]?=some (.map (([]:List (Int×Int)).map O2)):=by rw[Aj (by omega),Bg (Ac _),DB];rfl
   have w2:PA ((h1++[De.map []]).set a (.cells [.Cm h.length 0 (ps++[Jr false (A.len+1)]).length 13,.map (some h1.length)])) a h.length (some h1.length) (ps++[Jr false (A.len+1)]) (A.add {kind:=1,Cb:=false,Cy:=A.len+1}):=by refine w1.aGv rfl w1.il fV (λi hi hia _=>by rw[Aj (DR hia),Ad hi]) (.inr ⟨_,rfl,Ac _⟩) (.inr ⟨h1.length,[],rfl,fq,λk=>by rw[if_pos (hz k)];rfl⟩)
   obtain⟨k1,k2,k3,m1,m2,m3,k4,m4,w3,o3,len3⟩:=w2.aGx rfl fq (λk=>by rw[if_pos (hz k)];rfl) Nx Tn hne ((qk x).trans h0) ((qk _).trans zm);refine⟨k4,_,_,_,?_,hA▸w3,⟨by rw[len3];simp;omega,λi hi hin=>?_,λi hi=>?_⟩⟩;·simp only[BT] at m1 m2 m3 m4;rw[Ab,T4,zL,hN];simp only[Az,l1,g1,r1.call,l2,show Aw (.GL false .mp) [.map none,.map none]=some (.bool true) from rfl,es,el,m1,m2,m3,m4]
   .have h5:=x1.old i hi hin;have hia:i≠a:=λe=>hin (by simp[Fi,e]);rw[o3 i (by omega),Aj (DR hia),Ad (by omega),h5]
   .unfold Fi at hi;simp only[AM,Option.toList_some,CB,BH] at hi;rcases hi with rfl|rfl|rfl|hi
    .exact .inl (by simp[Fi])
    .exact .inr (Ac _)
    .exact .inr (by omega)
    .exact x1.own i (by unfold Fi;simp only[AM,Option.toList_none,BH];exact .inr (.inr hi))
  .obtain⟨k1,k2,k3,m1,m2,m3,k4,m4,w3,o3,len3⟩:=w1.aGx rfl hc hl Nx Tn hne ((qk x).trans h0) ((qk _).trans zm);refine⟨k4,_,_,_,?_,hA▸w3,⟨by omega,λi hi hin=>?_,x1.own⟩⟩;·rw[Ab,T4,zL,hN];simp only[Az,l1,g1,r1.call,l2,show Aw (.GL false .mp) [.map (some id),.map none]=some (.bool false) from rfl,m1,m2,m3,m4]
   .rw[o3 i (λe=>hin (e▸aGw rfl))];exact x1.old i hi hin
 .have hN:A.EV x=A.inr x:=by unfold Ar.EV;rw[if_pos h0]
  have hA:A.CW x=A:=by unfold Ar.CW;rw[if_pos h0]
  refine⟨h,n,m,ps,?_,by rw[hA];exact w,.refl⟩;rw[if_neg h0] at g1;rw[Ab,T4,zL,hN];simp only[Az,l1,g1]
theorem LF.VM(lm:LF A)(h1:A.len+1<=1000000000):LF (A.CW x):=by
 unfold Ar.CW;split;·exact lm
 .have:=lm.add (y:={kind:=1,Cy:=A.len+1}) h1 (by simp) (by simp);exact⟨this.n,this.at_,this.data⟩
theorem sI(hk:A.has x){d:Int}:(A.CW d).nd x=A.nd x:=Vn (.inl (Vp hk))
theorem aGz{l:List AW}{v:Aa}{d sp:Int}{nm:As}(w:PA h a n m ps A)(lm:LF A)(hb:A.len+3<=1000000000)(hd:A.has d/\(A.nd d).kind=1)(hsp:BS.Ho sp)(hv:Bx l v)(hl:l.length<=1000000000)(hs:∀y∈l,BS.Ho y.AX):
  ∃h' n' m' Ip,BE cx 110 [Pt a 0,I d,I sp,.str nm,v] h (.tuple [I (A.len+1),I 0]) h'/\PA h' a n' m' Ip (A.elem d sp nm l)/\Df h (λi=>i∈Fi a n m ps) h' (λi=>i∈Fi a n' m' Ip)/\LF (A.elem d sp nm l):=by
 have ZD:=w.len;have r0:=wj (h:=h) (VI hv) hl hs;obtain⟨u,hu⟩:∃u,u=Tw (Cf l):=⟨_,rfl⟩;rw[<-hu] at r0;have ZE:(Cf l).length<=1000000000:=by have:=OM (l:=l);omega
 have r00:=wg (h:=h) (y:=sp);rw[AD hsp] at r00;obtain⟨h1,r1,w1,o1,l1⟩:=qg w (by omega) ⟨{kind:=4,Cy:=d,AX:=sp,name:=nm,Ax:=Cf l},.slnil,u,hu⟩ rfl rfl;have vz:=lm.add (y:={kind:=4,Cy:=d,AX:=sp,name:=nm,Ax:=Cf l}) (by omega) ZE (by simp);have Nx:(A.add {kind:=4,Cy:=d,AX:=sp,name:=nm,Ax:=Cf l}).has (A.len+1):=Dj.2 (.inr rfl);have LU:(A.add {kind:=4,Cy:=d,AX:=sp,name:=nm,Ax:=Cf l}).nd (A.len+1)={kind:=4,Cy:=d,AX:=sp,name:=nm,Ax:=Cf l}:=by rw[HN,if_pos rfl]
 have x1:=w.Rb (p:=⟨{kind:=4,Cy:=d,AX:=sp,name:=nm,Ax:=Cf l},.slnil,u,hu⟩) rfl o1 l1;have v_:BE cx 42 [Pt a 0,.agg [I 4,I 0,.slnil,I d,I sp,.str nm,u,.str [],.str [],.str [],.bool false,I 0,I 0]] h (I (A.len+1)) h1:=r1;have r2:=H8 w1 vz Nx;have r3:=aGt w1 Nx;rw[LU] at r3;have hc:u.cells=[u]:=by rw[hu];exact AL.cells T7
 unfold Ar.elem;simp only
 by_cases hT:YJ {kind:=4,Cy:=d,AX:=sp,name:=nm,Ax:=Cf l}
 .rw[if_pos hT];rw[AD hT] at r3;have YM:(A.add {kind:=4,Cy:=d,AX:=sp,name:=nm,Ax:=Cf l}).has d:=Dj.2 (.inl hd.1);obtain⟨h2,n2,m2,jB,r4,w2,x2⟩:=aGy w1 vz (by rw[OL];omega) YM;have lm2:=vz.VM (x:=d) (by rw[OL];omega);have Xp:((jB.length:Nat):Int)=((A.add {kind:=4,Cy:=d,AX:=sp,name:=nm,Ax:=Cf l}).CW d).len:=w2.len;have o9:((A.add {kind:=4,Cy:=d,AX:=sp,name:=nm,Ax:=Cf l}).CW d).len<=A.len+2:=by rw[rQ,OL];split<;>omega
  obtain⟨h3,r5,w3,o3,l3⟩:=qg w2 (by omega) ⟨{kind:=2,DT:=A.len+1,Cy:=(A.add {kind:=4,Cy:=d,AX:=sp,name:=nm,Ax:=Cf l}).EV d},.slnil,.slnil,rfl⟩ rfl rfl;obtain⟨qs,hqs⟩:∃qs,qs=jB++[⟨{kind:=2,DT:=A.len+1,Cy:=(A.add {kind:=4,Cy:=d,AX:=sp,name:=nm,Ax:=Cf l}).EV d},.slnil,.slnil,rfl⟩]:=⟨_,rfl⟩;have x3:=w2.Rb (p:=⟨{kind:=2,DT:=A.len+1,Cy:=(A.add {kind:=4,Cy:=d,AX:=sp,name:=nm,Ax:=Cf l}).EV d},.slnil,.slnil,rfl⟩) rfl o3 l3;rw[<-hqs] at w3 x3;have lm3:=lm2.add (y:={kind:=2,DT:=A.len+1,Cy:=(A.add {kind:=4,Cy:=d,AX:=sp,name:=nm,Ax:=Cf l}).EV d}) (by omega) (by simp) (by simp);have r5':BE cx 42 [Pt a 0,.agg [I 2,I 0,.slnil,I ((A.add {kind:=4,Cy:=d,AX:=sp,name:=nm,Ax:=Cf l}).EV d),I 0,.str [],.slnil,.str [],.str [],.str [],.bool false,I 0,I (A.len+1)]] h2 _ h3:=r5;have Yt:=Mo (h:=d) Nx;have ql:=Dj (x:={kind:=2,DT:=A.len+1,Cy:=(A.add {kind:=4,Cy:=d,AX:=sp,name:=nm,Ax:=Cf l}).EV d}).2 (.inl Yt);have wk:(((A.add {kind:=4,Cy:=d,AX:=sp,name:=nm,Ax:=Cf l}).CW d).add {kind:=2,DT:=A.len+1,Cy:=(A.add {kind:=4,Cy:=d,AX:=sp,name:=nm,Ax:=Cf l}).EV d}).nd (A.len+1)={kind:=4,Cy:=d,AX:=sp,name:=nm,Ax:=Cf l}:=by rw[Lf Yt,sI Nx,LU]
  have r6:=H8 w3 lm3 ql;have hp:=(w3.pn ql).2.1;rw[wk] at hp;obtain⟨h4,s4,w4,i4,o4,l4⟩:=w3.wr ql (k:=11) (by decide) (v:= I (((A.add {kind:=4,Cy:=d,AX:=sp,name:=nm,Ax:=Cf l}).CW d).len+1)) rfl (p:=⟨{kind:=4,Cy:=d,AX:=sp,name:=nm,Ax:=Cf l,cont:=((A.add {kind:=4,Cy:=d,AX:=sp,name:=nm,Ax:=Cf l}).CW d).len+1},(pN qs (A.len+1)).kv,(pN qs (A.len+1)).av,by have:=(pN qs (A.len+1)).ok;rw[hp] at this;exact this⟩) (by simp only[PN.row];rw[hp];rfl) rfl (by rw[wk]);refine⟨h4,_,_,_,?_,w4,x1.trans (x2.trans (x3.trans (w3.ao w4 i4 o4 l4))),lm3.set ZE (by simp)⟩;rw[Ab,YU,jt];simp only[Az,Nat.reduceLeDiff,↓reduceIte,AI,Bi,(ag (x:=d) w lm).call,if_pos hd.1,if_pos hd.2,ne_eq,Cu,r0.call,FW,r00.call,hc,v_.call,r2.call,r3.call,r4.call,r5'.call,r6.call,s4]
 .rw[if_neg hT];rw[AA hT] at r3;refine⟨h1,_,_,_,?_,w1,x1,vz⟩;rw[Ab,YU,jt];simp only[Az,Nat.reduceLeDiff,↓reduceIte,AI,Bi,(ag (x:=d) w lm).call,if_pos hd.1,if_pos hd.2,ne_eq,Cu,r0.call,FW,r00.call,hc,v_.call,r2.call,r3.call]
end
section
variable{h h':Ae}{a n:Nat}{m:Option Nat}{ps:List PN}{A:Ar}{x:Int}{F:Nat->Prop}
theorem XK{α:Type}{p q:α->Bool}{y:α}:∀{l:List α},(∀x∈l,p x=true->q x=true)->y∈l->p y=false->q y=true->(l.filter p).length<(l.filter q).length
 |[],_,h,_,_=>by cases h
 |x::l,hi,hy,hp,hq=>by
  have le:∀{l:List α},(∀x∈l,p x=true->q x=true)->(l.filter p).length<=(l.filter q).length:=by
   intro l;induction l with
   |nil=>intro _;simp
   |cons z l ih=>
    intro hi;have:=ih λx hx=>hi x (by simp[hx]);rw[JO,JO];split;·rename_i hz;rw[if_pos (hi z (by simp) hz)];simp;exact this
    .split;·simp;omega
     .exact this
  have hl:=λx (hx:x∈l)=>hi x (by simp[hx]);rw[JO,JO];rcases AM.1 hy with rfl|hy
  .rw[if_neg (by simp[hp]),if_pos hq];have:=le hl;simp;omega
  .have ih:=XK hl hy hp hq;split;·rename_i hz;rw[if_pos (hi x (by simp) hz)];simp;exact ih
   .split;·simp;omega
    .exact ih
theorem jC{r:Int->Nat}{k y:Int}(hr:∀h,A.has h->A.up h≠0->r (A.up h)<r h)(hR:Reach A k y)(hy:A.has y):r k<=r y:=by
 induction hR with
 |refl=>exact Ac _
 |@step z h1 h2 ih=>
  by_cases hz:A.has (A.up z);·have:=ih hz;have:=hr z hy h1;omega
  .cases h2 with
   |refl=>have:=hr z hy h1;omega
   |step h3 _=>exact absurd (Vl hz) h3
open Classical in
theorem jD{e:Int}(ok:Eu A e):∃r:Int->Nat,(∀h,A.has h->A.up h≠0->r (A.up h)<r h)/\∀h,r h<=A.n.length:=by
 obtain⟨r,hr⟩:=ok.YL;refine⟨λh=>((List.range A.n.length).filter λ(i:Nat)=>decide (Reach A ((i:Int)+1) h/\(i:Int)+1≠h)).length,λh hh hu=>?_,λh=>?_⟩
 .have vq:=gY ok hh hu;have Il:=vq;unfold Ar.has at Il;have e1:(((A.up h).toNat-1:Nat):Int)+1=A.up h:=by omega
  refine XK (y:=(A.up h).toNat-1) (λi _ hi=>?_) (List.mem_range.2 (by omega)) ?_ ?_;·rw[DI] at hi⊢;refine⟨.step hu hi.1,λe=>?_⟩;have h1:=jC hr hi.1 vq;have h2:=hr h hh hu;rw[e] at h1;omega
  .rw[e1];simp
  .rw[e1,DI];exact⟨.step hu .refl,ve ok hh hu⟩
 .have:=List.length_filter_le (λ(i:Nat)=>decide (Reach A ((i:Int)+1) h/\(i:Int)+1≠h)) (List.range A.n.length);rwa [List.length_range] at this
theorem PA.cell(w:PA h a n m ps A)(hx:A.has x){k:Nat}(hk:k<13):(ps.map PN.row).flatten[0+(x.toNat-1)*13+k]?=(pN ps x).row[k]?:=by rw[BJ];exact Ke (cS ps) hk (by rw[Cp,(w.pn hx).1];rfl)
open Classical in
theorem VN(w:PA h a n m ps A){up:Int}{r:Int->Nat}{e:Int}(ok:Eu A e)(hr:∀h,A.has h->A.up h≠0->r (A.up h)<r h)(vq:up≠0):∀(fuel:Nat) (x:Int),(x=0\/(A.has x/\r x<fuel))->KB (ps.map PN.row).flatten 0 ps.length up fuel x=some (decide (Reach A up x))
 |fuel,x,hx=>by
  by_cases h0:x=0
  .subst h0;have no:¬Reach A up 0:=by
    intro hR;cases hR with
    |refl=>exact vq rfl
    |step h1 _=>exact h1 (Vl (by unfold Ar.has;omega))
   rw[AA no];cases fuel<;>rfl
  .have hx:=hx.resolve_left h0;cases fuel with
   |zero=>omega
   |succ fuel=>
    have e1:KB (ps.map PN.row).flatten 0 ps.length up (fuel+1) x=if x=up then some true else if 1<=x/\x<=ps.length then
      match Ga (ps.map PN.row).flatten 0 x 1,Ga (ps.map PN.row).flatten 0 x 12 with
      |some p,some q=>KB (ps.map PN.row).flatten 0 ps.length up fuel (if p=0 then q else p)
      |_,_=>none
     else none:=by
     rw[KB];·rfl
     .exact λh=>h0 h
    rw[e1];by_cases ur:x=up;·rw[if_pos ur,ur,AD .refl]
    .rw[if_neg ur,if_pos (by have:=hx.1;have:=w.aa;unfold Ar.has at*;omega)];have c1:Ga (ps.map PN.row).flatten 0 x 1=some (A.nd x).E8:=by unfold Ga;rw[w.cell hx.1 (by decide),<-(w.pn hx.1).2.1];rfl
     have c2:Ga (ps.map PN.row).flatten 0 x 12=some (A.nd x).DT:=by unfold Ga;rw[w.cell hx.1 (by decide),<-(w.pn hx.1).2.1];rfl
     rw[c1,c2];simp only
     have eu:(if(A.nd x).E8=0 then(A.nd x).DT else(A.nd x).E8)=A.up x:=by unfold Ar.up;by_cases h:(A.nd x).E8=0<;>simp[h]
     rw[eu];have ih:=VN w ok hr vq fuel (A.up x) (by
      by_cases hu:A.up x=0;·exact .inl hu
      .exact .inr ⟨gY ok hx.1 hu,by have:=hr x hx.1 hu;omega⟩)
     rw[ih];congr 1
     rw[D1];constructor
     .intro h1;by_cases hu:A.up x=0
      .rw[hu] at h1;cases h1 with
       |refl=>exact absurd rfl vq
       |step h3 _=>exact absurd (Vl (by unfold Ar.has;omega)) h3
      .exact .step hu h1
     .intro h1;cases h1 with
      |refl=>exact absurd rfl ur
      |step _ h2=>exact h2
open Classical in
theorem aGA{up e:Int}(w:PA h a n m ps A)(ok:Eu A e)(hu:A.has up)(hx:A.has x):BE cx 197 [Pt a 0,I up,I x] h (.bool (decide (Reach A up x))) h:=by
 obtain⟨r,hr,hrn⟩:=jD ok;have Nt:=w.aa;have hc:=VN w ok hr (up:=up) (by have:=hu.1;omega) (ps.length+1) x (.inr ⟨hx,by have:=hrn x;omega⟩);have e1:Ep (.PD Me) h [Pt a 0,I up,I x]=some (h,.bool (decide (Reach A up x))):=by simp only[Ep,Me,w.ha,w.hn];rw[if_pos (by rw[ah];omega),if_pos (by unfold Ar.has at hu hx;omega),hc];rfl
 rw[Ab,show B5 cx 197 [Pt a 0,I up,I x]=Mf [Pt a 0,I up,I x] from rfl,Mf];simp only[Az,e1]
structure Qe(h:Ae)(v:Aa)(l:List Int):Prop where
 len:Aw (.len false) [v]=some (I (l.length:Int))
 at_:∀k (hk:k<l.length),∃p,Aw (.Fm 1) [v,I (k:Int)]=some p/\Bb h none p=some (I l[k])
theorem Je.Sd{kv:Aa}{l:List Int}(hk:Je h kv l):Qe h kv l:=by
 refine⟨hk.len,λk hlt=>?_⟩;rcases hk with⟨rfl,rfl⟩|⟨id,cs,rfl,hc⟩
 .simp at hlt
 .refine⟨Pt id k,by have:=EZ (id:=id) (z:=1) (k:= .i64) hlt;rwa [Kk] at this,?_⟩;simp only[Bb,hc,Et];rw[Ad (by simpa using hlt)];simp[hlt]
theorem Dh.Sd{v:Aa}{l:List Int}(hv:Dh l v):Qe h v l:=⟨AL.Cq hv,λk hk=>⟨_,AL.Bz hv hk,rfl⟩⟩
theorem aB0{v:Aa}{l:List Int}(hv:Qe h v l)(hb:l.length<=1000000000)(x:Int):BE cx 87 [v,I x] h (I (B9 (λy=>decide (x=y)) 0 l)) h:=by
 rw[Ab,zA,t87];simp only[Az,hv.len];refine A9 (λk:Nat=>[I 0,I (k:Int)]) (λk h1=>k<=l.length/\B9 (λy=>decide (x=y)) 0 l=B9 (λy=>decide (x=y)) k (l.drop k)/\h1=h) (λk=>l.length-k) 0 rfl ⟨AO _,rfl,rfl⟩ ?_;rintro k h1 ⟨hk,ha,rfl⟩;rcases AT k l.length with hlt|D2
 .have i1:(k:Int)<(l.length:Int):=by omega
  obtain⟨p,e1,e2⟩:=hv.at_ k hlt;rw[AG hlt,B9] at ha;simp only[Az,Bi,i1,e1,e2,BG (show k<9223372036854775807 by omega)];refine⟨λh2=>?_,λh2=>?_⟩;·rw[ha,if_pos (by simpa using h2)]
  .rw[if_neg (by simpa using h2)] at ha;exact AF.next (k+1) rfl ⟨hlt,ha,rfl⟩ (by omega)
 .have i1:¬(k:Int)<(l.length:Int):=by omega
  rw[A3 D2,B9] at ha;simp only[Az,Bi,i1,ha]
theorem Zf{l:List Int}{x:Int}(hx:x∈l):∃k,k<l.length/\B9 (λy=>decide (x=y)) 0 l=(k:Int)/\l[k]?=some x/\l.takeWhile (λy=>decide (y≠x))=l.take k/\l.dropWhile (λy=>decide (y≠x))=l.drop k:=by
 have key:∀(l:List Int) (s:Nat),x∈l->∃k,k<l.length/\B9 (λy=>decide (x=y)) s l=((s+k:Nat):Int)/\l[k]?=some x/\l.takeWhile (λy=>decide (y≠x))=l.take k/\l.dropWhile (λy=>decide (y≠x))=l.drop k:=by
  intro l;induction l with
  |nil=>intro s h;cases h
  |cons z l ih=>
   intro s h;by_cases e:x=z;·subst e;exact⟨0,by simp,by rw[B9,if_pos (by simp)];simp,rfl,by simp,by simp⟩
   .have h2:x∈l:=(AM.1 h).resolve_left e;obtain⟨k,k1,k2,k3,k4,k5⟩:=ih (s+1) h2;have e':z≠x:=λe2=>e e2.symm;refine⟨k+1,by simp;exact k1,by rw[B9,if_neg (by simpa using e),k2];congr 1;omega,by simpa using k3,?_,?_⟩;·rw[List.takeWhile_cons,if_pos (by simpa using e'),k4];rfl
    .rw[List.dropWhile_cons,if_pos (by simpa using e'),k5];rfl
 obtain⟨k,k1,k2,k3⟩:=key l 0 hx;exact⟨k,k1,by simpa using k2,k3⟩
theorem Rc{l:List Int}{x:Int}{k:Nat}(hn:l.Nodup)(hk:l[k]?=some x):l.take k++l.drop (k+1)=l.filter λy=>decide (y≠x):=by
 obtain⟨hlt,e⟩:=Ah.1 hk;have e1:l=l.take k++x::l.drop (k+1):=by conv=>lhs;rw[<-CK k l,AG hlt,e]
 rw[e1,B7,BW] at hn;conv=>rhs;rw[e1,EA,JO,if_neg (by simp)]
 rw[List.filter_eq_self.2 (λy hy=>by simpa using λe2:y=x=>hn.2.2 y hy x (by simp) e2),List.filter_eq_self.2 (λy hy=>by simpa using λe2:y=x=>hn.2.1.1 (e2▸hy))]
theorem aB1{id l k:Nat}(hl:0<l)(hk:k<=l):Aw (.Hs 1 false false true) [.Cm id 0 l 1,I (k:Int)]=some (.Cm id 0 k 1):=by
 have e1:EK (k:Int) l=some k:=by unfold EK;rw[if_pos (by omega)];rfl
 simp[Aw,I4,DH,e1];omega
theorem aB2{id l k:Nat}(hk:k<=l):Aw (.Hs 1 false true false) [.Cm id 0 l 1,I (k:Int)]=some (if k<l then .Cm id k (l-k) 1 else .sl 1 []):=by
 have e1:EK (k:Int) l=some k:=by unfold EK;rw[if_pos (by omega)];rfl
 simp[Aw,I4,DH,e1];split<;>rfl
theorem aGB{id k:Nat}{l:List Int}{cs:List Aa}(hc:h[id]?=some (.cells (l.map (Aa.int .i64)++cs)))(hk:k<l.length)(hb:l.length<=1000000000):
  ∃Gf,BE cx 265 [.Cm id 0 l.length 1,I (k:Int),I ((k+1:Nat):Int)] h (.Cm id 0 (l.length-1) 1) (h.set id (.cells ((l.take k++l.drop (k+1)).map (Aa.int .i64)++Gf))):=by
 have Hj:=(Ah.1 hc).1;have hll:(l.take k++l.drop (k+1)).length=l.length-1:=by rw[Aq,Al,A7];omega
 obtain⟨QE,eg,hcl⟩:∃QE,Fo h 1 8 (.Cm id 0 k 1) (if k+1<l.length then .Cm id (k+1) (l.length-(k+1)) 1 else .sl 1 [])=some (h.set id (.cells ((l.take k++l.drop (k+1)).map (Aa.int .i64)++QE)),.Cm id 0 (l.length-1) 1)/\1<=QE.length:=by
  have er:Gi h 1 (if k+1<l.length then .Cm id (k+1) (l.length-(k+1)) 1 else .sl 1 [])=some ((l.drop (k+1)).map Cc):=by
   by_cases Oz:k+1<l.length;rotate_left;·rw[if_neg Oz,A3 (by omega)];rfl
   rw[if_pos Oz];have e2:=LY (l:=l.drop (k+1)) (cs:=cs) (pre:=(l.take (k+1)).map (Aa.int .i64));rw[<-AB,<-BI,CK] at e2;simp only[Ai,Al,A7] at e2;rw[Cn (by omega)] at e2;simp only[Gi,BN,hc,e2];rw[if_pos (by simp;omega)]
  by_cases aq:k+1=l.length
  .refine⟨I l[k]::cs,?_,by simp⟩;have ed:l.drop (k+1)=[]:=A3 (by omega);rw[ed] at er⊢;have e3:l.map (Aa.int .i64)++cs=(l.take k++[]).map (Aa.int .i64)++ I l[k]::cs:=by
    have:l=l.take k++[l[k]]:=by conv=>lhs;rw[<-CK k l,AG hk,ed]
    conv=>lhs;rw[this,BI,AB]
    rw[BB];rfl
   have e4:h.set id (.cells ((l.take k++[]).map (Aa.int .i64)++ I l[k]::cs))=h:=by rw[<-e3];obtain⟨Xp,e5⟩:=Ah.1 hc;rw[<-e5,Ru]
   simp only[Fo,er,DQ,BN];rw[e4,show l.length-1=k by omega]
  .obtain⟨y,l2,hd⟩:∃y l2,l.drop (k+1)=y::l2:=⟨_,_,AG (show k+1<l.length by omega)⟩;have o9:(y::l2).length=l.length-(k+1):=by rw[<-hd,A7]
   rw[hd] at er;have aGC:∀l3:List Int,(l3.map Cc).flatten=l3.map (Aa.int .i64):=by
    intro l3;induction l3 with
    |nil=>rfl
    |cons z l3 ih=>simp[Cc,ih]
   refine⟨(l.map (Aa.int .i64)++cs).drop (l.length-1),?_,by simp;omega⟩;simp only[Fo,er,Bl,hc,BN];have e6:(Cc y::l2.map Cc).length=l.length-(k+1):=by rw[<-o9];simp
   have e7:(Cc y::l2.map Cc).flatten=(y::l2).map (Aa.int .i64):=by have:=aGC (y::l2);simpa using this
   rw[e6,e7,if_pos (by simp;omega)];have e8:(l.map (Aa.int .i64)++cs).take (0+k*1)=(l.take k).map (Aa.int .i64):=by rw[BJ,Kk,CU (by simp;omega),HS]
   rw[e8,hd,show 0+(k+(l.length-(k+1)))*1=l.length-1 by omega,show k+(l.length-(k+1))=l.length-1 by omega];simp
 generalize wm:h.set id (.cells ((l.take k++l.drop (k+1)).map (Aa.int .i64)++QE))=h2 at eg;have HV:h2[id]?=some (.cells ((l.take k++l.drop (k+1)).map (Aa.int .i64)++QE)):=by rw[<-wm];exact AN Hj
 have ed:Ep (.pZ 1 true true) h2 [.Cm id 0 (l.length-1) 1,I ((l.length-1:Nat):Int),I (l.length:Int)]=some (h2,.Cm id (l.length-1) 1 1):=by
  simp only[Ep,ZO,HV];have jE:((l.take k++l.drop (k+1)).map (Aa.int .i64)++QE).length=l.length-1+QE.length:=by rw[Aq,Ai,hll]
  have e1:EK (l.length:Int) ((((l.take k++l.drop (k+1)).map (Aa.int .i64)++QE).length-0)/1)=some l.length:=by unfold EK;rw[if_pos (by rw[jE];omega)];rfl
  have e2:EK ((l.length-1:Nat):Int) l.length=some (l.length-1):=by unfold EK;rw[if_pos (by omega)];rfl
  rw[if_pos ⟨trivial,trivial,AO _⟩];simp only[DH,e1,e2,Cs,BR];rw[if_pos (by rw[jE];omega)];congr 3
  .omega
  .omega
 have ec:Ep (.clear 1 [I 0]) h2 [.Cm id (l.length-1) 1 1]=some (h.set id (.cells ((l.take k++l.drop (k+1)).map (Aa.int .i64)++(I 0::QE.drop 1))),.bool true):=by
  simp only[Ep,Ug,HV];rw[if_pos ⟨trivial,rfl,by rw[Aq,Ai,hll];omega⟩];congr 2
  rw[<-wm,List.set_set];congr 2
  have e3:(((l.take k++l.drop (k+1)).map (Aa.int .i64)++QE).take (l.length-1))=(l.take k++l.drop (k+1)).map (Aa.int .i64):=KJ (by rw[Ai,hll]);have e4:(((l.take k++l.drop (k+1)).map (Aa.int .i64)++QE).drop (l.length-1+1*1))=QE.drop 1:=by rw[show l.length-1+1*1=((l.take k++l.drop (k+1)).map (Aa.int .i64)).length+1 by rw[Ai,hll],List.drop_append];simp
  rw[e3,e4];simp
 refine⟨I 0::QE.drop 1,?_⟩;have elen:∀i n,Aw (.len false) [.Cm i 0 n 1]=some (I (n:Int)):=λ_ _=>rfl;have e3:Ep (.eD 1) h [.Cm id 0 l.length 1,I (k:Int),I ((k+1:Nat):Int),I (l.length:Int)]=some (h,.bool true):=by simp only[Ep,Uh];simp;omega
 rw[Ab,oM,aBB];simp only[Az,Bi,elen,e3,show¬(k:Int)=((k+1:Nat):Int) by omega,aB1 (id:=id) (show 0<l.length by omega) (show k<=l.length by omega),aB2 (id:=id) (show k+1<=l.length by omega),eg,ed,ec]
theorem ar:∀{n:Nat} {l:List Int},l.Nodup->(∀x∈l,1<=x/\x<=n)->l.length<=n
 |0,l,_,h=>by
  cases l with
  |nil=>simp
  |cons x l=>have:=h x (by simp);omega
 |n+1,l,hn,h=>by
  have ih:=ar (n:=n) (l:=l.filter λx=>decide (x≠(n:Int)+1)) (hn.filter _) (λx hx=>by
   have h1:=DV.1 hx;have h2:=h x h1.1;have h3:x≠(n:Int)+1:=by simpa using h1.2
   omega)
  have key:∀{l:List Int},l.Nodup->l.length<=(l.filter λx=>decide (x≠(n:Int)+1)).length+1:=by
   intro l hl;induction l with
   |nil=>simp
   |cons x l ih=>
    rw[BW] at hl;rw[JO];by_cases e:x=(n:Int)+1;·rw[if_neg (by simp[e]),List.filter_eq_self.2 (λy hy=>by simpa using λe2:y=(n:Int)+1=>hl.1 (by rw[e,<-e2];exact hy))];simp
    .rw[if_pos (by simpa using e)];have:=ih hl.2;simp only[Bc];omega
  have:=key hn;omega
theorem VO{e:Int}(ok:Eu A e)(x:Int):(A.nd x).AZ.length<=A.n.length:=by
 by_cases hx:A.has x;·refine ar (ok.Q3 x hx).rN λk hk=>?_;exact(ok.LA x hx k hk).1
 .rw[GM hx];exact AO _
theorem LF.AZ{e:Int}(lm:LF A)(ok:Eu A e)(x:Int):(A.nd x).AZ.length<=1000000000:=Bt (VO ok x) lm.n
theorem LF.aLr{l:List Int}(lm:LF A):LF (A.set x {A.nd x with AZ:=l}):=lm.set (lm.at_ x) (lm.data x)
theorem LF.aLs{p:Int}(lm:LF A):LF (A.set x {A.nd x with E8:=p}):=lm.set (lm.at_ x) (lm.data x)
theorem LF.cut(lm:LF A):LF (A.cut x):=by
 unfold Ar.cut;simp only;split;·exact lm
 .exact LF.aLs lm.aLr
theorem aGD{e:Int}(w:PA h a n m ps A)(lm:LF A)(ok:Eu A e)(hx:A.has x):
  ∃h' Ip,BE cx 198 [Pt a 0,I x] h (.tuple []) h'/\PA h' a n m Ip (A.cut x)/\Df h (λi=>i∈Fi a n m ps) h' (λi=>i∈Fi a n m Ip):=by
 have hb:=lm.AZ ok;by_cases hp:(A.nd x).E8=0
 .have hA:A.cut x=A:=by unfold Ar.cut;simp only;rw[if_pos hp]
  refine⟨h,ps,?_,by rw[hA];exact w,.refl⟩;rw[Ab,Y5,mb];simp only[Az,Bi,(H8 w lm hx).call,w.f1 hx,hp]
 .obtain⟨hq,hk⟩:=ok.E8 x hx hp;generalize hqq:(A.nd x).E8=q at*;have hne:q≠x:=by rw[<-hqq];exact gZ ok hx (by rw[hqq];exact hp)
  obtain⟨k,k1,k2,k3,_,_⟩:=Zf hk;have LA:=w.LA hq;have r1:=aB0 LA.Sd (hb q) x;rw[k2] at r1;rcases pA:LA with⟨_,e0⟩|⟨id,cs,ekv,hc⟩
  .rw[e0] at k1;simp at k1
  clear pA;rw[ekv] at r1;obtain⟨Gf,r2⟩:=aGB hc k1 (hb q);rw[Rc (ok.Q3 q hq).rN k3] at r2;have Xe:(A.nd q).AZ.length-1=((A.nd q).AZ.filter λy=>decide (y≠x)).length:=by rw[<-Rc (ok.Q3 q hq).rN k3,Aq,Al,A7];omega
  rw[Xe] at r2;have qS:=(Ah.1 hc).1;have hpq:=(w.pn hq).2.1;generalize zb:h.set id (.cells (((A.nd q).AZ.filter λy=>decide (y≠x)).map (Aa.int .i64)++Gf))=h1 at r2;have aGE:id∈Fi a n m ps:=Kd (w.pn hq).2.2 (by rw[ekv];rfl);have aLt:id≠n:=by intro e1;have:=w.nd;unfold Fi at this;simp only[BW,AM,not_or] at this;exact this.2.1 (e1▸Ao.2 (.inr (Ci.2 ⟨_,(w.pn hq).2.2,by rw[ekv];rfl⟩)))
  have aQD:id≠a:=by intro e1;have:=w.nd;unfold Fi at this;simp only[BW,AM,not_or] at this;exact this.1.2 (e1▸Ao.2 (.inr (Ci.2 ⟨_,(w.pn hq).2.2,by rw[ekv];rfl⟩)))
  obtain⟨p1,Px⟩:∃p1:PN,p1=⟨{A.nd q with AZ:=(A.nd q).AZ.filter λy=>decide (y≠x)},.Cm id 0 ((A.nd q).AZ.filter λy=>decide (y≠x)).length 1,(pN ps q).av,w.ae hq⟩:=⟨_,rfl⟩;have aGF:p1.row=(pN ps q).row.set 2 (.Cm id 0 ((A.nd q).AZ.filter λy=>decide (y≠x)).length 1):=by rw[Px];simp only[PN.row];rw[hpq];rfl
  have h1n:h1[n]?=h[n]?:=by rw[<-zb,Aj aLt]
  have s1:=w.sto hq (k:=2) (by decide) (v:= .Cm id 0 ((A.nd q).AZ.filter λy=>decide (y≠x)).length 1) rfl aGF h1n;have aGG:GK p1.kv=GK (pN ps q).kv:=by rw[Px,ekv];rfl
  have w1:=w.tQ hq (p:=p1) (h1:=h1) (λi _ hi=>by rw[<-zb,Aj];intro e1;exact hi (by rw[ekv,e1];rfl)) (by rw[Px];exact .inr ⟨id,Gf,rfl,by rw[<-zb];exact AN qS⟩) (.inl aGG)
  have wq:=o7 w hq aGG;generalize wm:h1.set n (.cells ((ps.set (q.toNat-1) p1).map PN.row).flatten)=h2 at s1 w1;generalize aQE:ps.set (q.toNat-1) p1=ZI at w1 wq;have hA1:p1.x={A.nd q with AZ:=(A.nd q).AZ.filter λy=>decide (y≠x)}:=by rw[Px]
  rw[hA1] at w1;have Nx:(A.set q {A.nd q with AZ:=(A.nd q).AZ.filter λy=>decide (y≠x)}).has x:=Hz.2 hx;have WQ:=(w1.pn Nx).2.1;have LU:(A.set q {A.nd q with AZ:=(A.nd q).AZ.filter λy=>decide (y≠x)}).nd x=A.nd x:=by rw[IJ,if_neg (λh=>hne h.1.symm)]
  obtain⟨h3,s3,w3,i3,o3,l3⟩:=w1.wr Nx (k:=1) (by decide) (v:= I 0) rfl (p:=⟨{A.nd x with E8:=0},(pN ZI x).kv,(pN ZI x).av,by have:=(pN ZI x).ok;rw[WQ,LU] at this;exact this⟩) (by simp only[PN.row];rw[WQ,LU];rfl) rfl (Ce Eh.AZ LU).symm;have hA:A.cut x=(A.set q {A.nd q with AZ:=(A.nd q).AZ.filter λy=>decide (y≠x)}).set x {A.nd x with E8:=0}:=by unfold Ar.cut;simp only;rw[hqq,if_neg hp,LU]
  refine⟨h3,_,?_,by rw[hA];exact w3,?_⟩;·have inc:=BG (show k<9223372036854775807 by have:=hb q;omega);rw[Ab,Y5,mb];simp only[Az,Bi,(H8 w lm hx).call,(H8 w lm hq).call,w.f1 hx,hqq,hp,w.f2 hq,ekv,r1.call,inc,r2.call,s1,s3]
  .have aQF:h2.length=h.length:=by rw[<-wm,Bj,<-zb,Bj]
   refine⟨by omega,λi hi hin=>?_,λi hi=> .inl (by rw[i3,wq] at hi;exact hi)⟩;have n1:i≠n:=λe1=>hin (e1▸by simp[Fi]);have n2:i≠id:=λe1=>hin (e1▸aGE);rw[o3 i n1,<-wm,Aj (DR n1),<-zb,Aj (DR n2)]
end
end Go.Am
end
