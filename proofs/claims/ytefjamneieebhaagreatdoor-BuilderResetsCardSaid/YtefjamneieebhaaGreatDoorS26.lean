/- Lemmas -/
import Derived.Test.YtefjamneieebhaaGreatDoorS25
import Derived.Test.YtefjamneieebhaaGreatDoorS20
set_option linter.unusedVariables false
set_option linter.unusedSimpArgs false
section
namespace Go.Am
open Go
set_option maxRecDepth 100000
section
section
variable{e:B3}{d:Aa}
end
section
variable{h:Ad}{v:Aa}{l:List B3}{id o:Nat}
theorem f99(hc:At h id o v)(hv:CZ l v)(hb:l.length<=1000000000):BI cx 149 [Pt id o] h (I (since l)) h:=by
 have hv:AM 3 (l.map B3.row) v:=hv;rw[Ab,m6,aAU];simp only[AB,hc.load,Bn,hv.Cp];refine Bb (λn:Nat=>[I (n:Int)]) (λn h1=>n<=l.length/\since l=since (l.take n)/\h1=h) (λn=>n) l.length rfl ⟨Ac _,by rw[Bu],rfl⟩ ?_;rintro n h1 ⟨hn,ha,rfl⟩;cases n with
 |zero=>simp only[AB,show¬(0:Int)<((0:Nat):Int) by omega,An,Ak,Ag,ha,rU];rfl
 |succ n=>rw[Vo hn] at ha;simp only[AB,show(0:Int)<((n+1:Nat):Int) by omega,Aq,Ak,Ag,hc.load,Bn,Hl (show 0<n+1 by omega) (show n+1<9223372036854775807 by omega),GF,hv.Bz (show n<l.length from hn),B3.uv];refine⟨λh0=>AF.next n rfl ⟨by omega,by rw[ha,if_neg h0],rfl⟩ (by omega),λh0=>?_⟩;rw[if_pos (by simpa using h0)] at ha;rw[ha];rfl
theorem qb(hv:CZ l v)(hb:l.length<=1000000000):BI cx 200 [v] h (I (since l)) h:=by
 have hv:AM 3 (l.map B3.row) v:=hv;rw[Ab,nj,aFn];refine Bb (λn:Nat=>[I (since (l.take n)),I (n:Int)]) (λn h1=>n<=l.length/\h1=h) (λn=>l.length-n) 0 rfl ⟨AR _,rfl⟩ ?_;rintro n h1 ⟨hn,rfl⟩;rcases AT n l.length with hlt|D1
 .have i1:(n:Int)<(l.length:Int):=by omega
  have e1:=Vo hlt;simp only[AB,hv.Cp,i1,Aq,Ak,Ag,hv.Bz hlt,B3.uv,BF (show n<9223372036854775807 by omega)];refine⟨λh0=>?_,λh0=>?_⟩;·rw[if_pos h0] at e1;exact AF.next (n+1) (by rw[e1];rfl) ⟨hlt,rfl⟩ (by omega)
  .rw[if_neg h0] at e1;exact AF.next (n+1) (by rw[e1]) ⟨hlt,rfl⟩ (by omega)
 .have i1:¬(n:Int)<(l.length:Int):=by omega
  simp only[AB,hv.Cp,i1,An,Ak,Ag,Ay D1]
theorem aLb(hc:At h id o v)(hv:CZ l v)(hb:l.length<=1000000000)(name:Ap):BI cx 110 [Pt id o,.str name] h (I (Ms name l)) h:=by
 have hv:AM 3 (l.map B3.row) v:=hv;rw[Ab,mJ,aAE];simp only[AB,I4,hc.load,Bn,hv.Cp,CJ (show -9223372036854775808<=(l.length:Int)-1 by omega) (show(l.length:Int)-1<9223372036854775808 by omega)];refine Bb (λn:Nat=>[I 0,I ((n:Int)-1)]) (λn h1=>n<=l.length/\Ms name l=Ms name (l.take n)/\h1=h) (λn=>n) l.length rfl ⟨Ac _,by rw[Bu],rfl⟩ ?_;rintro n h1 ⟨hn,ha,rfl⟩;cases n with
 |zero=>
  have i1:¬(0:Int)<=((0:Nat):Int)-1:=by omega
  rw[ha];simp only[AB,i1,An,Ak,Ag,rV]
 |succ n=>
  have i2:((n+1:Nat):Int)-1=(n:Int):=by omega
  rw[P9 hn] at ha;simp only[AB,i2,show(0:Int)<=(n:Int) by omega,Aq,Ak,Ag,hc.load,Bn,hv.Bz (show n<l.length from hn),B3.uv,B3.bW,CJ (show -9223372036854775808<=(n:Int)-1 by omega) (show(n:Int)-1<9223372036854775808 by omega)];refine⟨λh0=>⟨λh1=>?_,λh1=>?_⟩,λh0=>?_⟩;·rw[ha,if_neg h0,if_pos h1]
  .exact AF.next n rfl ⟨by omega,by rw[ha,if_neg h0,if_neg h1],rfl⟩ (by omega)
  .rw[ha,if_pos (by simpa using h0)]
theorem aLc(hv:CZ l v)(hb:l.length<=1000000000)(name:Ap):BI cx 124 [v,.str name] h (I (Ms name l)) h:=by
 have Du:AM 3 (l.map B3.row) v:=hv;obtain⟨s,es,IQ,hs2,zw⟩:=IJ l;have r1:=qb (h:=h) hv hb;rw[es] at r1;rw[Ab,kh,aES];simp only[r1.call];refine Bb (λn:Nat=>[I (Ms name (l.take n)),I (n:Int)]) (λn h1=>s<=n/\n<=l.length/\h1=h) (λn=>l.length-n) s (by rw[cD es]) ⟨Ac _,IQ,rfl⟩ ?_;rintro n h1 ⟨hsn,hn,rfl⟩;rcases AT n l.length with hlt|D1
 .have i1:(n:Int)<(l.length:Int):=by omega
  have e1:=P9 (name:=name) hlt;rw[if_neg (hs2 n hlt hsn)] at e1;simp only[AB,Du.Cp,i1,Aq,Ak,Ag,Du.Bz hlt,B3.bW,BF (show n<9223372036854775807 by omega)];refine⟨λh0=>?_,λh0=>?_⟩;·rw[if_pos h0] at e1;exact AF.next (n+1) (by rw[e1]) ⟨by omega,hlt,rfl⟩ (by omega)
  .rw[if_neg h0] at e1;exact AF.next (n+1) (by rw[e1]) ⟨by omega,hlt,rfl⟩ (by omega)
 .have i1:¬(n:Int)<(l.length:Int):=by omega
  simp only[AB,Du.Cp,i1,An,Ak,Ag,Ay D1]
theorem f41(hc:At h id o v)(hv:CZ l v)(hb:l.length<=1000000000)(node:Int):BI cx 37 [Pt id o,I node] h (I (Gz node l)) h:=by
 have hv:AM 3 (l.map B3.row) v:=hv;rw[Ab,zA,t37];simp only[AB,I4,hc.load,Bn,hv.Cp,CJ (show -9223372036854775808<=(l.length:Int)-1 by omega) (show(l.length:Int)-1<9223372036854775808 by omega)];refine⟨λh0=>by rw[Gz,if_pos h0],λh0=>?_⟩;rw[Gz,if_neg h0];refine Bb (λn:Nat=>[I 0,I ((n:Int)-1)]) (λn h1=>n<=l.length/\AJ (Oq node) l=AJ (Oq node) (l.take n)/\h1=h) (λn=>n) l.length rfl ⟨Ac _,by rw[Bu],rfl⟩ ?_;rintro n h1 ⟨hn,ha,rfl⟩;cases n with
 |zero=>
  have i1:¬(0:Int)<=((0:Nat):Int)-1:=by omega
  rw[ha];simp only[AB,i1,An,Ak,Ag,IY]
 |succ n=>
  have i2:((n+1:Nat):Int)-1=(n:Int):=by omega
  rw[F8 hn] at ha;simp only[AB,i2,show(0:Int)<=(n:Int) by omega,Aq,Ak,Ag,hc.load,Bn,hv.Bz (show n<l.length from hn),B3.uv,CJ (show -9223372036854775808<=(n:Int)-1 by omega) (show(n:Int)-1<9223372036854775808 by omega)];refine⟨λh1=>?_,λh1=>?_⟩;·rw[ha,if_pos (by simpa[Oq] using h1)]
  .exact AF.next n rfl ⟨by omega,by rw[ha,if_neg (by simpa[Oq] using h1)],rfl⟩ (by omega)
theorem aLe(hv:CZ l v)(hb:l.length<=1000000000)(node:Int):BI cx 41 [v,I node] h (I (Gz node l)) h:=by
 have Du:AM 3 (l.map B3.row) v:=hv;rw[Ab,aAf,t41];refine Bb (λn:Nat=>[I (Gz node (l.take n)),I (n:Int)]) (λn h1=>n<=l.length/\h1=h) (λn=>l.length-n) 0 (by simp[Gz,IY]) ⟨AR _,rfl⟩ ?_;rintro n h1 ⟨hn,rfl⟩;rcases AT n l.length with hlt|D1
 .have i1:(n:Int)<(l.length:Int):=by omega
  have e1:Gz node (l.take (n+1))=if node=0 then -1 else if l[n].c.node=node then(n:Int) else AJ (Oq node) (l.take n):=by unfold Gz;rw[F8 hlt];simp[Oq]
  simp only[AB,Du.Cp,i1,Aq,Ak,Ag,Du.Bz hlt,B3.uv,BF (show n<9223372036854775807 by omega)];refine⟨λh0=>⟨λh1=>?_,λh1=>?_⟩,λh0=>?_⟩;·exact AF.next (n+1) (by rw[e1,if_neg h0,if_pos h1]) ⟨hlt,rfl⟩ (by omega)
  .exact AF.next (n+1) (by rw[e1,if_neg h0,if_neg h1,Gz,if_neg h0]) ⟨hlt,rfl⟩ (by omega)
  .have h0:node=0:=by simpa using h0
   exact AF.next (n+1) (by rw[e1,if_pos h0,Gz,if_pos h0]) ⟨hlt,rfl⟩ (by omega)
 .have i1:¬(n:Int)<(l.length:Int):=by omega
  simp only[AB,Du.Cp,i1,An,Ak,Ag,Ay D1]
end
section
variable{h:Ad}{v:Aa}{l:List AU}
theorem f283(hv:Bw l v)(hb:l.length<=1000000000)(x:AU):BI cx 291 [v,.agg x.row] h (.bool (decide (x∈l))) h:=by
 have hv:AM 3 (l.map AU.row) v:=hv;rw[Ab,pq,aFO];simp only[AB,AU.Co,AU.g0,AU.g1,AU.g2,AU.NJ];refine Bb (λn:Nat=>[.bool false,I (n:Int)]) (λn h1=>n<=l.length/\x∉l.take n/\h1=h) (λn=>l.length-n) 0 rfl ⟨AR _,by simp,rfl⟩ ?_;rintro n h1 ⟨hn,ha,rfl⟩;rcases AT n l.length with hlt|D1
 .have i1:(n:Int)<(l.length:Int):=by omega
  simp only[AB,hv.Cp,i1,Aq,Ak,Ag,hv.Bz hlt,AU.Co,AU.Gx,Ac,cA,Bool.bne_false,BF (show n<9223372036854775807 by omega)];refine⟨λh0=>?_,λh0=>?_⟩
  .have:x∈l:=by rw[<-h0];exact AI hlt
   simp[this]
  .refine AF.next (n+1) rfl ⟨hlt,?_,rfl⟩ (by omega);rw[Av hlt,Ao,not_or];exact⟨ha,by simpa using λe=>h0 e.symm⟩
 .have i1:¬(n:Int)<(l.length:Int):=by omega
  rw[Ay D1] at ha;simp only[AB,hv.Cp,i1,An,Ak,Ag,AA ha]
theorem aLf(hv:Bw l v)(hb:l.length<=1000000000)(x:AU):BI cx 275 [v,.agg x.row] h (I (B9 (λa=>decide (x=a)) 0 l)) h:=by
 have hv:AM 3 (l.map AU.row) v:=hv;rw[Ab,oY,aBK];simp only[AB,hv.Cp,AU.Co,AU.g0,AU.g1,AU.g2,AU.NJ];refine Bb (λn:Nat=>[I 0,I (n:Int)]) (λn h1=>n<=l.length/\B9 (λa=>decide (x=a)) 0 l=B9 (λa=>decide (x=a)) n (l.drop n)/\h1=h) (λn=>l.length-n) 0 rfl ⟨AR _,rfl,rfl⟩ ?_;rintro n h1 ⟨hn,ha,rfl⟩;rcases AT n l.length with hlt|D1
 .have i1:(n:Int)<(l.length:Int):=by omega
  rw[AG hlt,B9] at ha;simp only[AB,i1,Aq,Ak,Ag,hv.Bz hlt,AU.Co,AU.Gx,Ac,cA,Bool.bne_false,BF (show n<9223372036854775807 by omega)];refine⟨λh0=>?_,λh0=>?_⟩;·rw[ha,if_pos (by simpa using h0)]
  .exact AF.next (n+1) rfl ⟨hlt,by rw[ha,if_neg (by simpa using h0)],rfl⟩ (by omega)
 .have i1:¬(n:Int)<(l.length:Int):=by omega
  rw[A3 D1,B9] at ha;simp only[AB,i1,An,Ak,Ag,ha]
theorem f192(hv:Bw l v)(hb:l.length<=1000000000)(x:AU):BI cx 230 [v,.agg x.row] h (.bool (decide (x∈l))) h:=by
 rw[Ab,oH,aBt];simp only[AB,AU.Co,AU.g0,AU.g1,AU.g2,AU.NJ,(aLf hv hb x).call];rcases GN (p:=λa=>decide (x=a)) (l:=l) (k:=0) with⟨h1,h2⟩|⟨n,a,h1,h2,h3⟩
 .rw[h1];have:x∉l:=λhm=>by have:=ZE.1 h2 x hm;simp at this
  simp[this]
 .have hm:=CD h2;have he:x=a:=by simpa using List.find?_some h3
  have hx:x∈l:=by rw[he];exact hm
  rw[h1];simp[hx]
def cZ(F:Aa)(h:Ad)(q:AU->Bool):Prop:=∃f caps,F= .func (.func f) [] caps/\f<=99999/\∀a:AU,BI cx f (.agg a.row::caps) h (.bool (q a)) h
theorem aGa{F:Aa}{q:AU->Bool}(hv:Bw l v)(hb:l.length<=1000000000)(hF:cZ F h q):BI cx 225 [v,F] h (I (B9 q 0 l)) h:=by
 have hv:AM 3 (l.map AU.row) v:=hv;obtain⟨f,caps,rfl,hf,hr⟩:=hF;rw[Ab,T8,zZ];simp only[AB,hv.Cp];refine Bb (λn:Nat=>[I 0,I (n:Int)]) (λn h1=>n<=l.length/\B9 q 0 l=B9 q n (l.drop n)/\h1=h) (λn=>l.length-n) 0 rfl ⟨AR _,rfl,rfl⟩ ?_;rintro n h1 ⟨ax,ha,rfl⟩;rcases AT n l.length with hlt|D1
 .have i1:(n:Int)<(l.length:Int):=by omega
  rw[AG hlt,B9] at ha;simp only[AB,↓reduceIte,Dt,hf,i1,Aq,Ak,Ag,hv.Bz hlt,AU.Co,AU.Gx,Ac,(hr l[n]).call];rw[Cu];refine⟨λhe=>?_,λhe=>?_⟩;·rw[ha,if_pos he]
  .rw[if_neg (by simp[he])] at ha;simp only[AB,BF (show n<9223372036854775807 by omega)];exact AF.next (n+1) rfl ⟨hlt,ha,rfl⟩ (by omega)
 .have i1:¬(n:Int)<(l.length:Int):=by omega
  rw[A3 D1,B9] at ha;simp only[AB,↓reduceIte,Dt,hf,i1,An,Ak,Ag,ha]
theorem aGb{F:Aa}{q:AU->Bool}(hv:Bw l v)(hb:l.length<=1000000000)(hF:cZ F h q):BI cx 174 [v,F] h (.bool (l.any q)) h:=by
 rw[Ab,Zb,mf];simp only[AB,(aGa hv hb hF).call];have:l.any q=(l.find? q).isSome:=by rw[Bool.eq_iff_iff,List.find?_isSome,List.any_eq_true]
 rw[this];rcases GN (p:=q) (l:=l) (k:=0) with⟨h1,h2⟩|⟨n,a,h1,h2,h3⟩
 .rw[h1,h2];simp
 .rw[h1,h3];simp
theorem f191(hv:Bw l v)(hb:l.length<=1000000000)(x:AU):BI cx 229 [.agg x.row,.CA [v]] h (.bool (!decide (x∈l))) h:=by rw[Ab,oG,aBs];simp only[AB,AU.Co,AU.g0,AU.g1,AU.g2,AU.NJ,(f192 hv hb x).call]
theorem aGc{l2:List AU}{w:Aa}(hv:Bw l v)(hb:l.length<=1000000000)(hw:Bw l2 w)(MJ:l2.length<=1000000000):BI cx 228 [v,w] h (.bool (decide (∀x∈l,x∈l2))) h:=by
 have hF:cZ (.func (.func 229) [] [.CA [w]]) h λx=> !decide (x∈l2):=⟨229,_,rfl,by decide,λa=>f191 hw MJ a⟩;have e:(!l.any λx=> !decide (x∈l2))=decide (∀x∈l,x∈l2):=by rw[Bool.eq_iff_iff];simp
 rw[Ab,oF,aBr,<-e];simp only[AB,AM.cells hw,(aGb hv hb hF).call]
theorem aLg{a b:B3}(ha:WQ a)(hb:WQ b):BI cx 150 [.agg a.row,.agg b.row] h (.bool (FL a.c b.c)) h:=by
 have r1:=aGc (h:=h) a.ok ha b.ok hb;have r2:=aGc (h:=h) b.ok hb a.ok ha;rw[Ab,m7,aAV];simp only[AB,Nat.reduceLeDiff,↓reduceIte,Dt,BC,B3.Co,B3.g1,B3.g2,B3.jc,r1.call,r2.call];refine⟨λh1=>⟨λh2=>⟨λh3=>?_,λh3=>?_⟩,λh2=>?_⟩,λh1=>?_⟩
 .have Xq:a.c.Ax.length=b.c.Ax.length:=by omega
  simp only[FL,h1,Xq,NO];congr 3
  rw[eq_iff_iff];exact⟨λh=>⟨h3,h⟩,λh=>h.2⟩
 .simp[FL,h3]
 .have Xq:¬a.c.Ax.length=b.c.Ax.length:=by omega
  simp[FL,Xq]
 .simp[FL,h1]
theorem f241{a b:B3}(ha:WQ a)(hb:WQ b):BI cx 262 [.agg a.row,.agg b.row] h (.bool (FL a.c b.c)) h:=by
 have va:AM 3 (a.c.Ax.map AU.row) a.v:=a.ok;have vb:AM 3 (b.c.Ax.map AU.row) b.v:=b.ok;unfold WQ at ha hb;rw[Ab,ou,aFD];simp only[AB,B3.Co,B3.g1,B3.g2,B3.jc];refine⟨λh1=>?_,λh1=>⟨λh2=>?_,λh2=>?_⟩⟩;·simp[FL,h1]
 .have Xq:¬a.c.Ax.length=b.c.Ax.length:=by omega
  simp[FL,Xq]
 have h1:a.c.name=b.c.name:=by simpa using h1
 have h2:a.c.Ax.length=b.c.Ax.length:=by omega
 refine Bb (λn:Nat=>[.bool false,I (n:Int)]) (λn h1=>n<=a.c.Ax.length/\(∀x∈a.c.Ax.take n,x∈b.c.Ax)/\(∀x∈b.c.Ax.take n,x∈a.c.Ax)/\h1=h) (λn=>a.c.Ax.length-n) 0 rfl ⟨AR _,by simp,by simp,rfl⟩ ?_;rintro n h1 ⟨hn,WG,NH,rfl⟩;rcases AT n a.c.Ax.length with hlt|D1
 .have i1:(n:Int)<(a.c.Ax.length:Int):=by omega
  have aB2:n<b.c.Ax.length:=by omega
  have m1:=AI hlt;have m2:=AI aB2;simp only[AB,B3.jc,i1,Aq,Ak,Ag,va.Bz hlt,vb.Bz aB2,AU.Co,AU.Gx,Ac,(f283 b.ok hb _).call,(f283 a.ok ha _).call,BF (show n<9223372036854775807 by omega)];rw[Cu,Cu];refine⟨λh3=>?_,λh3=>⟨λh4=>?_,λh4=>?_⟩⟩
  .have h3:a.c.Ax[n]∉b.c.Ax:=by simpa using h3
   have:FL a.c b.c=false:=by simp only[FL,decide_eq_false_iff_not];exact λh=>h3 (h.2.2.1 _ m1)
   rw[this]
  .have h4:b.c.Ax[n]∉a.c.Ax:=by simpa using h4
   have:FL a.c b.c=false:=by simp only[FL,decide_eq_false_iff_not];exact λh=>h4 (h.2.2.2 _ m2)
   rw[this]
  .have h3:a.c.Ax[n]∈b.c.Ax:=by simpa using h3
   have h4:b.c.Ax[n]∈a.c.Ax:=by simpa using h4
   refine AF.next (n+1) rfl ⟨hlt,?_,?_,rfl⟩ (by omega)
   .rw[Av hlt];intro x hx;rcases Ao.1 hx with hx|hx
    .exact WG x hx
    .rw[Fi.1 hx];exact h3
   .rw[Av aB2];intro x hx;rcases Ao.1 hx with hx|hx
    .exact NH x hx
    .rw[Fi.1 hx];exact h4
 .have i1:¬(n:Int)<(a.c.Ax.length:Int):=by omega
  rw[Ay D1] at WG;rw[Ay (by omega)] at NH;have:FL a.c b.c=true:=by simp only[FL,DJ];exact⟨by assumption,h2,WG,NH⟩
  rw[this];simp only[AB,B3.jc,i1,An,Ak,Ag]
end
end
section
theorem By{Q:Post}{h:Ad}{a:Aa}{k:IT}:W cx (.same a a k) Q h↔W cx k Q h:=by refine⟨λhw=>?_,xu (Aa.Q3 a)⟩;obtain⟨m,x',Hi,h',hr,q⟩:=hw.succ;simp only[IT.step,Aa.Q3,BK] at hr;exact CL ⟨m,x',Hi,h',hr,q⟩
section
variable{h:Ad}{v:Aa}{l:List B3}{id o:Nat}
theorem f45{l:List AU}(hv:Bw l v)(hb:l.length<=1000000000):∃u,BI cx 63 [v] h u h/\Bw l u:=by
 have hv:AM 3 (l.map AU.row) v:=hv;rcases hv with rfl|⟨rfl,hn⟩
 .refine⟨.sl 3 (l.map AU.row),?_,.mk⟩;have e1:Aw (.GV false .sl) [.sl 3 (l.map AU.row),.slnil]=some (.bool false):=rfl;have e2:Aw (.Bx 3) []=some (.sl 3 []):=rfl;have e3:Pg h 3 40 (.sl 3 []) (.sl 3 (l.map AU.row))=some (.sl 3 (l.map AU.row)):=by
   simp only[Pg,Ge,BK,Ct];cases l with
   |nil=>rfl
   |cons a l=>have:(l.length+1)*40<=AS:=PC (by simp at hb;omega);simp[DN,this]
  rw[Ab,jB,t63];simp only[AB,e1,e2,e3]
 .refine⟨.slnil,?_,?_⟩;·have e1:Aw (.GV false .sl) [.slnil,.slnil]=some (.bool true):=rfl;rw[Ab,jB,t63];simp only[AB,e1]
  .exact .inr ⟨rfl,hn⟩
theorem ay{e:B3}(he:WQ e):∃e':B3,e'.c=e.c/\BI cx 153 [.agg e.row] h (.agg e'.row) h:=by obtain⟨u,r,hu⟩:=f45 (h:=h) e.ok he;refine⟨⟨e.c,u,hu⟩,rfl,?_⟩;rw[Ab,nA,aAY];simp only[AB,B3.Co,B3.g0,B3.g1,B3.g2,r.call,AM.cells hu];rfl
theorem aLh{e:B3}(he:WQ e):∃e':B3,e'.c=e.c/\BI cx 199 [.agg e.row] h (.agg e'.row) h:=by obtain⟨u,r,hu⟩:=AM.Gj (f:=AU.row) e.ok (b:=40) (PC (by unfold WQ at he;omega));refine⟨⟨e.c,u,hu⟩,rfl,?_⟩;rw[Ab,ni,aFm];simp only[AB,B3.Co,B3.g0,B3.g1,B3.g2,r,AM.cells hu];rfl
theorem aLi(hv:CZ l v){k:Nat}(hk:k<l.length)(hb:l.length<=1000000000):∃u,BI cx 151 [v,I (k:Int)] h u h/\CZ (A7 l k) u:=by obtain⟨u1,e1,h1⟩:=AM.K8 hv (k:= .i64) (show k<=l.length by omega);obtain⟨u2,e2,h2⟩:=AM.Gj h1 (b:=48) (Oo (by rw[Al];omega));obtain⟨u4,e4,h4⟩:=AM.QZ hv (k:= .i64) (show k+1<=l.length by omega);obtain⟨u5,e5,h5⟩:=AM.YI h2 h4 (b:=48) (Oo (by rw[Al,A8];omega));refine⟨u5,?_,h5⟩;rw[Ab,m8,aAW];simp only[AB,e1,e2,BF (show k<9223372036854775807 by omega),e4,e5]
theorem az(hv:CZ l v)(e:B3){k:Nat}(hk:k<=l.length)(hb:l.length<=1000000000):∃u,BI cx 152 [v,.agg e.row,I (k:Int)] h u h/\CZ (l.take k++e::l.drop k) u:=by obtain⟨u1,e1,h1⟩:=AM.K8 hv (k:= .i64) hk;obtain⟨u2,e2,h2⟩:=AM.Gj h1 (b:=48) (Oo (by rw[Al];omega));have e3:=AM.Jb (a:=e) h2 (b:=48) (Oo (by rw[Al];omega));obtain⟨u4,e4,h4⟩:=AM.QZ hv (k:= .i64) hk;obtain⟨u5,e5,h5⟩:=AM.YI (f:=B3.row) (l:=l.take k++[e]) .mk h4 (b:=48) (Oo (by rw[As,Al,A8,Br];omega));refine⟨u5,?_,by rw[AD] at h5;exact h5⟩;rw[Ab,m9,aAX];simp only[AB,B3.Co,B3.g0,B3.g1,B3.g2,B3.NJ,e1,e2,KO B3.Co,e3,e4,e5]
theorem aB3(hv:CZ l v)(hne:l≠[])(hb:l.length<=1000000000):BI cx 171 [v] h (.Cl h.length 0 l.length 3) (h++[.cells (l.map B3.row).flatten]):=by
 have e1:Aw (.GV false .sl) [v,.slnil]=some (.bool false):=by
  rcases hv with rfl|⟨rfl,hv⟩
  .rfl
  .exact absurd (by simpa using hv) hne
 have e2:Aw (.Bx 3) []=some (.sl 3 []):=rfl;have e3:=J8 (h:=h) (s:= .sl 3 []) (z:=3) (b:=48) (.inr rfl) hv (by simpa using hne) (by rw[Ai];exact Oo (by omega));rw[Ai] at e3;rw[Ab,T7,zY];simp only[AB,e1,e2,e3]
theorem f63(hs:R5 h id o l)(hb:l.length<=1000000000):∃u,BI cx 81 [Pt id o] h (.tuple []) (put h id o u)/\CZ (l++[YO]) u:=by obtain⟨v,hc,hv⟩:=(show R5 h id o l from hs);obtain⟨u,hr,hu⟩:=az (h:=h) hv YO (Ac l.length) hb;rw[Bu,Fm] at hu;refine⟨u,?_,hu⟩;rw[Ab,aAs,t81];simp only[AB,↓reduceIte,AK,kO,JO,hc.load,Bn,AM.Cp hv,yD,hr.call,hc.store (CZ.cells hu)]
theorem aLj(hs:R5 h id o l)(hb:l.length<=1000000000){e:B3}(he:WQ e)(i:Int):∃u e',e'.c=e.c/\BI cx 120 [Pt id o,.agg e.row,I i] h (.tuple []) (put h id o u)/\CZ (l.take (Ck i l.length)++e'::l.drop (Ck i l.length)) u:=by
 obtain⟨v,hc,hv⟩:=(show R5 h id o l from hs);obtain⟨e',Pb,r1⟩:=ay (h:=h) he;obtain⟨u,hr,hu⟩:=az (h:=h) hv e' (k:=Ck i l.length) (by unfold Ck;omega) hb;refine⟨u,e',Pb,?_,hu⟩;have e1:(if(l.length:Int)<(if i<0 then 0 else i) then(l.length:Int) else(if i<0 then 0 else i))=((Ck i l.length:Nat):Int):=by unfold Ck;split<;>split<;>omega
 rw[Ab,mR,aAM];simp only[AB,B3.Co,B3.g0,B3.g1,B3.g2,B3.NJ,kO,JO,hc.load,Bn,YF,AM.Cp hv,xS,e1,r1.call,By,hr.call,hc.store (CZ.cells hu)]
theorem f65(hs:R5 h id o l)(hb:l.length<=1000000000):∃u,BI cx 82 [Pt id o] h (I ((l.length:Int)-((Ef l:Nat):Int))) (put h id o u)/\CZ (l.take (Ef l)) u:=by
 obtain⟨v,hc,hv⟩:=(show R5 h id o l from hs);obtain⟨s,es,IQ,_⟩:=IJ l;have hcl:Ef l<=l.length:=by unfold Ef;omega
 obtain⟨u,e1,hu⟩:=AM.K8 hv (k:= .i64) hcl;refine⟨u,?_,hu⟩;have e2:(if since l-1<0 then 0 else since l-1)=((Ef l:Nat):Int):=by unfold Ef;split<;>omega
 have fD:(l.take (Ef l)).length=Ef l:=by rw[Al];omega
 have c2:At (put h id o u) id o u:=hc.put;rw[Ab,aAt,t82];simp only[AB,I4,hc.load,Bn,AM.Cp hv,(f99 hc hv hb).call,By,CJ (show -9223372036854775808<=since l-1 by omega) (show since l-1<9223372036854775808 by omega),YF,e2,e1,hc.store (AM.cells hu),c2.load,AM.Cp hu,fD,CJ (show -9223372036854775808<=(l.length:Int)-((Ef l:Nat):Int) by omega) (show(l.length:Int)-((Ef l:Nat):Int)<9223372036854775808 by omega)]
end
end
section
section
variable{e:Cc}{l:List B3}{n s:Nat}
end
section
variable{h:Ad}{v:Aa}{l:List B3}{id o:Nat}
set_option maxHeartbeats 1000000 in
theorem f30(hs:R5 h id o l)(hb:l.length<=900000000)(hl:∀x∈l,WQ x){e:B3}(he:WQ e):∃u e',e'.c=e.c/\BI cx 56 [Pt id o,.agg e.row] h (.tuple []) (put h id o u)/\CZ (Kt e.c l++[e']) u:=by
 obtain⟨v,hc,hv⟩:=(show R5 h id o l from hs);have Du:AM 3 (l.map B3.row) v:=hv;have Ht:=hs.lt;obtain⟨s,es,IQ,hs2,_⟩:=IJ l;have Ik:Ev cx 56 [Pt id o,.agg e.row] h λr h'=>r= .tuple []/\∃(e':B3) (u:Aa),e'.c=e.c/\h'=put h id o u/\CZ (Kt e.c l++[e']) u:=by
  unfold Ev;rw[zI,t56];by_cases h0:e.c.node=0;·obtain⟨e',Pb,r1⟩:=ay (h:=h) he;obtain⟨u,r2,hu⟩:=az (h:=h) hv e' (Ac l.length) (by omega);rw[Bu,Fm] at hu;simp only[AB,B3.Co,B3.g0,B3.g1,B3.g2,I4,h0,ne_eq,Aq,Ag,Ak,An,hc.load,Bn,Du.Cp];rw[<-h0,B3.NJ];simp only[AB,r1.call,By,hc.load,Bn,r2.call,hc.store (CZ.cells hu)];refine⟨_,rfl,rfl,e',u,Pb,rfl,?_⟩;rw[Kt,if_neg (λh=>h.1 h0)];exact hu
  .simp only[AB,B3.Co,B3.g0,B3.g1,B3.g2,B3.NJ,I4,h0,ne_eq,Aq,Ag,Ak,An,hc.load,Bn,Du.Cp,CJ (show -9223372036854775808<=(l.length:Int)-1 by omega) (show(l.length:Int)-1<9223372036854775808 by omega)];refine Bb (λp:Int×Nat×Nat=>[I p.1,I (p.2.1:Int),I ((p.2.2:Int)-1)])
    (λp h1=>s<=p.2.2/\p.2.2<=l.length/\p.2.1+p.2.2<=l.length/\Q4 e.c l=p.2.1+Q4 e.c (l.take p.2.2)/\(Mt e.c l=if 0<=Mt e.c (l.take p.2.2) then Mt e.c (l.take p.2.2) else if p.2.1=0 then -1 else p.1)/\(p.2.1=0\/∃k:Nat,k<l.length/\p.1=(k:Int))/\h1=h)
    (λp=>p.2.2) (0,0,l.length) rfl ⟨IQ,Ac _,by simp,by simp,by
     rw[Bu];have:∀l:List B3,-1<=iF e.c l:=by
      intro l;induction l with
      |nil=>exact HT _
      |cons x t ih=>rw[iF];split<;>(try split)<;>(try split)<;>omega
     have:=this l.reverse;simp only[BK];unfold Mt;split<;>omega,.inl rfl,rfl⟩ ?_
   rintro⟨fi,cn,n⟩ h1 ⟨a1,a2,a3,a4,a5,a6,rfl⟩;simp only at a1 a2 a3 a4 a5 a6;have r0:=f99 hc hv (by omega);rw[es] at r0;rcases AT s n with hlt|D1
   .obtain⟨n,rfl⟩:∃m,n=m+1:=⟨n-1,by omega⟩;have i2:((n+1:Nat):Int)-1=(n:Int):=by omega
    have hn:n<l.length:=a2;have hnz:=hs2 n hn (by omega);rw[R6 hn,if_neg hnz] at a4;rw[R7 hn,if_neg hnz] at a5;have r1:=aLg (h:=h1) (hl _ (AI hn)) he;simp only[AB,i2,r0.call,show(s:Int)<=(n:Int) by omega,Aq,Ag,Ak,hc.load,Bn,Du.Bz hn,B3.Co,B3.Gx,Ac,r1.call,BF (show cn<9223372036854775807 by omega),CJ (show -9223372036854775808<=(n:Int)-1 by omega) (show(n:Int)-1<9223372036854775808 by omega)];rw[Cu];refine⟨λh2=>?_,λh2=>?_⟩
    .rw[if_pos h2] at a4 a5;refine AF.next ((n:Int),cn+1,n) rfl ⟨by simp only;omega,by simp only;omega,by simp only;omega,by simp only;omega,?_,.inr ⟨n,hn,rfl⟩,rfl⟩ (by simp only;omega);simp only
     rw[a5];by_cases hf:0<=Mt e.c (l.take n);·simp[hf]
     .simp[hf,show(0:Int)<=(n:Int) by omega]
    .rw[if_neg (by simp[h2])] at a4;rw[if_neg (show¬FL l[n].c e.c=true by simp[h2])] at a5;refine AF.next (fi,cn,n) rfl ⟨by simp only;omega,by simp only;omega,by simp only;omega,by simp only;omega,?_,a6,rfl⟩ (by simp only;omega);simp only
     rw[a5];by_cases hf:0<=Mt e.c (l.take n);·simp[hf]
     .simp[hf]
   .obtain rfl:n=s:=by omega
    obtain⟨b1,b2⟩:=Vq (e:=e.c) es;rw[b1,Bn] at a4;rw[b2,if_neg (by decide)] at a5;simp only[AB,r0.call,show¬(n:Int)<=(n:Int)-1 by omega,Ag,Ak,An];by_cases h3:3<=cn
    .rcases a6 with a6|⟨k,hk,rfl⟩
     .omega
     rw[if_neg (by omega)] at a5;obtain⟨u1,r1,NG⟩:=aLi (h:=h1) hv hk (by omega);have Wl:(A7 l k).length<=l.length:=by unfold A7;rw[As,Al,A8];omega
     have c1:At (put h1 id o u1) id o u1:=hc.put;obtain⟨e',Pb,r2⟩:=ay (h:=put h1 id o u1) he;obtain⟨u2,r3,Il⟩:=az (h:=put h1 id o u1) NG e' (Ac (A7 l k).length) (by omega);rw[Bu,Fm] at Il;simp only[AB,show(3:Int)<=(cn:Int) by omega,Aq,Ag,Ak,hc.load,Bn,r1.call,hc.store (CZ.cells NG),c1.load,AM.Cp NG,r2.call,By,r3.call,c1.store (CZ.cells Il),YJ];refine⟨_,rfl,rfl,e',u2,Pb,rfl,?_⟩;rw[Kt,if_pos ⟨h0,by omega⟩,a5,AQ];exact Il
    .obtain⟨e',Pb,r1⟩:=ay (h:=h1) he;obtain⟨u,r2,hu⟩:=az (h:=h1) hv e' (Ac l.length) (by omega);rw[Bu,Fm] at hu;simp only[AB,show¬(3:Int)<=(cn:Int) by omega,Ag,Ak,An,hc.load,Bn,Du.Cp,r1.call,By,r2.call,hc.store (CZ.cells hu)];refine⟨_,rfl,rfl,e',u,Pb,rfl,?_⟩;rw[Kt,if_neg (by omega)];exact hu
 obtain⟨r,h',hr,rfl,e',u,Pb,rfl,hu⟩:=Ik.ret;exact⟨u,e',Pb,hr,hu⟩
end
end
section
section
variable{h:Ad}{v:Aa}{l:List B3}{id o:Nat}
theorem f208(hs:R5 h id o l)(hb:l.length<=900000000)(node:Int){e:B3}(he:WQ e):∃u t e',e'.c=e.c/\BI cx 214 [Pt id o,I node,.agg e.row] h (.bool (decide (0<=Gz node l))) (put h id o u++t)/\CZ (if Gz node l<0 then l else l.set (Gz node l).toNat e') u:=by
 obtain⟨v,hc,hv⟩:=(show R5 h id o l from hs);rcases cE node l with h1|⟨k,hk,h1⟩
 .refine⟨v,[],e,rfl,?_,by rw[h1];exact hv⟩;have e2:=hc.pF (AM.KR hv);rw[Ab,Zf,ny,hc.same,BC];simp only[AB,B3.Co,(f41 hc hv (by omega) node).call,h1,show(-1:Int)<0 by decide,Aq,Ak,Ag,e2];rfl
 .have hne:l≠[]:=by intro e;subst e;simp at hk
  have hcl:=aB3 (h:=h) hv hne (by omega);have s1:=(hc.HA (t:=[Dc.cells (l.map B3.row).flatten])).store (u:= .Cl h.length 0 l.length 3) rfl;rw[YK hc] at s1;obtain⟨e',Pb,r1⟩:=ay (h:=put h id o (.Cl h.length 0 l.length 3)++[Dc.cells (l.map B3.row).flatten]) he;obtain⟨c3,c2,c4⟩:=hc.next (w:= .Cl h.length 0 l.length 3) (X:= .cells (l.map B3.row).flatten) (Y:= .cells ((l.map B3.row).set k e'.row).flatten);have s2:=S1 (z:=3) (Nc l) c3 (i:=k) (by simpa using hk) (q:=e'.row) rfl;rw[c4] at s2;have e4:Aw (.Fj 3) [.Cl h.length 0 l.length 3,I (k:Int)]=some (Pt h.length (k*3)):=EX hk;have e2:=hc.pG (bQ (Nc l) (i:=k) (q:=e'.row) rfl);rw[Bj,Ai] at e2;refine⟨.sl 3 ((l.map B3.row).set k e'.row),[.CG],e',Pb,?_,?_⟩;·rw[Ab,Zf,ny];simp only[AB,B3.Co,B3.g0,B3.g1,B3.g2,B3.NJ,(f41 hc hv (by omega) node).call,h1,show¬(k:Int)<0 by omega,An,Ak,Ag,hc.load,Bn,hcl.call,s1,c2.load,r1.call,By,e4,s2,e2,show(0:Int)<=(k:Int) by omega,D4]
  .rw[h1,if_neg (by omega),AQ,<-Fh];exact .mk
theorem aGd(hv:CZ l v)(hb:l.length<=900000000){k:Nat}(hk:k<l.length):∃u,BI cx 218 [v,I (k:Int)] h u h/\CZ (A7 l k) u:=by
 have Du:AM 3 (l.map B3.row) v:=hv;have Ik:Ev cx 218 [v,I (k:Int)] h λr h'=>h'=h/\CZ (A7 l k) r:=by
  unfold Ev;rw[n_,aFs];refine Bb (λp:Nat×Aa=>[p.2,I (p.1:Int)]) (λp h1=>p.1<=l.length/\CZ (if p.1<=k then l.take p.1 else A7 (l.take p.1) k) p.2/\h1=h) (λp=>l.length-p.1) (0,.slnil) rfl ⟨AR _,by rw[if_pos (AR _)];exact .nil,rfl⟩ ?_;rintro⟨n,u⟩ h1 ⟨hn,hu,rfl⟩;simp only at hn hu;have inc:=BF (show n<9223372036854775807 by omega);rcases AT n l.length with hlt|D1
  .have i1:(n:Int)<(l.length:Int):=by omega
   have elem:=Du.Bz (k:= .i64) hlt;have hlen:(if n<=k then l.take n else A7 (l.take n) k).length<=l.length:=by
    split;·rw[Al];omega
    .unfold A7;rw[As,Al,A8,Al];omega
   have e3:=AM.Jb (a:=l[n]) hu (b:=48) (Oo (by omega));simp only[AB,Du.Cp,i1,Aq,Ak,Ag,elem,B3.Co,B3.Gx,Ac,KO B3.Co,e3,inc];refine⟨λh0=>?_,λh0=>?_⟩
   .refine AF.next (n+1,_) rfl ⟨hlt,?_,rfl⟩ (by simp only;omega);have h0:n≠k:=by omega
    have:(if n+1<=k then l.take (n+1) else A7 (l.take (n+1)) k)=(if n<=k then l.take n else A7 (l.take n) k)++[l[n]]:=by
     rw[Av hlt];by_cases vi:n<k;·rw[if_pos (by omega),if_pos (by omega)]
     .rw[if_neg (by omega),if_neg (by omega)];unfold A7;rw[CT (by rw[Al];omega),TP (by rw[Al];omega),AD]
    simp only
    rw[this];exact .mk
   .refine AF.next (n+1,u) rfl ⟨hlt,?_,rfl⟩ (by simp only;omega);obtain rfl:n=k:=by omega
    have:(if n+1<=n then l.take (n+1) else A7 (l.take (n+1)) n)=l.take n:=by rw[if_neg (by omega)];unfold A7;rw[GR,Cm (by omega),A3 (by rw[Al];omega),BC]
    simp only
    rw[this];rw[if_pos (Ac _)] at hu;exact hu
  .have i1:¬(n:Int)<(l.length:Int):=by omega
   rw[if_neg (by omega),Ay D1] at hu;simp only[AB,Du.Cp,i1,An,Ak,Ag];exact⟨_,rfl,hu⟩
 obtain⟨r,h',hr,rfl,hu⟩:=Ik.ret;exact⟨r,hr,hu⟩
theorem f82(hv:CZ l v)(hb:l.length<=900000000){e:B3}(he:WQ e)(i:Int):∃u e',e'.c=e.c/\BI cx 98 [v,.agg e.row,I i] h u h/\CZ (l.take (Ck i l.length)++e'::l.drop (Ck i l.length)) u:=by
 obtain⟨e',Pb,r1⟩:=aLh (h:=h) he;have key:∀k:Nat,k<=l.length->∃u1 u2 u4 u5,Aw (.Hq 3 false false true) [v,I (k:Int)]=some u1/\Aw (.append 3 48) [.slnil,u1]=some u2/\Aw (.append 3 48) [u2,.sl 3 [e'.row]]=some (.sl 3 ((l.take k++[e']).map B3.row))/\Aw (.Hq 3 false true false) [v,I (k:Int)]=some u4/\Aw (.append 3 48) [.sl 3 ((l.take k++[e']).map B3.row),u4]=some u5/\CZ (l.take k++e'::l.drop k) u5:=by intro k hk;obtain⟨u1,e1,h1⟩:=AM.K8 hv (k:= .i64) hk;obtain⟨u2,e2,h2⟩:=AM.Gj h1 (b:=48) (Oo (by rw[Al];omega));have e3:=AM.Jb (a:=e') h2 (b:=48) (Oo (by rw[Al];omega));obtain⟨u4,e4,h4⟩:=AM.QZ hv (k:= .i64) hk;obtain⟨u5,e5,h5⟩:=AM.YI (f:=B3.row) (l:=l.take k++[e']) .mk h4 (b:=48) (Oo (by rw[As,Al,A8,Br];omega));exact⟨u1,u2,u4,u5,e1,e2,e3,e4,e5,by rw[AD] at h5;exact h5⟩
 obtain⟨u1,u2,u4,u5,e1,e2,e3,e4,e5,hu⟩:=key (Ck i l.length) (by unfold Ck;omega);refine⟨u5,e',Pb,?_,hu⟩;have Du:AM 3 (l.map B3.row) v:=hv;rw[Ab,aAC,t98];by_cases h1:i<0
 .have:Ck i l.length=0:=by unfold Ck;omega
  rw[this] at e1 e4;have e1:Aw (.Hq 3 false false true) [v,I 0]=some u1:=e1;have e4:Aw (.Hq 3 false true false) [v,I 0]=some u4:=e4;simp only[AB,B3.Co,B3.g0,B3.g1,B3.g2,B3.NJ,h1,Aq,An,Ak,Ag,Du.Cp,show¬(l.length:Int)<0 by omega,e1,e2,r1.call,KO B3.Co,e3,e4,e5]
 .by_cases h2:(l.length:Int)<i
  .have:Ck i l.length=l.length:=by unfold Ck;omega
   rw[this] at e1 e4;simp only[AB,B3.Co,B3.g0,B3.g1,B3.g2,B3.NJ,h1,h2,Aq,An,Ak,Ag,Du.Cp,e1,e2,r1.call,KO B3.Co,e3,e4,e5]
  .have:((Ck i l.length:Nat):Int)=i:=by unfold Ck;omega
   rw[this] at e1 e4;simp only[AB,B3.Co,B3.g0,B3.g1,B3.g2,B3.NJ,h1,h2,An,Ak,Ag,Du.Cp,e1,e2,r1.call,KO B3.Co,e3,e4,e5]
theorem f84(hv:CZ l v)(hb:l.length<=900000000):∃u,BI cx 100 [v] h u h/\CZ (l.take (Ef l)) u:=by
 obtain⟨s,es,IQ,_⟩:=IJ l;have hcl:Ef l<=l.length:=by unfold Ef;omega
 obtain⟨u,e1,hu⟩:=AM.K8 hv (k:= .i64) hcl;obtain⟨u2,e2,Il⟩:=AM.Gj hu (b:=48) (Oo (by rw[Al];omega));refine⟨u2,?_,Il⟩;rw[Ab,jt,aEJ];by_cases h1:since l-1<0
 .have:Ef l=0:=by unfold Ef;omega
  rw[this] at e1;have e1:Aw (.Hq 3 false false true) [v,I 0]=some u:=e1;simp only[AB,(qb hv (by omega)).call,CJ (show -9223372036854775808<=since l-1 by omega) (show since l-1<9223372036854775808 by omega),h1,Aq,Ak,Ag,e1,e2]
 .have:((Ef l:Nat):Int)=since l-1:=by unfold Ef;omega
  rw[this] at e1;simp only[AB,(qb hv (by omega)).call,CJ (show -9223372036854775808<=since l-1 by omega) (show since l-1<9223372036854775808 by omega),h1,An,Ak,Ag,e1,e2]
set_option maxHeartbeats 1000000 in
theorem aLk(hv:CZ l v)(hb:l.length<=900000000)(hl:∀x∈l,WQ x){e:B3}(he:WQ e):∃u e',e'.c=e.c/\BI cx 187 [v,.agg e.row] h u h/\CZ (Kt e.c l++[e']) u:=by
 have Du:AM 3 (l.map B3.row) v:=hv;obtain⟨s,es,IQ,hs2,_⟩:=IJ l;have Ik:Ev cx 187 [v,.agg e.row] h λr h'=>h'=h/\∃e':B3,e'.c=e.c/\CZ (Kt e.c l++[e']) r:=by
  unfold Ev;rw[mo,aFb];have r0:=qb (h:=h) hv (by omega);rw[es] at r0;obtain⟨b1,b2⟩:=Vq (e:=e.c) es;simp only[AB,B3.Co,B3.g0,B3.g1,B3.g2,B3.NJ,r0.call];refine Bb (λn:Nat=>[I (Mt e.c (l.take n)),I (Q4 e.c (l.take n):Int),I (n:Int)])
   (λn h1=>s<=n/\n<=l.length/\Q4 e.c (l.take n)<=n/\((Q4 e.c (l.take n)=0/\Mt e.c (l.take n)= -1)\/∃k:Nat,k<n/\Mt e.c (l.take n)=(k:Int))/\h1=h) (λn=>l.length-n) s (by rw[b1,b2];rfl) ⟨Ac _,IQ,by omega,.inl ⟨b1,b2⟩,rfl⟩ ?_
  rintro n h1 ⟨a1,a2,a3,a4,rfl⟩;rcases AT n l.length with hlt|D1
  .have i1:(n:Int)<(l.length:Int):=by omega
   have hnz:=hs2 n hlt a1;have e1:=R6 (e:=e.c) hlt;have e2:=R7 (e:=e.c) hlt;rw[if_neg hnz] at e1 e2;have r1:=f241 (h:=h1) (hl _ (AI hlt)) he;simp only[AB,Du.Cp,i1,Aq,Ag,Ak,Du.Bz hlt,B3.Co,B3.Gx,Ac,r1.call,BF (show Q4 e.c (l.take n)<9223372036854775807 by omega),BF (show n<9223372036854775807 by omega)];rw[Cu];refine⟨λh2=>⟨λh3=>?_,λh3=>?_⟩,λh2=>?_⟩;·rw[if_pos h2] at e1 e2;rw[if_neg (by omega)] at e2;refine AF.next (n+1) (by rw[e1,e2]) ⟨by omega,hlt,by omega,.inr ⟨n,by omega,e2⟩,rfl⟩ (by omega)
   .rw[if_pos h2] at e1 e2;rw[if_pos (by omega)] at e2;refine AF.next (n+1) (by rw[e1,e2]) ⟨by omega,hlt,by omega,.inr ?_,rfl⟩ (by omega);rw[e2];rcases a4 with⟨_,a4⟩|⟨k,hk,a4⟩
    .omega
    .exact⟨k,by omega,a4⟩
   .rw[if_neg (by simp[h2])] at e1;rw[if_neg (show¬FL l[n].c e.c=true by simp[h2])] at e2;have e2':Mt e.c (l.take (n+1))=Mt e.c (l.take n):=by rw[e2];rcases a4 with⟨_,a4⟩|⟨k,hk,a4⟩<;>rw[a4]<;>simp
    refine AF.next (n+1) (by rw[e1,e2'];rfl) ⟨by omega,hlt,by omega,?_,rfl⟩ (by omega);rw[e1,e2'];rcases a4 with a4|⟨k,hk,a4⟩
    .exact .inl a4
    .exact .inr ⟨k,by omega,a4⟩
  .have i1:¬(n:Int)<(l.length:Int):=by omega
   rw[Ay D1] at a3 a4⊢;simp only[AB,Du.Cp,i1,Ag,Ak,An];refine⟨λh2=>⟨λh3=>?_,λh3=>?_⟩,λh2=>?_⟩
   .rcases a4 with⟨a4,_⟩|⟨k,hk,a4⟩
    .omega
    have OH:k<l.length:=by omega
    obtain⟨u1,r1,NG⟩:=aGd (h:=h1) hv hb OH;have hlen:(A7 l k).length<=l.length:=by unfold A7;rw[As,Al,A8];omega
    obtain⟨u2,e',Pb,r2,Il⟩:=f82 (h:=h1) NG (by omega) he ((A7 l k).length:Int);have hcl:Ck ((A7 l k).length:Int) (A7 l k).length=(A7 l k).length:=by unfold Ck;omega
    rw[hcl,Bu,Fm] at Il;simp only[AB,a4,r1.call,AM.Cp NG,r2.call];refine⟨_,rfl,e',Pb,?_⟩;rw[Kt,if_pos ⟨h2,by omega⟩,a4,AQ];exact Il
   .obtain⟨u2,e',Pb,r2,Il⟩:=f82 (h:=h1) hv hb he (l.length:Int);have hcl:Ck (l.length:Int) l.length=l.length:=by unfold Ck;omega
    rw[hcl,Bu,Fm] at Il;simp only[AB,r2.call];refine⟨_,rfl,e',Pb,?_⟩;rw[Kt,if_neg (by omega)];exact Il
   .obtain⟨u2,e',Pb,r2,Il⟩:=f82 (h:=h1) hv hb he (l.length:Int);have hcl:Ck (l.length:Int) l.length=l.length:=by unfold Ck;omega
    rw[hcl,Bu,Fm] at Il;simp only[AB,r2.call];refine⟨_,rfl,e',Pb,?_⟩;rw[Kt,if_neg (λh=>h2 h.1)];exact Il
 obtain⟨r,h',hr,rfl,e',Pb,hu⟩:=Ik.ret;exact⟨r,e',Pb,hr,hu⟩
end
end
def TD:List AU->Aa
 |[]=> .slnil
 |x::l=> .sl 3 ((x::l).map AU.row)
theorem Uc{l:List AU}:Bw l (TD l):=by cases l;exact .inr ⟨rfl,rfl⟩;exact .inl rfl
theorem sR{l:List AU}{x:AU}:TD (l++[x])= .sl 3 ((l++[x]).map AU.row):=by cases l<;>rfl
structure PN where
 x:Eg
 kv:Aa
 av:Aa
 ok:av=TD x.Ax
def PN.row(p:PN):List Aa:=[I p.x.kind,I p.x.E6,p.kv,I p.x.Cy,I p.x.AZ,.str p.x.name,p.av,.str p.x.data,.str p.x.pub,.str p.x.sys,.bool p.x.Cq,I p.x.cont,I p.x.DT]
theorem PN.Co{p:PN}:p.row.length=13:=rfl
def PN.zero:PN:=⟨{},.slnil,.slnil,rfl⟩
def pN(ps:List PN)(x:Int):PN:=ps.getD (x.toNat-1) PN.zero
def Cb(n:Int):List Aa:=[I n]
def Dg(l:List Int)(v:Aa):Prop:=AM 1 (l.map Cb) v
def Jf(h:Ad)(kv:Aa)(l:List Int):Prop:=(kv= .slnil/\l=[])\/∃id cs,kv= .Cl id 0 l.length 1/\h[id]?=some (.cells (l.map (Aa.int .i64)++cs))
def GQ:Aa->Option Nat
 | .Cl id _ _ _=>some id
 |_=>none
def VN(h:Ad)(m:Option Nat)(f:Int->Int):Prop:=(m=none/\∀k,f k=0)\/∃(id:Nat) (l:List (Int×Int)),m=some id/\h[id]?=some (.map (l.map λx:Int×Int=>(I x.1,I x.2)))/\∀k,(l.find? λx=>decide (k=x.1)).map (·.2)=if f k=0 then none else some (f k)
def Fo(a n:Nat)(m:Option Nat)(ps:List PN):List Nat:=a::n::(m.toList++ps.filterMap λp=>GQ p.kv)
structure PA(h:Ad)(a n:Nat)(m:Option Nat)(ps:List PN)(A:Ar):Prop where
 e:A.n=ps.map PN.x
 il:A.i.length=A.n.length
 ha:h[a]?=some (.cells [.Cl n 0 ps.length 13,.map m])
 hn:h[n]?=some (.cells (ps.map PN.row).flatten)
 ks:∀p∈ps,Jf h p.kv p.x.AY
 nd:(Fo a n m ps).Nodup
 mp:VN h m A.inr
structure De(h:Ad)(F:Nat->Prop)(h':Ad)(F':Nat->Prop):Prop where
 len:h.length<=h'.length
 old:∀i,i<h.length->¬F i->h'[i]?=h[i]?
 own:∀i,F' i->F i\/h.length<=i
section
variable{h h' h'' t:Ad}{F F' F'':Nat->Prop}
theorem De.refl:De h F h F:=⟨Ac _,λ_ _ _=>rfl,λ_ h=> .inl h⟩
theorem De.trans(x:De h F h' F')(y:De h' F' h'' F''):De h F h'' F'':=
 ⟨Bt x.len y.len,λi hi hF=>by
  rw[y.old i (ZD hi x.len) (λh=>by rcases x.own i h with h|h;exact hF h;omega)];exact x.old i hi hF,λi hi=>by
  rcases y.own i hi with h|h
  .exact x.own i h
  .exact .inr (Bt x.len h)⟩
theorem De.HA:De h F (h++t) F:=⟨by simp,λi hi _=>Af hi,λ_ h=> .inl h⟩
end
def PW(h:Ad)(F:Nat->Prop)(a:Nat)(A:Ar):Prop:=∃n m ps,PA h a n m ps A/\∀i,F i↔i∈Fo a n m ps
section
variable{h h':Ad}{a n:Nat}{m:Option Nat}{ps:List PN}{A:Ar}{x:Int}{F:Nat->Prop}
theorem Jf.CW{kv:Aa}{l:List Int}(hk:Jf h kv l)(hf:∀id,GQ kv=some id->h'[id]?=h[id]?):Jf h' kv l:=by
 rcases hk with⟨rfl,rfl⟩|⟨id,cs,rfl,hc⟩
 .exact .inl ⟨rfl,rfl⟩
 .exact .inr ⟨id,cs,rfl,by rw[hf id rfl];exact hc⟩
theorem VN.CW{f:Int->Int}(hk:VN h m f)(hf:∀id,m=some id->h'[id]?=h[id]?):VN h' m f:=by
 rcases hk with h1|⟨id,l,rfl,hc,h2⟩
 .exact .inl h1
 .exact .inr ⟨id,l,rfl,by rw[hf id rfl];exact hc,h2⟩
theorem Kd{p:PN}{id:Nat}(hp:p∈ps)(hk:GQ p.kv=some id):id∈Fo a n m ps:=by unfold Fo;simp only[AL,Ao];exact .inr (.inr (.inr (Ch.2 ⟨p,hp,hk⟩)))
theorem PA.CW(w:PA h a n m ps A)(hf:∀i∈Fo a n m ps,h'[i]?=h[i]?):PA h' a n m ps A:=
 ⟨w.e,w.il,by rw[hf a (by simp[Fo])];exact w.ha,by rw[hf n (by simp[Fo])];exact w.hn,λp hp=>(w.ks p hp).CW λid hk=>hf id (Kd hp hk),w.nd,w.mp.CW λid hm=>hf id (by simp[Fo,hm])⟩
theorem PA.lt(w:PA h a n m ps A):∀i∈Fo a n m ps,i<h.length:=by
 intro i hi;unfold Fo at hi;simp only[AL,Ao,Ch] at hi;rcases hi with rfl|rfl|hi|⟨p,hp,hk⟩
 .exact(Ah.1 w.ha).1
 .exact(Ah.1 w.hn).1
 .rcases w.mp with⟨rfl,_⟩|⟨id,l,rfl,hc,_⟩
  .simp at hi
  .simp at hi;subst hi;exact(Ah.1 hc).1
 .rcases w.ks p hp with⟨e,_⟩|⟨id,cs,e,hc⟩
  .rw[e] at hk;cases hk
  .rw[e] at hk;cases hk;exact(Ah.1 hc).1
theorem PW.CW(w:PW h F a A)(hf:∀i,F i->h'[i]?=h[i]?):PW h' F a A:=by obtain⟨n,m,ps,w,e⟩:=w;exact⟨n,m,ps,w.CW λi hi=>hf i ((e i).2 hi),e⟩
theorem PW.lt(w:PW h F a A){i:Nat}(hi:F i):i<h.length:=by obtain⟨n,m,ps,w,e⟩:=w;exact w.lt i ((e i).1 hi)
theorem PA.a_(w:PA h a n m ps A):A.n.length=ps.length:=by rw[w.e,Ai]
theorem PA.at(w:PA h a n m ps A)(hx:A.has x):x.toNat-1<ps.length/\((x.toNat-1:Nat):Int)=x-1:=by have:=w.a_;unfold Ar.has at hx;omega
theorem PA.pn(w:PA h a n m ps A)(hx:A.has x):ps[x.toNat-1]?=some (pN ps x)/\(pN ps x).x=A.nd x/\pN ps x∈ps:=by
 have h1:=(w.at hx).1;have h2:ps[x.toNat-1]?=some ps[x.toNat-1]:=Ae h1;have h3:pN ps x=ps[x.toNat-1]:=by unfold pN;rw[AE,h2];rfl
 refine⟨by rw[h3];exact h2,?_,by rw[h3];exact AI _⟩;unfold Ar.nd;rw[if_pos hx,w.e,h3,AE,Cr,h2];rfl
theorem Ke{Au:List (List Aa)}{z i k:Nat}(hr:∀r∈Au,r.length=z)(hk:k<z){r:List Aa}(hi:Au[i]?=some r):Au.flatten[i*z+k]?=r[k]?:=by
 have h1:(Au.flatten.drop (i*z))[k]?=r[k]?:=by rw[HW hr];obtain⟨hlt,e⟩:=Ah.1 hi;rw[AG hlt,e,C9,Af (by rw[hr r (e▸AI hlt)];exact hk)]
 rwa [Cz] at h1
theorem dA(l:List PN):∀r∈l.map PN.row,r.length=13:=K5 (f:=PN.row) (λ_=>PN.Co) l
def nP(n:Nat)(x:Int):Nat:=(x.toNat-1)*13
theorem PA.BY(w:PA h a n m ps A)(hx:A.has x){k:Nat}(hk:k<13):A6 h none (Pt n (nP n x+k))=(pN ps x).row[k]?:=by unfold nP;simp only[A6,w.hn,Et];exact Ke (dA ps) hk (by rw[Cr,(w.pn hx).1];rfl)
theorem TE(w:PA h a n m ps A):BI cx 64 [Pt a 0,I x] h (.bool (decide (A.has x))) h:=by
 have e1:A6 h none (Pt a 0)=some (.Cl n 0 ps.length 13):=by simp only[A6,w.ha];rfl
 have e2:Aw (.len false) [.Cl n 0 ps.length 13]=some (I (ps.length:Int)):=rfl;rw[Ab,zN,t64];simp only[AB,Bi,e1,e2];have hl:=w.a_;have e3:A.has x↔1<=x/\x<=(ps.length:Int):=by unfold Ar.has;rw[hl]
 refine⟨λh1=>?_,λh1=>?_⟩;·congr 2;rw[D0,e3];exact⟨λh=>⟨h1,h⟩,λh=>h.2⟩
 .rw[AA (λh=>h1 (e3.1 h).1)]
theorem PA.nodes(w:PA h a n m ps A):A6 h none (Pt a 0)=some (.Cl n 0 ps.length 13):=by simp only[A6,w.ha];rfl
theorem PA.len(w:PA h a n m ps A):((ps.length:Nat):Int)=A.len:=by unfold Ar.len;rw[w.a_]
theorem vj(w:PA h a n m ps A){l:List Int}{v:Aa}(hv:Dg l v)(hb:l.length<=1000):BI cx 155 [Pt a 0,v] h (I (if∀x∈l,A.has x then 0 else 3)) h:=by
 have hv:AM 1 (l.map Cb) v:=hv;rw[Ab,nB,aAZ];simp only[AB,Bi,hv.Cp];refine Bb (λk:Nat=>[I 0,I (k:Int)]) (λk h1=>k<=l.length/\(∀x∈l.take k,A.has x)/\h1=h) (λk=>l.length-k) 0 rfl ⟨AR _,by simp,rfl⟩ ?_;rintro k h1 ⟨hk,ha,rfl⟩;rcases AT k l.length with hlt|D1
 .have i1:(k:Int)<(l.length:Int):=by omega
  have e1:A6 h1 none (.CA (Cb l[k]))=some (I l[k]):=rfl;simp only[AB,Bi,i1,hv.Bz hlt,e1,(TE (x:=l[k]) w).call,BF (show k<9223372036854775807 by omega)];rw[Cu];refine⟨λh2=>?_,λh2=>?_⟩
  .have h2:¬A.has l[k]:=by simpa using h2
   rw[if_neg (λh3=>h2 (h3 _ (AI hlt)))]
  .have h2:A.has l[k]:=by simpa using h2
   refine AF.next (k+1) rfl ⟨hlt,?_,rfl⟩ (by omega);intro x hx;rw[Av hlt,Ao,Fi] at hx;rcases hx with hx|rfl
   .exact ha x hx
   .exact h2
 .have i1:¬(k:Int)<(l.length:Int):=by omega
  rw[Ay D1] at ha;simp only[AB,Bi,i1,if_pos ha]
theorem Sl(w:PA h a n m ps A):BI cx 155 [Pt a 0,.sl 1 [[I x]]] h (I (if A.has x then 0 else 3)) h:=by have:=vj w (l:=[x]) (v:= .sl 1 [[I x]]) .mk (by simp);simpa using this
theorem Kw{y:Int}(w:PA h a n m ps A):BI cx 155 [Pt a 0,.sl 1 [[I x],[I y]]] h (I (if A.has x/\A.has y then 0 else 3)) h:=by have:=vj w (l:=[x,y]) (v:= .sl 1 [[I x],[I y]]) .mk (by simp);simpa using this
theorem GC{x:Int}:Aw (.Bx 1) [I x]=some (.sl 1 [[I x]]):=rfl
theorem E3{x y:Int}:Aw (.Bx 1) [I x,I y]=some (.sl 1 [[I x],[I y]]):=rfl
theorem L9.of(lm:L9 A)(hx:A.has x):1<=x/\x<=1000000000:=by have:=lm.n;unfold Ar.has at hx;omega
theorem H8(w:PA h a n m ps A)(lm:L9 A)(hx:A.has x):BI cx 145 [Pt a 0,I x] h (Pt n (nP n x)) h:=by
 have hr:=lm.of hx;have e1:=(w.at hx).2;have e2:Aw (.Fj 13) [.Cl n 0 ps.length 13,I (x-1)]=some (Pt n (nP n x)):=by rw[<-e1];exact EX (w.at hx).1
 rw[Ab,Y7,ly];simp only[AB,Bi,w.nodes,CJ (show -9223372036854775808<=x-1 by omega) (show x-1<9223372036854775808 by omega),e2]
theorem PA.f0(w:PA h a n m ps A)(hx:A.has x):A6 h none (Pt n (nP n x))=some (I (A.nd x).kind):=by have:=w.BY hx (k:=0) (by decide);rw[<-(w.pn hx).2.1];exact this
theorem PA.f1(w:PA h a n m ps A)(hx:A.has x):A6 h none (Pt n (nP n x+1))=some (I (A.nd x).E6):=by have:=w.BY hx (k:=1) (by decide);rw[<-(w.pn hx).2.1];exact this
theorem PA.f2(w:PA h a n m ps A)(hx:A.has x):A6 h none (Pt n (nP n x+2))=some (pN ps x).kv:=by have:=w.BY hx (k:=2) (by decide);exact this
theorem PA.f4(w:PA h a n m ps A)(hx:A.has x):A6 h none (Pt n (nP n x+4))=some (I (A.nd x).AZ):=by have:=w.BY hx (k:=4) (by decide);rw[<-(w.pn hx).2.1];exact this
theorem PA.f5(w:PA h a n m ps A)(hx:A.has x):A6 h none (Pt n (nP n x+5))=some (.str (A.nd x).name):=by have:=w.BY hx (k:=5) (by decide);rw[<-(w.pn hx).2.1];exact this
theorem PA.f6(w:PA h a n m ps A)(hx:A.has x):A6 h none (Pt n (nP n x+6))=some (pN ps x).av:=by have:=w.BY hx (k:=6) (by decide);exact this
theorem PA.LF(w:PA h a n m ps A)(hx:A.has x):Jf h (pN ps x).kv (A.nd x).AY:=by rw[<-(w.pn hx).2.1];exact w.ks _ (w.pn hx).2.2
theorem PA.ba(w:PA h a n m ps A)(hx:A.has x):(pN ps x).av=TD (A.nd x).Ax:=by rw[<-(w.pn hx).2.1];exact(pN ps x).ok
theorem PA.row(w:PA h a n m ps A)(hx:A.has x):A6 h (some 13) (Pt n (nP n x))=some (.agg (pN ps x).row):=by
 have h1:((ps.map PN.row).flatten.drop (nP n x)).take 13=(pN ps x).row/\nP n x+13<=(ps.map PN.row).flatten.length:=by unfold nP;have hlt:=(w.at hx).1;have hg:=(w.pn hx).1;rw[HW (dA ps),Fb (dA ps),Ai];refine⟨?_,by omega⟩;rw[<-NP,AG hlt,Bl,C9];rw[Ae hlt,BA] at hg;rw[hg];exact KI PN.Co
 simp only[A6,w.hn,J7];rw[if_pos h1.2,h1.1]
theorem L1:∀{l:List Int} {cs pre:List Aa},Cj (pre++(l.map (Aa.int .i64)++cs)) 1 pre.length l.length=l.map Cb
 |[],_,_=>rfl
 |x::l,cs,pre=>by have:=L1 (l:=l) (cs:=cs) (pre:=pre++[I x]);simp only[AD,As,Br] at this;simp only[Bl,Bd,Cj,CB];rw[NR rfl];simp only[CB,BG] at this;rw[this];rfl
theorem Jf.Au{kv:Aa}{l:List Int}(hk:Jf h kv l):Ge h 1 kv=some (l.map Cb):=by
 rcases hk with⟨rfl,rfl⟩|⟨id,cs,rfl,hc⟩
 .rfl
 .have:=L1 (l:=l) (cs:=cs) (pre:=[]);simp only[BG,BT] at this;simp only[Ge,BK,hc,this];rw[if_pos (by simp)]
theorem Jf.len{kv:Aa}{l:List Int}(hk:Jf h kv l):Aw (.len false) [kv]=some (I (l.length:Int)):=by rcases hk with⟨rfl,rfl⟩|⟨id,cs,rfl,hc⟩<;>rfl
theorem vn{kv:Aa}{l:List Int}(hk:Jf h kv l)(hb:l.length<=1000000000):∃v,BI cx 215 [kv] h v h/\Dg l v:=by
 have hr:=hk.Au;rcases hk with⟨rfl,rfl⟩|⟨id,cs,rfl,hc⟩
 .exact⟨.slnil,by rw[Ab,Zg,nz];simp only[AB,show Aw (.GV false .sl) [.slnil,.slnil]=some (.bool true) from rfl],.inr ⟨rfl,rfl⟩⟩
 .refine⟨.sl 1 (l.map Cb),?_,.mk⟩;have e1:Pg h 1 8 (.sl 1 []) (.Cl id 0 l.length 1)=some (.sl 1 (l.map Cb)):=by
   unfold Pg;rw[hr,Ct];cases l with
   |nil=>rfl
   |cons x l=>
    have:(x::l).length*8<=AS:=by have:AS=140737488355328:=rfl;omega
    simp only[Bl,DN,Bd,Ai,BT] at this⊢;rw[if_pos ⟨trivial,by simpa using this⟩];rfl
  rw[Ab,Zg,nz];simp only[AB,show Aw (.GV false .sl) [.Cl id 0 l.length 1,.slnil]=some (.bool false) from rfl,show Aw (.Bx 1) []=some (.sl 1 []) from rfl,e1]
def H9(h:Ad)(v:Aa)(l:List AU):Prop:=(v= .slnil/\l=[])\/∃id,v= .Cl id 0 l.length 3/\h[id]?=some (.cells (l.map AU.row).flatten)/\id<h.length
theorem H9.HA{v:Aa}{l:List AU}{t:Ad}(hv:H9 h v l):H9 (h++t) v l:=by
 rcases hv with h1|⟨id,e,hc,hl⟩
 .exact .inl h1
 .exact .inr ⟨id,e,by rw[Af hl];exact hc,by rw[As];omega⟩
theorem H9.cells{v:Aa}{l:List AU}(hv:H9 h v l):v.cells=[v]:=by rcases hv with⟨rfl,_⟩|⟨id,rfl,_,_⟩<;>rfl
structure LK(h:Ad)(v:Aa)(l:List AU):Prop where
 len:Aw (.len false) [v]=some (I (l.length:Int))
 at_:∀k (hk:k<l.length),∃p,Aw (.Fj 3) [v,I (k:Int)]=some p/\A6 h (some 3) p=some (.agg l[k].row)
theorem VO{v:Aa}{l:List AU}(hv:Bw l v):LK h v l:=⟨AM.Cp hv,λk hk=>⟨_,AM.Bz hv hk,rfl⟩⟩
theorem aB4(l:List AU):∀r∈l.map AU.row,r.length=3:=K5 (f:=AU.row) (λ_=>rfl) l
theorem H9.in_{v:Aa}{l:List AU}(hv:H9 h v l):LK h v l:=by
 rcases hv with⟨rfl,rfl⟩|⟨id,rfl,hc,_⟩
 .exact⟨rfl,λk hk=>by simp at hk⟩
 .refine⟨rfl,λk hk=>⟨Pt id (k*3),EX hk,?_⟩⟩;simp only[A6,hc,J7];rw[if_pos (by rw[Fb (aB4 l),Ai];omega),HW (aB4 l),<-NP,AG hk,Bl,C9];rfl
def Up(N:Nat)(v:Aa):Prop:=∀id k,v= .Cl id 0 k 3->N<=id
theorem bb{v:Aa}{l:List AU}(hv:v=TD l)(hb:l.length<=1000000000):∃u t,BI cx 100063 [v] h u (h++t)/\H9 (h++t) u l/\Up h.length u:=by
 cases l with
 |nil=>refine⟨.slnil,[],?_,.inl ⟨rfl,rfl⟩,λ_ _ e=>nomatch e⟩;rw[BC,Ab,Qg,Ub,hv];simp only[AB,TD,show Aw (.GV false .sl) [.slnil,.slnil]=some (.bool true) from rfl]
 |cons x l=>have e:=J8 (h:=h) (s:= .sl 3 []) (z:=3) (b:=40) (.inr rfl) (AM.mk (z:=3) (Au:=(x::l).map AU.row)) (by simp) (by rw[Ai];have:AS=140737488355328:=rfl;omega);rw[Ai] at e;refine⟨.Cl h.length 0 (x::l).length 3,[.cells ((x::l).map AU.row).flatten],?_,.inr ⟨h.length,rfl,by simp,by simp⟩,λ_ _ e=>by injection e with e;omega⟩;rw[Ab,Qg,Ub,hv];simp only[AB,TD,show Aw (.GV false .sl) [.sl 3 ((x::l).map AU.row),.slnil]=some (.bool false) from rfl,show Aw (.Bx 3) []=some (.sl 3 []) from rfl,e]
def TF(h:Ad)(N:Nat)(x:Eg)(r:List Aa):Prop:=∃K V,r=[I x.kind,I x.E6,K,I x.Cy,I x.AZ,.str x.name,V,.str x.data,.str x.pub,.str x.sys,.bool x.Cq,I x.cont,I x.DT]/\Dg x.AY K/\H9 h V x.Ax/\Up N V
theorem TF.HA{x:Eg}{r:List Aa}{t:Ad}{N:Nat}(hr:TF h N x r):TF (h++t) N x r:=let⟨K,V,e,h1,h2,h3⟩:=hr;⟨K,V,e,h1,h2.HA,h3⟩
theorem vo(w:PA h a n m ps A)(lm:L9 A)(hx:A.has x)(qc:(A.nd x).AY.length<=1000000000):∃r t,BI cx 204 [Pt n (nP n x)] h (.agg r) (h++t)/\TF (h++t) h.length (A.nd x) r:=by obtain⟨K,r1,hK⟩:=vn (w.LF hx) qc;obtain⟨V,t,r2,hV,hU⟩:=bb (h:=h) (w.ba hx) (lm.at_ x);refine⟨_,t,?_,K,V,rfl,hK,hV,hU⟩;have hc:K.cells=[K]:=AM.cells hK;have e0:=w.row hx;have e1:(pN ps x).row=_:=rfl;have ex:=(w.pn hx).2.1;rw[Ab,nQ,aBd];rw[PN.row,ex] at e0;simp only[AB,Bi,e0,w.f2 hx,w.f6 hx,r1.call,By,r2.call,hc,hV.cells]
end
section
variable{h h':Ad}{a n:Nat}{m:Option Nat}{ps:List PN}{A:Ar}{x:Int}{F:Nat->Prop}
theorem aGf(w:PA h a n m ps A)(lm:L9 A)(qc:(A.nd x).AY.length<=1000000000):∃r t,BI cx 136 [Pt a 0,I x] h (.tuple [.agg r,I (if A.has x then 0 else 3)]) (h++t)/\TF (h++t) h.length (A.nd x) r:=by
 by_cases hx:A.has x;·obtain⟨r,t,r1,hr⟩:=vo w lm hx qc;have Fu:=hr;obtain⟨K,V,rfl,_⟩:=hr;refine⟨_,t,?_,Fu⟩;rw[Ab,Y4,k_];simp only[AB,↓reduceIte,AK,Bi,GC,(Sl (x:=x) w).call,if_pos hx,ne_eq,Cn,(H8 w lm hx).call,r1.call]
 .refine⟨_,[],?_,.slnil,.slnil,by rw[GI hx],by rw[GI hx];exact .inr ⟨rfl,rfl⟩,by rw[GI hx];exact .inl ⟨rfl,rfl⟩,λ_ _ e=>nomatch e⟩;rw[Ab,Y4,k_,BC];simp only[AB,↓reduceIte,AK,Bi,GC,(Sl (x:=x) w).call,if_neg hx,ne_eq,show¬(3:Int)=0 by decide,D4]
theorem vp(w:PA h a n m ps A)(lm:L9 A)(qc:(A.nd x).AY.length<=1000000000):∃v,BI cx 119 [Pt a 0,I x] h v h/\Dg (A.nd x).AY v:=by
 by_cases hx:A.has x;·obtain⟨K,r1,hK⟩:=vn (w.LF hx) qc;refine⟨K,?_,hK⟩;rw[Ab,Y0,ke];simp only[AB,Bi,(TE (x:=x) w).call,Az hx,(H8 w lm hx).call,w.f2 hx,r1.call]
 .refine⟨.slnil,?_,by rw[GI hx];exact .inr ⟨rfl,rfl⟩⟩;rw[Ab,Y0,ke];simp only[AB,Bi,(TE (x:=x) w).call,AA hx]
theorem aGg(w:PA h a n m ps A)(lm:L9 A):BI cx 138 [Pt a 0,I x] h (I (A.nd x).E6) h:=by
 by_cases hx:A.has x;·rw[Ab,Y5,la];simp only[AB,Bi,(TE (x:=x) w).call,Az hx,(H8 w lm hx).call,w.f1 hx]
 .rw[Ab,Y5,la,GI hx];simp only[AB,Bi,(TE (x:=x) w).call,AA hx]
theorem aLm(w:PA h a n m ps A):BI cx 104 [Pt a 0] h (I A.len) h:=by have e2:Aw (.len false) [.Cl n 0 ps.length 13]=some (I (ps.length:Int)):=rfl;rw[Ab,jw,aEM];simp only[AB,Bi,w.nodes,e2,w.len]
theorem bc(w:PA h a n m ps A)(lm:L9 A):BI cx 231 [Pt a 0,I x] h (I (if A.has x then(if(A.nd x).kind=1 then 0 else 9) else 3)) h:=by
 rw[Ab,oI,aBu];by_cases hx:A.has x
 .simp only[AB,Bi,GC,(Sl (x:=x) w).call,if_pos hx,ne_eq,Cn,(H8 w lm hx).call,w.f0 hx];by_cases hk:(A.nd x).kind=1;·simp only[hk,AB,Bi,Cn]
  .simp only[hk,AB,Bi]
 .simp only[AB,Bi,GC,(Sl (x:=x) w).call,if_neg hx,ne_eq,show¬(3:Int)=0 by decide]
theorem bd{l:List PN}:(l.map PN.row).flatten.length=l.length*13:=by rw[Fb (dA l),Ai]
theorem dB{p:PN}{n':Nat}(hk:GQ p.kv=none):Fo a n' m (ps++[p])=a::n'::(m.toList++ps.filterMap λp=>GQ p.kv):=by unfold Fo;rw[Gq];simp[hk]
theorem be{x:Eg}(hl:A.i.length=A.n.length):(A.add x).inr=A.inr:=by funext k;exact T5 hl
theorem qd(w:PA h a n m ps A)(hb:ps.length+1<=1000000000)(p:PN)(hk:p.kv= .slnil)(gg:p.x.AY=[]):
  ∃h',BI cx 144 [Pt a 0,.agg p.row] h (I (A.len+1)) h'/\PA h' a h.length m (ps++[p]) (A.add p.x)/\(∀i,i<h.length->i≠a->i≠n->h'[i]?=h[i]?)/\h'.length=h.length+1:=by
 have hal:a<h.length:=w.lt a (by simp[Fo]);have NF:n<h.length:=w.lt n (by simp[Fo]);have qe:a≠n:=by have:=w.nd;simp[Fo] at this;exact this.1.1
 have eg:=IG (h:=h) (id:=n) (Au:=ps.map PN.row) (r2:=[p.row]) (v:= .sl 13 [p.row]) (b:=168) (dA ps) (by decide) w.hn .mk (by simp) (by rw[Ai];have:AS=140737488355328:=rfl;simp;omega);rw[Ai] at eg;simp only[Br] at eg;have NH:(h.set n .CG++[Dc.cells (ps.map PN.row++[p.row]).flatten])[a]?=some (.cells [.Cl n 0 ps.length 13,.map m]):=by rw[Af (by simpa using hal),Aj (DQ qe)];exact w.ha
 have es:Cv (h.set n .CG++[Dc.cells (ps.map PN.row++[p.row]).flatten]) 1 (Pt a 0) (.Cl h.length 0 (ps.length+1) 13)=some ((h.set n .CG++[Dc.cells (ps.map PN.row++[p.row]).flatten]).set a (.cells [.Cl h.length 0 (ps.length+1) 13,.map m])):=by simp only[Cv,NH];rfl
 have el:A6 ((h.set n .CG++[Dc.cells (ps.map PN.row++[p.row]).flatten]).set a (.cells [.Cl h.length 0 (ps.length+1) 13,.map m])) none (Pt a 0)=some (.Cl h.length 0 (ps.length+1) 13):=by simp only[A6];rw[AN (by simp;omega)];rfl
 have e2:Aw (.len false) [.Cl h.length 0 (ps.length+1) 13]=some (I ((ps.length+1:Nat):Int)):=rfl;have em:Aw (.Bx 13) [.agg p.row]=some (.sl 13 [p.row]):=K4 (a:= .agg p.row) rfl (by decide);refine⟨(h.set n .CG++[Dc.cells (ps.map PN.row++[p.row]).flatten]).set a (.cells [.Cl h.length 0 (ps.length+1) 13,.map m]),?_,?_,?_,?_⟩;rotate_left
 .refine⟨by simp[Ar.add,w.e],by simp[Ar.add,w.il],?_,?_,?_,?_,?_⟩;·rw[AN (by simp;omega)];simp
  .rw[Aj (by omega),Bg (by simp)];simp
  .intro q hq;rcases Ao.1 hq with hq|hq
   .refine(w.ks q hq).CW λid Ht=>?_;have h1:id∈Fo a n m ps:=Kd hq Ht;have h2:=w.lt id h1;have h3:=w.nd;have h4:id∈m.toList++ps.filterMap λp=>GQ p.kv:=Ao.2 (.inr (Ch.2 ⟨q,hq,Ht⟩));unfold Fo at h3;simp only[BV,AL,not_or] at h3;have n1:a≠id:=λe=>h3.1.2 (e▸h4);have n2:n≠id:=λe=>h3.2.1 (e▸h4);rw[Aj n1,Af (by simpa using h2),Aj n2]
   .simp at hq;subst hq;exact .inl ⟨hk,gg⟩
  .rw[dB (by rw[hk];rfl)];have h3:=w.nd;unfold Fo at h3;simp only[BV,AL,not_or] at h3⊢;refine⟨⟨by omega,h3.1.2⟩,λhm=>?_,h3.2.2⟩;have:=w.lt h.length (by unfold Fo;simp only[AL];exact .inr (.inr hm));omega
  .rw[be w.il];refine w.mp.CW λid Ht=>?_;have h1:id∈m.toList++ps.filterMap λp=>GQ p.kv:=by simp[Ht]
   have h2:=w.lt id (by unfold Fo;simp only[AL];exact .inr (.inr h1));have h3:=w.nd;unfold Fo at h3;simp only[BV,AL,not_or] at h3;have n1:a≠id:=λe=>h3.1.2 (e▸h1);have n2:n≠id:=λe=>h3.2.1 (e▸h1);rw[Aj n1,Af (by simpa using h2),Aj n2]
 .intro i hi h1 h2;rw[Aj (DQ h1),Af (by simpa using hi),Aj (DQ h2)]
 .simp
 .have hl:A.len+1=((ps.length+1:Nat):Int):=by rw[<-w.len];rfl
  rw[PN.row] at em eg es el;rw[Ab,Y6,ls,hl,PN.row];simp only[AB,Nat.reduceLeDiff,↓reduceIte,AK,Bi,w.nodes,em,eg,es,el,e2]
theorem MA{Au:List (List Aa)}{z i k:Nat}(hr:∀r∈Au,r.length=z)(hi:i<Au.length)(hk:k<z){v:Aa}:Au.flatten.take (i*z+k)++[v]++Au.flatten.drop (i*z+k+1)=(Au.set i (Au[i].set k v)).flatten:=by
 have hl:=hr _ (AI hi);rw[<-bP hr hi];have e1:Au.flatten.drop (i*z)=Au[i]++Au.flatten.drop (i*z+z):=by
  have e2:i*z+z=(i+1)*z:=by rw[BB,Ey]
  rw[e2,HW hr,HW hr,AG hi,C9]
 have e3:Au.flatten.take (i*z+k)=Au.flatten.take (i*z)++Au[i].take k:=by rw[List.take_add,e1,CT (by omega)]
 have e4:Au.flatten.drop (i*z+k+1)=Au[i].drop (k+1)++Au.flatten.drop (i*z+z):=by rw[Nat.add_assoc,<-E5,e1,TP (by omega)]
 rw[e3,e4,BW,if_pos (by omega)];simp
theorem PA.sto(w:PA h a n m ps A)(hx:A.has x){k:Nat}(hk:k<13){v:Aa}(hv:v.cells=[v]){p:PN}(hp:p.row=(pN ps x).row.set k v){h1:Ad}(hn:h1[n]?=h[n]?):
  Cv h1 1 (Pt n (nP n x+k)) v=some (h1.set n (.cells ((ps.set (x.toNat-1) p).map PN.row).flatten)):=by
 have hlt:=(w.at hx).1;have hg:=(w.pn hx).1;rw[Ae hlt,BA] at hg;have e:=MA (Au:=ps.map PN.row) (i:=x.toNat-1) (k:=k) (v:=v) (dA ps) (by simpa using hlt) hk;rw[CX,hg,<-hp,<-Fh] at e;unfold nP;simp only[Cv,hn,w.hn,hv,Br,NO];rw[if_pos (by rw[Fb (dA ps),Ai];omega),e]
theorem VP(w:PA h a n m ps A)(hx:A.has x)(p:PN):ps=ps.take (x.toNat-1)++pN ps x::ps.drop (x.toNat-1+1)/\ps.set (x.toNat-1) p=ps.take (x.toNat-1)++p::ps.drop (x.toNat-1+1):=by have hlt:=(w.at hx).1;have hg:=(w.pn hx).1;rw[Ae hlt,BA] at hg;refine⟨?_,by rw[BW,if_pos hlt]⟩;conv=>lhs;rw[<-CK (x.toNat-1) ps,AG hlt,hg]
theorem bg{y:Eg}:(A.set x y).inr=A.inr:=by funext k;exact Q5
theorem PA.uC(w:PA h a n m ps A)(hx:A.has x){p:PN}{h1:Ad}(ho:∀i∈Fo a n m ps,GQ (pN ps x).kv≠some i->h1[i]?=h[i]?)(hk:Jf h1 p.kv p.x.AY)
  (hi:GQ p.kv=GQ (pN ps x).kv\/∀j,GQ p.kv=some j->h.length<=j):PA (h1.set n (.cells ((ps.set (x.toNat-1) p).map PN.row).flatten)) a n m (ps.set (x.toNat-1) p) (A.set x p.x):=by
 have hlt:=(w.at hx).1;have qg:=(w.pn hx).2.2;obtain⟨e1,e2⟩:=VP w hx p;have nd:=w.nd;have hkx:∀j,GQ (pN ps x).kv=some j->j∈m.toList++ps.filterMap λp=>GQ p.kv:=λj hj=>Ao.2 (.inr (Ch.2 ⟨_,qg,hj⟩));have Zl:=nd;unfold Fo at Zl;simp only[BV,AL,not_or] at Zl;have qe:a≠n:=Zl.1.1;have hak:GQ (pN ps x).kv≠some a:=λe=>Zl.1.2 (hkx a e);have vi:GQ (pN ps x).kv≠some n:=λe=>Zl.2.1 (hkx n e);have NF:n<h.length:=w.lt n (by simp[Fo]);have h1n:h1[n]?=h[n]?:=ho n (by simp[Fo]) vi;have h1l:n<h1.length:=by have:=w.hn;rw[<-h1n] at this;exact(Ah.1 this).1
 have yu:∀j,GQ p.kv=some j->j≠n/\j≠a:=by
  intro j hj;rcases hi with hi|hi
  .rw[hi] at hj;exact⟨λe=>vi (e▸hj),λe=>hak (e▸hj)⟩
  .have:=hi j hj;have:=w.lt a (by simp[Fo]);omega
 refine⟨?_,?_,?_,?_,?_,?_,?_⟩;·simp only[Ar.set,if_pos hx];rw[w.e,Fh]
 .rw[It];exact w.il
 .rw[Aj (DQ qe),ho a (by simp[Fo]) hak,Bj];exact w.ha
 .rw[AN h1l]
 .intro q hq;by_cases hqp:q=p;·rw[hqp];exact hk.CW λid Ht=>by rw[Aj (DQ (yu id Ht).1)]
  .rw[e2] at hq;have hq2:q∈ps.take (x.toNat-1)++ps.drop (x.toNat-1+1):=by
    rcases Ao.1 hq with h7|h7
    .exact Ao.2 (.inl h7)
    .exact Ao.2 (.inr ((AL.1 h7).resolve_left hqp))
   have wZ:q∈ps:=by
    rcases Ao.1 hq2 with h7|h7
    .exact Bf h7
    .exact Bv h7
   refine(w.ks q wZ).CW λj hj=>?_;have h8:j∈Fo a n m ps:=Kd wZ hj;have h9:j≠n:=λe=>Zl.2.1 (e▸Ao.2 (.inr (Ch.2 ⟨q,wZ,hj⟩)));have VQ:GQ (pN ps x).kv≠some j:=by
    intro hjx;have h6:=(B7.1 Zl.2.2).2.1;rw[e1,Gq,Nt,hjx] at h6;simp only[B7,BV,AL,Ch] at h6;rcases Ao.1 hq2 with h7|h7
    .exact h6.2.2 j ⟨q,h7,hj⟩ j (.inl rfl) rfl
    .exact h6.2.1.1 ⟨q,h7,hj⟩
   rw[Aj (DQ h9),ho j h8 VQ]
 .have fr:∀j,GQ p.kv=some j->GQ (pN ps x).kv=some j\/j∉Fo a n m ps:=by
   intro j hj;rcases hi with hi|hi
   .exact .inl (hi▸hj)
   .exact .inr λhm=>by have:=hi j hj;have:=w.lt j hm;omega
  have h1:=nd;unfold Fo at h1 fr⊢;rw[e1,Gq,Nt] at h1;rw[e1,Gq,Nt] at fr;rw[e2,Gq,Nt];generalize List.filterMap (λp=>GQ p.kv) (ps.take (x.toNat-1))=T at h1 fr⊢;generalize List.filterMap (λp=>GQ p.kv) (ps.drop (x.toNat-1+1))=D at h1 fr⊢;cases hp:GQ p.kv with
  |none=>
   cases ho:GQ (pN ps x).kv with
   |none=>rw[ho] at h1;exact h1
   |some k=>rw[ho] at h1;refine h1.sublist ?_;simp
  |some j=>
   have:=fr j hp;cases ho:GQ (pN ps x).kv with
   |none=>rw[ho] at h1 this;simp only[BV,B7,AL,Ao] at h1 this⊢;grind
   |some k=>rw[ho] at h1 this;simp only[BV,B7,AL,Ao] at h1 this⊢;grind
 .rw[bg];refine w.mp.CW λid Ht=>?_;have h8:id∈m.toList++ps.filterMap λp=>GQ p.kv:=by simp[Ht]
  have h9:n≠id:=λe=>Zl.2.1 (e▸h8);have VQ:GQ (pN ps x).kv≠some id:=by intro Yy;exact(B7.1 Zl.2.2).2.2 id (by simp[Ht]) id (Ch.2 ⟨_,qg,Yy⟩) rfl
  rw[Aj h9,ho id (by unfold Fo;simp only[AL];exact .inr (.inr h8)) VQ]
end
section
variable{h h':Ad}{a n:Nat}{m:Option Nat}{ps:List PN}{A:Ar}{x:Int}{F:Nat->Prop}
theorem PA.pw(w:PA h a n m ps A):PW h (λi=>i∈Fo a n m ps) a A:=⟨n,m,ps,w,λ_=>Iff.rfl⟩
theorem L9.add{y:Eg}(lm:L9 A)(h1:A.len+1<=1000000000)(h2:y.Ax.length<=1000000000)(h3:y.data.length<=1000000000):L9 (A.add y):=by
 refine⟨?_,λx=>?_,λx=>?_⟩;·unfold Ar.len at h1;simp[Ar.add];omega
 .rw[HM];split;·exact h2
  .exact lm.at_ x
 .rw[HM];split;·exact h3
  .exact lm.data x
theorem L9.set{y:Eg}(lm:L9 A)(h2:y.Ax.length<=1000000000)(h3:y.data.length<=1000000000):L9 (A.set x y):=by
 refine⟨by rw[It];exact lm.n,λx=>?_,λx=>?_⟩<;>rw[IK]<;>split;·exact h2
 .exact lm.at_ x
 .exact h3
 .exact lm.data x
theorem qh{x y:Eg}:(A.add x).set (A.len+1) y=A.add y:=by
 unfold Ar.set;rw[if_pos (Di.2 (.inr rfl))];unfold Ar.add Ar.len;have e:((A.n.length:Int)+1).toNat-1=A.n.length:=by omega
 simp only[e];rw[B2 _ _ (Ac _),DC];rfl
theorem pH{p:PN}(w:PA h a n m ps A)(hx:A.has x)(hk:GQ p.kv=GQ (pN ps x).kv):Fo a n m (ps.set (x.toNat-1) p)=Fo a n m ps:=by obtain⟨e1,e2⟩:=VP w hx p;unfold Fo;rw[e2,Gq,Nt,hk];conv=>rhs;rw[e1,Gq,Nt]
theorem PA.wr(w:PA h a n m ps A)(hx:A.has x){k:Nat}(hk:k<13){v:Aa}(hv:v.cells=[v]){p:PN}(hp:p.row=(pN ps x).row.set k v)(h1:p.kv=(pN ps x).kv)(h2:p.x.AY=(A.nd x).AY):
  ∃h',Cv h 1 (Pt n (nP n x+k)) v=some h'/\PA h' a n m (ps.set (x.toNat-1) p) (A.set x p.x)/\Fo a n m (ps.set (x.toNat-1) p)=Fo a n m ps/\(∀i,i≠n->h'[i]?=h[i]?)/\h'.length=h.length:=by
 refine⟨_,w.sto hx hk hv hp rfl,w.uC hx (λi _ _=>rfl) (by rw[h1,h2];exact w.LF hx) (.inl (by rw[h1])),pH w hx (by rw[h1]),λi hi=>by rw[Aj (DQ hi)],Bj⟩
theorem PA.bh(w:PA h a n m ps A){h1:Ad}{Iz:List PN}{A':Ar}(w':PA h1 a n m Iz A')(hi:Fo a n m Iz=Fo a n m ps)(ho:∀i,i≠n->h1[i]?=h[i]?)(hl:h1.length=h.length):De h (λi=>i∈Fo a n m ps) h1 (λi=>i∈Fo a n m Iz):=
 ⟨by omega,λi _ hn=>ho i (λe=>hn (by rw[e];simp[Fo])),λi TX=> .inl (by rwa [hi] at TX)⟩
def Js(q:Bool)(d:Int):PN:=⟨{kind:=1,Cq:=q,Cy:=d},.slnil,.slnil,rfl⟩
theorem aLo(w:PA h a n m ps A)(lm:L9 A)(hb:A.len+1<=1000000000)(q:Bool):
  ∃h',BI cx 52 [Pt a 0,.bool q] h (I (A.len+1)) h'/\PA h' a h.length m (ps++[Js q (A.len+1)]) (A.add {kind:=1,Cq:=q,Cy:=A.len+1})/\(∀i,i<h.length->i≠a->i≠n->h'[i]?=h[i]?)/\h'.length=h.length+1:=by
 have ZH:=w.len;obtain⟨h1,r1,w1,o1,l1⟩:=qd w (by omega) (Js q 0) rfl rfl;have vq:=lm.add (y:=(Js q 0).x) hb (by simp[Js]) (by simp[Js]);have hx:(A.add (Js q 0).x).has (A.len+1):=Di.2 (.inr rfl);have hlen:(A.len+1).toNat-1=ps.length:=by omega
 have yu:pN (ps++[Js q 0]) (A.len+1)=Js q 0:=by unfold pN;rw[hlen];simp
 obtain⟨h2,s2,w2,_,o2,l2⟩:=w1.wr hx (k:=3) (by decide) (v:= I (A.len+1)) rfl (p:=Js q (A.len+1)) (by rw[yu];rfl) (by rw[yu];rfl) (by rw[HM,if_pos rfl];rfl);refine⟨h2,?_,?_,λi hi h3 h4=>?_,by omega⟩;·have r2:=H8 w1 vq hx;rw[Ab,i7,t52];have vr:BI cx 144 [Pt a 0,.agg [I 1,I 0,.slnil,I 0,I 0,.str [],.slnil,.str [],.str [],.str [],.bool q,I 0,I 0]] h (I (A.len+1)) h1:=r1;simp only[AB,Nat.reduceLeDiff,↓reduceIte,AK,Bi,vr.call,r2.call,s2]
 .rw[qh,hlen] at w2;rw[B2 _ _ (Ac _),DC] at w2;exact w2
 .rw[o2 i (by omega)];exact o1 i hi h3 h4
def Lg(k d:Int)(s:Ap):PN:=⟨{kind:=k,Cy:=d,data:=s},.slnil,.slnil,rfl⟩
theorem PA.Rh(w:PA h a n m ps A){p:PN}{h1:Ad}(hk:GQ p.kv=none)(o1:∀i,i<h.length->i≠a->i≠n->h1[i]?=h[i]?)(l1:h1.length=h.length+1):De h (λi=>i∈Fo a n m ps) h1 (λi=>i∈Fo a h.length m (ps++[p])):=by
 refine⟨by omega,λi hi hn=>o1 i hi (λe=>hn (by simp[Fo,e])) (λe=>hn (by simp[Fo,e])),λi hi=>?_⟩;rw[dB hk] at hi;simp only[AL] at hi;rcases hi with rfl|rfl|hi
 .exact .inl (by simp[Fo])
 .exact .inr (Ac _)
 .exact .inl (by unfold Fo;simp only[AL];exact .inr (.inr hi))
theorem vt{k:Int}{s:Ap}(w:PA h a n m ps A)(lm:L9 A)(hb:A.len+1<=1000000000)(hd:A.has x/\(A.nd x).kind=1):
  ∃h',BI cx 156 [Pt a 0,I x,.agg (Lg k 0 s).row] h (.tuple [I (A.len+1),I 0]) h'/\PA h' a h.length m (ps++[Lg k x s]) (A.add (Lg k x s).x)/\(∀i,i<h.length->i≠a->i≠n->h'[i]?=h[i]?)/\h'.length=h.length+1:=by
 have ZH:=w.len;obtain⟨h1,r1,w1,o1,l1⟩:=qd w (by omega) (Lg k x s) rfl rfl;refine⟨h1,?_,w1,o1,l1⟩;rw[PN.row] at r1;rw[Ab,nC,aA0,PN.row];simp only[AB,Bi,(bc (x:=x) w lm).call,if_pos hd.1,if_pos hd.2,ne_eq,Cn,Lg] at r1⊢;simp only[AB,r1.call]
theorem aLp{s:Ap}(w:PA h a n m ps A)(lm:L9 A)(hb:A.len+1<=1000000000)(hd:A.has x/\(A.nd x).kind=1):
  ∃h',BI cx 60 [Pt a 0,I x,.str s] h (.tuple [I (A.len+1),I 0]) h'/\PA h' a h.length m (ps++[Lg 5 x s]) (A.add (Lg 5 x s).x)/\(∀i,i<h.length->i≠a->i≠n->h'[i]?=h[i]?)/\h'.length=h.length+1:=by
 obtain⟨h1,r1,w1,o1,l1⟩:=vt (k:=5) (s:=s) w lm hb hd;refine⟨h1,?_,w1,o1,l1⟩;have vr:BI cx 156 [Pt a 0,I x,.agg [I 5,I 0,.slnil,I 0,I 0,.str [],.slnil,.str s,.str [],.str [],.bool false,I 0,I 0]] h (.tuple [I (A.len+1),I 0]) h1:=r1;rw[Ab,zM,t60];simp only[AB,Nat.reduceLeDiff,↓reduceIte,AK,Bi,vr.call]
theorem aGh{s:Ap}(w:PA h a n m ps A)(lm:L9 A)(hb:A.len+1<=1000000000)(hd:A.has x/\(A.nd x).kind=1):
  ∃h',BI cx 168 [Pt a 0,I x,.str s] h (.tuple [I (A.len+1),I 0]) h'/\PA h' a h.length m (ps++[Lg 6 x s]) (A.add (Lg 6 x s).x)/\(∀i,i<h.length->i≠a->i≠n->h'[i]?=h[i]?)/\h'.length=h.length+1:=by
 obtain⟨h1,r1,w1,o1,l1⟩:=vt (k:=6) (s:=s) w lm hb hd;refine⟨h1,?_,w1,o1,l1⟩;have vr:BI cx 156 [Pt a 0,I x,.agg [I 6,I 0,.slnil,I 0,I 0,.str [],.slnil,.str s,.str [],.str [],.bool false,I 0,I 0]] h (.tuple [I (A.len+1),I 0]) h1:=r1;rw[Ab,mc,aE4];simp only[AB,Nat.reduceLeDiff,↓reduceIte,AK,Bi,vr.call]
theorem aLq{s:Ap}(w:PA h a n m ps A)(lm:L9 A)(hx:A.has x)(hk:(A.nd x).kind=5):
  ∃h' Iz,BI cx 59 [Pt a 0,I x,.str s] h (I 0) h'/\PA h' a n m Iz (A.Rb x s)/\De h (λi=>i∈Fo a n m ps) h' (λi=>i∈Fo a n m Iz):=by
 have hp:=(w.pn hx).2.1;obtain⟨h2,s2,w2,i2,o2,l2⟩:=w.wr hx (k:=7) (by decide) (v:= .str s) rfl (p:=⟨{A.nd x with data:=s},(pN ps x).kv,(pN ps x).av,by rw[<-hp];exact(pN ps x).ok⟩) (by simp only[PN.row];rw[hp];rfl) rfl rfl;refine⟨h2,_,?_,w2,w.bh w2 i2 o2 l2⟩;rw[Ab,zL,t59];simp only[AB,Bi,GC,(Sl (x:=x) w).call,if_pos hx,ne_eq,Cn,(H8 w lm hx).call,w.f0 hx,hk,s2]
theorem vu{y:Int}:BI cx 259 [.sl 1 [[I y]]] h (.bool (decide (BS.Hn y))) h:=by
 have hv:AM 1 [[I y]] (.sl 1 [[I y]]):= .mk;have e1:([[I y]]:List (List Aa))[0]=[I y]:=rfl;rw[Ab,oT,aBF];simp only[AB,hv.len];refine Bb (λk:Nat=>[.bool false,I (k:Int)]) (λk h1=>k<=1/\(k=1->BS.Hn y)/\h1=h) (λk=>1 -k) 0 rfl ⟨AR _,λe=>by omega,rfl⟩ ?_;rintro k h1 ⟨hk,ha,rfl⟩;rcases AT k 1 with hlt|D1
 .obtain rfl:k=0:=by omega
  simp only[AB,Bi,show((0:Nat):Int)<((1:Nat):Int) by decide,hv.Fj (show 0<[[I y]].length from B8),e1,BF (show 0<9223372036854775807 by omega)];refine⟨λh2=>?_,λh2=>⟨λh3=>?_,λh3=>?_⟩⟩;·rw[AA (λhh=>by unfold BS.Hn at hh;omega)]
  .rw[AA (λhh=>by unfold BS.Hn at hh;omega)]
  .exact AF.next 1 rfl ⟨Ac _,λ_=>⟨by omega,by omega⟩,rfl⟩ (by omega)
 .obtain rfl:k=1:=by omega
  simp only[AB,Bi,show¬((1:Nat):Int)<((1:Nat):Int) by decide,Az (ha rfl)]
theorem VR{l out:List AU}{y:AU}:GA out (l++[y])=if(GA out l).any (λz=>decide (C7 y=C7 z)) then GA out l else GA out l++[y]:=by
 induction l generalizing out with
 |nil=>simp only[BG,GA];split<;>simp_all
 |cons z l ih=>
  rw[CB,GA,GA];split;·exact ih
  .exact ih
theorem aGi(y c:AU)(h:Ad):BI cx 289 [.agg c.row,.CA y.row] h (.bool (decide (C7 y=C7 c))) h:=by
 rw[Ab,o7,aBM,AU.row,AU.row];simp only[AB];refine⟨λh1=>?_,λh1=>?_⟩;·congr 2;rw[D0];simp[C7,h1]
 .rw[AA (λe=>h1 (by simp[C7] at e;exact e.1))]
theorem vw{F v:Aa}{l:List AU}{q:AU->Bool}(hv:LK h v l)(hb:l.length<=1000000000)(hF:cZ F h q):BI cx 174 [v,F] h (.bool (l.any q)) h:=by
 obtain⟨f,caps,rfl,hf,hr⟩:=hF;have key:BI cx 225 [v,.func (.func f) [] caps] h (I (B9 q 0 l)) h:=by
  rw[Ab,T8,zZ];simp only[AB,hv.len];refine Bb (λn:Nat=>[I 0,I (n:Int)]) (λn h1=>n<=l.length/\B9 q 0 l=B9 q n (l.drop n)/\h1=h) (λn=>l.length-n) 0 rfl ⟨AR _,rfl,rfl⟩ ?_;rintro n h1 ⟨ax,ha,rfl⟩;rcases AT n l.length with hlt|D1
  .have i1:(n:Int)<(l.length:Int):=by omega
   obtain⟨p,e1,e2⟩:=hv.at_ n hlt;rw[AG hlt,B9] at ha;simp only[AB,↓reduceIte,Dt,Bi,hf,i1,e1,e2,(hr l[n]).call,BF (show n<9223372036854775807 by omega)];rw[Cu];refine⟨λhe=>?_,λhe=>?_⟩;·rw[ha,if_pos he]
   .rw[if_neg (by simp[he])] at ha;exact AF.next (n+1) rfl ⟨hlt,ha,rfl⟩ (by omega)
  .have i1:¬(n:Int)<(l.length:Int):=by omega
   rw[A3 D1,B9] at ha;simp only[AB,↓reduceIte,Dt,Bi,i1,ha]
 rw[Ab,Zb,mf];simp only[AB,key.call];congr 2
 rcases GN (p:=q) (l:=l) (k:=0) with⟨h1,h2⟩|⟨n,y,h1,h2,h3⟩
 .rw[h1,eq_comm];have:=ZE.1 h2;simpa using this
 .rw[h1,eq_comm,Az (by omega),List.any_eq_true];exact⟨y,List.mem_of_find?_eq_some h3,List.find?_some h3⟩
theorem vy{l:List AU}{v:Aa}(hv:LK h v l)(hb:l.length<=1000000000)(hs:∀y∈l,BS.Hn y.AZ):BI cx 254 [v] h (.tuple [TD (Ce l),.bool true]) h:=by
 rw[Ab,oQ,aBC];simp only[AB,hv.len];refine Bb (λk:Nat=>[.slnil,.bool false,TD (Ce (l.take k)),I (k:Int)]) (λk h1=>k<=l.length/\h1=h) (λk=>l.length-k) 0 rfl ⟨AR _,rfl⟩ ?_;rintro k h1 ⟨hk,rfl⟩;rcases AT k l.length with hlt|D1
 .have i1:(k:Int)<(l.length:Int):=by omega
  obtain⟨p,p1,p2⟩:=hv.at_ k hlt;have inc:=BF (show k<9223372036854775807 by omega);have hsp:=hs _ (AI hlt);have r1:=vu (h:=h1) (y:=l[k].AZ);have hF:cZ (.func (.func 289) [] [.CA l[k].row]) h1 (λc=>decide (C7 l[k]=C7 c)):=⟨_,_,rfl,by decide,λc=>aGi l[k] c h1⟩;have uE:(Ce (l.take k)).length<=1000000000:=by have:=OW (l:=l.take k);rw[Al] at this;omega
  have r2:=vw (VO Uc) uE hF;have e1:Ce (l.take (k+1))=if(Ce (l.take k)).any (λz=>decide (C7 l[k]=C7 z)) then Ce (l.take k) else Ce (l.take k)++[l[k]]:=by rw[Av hlt];exact VR
  have e2:=AM.Jb (f:=AU.row) (a:=l[k]) (b:=40) (Uc (l:=Ce (l.take k))) (by have:=OW (l:=l.take k);rw[Al] at this;have:AS=140737488355328:=rfl;omega);have em:Aw (.Bx 3) [.agg l[k].row]=some (.sl 3 [l[k].row]):=rfl;rw[<-sR] at e2;rw[AU.row] at r2 em e2 p2;simp only[AB,Nat.reduceLeDiff,↓reduceIte,Bi,i1,p1,p2,GC,r1.call,Az hsp,r2.call,em,e2,inc];rw[Cu];refine⟨λh2=>?_,λh2=>?_⟩;·exact AF.next (k+1) (by rw[e1,if_neg (by simpa using h2)]) ⟨hlt,rfl⟩ (by omega)
  .exact AF.next (k+1) (by rw[e1,if_pos (by simpa using h2)]) ⟨hlt,rfl⟩ (by omega)
 .have i1:¬(k:Int)<(l.length:Int):=by omega
  simp only[AB,↓reduceIte,Bi,i1,Ay D1]
theorem aGj{l:List AU}{v:Aa}(w:PA h a n m ps A)(lm:L9 A)(hx:A.has x)(hk:(A.nd x).kind=4)(hv:LK h v l)(hb:l.length<=1000000000)(hs:∀y∈l,BS.Hn y.AZ):
  ∃h' Iz,BI cx 176 [Pt a 0,I x,v] h (I 0) h'/\PA h' a n m Iz (A.Iu x l)/\De h (λi=>i∈Fo a n m ps) h' (λi=>i∈Fo a n m Iz):=by
 have hp:=(w.pn hx).2.1;have r1:=vy hv hb hs;obtain⟨h2,s2,w2,i2,o2,l2⟩:=w.wr hx (k:=6) (by decide) (v:=TD (Ce l)) (AM.cells Uc) (p:=⟨{A.nd x with Ax:=Ce l},(pN ps x).kv,TD (Ce l),rfl⟩) (by simp only[PN.row];rw[hp];rfl) rfl rfl;refine⟨h2,_,?_,w2,w.bh w2 i2 o2 l2⟩;rw[Ab,mh,aE7];simp only[AB,Bi,GC,(Sl (x:=x) w).call,if_pos hx,ne_eq,Cn,(H8 w lm hx).call,w.f0 hx,hk,r1.call,s2]
theorem aGk(w:PA h a n m ps A)(hx:A.has x):BI cx 260 [Pt n (nP n x)] h (.bool (decide (YP (A.nd x)))) h:=by rw[Ab,oU,aBG];simp only[AB,Bi,w.f0 hx,w.f4 hx,w.f5 hx,YP];refine⟨λh1=>⟨λh2=>?_,λh2=>?_⟩,λh1=>?_⟩<;>simp[*]
end
section
variable{h h':Ad}{a n:Nat}{m:Option Nat}{ps:List PN}{A:Ar}{x:Int}{F:Nat->Prop}
def Pc(x:Int×Int):Aa×Aa:=(I x.1,I x.2)
theorem Zm{k:Int}:∀{l:List (Int×Int)} {i:Nat},(l.find? (λx=>decide (k=x.1))=none->Km k (l.map Pc) i=some none)/\∀y,l.find? (λx=>decide (k=x.1))=some y->∃j,Km k (l.map Pc) i=some (some (j,I y.2))
 |[],i=>⟨λ_=>rfl,λy h=>by cases h⟩
 |z::l,i=>by
  have ih:=Zm (k:=k) (l:=l) (i:=i+1);simp only[Bl,Pc,Km,I1];by_cases e:k=z.1;·simp only[e,D4,BK];exact⟨λh=>(by cases h),λy h=>⟨i,by cases h;rfl⟩⟩
  .simp only[e,Fg,D9];exact ih
theorem VN.get{f:Int->Int}(w:VN h m f)(k:Int):Ep (.d_ (I 0) true) h [.map m,I k]=some (h,if f k=0 then .tuple [I 0,.bool false] else .tuple [I (f k),.bool true]):=by
 rcases w with⟨rfl,h0⟩|⟨id,l,rfl,hc,hl⟩
 .rw[if_pos (h0 k)];rfl
 .have hl:=hl k;have hm:=Zm (k:=k) (l:=l) (i:=0);simp only[Ep,kT,hc];by_cases h0:f k=0
  .rw[if_pos h0] at hl⊢;have e:l.find? (λx=>decide (k=x.1))=none:=by
    cases hf:l.find? (λx=>decide (k=x.1)) with
    |none=>rfl
    |some y=>rw[hf] at hl;cases hl
   have:=hm.1 e;unfold Pc at this;rw[this];rfl
  .rw[if_neg h0] at hl⊢;cases hf:l.find? (λx=>decide (k=x.1)) with
   |none=>rw[hf] at hl;cases hl
   |some y=>rw[hf] at hl;simp only[BR,BA] at hl;obtain⟨j,e⟩:=hm.2 y hf;unfold Pc at e;rw[e,<-hl];rfl
theorem pI{id:Nat}{l:List (Int×Int)}{k v:Int}(hc:h[id]?=some (.map (l.map Pc)))(hn:l.find? (λx=>decide (k=x.1))=none):
  ∃h1,Ep (.ML (I 0)) h [.map (some id),I k]=some (h1,.tuple [I 0,I l.length])/\∃h2,Ep .LN h1 [.map (some id),I l.length,I v]=some (h2,.bool true)/\h2=h.set id (.map ((l++[(k,v)]).map Pc)):=by
 have Ht:=(Ah.1 hc).1;have hm:=(Zm (k:=k) (l:=l) (i:=0)).1 hn;refine⟨h.set id (.map (l.map Pc++[(I k,I 0)])),?_,_,?_,rfl⟩;·simp only[Ep,TQ,hc,hm,BR,Ai]
 .have e1:(h.set id (.map (l.map Pc++[(I k,I 0)])))[id]?=some (.map (l.map Pc++[(I k,I 0)])):=AN Ht;have e2:(l.map Pc++[(I k,I 0)])[l.length]?=some (I k,I 0):=by rw[Bg (by simp)];simp
  simp only[Ep,TR,e1,AQ,e2];rw[if_pos (by omega),List.set_set,B2 _ _ (by simp)];simp[Pc]
theorem PA.aGl(w:PA h a n m ps A):∀i∈m.toList++ps.filterMap (λp=>GQ p.kv),i<h.length/\i≠a/\i≠n:=by
 intro i hi;have h1:i∈Fo a n m ps:=by unfold Fo;simp only[AL];exact .inr (.inr hi)
 have h3:=w.nd;unfold Fo at h3;simp only[BV,AL,not_or] at h3;exact⟨w.lt i h1,λe=>h3.1.2 (e▸hi),λe=>h3.2.1 (e▸hi)⟩
theorem PA.aGm(w:PA h a n m ps A){h1:Ad}{m':Option Nat}{A':Ar}(e1:A'.n=A.n)(e2:A'.i.length=A'.n.length)(ha:h1[a]?=some (.cells [.Cl n 0 ps.length 13,.map m']))(ho:∀i,i<h.length->i≠a->m≠some i->h1[i]?=h[i]?)(hm:m'=m\/∃j,m'=some j/\h.length<=j)(hM:VN h1 m' A'.inr):PA h1 a n m' ps A':=by
 have nd:=w.nd;have Zl:=nd;unfold Fo at Zl;simp only[BV,AL,not_or] at Zl;have hnm:m≠some n:=λe=>Zl.2.1 (by simp[e]);refine⟨by rw[e1];exact w.e,e2,ha,?_,?_,?_,hM⟩;·rw[ho n (w.lt n (by simp[Fo])) (DQ Zl.1.1) hnm];exact w.hn
 .intro p hp;refine(w.ks p hp).CW λid Ht=>?_;have h1:id∈ps.filterMap (λp=>GQ p.kv):=Ch.2 ⟨p,hp,Ht⟩;have h2:=w.aGl id (Ao.2 (.inr h1));exact ho id h2.1 h2.2.1 λe=>(B7.1 Zl.2.2).2.2 id (by simp[e]) id h1 rfl
 .rcases hm with rfl|⟨j,rfl,hj⟩
  .exact nd
  .have h5:∀i∈ps.filterMap (λp=>GQ p.kv),i<h.length:=λi hi=>(w.aGl i (Ao.2 (.inr hi))).1;have h6:=w.lt a (by simp[Fo]);have h7:=w.lt n (by simp[Fo]);have h8:=(B7.1 Zl.2.2).2.1;unfold Fo;simp only[BV,AL,Option.toList_some,CB,BG,not_or];exact⟨⟨Zl.1.1,by omega,λhm=>Zl.1.2 (Ao.2 (.inr hm))⟩,⟨by omega,λhm=>Zl.2.1 (Ao.2 (.inr hm))⟩,λhm=>by have:=h5 j hm;omega,h8⟩
theorem aGn{i:Nat}(hm:m=some i):i∈Fo a n m ps:=by unfold Fo;simp[hm]
theorem PA.aGo(w:PA h a n m ps A){l:List (Int×Int)}{id:Nat}(hmi:m=some id)(hc:h[id]?=some (.map (l.map Pc)))(hl:∀k,(l.find? λx=>decide (k=x.1)).map (·.2)=if A.inr k=0 then none else some (A.inr k)){d i:Int}(hd:A.has d)(hi:A.has i)(hdi:d≠i)(h0:A.inr d=0)(zg:A.inr i=0):
  ∃h1 h2 h3,Ep (.ML (I 0)) h [.map m,I d]=some (h1,.tuple [I 0,I l.length])/\Ep .LN h1 [.map m,I l.length,I i]=some (h2,.bool true)/\
   Ep (.ML (I 0)) h2 [.map m,I i]=some (h3,.tuple [I 0,I ((l.length+1:Nat):Int)])/\∃h4,Ep .LN h3 [.map m,I ((l.length+1:Nat):Int),I i]=some (h4,.bool true)/\PA h4 a n m ps ((A.H5 d i).H5 i i)/\(∀j,j≠id->h4[j]?=h[j]?)/\h4.length=h.length:=by
 subst hmi;have Ht:=(Ah.1 hc).1;have fnone:∀k,A.inr k=0->l.find? (λx=>decide (k=x.1))=none:=by
  intro k hk;have:=hl k;rw[if_pos hk] at this;cases hf:l.find? (λx=>decide (k=x.1)) with
  |none=>rfl
  |some y=>rw[hf] at this;cases this
 obtain⟨h1,e1,h2,e2,rfl⟩:=pI (v:=i) hc (fnone d h0);have HH:(h.set id (.map ((l++[(d,i)]).map Pc)))[id]?=some (.map ((l++[(d,i)]).map Pc)):=AN Ht;obtain⟨h3,e3,h4,e4,rfl⟩:=pI (k:=i) (v:=i) HH (by rw[List.find?_append,fnone i zg];simp[DQ hdi]);simp only[As,Br] at e3 e4;refine⟨h1,_,h3,e1,e2,e3,_,e4,?_,?_,by simp⟩
 .have ida:id≠a:=λe=>by have:=w.nd;unfold Fo at this;simp[e] at this
  refine w.aGm (m':=some id) (A':=(A.H5 d i).H5 i i) rfl ?_ ?_ ?_ (.inl rfl) ?_;·simp only[Ar.H5];split<;>split<;>simp[w.il]
  .rw[Aj ida,Aj ida];exact w.ha
  .intro j hj hja hjm;have:id≠j:=λe=>hjm (by rw[e]);rw[Aj this,Aj this]
  .refine .inr ⟨id,l++[(d,i)]++[(i,i)],rfl,?_,λk=>?_⟩;·rw[AN (by simpa using Ht)];rfl
   .have il1:(A.H5 d i).i.length=(A.H5 d i).n.length:=by simp only[Ar.H5];split<;>simp[w.il]
    rw[Ot il1,Ot w.il,List.find?_append,List.find?_append];have wC:(A.H5 d i).has i:=hi;have hk:=hl k;have sS:i≠0:=by have:=hi.1;omega
    cases hf:l.find? (λx=>decide (k=x.1)) with
    |some y=>
     rw[hf] at hk;have cY:A.inr k≠0:=by intro e;rw[if_pos e] at hk;cases hk
     have n1:k≠i:=λe=>cY (e▸zg);have n2:k≠d:=λe=>cY (e▸h0);simp only[n1,n2,false_and,D9,Option.some_or];exact hk
    |none=>
     rw[hf] at hk;have cY:A.inr k=0:=by
      by_cases e:A.inr k=0;·exact e
      .rw[if_neg e] at hk;cases hk
     by_cases n2:k=d;·subst n2;simp[hdi,hd,sS]
     .by_cases n1:k=i;·subst n1;simp[n2,wC,sS]
      .simp[n1,n2,cY]
 .intro j hj;rw[Aj (DQ hj),Aj (DQ hj)]
theorem aGp(w:PA h a n m ps A)(lm:L9 A)(hb:A.len+1<=1000000000)(hx:A.has x):
  ∃h' n' m' Iz,BI cx 261 [Pt a 0,I x] h (I (A.ET x)) h'/\PA h' a n' m' Iz (A.CU x)/\De h (λi=>i∈Fo a n m ps) h' (λi=>i∈Fo a n' m' Iz):=by
 have l1:A6 h none (Pt a 1)=some (.map m):=by simp only[A6,w.ha];rfl
 have g1:=w.mp.get x;by_cases h0:A.inr x=0
 .obtain⟨h1,r1,w1,o1,len1⟩:=aLo w lm hb false;have x1:=w.Rh (p:=Js false (A.len+1)) rfl o1 len1;have hN:A.ET x=A.len+1:=by unfold Ar.ET;rw[if_neg (by simp[h0])]
  have hA:A.CU x=((A.add {kind:=1,Cy:=A.len+1}).H5 x (A.len+1)).H5 (A.len+1) (A.len+1):=by unfold Ar.CU;rw[if_neg (by simp[h0])]
  have qi:∀k,(A.add {kind:=1,Cq:=false,Cy:=A.len+1}).inr k=A.inr k:=λk=>T5 w.il;have LX:(A.add {kind:=1,Cq:=false,Cy:=A.len+1}).has x:=Di.2 (.inl hx);have Tw:(A.add {kind:=1,Cq:=false,Cy:=A.len+1}).has (A.len+1):=Di.2 (.inr rfl);have hne:=Vw hx;have zg:A.inr (A.len+1)=0:=by unfold Ar.inr;rw[if_neg Qb]
  have l2:A6 h1 none (Pt a 1)=some (.map m):=by simp only[A6,w1.ha];rfl
  rw[if_pos h0] at g1;rcases w1.mp with⟨rfl,hz⟩|⟨id,l,rfl,hc,hl⟩
  .have WG:=w1.ha;have hal:a<h1.length:=w1.lt a (by simp[Fo]);have NH:(h1++[Dc.map []])[a]?=some (.cells [.Cl h.length 0 (ps++[Js false (A.len+1)]).length 13,.map none]):=by rw[Af hal];exact WG
   have es:Cv (h1++[Dc.map []]) 1 (Pt a 1) (.map (some h1.length))=some ((h1++[Dc.map []]).set a (.cells [.Cl h.length 0 (ps++[Js false (A.len+1)]).length 13,.map (some h1.length)])):=by simp only[Cv,NH];rfl
   have gF:((h1++[Dc.map []]).set a (.cells [.Cl h.length 0 (ps++[Js false (A.len+1)]).length 13,.map (some h1.length)]))[a]?=some (.cells [.Cl h.length 0 (ps++[Js false (A.len+1)]).length 13,.map (some h1.length)]):=AN (by simp;omega);have el:A6 ((h1++[Dc.map []]).set a (.cells [.Cl h.length 0 (ps++[Js false (A.len+1)]).length 13,.map (some h1.length)])) none (Pt a 1)=some (.map (some h1.length)):=by simp only[A6,gF];rfl
   have gh:((h1++[Dc.map []]).set a (.cells [.Cl h.length 0 (ps++[Js false (A.len+1)]).length 13,.map (some h1.length)]))[h1.length]?=some (.map (([]:List (Int×Int)).map Pc)):=by rw[Aj (by omega),Bg (Ac _),DC];rfl
   have w2:PA ((h1++[Dc.map []]).set a (.cells [.Cl h.length 0 (ps++[Js false (A.len+1)]).length 13,.map (some h1.length)])) a h.length (some h1.length) (ps++[Js false (A.len+1)]) (A.add {kind:=1,Cq:=false,Cy:=A.len+1}):=by refine w1.aGm rfl w1.il gF (λi hi hia _=>by rw[Aj (DQ hia),Af hi]) (.inr ⟨_,rfl,Ac _⟩) (.inr ⟨h1.length,[],rfl,gh,λk=>by rw[if_pos (hz k)];rfl⟩)
   obtain⟨k1,k2,k3,m1,m2,m3,k4,m4,w3,o3,len3⟩:=w2.aGo rfl gh (λk=>by rw[if_pos (hz k)];rfl) LX Tw hne ((qi x).trans h0) ((qi _).trans zg);refine⟨k4,_,_,_,?_,hA▸w3,⟨by rw[len3];simp;omega,λi hi hin=>?_,λi hi=>?_⟩⟩;·simp only[BT] at m1 m2 m3 m4;rw[Ab,T9,aa,hN];simp only[AB,l1,g1,r1.call,l2,show Aw (.GV false .mp) [.map none,.map none]=some (.bool true) from rfl,es,el,m1,m2,m3,m4]
   .have h5:=x1.old i hi hin;have hia:i≠a:=λe=>hin (by simp[Fo,e]);rw[o3 i (by omega),Aj (DQ hia),Af (by omega),h5]
   .unfold Fo at hi;simp only[AL,Option.toList_some,CB,BG] at hi;rcases hi with rfl|rfl|rfl|hi
    .exact .inl (by simp[Fo])
    .exact .inr (Ac _)
    .exact .inr (by omega)
    .exact x1.own i (by unfold Fo;simp only[AL,Option.toList_none,BG];exact .inr (.inr hi))
  .obtain⟨k1,k2,k3,m1,m2,m3,k4,m4,w3,o3,len3⟩:=w1.aGo rfl hc hl LX Tw hne ((qi x).trans h0) ((qi _).trans zg);refine⟨k4,_,_,_,?_,hA▸w3,⟨by omega,λi hi hin=>?_,x1.own⟩⟩;·rw[Ab,T9,aa,hN];simp only[AB,l1,g1,r1.call,l2,show Aw (.GV false .mp) [.map (some id),.map none]=some (.bool false) from rfl,m1,m2,m3,m4]
   .rw[o3 i (λe=>hin (e▸aGn rfl))];exact x1.old i hi hin
 .have hN:A.ET x=A.inr x:=by unfold Ar.ET;rw[if_pos h0]
  have hA:A.CU x=A:=by unfold Ar.CU;rw[if_pos h0]
  refine⟨h,n,m,ps,?_,by rw[hA];exact w,.refl⟩;rw[if_neg h0] at g1;rw[Ab,T9,aa,hN];simp only[AB,l1,g1]
theorem L9.VS(lm:L9 A)(h1:A.len+1<=1000000000):L9 (A.CU x):=by
 unfold Ar.CU;split;·exact lm
 .have:=lm.add (y:={kind:=1,Cy:=A.len+1}) h1 (by simp) (by simp);exact⟨this.n,this.at_,this.data⟩
theorem sT(hk:A.has x){d:Int}:(A.CU d).nd x=A.nd x:=Vu (.inl (Vw hk))
theorem aGq{l:List AU}{v:Aa}{d sp:Int}{nm:Ap}(w:PA h a n m ps A)(lm:L9 A)(hb:A.len+3<=1000000000)(hd:A.has d/\(A.nd d).kind=1)(hsp:BS.Hn sp)(hv:Bw l v)(hl:l.length<=1000000000)(hs:∀y∈l,BS.Hn y.AZ):
  ∃h' n' m' Iz,BI cx 184 [Pt a 0,I d,I sp,.str nm,v] h (.tuple [I (A.len+1),I 0]) h'/\PA h' a n' m' Iz (A.elem d sp nm l)/\De h (λi=>i∈Fo a n m ps) h' (λi=>i∈Fo a n' m' Iz)/\L9 (A.elem d sp nm l):=by
 have ZH:=w.len;have r0:=vy (h:=h) (VO hv) hl hs;obtain⟨u,hu⟩:∃u,u=TD (Ce l):=⟨_,rfl⟩;rw[<-hu] at r0;have ZI:(Ce l).length<=1000000000:=by have:=OW (l:=l);omega
 have r00:=vu (h:=h) (y:=sp);rw[Az hsp] at r00;obtain⟨h1,r1,w1,o1,l1⟩:=qd w (by omega) ⟨{kind:=4,Cy:=d,AZ:=sp,name:=nm,Ax:=Ce l},.slnil,u,hu⟩ rfl rfl;have vq:=lm.add (y:={kind:=4,Cy:=d,AZ:=sp,name:=nm,Ax:=Ce l}) (by omega) ZI (by simp);have LX:(A.add {kind:=4,Cy:=d,AZ:=sp,name:=nm,Ax:=Ce l}).has (A.len+1):=Di.2 (.inr rfl);have LV:(A.add {kind:=4,Cy:=d,AZ:=sp,name:=nm,Ax:=Ce l}).nd (A.len+1)={kind:=4,Cy:=d,AZ:=sp,name:=nm,Ax:=Ce l}:=by rw[HM,if_pos rfl]
 have x1:=w.Rh (p:=⟨{kind:=4,Cy:=d,AZ:=sp,name:=nm,Ax:=Ce l},.slnil,u,hu⟩) rfl o1 l1;have vr:BI cx 144 [Pt a 0,.agg [I 4,I 0,.slnil,I d,I sp,.str nm,u,.str [],.str [],.str [],.bool false,I 0,I 0]] h (I (A.len+1)) h1:=r1;have r2:=H8 w1 vq LX;have r3:=aGk w1 LX;rw[LV] at r3;have hc:u.cells=[u]:=by rw[hu];exact AM.cells Uc
 unfold Ar.elem;simp only
 by_cases hT:YP {kind:=4,Cy:=d,AZ:=sp,name:=nm,Ax:=Ce l}
 .rw[if_pos hT];rw[Az hT] at r3;have YS:(A.add {kind:=4,Cy:=d,AZ:=sp,name:=nm,Ax:=Ce l}).has d:=Di.2 (.inl hd.1);obtain⟨h2,n2,m2,jJ,r4,w2,x2⟩:=aGp w1 vq (by rw[OV];omega) YS;have lm2:=vq.VS (x:=d) (by rw[OV];omega);have Xv:((jJ.length:Nat):Int)=((A.add {kind:=4,Cy:=d,AZ:=sp,name:=nm,Ax:=Ce l}).CU d).len:=w2.len;have pJ:((A.add {kind:=4,Cy:=d,AZ:=sp,name:=nm,Ax:=Ce l}).CU d).len<=A.len+2:=by rw[sB,OV];split<;>omega
  obtain⟨h3,r5,w3,o3,l3⟩:=qd w2 (by omega) ⟨{kind:=2,DT:=A.len+1,Cy:=(A.add {kind:=4,Cy:=d,AZ:=sp,name:=nm,Ax:=Ce l}).ET d},.slnil,.slnil,rfl⟩ rfl rfl;obtain⟨qs,hqs⟩:∃qs,qs=jJ++[⟨{kind:=2,DT:=A.len+1,Cy:=(A.add {kind:=4,Cy:=d,AZ:=sp,name:=nm,Ax:=Ce l}).ET d},.slnil,.slnil,rfl⟩]:=⟨_,rfl⟩;have x3:=w2.Rh (p:=⟨{kind:=2,DT:=A.len+1,Cy:=(A.add {kind:=4,Cy:=d,AZ:=sp,name:=nm,Ax:=Ce l}).ET d},.slnil,.slnil,rfl⟩) rfl o3 l3;rw[<-hqs] at w3 x3;have lm3:=lm2.add (y:={kind:=2,DT:=A.len+1,Cy:=(A.add {kind:=4,Cy:=d,AZ:=sp,name:=nm,Ax:=Ce l}).ET d}) (by omega) (by simp) (by simp);have r5':BI cx 144 [Pt a 0,.agg [I 2,I 0,.slnil,I ((A.add {kind:=4,Cy:=d,AZ:=sp,name:=nm,Ax:=Ce l}).ET d),I 0,.str [],.slnil,.str [],.str [],.str [],.bool false,I 0,I (A.len+1)]] h2 _ h3:=r5;have Yy:=Mv (h:=d) LX;have qj:=Di (x:={kind:=2,DT:=A.len+1,Cy:=(A.add {kind:=4,Cy:=d,AZ:=sp,name:=nm,Ax:=Ce l}).ET d}).2 (.inl Yy);have vz:(((A.add {kind:=4,Cy:=d,AZ:=sp,name:=nm,Ax:=Ce l}).CU d).add {kind:=2,DT:=A.len+1,Cy:=(A.add {kind:=4,Cy:=d,AZ:=sp,name:=nm,Ax:=Ce l}).ET d}).nd (A.len+1)={kind:=4,Cy:=d,AZ:=sp,name:=nm,Ax:=Ce l}:=by rw[Lb Yy,sT LX,LV]
  have r6:=H8 w3 lm3 qj;have hp:=(w3.pn qj).2.1;rw[vz] at hp;obtain⟨h4,s4,w4,i4,o4,l4⟩:=w3.wr qj (k:=11) (by decide) (v:= I (((A.add {kind:=4,Cy:=d,AZ:=sp,name:=nm,Ax:=Ce l}).CU d).len+1)) rfl (p:=⟨{kind:=4,Cy:=d,AZ:=sp,name:=nm,Ax:=Ce l,cont:=((A.add {kind:=4,Cy:=d,AZ:=sp,name:=nm,Ax:=Ce l}).CU d).len+1},(pN qs (A.len+1)).kv,(pN qs (A.len+1)).av,by have:=(pN qs (A.len+1)).ok;rw[hp] at this;exact this⟩) (by simp only[PN.row];rw[hp];rfl) rfl (by rw[vz]);refine⟨h4,_,_,_,?_,w4,x1.trans (x2.trans (x3.trans (w3.bh w4 i4 o4 l4))),lm3.set ZI (by simp)⟩;rw[Ab,Zc,ml];simp only[AB,Nat.reduceLeDiff,↓reduceIte,AK,Bi,(bc (x:=d) w lm).call,if_pos hd.1,if_pos hd.2,ne_eq,Cn,r0.call,GC,r00.call,hc,vr.call,r2.call,r3.call,r4.call,r5'.call,r6.call,s4]
 .rw[if_neg hT];rw[AA hT] at r3;refine⟨h1,_,_,_,?_,w1,x1,vq⟩;rw[Ab,Zc,ml];simp only[AB,Nat.reduceLeDiff,↓reduceIte,AK,Bi,(bc (x:=d) w lm).call,if_pos hd.1,if_pos hd.2,ne_eq,Cn,r0.call,GC,r00.call,hc,vr.call,r2.call,r3.call]
end
section
variable{h h':Ad}{a n:Nat}{m:Option Nat}{ps:List PN}{A:Ar}{x:Int}{F:Nat->Prop}
theorem XQ{α:Type}{p q:α->Bool}{y:α}:∀{l:List α},(∀x∈l,p x=true->q x=true)->y∈l->p y=false->q y=true->(l.filter p).length<(l.filter q).length
 |[],_,h,_,_=>by cases h
 |x::l,hi,hy,hp,hq=>by
  have le:∀{l:List α},(∀x∈l,p x=true->q x=true)->(l.filter p).length<=(l.filter q).length:=by
   intro l;induction l with
   |nil=>intro _;simp
   |cons z l ih=>
    intro hi;have:=ih λx hx=>hi x (by simp[hx]);rw[JP,JP];split;·rename_i hz;rw[if_pos (hi z (by simp) hz)];simp;exact this
    .split;·simp;omega
     .exact this
  have hl:=λx (hx:x∈l)=>hi x (by simp[hx]);rw[JP,JP];rcases AL.1 hy with rfl|hy
  .rw[if_neg (by simp[hp]),if_pos hq];have:=le hl;simp;omega
  .have ih:=XQ hl hy hp hq;split;·rename_i hz;rw[if_pos (hi x (by simp) hz)];simp;exact ih
   .split;·simp;omega
    .exact ih
theorem jK{r:Int->Nat}{k y:Int}(hr:∀h,A.has h->A.up h≠0->r (A.up h)<r h)(hR:Reach A k y)(hy:A.has y):r k<=r y:=by
 induction hR with
 |refl=>exact Ac _
 |@step z h1 h2 ih=>
  by_cases hz:A.has (A.up z);·have:=ih hz;have:=hr z hy h1;omega
  .cases h2 with
   |refl=>have:=hr z hy h1;omega
   |step h3 _=>exact absurd (Vs hz) h3
open Classical in
theorem jL{e:Int}(ok:Eu A e):∃r:Int->Nat,(∀h,A.has h->A.up h≠0->r (A.up h)<r h)/\∀h,r h<=A.n.length:=by
 obtain⟨r,hr⟩:=ok.YR;refine⟨λh=>((List.range A.n.length).filter λ(i:Nat)=>decide (Reach A ((i:Int)+1) h/\(i:Int)+1≠h)).length,λh hh hu=>?_,λh=>?_⟩
 .have vh:=iG ok hh hu;have Il:=vh;unfold Ar.has at Il;have e1:(((A.up h).toNat-1:Nat):Int)+1=A.up h:=by omega
  refine XQ (y:=(A.up h).toNat-1) (λi _ hi=>?_) (List.mem_range.2 (by omega)) ?_ ?_;·rw[DJ] at hi⊢;refine⟨.step hu hi.1,λe=>?_⟩;have h1:=jK hr hi.1 vh;have h2:=hr h hh hu;rw[e] at h1;omega
  .rw[e1];simp
  .rw[e1,DJ];exact⟨.step hu .refl,uy ok hh hu⟩
 .have:=List.length_filter_le (λ(i:Nat)=>decide (Reach A ((i:Int)+1) h/\(i:Int)+1≠h)) (List.range A.n.length);rwa [List.length_range] at this
theorem PA.cell(w:PA h a n m ps A)(hx:A.has x){k:Nat}(hk:k<13):(ps.map PN.row).flatten[0+(x.toNat-1)*13+k]?=(pN ps x).row[k]?:=by rw[BJ];exact Ke (dA ps) hk (by rw[Cr,(w.pn hx).1];rfl)
open Classical in
theorem VT(w:PA h a n m ps A){up:Int}{r:Int->Nat}{e:Int}(ok:Eu A e)(hr:∀h,A.has h->A.up h≠0->r (A.up h)<r h)(vh:up≠0):∀(fuel:Nat) (x:Int),(x=0\/(A.has x/\r x<fuel))->KA (ps.map PN.row).flatten 0 ps.length up fuel x=some (decide (Reach A up x))
 |fuel,x,hx=>by
  by_cases h0:x=0
  .subst h0;have no:¬Reach A up 0:=by
    intro hR;cases hR with
    |refl=>exact vh rfl
    |step h1 _=>exact h1 (Vs (by unfold Ar.has;omega))
   rw[AA no];cases fuel<;>rfl
  .have hx:=hx.resolve_left h0;cases fuel with
   |zero=>omega
   |succ fuel=>
    have e1:KA (ps.map PN.row).flatten 0 ps.length up (fuel+1) x=if x=up then some true else if 1<=x/\x<=ps.length then
      match F7 (ps.map PN.row).flatten 0 x 1,F7 (ps.map PN.row).flatten 0 x 12 with
      |some p,some q=>KA (ps.map PN.row).flatten 0 ps.length up fuel (if p=0 then q else p)
      |_,_=>none
     else none:=by
     rw[KA];·rfl
     .exact λh=>h0 h
    rw[e1];by_cases uk:x=up;·rw[if_pos uk,uk,Az .refl]
    .rw[if_neg uk,if_pos (by have:=hx.1;have:=w.a_;unfold Ar.has at*;omega)];have c1:F7 (ps.map PN.row).flatten 0 x 1=some (A.nd x).E6:=by unfold F7;rw[w.cell hx.1 (by decide),<-(w.pn hx.1).2.1];rfl
     have c2:F7 (ps.map PN.row).flatten 0 x 12=some (A.nd x).DT:=by unfold F7;rw[w.cell hx.1 (by decide),<-(w.pn hx.1).2.1];rfl
     rw[c1,c2];simp only
     have eu:(if(A.nd x).E6=0 then(A.nd x).DT else(A.nd x).E6)=A.up x:=by unfold Ar.up;by_cases h:(A.nd x).E6=0<;>simp[h]
     rw[eu];have ih:=VT w ok hr vh fuel (A.up x) (by
      by_cases hu:A.up x=0;·exact .inl hu
      .exact .inr ⟨iG ok hx.1 hu,by have:=hr x hx.1 hu;omega⟩)
     rw[ih];congr 1
     rw[D0];constructor
     .intro h1;by_cases hu:A.up x=0
      .rw[hu] at h1;cases h1 with
       |refl=>exact absurd rfl vh
       |step h3 _=>exact absurd (Vs (by unfold Ar.has;omega)) h3
      .exact .step hu h1
     .intro h1;cases h1 with
      |refl=>exact absurd rfl uk
      |step _ h2=>exact h2
open Classical in
theorem aGr{up e:Int}(w:PA h a n m ps A)(ok:Eu A e)(hu:A.has up)(hx:A.has x):BI cx 233 [Pt a 0,I up,I x] h (.bool (decide (Reach A up x))) h:=by
 obtain⟨r,hr,hrn⟩:=jL ok;have NF:=w.a_;have hc:=VT w ok hr (up:=up) (by have:=hu.1;omega) (ps.length+1) x (.inr ⟨hx,by have:=hrn x;omega⟩);have e1:Ep (.PK Mk) h [Pt a 0,I up,I x]=some (h,.bool (decide (Reach A up x))):=by simp only[Ep,Mk,w.ha,w.hn];rw[if_pos (by rw[bd];omega),if_pos (by unfold Ar.has at hu hx;omega),hc];rfl
 rw[Ab,show B5 cx 233 [Pt a 0,I up,I x]=Ml [Pt a 0,I up,I x] from rfl,Ml];simp only[AB,e1]
structure Qh(h:Ad)(v:Aa)(l:List Int):Prop where
 len:Aw (.len false) [v]=some (I (l.length:Int))
 at_:∀k (hk:k<l.length),∃p,Aw (.Fj 1) [v,I (k:Int)]=some p/\A6 h none p=some (I l[k])
theorem Jf.Sm{kv:Aa}{l:List Int}(hk:Jf h kv l):Qh h kv l:=by
 refine⟨hk.len,λk hlt=>?_⟩;rcases hk with⟨rfl,rfl⟩|⟨id,cs,rfl,hc⟩
 .simp at hlt
 .refine⟨Pt id k,by have:=EX (id:=id) (z:=1) (k:= .i64) hlt;rwa [Kj] at this,?_⟩;simp only[A6,hc,Et];rw[Af (by simpa using hlt)];simp[hlt]
theorem Dg.Sm{v:Aa}{l:List Int}(hv:Dg l v):Qh h v l:=⟨AM.Cp hv,λk hk=>⟨_,AM.Bz hv hk,rfl⟩⟩
theorem aB5{v:Aa}{l:List Int}(hv:Qh h v l)(hb:l.length<=1000000000)(x:Int):BI cx 57 [v,I x] h (I (B9 (λy=>decide (x=y)) 0 l)) h:=by
 rw[Ab,zJ,t57];simp only[AB,hv.len];refine Bb (λk:Nat=>[I 0,I (k:Int)]) (λk h1=>k<=l.length/\B9 (λy=>decide (x=y)) 0 l=B9 (λy=>decide (x=y)) k (l.drop k)/\h1=h) (λk=>l.length-k) 0 rfl ⟨AR _,rfl,rfl⟩ ?_;rintro k h1 ⟨hk,ha,rfl⟩;rcases AT k l.length with hlt|D1
 .have i1:(k:Int)<(l.length:Int):=by omega
  obtain⟨p,e1,e2⟩:=hv.at_ k hlt;rw[AG hlt,B9] at ha;simp only[AB,Bi,i1,e1,e2,BF (show k<9223372036854775807 by omega)];refine⟨λh2=>?_,λh2=>?_⟩;·rw[ha,if_pos (by simpa using h2)]
  .rw[if_neg (by simpa using h2)] at ha;exact AF.next (k+1) rfl ⟨hlt,ha,rfl⟩ (by omega)
 .have i1:¬(k:Int)<(l.length:Int):=by omega
  rw[A3 D1,B9] at ha;simp only[AB,Bi,i1,ha]
theorem Zn{l:List Int}{x:Int}(hx:x∈l):∃k,k<l.length/\B9 (λy=>decide (x=y)) 0 l=(k:Int)/\l[k]?=some x/\l.takeWhile (λy=>decide (y≠x))=l.take k/\l.dropWhile (λy=>decide (y≠x))=l.drop k:=by
 have key:∀(l:List Int) (s:Nat),x∈l->∃k,k<l.length/\B9 (λy=>decide (x=y)) s l=((s+k:Nat):Int)/\l[k]?=some x/\l.takeWhile (λy=>decide (y≠x))=l.take k/\l.dropWhile (λy=>decide (y≠x))=l.drop k:=by
  intro l;induction l with
  |nil=>intro s h;cases h
  |cons z l ih=>
   intro s h;by_cases e:x=z;·subst e;exact⟨0,by simp,by rw[B9,if_pos (by simp)];simp,rfl,by simp,by simp⟩
   .have h2:x∈l:=(AL.1 h).resolve_left e;obtain⟨k,k1,k2,k3,k4,k5⟩:=ih (s+1) h2;have e':z≠x:=λe2=>e e2.symm;refine⟨k+1,by simp;exact k1,by rw[B9,if_neg (by simpa using e),k2];congr 1;omega,by simpa using k3,?_,?_⟩;·rw[List.takeWhile_cons,if_pos (by simpa using e'),k4];rfl
    .rw[List.dropWhile_cons,if_pos (by simpa using e'),k5];rfl
 obtain⟨k,k1,k2,k3⟩:=key l 0 hx;exact⟨k,k1,by simpa using k2,k3⟩
theorem Ri{l:List Int}{x:Int}{k:Nat}(hn:l.Nodup)(hk:l[k]?=some x):l.take k++l.drop (k+1)=l.filter λy=>decide (y≠x):=by
 obtain⟨hlt,e⟩:=Ah.1 hk;have e1:l=l.take k++x::l.drop (k+1):=by conv=>lhs;rw[<-CK k l,AG hlt,e]
 rw[e1,B7,BV] at hn;conv=>rhs;rw[e1,EA,JP,if_neg (by simp)]
 rw[List.filter_eq_self.2 (λy hy=>by simpa using λe2:y=x=>hn.2.2 y hy x (by simp) e2),List.filter_eq_self.2 (λy hy=>by simpa using λe2:y=x=>hn.2.1.1 (e2▸hy))]
theorem aB6{id l k:Nat}(hl:0<l)(hk:k<=l):Aw (.Hq 1 false false true) [.Cl id 0 l 1,I (k:Int)]=some (.Cl id 0 k 1):=by
 have e1:EJ (k:Int) l=some k:=by unfold EJ;rw[if_pos (by omega)];rfl
 simp[Aw,I5,DI,e1];omega
theorem aB7{id l k:Nat}(hk:k<=l):Aw (.Hq 1 false true false) [.Cl id 0 l 1,I (k:Int)]=some (if k<l then .Cl id k (l-k) 1 else .sl 1 []):=by
 have e1:EJ (k:Int) l=some k:=by unfold EJ;rw[if_pos (by omega)];rfl
 simp[Aw,I5,DI,e1];split<;>rfl
theorem aGs{id k:Nat}{l:List Int}{cs:List Aa}(hc:h[id]?=some (.cells (l.map (Aa.int .i64)++cs)))(hk:k<l.length)(hb:l.length<=1000000000):
  ∃Gc,BI cx 277 [.Cl id 0 l.length 1,I (k:Int),I ((k+1:Nat):Int)] h (.Cl id 0 (l.length-1) 1) (h.set id (.cells ((l.take k++l.drop (k+1)).map (Aa.int .i64)++Gc))):=by
 have Ht:=(Ah.1 hc).1;have hll:(l.take k++l.drop (k+1)).length=l.length-1:=by rw[As,Al,A8];omega
 obtain⟨QJ,eg,hcl⟩:∃QJ,Fk h 1 8 (.Cl id 0 k 1) (if k+1<l.length then .Cl id (k+1) (l.length-(k+1)) 1 else .sl 1 [])=some (h.set id (.cells ((l.take k++l.drop (k+1)).map (Aa.int .i64)++QJ)),.Cl id 0 (l.length-1) 1)/\1<=QJ.length:=by
  have er:Ge h 1 (if k+1<l.length then .Cl id (k+1) (l.length-(k+1)) 1 else .sl 1 [])=some ((l.drop (k+1)).map Cb):=by
   by_cases OH:k+1<l.length;rotate_left;·rw[if_neg OH,A3 (by omega)];rfl
   rw[if_pos OH];have e2:=L1 (l:=l.drop (k+1)) (cs:=cs) (pre:=(l.take (k+1)).map (Aa.int .i64));rw[<-AD,<-BH,CK] at e2;simp only[Ai,Al,A8] at e2;rw[Cm (by omega)] at e2;simp only[Ge,BK,hc,e2];rw[if_pos (by simp;omega)]
  by_cases bj:k+1=l.length
  .refine⟨I l[k]::cs,?_,by simp⟩;have ed:l.drop (k+1)=[]:=A3 (by omega);rw[ed] at er⊢;have e3:l.map (Aa.int .i64)++cs=(l.take k++[]).map (Aa.int .i64)++ I l[k]::cs:=by
    have:l=l.take k++[l[k]]:=by conv=>lhs;rw[<-CK k l,AG hk,ed]
    conv=>lhs;rw[this,BH,AD]
    rw[BC];rfl
   have e4:h.set id (.cells ((l.take k++[]).map (Aa.int .i64)++ I l[k]::cs))=h:=by rw[<-e3];obtain⟨Xv,e5⟩:=Ah.1 hc;rw[<-e5,RC]
   simp only[Fk,er,DP,BK];rw[e4,show l.length-1=k by omega]
  .obtain⟨y,l2,hd⟩:∃y l2,l.drop (k+1)=y::l2:=⟨_,_,AG (show k+1<l.length by omega)⟩;have pJ:(y::l2).length=l.length-(k+1):=by rw[<-hd,A8]
   rw[hd] at er;have aGt:∀l3:List Int,(l3.map Cb).flatten=l3.map (Aa.int .i64):=by
    intro l3;induction l3 with
    |nil=>rfl
    |cons z l3 ih=>simp[Cb,ih]
   refine⟨(l.map (Aa.int .i64)++cs).drop (l.length-1),?_,by simp;omega⟩;simp only[Fk,er,Bl,hc,BK];have e6:(Cb y::l2.map Cb).length=l.length-(k+1):=by rw[<-pJ];simp
   have e7:(Cb y::l2.map Cb).flatten=(y::l2).map (Aa.int .i64):=by have:=aGt (y::l2);simpa using this
   rw[e6,e7,if_pos (by simp;omega)];have e8:(l.map (Aa.int .i64)++cs).take (0+k*1)=(l.take k).map (Aa.int .i64):=by rw[BJ,Kj,CT (by simp;omega),HS]
   rw[e8,hd,show 0+(k+(l.length-(k+1)))*1=l.length-1 by omega,show k+(l.length-(k+1))=l.length-1 by omega];simp
 generalize v_:h.set id (.cells ((l.take k++l.drop (k+1)).map (Aa.int .i64)++QJ))=h2 at eg;have HH:h2[id]?=some (.cells ((l.take k++l.drop (k+1)).map (Aa.int .i64)++QJ)):=by rw[<-v_];exact AN Ht
 have ed:Ep (.qG 1 true true) h2 [.Cl id 0 (l.length-1) 1,I ((l.length-1:Nat):Int),I (l.length:Int)]=some (h2,.Cl id (l.length-1) 1 1):=by
  simp only[Ep,ZW,HH];have jM:((l.take k++l.drop (k+1)).map (Aa.int .i64)++QJ).length=l.length-1+QJ.length:=by rw[As,Ai,hll]
  have e1:EJ (l.length:Int) ((((l.take k++l.drop (k+1)).map (Aa.int .i64)++QJ).length-0)/1)=some l.length:=by unfold EJ;rw[if_pos (by rw[jM];omega)];rfl
  have e2:EJ ((l.length-1:Nat):Int) l.length=some (l.length-1):=by unfold EJ;rw[if_pos (by omega)];rfl
  rw[if_pos ⟨trivial,trivial,AR _⟩];simp only[DI,e1,e2,Ct,BR];rw[if_pos (by rw[jM];omega)];congr 3
  .omega
  .omega
 have ec:Ep (.clear 1 [I 0]) h2 [.Cl id (l.length-1) 1 1]=some (h.set id (.cells ((l.take k++l.drop (k+1)).map (Aa.int .i64)++(I 0::QJ.drop 1))),.bool true):=by
  simp only[Ep,Um,HH];rw[if_pos ⟨trivial,rfl,by rw[As,Ai,hll];omega⟩];congr 2
  rw[<-v_,List.set_set];congr 2
  have e3:(((l.take k++l.drop (k+1)).map (Aa.int .i64)++QJ).take (l.length-1))=(l.take k++l.drop (k+1)).map (Aa.int .i64):=KI (by rw[Ai,hll]);have e4:(((l.take k++l.drop (k+1)).map (Aa.int .i64)++QJ).drop (l.length-1+1*1))=QJ.drop 1:=by rw[show l.length-1+1*1=((l.take k++l.drop (k+1)).map (Aa.int .i64)).length+1 by rw[Ai,hll],List.drop_append];simp
  rw[e3,e4];simp
 refine⟨I 0::QJ.drop 1,?_⟩;have elen:∀i n,Aw (.len false) [.Cl i 0 n 1]=some (I (n:Int)):=λ_ _=>rfl;have e3:Ep (.eQ 1) h [.Cl id 0 l.length 1,I (k:Int),I ((k+1:Nat):Int),I (l.length:Int)]=some (h,.bool true):=by simp only[Ep,Un];simp;omega
 rw[Ab,oZ,aBL];simp only[AB,Bi,elen,e3,show¬(k:Int)=((k+1:Nat):Int) by omega,aB6 (id:=id) (show 0<l.length by omega) (show k<=l.length by omega),aB7 (id:=id) (show k+1<=l.length by omega),eg,ed,ec]
theorem bk:∀{n:Nat} {l:List Int},l.Nodup->(∀x∈l,1<=x/\x<=n)->l.length<=n
 |0,l,_,h=>by
  cases l with
  |nil=>simp
  |cons x l=>have:=h x (by simp);omega
 |n+1,l,hn,h=>by
  have ih:=bk (n:=n) (l:=l.filter λx=>decide (x≠(n:Int)+1)) (hn.filter _) (λx hx=>by
   have h1:=DU.1 hx;have h2:=h x h1.1;have h3:x≠(n:Int)+1:=by simpa using h1.2
   omega)
  have key:∀{l:List Int},l.Nodup->l.length<=(l.filter λx=>decide (x≠(n:Int)+1)).length+1:=by
   intro l hl;induction l with
   |nil=>simp
   |cons x l ih=>
    rw[BV] at hl;rw[JP];by_cases e:x=(n:Int)+1;·rw[if_neg (by simp[e]),List.filter_eq_self.2 (λy hy=>by simpa using λe2:y=(n:Int)+1=>hl.1 (by rw[e,<-e2];exact hy))];simp
    .rw[if_pos (by simpa using e)];have:=ih hl.2;simp only[Bd];omega
  have:=key hn;omega
theorem VU{e:Int}(ok:Eu A e)(x:Int):(A.nd x).AY.length<=A.n.length:=by
 by_cases hx:A.has x;·refine bk (ok.Q8 x hx).rX λk hk=>?_;exact(ok.LF x hx k hk).1
 .rw[GI hx];exact AR _
theorem L9.AY{e:Int}(lm:L9 A)(ok:Eu A e)(x:Int):(A.nd x).AY.length<=1000000000:=Bt (VU ok x) lm.n
theorem L9.aLu{l:List Int}(lm:L9 A):L9 (A.set x {A.nd x with AY:=l}):=lm.set (lm.at_ x) (lm.data x)
theorem L9.aLv{p:Int}(lm:L9 A):L9 (A.set x {A.nd x with E6:=p}):=lm.set (lm.at_ x) (lm.data x)
theorem L9.cut(lm:L9 A):L9 (A.cut x):=by
 unfold Ar.cut;simp only;split;·exact lm
 .exact L9.aLv lm.aLu
theorem aGu{e:Int}(w:PA h a n m ps A)(lm:L9 A)(ok:Eu A e)(hx:A.has x):
  ∃h' Iz,BI cx 234 [Pt a 0,I x] h (.tuple []) h'/\PA h' a n m Iz (A.cut x)/\De h (λi=>i∈Fo a n m ps) h' (λi=>i∈Fo a n m Iz):=by
 have hb:=lm.AY ok;by_cases hp:(A.nd x).E6=0
 .have hA:A.cut x=A:=by unfold Ar.cut;simp only;rw[if_pos hp]
  refine⟨h,ps,?_,by rw[hA];exact w,.refl⟩;rw[Ab,Zh,oe];simp only[AB,Bi,(H8 w lm hx).call,w.f1 hx,hp]
 .obtain⟨hq,hk⟩:=ok.E6 x hx hp;generalize hqq:(A.nd x).E6=q at*;have hne:q≠x:=by rw[<-hqq];exact iH ok hx (by rw[hqq];exact hp)
  obtain⟨k,k1,k2,k3,_,_⟩:=Zn hk;have LF:=w.LF hq;have r1:=aB5 LF.Sm (hb q) x;rw[k2] at r1;rcases pK:LF with⟨_,e0⟩|⟨id,cs,ekv,hc⟩
  .rw[e0] at k1;simp at k1
  clear pK;rw[ekv] at r1;obtain⟨Gc,r2⟩:=aGs hc k1 (hb q);rw[Ri (ok.Q8 q hq).rX k3] at r2;have Xk:(A.nd q).AY.length-1=((A.nd q).AY.filter λy=>decide (y≠x)).length:=by rw[<-Ri (ok.Q8 q hq).rX k3,As,Al,A8];omega
  rw[Xk] at r2;have q8:=(Ah.1 hc).1;have hpq:=(w.pn hq).2.1;generalize yw:h.set id (.cells (((A.nd q).AY.filter λy=>decide (y≠x)).map (Aa.int .i64)++Gc))=h1 at r2;have aGv:id∈Fo a n m ps:=Kd (w.pn hq).2.2 (by rw[ekv];rfl);have aLw:id≠n:=by intro e1;have:=w.nd;unfold Fo at this;simp only[BV,AL,not_or] at this;exact this.2.1 (e1▸Ao.2 (.inr (Ch.2 ⟨_,(w.pn hq).2.2,by rw[ekv];rfl⟩)))
  have aQG:id≠a:=by intro e1;have:=w.nd;unfold Fo at this;simp only[BV,AL,not_or] at this;exact this.1.2 (e1▸Ao.2 (.inr (Ch.2 ⟨_,(w.pn hq).2.2,by rw[ekv];rfl⟩)))
  obtain⟨p1,PH⟩:∃p1:PN,p1=⟨{A.nd q with AY:=(A.nd q).AY.filter λy=>decide (y≠x)},.Cl id 0 ((A.nd q).AY.filter λy=>decide (y≠x)).length 1,(pN ps q).av,w.ba hq⟩:=⟨_,rfl⟩;have aGw:p1.row=(pN ps q).row.set 2 (.Cl id 0 ((A.nd q).AY.filter λy=>decide (y≠x)).length 1):=by rw[PH];simp only[PN.row];rw[hpq];rfl
  have h1n:h1[n]?=h[n]?:=by rw[<-yw,Aj aLw]
  have s1:=w.sto hq (k:=2) (by decide) (v:= .Cl id 0 ((A.nd q).AY.filter λy=>decide (y≠x)).length 1) rfl aGw h1n;have aGx:GQ p1.kv=GQ (pN ps q).kv:=by rw[PH,ekv];rfl
  have w1:=w.uC hq (p:=p1) (h1:=h1) (λi _ hi=>by rw[<-yw,Aj];intro e1;exact hi (by rw[ekv,e1];rfl)) (by rw[PH];exact .inr ⟨id,Gc,rfl,by rw[<-yw];exact AN q8⟩) (.inl aGx)
  have wc:=pH w hq aGx;generalize v_:h1.set n (.cells ((ps.set (q.toNat-1) p1).map PN.row).flatten)=h2 at s1 w1;generalize aQH:ps.set (q.toNat-1) p1=ZM at w1 wc;have hA1:p1.x={A.nd q with AY:=(A.nd q).AY.filter λy=>decide (y≠x)}:=by rw[PH]
  rw[hA1] at w1;have LX:(A.set q {A.nd q with AY:=(A.nd q).AY.filter λy=>decide (y≠x)}).has x:=Hw.2 hx;have WW:=(w1.pn LX).2.1;have LV:(A.set q {A.nd q with AY:=(A.nd q).AY.filter λy=>decide (y≠x)}).nd x=A.nd x:=by rw[IK,if_neg (λh=>hne h.1.symm)]
  obtain⟨h3,s3,w3,i3,o3,l3⟩:=w1.wr LX (k:=1) (by decide) (v:= I 0) rfl (p:=⟨{A.nd x with E6:=0},(pN ZM x).kv,(pN ZM x).av,by have:=(pN ZM x).ok;rw[WW,LV] at this;exact this⟩) (by simp only[PN.row];rw[WW,LV];rfl) rfl (Cd Eg.AY LV).symm;have hA:A.cut x=(A.set q {A.nd q with AY:=(A.nd q).AY.filter λy=>decide (y≠x)}).set x {A.nd x with E6:=0}:=by unfold Ar.cut;simp only;rw[hqq,if_neg hp,LV]
  refine⟨h3,_,?_,by rw[hA];exact w3,?_⟩;·have inc:=BF (show k<9223372036854775807 by have:=hb q;omega);rw[Ab,Zh,oe];simp only[AB,Bi,(H8 w lm hx).call,(H8 w lm hq).call,w.f1 hx,hqq,hp,w.f2 hq,ekv,r1.call,inc,r2.call,s1,s3]
  .have aQI:h2.length=h.length:=by rw[<-v_,Bj,<-yw,Bj]
   refine⟨by omega,λi hi hin=>?_,λi hi=> .inl (by rw[i3,wc] at hi;exact hi)⟩;have n1:i≠n:=λe1=>hin (e1▸by simp[Fo]);have n2:i≠id:=λe1=>hin (e1▸aGv);rw[o3 i n1,<-v_,Aj (DQ n1),<-yw,Aj (DQ n2)]
end
end Go.Am
end
