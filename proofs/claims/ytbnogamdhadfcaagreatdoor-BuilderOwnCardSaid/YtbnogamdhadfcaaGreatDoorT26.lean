/- Lemmas -/
import Derived.Test.YtbnogamdhadfcaaGreatDoorT25
import Derived.Test.YtbnogamdhadfcaaGreatDoorT20
set_option linter.unusedVariables false
set_option linter.unusedSimpArgs false
section
namespace Go.Am
open Go
set_option maxRecDepth 100000
section
section
variable{e:B0}{d:Aa}
end
section
variable{h:Ag}{v:Aa}{l:List B0}{id o:Nat}
theorem f99(hc:At h id o v)(hv:C0 l v)(hb:l.length<=1000000000):BI cx 154 [Pt id o] h (I (since l)) h:=by
 have hv:AM 3 (l.map B0.row) v:=hv;rw[Ab,mV,aAQ];simp only[AA,hc.load,Bn,hv.Cp];refine Bd (λn:Nat=>[I (n:Int)]) (λn h1=>n<=l.length/\since l=since (l.take n)/\h1=h) (λn=>n) l.length rfl ⟨Ac _,by rw[Bu],rfl⟩ ?_;rintro n h1 ⟨hn,ha,rfl⟩;cases n with
 |zero=>simp only[AA,show¬(0:Int)<((0:Nat):Int) by omega,An,Ak,Aj,ha,rN];rfl
 |succ n=>rw[Vi hn] at ha;simp only[AA,show(0:Int)<((n+1:Nat):Int) by omega,Aq,Ak,Aj,hc.load,Bn,Ho (show 0<n+1 by omega) (show n+1<9223372036854775807 by omega),GJ,hv.BA (show n<l.length from hn),B0.u_];refine⟨λh0=>AF.next n rfl ⟨by omega,by rw[ha,if_neg h0],rfl⟩ (by omega),λh0=>?_⟩;rw[if_pos (by simpa using h0)] at ha;rw[ha];rfl
theorem qh(hv:C0 l v)(hb:l.length<=1000000000):BI cx 224 [v] h (I (since l)) h:=by
 have hv:AM 3 (l.map B0.row) v:=hv;rw[Ab,nj,aFj];refine Bd (λn:Nat=>[I (since (l.take n)),I (n:Int)]) (λn h1=>n<=l.length/\h1=h) (λn=>l.length-n) 0 rfl ⟨AO _,rfl⟩ ?_;rintro n h1 ⟨hn,rfl⟩;rcases AN n l.length with hlt|DT
 .have i1:(n:Int)<(l.length:Int):=by omega
  have e1:=Vi hlt;simp only[AA,hv.Cp,i1,Aq,Ak,Aj,hv.BA hlt,B0.u_,BB (show n<9223372036854775807 by omega)];refine⟨λh0=>?_,λh0=>?_⟩;·rw[if_pos h0] at e1;exact AF.next (n+1) (by rw[e1];rfl) ⟨hlt,rfl⟩ (by omega)
  .rw[if_neg h0] at e1;exact AF.next (n+1) (by rw[e1]) ⟨hlt,rfl⟩ (by omega)
 .have i1:¬(n:Int)<(l.length:Int):=by omega
  simp only[AA,hv.Cp,i1,An,Ak,Aj,Az DT]
theorem aKZ(hc:At h id o v)(hv:C0 l v)(hb:l.length<=1000000000)(name:As):BI cx 172 [Pt id o,.str name] h (I (Mn name l)) h:=by
 have hv:AM 3 (l.map B0.row) v:=hv;rw[Ab,nB,aA0];simp only[AA,I9,hc.load,Bn,hv.Cp,CK (show -9223372036854775808<=(l.length:Int)-1 by omega) (show(l.length:Int)-1<9223372036854775808 by omega)];refine Bd (λn:Nat=>[I 0,I ((n:Int)-1)]) (λn h1=>n<=l.length/\Mn name l=Mn name (l.take n)/\h1=h) (λn=>n) l.length rfl ⟨Ac _,by rw[Bu],rfl⟩ ?_;rintro n h1 ⟨hn,ha,rfl⟩;cases n with
 |zero=>
  have i1:¬(0:Int)<=((0:Nat):Int)-1:=by omega
  rw[ha];simp only[AA,i1,An,Ak,Aj,rO]
 |succ n=>
  have i2:((n+1:Nat):Int)-1=(n:Int):=by omega
  rw[P6 hn] at ha;simp only[AA,i2,show(0:Int)<=(n:Int) by omega,Aq,Ak,Aj,hc.load,Bn,hv.BA (show n<l.length from hn),B0.u_,B0.bN,CK (show -9223372036854775808<=(n:Int)-1 by omega) (show(n:Int)-1<9223372036854775808 by omega)];refine⟨λh0=>⟨λh1=>?_,λh1=>?_⟩,λh0=>?_⟩;·rw[ha,if_neg h0,if_pos h1]
  .exact AF.next n rfl ⟨by omega,by rw[ha,if_neg h0,if_neg h1],rfl⟩ (by omega)
  .rw[ha,if_pos (by simpa using h0)]
theorem aK0(hv:C0 l v)(hb:l.length<=1000000000)(name:As):BI cx 277 [v,.str name] h (I (Mn name l)) h:=by
 have Du:AM 3 (l.map B0.row) v:=hv;obtain⟨s,es,IV,hs2,zy⟩:=IM l;have r1:=qh (h:=h) hv hb;rw[es] at r1;rw[Ab,pc,aFE];simp only[r1.call];refine Bd (λn:Nat=>[I (Mn name (l.take n)),I (n:Int)]) (λn h1=>s<=n/\n<=l.length/\h1=h) (λn=>l.length-n) s (by rw[bT es]) ⟨Ac _,IV,rfl⟩ ?_;rintro n h1 ⟨hsn,hn,rfl⟩;rcases AN n l.length with hlt|DT
 .have i1:(n:Int)<(l.length:Int):=by omega
  have e1:=P6 (name:=name) hlt;rw[if_neg (hs2 n hlt hsn)] at e1;simp only[AA,Du.Cp,i1,Aq,Ak,Aj,Du.BA hlt,B0.bN,BB (show n<9223372036854775807 by omega)];refine⟨λh0=>?_,λh0=>?_⟩;·rw[if_pos h0] at e1;exact AF.next (n+1) (by rw[e1]) ⟨by omega,hlt,rfl⟩ (by omega)
  .rw[if_neg h0] at e1;exact AF.next (n+1) (by rw[e1]) ⟨by omega,hlt,rfl⟩ (by omega)
 .have i1:¬(n:Int)<(l.length:Int):=by omega
  simp only[AA,Du.Cp,i1,An,Ak,Aj,Az DT]
theorem f41(hc:At h id o v)(hv:C0 l v)(hb:l.length<=1000000000)(node:Int):BI cx 92 [Pt id o,I node] h (I (GC node l)) h:=by
 have hv:AM 3 (l.map B0.row) v:=hv;rw[Ab,zH,t92];simp only[AA,I9,hc.load,Bn,hv.Cp,CK (show -9223372036854775808<=(l.length:Int)-1 by omega) (show(l.length:Int)-1<9223372036854775808 by omega)];refine⟨λh0=>by rw[GC,if_pos h0],λh0=>?_⟩;rw[GC,if_neg h0];refine Bd (λn:Nat=>[I 0,I ((n:Int)-1)]) (λn h1=>n<=l.length/\AL (Oi node) l=AL (Oi node) (l.take n)/\h1=h) (λn=>n) l.length rfl ⟨Ac _,by rw[Bu],rfl⟩ ?_;rintro n h1 ⟨hn,ha,rfl⟩;cases n with
 |zero=>
  have i1:¬(0:Int)<=((0:Nat):Int)-1:=by omega
  rw[ha];simp only[AA,i1,An,Ak,Aj,I2]
 |succ n=>
  have i2:((n+1:Nat):Int)-1=(n:Int):=by omega
  rw[Gb hn] at ha;simp only[AA,i2,show(0:Int)<=(n:Int) by omega,Aq,Ak,Aj,hc.load,Bn,hv.BA (show n<l.length from hn),B0.u_,CK (show -9223372036854775808<=(n:Int)-1 by omega) (show(n:Int)-1<9223372036854775808 by omega)];refine⟨λh1=>?_,λh1=>?_⟩;·rw[ha,if_pos (by simpa[Oi] using h1)]
  .exact AF.next n rfl ⟨by omega,by rw[ha,if_neg (by simpa[Oi] using h1)],rfl⟩ (by omega)
theorem aK2(hv:C0 l v)(hb:l.length<=1000000000)(node:Int):BI cx 218 [v,I node] h (I (GC node l)) h:=by
 have Du:AM 3 (l.map B0.row) v:=hv;rw[Ab,m_,aFe];refine Bd (λn:Nat=>[I (GC node (l.take n)),I (n:Int)]) (λn h1=>n<=l.length/\h1=h) (λn=>l.length-n) 0 (by simp[GC,I2]) ⟨AO _,rfl⟩ ?_;rintro n h1 ⟨hn,rfl⟩;rcases AN n l.length with hlt|DT
 .have i1:(n:Int)<(l.length:Int):=by omega
  have e1:GC node (l.take (n+1))=if node=0 then -1 else if l[n].c.node=node then(n:Int) else AL (Oi node) (l.take n):=by unfold GC;rw[Gb hlt];simp[Oi]
  simp only[AA,Du.Cp,i1,Aq,Ak,Aj,Du.BA hlt,B0.u_,BB (show n<9223372036854775807 by omega)];refine⟨λh0=>⟨λh1=>?_,λh1=>?_⟩,λh0=>?_⟩;·exact AF.next (n+1) (by rw[e1,if_neg h0,if_pos h1]) ⟨hlt,rfl⟩ (by omega)
  .exact AF.next (n+1) (by rw[e1,if_neg h0,if_neg h1,GC,if_neg h0]) ⟨hlt,rfl⟩ (by omega)
  .have h0:node=0:=by simpa using h0
   exact AF.next (n+1) (by rw[e1,if_pos h0,GC,if_pos h0]) ⟨hlt,rfl⟩ (by omega)
 .have i1:¬(n:Int)<(l.length:Int):=by omega
  simp only[AA,Du.Cp,i1,An,Ak,Aj,Az DT]
end
section
variable{h:Ag}{v:Aa}{l:List AU}
theorem aGd(hv:Bz l v)(hb:l.length<=1000000000)(x:AU):BI cx 307 [v,.agg x.row] h (.bool (decide (x∈l))) h:=by
 have hv:AM 3 (l.map AU.row) v:=hv;rw[Ab,qa,aFQ];simp only[AA,AU.Cq,AU.g0,AU.g1,AU.g2,AU.NB];refine Bd (λn:Nat=>[.bool false,I (n:Int)]) (λn h1=>n<=l.length/\x∉l.take n/\h1=h) (λn=>l.length-n) 0 rfl ⟨AO _,by simp,rfl⟩ ?_;rintro n h1 ⟨hn,ha,rfl⟩;rcases AN n l.length with hlt|DT
 .have i1:(n:Int)<(l.length:Int):=by omega
  simp only[AA,hv.Cp,i1,Aq,Ak,Aj,hv.BA hlt,AU.Cq,AU.GA,Ac,bQ,Bool.bne_false,BB (show n<9223372036854775807 by omega)];refine⟨λh0=>?_,λh0=>?_⟩
  .have:x∈l:=by rw[<-h0];exact AI hlt
   simp[this]
  .refine AF.next (n+1) rfl ⟨hlt,?_,rfl⟩ (by omega);rw[Av hlt,Ap,not_or];exact⟨ha,by simpa using λe=>h0 e.symm⟩
 .have i1:¬(n:Int)<(l.length:Int):=by omega
  rw[Az DT] at ha;simp only[AA,hv.Cp,i1,An,Ak,Aj,AB ha]
theorem aK3(hv:Bz l v)(hb:l.length<=1000000000)(x:AU):BI cx 287 [v,.agg x.row] h (I (Ca (λa=>decide (x=a)) 0 l)) h:=by
 have hv:AM 3 (l.map AU.row) v:=hv;rw[Ab,oQ,aBD];simp only[AA,hv.Cp,AU.Cq,AU.g0,AU.g1,AU.g2,AU.NB];refine Bd (λn:Nat=>[I 0,I (n:Int)]) (λn h1=>n<=l.length/\Ca (λa=>decide (x=a)) 0 l=Ca (λa=>decide (x=a)) n (l.drop n)/\h1=h) (λn=>l.length-n) 0 rfl ⟨AO _,rfl,rfl⟩ ?_;rintro n h1 ⟨hn,ha,rfl⟩;rcases AN n l.length with hlt|DT
 .have i1:(n:Int)<(l.length:Int):=by omega
  rw[AH hlt,Ca] at ha;simp only[AA,i1,Aq,Ak,Aj,hv.BA hlt,AU.Cq,AU.GA,Ac,bQ,Bool.bne_false,BB (show n<9223372036854775807 by omega)];refine⟨λh0=>?_,λh0=>?_⟩;·rw[ha,if_pos (by simpa using h0)]
  .exact AF.next (n+1) rfl ⟨hlt,by rw[ha,if_neg (by simpa using h0)],rfl⟩ (by omega)
 .have i1:¬(n:Int)<(l.length:Int):=by omega
  rw[AY DT,Ca] at ha;simp only[AA,i1,An,Ak,Aj,ha]
theorem aK4(hv:Bz l v)(hb:l.length<=1000000000)(x:AU):BI cx 243 [v,.agg x.row] h (.bool (decide (x∈l))) h:=by
 rw[Ab,oH,aBu];simp only[AA,AU.Cq,AU.g0,AU.g1,AU.g2,AU.NB,(aK3 hv hb x).call];rcases GS (p:=λa=>decide (x=a)) (l:=l) (k:=0) with⟨h1,h2⟩|⟨n,a,h1,h2,h3⟩
 .rw[h1];have:x∉l:=λhm=>by have:=ZA.1 h2 x hm;simp at this
  simp[this]
 .have hm:=CE h2;have he:x=a:=by simpa using List.find?_some h3
  have hx:x∈l:=by rw[he];exact hm
  rw[h1];simp[hx]
def cP(F:Aa)(h:Ag)(q:AU->Bool):Prop:=∃f caps,F= .func (.func f) [] caps/\f<=99999/\∀a:AU,BI cx f (.agg a.row::caps) h (.bool (q a)) h
theorem aGe{F:Aa}{q:AU->Bool}(hv:Bz l v)(hb:l.length<=1000000000)(hF:cP F h q):BI cx 118 [v,F] h (I (Ca q 0 l)) h:=by
 have hv:AM 3 (l.map AU.row) v:=hv;obtain⟨f,caps,rfl,hf,hr⟩:=hF;rw[Ab,T3,zK];simp only[AA,hv.Cp];refine Bd (λn:Nat=>[I 0,I (n:Int)]) (λn h1=>n<=l.length/\Ca q 0 l=Ca q n (l.drop n)/\h1=h) (λn=>l.length-n) 0 rfl ⟨AO _,rfl,rfl⟩ ?_;rintro n h1 ⟨zZ,ha,rfl⟩;rcases AN n l.length with hlt|DT
 .have i1:(n:Int)<(l.length:Int):=by omega
  rw[AH hlt,Ca] at ha;simp only[AA,↓reduceIte,Dt,hf,i1,Aq,Ak,Aj,hv.BA hlt,AU.Cq,AU.GA,Ac,(hr l[n]).call];rw[Cu];refine⟨λhe=>?_,λhe=>?_⟩;·rw[ha,if_pos he]
  .rw[if_neg (by simp[he])] at ha;simp only[AA,BB (show n<9223372036854775807 by omega)];exact AF.next (n+1) rfl ⟨hlt,ha,rfl⟩ (by omega)
 .have i1:¬(n:Int)<(l.length:Int):=by omega
  rw[AY DT,Ca] at ha;simp only[AA,↓reduceIte,Dt,hf,i1,An,Ak,Aj,ha]
theorem aGf{F:Aa}{q:AU->Bool}(hv:Bz l v)(hb:l.length<=1000000000)(hF:cP F h q):BI cx 148 [v,F] h (.bool (l.any q)) h:=by
 rw[Ab,Y2,t148];simp only[AA,(aGe hv hb hF).call];have:l.any q=(l.find? q).isSome:=by rw[Bool.eq_iff_iff,List.find?_isSome,List.any_eq_true]
 rw[this];rcases GS (p:=q) (l:=l) (k:=0) with⟨h1,h2⟩|⟨n,a,h1,h2,h3⟩
 .rw[h1,h2];simp
 .rw[h1,h3];simp
theorem aK5(hv:Bz l v)(hb:l.length<=1000000000)(x:AU):BI cx 242 [.agg x.row,.CB [v]] h (.bool (!decide (x∈l))) h:=by rw[Ab,oG,aBt];simp only[AA,AU.Cq,AU.g0,AU.g1,AU.g2,AU.NB,(aK4 hv hb x).call]
theorem aGg{l2:List AU}{w:Aa}(hv:Bz l v)(hb:l.length<=1000000000)(hw:Bz l2 w)(MF:l2.length<=1000000000):BI cx 241 [v,w] h (.bool (decide (∀x∈l,x∈l2))) h:=by
 have hF:cP (.func (.func 242) [] [.CB [w]]) h λx=> !decide (x∈l2):=⟨242,_,rfl,by decide,λa=>aK5 hw MF a⟩;have e:(!l.any λx=> !decide (x∈l2))=decide (∀x∈l,x∈l2):=by rw[Bool.eq_iff_iff];simp
 rw[Ab,oF,aBs,<-e];simp only[AA,AM.cells hw,(aGf hv hb hF).call]
theorem aK6{a b:B0}(ha:WL a)(hb:WL b):BI cx 167 [.agg a.row,.agg b.row] h (.bool (FN a.c b.c)) h:=by
 have r1:=aGg (h:=h) a.ok ha b.ok hb;have r2:=aGg (h:=h) b.ok hb a.ok ha;rw[Ab,m7,aAW];simp only[AA,Nat.reduceLeDiff,↓reduceIte,Dt,Bv,B0.Cq,B0.g1,B0.g2,B0.jb,r1.call,r2.call];refine⟨λh1=>⟨λh2=>⟨λh3=>?_,λh3=>?_⟩,λh2=>?_⟩,λh1=>?_⟩
 .have Xm:a.c.Ay.length=b.c.Ay.length:=by omega
  simp only[FN,h1,Xm,LZ];congr 3
  rw[eq_iff_iff];exact⟨λh=>⟨h3,h⟩,λh=>h.2⟩
 .simp[FN,h3]
 .have Xm:¬a.c.Ay.length=b.c.Ay.length:=by omega
  simp[FN,Xm]
 .simp[FN,h1]
theorem f241{a b:B0}(ha:WL a)(hb:WL b):BI cx 270 [.agg a.row,.agg b.row] h (.bool (FN a.c b.c)) h:=by
 have va:AM 3 (a.c.Ay.map AU.row) a.v:=a.ok;have vb:AM 3 (b.c.Ay.map AU.row) b.v:=b.ok;unfold WL at ha hb;rw[Ab,oo,aFx];simp only[AA,B0.Cq,B0.g1,B0.g2,B0.jb];refine⟨λh1=>?_,λh1=>⟨λh2=>?_,λh2=>?_⟩⟩;·simp[FN,h1]
 .have Xm:¬a.c.Ay.length=b.c.Ay.length:=by omega
  simp[FN,Xm]
 have h1:a.c.name=b.c.name:=by simpa using h1
 have h2:a.c.Ay.length=b.c.Ay.length:=by omega
 refine Bd (λn:Nat=>[.bool false,I (n:Int)]) (λn h1=>n<=a.c.Ay.length/\(∀x∈a.c.Ay.take n,x∈b.c.Ay)/\(∀x∈b.c.Ay.take n,x∈a.c.Ay)/\h1=h) (λn=>a.c.Ay.length-n) 0 rfl ⟨AO _,by simp,by simp,rfl⟩ ?_;rintro n h1 ⟨hn,WD,Nz,rfl⟩;rcases AN n a.c.Ay.length with hlt|DT
 .have i1:(n:Int)<(a.c.Ay.length:Int):=by omega
  have aBT:n<b.c.Ay.length:=by omega
  have m1:=AI hlt;have m2:=AI aBT;simp only[AA,B0.jb,i1,Aq,Ak,Aj,va.BA hlt,vb.BA aBT,AU.Cq,AU.GA,Ac,(aGd b.ok hb _).call,(aGd a.ok ha _).call,BB (show n<9223372036854775807 by omega)];rw[Cu,Cu];refine⟨λh3=>?_,λh3=>⟨λh4=>?_,λh4=>?_⟩⟩
  .have h3:a.c.Ay[n]∉b.c.Ay:=by simpa using h3
   have:FN a.c b.c=false:=by simp only[FN,decide_eq_false_iff_not];exact λh=>h3 (h.2.2.1 _ m1)
   rw[this]
  .have h4:b.c.Ay[n]∉a.c.Ay:=by simpa using h4
   have:FN a.c b.c=false:=by simp only[FN,decide_eq_false_iff_not];exact λh=>h4 (h.2.2.2 _ m2)
   rw[this]
  .have h3:a.c.Ay[n]∈b.c.Ay:=by simpa using h3
   have h4:b.c.Ay[n]∈a.c.Ay:=by simpa using h4
   refine AF.next (n+1) rfl ⟨hlt,?_,?_,rfl⟩ (by omega)
   .rw[Av hlt];intro x hx;rcases Ap.1 hx with hx|hx
    .exact WD x hx
    .rw[Fk.1 hx];exact h3
   .rw[Av aBT];intro x hx;rcases Ap.1 hx with hx|hx
    .exact Nz x hx
    .rw[Fk.1 hx];exact h4
 .have i1:¬(n:Int)<(a.c.Ay.length:Int):=by omega
  rw[Az DT] at WD;rw[Az (by omega)] at Nz;have:FN a.c b.c=true:=by simp only[FN,DK];exact⟨by assumption,h2,WD,Nz⟩
  rw[this];simp only[AA,B0.jb,i1,An,Ak,Aj]
end
end
section
theorem Bx{Q:Post}{h:Ag}{a:Aa}{k:IT}:W cx (.same a a k) Q h↔W cx k Q h:=by refine⟨λhw=>?_,ya (Aa.QX a)⟩;obtain⟨m,x',Hl,h',hr,q⟩:=hw.succ;simp only[IT.step,Aa.QX,BO] at hr;exact CM ⟨m,x',Hl,h',hr,q⟩
section
variable{h:Ag}{v:Aa}{l:List B0}{id o:Nat}
theorem f45{l:List AU}(hv:Bz l v)(hb:l.length<=1000000000):∃u,BI cx 54 [v] h u h/\Bz l u:=by
 have hv:AM 3 (l.map AU.row) v:=hv;rcases hv with rfl|⟨rfl,hn⟩
 .refine⟨.sl 3 (l.map AU.row),?_,.mk⟩;have e1:Aw (.Gp false .sl) [.sl 3 (l.map AU.row),.slnil]=some (.bool false):=rfl;have e2:Aw (.By 3) []=some (.sl 3 []):=rfl;have e3:Pc h 3 40 (.sl 3 []) (.sl 3 (l.map AU.row))=some (.sl 3 (l.map AU.row)):=by
   simp only[Pc,Ft,BO,Ct];cases l with
   |nil=>rfl
   |cons a l=>have:(l.length+1)*40<=AT:=Pw (by simp at hb;omega);simp[DP,this]
  rw[Ab,iS,t54];simp only[AA,e1,e2,e3]
 .refine⟨.slnil,?_,?_⟩;·have e1:Aw (.Gp false .sl) [.slnil,.slnil]=some (.bool true):=rfl;rw[Ab,iS,t54];simp only[AA,e1]
  .exact .inr ⟨rfl,hn⟩
theorem aa{e:B0}(he:WL e):∃e':B0,e'.c=e.c/\BI cx 169 [.agg e.row] h (.agg e'.row) h:=by obtain⟨u,r,hu⟩:=f45 (h:=h) e.ok he;refine⟨⟨e.c,u,hu⟩,rfl,?_⟩;rw[Ab,m9,aAY];simp only[AA,B0.Cq,B0.g0,B0.g1,B0.g2,r.call,AM.cells hu];rfl
theorem aK7{e:B0}(he:WL e):∃e':B0,e'.c=e.c/\BI cx 223 [.agg e.row] h (.agg e'.row) h:=by obtain⟨u,r,hu⟩:=AM.Gk (f:=AU.row) e.ok (b:=40) (Pw (by unfold WL at he;omega));refine⟨⟨e.c,u,hu⟩,rfl,?_⟩;rw[Ab,ni,aFi];simp only[AA,B0.Cq,B0.g0,B0.g1,B0.g2,r,AM.cells hu];rfl
theorem aK8(hv:C0 l v){k:Nat}(hk:k<l.length)(hb:l.length<=1000000000):∃u,BI cx 168 [v,I (k:Int)] h u h/\C0 (A7 l k) u:=by obtain⟨u1,e1,h1⟩:=AM.Lc hv (k:= .i64) (show k<=l.length by omega);obtain⟨u2,e2,h2⟩:=AM.Gk h1 (b:=48) (Oh (by rw[Al];omega));obtain⟨u4,e4,h4⟩:=AM.QT hv (k:= .i64) (show k+1<=l.length by omega);obtain⟨u5,e5,h5⟩:=AM.YE h2 h4 (b:=48) (Oh (by rw[Al,A8];omega));refine⟨u5,?_,h5⟩;rw[Ab,m8,aAX];simp only[AA,e1,e2,BB (show k<9223372036854775807 by omega),e4,e5]
theorem ae(hv:C0 l v)(e:B0){k:Nat}(hk:k<=l.length)(hb:l.length<=1000000000):∃u,BI cx 153 [v,.agg e.row,I (k:Int)] h u h/\C0 (l.take k++e::l.drop k) u:=by obtain⟨u1,e1,h1⟩:=AM.Lc hv (k:= .i64) hk;obtain⟨u2,e2,h2⟩:=AM.Gk h1 (b:=48) (Oh (by rw[Al];omega));have e3:=AM.Jg (a:=e) h2 (b:=48) (Oh (by rw[Al];omega));obtain⟨u4,e4,h4⟩:=AM.QT hv (k:= .i64) hk;obtain⟨u5,e5,h5⟩:=AM.YE (f:=B0.row) (l:=l.take k++[e]) .mk h4 (b:=48) (Oh (by rw[Ao,Al,A8,Bc];omega));refine⟨u5,?_,by rw[Ax] at h5;exact h5⟩;rw[Ab,mU,aAP];simp only[AA,B0.Cq,B0.g0,B0.g1,B0.g2,B0.NB,e1,e2,KS B0.Cq,e3,e4,e5]
theorem aBU(hv:C0 l v)(hne:l≠[])(hb:l.length<=1000000000):BI cx 145 [v] h (.Ck h.length 0 l.length 3) (h++[.cells (l.map B0.row).flatten]):=by
 have e1:Aw (.Gp false .sl) [v,.slnil]=some (.bool false):=by
  rcases hv with rfl|⟨rfl,hv⟩
  .rfl
  .exact absurd (by simpa using hv) hne
 have e2:Aw (.By 3) []=some (.sl 3 []):=rfl;have e3:=I0 (h:=h) (s:= .sl 3 []) (z:=3) (b:=48) (.inr rfl) hv (by simpa using hne) (by rw[Ah];exact Oh (by omega));rw[Ah] at e3;rw[Ab,T5,zM];simp only[AA,e1,e2,e3]
theorem f63(hs:RY h id o l)(hb:l.length<=1000000000):∃u,BI cx 67 [Pt id o] h (.tuple []) (put h id o u)/\C0 (l++[YK]) u:=by obtain⟨v,hc,hv⟩:=(show RY h id o l from hs);obtain⟨u,hr,hu⟩:=ae (h:=h) hv YK (Ac l.length) hb;rw[Bu,Fo] at hu;refine⟨u,?_,hu⟩;rw[Ab,aAo,t67];simp only[AA,↓reduceIte,AK,kD,JS,hc.load,Bn,AM.Cp hv,xP,hr.call,hc.store (C0.cells hu)]
theorem aK9(hs:RY h id o l)(hb:l.length<=1000000000){e:B0}(he:WL e)(i:Int):∃u e',e'.c=e.c/\BI cx 177 [Pt id o,.agg e.row,I i] h (.tuple []) (put h id o u)/\C0 (l.take (Cn i l.length)++e'::l.drop (Cn i l.length)) u:=by
 obtain⟨v,hc,hv⟩:=(show RY h id o l from hs);obtain⟨e',O6,r1⟩:=aa (h:=h) he;obtain⟨u,hr,hu⟩:=ae (h:=h) hv e' (k:=Cn i l.length) (by unfold Cn;omega) hb;refine⟨u,e',O6,?_,hu⟩;have e1:(if(l.length:Int)<(if i<0 then 0 else i) then(l.length:Int) else(if i<0 then 0 else i))=((Cn i l.length:Nat):Int):=by unfold Cn;split<;>split<;>omega
 rw[Ab,nG,aA5];simp only[AA,B0.Cq,B0.g0,B0.g1,B0.g2,B0.NB,kD,JS,hc.load,Bn,YB,AM.Cp hv,xF,e1,r1.call,Bx,hr.call,hc.store (C0.cells hu)]
theorem f65(hs:RY h id o l)(hb:l.length<=1000000000):∃u,BI cx 69 [Pt id o] h (I ((l.length:Int)-((El l:Nat):Int))) (put h id o u)/\C0 (l.take (El l)) u:=by
 obtain⟨v,hc,hv⟩:=(show RY h id o l from hs);obtain⟨s,es,IV,_⟩:=IM l;have hcl:El l<=l.length:=by unfold El;omega
 obtain⟨u,e1,hu⟩:=AM.Lc hv (k:= .i64) hcl;refine⟨u,?_,hu⟩;have e2:(if since l-1<0 then 0 else since l-1)=((El l:Nat):Int):=by unfold El;split<;>omega
 have eQ:(l.take (El l)).length=El l:=by rw[Al];omega
 have c2:At (put h id o u) id o u:=hc.put;rw[Ab,aAp,t69];simp only[AA,I9,hc.load,Bn,AM.Cp hv,(f99 hc hv hb).call,Bx,CK (show -9223372036854775808<=since l-1 by omega) (show since l-1<9223372036854775808 by omega),YB,e2,e1,hc.store (AM.cells hu),c2.load,AM.Cp hu,eQ,CK (show -9223372036854775808<=(l.length:Int)-((El l:Nat):Int) by omega) (show(l.length:Int)-((El l:Nat):Int)<9223372036854775808 by omega)]
end
end
section
section
variable{e:Ce}{l:List B0}{n s:Nat}
end
section
variable{h:Ag}{v:Aa}{l:List B0}{id o:Nat}
set_option maxHeartbeats 1000000 in
theorem f30(hs:RY h id o l)(hb:l.length<=900000000)(hl:∀x∈l,WL x){e:B0}(he:WL e):∃u e',e'.c=e.c/\BI cx 84 [Pt id o,.agg e.row] h (.tuple []) (put h id o u)/\C0 (Kw e.c l++[e']) u:=by
 obtain⟨v,hc,hv⟩:=(show RY h id o l from hs);have Du:AM 3 (l.map B0.row) v:=hv;have Ha:=hs.lt;obtain⟨s,es,IV,hs2,_⟩:=IM l;have H5:Ev cx 84 [Pt id o,.agg e.row] h λr h'=>r= .tuple []/\∃(e':B0) (u:Aa),e'.c=e.c/\h'=put h id o u/\C0 (Kw e.c l++[e']) u:=by
  unfold Ev;rw[zA,t84];by_cases h0:e.c.node=0;·obtain⟨e',O6,r1⟩:=aa (h:=h) he;obtain⟨u,r2,hu⟩:=ae (h:=h) hv e' (Ac l.length) (by omega);rw[Bu,Fo] at hu;simp only[AA,B0.Cq,B0.g0,B0.g1,B0.g2,I9,h0,ne_eq,Aq,Aj,Ak,An,hc.load,Bn,Du.Cp];rw[<-h0,B0.NB];simp only[AA,r1.call,Bx,hc.load,Bn,r2.call,hc.store (C0.cells hu)];refine⟨_,rfl,rfl,e',u,O6,rfl,?_⟩;rw[Kw,if_neg (λh=>h.1 h0)];exact hu
  .simp only[AA,B0.Cq,B0.g0,B0.g1,B0.g2,B0.NB,I9,h0,ne_eq,Aq,Aj,Ak,An,hc.load,Bn,Du.Cp,CK (show -9223372036854775808<=(l.length:Int)-1 by omega) (show(l.length:Int)-1<9223372036854775808 by omega)];refine Bd (λp:Int×Nat×Nat=>[I p.1,I (p.2.1:Int),I ((p.2.2:Int)-1)])
    (λp h1=>s<=p.2.2/\p.2.2<=l.length/\p.2.1+p.2.2<=l.length/\QY e.c l=p.2.1+QY e.c (l.take p.2.2)/\(Mo e.c l=if 0<=Mo e.c (l.take p.2.2) then Mo e.c (l.take p.2.2) else if p.2.1=0 then -1 else p.1)/\(p.2.1=0\/∃k:Nat,k<l.length/\p.1=(k:Int))/\h1=h)
    (λp=>p.2.2) (0,0,l.length) rfl ⟨IV,Ac _,by simp,by simp,by
     rw[Bu];have:∀l:List B0,-1<=gT e.c l:=by
      intro l;induction l with
      |nil=>exact HW _
      |cons x t ih=>rw[gT];split<;>(try split)<;>(try split)<;>omega
     have:=this l.reverse;simp only[BO];unfold Mo;split<;>omega,.inl rfl,rfl⟩ ?_
   rintro⟨fi,cn,n⟩ h1 ⟨a1,a2,a3,a4,a5,a6,rfl⟩;simp only at a1 a2 a3 a4 a5 a6;have r0:=f99 hc hv (by omega);rw[es] at r0;rcases AN s n with hlt|DT
   .obtain⟨n,rfl⟩:∃m,n=m+1:=⟨n-1,by omega⟩;have i2:((n+1:Nat):Int)-1=(n:Int):=by omega
    have hn:n<l.length:=a2;have hnz:=hs2 n hn (by omega);rw[RZ hn,if_neg hnz] at a4;rw[R2 hn,if_neg hnz] at a5;have r1:=aK6 (h:=h1) (hl _ (AI hn)) he;simp only[AA,i2,r0.call,show(s:Int)<=(n:Int) by omega,Aq,Aj,Ak,hc.load,Bn,Du.BA hn,B0.Cq,B0.GA,Ac,r1.call,BB (show cn<9223372036854775807 by omega),CK (show -9223372036854775808<=(n:Int)-1 by omega) (show(n:Int)-1<9223372036854775808 by omega)];rw[Cu];refine⟨λh2=>?_,λh2=>?_⟩
    .rw[if_pos h2] at a4 a5;refine AF.next ((n:Int),cn+1,n) rfl ⟨by simp only;omega,by simp only;omega,by simp only;omega,by simp only;omega,?_,.inr ⟨n,hn,rfl⟩,rfl⟩ (by simp only;omega);simp only
     rw[a5];by_cases hf:0<=Mo e.c (l.take n);·simp[hf]
     .simp[hf,show(0:Int)<=(n:Int) by omega]
    .rw[if_neg (by simp[h2])] at a4;rw[if_neg (show¬FN l[n].c e.c=true by simp[h2])] at a5;refine AF.next (fi,cn,n) rfl ⟨by simp only;omega,by simp only;omega,by simp only;omega,by simp only;omega,?_,a6,rfl⟩ (by simp only;omega);simp only
     rw[a5];by_cases hf:0<=Mo e.c (l.take n);·simp[hf]
     .simp[hf]
   .obtain rfl:n=s:=by omega
    obtain⟨b1,b2⟩:=Vk (e:=e.c) es;rw[b1,Bn] at a4;rw[b2,if_neg (by decide)] at a5;simp only[AA,r0.call,show¬(n:Int)<=(n:Int)-1 by omega,Aj,Ak,An];by_cases h3:3<=cn
    .rcases a6 with a6|⟨k,hk,rfl⟩
     .omega
     rw[if_neg (by omega)] at a5;obtain⟨u1,r1,Ny⟩:=aK8 (h:=h1) hv hk (by omega);have Wj:(A7 l k).length<=l.length:=by unfold A7;rw[Ao,Al,A8];omega
     have c1:At (put h1 id o u1) id o u1:=hc.put;obtain⟨e',O6,r2⟩:=aa (h:=put h1 id o u1) he;obtain⟨u2,r3,HU⟩:=ae (h:=put h1 id o u1) Ny e' (Ac (A7 l k).length) (by omega);rw[Bu,Fo] at HU;simp only[AA,show(3:Int)<=(cn:Int) by omega,Aq,Aj,Ak,hc.load,Bn,r1.call,hc.store (C0.cells Ny),c1.load,AM.Cp Ny,r2.call,Bx,r3.call,c1.store (C0.cells HU),YF];refine⟨_,rfl,rfl,e',u2,O6,rfl,?_⟩;rw[Kw,if_pos ⟨h0,by omega⟩,a5,AS];exact HU
    .obtain⟨e',O6,r1⟩:=aa (h:=h1) he;obtain⟨u,r2,hu⟩:=ae (h:=h1) hv e' (Ac l.length) (by omega);rw[Bu,Fo] at hu;simp only[AA,show¬(3:Int)<=(cn:Int) by omega,Aj,Ak,An,hc.load,Bn,Du.Cp,r1.call,Bx,r2.call,hc.store (C0.cells hu)];refine⟨_,rfl,rfl,e',u,O6,rfl,?_⟩;rw[Kw,if_neg (by omega)];exact hu
 obtain⟨r,h',hr,rfl,e',u,O6,rfl,hu⟩:=H5.ret;exact⟨u,e',O6,hr,hu⟩
end
end
section
section
variable{h:Ag}{v:Aa}{l:List B0}{id o:Nat}
theorem aLa(hs:RY h id o l)(hb:l.length<=900000000)(node:Int){e:B0}(he:WL e):∃u t e',e'.c=e.c/\BI cx 248 [Pt id o,I node,.agg e.row] h (.bool (decide (0<=GC node l))) (put h id o u++t)/\C0 (if GC node l<0 then l else l.set (GC node l).toNat e') u:=by
 obtain⟨v,hc,hv⟩:=(show RY h id o l from hs);rcases bU node l with h1|⟨k,hk,h1⟩
 .refine⟨v,[],e,rfl,?_,by rw[h1];exact hv⟩;have e2:=hc.oZ (AM.KW hv);rw[Ab,Y9,ob,hc.same,Bv];simp only[AA,B0.Cq,(f41 hc hv (by omega) node).call,h1,show(-1:Int)<0 by decide,Aq,Ak,Aj,e2];rfl
 .have hne:l≠[]:=by intro e;subst e;simp at hk
  have hcl:=aBU (h:=h) hv hne (by omega);have s1:=(hc.HB (t:=[C6.cells (l.map B0.row).flatten])).store (u:= .Ck h.length 0 l.length 3) rfl;rw[YG hc] at s1;obtain⟨e',O6,r1⟩:=aa (h:=put h id o (.Ck h.length 0 l.length 3)++[C6.cells (l.map B0.row).flatten]) he;obtain⟨c3,c2,c4⟩:=hc.next (w:= .Ck h.length 0 l.length 3) (X:= .cells (l.map B0.row).flatten) (Y:= .cells ((l.map B0.row).set k e'.row).flatten);have s2:=SY (z:=3) (LW l) c3 (i:=k) (by simpa using hk) (q:=e'.row) rfl;rw[c4] at s2;have e4:Aw (.EE 3) [.Ck h.length 0 l.length 3,I (k:Int)]=some (Pt h.length (k*3)):=DO hk;have e2:=hc.o7 (bH (LW l) (i:=k) (q:=e'.row) rfl);rw[Be,Ah] at e2;refine⟨.sl 3 ((l.map B0.row).set k e'.row),[.CH],e',O6,?_,?_⟩;·rw[Ab,Y9,ob];simp only[AA,B0.Cq,B0.g0,B0.g1,B0.g2,B0.NB,(f41 hc hv (by omega) node).call,h1,show¬(k:Int)<0 by omega,An,Ak,Aj,hc.load,Bn,hcl.call,s1,c2.load,r1.call,Bx,e4,s2,e2,show(0:Int)<=(k:Int) by omega,D8]
  .rw[h1,if_neg (by omega),AS,<-Fj];exact .mk
theorem aGh(hv:C0 l v)(hb:l.length<=900000000){k:Nat}(hk:k<l.length):∃u,BI cx 271 [v,I (k:Int)] h u h/\C0 (A7 l k) u:=by
 have Du:AM 3 (l.map B0.row) v:=hv;have H5:Ev cx 271 [v,I (k:Int)] h λr h'=>h'=h/\C0 (A7 l k) r:=by
  unfold Ev;rw[oq,aFy];refine Bd (λp:Nat×Aa=>[p.2,I (p.1:Int)]) (λp h1=>p.1<=l.length/\C0 (if p.1<=k then l.take p.1 else A7 (l.take p.1) k) p.2/\h1=h) (λp=>l.length-p.1) (0,.slnil) rfl ⟨AO _,by rw[if_pos (AO _)];exact .nil,rfl⟩ ?_;rintro⟨n,u⟩ h1 ⟨hn,hu,rfl⟩;simp only at hn hu;have inc:=BB (show n<9223372036854775807 by omega);rcases AN n l.length with hlt|DT
  .have i1:(n:Int)<(l.length:Int):=by omega
   have elem:=Du.BA (k:= .i64) hlt;have hlen:(if n<=k then l.take n else A7 (l.take n) k).length<=l.length:=by
    split;·rw[Al];omega
    .unfold A7;rw[Ao,Al,A8,Al];omega
   have e3:=AM.Jg (a:=l[n]) hu (b:=48) (Oh (by omega));simp only[AA,Du.Cp,i1,Aq,Ak,Aj,elem,B0.Cq,B0.GA,Ac,KS B0.Cq,e3,inc];refine⟨λh0=>?_,λh0=>?_⟩
   .refine AF.next (n+1,_) rfl ⟨hlt,?_,rfl⟩ (by simp only;omega);have h0:n≠k:=by omega
    have:(if n+1<=k then l.take (n+1) else A7 (l.take (n+1)) k)=(if n<=k then l.take n else A7 (l.take n) k)++[l[n]]:=by
     rw[Av hlt];by_cases qg:n<k;·rw[if_pos (by omega),if_pos (by omega)]
     .rw[if_neg (by omega),if_neg (by omega)];unfold A7;rw[CV (by rw[Al];omega),TL (by rw[Al];omega),Ax]
    simp only
    rw[this];exact .mk
   .refine AF.next (n+1,u) rfl ⟨hlt,?_,rfl⟩ (by simp only;omega);obtain rfl:n=k:=by omega
    have:(if n+1<=n then l.take (n+1) else A7 (l.take (n+1)) n)=l.take n:=by rw[if_neg (by omega)];unfold A7;rw[GX,Co (by omega),AY (by rw[Al];omega),Bv]
    simp only
    rw[this];rw[if_pos (Ac _)] at hu;exact hu
  .have i1:¬(n:Int)<(l.length:Int):=by omega
   rw[if_neg (by omega),Az DT] at hu;simp only[AA,Du.Cp,i1,An,Ak,Aj];exact⟨_,rfl,hu⟩
 obtain⟨r,h',hr,rfl,hu⟩:=H5.ret;exact⟨r,hr,hu⟩
theorem f82(hv:C0 l v)(hb:l.length<=900000000){e:B0}(he:WL e)(i:Int):∃u e',e'.c=e.c/\BI cx 136 [v,.agg e.row,I i] h u h/\C0 (l.take (Cn i l.length)++e'::l.drop (Cn i l.length)) u:=by
 obtain⟨e',O6,r1⟩:=aK7 (h:=h) he;have key:∀k:Nat,k<=l.length->∃u1 u2 u4 u5,Aw (.Hv 3 false false true) [v,I (k:Int)]=some u1/\Aw (.append 3 48) [.slnil,u1]=some u2/\Aw (.append 3 48) [u2,.sl 3 [e'.row]]=some (.sl 3 ((l.take k++[e']).map B0.row))/\Aw (.Hv 3 false true false) [v,I (k:Int)]=some u4/\Aw (.append 3 48) [.sl 3 ((l.take k++[e']).map B0.row),u4]=some u5/\C0 (l.take k++e'::l.drop k) u5:=by intro k hk;obtain⟨u1,e1,h1⟩:=AM.Lc hv (k:= .i64) hk;obtain⟨u2,e2,h2⟩:=AM.Gk h1 (b:=48) (Oh (by rw[Al];omega));have e3:=AM.Jg (a:=e') h2 (b:=48) (Oh (by rw[Al];omega));obtain⟨u4,e4,h4⟩:=AM.QT hv (k:= .i64) hk;obtain⟨u5,e5,h5⟩:=AM.YE (f:=B0.row) (l:=l.take k++[e']) .mk h4 (b:=48) (Oh (by rw[Ao,Al,A8,Bc];omega));exact⟨u1,u2,u4,u5,e1,e2,e3,e4,e5,by rw[Ax] at h5;exact h5⟩
 obtain⟨u1,u2,u4,u5,e1,e2,e3,e4,e5,hu⟩:=key (Cn i l.length) (by unfold Cn;omega);refine⟨u5,e',O6,?_,hu⟩;have Du:AM 3 (l.map B0.row) v:=hv;rw[Ab,kq,aEM];by_cases h1:i<0
 .have:Cn i l.length=0:=by unfold Cn;omega
  rw[this] at e1 e4;have e1:Aw (.Hv 3 false false true) [v,I 0]=some u1:=e1;have e4:Aw (.Hv 3 false true false) [v,I 0]=some u4:=e4;simp only[AA,B0.Cq,B0.g0,B0.g1,B0.g2,B0.NB,h1,Aq,An,Ak,Aj,Du.Cp,show¬(l.length:Int)<0 by omega,e1,e2,r1.call,KS B0.Cq,e3,e4,e5]
 .by_cases h2:(l.length:Int)<i
  .have:Cn i l.length=l.length:=by unfold Cn;omega
   rw[this] at e1 e4;simp only[AA,B0.Cq,B0.g0,B0.g1,B0.g2,B0.NB,h1,h2,Aq,An,Ak,Aj,Du.Cp,e1,e2,r1.call,KS B0.Cq,e3,e4,e5]
  .have:((Cn i l.length:Nat):Int)=i:=by unfold Cn;omega
   rw[this] at e1 e4;simp only[AA,B0.Cq,B0.g0,B0.g1,B0.g2,B0.NB,h1,h2,An,Ak,Aj,Du.Cp,e1,e2,r1.call,KS B0.Cq,e3,e4,e5]
theorem f84(hv:C0 l v)(hb:l.length<=900000000):∃u,BI cx 138 [v] h u h/\C0 (l.take (El l)) u:=by
 obtain⟨s,es,IV,_⟩:=IM l;have hcl:El l<=l.length:=by unfold El;omega
 obtain⟨u,e1,hu⟩:=AM.Lc hv (k:= .i64) hcl;obtain⟨u2,e2,HU⟩:=AM.Gk hu (b:=48) (Oh (by rw[Al];omega));refine⟨u2,?_,HU⟩;rw[Ab,ku,aEN];by_cases h1:since l-1<0
 .have:El l=0:=by unfold El;omega
  rw[this] at e1;have e1:Aw (.Hv 3 false false true) [v,I 0]=some u:=e1;simp only[AA,(qh hv (by omega)).call,CK (show -9223372036854775808<=since l-1 by omega) (show since l-1<9223372036854775808 by omega),h1,Aq,Ak,Aj,e1,e2]
 .have:((El l:Nat):Int)=since l-1:=by unfold El;omega
  rw[this] at e1;simp only[AA,(qh hv (by omega)).call,CK (show -9223372036854775808<=since l-1 by omega) (show since l-1<9223372036854775808 by omega),h1,An,Ak,Aj,e1,e2]
set_option maxHeartbeats 1000000 in
theorem aLb(hv:C0 l v)(hb:l.length<=900000000)(hl:∀x∈l,WL x){e:B0}(he:WL e):∃u e',e'.c=e.c/\BI cx 206 [v,.agg e.row] h u h/\C0 (Kw e.c l++[e']) u:=by
 have Du:AM 3 (l.map B0.row) v:=hv;obtain⟨s,es,IV,hs2,_⟩:=IM l;have H5:Ev cx 206 [v,.agg e.row] h λr h'=>h'=h/\∃e':B0,e'.c=e.c/\C0 (Kw e.c l++[e']) r:=by
  unfold Ev;rw[mj,aE3];have r0:=qh (h:=h) hv (by omega);rw[es] at r0;obtain⟨b1,b2⟩:=Vk (e:=e.c) es;simp only[AA,B0.Cq,B0.g0,B0.g1,B0.g2,B0.NB,r0.call];refine Bd (λn:Nat=>[I (Mo e.c (l.take n)),I (QY e.c (l.take n):Int),I (n:Int)])
   (λn h1=>s<=n/\n<=l.length/\QY e.c (l.take n)<=n/\((QY e.c (l.take n)=0/\Mo e.c (l.take n)= -1)\/∃k:Nat,k<n/\Mo e.c (l.take n)=(k:Int))/\h1=h) (λn=>l.length-n) s (by rw[b1,b2];rfl) ⟨Ac _,IV,by omega,.inl ⟨b1,b2⟩,rfl⟩ ?_
  rintro n h1 ⟨a1,a2,a3,a4,rfl⟩;rcases AN n l.length with hlt|DT
  .have i1:(n:Int)<(l.length:Int):=by omega
   have hnz:=hs2 n hlt a1;have e1:=RZ (e:=e.c) hlt;have e2:=R2 (e:=e.c) hlt;rw[if_neg hnz] at e1 e2;have r1:=f241 (h:=h1) (hl _ (AI hlt)) he;simp only[AA,Du.Cp,i1,Aq,Aj,Ak,Du.BA hlt,B0.Cq,B0.GA,Ac,r1.call,BB (show QY e.c (l.take n)<9223372036854775807 by omega),BB (show n<9223372036854775807 by omega)];rw[Cu];refine⟨λh2=>⟨λh3=>?_,λh3=>?_⟩,λh2=>?_⟩;·rw[if_pos h2] at e1 e2;rw[if_neg (by omega)] at e2;refine AF.next (n+1) (by rw[e1,e2]) ⟨by omega,hlt,by omega,.inr ⟨n,by omega,e2⟩,rfl⟩ (by omega)
   .rw[if_pos h2] at e1 e2;rw[if_pos (by omega)] at e2;refine AF.next (n+1) (by rw[e1,e2]) ⟨by omega,hlt,by omega,.inr ?_,rfl⟩ (by omega);rw[e2];rcases a4 with⟨_,a4⟩|⟨k,hk,a4⟩
    .omega
    .exact⟨k,by omega,a4⟩
   .rw[if_neg (by simp[h2])] at e1;rw[if_neg (show¬FN l[n].c e.c=true by simp[h2])] at e2;have e2':Mo e.c (l.take (n+1))=Mo e.c (l.take n):=by rw[e2];rcases a4 with⟨_,a4⟩|⟨k,hk,a4⟩<;>rw[a4]<;>simp
    refine AF.next (n+1) (by rw[e1,e2'];rfl) ⟨by omega,hlt,by omega,?_,rfl⟩ (by omega);rw[e1,e2'];rcases a4 with a4|⟨k,hk,a4⟩
    .exact .inl a4
    .exact .inr ⟨k,by omega,a4⟩
  .have i1:¬(n:Int)<(l.length:Int):=by omega
   rw[Az DT] at a3 a4⊢;simp only[AA,Du.Cp,i1,Aj,Ak,An];refine⟨λh2=>⟨λh3=>?_,λh3=>?_⟩,λh2=>?_⟩
   .rcases a4 with⟨a4,_⟩|⟨k,hk,a4⟩
    .omega
    have OE:k<l.length:=by omega
    obtain⟨u1,r1,Ny⟩:=aGh (h:=h1) hv hb OE;have hlen:(A7 l k).length<=l.length:=by unfold A7;rw[Ao,Al,A8];omega
    obtain⟨u2,e',O6,r2,HU⟩:=f82 (h:=h1) Ny (by omega) he ((A7 l k).length:Int);have hcl:Cn ((A7 l k).length:Int) (A7 l k).length=(A7 l k).length:=by unfold Cn;omega
    rw[hcl,Bu,Fo] at HU;simp only[AA,a4,r1.call,AM.Cp Ny,r2.call];refine⟨_,rfl,e',O6,?_⟩;rw[Kw,if_pos ⟨h2,by omega⟩,a4,AS];exact HU
   .obtain⟨u2,e',O6,r2,HU⟩:=f82 (h:=h1) hv hb he (l.length:Int);have hcl:Cn (l.length:Int) l.length=l.length:=by unfold Cn;omega
    rw[hcl,Bu,Fo] at HU;simp only[AA,r2.call];refine⟨_,rfl,e',O6,?_⟩;rw[Kw,if_neg (by omega)];exact HU
   .obtain⟨u2,e',O6,r2,HU⟩:=f82 (h:=h1) hv hb he (l.length:Int);have hcl:Cn (l.length:Int) l.length=l.length:=by unfold Cn;omega
    rw[hcl,Bu,Fo] at HU;simp only[AA,r2.call];refine⟨_,rfl,e',O6,?_⟩;rw[Kw,if_neg (λh=>h2 h.1)];exact HU
 obtain⟨r,h',hr,rfl,e',O6,hu⟩:=H5.ret;exact⟨r,e',O6,hr,hu⟩
end
end
def TA:List AU->Aa
 |[]=> .slnil
 |x::l=> .sl 3 ((x::l).map AU.row)
theorem T8{l:List AU}:Bz l (TA l):=by cases l;exact .inr ⟨rfl,rfl⟩;exact .inl rfl
theorem sJ{l:List AU}{x:AU}:TA (l++[x])= .sl 3 ((l++[x]).map AU.row):=by cases l<;>rfl
structure PN where
 x:Em
 kv:Aa
 av:Aa
 ok:av=TA x.Ay
def PN.row(p:PN):List Aa:=[I p.x.kind,I p.x.Fa,p.kv,I p.x.Cz,I p.x.A0,.str p.x.name,p.av,.str p.x.data,.str p.x.pub,.str p.x.sys,.bool p.x.Cr,I p.x.cont,I p.x.DW]
theorem PN.Cq{p:PN}:p.row.length=13:=rfl
def PN.zero:PN:=⟨{},.slnil,.slnil,rfl⟩
def pN(ps:List PN)(x:Int):PN:=ps.getD (x.toNat-1) PN.zero
def B6(n:Int):List Aa:=[I n]
def Df(l:List Int)(v:Aa):Prop:=AM 1 (l.map B6) v
def Jk(h:Ag)(kv:Aa)(l:List Int):Prop:=(kv= .slnil/\l=[])\/∃id cs,kv= .Ck id 0 l.length 1/\h[id]?=some (.cells (l.map (Aa.int .i64)++cs))
def GW:Aa->Option Nat
 | .Ck id _ _ _=>some id
 |_=>none
def VJ(h:Ag)(m:Option Nat)(f:Int->Int):Prop:=(m=none/\∀k,f k=0)\/∃(id:Nat) (l:List (Int×Int)),m=some id/\h[id]?=some (.map (l.map λx:Int×Int=>(I x.1,I x.2)))/\∀k,(l.find? λx=>decide (k=x.1)).map (·.2)=if f k=0 then none else some (f k)
def Fq(a n:Nat)(m:Option Nat)(ps:List PN):List Nat:=a::n::(m.toList++ps.filterMap λp=>GW p.kv)
structure PA(h:Ag)(a n:Nat)(m:Option Nat)(ps:List PN)(A:Ar):Prop where
 e:A.n=ps.map PN.x
 il:A.i.length=A.n.length
 ha:h[a]?=some (.cells [.Ck n 0 ps.length 13,.map m])
 hn:h[n]?=some (.cells (ps.map PN.row).flatten)
 ks:∀p∈ps,Jk h p.kv p.x.AZ
 nd:(Fq a n m ps).Nodup
 mp:VJ h m A.inr
structure Dh(h:Ag)(F:Nat->Prop)(h':Ag)(F':Nat->Prop):Prop where
 len:h.length<=h'.length
 old:∀i,i<h.length->¬F i->h'[i]?=h[i]?
 own:∀i,F' i->F i\/h.length<=i
section
variable{h h' h'' t:Ag}{F F' F'':Nat->Prop}
theorem Dh.refl:Dh h F h F:=⟨Ac _,λ_ _ _=>rfl,λ_ h=> .inl h⟩
theorem Dh.trans(x:Dh h F h' F')(y:Dh h' F' h'' F''):Dh h F h'' F'':=
 ⟨Bt x.len y.len,λi hi hF=>by
  rw[y.old i (Zz hi x.len) (λh=>by rcases x.own i h with h|h;exact hF h;omega)];exact x.old i hi hF,λi hi=>by
  rcases y.own i hi with h|h
  .exact x.own i h
  .exact .inr (Bt x.len h)⟩
theorem Dh.HB:Dh h F (h++t) F:=⟨by simp,λi hi _=>Ad hi,λ_ h=> .inl h⟩
end
def PW(h:Ag)(F:Nat->Prop)(a:Nat)(A:Ar):Prop:=∃n m ps,PA h a n m ps A/\∀i,F i↔i∈Fq a n m ps
section
variable{h h':Ag}{a n:Nat}{m:Option Nat}{ps:List PN}{A:Ar}{x:Int}{F:Nat->Prop}
theorem Jk.Cv{kv:Aa}{l:List Int}(hk:Jk h kv l)(hf:∀id,GW kv=some id->h'[id]?=h[id]?):Jk h' kv l:=by
 rcases hk with⟨rfl,rfl⟩|⟨id,cs,rfl,hc⟩
 .exact .inl ⟨rfl,rfl⟩
 .exact .inr ⟨id,cs,rfl,by rw[hf id rfl];exact hc⟩
theorem VJ.Cv{f:Int->Int}(hk:VJ h m f)(hf:∀id,m=some id->h'[id]?=h[id]?):VJ h' m f:=by
 rcases hk with h1|⟨id,l,rfl,hc,h2⟩
 .exact .inl h1
 .exact .inr ⟨id,l,rfl,by rw[hf id rfl];exact hc,h2⟩
theorem Kh{p:PN}{id:Nat}(hp:p∈ps)(hk:GW p.kv=some id):id∈Fq a n m ps:=by unfold Fq;simp only[AP,Ap];exact .inr (.inr (.inr (Cj.2 ⟨p,hp,hk⟩)))
theorem PA.Cv(w:PA h a n m ps A)(hf:∀i∈Fq a n m ps,h'[i]?=h[i]?):PA h' a n m ps A:=
 ⟨w.e,w.il,by rw[hf a (by simp[Fq])];exact w.ha,by rw[hf n (by simp[Fq])];exact w.hn,λp hp=>(w.ks p hp).Cv λid hk=>hf id (Kh hp hk),w.nd,w.mp.Cv λid hm=>hf id (by simp[Fq,hm])⟩
theorem PA.lt(w:PA h a n m ps A):∀i∈Fq a n m ps,i<h.length:=by
 intro i hi;unfold Fq at hi;simp only[AP,Ap,Cj] at hi;rcases hi with rfl|rfl|hi|⟨p,hp,hk⟩
 .exact(Ae.1 w.ha).1
 .exact(Ae.1 w.hn).1
 .rcases w.mp with⟨rfl,_⟩|⟨id,l,rfl,hc,_⟩
  .simp at hi
  .simp at hi;subst hi;exact(Ae.1 hc).1
 .rcases w.ks p hp with⟨e,_⟩|⟨id,cs,e,hc⟩
  .rw[e] at hk;cases hk
  .rw[e] at hk;cases hk;exact(Ae.1 hc).1
theorem PW.Cv(w:PW h F a A)(hf:∀i,F i->h'[i]?=h[i]?):PW h' F a A:=by obtain⟨n,m,ps,w,e⟩:=w;exact⟨n,m,ps,w.Cv λi hi=>hf i ((e i).2 hi),e⟩
theorem PW.lt(w:PW h F a A){i:Nat}(hi:F i):i<h.length:=by obtain⟨n,m,ps,w,e⟩:=w;exact w.lt i ((e i).1 hi)
theorem PA.af(w:PA h a n m ps A):A.n.length=ps.length:=by rw[w.e,Ah]
theorem PA.at(w:PA h a n m ps A)(hx:A.has x):x.toNat-1<ps.length/\((x.toNat-1:Nat):Int)=x-1:=by have:=w.af;unfold Ar.has at hx;omega
theorem PA.pn(w:PA h a n m ps A)(hx:A.has x):ps[x.toNat-1]?=some (pN ps x)/\(pN ps x).x=A.nd x/\pN ps x∈ps:=by
 have h1:=(w.at hx).1;have h2:ps[x.toNat-1]?=some ps[x.toNat-1]:=Ai h1;have h3:pN ps x=ps[x.toNat-1]:=by unfold pN;rw[AE,h2];rfl
 refine⟨by rw[h3];exact h2,?_,by rw[h3];exact AI _⟩;unfold Ar.nd;rw[if_pos hx,w.e,h3,AE,Cc,h2];rfl
theorem IA{Au:List (List Aa)}{z i k:Nat}(hr:∀r∈Au,r.length=z)(hk:k<z){r:List Aa}(hi:Au[i]?=some r):Au.flatten[i*z+k]?=r[k]?:=by
 have h1:(Au.flatten.drop (i*z))[k]?=r[k]?:=by rw[H6 hr];obtain⟨hlt,e⟩:=Ae.1 hi;rw[AH hlt,e,Dc,Ad (by rw[hr r (e▸AI hlt)];exact hk)]
 rwa [CA] at h1
theorem cQ(l:List PN):∀r∈l.map PN.row,r.length=13:=Kd (f:=PN.row) (λ_=>PN.Cq) l
def nP(n:Nat)(x:Int):Nat:=(x.toNat-1)*13
theorem PA.BW(w:PA h a n m ps A)(hx:A.has x){k:Nat}(hk:k<13):A9 h none (Pt n (nP n x+k))=(pN ps x).row[k]?:=by unfold nP;simp only[A9,w.hn,Dz];exact IA (cQ ps) hk (by rw[Cc,(w.pn hx).1];rfl)
theorem TB(w:PA h a n m ps A):BI cx 94 [Pt a 0,I x] h (.bool (decide (A.has x))) h:=by
 have e1:A9 h none (Pt a 0)=some (.Ck n 0 ps.length 13):=by simp only[A9,w.ha];rfl
 have e2:Aw (.len false) [.Ck n 0 ps.length 13]=some (I (ps.length:Int)):=rfl;rw[Ab,zI,t94];simp only[AA,Bi,e1,e2];have hl:=w.af;have e3:A.has x↔1<=x/\x<=(ps.length:Int):=by unfold Ar.has;rw[hl]
 refine⟨λh1=>?_,λh1=>?_⟩;·congr 2;rw[D4,e3];exact⟨λh=>⟨h1,h⟩,λh=>h.2⟩
 .rw[AB (λh=>h1 (e3.1 h).1)]
theorem PA.nodes(w:PA h a n m ps A):A9 h none (Pt a 0)=some (.Ck n 0 ps.length 13):=by simp only[A9,w.ha];rfl
theorem PA.len(w:PA h a n m ps A):((ps.length:Nat):Int)=A.len:=by unfold Ar.len;rw[w.af]
theorem vr(w:PA h a n m ps A){l:List Int}{v:Aa}(hv:Df l v)(hb:l.length<=1000):BI cx 107 [Pt a 0,v] h (I (if∀x∈l,A.has x then 0 else 3)) h:=by
 have hv:AM 1 (l.map B6) v:=hv;rw[Ab,lZ,aAw];simp only[AA,Bi,hv.Cp];refine Bd (λk:Nat=>[I 0,I (k:Int)]) (λk h1=>k<=l.length/\(∀x∈l.take k,A.has x)/\h1=h) (λk=>l.length-k) 0 rfl ⟨AO _,by simp,rfl⟩ ?_;rintro k h1 ⟨hk,ha,rfl⟩;rcases AN k l.length with hlt|DT
 .have i1:(k:Int)<(l.length:Int):=by omega
  have e1:A9 h1 none (.CB (B6 l[k]))=some (I l[k]):=rfl;simp only[AA,Bi,i1,hv.BA hlt,e1,(TB (x:=l[k]) w).call,BB (show k<9223372036854775807 by omega)];rw[Cu];refine⟨λh2=>?_,λh2=>?_⟩
  .have h2:¬A.has l[k]:=by simpa using h2
   rw[if_neg (λh3=>h2 (h3 _ (AI hlt)))]
  .have h2:A.has l[k]:=by simpa using h2
   refine AF.next (k+1) rfl ⟨hlt,?_,rfl⟩ (by omega);intro x hx;rw[Av hlt,Ap,Fk] at hx;rcases hx with hx|rfl
   .exact ha x hx
   .exact h2
 .have i1:¬(k:Int)<(l.length:Int):=by omega
  rw[Az DT] at ha;simp only[AA,Bi,i1,if_pos ha]
theorem Sf(w:PA h a n m ps A):BI cx 107 [Pt a 0,.sl 1 [[I x]]] h (I (if A.has x then 0 else 3)) h:=by have:=vr w (l:=[x]) (v:= .sl 1 [[I x]]) .mk (by simp);simpa using this
theorem Kz{y:Int}(w:PA h a n m ps A):BI cx 107 [Pt a 0,.sl 1 [[I x],[I y]]] h (I (if A.has x/\A.has y then 0 else 3)) h:=by have:=vr w (l:=[x,y]) (v:= .sl 1 [[I x],[I y]]) .mk (by simp);simpa using this
theorem GG{x:Int}:Aw (.By 1) [I x]=some (.sl 1 [[I x]]):=rfl
theorem E7{x y:Int}:Aw (.By 1) [I x,I y]=some (.sl 1 [[I x],[I y]]):=rfl
theorem L3.of(lm:L3 A)(hx:A.has x):1<=x/\x<=1000000000:=by have:=lm.n;unfold Ar.has at hx;omega
theorem Ie(w:PA h a n m ps A)(lm:L3 A)(hx:A.has x):BI cx 43 [Pt a 0,I x] h (Pt n (nP n x)) h:=by
 have hr:=lm.of hx;have e1:=(w.at hx).2;have e2:Aw (.EE 13) [.Ck n 0 ps.length 13,I (x-1)]=some (Pt n (nP n x)):=by rw[<-e1];exact DO (w.at hx).1
 rw[Ab,iO,t43];simp only[AA,Bi,w.nodes,CK (show -9223372036854775808<=x-1 by omega) (show x-1<9223372036854775808 by omega),e2]
theorem PA.f0(w:PA h a n m ps A)(hx:A.has x):A9 h none (Pt n (nP n x))=some (I (A.nd x).kind):=by have:=w.BW hx (k:=0) (by decide);rw[<-(w.pn hx).2.1];exact this
theorem PA.f1(w:PA h a n m ps A)(hx:A.has x):A9 h none (Pt n (nP n x+1))=some (I (A.nd x).Fa):=by have:=w.BW hx (k:=1) (by decide);rw[<-(w.pn hx).2.1];exact this
theorem PA.f2(w:PA h a n m ps A)(hx:A.has x):A9 h none (Pt n (nP n x+2))=some (pN ps x).kv:=by have:=w.BW hx (k:=2) (by decide);exact this
theorem PA.f4(w:PA h a n m ps A)(hx:A.has x):A9 h none (Pt n (nP n x+4))=some (I (A.nd x).A0):=by have:=w.BW hx (k:=4) (by decide);rw[<-(w.pn hx).2.1];exact this
theorem PA.f5(w:PA h a n m ps A)(hx:A.has x):A9 h none (Pt n (nP n x+5))=some (.str (A.nd x).name):=by have:=w.BW hx (k:=5) (by decide);rw[<-(w.pn hx).2.1];exact this
theorem PA.f6(w:PA h a n m ps A)(hx:A.has x):A9 h none (Pt n (nP n x+6))=some (pN ps x).av:=by have:=w.BW hx (k:=6) (by decide);exact this
theorem PA.LD(w:PA h a n m ps A)(hx:A.has x):Jk h (pN ps x).kv (A.nd x).AZ:=by rw[<-(w.pn hx).2.1];exact w.ks _ (w.pn hx).2.2
theorem PA.ag(w:PA h a n m ps A)(hx:A.has x):(pN ps x).av=TA (A.nd x).Ay:=by rw[<-(w.pn hx).2.1];exact(pN ps x).ok
theorem PA.row(w:PA h a n m ps A)(hx:A.has x):A9 h (some 13) (Pt n (nP n x))=some (.agg (pN ps x).row):=by
 have h1:((ps.map PN.row).flatten.drop (nP n x)).take 13=(pN ps x).row/\nP n x+13<=(ps.map PN.row).flatten.length:=by unfold nP;have hlt:=(w.at hx).1;have hg:=(w.pn hx).1;rw[H6 (cQ ps),D0 (cQ ps),Ah];refine⟨?_,by omega⟩;rw[<-NG,AH hlt,Bm,Dc];rw[Ai hlt,BF] at hg;rw[hg];exact KM PN.Cq
 simp only[A9,w.hn,Kb];rw[if_pos h1.2,h1.1]
theorem LX:∀{l:List Int} {cs pre:List Aa},Cm (pre++(l.map (Aa.int .i64)++cs)) 1 pre.length l.length=l.map B6
 |[],_,_=>rfl
 |x::l,cs,pre=>by have:=LX (l:=l) (cs:=cs) (pre:=pre++[I x]);simp only[Ax,Ao,Bc] at this;simp only[Bm,Bf,Cm,CC];rw[NI rfl];simp only[CC,BD] at this;rw[this];rfl
theorem Jk.Au{kv:Aa}{l:List Int}(hk:Jk h kv l):Ft h 1 kv=some (l.map B6):=by
 rcases hk with⟨rfl,rfl⟩|⟨id,cs,rfl,hc⟩
 .rfl
 .have:=LX (l:=l) (cs:=cs) (pre:=[]);simp only[BD,BU] at this;simp only[Ft,BO,hc,this];rw[if_pos (by simp)]
theorem Jk.len{kv:Aa}{l:List Int}(hk:Jk h kv l):Aw (.len false) [kv]=some (I (l.length:Int)):=by rcases hk with⟨rfl,rfl⟩|⟨id,cs,rfl,hc⟩<;>rfl
theorem vt{kv:Aa}{l:List Int}(hk:Jk h kv l)(hb:l.length<=1000000000):∃v,BI cx 159 [kv] h v h/\Df l v:=by
 have hr:=hk.Au;rcases hk with⟨rfl,rfl⟩|⟨id,cs,rfl,hc⟩
 .exact⟨.slnil,by rw[Ab,Y3,lp];simp only[AA,show Aw (.Gp false .sl) [.slnil,.slnil]=some (.bool true) from rfl],.inr ⟨rfl,rfl⟩⟩
 .refine⟨.sl 1 (l.map B6),?_,.mk⟩;have e1:Pc h 1 8 (.sl 1 []) (.Ck id 0 l.length 1)=some (.sl 1 (l.map B6)):=by
   unfold Pc;rw[hr,Ct];cases l with
   |nil=>rfl
   |cons x l=>
    have:(x::l).length*8<=AT:=by have:AT=140737488355328:=rfl;omega
    simp only[Bm,DP,Bf,Ah,BU] at this⊢;rw[if_pos ⟨trivial,by simpa using this⟩];rfl
  rw[Ab,Y3,lp];simp only[AA,show Aw (.Gp false .sl) [.Ck id 0 l.length 1,.slnil]=some (.bool false) from rfl,show Aw (.By 1) []=some (.sl 1 []) from rfl,e1]
def If(h:Ag)(v:Aa)(l:List AU):Prop:=(v= .slnil/\l=[])\/∃id,v= .Ck id 0 l.length 3/\h[id]?=some (.cells (l.map AU.row).flatten)/\id<h.length
theorem If.HB{v:Aa}{l:List AU}{t:Ag}(hv:If h v l):If (h++t) v l:=by
 rcases hv with h1|⟨id,e,hc,hl⟩
 .exact .inl h1
 .exact .inr ⟨id,e,by rw[Ad hl];exact hc,by rw[Ao];omega⟩
theorem If.cells{v:Aa}{l:List AU}(hv:If h v l):v.cells=[v]:=by rcases hv with⟨rfl,_⟩|⟨id,rfl,_,_⟩<;>rfl
structure LJ(h:Ag)(v:Aa)(l:List AU):Prop where
 len:Aw (.len false) [v]=some (I (l.length:Int))
 at_:∀k (hk:k<l.length),∃p,Aw (.EE 3) [v,I (k:Int)]=some p/\A9 h (some 3) p=some (.agg l[k].row)
theorem VK{v:Aa}{l:List AU}(hv:Bz l v):LJ h v l:=⟨AM.Cp hv,λk hk=>⟨_,AM.BA hv hk,rfl⟩⟩
theorem ah(l:List AU):∀r∈l.map AU.row,r.length=3:=Kd (f:=AU.row) (λ_=>rfl) l
theorem If.in_{v:Aa}{l:List AU}(hv:If h v l):LJ h v l:=by
 rcases hv with⟨rfl,rfl⟩|⟨id,rfl,hc,_⟩
 .exact⟨rfl,λk hk=>by simp at hk⟩
 .refine⟨rfl,λk hk=>⟨Pt id (k*3),DO hk,?_⟩⟩;simp only[A9,hc,Kb];rw[if_pos (by rw[D0 (ah l),Ah];omega),H6 (ah l),<-NG,AH hk,Bm,Dc];rfl
def Up(N:Nat)(v:Aa):Prop:=∀id k,v= .Ck id 0 k 3->N<=id
theorem aj{v:Aa}{l:List AU}(hv:v=TA l)(hb:l.length<=1000000000):∃u t,BI cx 100054 [v] h u (h++t)/\If (h++t) u l/\Up h.length u:=by
 cases l with
 |nil=>refine⟨.slnil,[],?_,.inl ⟨rfl,rfl⟩,λ_ _ e=>nomatch e⟩;rw[Bv,Ab,Lj,OZ,hv];simp only[AA,TA,show Aw (.Gp false .sl) [.slnil,.slnil]=some (.bool true) from rfl]
 |cons x l=>have e:=I0 (h:=h) (s:= .sl 3 []) (z:=3) (b:=40) (.inr rfl) (AM.mk (z:=3) (Au:=(x::l).map AU.row)) (by simp) (by rw[Ah];have:AT=140737488355328:=rfl;omega);rw[Ah] at e;refine⟨.Ck h.length 0 (x::l).length 3,[.cells ((x::l).map AU.row).flatten],?_,.inr ⟨h.length,rfl,by simp,by simp⟩,λ_ _ e=>by injection e with e;omega⟩;rw[Ab,Lj,OZ,hv];simp only[AA,TA,show Aw (.Gp false .sl) [.sl 3 ((x::l).map AU.row),.slnil]=some (.bool false) from rfl,show Aw (.By 3) []=some (.sl 3 []) from rfl,e]
def TC(h:Ag)(N:Nat)(x:Em)(r:List Aa):Prop:=∃K V,r=[I x.kind,I x.Fa,K,I x.Cz,I x.A0,.str x.name,V,.str x.data,.str x.pub,.str x.sys,.bool x.Cr,I x.cont,I x.DW]/\Df x.AZ K/\If h V x.Ay/\Up N V
theorem TC.HB{x:Em}{r:List Aa}{t:Ag}{N:Nat}(hr:TC h N x r):TC (h++t) N x r:=let⟨K,V,e,h1,h2,h3⟩:=hr;⟨K,V,e,h1,h2.HB,h3⟩
theorem vu(w:PA h a n m ps A)(lm:L3 A)(hx:A.has x)(qi:(A.nd x).AZ.length<=1000000000):∃r t,BI cx 71 [Pt n (nP n x)] h (.agg r) (h++t)/\TC (h++t) h.length (A.nd x) r:=by obtain⟨K,r1,hK⟩:=vt (w.LD hx) qi;obtain⟨V,t,r2,hV,hU⟩:=aj (h:=h) (w.ag hx) (lm.at_ x);refine⟨_,t,?_,K,V,rfl,hK,hV,hU⟩;have hc:K.cells=[K]:=AM.cells hK;have e0:=w.row hx;have e1:(pN ps x).row=_:=rfl;have ex:=(w.pn hx).2.1;rw[Ab,yY,t71];rw[PN.row,ex] at e0;simp only[AA,Bi,e0,w.f2 hx,w.f6 hx,r1.call,Bx,r2.call,hc,hV.cells]
end
section
variable{h h':Ag}{a n:Nat}{m:Option Nat}{ps:List PN}{A:Ar}{x:Int}{F:Nat->Prop}
theorem aGj(w:PA h a n m ps A)(lm:L3 A)(qi:(A.nd x).AZ.length<=1000000000):∃r t,BI cx 45 [Pt a 0,I x] h (.tuple [.agg r,I (if A.has x then 0 else 3)]) (h++t)/\TC (h++t) h.length (A.nd x) r:=by
 by_cases hx:A.has x;·obtain⟨r,t,r1,hr⟩:=vu w lm hx qi;have Fy:=hr;obtain⟨K,V,rfl,_⟩:=hr;refine⟨_,t,?_,Fy⟩;rw[Ab,iP,t45];simp only[AA,↓reduceIte,AK,Bi,GG,(Sf (x:=x) w).call,if_pos hx,ne_eq,Cx,(Ie w lm hx).call,r1.call]
 .refine⟨_,[],?_,.slnil,.slnil,by rw[GN hx],by rw[GN hx];exact .inr ⟨rfl,rfl⟩,by rw[GN hx];exact .inl ⟨rfl,rfl⟩,λ_ _ e=>nomatch e⟩;rw[Ab,iP,t45,Bv];simp only[AA,↓reduceIte,AK,Bi,GG,(Sf (x:=x) w).call,if_neg hx,ne_eq,show¬(3:Int)=0 by decide,D8]
theorem vw(w:PA h a n m ps A)(lm:L3 A)(qi:(A.nd x).AZ.length<=1000000000):∃v,BI cx 113 [Pt a 0,I x] h v h/\Df (A.nd x).AZ v:=by
 by_cases hx:A.has x;·obtain⟨K,r1,hK⟩:=vt (w.LD hx) qi;refine⟨K,?_,hK⟩;rw[Ab,YX,j_];simp only[AA,Bi,(TB (x:=x) w).call,AD hx,(Ie w lm hx).call,w.f2 hx,r1.call]
 .refine⟨.slnil,?_,by rw[GN hx];exact .inr ⟨rfl,rfl⟩⟩;rw[Ab,YX,j_];simp only[AA,Bi,(TB (x:=x) w).call,AB hx]
theorem aGk(w:PA h a n m ps A)(lm:L3 A):BI cx 244 [Pt a 0,I x] h (I (A.nd x).Fa) h:=by
 by_cases hx:A.has x;·rw[Ab,Y7,n_];simp only[AA,Bi,(TB (x:=x) w).call,AD hx,(Ie w lm hx).call,w.f1 hx]
 .rw[Ab,Y7,n_,GN hx];simp only[AA,Bi,(TB (x:=x) w).call,AB hx]
theorem aLd(w:PA h a n m ps A):BI cx 19 [Pt a 0] h (I A.len) h:=by have e2:Aw (.len false) [.Ck n 0 ps.length 13]=some (I (ps.length:Int)):=rfl;rw[Ab,Z_,t19];simp only[AA,Bi,w.nodes,e2,w.len]
theorem ak(w:PA h a n m ps A)(lm:L3 A):BI cx 106 [Pt a 0,I x] h (I (if A.has x then(if(A.nd x).kind=1 then 0 else 9) else 3)) h:=by
 rw[Ab,lY,aAv];by_cases hx:A.has x
 .simp only[AA,Bi,GG,(Sf (x:=x) w).call,if_pos hx,ne_eq,Cx,(Ie w lm hx).call,w.f0 hx];by_cases hk:(A.nd x).kind=1;·simp only[hk,AA,Bi,Cx]
  .simp only[hk,AA,Bi]
 .simp only[AA,Bi,GG,(Sf (x:=x) w).call,if_neg hx,ne_eq,show¬(3:Int)=0 by decide]
theorem ao{l:List PN}:(l.map PN.row).flatten.length=l.length*13:=by rw[D0 (cQ l),Ah]
theorem cR{p:PN}{n':Nat}(hk:GW p.kv=none):Fq a n' m (ps++[p])=a::n'::(m.toList++ps.filterMap λp=>GW p.kv):=by unfold Fq;rw[Gs];simp[hk]
theorem aq{x:Em}(hl:A.i.length=A.n.length):(A.add x).inr=A.inr:=by funext k;exact T1 hl
theorem qj(w:PA h a n m ps A)(hb:ps.length+1<=1000000000)(p:PN)(hk:p.kv= .slnil)(fy:p.x.AZ=[]):
  ∃h',BI cx 42 [Pt a 0,.agg p.row] h (I (A.len+1)) h'/\PA h' a h.length m (ps++[p]) (A.add p.x)/\(∀i,i<h.length->i≠a->i≠n->h'[i]?=h[i]?)/\h'.length=h.length+1:=by
 have hal:a<h.length:=w.lt a (by simp[Fq]);have Nx:n<h.length:=w.lt n (by simp[Fq]);have qk:a≠n:=by have:=w.nd;simp[Fq] at this;exact this.1.1
 have eg:=IJ (h:=h) (id:=n) (Au:=ps.map PN.row) (r2:=[p.row]) (v:= .sl 13 [p.row]) (b:=168) (cQ ps) (by decide) w.hn .mk (by simp) (by rw[Ah];have:AT=140737488355328:=rfl;simp;omega);rw[Ah] at eg;simp only[Bc] at eg;have Nz:(h.set n .CH++[C6.cells (ps.map PN.row++[p.row]).flatten])[a]?=some (.cells [.Ck n 0 ps.length 13,.map m]):=by rw[Ad (by simpa using hal),Af (DS qk)];exact w.ha
 have es:Cd (h.set n .CH++[C6.cells (ps.map PN.row++[p.row]).flatten]) 1 (Pt a 0) (.Ck h.length 0 (ps.length+1) 13)=some ((h.set n .CH++[C6.cells (ps.map PN.row++[p.row]).flatten]).set a (.cells [.Ck h.length 0 (ps.length+1) 13,.map m])):=by simp only[Cd,Nz];rfl
 have el:A9 ((h.set n .CH++[C6.cells (ps.map PN.row++[p.row]).flatten]).set a (.cells [.Ck h.length 0 (ps.length+1) 13,.map m])) none (Pt a 0)=some (.Ck h.length 0 (ps.length+1) 13):=by simp only[A9];rw[AG (by simp;omega)];rfl
 have e2:Aw (.len false) [.Ck h.length 0 (ps.length+1) 13]=some (I ((ps.length+1:Nat):Int)):=rfl;have em:Aw (.By 13) [.agg p.row]=some (.sl 13 [p.row]):=La (a:= .agg p.row) rfl (by decide);refine⟨(h.set n .CH++[C6.cells (ps.map PN.row++[p.row]).flatten]).set a (.cells [.Ck h.length 0 (ps.length+1) 13,.map m]),?_,?_,?_,?_⟩;rotate_left
 .refine⟨by simp[Ar.add,w.e],by simp[Ar.add,w.il],?_,?_,?_,?_,?_⟩;·rw[AG (by simp;omega)];simp
  .rw[Af (by omega),A5 (by simp)];simp
  .intro q hq;rcases Ap.1 hq with hq|hq
   .refine(w.ks q hq).Cv λid Ha=>?_;have h1:id∈Fq a n m ps:=Kh hq Ha;have h2:=w.lt id h1;have h3:=w.nd;have h4:id∈m.toList++ps.filterMap λp=>GW p.kv:=Ap.2 (.inr (Cj.2 ⟨q,hq,Ha⟩));unfold Fq at h3;simp only[BY,AP,not_or] at h3;have n1:a≠id:=λe=>h3.1.2 (e▸h4);have n2:n≠id:=λe=>h3.2.1 (e▸h4);rw[Af n1,Ad (by simpa using h2),Af n2]
   .simp at hq;subst hq;exact .inl ⟨hk,fy⟩
  .rw[cR (by rw[hk];rfl)];have h3:=w.nd;unfold Fq at h3;simp only[BY,AP,not_or] at h3⊢;refine⟨⟨by omega,h3.1.2⟩,λhm=>?_,h3.2.2⟩;have:=w.lt h.length (by unfold Fq;simp only[AP];exact .inr (.inr hm));omega
  .rw[aq w.il];refine w.mp.Cv λid Ha=>?_;have h1:id∈m.toList++ps.filterMap λp=>GW p.kv:=by simp[Ha]
   have h2:=w.lt id (by unfold Fq;simp only[AP];exact .inr (.inr h1));have h3:=w.nd;unfold Fq at h3;simp only[BY,AP,not_or] at h3;have n1:a≠id:=λe=>h3.1.2 (e▸h1);have n2:n≠id:=λe=>h3.2.1 (e▸h1);rw[Af n1,Ad (by simpa using h2),Af n2]
 .intro i hi h1 h2;rw[Af (DS h1),Ad (by simpa using hi),Af (DS h2)]
 .simp
 .have hl:A.len+1=((ps.length+1:Nat):Int):=by rw[<-w.len];rfl
  rw[PN.row] at em eg es el;rw[Ab,iN,t42,hl,PN.row];simp only[AA,Nat.reduceLeDiff,↓reduceIte,AK,Bi,w.nodes,em,eg,es,el,e2]
theorem Mw{Au:List (List Aa)}{z i k:Nat}(hr:∀r∈Au,r.length=z)(hi:i<Au.length)(hk:k<z){v:Aa}:Au.flatten.take (i*z+k)++[v]++Au.flatten.drop (i*z+k+1)=(Au.set i (Au[i].set k v)).flatten:=by
 have hl:=hr _ (AI hi);rw[<-bG hr hi];have e1:Au.flatten.drop (i*z)=Au[i]++Au.flatten.drop (i*z+z):=by
  have e2:i*z+z=(i+1)*z:=by rw[BC,Ez]
  rw[e2,H6 hr,H6 hr,AH hi,Dc]
 have e3:Au.flatten.take (i*z+k)=Au.flatten.take (i*z)++Au[i].take k:=by rw[List.take_add,e1,CV (by omega)]
 have e4:Au.flatten.drop (i*z+k+1)=Au[i].drop (k+1)++Au.flatten.drop (i*z+z):=by rw[Nat.add_assoc,<-E9,e1,TL (by omega)]
 rw[e3,e4,BZ,if_pos (by omega)];simp
theorem PA.sto(w:PA h a n m ps A)(hx:A.has x){k:Nat}(hk:k<13){v:Aa}(hv:v.cells=[v]){p:PN}(hp:p.row=(pN ps x).row.set k v){h1:Ag}(hn:h1[n]?=h[n]?):
  Cd h1 1 (Pt n (nP n x+k)) v=some (h1.set n (.cells ((ps.set (x.toNat-1) p).map PN.row).flatten)):=by
 have hlt:=(w.at hx).1;have hg:=(w.pn hx).1;rw[Ai hlt,BF] at hg;have e:=Mw (Au:=ps.map PN.row) (i:=x.toNat-1) (k:=k) (v:=v) (cQ ps) (by simpa using hlt) hk;rw[CN,hg,<-hp,<-Fj] at e;unfold nP;simp only[Cd,hn,w.hn,hv,Bc,LZ];rw[if_pos (by rw[D0 (cQ ps),Ah];omega),e]
theorem VL(w:PA h a n m ps A)(hx:A.has x)(p:PN):ps=ps.take (x.toNat-1)++pN ps x::ps.drop (x.toNat-1+1)/\ps.set (x.toNat-1) p=ps.take (x.toNat-1)++p::ps.drop (x.toNat-1+1):=by have hlt:=(w.at hx).1;have hg:=(w.pn hx).1;rw[Ai hlt,BF] at hg;refine⟨?_,by rw[BZ,if_pos hlt]⟩;conv=>lhs;rw[<-CL (x.toNat-1) ps,AH hlt,hg]
theorem ar{y:Em}:(A.set x y).inr=A.inr:=by funext k;exact QZ
theorem PA.tR(w:PA h a n m ps A)(hx:A.has x){p:PN}{h1:Ag}(ho:∀i∈Fq a n m ps,GW (pN ps x).kv≠some i->h1[i]?=h[i]?)(hk:Jk h1 p.kv p.x.AZ)
  (hi:GW p.kv=GW (pN ps x).kv\/∀j,GW p.kv=some j->h.length<=j):PA (h1.set n (.cells ((ps.set (x.toNat-1) p).map PN.row).flatten)) a n m (ps.set (x.toNat-1) p) (A.set x p.x):=by
 have hlt:=(w.at hx).1;have ql:=(w.pn hx).2.2;obtain⟨e1,e2⟩:=VL w hx p;have nd:=w.nd;have hkx:∀j,GW (pN ps x).kv=some j->j∈m.toList++ps.filterMap λp=>GW p.kv:=λj hj=>Ap.2 (.inr (Cj.2 ⟨_,ql,hj⟩));have Zf:=nd;unfold Fq at Zf;simp only[BY,AP,not_or] at Zf;have qk:a≠n:=Zf.1.1;have hak:GW (pN ps x).kv≠some a:=λe=>Zf.1.2 (hkx a e);have qg:GW (pN ps x).kv≠some n:=λe=>Zf.2.1 (hkx n e);have Nx:n<h.length:=w.lt n (by simp[Fq]);have h1n:h1[n]?=h[n]?:=ho n (by simp[Fq]) qg;have h1l:n<h1.length:=by have:=w.hn;rw[<-h1n] at this;exact(Ae.1 this).1
 have yx:∀j,GW p.kv=some j->j≠n/\j≠a:=by
  intro j hj;rcases hi with hi|hi
  .rw[hi] at hj;exact⟨λe=>qg (e▸hj),λe=>hak (e▸hj)⟩
  .have:=hi j hj;have:=w.lt a (by simp[Fq]);omega
 refine⟨?_,?_,?_,?_,?_,?_,?_⟩;·simp only[Ar.set,if_pos hx];rw[w.e,Fj]
 .rw[Iu];exact w.il
 .rw[Af (DS qk),ho a (by simp[Fq]) hak,Be];exact w.ha
 .rw[AG h1l]
 .intro q hq;by_cases hqp:q=p;·rw[hqp];exact hk.Cv λid Ha=>by rw[Af (DS (yx id Ha).1)]
  .rw[e2] at hq;have hq2:q∈ps.take (x.toNat-1)++ps.drop (x.toNat-1+1):=by
    rcases Ap.1 hq with h7|h7
    .exact Ap.2 (.inl h7)
    .exact Ap.2 (.inr ((AP.1 h7).resolve_left hqp))
   have wL:q∈ps:=by
    rcases Ap.1 hq2 with h7|h7
    .exact Bj h7
    .exact Bw h7
   refine(w.ks q wL).Cv λj hj=>?_;have h8:j∈Fq a n m ps:=Kh wL hj;have h9:j≠n:=λe=>Zf.2.1 (e▸Ap.2 (.inr (Cj.2 ⟨q,wL,hj⟩)));have VM:GW (pN ps x).kv≠some j:=by
    intro hjx;have h6:=(B8.1 Zf.2.2).2.1;rw[e1,Gs,Nl,hjx] at h6;simp only[B8,BY,AP,Cj] at h6;rcases Ap.1 hq2 with h7|h7
    .exact h6.2.2 j ⟨q,h7,hj⟩ j (.inl rfl) rfl
    .exact h6.2.1.1 ⟨q,h7,hj⟩
   rw[Af (DS h9),ho j h8 VM]
 .have fr:∀j,GW p.kv=some j->GW (pN ps x).kv=some j\/j∉Fq a n m ps:=by
   intro j hj;rcases hi with hi|hi
   .exact .inl (hi▸hj)
   .exact .inr λhm=>by have:=hi j hj;have:=w.lt j hm;omega
  have h1:=nd;unfold Fq at h1 fr⊢;rw[e1,Gs,Nl] at h1;rw[e1,Gs,Nl] at fr;rw[e2,Gs,Nl];generalize List.filterMap (λp=>GW p.kv) (ps.take (x.toNat-1))=T at h1 fr⊢;generalize List.filterMap (λp=>GW p.kv) (ps.drop (x.toNat-1+1))=D at h1 fr⊢;cases hp:GW p.kv with
  |none=>
   cases ho:GW (pN ps x).kv with
   |none=>rw[ho] at h1;exact h1
   |some k=>rw[ho] at h1;refine h1.sublist ?_;simp
  |some j=>
   have:=fr j hp;cases ho:GW (pN ps x).kv with
   |none=>rw[ho] at h1 this;simp only[BY,B8,AP,Ap] at h1 this⊢;grind
   |some k=>rw[ho] at h1 this;simp only[BY,B8,AP,Ap] at h1 this⊢;grind
 .rw[ar];refine w.mp.Cv λid Ha=>?_;have h8:id∈m.toList++ps.filterMap λp=>GW p.kv:=by simp[Ha]
  have h9:n≠id:=λe=>Zf.2.1 (e▸h8);have VM:GW (pN ps x).kv≠some id:=by intro Yv;exact(B8.1 Zf.2.2).2.2 id (by simp[Ha]) id (Cj.2 ⟨_,ql,Yv⟩) rfl
  rw[Af h9,ho id (by unfold Fq;simp only[AP];exact .inr (.inr h8)) VM]
end
section
variable{h h':Ag}{a n:Nat}{m:Option Nat}{ps:List PN}{A:Ar}{x:Int}{F:Nat->Prop}
theorem PA.pw(w:PA h a n m ps A):PW h (λi=>i∈Fq a n m ps) a A:=⟨n,m,ps,w,λ_=>Iff.rfl⟩
theorem L3.add{y:Em}(lm:L3 A)(h1:A.len+1<=1000000000)(h2:y.Ay.length<=1000000000)(h3:y.data.length<=1000000000):L3 (A.add y):=by
 refine⟨?_,λx=>?_,λx=>?_⟩;·unfold Ar.len at h1;simp[Ar.add];omega
 .rw[HO];split;·exact h2
  .exact lm.at_ x
 .rw[HO];split;·exact h3
  .exact lm.data x
theorem L3.set{y:Em}(lm:L3 A)(h2:y.Ay.length<=1000000000)(h3:y.data.length<=1000000000):L3 (A.set x y):=by
 refine⟨by rw[Iu];exact lm.n,λx=>?_,λx=>?_⟩<;>rw[IN]<;>split;·exact h2
 .exact lm.at_ x
 .exact h3
 .exact lm.data x
theorem qm{x y:Em}:(A.add x).set (A.len+1) y=A.add y:=by
 unfold Ar.set;rw[if_pos (Dl.2 (.inr rfl))];unfold Ar.add Ar.len;have e:((A.n.length:Int)+1).toNat-1=A.n.length:=by omega
 simp only[e];rw[BP _ _ (Ac _),CY];rfl
theorem o8{p:PN}(w:PA h a n m ps A)(hx:A.has x)(hk:GW p.kv=GW (pN ps x).kv):Fq a n m (ps.set (x.toNat-1) p)=Fq a n m ps:=by obtain⟨e1,e2⟩:=VL w hx p;unfold Fq;rw[e2,Gs,Nl,hk];conv=>rhs;rw[e1,Gs,Nl]
theorem PA.wr(w:PA h a n m ps A)(hx:A.has x){k:Nat}(hk:k<13){v:Aa}(hv:v.cells=[v]){p:PN}(hp:p.row=(pN ps x).row.set k v)(h1:p.kv=(pN ps x).kv)(h2:p.x.AZ=(A.nd x).AZ):
  ∃h',Cd h 1 (Pt n (nP n x+k)) v=some h'/\PA h' a n m (ps.set (x.toNat-1) p) (A.set x p.x)/\Fq a n m (ps.set (x.toNat-1) p)=Fq a n m ps/\(∀i,i≠n->h'[i]?=h[i]?)/\h'.length=h.length:=by
 refine⟨_,w.sto hx hk hv hp rfl,w.tR hx (λi _ _=>rfl) (by rw[h1,h2];exact w.LD hx) (.inl (by rw[h1])),o8 w hx (by rw[h1]),λi hi=>by rw[Af (DS hi)],Be⟩
theorem PA.au(w:PA h a n m ps A){h1:Ag}{IB:List PN}{A':Ar}(w':PA h1 a n m IB A')(hi:Fq a n m IB=Fq a n m ps)(ho:∀i,i≠n->h1[i]?=h[i]?)(hl:h1.length=h.length):Dh h (λi=>i∈Fq a n m ps) h1 (λi=>i∈Fq a n m IB):=
 ⟨by omega,λi _ hn=>ho i (λe=>hn (by rw[e];simp[Fq])),λi TT=> .inl (by rwa [hi] at TT)⟩
def Jw(q:Bool)(d:Int):PN:=⟨{kind:=1,Cr:=q,Cz:=d},.slnil,.slnil,rfl⟩
theorem aLf(w:PA h a n m ps A)(lm:L3 A)(hb:A.len+1<=1000000000)(q:Bool):
  ∃h',BI cx 13 [Pt a 0,.bool q] h (I (A.len+1)) h'/\PA h' a h.length m (ps++[Jw q (A.len+1)]) (A.add {kind:=1,Cr:=q,Cz:=A.len+1})/\(∀i,i<h.length->i≠a->i≠n->h'[i]?=h[i]?)/\h'.length=h.length+1:=by
 have ZE:=w.len;obtain⟨h1,r1,w1,o1,l1⟩:=qj w (by omega) (Jw q 0) rfl rfl;have vy:=lm.add (y:=(Jw q 0).x) hb (by simp[Jw]) (by simp[Jw]);have hx:(A.add (Jw q 0).x).has (A.len+1):=Dl.2 (.inr rfl);have hlen:(A.len+1).toNat-1=ps.length:=by omega
 have yx:pN (ps++[Jw q 0]) (A.len+1)=Jw q 0:=by unfold pN;rw[hlen];simp
 obtain⟨h2,s2,w2,_,o2,l2⟩:=w1.wr hx (k:=3) (by decide) (v:= I (A.len+1)) rfl (p:=Jw q (A.len+1)) (by rw[yx];rfl) (by rw[yx];rfl) (by rw[HO,if_pos rfl];rfl);refine⟨h2,?_,?_,λi hi h3 h4=>?_,by omega⟩;·have r2:=Ie w1 vy hx;rw[Ab,iL,t13];have vz:BI cx 42 [Pt a 0,.agg [I 1,I 0,.slnil,I 0,I 0,.str [],.slnil,.str [],.str [],.str [],.bool q,I 0,I 0]] h (I (A.len+1)) h1:=r1;simp only[AA,Nat.reduceLeDiff,↓reduceIte,AK,Bi,vz.call,r2.call,s2]
 .rw[qm,hlen] at w2;rw[BP _ _ (Ac _),CY] at w2;exact w2
 .rw[o2 i (by omega)];exact o1 i hi h3 h4
def Lm(k d:Int)(s:As):PN:=⟨{kind:=k,Cz:=d,data:=s},.slnil,.slnil,rfl⟩
theorem PA.Rb(w:PA h a n m ps A){p:PN}{h1:Ag}(hk:GW p.kv=none)(o1:∀i,i<h.length->i≠a->i≠n->h1[i]?=h[i]?)(l1:h1.length=h.length+1):Dh h (λi=>i∈Fq a n m ps) h1 (λi=>i∈Fq a h.length m (ps++[p])):=by
 refine⟨by omega,λi hi hn=>o1 i hi (λe=>hn (by simp[Fq,e])) (λe=>hn (by simp[Fq,e])),λi hi=>?_⟩;rw[cR hk] at hi;simp only[AP] at hi;rcases hi with rfl|rfl|hi
 .exact .inl (by simp[Fq])
 .exact .inr (Ac _)
 .exact .inl (by unfold Fq;simp only[AP];exact .inr (.inr hi))
theorem v_{k:Int}{s:As}(w:PA h a n m ps A)(lm:L3 A)(hb:A.len+1<=1000000000)(hd:A.has x/\(A.nd x).kind=1):
  ∃h',BI cx 44 [Pt a 0,I x,.agg (Lm k 0 s).row] h (.tuple [I (A.len+1),I 0]) h'/\PA h' a h.length m (ps++[Lm k x s]) (A.add (Lm k x s).x)/\(∀i,i<h.length->i≠a->i≠n->h'[i]?=h[i]?)/\h'.length=h.length+1:=by
 have ZE:=w.len;obtain⟨h1,r1,w1,o1,l1⟩:=qj w (by omega) (Lm k x s) rfl rfl;refine⟨h1,?_,w1,o1,l1⟩;rw[PN.row] at r1;rw[Ab,yN,t44,PN.row];simp only[AA,Bi,(ak (x:=x) w lm).call,if_pos hd.1,if_pos hd.2,ne_eq,Cx,Lm] at r1⊢;simp only[AA,r1.call]
theorem aLg{s:As}(w:PA h a n m ps A)(lm:L3 A)(hb:A.len+1<=1000000000)(hd:A.has x/\(A.nd x).kind=1):
  ∃h',BI cx 90 [Pt a 0,I x,.str s] h (.tuple [I (A.len+1),I 0]) h'/\PA h' a h.length m (ps++[Lm 5 x s]) (A.add (Lm 5 x s).x)/\(∀i,i<h.length->i≠a->i≠n->h'[i]?=h[i]?)/\h'.length=h.length+1:=by
 obtain⟨h1,r1,w1,o1,l1⟩:=v_ (k:=5) (s:=s) w lm hb hd;refine⟨h1,?_,w1,o1,l1⟩;have vz:BI cx 44 [Pt a 0,I x,.agg [I 5,I 0,.slnil,I 0,I 0,.str [],.slnil,.str s,.str [],.str [],.bool false,I 0,I 0]] h (.tuple [I (A.len+1),I 0]) h1:=r1;rw[Ab,zF,t90];simp only[AA,Nat.reduceLeDiff,↓reduceIte,AK,Bi,vz.call]
theorem aGl{s:As}(w:PA h a n m ps A)(lm:L3 A)(hb:A.len+1<=1000000000)(hd:A.has x/\(A.nd x).kind=1):
  ∃h',BI cx 14 [Pt a 0,I x,.str s] h (.tuple [I (A.len+1),I 0]) h'/\PA h' a h.length m (ps++[Lm 6 x s]) (A.add (Lm 6 x s).x)/\(∀i,i<h.length->i≠a->i≠n->h'[i]?=h[i]?)/\h'.length=h.length+1:=by
 obtain⟨h1,r1,w1,o1,l1⟩:=v_ (k:=6) (s:=s) w lm hb hd;refine⟨h1,?_,w1,o1,l1⟩;have vz:BI cx 44 [Pt a 0,I x,.agg [I 6,I 0,.slnil,I 0,I 0,.str [],.slnil,.str s,.str [],.str [],.bool false,I 0,I 0]] h (.tuple [I (A.len+1),I 0]) h1:=r1;rw[Ab,X_,t14];simp only[AA,Nat.reduceLeDiff,↓reduceIte,AK,Bi,vz.call]
theorem aLh{s:As}(w:PA h a n m ps A)(lm:L3 A)(hx:A.has x)(hk:(A.nd x).kind=5):
  ∃h' IB,BI cx 89 [Pt a 0,I x,.str s] h (I 0) h'/\PA h' a n m IB (A.Q4 x s)/\Dh h (λi=>i∈Fq a n m ps) h' (λi=>i∈Fq a n m IB):=by
 have hp:=(w.pn hx).2.1;obtain⟨h2,s2,w2,i2,o2,l2⟩:=w.wr hx (k:=7) (by decide) (v:= .str s) rfl (p:=⟨{A.nd x with data:=s},(pN ps x).kv,(pN ps x).av,by rw[<-hp];exact(pN ps x).ok⟩) (by simp only[PN.row];rw[hp];rfl) rfl rfl;refine⟨h2,_,?_,w2,w.au w2 i2 o2 l2⟩;rw[Ab,zE,t89];simp only[AA,Bi,GG,(Sf (x:=x) w).call,if_pos hx,ne_eq,Cx,(Ie w lm hx).call,w.f0 hx,hk,s2]
theorem wc{y:Int}:BI cx 160 [.sl 1 [[I y]]] h (.bool (decide (BS.Hq y))) h:=by
 have hv:AM 1 [[I y]] (.sl 1 [[I y]]):= .mk;have e1:([[I y]]:List (List Aa))[0]=[I y]:=rfl;rw[Ab,mZ,aAU];simp only[AA,hv.len];refine Bd (λk:Nat=>[.bool false,I (k:Int)]) (λk h1=>k<=1/\(k=1->BS.Hq y)/\h1=h) (λk=>1 -k) 0 rfl ⟨AO _,λe=>by omega,rfl⟩ ?_;rintro k h1 ⟨hk,ha,rfl⟩;rcases AN k 1 with hlt|DT
 .obtain rfl:k=0:=by omega
  simp only[AA,Bi,show((0:Nat):Int)<((1:Nat):Int) by decide,hv.EE (show 0<[[I y]].length from B9),e1,BB (show 0<9223372036854775807 by omega)];refine⟨λh2=>?_,λh2=>⟨λh3=>?_,λh3=>?_⟩⟩;·rw[AB (λhh=>by unfold BS.Hq at hh;omega)]
  .rw[AB (λhh=>by unfold BS.Hq at hh;omega)]
  .exact AF.next 1 rfl ⟨Ac _,λ_=>⟨by omega,by omega⟩,rfl⟩ (by omega)
 .obtain rfl:k=1:=by omega
  simp only[AA,Bi,show¬((1:Nat):Int)<((1:Nat):Int) by decide,AD (ha rfl)]
theorem VN{l out:List AU}{y:AU}:GD out (l++[y])=if(GD out l).any (λz=>decide (Da y=Da z)) then GD out l else GD out l++[y]:=by
 induction l generalizing out with
 |nil=>simp only[BD,GD];split<;>simp_all
 |cons z l ih=>
  rw[CC,GD,GD];split;·exact ih
  .exact ih
theorem aGm(y c:AU)(h:Ag):BI cx 239 [.agg c.row,.CB y.row] h (.bool (decide (Da y=Da c))) h:=by
 rw[Ab,oE,aBr,AU.row,AU.row];simp only[AA];refine⟨λh1=>?_,λh1=>?_⟩;·congr 2;rw[D4];simp[Da,h1]
 .rw[AB (λe=>h1 (by simp[Da] at e;exact e.1))]
theorem we{F v:Aa}{l:List AU}{q:AU->Bool}(hv:LJ h v l)(hb:l.length<=1000000000)(hF:cP F h q):BI cx 148 [v,F] h (.bool (l.any q)) h:=by
 obtain⟨f,caps,rfl,hf,hr⟩:=hF;have key:BI cx 118 [v,.func (.func f) [] caps] h (I (Ca q 0 l)) h:=by
  rw[Ab,T3,zK];simp only[AA,hv.len];refine Bd (λn:Nat=>[I 0,I (n:Int)]) (λn h1=>n<=l.length/\Ca q 0 l=Ca q n (l.drop n)/\h1=h) (λn=>l.length-n) 0 rfl ⟨AO _,rfl,rfl⟩ ?_;rintro n h1 ⟨zZ,ha,rfl⟩;rcases AN n l.length with hlt|DT
  .have i1:(n:Int)<(l.length:Int):=by omega
   obtain⟨p,e1,e2⟩:=hv.at_ n hlt;rw[AH hlt,Ca] at ha;simp only[AA,↓reduceIte,Dt,Bi,hf,i1,e1,e2,(hr l[n]).call,BB (show n<9223372036854775807 by omega)];rw[Cu];refine⟨λhe=>?_,λhe=>?_⟩;·rw[ha,if_pos he]
   .rw[if_neg (by simp[he])] at ha;exact AF.next (n+1) rfl ⟨hlt,ha,rfl⟩ (by omega)
  .have i1:¬(n:Int)<(l.length:Int):=by omega
   rw[AY DT,Ca] at ha;simp only[AA,↓reduceIte,Dt,Bi,i1,ha]
 rw[Ab,Y2,t148];simp only[AA,key.call];congr 2
 rcases GS (p:=q) (l:=l) (k:=0) with⟨h1,h2⟩|⟨n,y,h1,h2,h3⟩
 .rw[h1,eq_comm];have:=ZA.1 h2;simpa using this
 .rw[h1,eq_comm,AD (by omega),List.any_eq_true];exact⟨y,List.mem_of_find?_eq_some h3,List.find?_some h3⟩
theorem wg{l:List AU}{v:Aa}(hv:LJ h v l)(hb:l.length<=1000000000)(hs:∀y∈l,BS.Hq y.A0):BI cx 161 [v] h (.tuple [TA (Cg l),.bool true]) h:=by
 rw[Ab,m6,aAV];simp only[AA,hv.len];refine Bd (λk:Nat=>[.slnil,.bool false,TA (Cg (l.take k)),I (k:Int)]) (λk h1=>k<=l.length/\h1=h) (λk=>l.length-k) 0 rfl ⟨AO _,rfl⟩ ?_;rintro k h1 ⟨hk,rfl⟩;rcases AN k l.length with hlt|DT
 .have i1:(k:Int)<(l.length:Int):=by omega
  obtain⟨p,p1,p2⟩:=hv.at_ k hlt;have inc:=BB (show k<9223372036854775807 by omega);have hsp:=hs _ (AI hlt);have r1:=wc (h:=h1) (y:=l[k].A0);have hF:cP (.func (.func 239) [] [.CB l[k].row]) h1 (λc=>decide (Da l[k]=Da c)):=⟨_,_,rfl,by decide,λc=>aGm l[k] c h1⟩;have tT:(Cg (l.take k)).length<=1000000000:=by have:=OS (l:=l.take k);rw[Al] at this;omega
  have r2:=we (VK T8) tT hF;have e1:Cg (l.take (k+1))=if(Cg (l.take k)).any (λz=>decide (Da l[k]=Da z)) then Cg (l.take k) else Cg (l.take k)++[l[k]]:=by rw[Av hlt];exact VN
  have e2:=AM.Jg (f:=AU.row) (a:=l[k]) (b:=40) (T8 (l:=Cg (l.take k))) (by have:=OS (l:=l.take k);rw[Al] at this;have:AT=140737488355328:=rfl;omega);have em:Aw (.By 3) [.agg l[k].row]=some (.sl 3 [l[k].row]):=rfl;rw[<-sJ] at e2;rw[AU.row] at r2 em e2 p2;simp only[AA,Nat.reduceLeDiff,↓reduceIte,Bi,i1,p1,p2,GG,r1.call,AD hsp,r2.call,em,e2,inc];rw[Cu];refine⟨λh2=>?_,λh2=>?_⟩;·exact AF.next (k+1) (by rw[e1,if_neg (by simpa using h2)]) ⟨hlt,rfl⟩ (by omega)
  .exact AF.next (k+1) (by rw[e1,if_pos (by simpa using h2)]) ⟨hlt,rfl⟩ (by omega)
 .have i1:¬(k:Int)<(l.length:Int):=by omega
  simp only[AA,↓reduceIte,Bi,i1,Az DT]
theorem aGn{l:List AU}{v:Aa}(w:PA h a n m ps A)(lm:L3 A)(hx:A.has x)(hk:(A.nd x).kind=4)(hv:LJ h v l)(hb:l.length<=1000000000)(hs:∀y∈l,BS.Hq y.A0):
  ∃h' IB,BI cx 150 [Pt a 0,I x,v] h (I 0) h'/\PA h' a n m IB (A.Iv x l)/\Dh h (λi=>i∈Fq a n m ps) h' (λi=>i∈Fq a n m IB):=by
 have hp:=(w.pn hx).2.1;have r1:=wg hv hb hs;obtain⟨h2,s2,w2,i2,o2,l2⟩:=w.wr hx (k:=6) (by decide) (v:=TA (Cg l)) (AM.cells T8) (p:=⟨{A.nd x with Ay:=Cg l},(pN ps x).kv,TA (Cg l),rfl⟩) (by simp only[PN.row];rw[hp];rfl) rfl rfl;refine⟨h2,_,?_,w2,w.au w2 i2 o2 l2⟩;rw[Ab,lf,aER];simp only[AA,Bi,GG,(Sf (x:=x) w).call,if_pos hx,ne_eq,Cx,(Ie w lm hx).call,w.f0 hx,hk,r1.call,s2]
theorem aGo(w:PA h a n m ps A)(hx:A.has x):BI cx 74 [Pt n (nP n x)] h (.bool (decide (YL (A.nd x)))) h:=by rw[Ab,yZ,t74];simp only[AA,Bi,w.f0 hx,w.f4 hx,w.f5 hx,YL];refine⟨λh1=>⟨λh2=>?_,λh2=>?_⟩,λh1=>?_⟩<;>simp[*]
end
section
variable{h h':Ag}{a n:Nat}{m:Option Nat}{ps:List PN}{A:Ar}{x:Int}{F:Nat->Prop}
def O7(x:Int×Int):Aa×Aa:=(I x.1,I x.2)
theorem Zg{k:Int}:∀{l:List (Int×Int)} {i:Nat},(l.find? (λx=>decide (k=x.1))=none->Kq k (l.map O7) i=some none)/\∀y,l.find? (λx=>decide (k=x.1))=some y->∃j,Kq k (l.map O7) i=some (some (j,I y.2))
 |[],i=>⟨λ_=>rfl,λy h=>by cases h⟩
 |z::l,i=>by
  have ih:=Zg (k:=k) (l:=l) (i:=i+1);simp only[Bm,O7,Kq,I5];by_cases e:k=z.1;·simp only[e,D8,BO];exact⟨λh=>(by cases h),λy h=>⟨i,by cases h;rfl⟩⟩
  .simp only[e,Fi,Ef];exact ih
theorem VJ.get{f:Int->Int}(w:VJ h m f)(k:Int):Ed (.dx (I 0) true) h [.map m,I k]=some (h,if f k=0 then .tuple [I 0,.bool false] else .tuple [I (f k),.bool true]):=by
 rcases w with⟨rfl,h0⟩|⟨id,l,rfl,hc,hl⟩
 .rw[if_pos (h0 k)];rfl
 .have hl:=hl k;have hm:=Zg (k:=k) (l:=l) (i:=0);simp only[Ed,kH,hc];by_cases h0:f k=0
  .rw[if_pos h0] at hl⊢;have e:l.find? (λx=>decide (k=x.1))=none:=by
    cases hf:l.find? (λx=>decide (k=x.1)) with
    |none=>rfl
    |some y=>rw[hf] at hl;cases hl
   have:=hm.1 e;unfold O7 at this;rw[this];rfl
  .rw[if_neg h0] at hl⊢;cases hf:l.find? (λx=>decide (k=x.1)) with
   |none=>rw[hf] at hl;cases hl
   |some y=>rw[hf] at hl;simp only[BT,BF] at hl;obtain⟨j,e⟩:=hm.2 y hf;unfold O7 at e;rw[e,<-hl];rfl
theorem o9{id:Nat}{l:List (Int×Int)}{k v:Int}(hc:h[id]?=some (.map (l.map O7)))(hn:l.find? (λx=>decide (k=x.1))=none):
  ∃h1,Ed (.MH (I 0)) h [.map (some id),I k]=some (h1,.tuple [I 0,I l.length])/\∃h2,Ed .LK h1 [.map (some id),I l.length,I v]=some (h2,.bool true)/\h2=h.set id (.map ((l++[(k,v)]).map O7)):=by
 have Ha:=(Ae.1 hc).1;have hm:=(Zg (k:=k) (l:=l) (i:=0)).1 hn;refine⟨h.set id (.map (l.map O7++[(I k,I 0)])),?_,_,?_,rfl⟩;·simp only[Ed,TM,hc,hm,BT,Ah]
 .have e1:(h.set id (.map (l.map O7++[(I k,I 0)])))[id]?=some (.map (l.map O7++[(I k,I 0)])):=AG Ha;have e2:(l.map O7++[(I k,I 0)])[l.length]?=some (I k,I 0):=by rw[A5 (by simp)];simp
  simp only[Ed,TN,e1,AS,e2];rw[if_pos (by omega),List.set_set,BP _ _ (by simp)];simp[O7]
theorem PA.aGp(w:PA h a n m ps A):∀i∈m.toList++ps.filterMap (λp=>GW p.kv),i<h.length/\i≠a/\i≠n:=by
 intro i hi;have h1:i∈Fq a n m ps:=by unfold Fq;simp only[AP];exact .inr (.inr hi)
 have h3:=w.nd;unfold Fq at h3;simp only[BY,AP,not_or] at h3;exact⟨w.lt i h1,λe=>h3.1.2 (e▸hi),λe=>h3.2.1 (e▸hi)⟩
theorem PA.aGq(w:PA h a n m ps A){h1:Ag}{m':Option Nat}{A':Ar}(e1:A'.n=A.n)(e2:A'.i.length=A'.n.length)(ha:h1[a]?=some (.cells [.Ck n 0 ps.length 13,.map m']))(ho:∀i,i<h.length->i≠a->m≠some i->h1[i]?=h[i]?)(hm:m'=m\/∃j,m'=some j/\h.length<=j)(hM:VJ h1 m' A'.inr):PA h1 a n m' ps A':=by
 have nd:=w.nd;have Zf:=nd;unfold Fq at Zf;simp only[BY,AP,not_or] at Zf;have hnm:m≠some n:=λe=>Zf.2.1 (by simp[e]);refine⟨by rw[e1];exact w.e,e2,ha,?_,?_,?_,hM⟩;·rw[ho n (w.lt n (by simp[Fq])) (DS Zf.1.1) hnm];exact w.hn
 .intro p hp;refine(w.ks p hp).Cv λid Ha=>?_;have h1:id∈ps.filterMap (λp=>GW p.kv):=Cj.2 ⟨p,hp,Ha⟩;have h2:=w.aGp id (Ap.2 (.inr h1));exact ho id h2.1 h2.2.1 λe=>(B8.1 Zf.2.2).2.2 id (by simp[e]) id h1 rfl
 .rcases hm with rfl|⟨j,rfl,hj⟩
  .exact nd
  .have h5:∀i∈ps.filterMap (λp=>GW p.kv),i<h.length:=λi hi=>(w.aGp i (Ap.2 (.inr hi))).1;have h6:=w.lt a (by simp[Fq]);have h7:=w.lt n (by simp[Fq]);have h8:=(B8.1 Zf.2.2).2.1;unfold Fq;simp only[BY,AP,Option.toList_some,CC,BD,not_or];exact⟨⟨Zf.1.1,by omega,λhm=>Zf.1.2 (Ap.2 (.inr hm))⟩,⟨by omega,λhm=>Zf.2.1 (Ap.2 (.inr hm))⟩,λhm=>by have:=h5 j hm;omega,h8⟩
theorem aGr{i:Nat}(hm:m=some i):i∈Fq a n m ps:=by unfold Fq;simp[hm]
theorem PA.aGs(w:PA h a n m ps A){l:List (Int×Int)}{id:Nat}(hmi:m=some id)(hc:h[id]?=some (.map (l.map O7)))(hl:∀k,(l.find? λx=>decide (k=x.1)).map (·.2)=if A.inr k=0 then none else some (A.inr k)){d i:Int}(hd:A.has d)(hi:A.has i)(hdi:d≠i)(h0:A.inr d=0)(zj:A.inr i=0):
  ∃h1 h2 h3,Ed (.MH (I 0)) h [.map m,I d]=some (h1,.tuple [I 0,I l.length])/\Ed .LK h1 [.map m,I l.length,I i]=some (h2,.bool true)/\
   Ed (.MH (I 0)) h2 [.map m,I i]=some (h3,.tuple [I 0,I ((l.length+1:Nat):Int)])/\∃h4,Ed .LK h3 [.map m,I ((l.length+1:Nat):Int),I i]=some (h4,.bool true)/\PA h4 a n m ps ((A.Ia d i).Ia i i)/\(∀j,j≠id->h4[j]?=h[j]?)/\h4.length=h.length:=by
 subst hmi;have Ha:=(Ae.1 hc).1;have fnone:∀k,A.inr k=0->l.find? (λx=>decide (k=x.1))=none:=by
  intro k hk;have:=hl k;rw[if_pos hk] at this;cases hf:l.find? (λx=>decide (k=x.1)) with
  |none=>rfl
  |some y=>rw[hf] at this;cases this
 obtain⟨h1,e1,h2,e2,rfl⟩:=o9 (v:=i) hc (fnone d h0);have HZ:(h.set id (.map ((l++[(d,i)]).map O7)))[id]?=some (.map ((l++[(d,i)]).map O7)):=AG Ha;obtain⟨h3,e3,h4,e4,rfl⟩:=o9 (k:=i) (v:=i) HZ (by rw[List.find?_append,fnone i zj];simp[DS hdi]);simp only[Ao,Bc] at e3 e4;refine⟨h1,_,h3,e1,e2,e3,_,e4,?_,?_,by simp⟩
 .have ida:id≠a:=λe=>by have:=w.nd;unfold Fq at this;simp[e] at this
  refine w.aGq (m':=some id) (A':=(A.Ia d i).Ia i i) rfl ?_ ?_ ?_ (.inl rfl) ?_;·simp only[Ar.Ia];split<;>split<;>simp[w.il]
  .rw[Af ida,Af ida];exact w.ha
  .intro j hj hja hjm;have:id≠j:=λe=>hjm (by rw[e]);rw[Af this,Af this]
  .refine .inr ⟨id,l++[(d,i)]++[(i,i)],rfl,?_,λk=>?_⟩;·rw[AG (by simpa using Ha)];rfl
   .have il1:(A.Ia d i).i.length=(A.Ia d i).n.length:=by simp only[Ar.Ia];split<;>simp[w.il]
    rw[Oj il1,Oj w.il,List.find?_append,List.find?_append];have vQ:(A.Ia d i).has i:=hi;have hk:=hl k;have sK:i≠0:=by have:=hi.1;omega
    cases hf:l.find? (λx=>decide (k=x.1)) with
    |some y=>
     rw[hf] at hk;have cO:A.inr k≠0:=by intro e;rw[if_pos e] at hk;cases hk
     have n1:k≠i:=λe=>cO (e▸zj);have n2:k≠d:=λe=>cO (e▸h0);simp only[n1,n2,false_and,Ef,Option.some_or];exact hk
    |none=>
     rw[hf] at hk;have cO:A.inr k=0:=by
      by_cases e:A.inr k=0;·exact e
      .rw[if_neg e] at hk;cases hk
     by_cases n2:k=d;·subst n2;simp[hdi,hd,sK]
     .by_cases n1:k=i;·subst n1;simp[n2,vQ,sK]
      .simp[n1,n2,cO]
 .intro j hj;rw[Af (DS hj),Af (DS hj)]
theorem aGt(w:PA h a n m ps A)(lm:L3 A)(hb:A.len+1<=1000000000)(hx:A.has x):
  ∃h' n' m' IB,BI cx 195 [Pt a 0,I x] h (I (A.EX x)) h'/\PA h' a n' m' IB (A.CW x)/\Dh h (λi=>i∈Fq a n m ps) h' (λi=>i∈Fq a n' m' IB):=by
 have l1:A9 h none (Pt a 1)=some (.map m):=by simp only[A9,w.ha];rfl
 have g1:=w.mp.get x;by_cases h0:A.inr x=0
 .obtain⟨h1,r1,w1,o1,len1⟩:=aLf w lm hb false;have x1:=w.Rb (p:=Jw false (A.len+1)) rfl o1 len1;have hN:A.EX x=A.len+1:=by unfold Ar.EX;rw[if_neg (by simp[h0])]
  have hA:A.CW x=((A.add {kind:=1,Cz:=A.len+1}).Ia x (A.len+1)).Ia (A.len+1) (A.len+1):=by unfold Ar.CW;rw[if_neg (by simp[h0])]
  have qn:∀k,(A.add {kind:=1,Cr:=false,Cz:=A.len+1}).inr k=A.inr k:=λk=>T1 w.il;have NA:(A.add {kind:=1,Cr:=false,Cz:=A.len+1}).has x:=Dl.2 (.inl hx);have Tr:(A.add {kind:=1,Cr:=false,Cz:=A.len+1}).has (A.len+1):=Dl.2 (.inr rfl);have hne:=Vq hx;have zj:A.inr (A.len+1)=0:=by unfold Ar.inr;rw[if_neg P8]
  have l2:A9 h1 none (Pt a 1)=some (.map m):=by simp only[A9,w1.ha];rfl
  rw[if_pos h0] at g1;rcases w1.mp with⟨rfl,hz⟩|⟨id,l,rfl,hc,hl⟩
  .have WD:=w1.ha;have hal:a<h1.length:=w1.lt a (by simp[Fq]);have Nz:(h1++[C6.map []])[a]?=some (.cells [.Ck h.length 0 (ps++[Jw false (A.len+1)]).length 13,.map none]):=by rw[Ad hal];exact WD
   have es:Cd (h1++[C6.map []]) 1 (Pt a 1) (.map (some h1.length))=some ((h1++[C6.map []]).set a (.cells [.Ck h.length 0 (ps++[Jw false (A.len+1)]).length 13,.map (some h1.length)])):=by simp only[Cd,Nz];rfl
   have fQ:((h1++[C6.map []]).set a (.cells [.Ck h.length 0 (ps++[Jw false (A.len+1)]).length 13,.map (some h1.length)]))[a]?=some (.cells [.Ck h.length 0 (ps++[Jw false (A.len+1)]).length 13,.map (some h1.length)]):=AG (by simp;omega);have el:A9 ((h1++[C6.map []]).set a (.cells [.Ck h.length 0 (ps++[Jw false (A.len+1)]).length 13,.map (some h1.length)])) none (Pt a 1)=some (.map (some h1.length)):=by simp only[A9,fQ];rfl
   have f_:((h1++[C6.map []]).set a (.cells [.Ck h.length 0 (ps++[Jw false (A.len+1)]).length 13,.map (some h1.length)]))[h1.length]?=some (.map (([]:List (Int×Int)).map O7)):=by rw[Af (by omega),A5 (Ac _),CY];rfl
   have w2:PA ((h1++[C6.map []]).set a (.cells [.Ck h.length 0 (ps++[Jw false (A.len+1)]).length 13,.map (some h1.length)])) a h.length (some h1.length) (ps++[Jw false (A.len+1)]) (A.add {kind:=1,Cr:=false,Cz:=A.len+1}):=by refine w1.aGq rfl w1.il fQ (λi hi hia _=>by rw[Af (DS hia),Ad hi]) (.inr ⟨_,rfl,Ac _⟩) (.inr ⟨h1.length,[],rfl,f_,λk=>by rw[if_pos (hz k)];rfl⟩)
   obtain⟨k1,k2,k3,m1,m2,m3,k4,m4,w3,o3,len3⟩:=w2.aGs rfl f_ (λk=>by rw[if_pos (hz k)];rfl) NA Tr hne ((qn x).trans h0) ((qn _).trans zj);refine⟨k4,_,_,_,?_,hA▸w3,⟨by rw[len3];simp;omega,λi hi hin=>?_,λi hi=>?_⟩⟩;·simp only[BU] at m1 m2 m3 m4;rw[Ab,T6,zN,hN];simp only[AA,l1,g1,r1.call,l2,show Aw (.Gp false .mp) [.map none,.map none]=some (.bool true) from rfl,es,el,m1,m2,m3,m4]
   .have h5:=x1.old i hi hin;have hia:i≠a:=λe=>hin (by simp[Fq,e]);rw[o3 i (by omega),Af (DS hia),Ad (by omega),h5]
   .unfold Fq at hi;simp only[AP,Option.toList_some,CC,BD] at hi;rcases hi with rfl|rfl|rfl|hi
    .exact .inl (by simp[Fq])
    .exact .inr (Ac _)
    .exact .inr (by omega)
    .exact x1.own i (by unfold Fq;simp only[AP,Option.toList_none,BD];exact .inr (.inr hi))
  .obtain⟨k1,k2,k3,m1,m2,m3,k4,m4,w3,o3,len3⟩:=w1.aGs rfl hc hl NA Tr hne ((qn x).trans h0) ((qn _).trans zj);refine⟨k4,_,_,_,?_,hA▸w3,⟨by omega,λi hi hin=>?_,x1.own⟩⟩;·rw[Ab,T6,zN,hN];simp only[AA,l1,g1,r1.call,l2,show Aw (.Gp false .mp) [.map (some id),.map none]=some (.bool false) from rfl,m1,m2,m3,m4]
   .rw[o3 i (λe=>hin (e▸aGr rfl))];exact x1.old i hi hin
 .have hN:A.EX x=A.inr x:=by unfold Ar.EX;rw[if_pos h0]
  have hA:A.CW x=A:=by unfold Ar.CW;rw[if_pos h0]
  refine⟨h,n,m,ps,?_,by rw[hA];exact w,.refl⟩;rw[if_neg h0] at g1;rw[Ab,T6,zN,hN];simp only[AA,l1,g1]
theorem L3.VO(lm:L3 A)(h1:A.len+1<=1000000000):L3 (A.CW x):=by
 unfold Ar.CW;split;·exact lm
 .have:=lm.add (y:={kind:=1,Cz:=A.len+1}) h1 (by simp) (by simp);exact⟨this.n,this.at_,this.data⟩
theorem sL(hk:A.has x){d:Int}:(A.CW d).nd x=A.nd x:=Vo (.inl (Vq hk))
theorem aGu{l:List AU}{v:Aa}{d sp:Int}{nm:As}(w:PA h a n m ps A)(lm:L3 A)(hb:A.len+3<=1000000000)(hd:A.has d/\(A.nd d).kind=1)(hsp:BS.Hq sp)(hv:Bz l v)(hl:l.length<=1000000000)(hs:∀y∈l,BS.Hq y.A0):
  ∃h' n' m' IB,BI cx 110 [Pt a 0,I d,I sp,.str nm,v] h (.tuple [I (A.len+1),I 0]) h'/\PA h' a n' m' IB (A.elem d sp nm l)/\Dh h (λi=>i∈Fq a n m ps) h' (λi=>i∈Fq a n' m' IB)/\L3 (A.elem d sp nm l):=by
 have ZE:=w.len;have r0:=wg (h:=h) (VK hv) hl hs;obtain⟨u,hu⟩:∃u,u=TA (Cg l):=⟨_,rfl⟩;rw[<-hu] at r0;have UC:(Cg l).length<=1000000000:=by have:=OS (l:=l);omega
 have r00:=wc (h:=h) (y:=sp);rw[AD hsp] at r00;obtain⟨h1,r1,w1,o1,l1⟩:=qj w (by omega) ⟨{kind:=4,Cz:=d,A0:=sp,name:=nm,Ay:=Cg l},.slnil,u,hu⟩ rfl rfl;have vy:=lm.add (y:={kind:=4,Cz:=d,A0:=sp,name:=nm,Ay:=Cg l}) (by omega) UC (by simp);have NA:(A.add {kind:=4,Cz:=d,A0:=sp,name:=nm,Ay:=Cg l}).has (A.len+1):=Dl.2 (.inr rfl);have LR:(A.add {kind:=4,Cz:=d,A0:=sp,name:=nm,Ay:=Cg l}).nd (A.len+1)={kind:=4,Cz:=d,A0:=sp,name:=nm,Ay:=Cg l}:=by rw[HO,if_pos rfl]
 have x1:=w.Rb (p:=⟨{kind:=4,Cz:=d,A0:=sp,name:=nm,Ay:=Cg l},.slnil,u,hu⟩) rfl o1 l1;have vz:BI cx 42 [Pt a 0,.agg [I 4,I 0,.slnil,I d,I sp,.str nm,u,.str [],.str [],.str [],.bool false,I 0,I 0]] h (I (A.len+1)) h1:=r1;have r2:=Ie w1 vy NA;have r3:=aGo w1 NA;rw[LR] at r3;have hc:u.cells=[u]:=by rw[hu];exact AM.cells T8
 unfold Ar.elem;simp only
 by_cases hT:YL {kind:=4,Cz:=d,A0:=sp,name:=nm,Ay:=Cg l}
 .rw[if_pos hT];rw[AD hT] at r3;have YO:(A.add {kind:=4,Cz:=d,A0:=sp,name:=nm,Ay:=Cg l}).has d:=Dl.2 (.inl hd.1);obtain⟨h2,n2,m2,i7,r4,w2,x2⟩:=aGt w1 vy (by rw[OR];omega) YO;have lm2:=vy.VO (x:=d) (by rw[OR];omega);have Xr:((i7.length:Nat):Int)=((A.add {kind:=4,Cz:=d,A0:=sp,name:=nm,Ay:=Cg l}).CW d).len:=w2.len;have pA:((A.add {kind:=4,Cz:=d,A0:=sp,name:=nm,Ay:=Cg l}).CW d).len<=A.len+2:=by rw[rT,OR];split<;>omega
  obtain⟨h3,r5,w3,o3,l3⟩:=qj w2 (by omega) ⟨{kind:=2,DW:=A.len+1,Cz:=(A.add {kind:=4,Cz:=d,A0:=sp,name:=nm,Ay:=Cg l}).EX d},.slnil,.slnil,rfl⟩ rfl rfl;obtain⟨qs,hqs⟩:∃qs,qs=i7++[⟨{kind:=2,DW:=A.len+1,Cz:=(A.add {kind:=4,Cz:=d,A0:=sp,name:=nm,Ay:=Cg l}).EX d},.slnil,.slnil,rfl⟩]:=⟨_,rfl⟩;have x3:=w2.Rb (p:=⟨{kind:=2,DW:=A.len+1,Cz:=(A.add {kind:=4,Cz:=d,A0:=sp,name:=nm,Ay:=Cg l}).EX d},.slnil,.slnil,rfl⟩) rfl o3 l3;rw[<-hqs] at w3 x3;have lm3:=lm2.add (y:={kind:=2,DW:=A.len+1,Cz:=(A.add {kind:=4,Cz:=d,A0:=sp,name:=nm,Ay:=Cg l}).EX d}) (by omega) (by simp) (by simp);have r5':BI cx 42 [Pt a 0,.agg [I 2,I 0,.slnil,I ((A.add {kind:=4,Cz:=d,A0:=sp,name:=nm,Ay:=Cg l}).EX d),I 0,.str [],.slnil,.str [],.str [],.str [],.bool false,I 0,I (A.len+1)]] h2 _ h3:=r5;have Yv:=Mq (h:=d) NA;have qo:=Dl (x:={kind:=2,DW:=A.len+1,Cz:=(A.add {kind:=4,Cz:=d,A0:=sp,name:=nm,Ay:=Cg l}).EX d}).2 (.inl Yv);have wh:(((A.add {kind:=4,Cz:=d,A0:=sp,name:=nm,Ay:=Cg l}).CW d).add {kind:=2,DW:=A.len+1,Cz:=(A.add {kind:=4,Cz:=d,A0:=sp,name:=nm,Ay:=Cg l}).EX d}).nd (A.len+1)={kind:=4,Cz:=d,A0:=sp,name:=nm,Ay:=Cg l}:=by rw[Lg Yv,sL NA,LR]
  have r6:=Ie w3 lm3 qo;have hp:=(w3.pn qo).2.1;rw[wh] at hp;obtain⟨h4,s4,w4,i4,o4,l4⟩:=w3.wr qo (k:=11) (by decide) (v:= I (((A.add {kind:=4,Cz:=d,A0:=sp,name:=nm,Ay:=Cg l}).CW d).len+1)) rfl (p:=⟨{kind:=4,Cz:=d,A0:=sp,name:=nm,Ay:=Cg l,cont:=((A.add {kind:=4,Cz:=d,A0:=sp,name:=nm,Ay:=Cg l}).CW d).len+1},(pN qs (A.len+1)).kv,(pN qs (A.len+1)).av,by have:=(pN qs (A.len+1)).ok;rw[hp] at this;exact this⟩) (by simp only[PN.row];rw[hp];rfl) rfl (by rw[wh]);refine⟨h4,_,_,_,?_,w4,x1.trans (x2.trans (x3.trans (w3.au w4 i4 o4 l4))),lm3.set UC (by simp)⟩;rw[Ab,YV,jy];simp only[AA,Nat.reduceLeDiff,↓reduceIte,AK,Bi,(ak (x:=d) w lm).call,if_pos hd.1,if_pos hd.2,ne_eq,Cx,r0.call,GG,r00.call,hc,vz.call,r2.call,r3.call,r4.call,r5'.call,r6.call,s4]
 .rw[if_neg hT];rw[AB hT] at r3;refine⟨h1,_,_,_,?_,w1,x1,vy⟩;rw[Ab,YV,jy];simp only[AA,Nat.reduceLeDiff,↓reduceIte,AK,Bi,(ak (x:=d) w lm).call,if_pos hd.1,if_pos hd.2,ne_eq,Cx,r0.call,GG,r00.call,hc,vz.call,r2.call,r3.call]
end
section
variable{h h':Ag}{a n:Nat}{m:Option Nat}{ps:List PN}{A:Ar}{x:Int}{F:Nat->Prop}
theorem XM{α:Type}{p q:α->Bool}{y:α}:∀{l:List α},(∀x∈l,p x=true->q x=true)->y∈l->p y=false->q y=true->(l.filter p).length<(l.filter q).length
 |[],_,h,_,_=>by cases h
 |x::l,hi,hy,hp,hq=>by
  have le:∀{l:List α},(∀x∈l,p x=true->q x=true)->(l.filter p).length<=(l.filter q).length:=by
   intro l;induction l with
   |nil=>intro _;simp
   |cons z l ih=>
    intro hi;have:=ih λx hx=>hi x (by simp[hx]);rw[JT,JT];split;·rename_i hz;rw[if_pos (hi z (by simp) hz)];simp;exact this
    .split;·simp;omega
     .exact this
  have hl:=λx (hx:x∈l)=>hi x (by simp[hx]);rw[JT,JT];rcases AP.1 hy with rfl|hy
  .rw[if_neg (by simp[hp]),if_pos hq];have:=le hl;simp;omega
  .have ih:=XM hl hy hp hq;split;·rename_i hz;rw[if_pos (hi x (by simp) hz)];simp;exact ih
   .split;·simp;omega
    .exact ih
theorem jA{r:Int->Nat}{k y:Int}(hr:∀h,A.has h->A.up h≠0->r (A.up h)<r h)(hR:Reach A k y)(hy:A.has y):r k<=r y:=by
 induction hR with
 |refl=>exact Ac _
 |@step z h1 h2 ih=>
  by_cases hz:A.has (A.up z);·have:=ih hz;have:=hr z hy h1;omega
  .cases h2 with
   |refl=>have:=hr z hy h1;omega
   |step h3 _=>exact absurd (Vm hz) h3
open Classical in
theorem jB{e:Int}(ok:Ew A e):∃r:Int->Nat,(∀h,A.has h->A.up h≠0->r (A.up h)<r h)/\∀h,r h<=A.n.length:=by
 obtain⟨r,hr⟩:=ok.YN;refine⟨λh=>((List.range A.n.length).filter λ(i:Nat)=>decide (Reach A ((i:Int)+1) h/\(i:Int)+1≠h)).length,λh hh hu=>?_,λh=>?_⟩
 .have vq:=gU ok hh hu;have HU:=vq;unfold Ar.has at HU;have e1:(((A.up h).toNat-1:Nat):Int)+1=A.up h:=by omega
  refine XM (y:=(A.up h).toNat-1) (λi _ hi=>?_) (List.mem_range.2 (by omega)) ?_ ?_;·rw[DK] at hi⊢;refine⟨.step hu hi.1,λe=>?_⟩;have h1:=jA hr hi.1 vq;have h2:=hr h hh hu;rw[e] at h1;omega
  .rw[e1];simp
  .rw[e1,DK];exact⟨.step hu .refl,vf ok hh hu⟩
 .have:=List.length_filter_le (λ(i:Nat)=>decide (Reach A ((i:Int)+1) h/\(i:Int)+1≠h)) (List.range A.n.length);rwa [List.length_range] at this
theorem PA.cell(w:PA h a n m ps A)(hx:A.has x){k:Nat}(hk:k<13):(ps.map PN.row).flatten[0+(x.toNat-1)*13+k]?=(pN ps x).row[k]?:=by rw[BJ];exact IA (cQ ps) hk (by rw[Cc,(w.pn hx).1];rfl)
open Classical in
theorem VP(w:PA h a n m ps A){up:Int}{r:Int->Nat}{e:Int}(ok:Ew A e)(hr:∀h,A.has h->A.up h≠0->r (A.up h)<r h)(vq:up≠0):∀(fuel:Nat) (x:Int),(x=0\/(A.has x/\r x<fuel))->KC (ps.map PN.row).flatten 0 ps.length up fuel x=some (decide (Reach A up x))
 |fuel,x,hx=>by
  by_cases h0:x=0
  .subst h0;have no:¬Reach A up 0:=by
    intro hR;cases hR with
    |refl=>exact vq rfl
    |step h1 _=>exact h1 (Vm (by unfold Ar.has;omega))
   rw[AB no];cases fuel<;>rfl
  .have hx:=hx.resolve_left h0;cases fuel with
   |zero=>omega
   |succ fuel=>
    have e1:KC (ps.map PN.row).flatten 0 ps.length up (fuel+1) x=if x=up then some true else if 1<=x/\x<=ps.length then
      match Ga (ps.map PN.row).flatten 0 x 1,Ga (ps.map PN.row).flatten 0 x 12 with
      |some p,some q=>KC (ps.map PN.row).flatten 0 ps.length up fuel (if p=0 then q else p)
      |_,_=>none
     else none:=by
     rw[KC];·rfl
     .exact λh=>h0 h
    rw[e1];by_cases uv:x=up;·rw[if_pos uv,uv,AD .refl]
    .rw[if_neg uv,if_pos (by have:=hx.1;have:=w.af;unfold Ar.has at*;omega)];have c1:Ga (ps.map PN.row).flatten 0 x 1=some (A.nd x).Fa:=by unfold Ga;rw[w.cell hx.1 (by decide),<-(w.pn hx.1).2.1];rfl
     have c2:Ga (ps.map PN.row).flatten 0 x 12=some (A.nd x).DW:=by unfold Ga;rw[w.cell hx.1 (by decide),<-(w.pn hx.1).2.1];rfl
     rw[c1,c2];simp only
     have eu:(if(A.nd x).Fa=0 then(A.nd x).DW else(A.nd x).Fa)=A.up x:=by unfold Ar.up;by_cases h:(A.nd x).Fa=0<;>simp[h]
     rw[eu];have ih:=VP w ok hr vq fuel (A.up x) (by
      by_cases hu:A.up x=0;·exact .inl hu
      .exact .inr ⟨gU ok hx.1 hu,by have:=hr x hx.1 hu;omega⟩)
     rw[ih];congr 1
     rw[D4];constructor
     .intro h1;by_cases hu:A.up x=0
      .rw[hu] at h1;cases h1 with
       |refl=>exact absurd rfl vq
       |step h3 _=>exact absurd (Vm (by unfold Ar.has;omega)) h3
      .exact .step hu h1
     .intro h1;cases h1 with
      |refl=>exact absurd rfl uv
      |step _ h2=>exact h2
open Classical in
theorem aGv{up e:Int}(w:PA h a n m ps A)(ok:Ew A e)(hu:A.has up)(hx:A.has x):BI cx 197 [Pt a 0,I up,I x] h (.bool (decide (Reach A up x))) h:=by
 obtain⟨r,hr,hrn⟩:=jB ok;have Nx:=w.af;have hc:=VP w ok hr (up:=up) (by have:=hu.1;omega) (ps.length+1) x (.inr ⟨hx,by have:=hrn x;omega⟩);have e1:Ed (.PF Mf) h [Pt a 0,I up,I x]=some (h,.bool (decide (Reach A up x))):=by simp only[Ed,Mf,w.ha,w.hn];rw[if_pos (by rw[ao];omega),if_pos (by unfold Ar.has at hu hx;omega),hc];rfl
 rw[Ab,show B5 cx 197 [Pt a 0,I up,I x]=Mg [Pt a 0,I up,I x] from rfl,Mg];simp only[AA,e1]
structure Qd(h:Ag)(v:Aa)(l:List Int):Prop where
 len:Aw (.len false) [v]=some (I (l.length:Int))
 at_:∀k (hk:k<l.length),∃p,Aw (.EE 1) [v,I (k:Int)]=some p/\A9 h none p=some (I l[k])
theorem Jk.Rc{kv:Aa}{l:List Int}(hk:Jk h kv l):Qd h kv l:=by
 refine⟨hk.len,λk hlt=>?_⟩;rcases hk with⟨rfl,rfl⟩|⟨id,cs,rfl,hc⟩
 .simp at hlt
 .refine⟨Pt id k,by have:=DO (id:=id) (z:=1) (k:= .i64) hlt;rwa [I8] at this,?_⟩;simp only[A9,hc,Dz];rw[Ad (by simpa using hlt)];simp[hlt]
theorem Df.Rc{v:Aa}{l:List Int}(hv:Df l v):Qd h v l:=⟨AM.Cp hv,λk hk=>⟨_,AM.BA hv hk,rfl⟩⟩
theorem aBV{v:Aa}{l:List Int}(hv:Qd h v l)(hb:l.length<=1000000000)(x:Int):BI cx 87 [v,I x] h (I (Ca (λy=>decide (x=y)) 0 l)) h:=by
 rw[Ab,zC,t87];simp only[AA,hv.len];refine Bd (λk:Nat=>[I 0,I (k:Int)]) (λk h1=>k<=l.length/\Ca (λy=>decide (x=y)) 0 l=Ca (λy=>decide (x=y)) k (l.drop k)/\h1=h) (λk=>l.length-k) 0 rfl ⟨AO _,rfl,rfl⟩ ?_;rintro k h1 ⟨hk,ha,rfl⟩;rcases AN k l.length with hlt|DT
 .have i1:(k:Int)<(l.length:Int):=by omega
  obtain⟨p,e1,e2⟩:=hv.at_ k hlt;rw[AH hlt,Ca] at ha;simp only[AA,Bi,i1,e1,e2,BB (show k<9223372036854775807 by omega)];refine⟨λh2=>?_,λh2=>?_⟩;·rw[ha,if_pos (by simpa using h2)]
  .rw[if_neg (by simpa using h2)] at ha;exact AF.next (k+1) rfl ⟨hlt,ha,rfl⟩ (by omega)
 .have i1:¬(k:Int)<(l.length:Int):=by omega
  rw[AY DT,Ca] at ha;simp only[AA,Bi,i1,ha]
theorem Zh{l:List Int}{x:Int}(hx:x∈l):∃k,k<l.length/\Ca (λy=>decide (x=y)) 0 l=(k:Int)/\l[k]?=some x/\l.takeWhile (λy=>decide (y≠x))=l.take k/\l.dropWhile (λy=>decide (y≠x))=l.drop k:=by
 have key:∀(l:List Int) (s:Nat),x∈l->∃k,k<l.length/\Ca (λy=>decide (x=y)) s l=((s+k:Nat):Int)/\l[k]?=some x/\l.takeWhile (λy=>decide (y≠x))=l.take k/\l.dropWhile (λy=>decide (y≠x))=l.drop k:=by
  intro l;induction l with
  |nil=>intro s h;cases h
  |cons z l ih=>
   intro s h;by_cases e:x=z;·subst e;exact⟨0,by simp,by rw[Ca,if_pos (by simp)];simp,rfl,by simp,by simp⟩
   .have h2:x∈l:=(AP.1 h).resolve_left e;obtain⟨k,k1,k2,k3,k4,k5⟩:=ih (s+1) h2;have e':z≠x:=λe2=>e e2.symm;refine⟨k+1,by simp;exact k1,by rw[Ca,if_neg (by simpa using e),k2];congr 1;omega,by simpa using k3,?_,?_⟩;·rw[List.takeWhile_cons,if_pos (by simpa using e'),k4];rfl
    .rw[List.dropWhile_cons,if_pos (by simpa using e'),k5];rfl
 obtain⟨k,k1,k2,k3⟩:=key l 0 hx;exact⟨k,k1,by simpa using k2,k3⟩
theorem Rd{l:List Int}{x:Int}{k:Nat}(hn:l.Nodup)(hk:l[k]?=some x):l.take k++l.drop (k+1)=l.filter λy=>decide (y≠x):=by
 obtain⟨hlt,e⟩:=Ae.1 hk;have e1:l=l.take k++x::l.drop (k+1):=by conv=>lhs;rw[<-CL k l,AH hlt,e]
 rw[e1,B8,BY] at hn;conv=>rhs;rw[e1,EB,JT,if_neg (by simp)]
 rw[List.filter_eq_self.2 (λy hy=>by simpa using λe2:y=x=>hn.2.2 y hy x (by simp) e2),List.filter_eq_self.2 (λy hy=>by simpa using λe2:y=x=>hn.2.1.1 (e2▸hy))]
theorem aBW{id l k:Nat}(hl:0<l)(hk:k<=l):Aw (.Hv 1 false false true) [.Ck id 0 l 1,I (k:Int)]=some (.Ck id 0 k 1):=by
 have e1:EM (k:Int) l=some k:=by unfold EM;rw[if_pos (by omega)];rfl
 simp[Aw,Ja,DJ,e1];omega
theorem aBX{id l k:Nat}(hk:k<=l):Aw (.Hv 1 false true false) [.Ck id 0 l 1,I (k:Int)]=some (if k<l then .Ck id k (l-k) 1 else .sl 1 []):=by
 have e1:EM (k:Int) l=some k:=by unfold EM;rw[if_pos (by omega)];rfl
 simp[Aw,Ja,DJ,e1];split<;>rfl
theorem aGw{id k:Nat}{l:List Int}{cs:List Aa}(hc:h[id]?=some (.cells (l.map (Aa.int .i64)++cs)))(hk:k<l.length)(hb:l.length<=1000000000):
  ∃FI,BI cx 265 [.Ck id 0 l.length 1,I (k:Int),I ((k+1:Nat):Int)] h (.Ck id 0 (l.length-1) 1) (h.set id (.cells ((l.take k++l.drop (k+1)).map (Aa.int .i64)++FI))):=by
 have Ha:=(Ae.1 hc).1;have hll:(l.take k++l.drop (k+1)).length=l.length-1:=by rw[Ao,Al,A8];omega
 obtain⟨QD,eg,hcl⟩:∃QD,Fl h 1 8 (.Ck id 0 k 1) (if k+1<l.length then .Ck id (k+1) (l.length-(k+1)) 1 else .sl 1 [])=some (h.set id (.cells ((l.take k++l.drop (k+1)).map (Aa.int .i64)++QD)),.Ck id 0 (l.length-1) 1)/\1<=QD.length:=by
  have er:Ft h 1 (if k+1<l.length then .Ck id (k+1) (l.length-(k+1)) 1 else .sl 1 [])=some ((l.drop (k+1)).map B6):=by
   by_cases OE:k+1<l.length;rotate_left;·rw[if_neg OE,AY (by omega)];rfl
   rw[if_pos OE];have e2:=LX (l:=l.drop (k+1)) (cs:=cs) (pre:=(l.take (k+1)).map (Aa.int .i64));rw[<-Ax,<-BE,CL] at e2;simp only[Ah,Al,A8] at e2;rw[Co (by omega)] at e2;simp only[Ft,BO,hc,e2];rw[if_pos (by simp;omega)]
  by_cases aw:k+1=l.length
  .refine⟨I l[k]::cs,?_,by simp⟩;have ed:l.drop (k+1)=[]:=AY (by omega);rw[ed] at er⊢;have e3:l.map (Aa.int .i64)++cs=(l.take k++[]).map (Aa.int .i64)++ I l[k]::cs:=by
    have:l=l.take k++[l[k]]:=by conv=>lhs;rw[<-CL k l,AH hk,ed]
    conv=>lhs;rw[this,BE,Ax]
    rw[Bv];rfl
   have e4:h.set id (.cells ((l.take k++[]).map (Aa.int .i64)++ I l[k]::cs))=h:=by rw[<-e3];obtain⟨Xr,e5⟩:=Ae.1 hc;rw[<-e5,Rv]
   simp only[Fl,er,DR,BO];rw[e4,show l.length-1=k by omega]
  .obtain⟨y,l2,hd⟩:∃y l2,l.drop (k+1)=y::l2:=⟨_,_,AH (show k+1<l.length by omega)⟩;have pA:(y::l2).length=l.length-(k+1):=by rw[<-hd,A8]
   rw[hd] at er;have aGx:∀l3:List Int,(l3.map B6).flatten=l3.map (Aa.int .i64):=by
    intro l3;induction l3 with
    |nil=>rfl
    |cons z l3 ih=>simp[B6,ih]
   refine⟨(l.map (Aa.int .i64)++cs).drop (l.length-1),?_,by simp;omega⟩;simp only[Fl,er,Bm,hc,BO];have e6:(B6 y::l2.map B6).length=l.length-(k+1):=by rw[<-pA];simp
   have e7:(B6 y::l2.map B6).flatten=(y::l2).map (Aa.int .i64):=by have:=aGx (y::l2);simpa using this
   rw[e6,e7,if_pos (by simp;omega)];have e8:(l.map (Aa.int .i64)++cs).take (0+k*1)=(l.take k).map (Aa.int .i64):=by rw[BJ,I8,CV (by simp;omega),HV]
   rw[e8,hd,show 0+(k+(l.length-(k+1)))*1=l.length-1 by omega,show k+(l.length-(k+1))=l.length-1 by omega];simp
 generalize wj:h.set id (.cells ((l.take k++l.drop (k+1)).map (Aa.int .i64)++QD))=h2 at eg;have HZ:h2[id]?=some (.cells ((l.take k++l.drop (k+1)).map (Aa.int .i64)++QD)):=by rw[<-wj];exact AG Ha
 have ed:Ed (.p8 1 true true) h2 [.Ck id 0 (l.length-1) 1,I ((l.length-1:Nat):Int),I (l.length:Int)]=some (h2,.Ck id (l.length-1) 1 1):=by
  simp only[Ed,ZO,HZ];have jC:((l.take k++l.drop (k+1)).map (Aa.int .i64)++QD).length=l.length-1+QD.length:=by rw[Ao,Ah,hll]
  have e1:EM (l.length:Int) ((((l.take k++l.drop (k+1)).map (Aa.int .i64)++QD).length-0)/1)=some l.length:=by unfold EM;rw[if_pos (by rw[jC];omega)];rfl
  have e2:EM ((l.length-1:Nat):Int) l.length=some (l.length-1):=by unfold EM;rw[if_pos (by omega)];rfl
  rw[if_pos ⟨trivial,trivial,AO _⟩];simp only[DJ,e1,e2,Ct,BT];rw[if_pos (by rw[jC];omega)];congr 3
  .omega
  .omega
 have ec:Ed (.clear 1 [I 0]) h2 [.Ck id (l.length-1) 1 1]=some (h.set id (.cells ((l.take k++l.drop (k+1)).map (Aa.int .i64)++(I 0::QD.drop 1))),.bool true):=by
  simp only[Ed,Uh,HZ];rw[if_pos ⟨trivial,rfl,by rw[Ao,Ah,hll];omega⟩];congr 2
  rw[<-wj,List.set_set];congr 2
  have e3:(((l.take k++l.drop (k+1)).map (Aa.int .i64)++QD).take (l.length-1))=(l.take k++l.drop (k+1)).map (Aa.int .i64):=KM (by rw[Ah,hll]);have e4:(((l.take k++l.drop (k+1)).map (Aa.int .i64)++QD).drop (l.length-1+1*1))=QD.drop 1:=by rw[show l.length-1+1*1=((l.take k++l.drop (k+1)).map (Aa.int .i64)).length+1 by rw[Ah,hll],List.drop_append];simp
  rw[e3,e4];simp
 refine⟨I 0::QD.drop 1,?_⟩;have elen:∀i n,Aw (.len false) [.Ck i 0 n 1]=some (I (n:Int)):=λ_ _=>rfl;have e3:Ed (.eB 1) h [.Ck id 0 l.length 1,I (k:Int),I ((k+1:Nat):Int),I (l.length:Int)]=some (h,.bool true):=by simp only[Ed,Ui];simp;omega
 rw[Ab,oM,aBz];simp only[AA,Bi,elen,e3,show¬(k:Int)=((k+1:Nat):Int) by omega,aBW (id:=id) (show 0<l.length by omega) (show k<=l.length by omega),aBX (id:=id) (show k+1<=l.length by omega),eg,ed,ec]
theorem ax:∀{n:Nat} {l:List Int},l.Nodup->(∀x∈l,1<=x/\x<=n)->l.length<=n
 |0,l,_,h=>by
  cases l with
  |nil=>simp
  |cons x l=>have:=h x (by simp);omega
 |n+1,l,hn,h=>by
  have ih:=ax (n:=n) (l:=l.filter λx=>decide (x≠(n:Int)+1)) (hn.filter _) (λx hx=>by
   have h1:=DX.1 hx;have h2:=h x h1.1;have h3:x≠(n:Int)+1:=by simpa using h1.2
   omega)
  have key:∀{l:List Int},l.Nodup->l.length<=(l.filter λx=>decide (x≠(n:Int)+1)).length+1:=by
   intro l hl;induction l with
   |nil=>simp
   |cons x l ih=>
    rw[BY] at hl;rw[JT];by_cases e:x=(n:Int)+1;·rw[if_neg (by simp[e]),List.filter_eq_self.2 (λy hy=>by simpa using λe2:y=(n:Int)+1=>hl.1 (by rw[e,<-e2];exact hy))];simp
    .rw[if_pos (by simpa using e)];have:=ih hl.2;simp only[Bf];omega
  have:=key hn;omega
theorem VQ{e:Int}(ok:Ew A e)(x:Int):(A.nd x).AZ.length<=A.n.length:=by
 by_cases hx:A.has x;·refine ax (ok.Q2 x hx).rQ λk hk=>?_;exact(ok.LD x hx k hk).1
 .rw[GN hx];exact AO _
theorem L3.AZ{e:Int}(lm:L3 A)(ok:Ew A e)(x:Int):(A.nd x).AZ.length<=1000000000:=Bt (VQ ok x) lm.n
theorem L3.aLl{l:List Int}(lm:L3 A):L3 (A.set x {A.nd x with AZ:=l}):=lm.set (lm.at_ x) (lm.data x)
theorem L3.aLm{p:Int}(lm:L3 A):L3 (A.set x {A.nd x with Fa:=p}):=lm.set (lm.at_ x) (lm.data x)
theorem L3.cut(lm:L3 A):L3 (A.cut x):=by
 unfold Ar.cut;simp only;split;·exact lm
 .exact L3.aLm lm.aLl
theorem aGy{e:Int}(w:PA h a n m ps A)(lm:L3 A)(ok:Ew A e)(hx:A.has x):
  ∃h' IB,BI cx 198 [Pt a 0,I x] h (.tuple []) h'/\PA h' a n m IB (A.cut x)/\Dh h (λi=>i∈Fq a n m ps) h' (λi=>i∈Fq a n m IB):=by
 have hb:=lm.AZ ok;by_cases hp:(A.nd x).Fa=0
 .have hA:A.cut x=A:=by unfold Ar.cut;simp only;rw[if_pos hp]
  refine⟨h,ps,?_,by rw[hA];exact w,.refl⟩;rw[Ab,Y6,mh];simp only[AA,Bi,(Ie w lm hx).call,w.f1 hx,hp]
 .obtain⟨hq,hk⟩:=ok.Fa x hx hp;generalize hqq:(A.nd x).Fa=q at*;have hne:q≠x:=by rw[<-hqq];exact gV ok hx (by rw[hqq];exact hp)
  obtain⟨k,k1,k2,k3,_,_⟩:=Zh hk;have LD:=w.LD hq;have r1:=aBV LD.Rc (hb q) x;rw[k2] at r1;rcases pB:LD with⟨_,e0⟩|⟨id,cs,ekv,hc⟩
  .rw[e0] at k1;simp at k1
  clear pB;rw[ekv] at r1;obtain⟨FI,r2⟩:=aGw hc k1 (hb q);rw[Rd (ok.Q2 q hq).rQ k3] at r2;have Xf:(A.nd q).AZ.length-1=((A.nd q).AZ.filter λy=>decide (y≠x)).length:=by rw[<-Rd (ok.Q2 q hq).rQ k3,Ao,Al,A8];omega
  rw[Xf] at r2;have qT:=(Ae.1 hc).1;have hpq:=(w.pn hq).2.1;generalize yz:h.set id (.cells (((A.nd q).AZ.filter λy=>decide (y≠x)).map (Aa.int .i64)++FI))=h1 at r2;have aGz:id∈Fq a n m ps:=Kh (w.pn hq).2.2 (by rw[ekv];rfl);have aLn:id≠n:=by intro e1;have:=w.nd;unfold Fq at this;simp only[BY,AP,not_or] at this;exact this.2.1 (e1▸Ap.2 (.inr (Cj.2 ⟨_,(w.pn hq).2.2,by rw[ekv];rfl⟩)))
  have aQw:id≠a:=by intro e1;have:=w.nd;unfold Fq at this;simp only[BY,AP,not_or] at this;exact this.1.2 (e1▸Ap.2 (.inr (Cj.2 ⟨_,(w.pn hq).2.2,by rw[ekv];rfl⟩)))
  obtain⟨p1,O8⟩:∃p1:PN,p1=⟨{A.nd q with AZ:=(A.nd q).AZ.filter λy=>decide (y≠x)},.Ck id 0 ((A.nd q).AZ.filter λy=>decide (y≠x)).length 1,(pN ps q).av,w.ag hq⟩:=⟨_,rfl⟩;have aGA:p1.row=(pN ps q).row.set 2 (.Ck id 0 ((A.nd q).AZ.filter λy=>decide (y≠x)).length 1):=by rw[O8];simp only[PN.row];rw[hpq];rfl
  have h1n:h1[n]?=h[n]?:=by rw[<-yz,Af aLn]
  have s1:=w.sto hq (k:=2) (by decide) (v:= .Ck id 0 ((A.nd q).AZ.filter λy=>decide (y≠x)).length 1) rfl aGA h1n;have aGB:GW p1.kv=GW (pN ps q).kv:=by rw[O8,ekv];rfl
  have w1:=w.tR hq (p:=p1) (h1:=h1) (λi _ hi=>by rw[<-yz,Af];intro e1;exact hi (by rw[ekv,e1];rfl)) (by rw[O8];exact .inr ⟨id,FI,rfl,by rw[<-yz];exact AG qT⟩) (.inl aGB)
  have wk:=o8 w hq aGB;generalize wj:h1.set n (.cells ((ps.set (q.toNat-1) p1).map PN.row).flatten)=h2 at s1 w1;generalize aQx:ps.set (q.toNat-1) p1=ZK at w1 wk;have hA1:p1.x={A.nd q with AZ:=(A.nd q).AZ.filter λy=>decide (y≠x)}:=by rw[O8]
  rw[hA1] at w1;have NA:(A.set q {A.nd q with AZ:=(A.nd q).AZ.filter λy=>decide (y≠x)}).has x:=HC.2 hx;have WR:=(w1.pn NA).2.1;have LR:(A.set q {A.nd q with AZ:=(A.nd q).AZ.filter λy=>decide (y≠x)}).nd x=A.nd x:=by rw[IN,if_neg (λh=>hne h.1.symm)]
  obtain⟨h3,s3,w3,i3,o3,l3⟩:=w1.wr NA (k:=1) (by decide) (v:= I 0) rfl (p:=⟨{A.nd x with Fa:=0},(pN ZK x).kv,(pN ZK x).av,by have:=(pN ZK x).ok;rw[WR,LR] at this;exact this⟩) (by simp only[PN.row];rw[WR,LR];rfl) rfl (Cf Em.AZ LR).symm;have hA:A.cut x=(A.set q {A.nd q with AZ:=(A.nd q).AZ.filter λy=>decide (y≠x)}).set x {A.nd x with Fa:=0}:=by unfold Ar.cut;simp only;rw[hqq,if_neg hp,LR]
  refine⟨h3,_,?_,by rw[hA];exact w3,?_⟩;·have inc:=BB (show k<9223372036854775807 by have:=hb q;omega);rw[Ab,Y6,mh];simp only[AA,Bi,(Ie w lm hx).call,(Ie w lm hq).call,w.f1 hx,hqq,hp,w.f2 hq,ekv,r1.call,inc,r2.call,s1,s3]
  .have aQy:h2.length=h.length:=by rw[<-wj,Be,<-yz,Be]
   refine⟨by omega,λi hi hin=>?_,λi hi=> .inl (by rw[i3,wk] at hi;exact hi)⟩;have n1:i≠n:=λe1=>hin (e1▸by simp[Fq]);have n2:i≠id:=λe1=>hin (e1▸aGz);rw[o3 i n1,<-wj,Af (DS n1),<-yz,Af (DS n2)]
end
end Go.Am
end
