/- Lemmas -/
import Derived.Test.YtdejbjapknkdnaaGreatDoorV31
import Derived.Test.YtdejbjapknkdnaaGreatDoorV32
set_option linter.all false
namespace Go.Am
open Go
set_option maxRecDepth 100000
section
variable{h h':Ae}{bi lo:Nat}{b c:BS}{F F':Nat->Prop}{m n o a j:Nat}{t:Dv}{av:Aa}
def aJ7(m:Int):L4 cx 15 [.int .i64 m] (.bool (Pm m)):=by rw[PJ,aDi,t15];unfold Pm;by_cases h1:m=4<;>by_cases h2:m=6<;>by_cases h3:m=7<;>by_cases d:m=18<;>simp[h1,h2,h3,d]
def č(nm:Ad):Dv:=⟨3,nm,false,[],false,[],false,false,[],false,[],0⟩
def chT(r:Int):Dv:=⟨5,[],false,[],false,[],false,false,[],false,[],r⟩
def aGe(nm:Ad)(h:Ae):Cj cx 18 [.str nm] h (.agg (Ct (HG nm) .slnil)) h:=by rw[Ac,xy,t18];simp only[abS,Nat.reduceLeDiff,↓reduceIte,B6,HG]
def aJ9(nm:Ad)(h:Ae):Cj cx 20 [.str nm] h (.agg (Ct (č nm) .slnil)) h:=by rw[Ac,x_,t20];simp only[abS,Nat.reduceLeDiff,↓reduceIte,B6,č]
def aPQ(r:Int)(h:Ae):Cj cx 19 [.int .i32 r] h (.agg (Ct (chT r) .slnil)) h:=by rw[Ac,xz,t19];simp only[abS,Nat.reduceLeDiff,↓reduceIte,B6,chT]
def QM:Bj ([]:List A9) .slnil:= .nil
def ò{nm:Ad}(h:nm.length<=1000):(č nm).Sm:=⟨h,U4,show([]:Ad).length<=1000 by decide,show(-2147483648:Int)<=0/\(0:Int)<=2147483647 by decide⟩
def aGf{r:Int}(h: -2147483648<=r/\r<=2147483647):(chT r).Sm:=⟨show([]:Ad).length<=1000 by decide,U4,show([]:Ad).length<=1000 by decide,h⟩
def WV(w:PB h bi b F)(p:DW b)(z:Zs b (j+1))(hj:j+1<=70)(ht:t.Sm)(hp:t.Ke.length<=AN)(d:Bj t.Aq av):FA h F 17 [.ptr (some (bi,0)),.agg (Ct t av)] (.bool (b.apply Hm t).2) bi (b.apply Hm t).1:=
 aF6 w (z.gz hj) ht d (λh=>f75 t hp h) p.U7 (λhm h' w' m _=>aJ1 w' (z.gz hj) ((p.dp (.inr hm)).1 hm) m)
def ó(w:PB h bi b F)(e:b.mode=8)(g:Gz b (n+8*(4*(o+a+8)+10)+8*a+2000) o a)(ht:t.Sm)(hp:t.Ke.length<=AN)(d:Bj t.Aq av):FA h F 17 [.ptr (some (bi,0)),.agg (Ct t av)] (.bool (b.apply Hm t).2) bi (b.apply Hm t).1:=
 aF6 w g ht d (λh=>f75 t hp h) (λh=>by omega) (λh=>by omega)
def Zd(w:PB h bi b F)(rm:Cw b m):∃t' o' c' u,Cj cx 16 [.ptr (some (bi,0))] h (.agg (RQ b.Ug t' o' c')) (h++u)/\Qy (h++u) h.length b.Ug t' o' c':=by obtain⟨e,d,c,tt,G,w,hc,rfl⟩:=w;exact aOF w hc rm
def Qy.ô{s:SS}{t o c:Aa}(w:Qy h lo s t o c)(x:Ey h F h' F')(hF:∀i,F i->i<lo):Qy h' lo s t o c:=w.Ep λi h1 h2=>x.old i h2 λhf=>by have:=hF i hf;omega
def aGg{s s':SS}{t o c t' o' c':Aa}{lo d:Nat}(w:Qy h lo s t o c)(w':Qy h d s' t' o' c')(e:s.Au=s'.Au)(hb:s.Au.length<=1000000000):Cj cx 21 [.agg (RQ s t o c),.agg (RQ s' t' o' c')] h tt h:=by have f:=f18 w.o.YF (by rw[e];exact w'.o.YF) hb;rw[Ac,aDk,t21,RQ,RQ];simp only[Ce,f.call]
def pt{v:Aa}(h:lF (.sl (.int .i32)) v):∃l:List Int,Br 1 (l.map λr=>[Aa.int .i32 r]) v/\∀r∈l,-2147483648<=r/\r<=2147483647:=by
 have h:Zj (.sl (.int .i32)) [v]:=h;obtain⟨l,h1,_,h2⟩:=iM (f:=λr:Int=>[Aa.int .i32 r]) (Q:=λr=> -2147483648<=r/\r<=2147483647) (λr hr=>by obtain⟨n,rfl,w⟩:=TN hr;refine⟨n,rfl,?_⟩;have e:IntKind.i32.min= -2147483648:=rfl;have d:IntKind.i32.max=2147483647:=rfl;simp[Lit.wf,e,d] at w;exact w) h
 exact⟨l,h1,h2⟩
def oP{v:Aa}(h:lF (.int .i64) v):∃q,v= .int .i64 q:=by obtain⟨n,e,_⟩:=TN (show Zj (.int .i64) [v] from h);exact⟨n,by simpa using e⟩
end
section
variable{h:Ae}{bi:Nat}{b:BS}{F:Nat->Prop}
def õ(w:PB h bi b F)(p:DW b)(z:Zs b 10)(hq:Pm b.mode=true){nm:Ad}(hn:nm∈U8){text:List Int}{i:Aa}(u:Br 1 (text.map λr=>[Aa.int .i32 r]) i)(hr:∀r∈text,-2147483648<=r/\r<=2147483647)(hl:text.length<=100):
  ∃h1 e c,Cj cx 17 [.ptr (some (bi,0)),.agg (Ct (HG nm) .slnil)] h (.bool (b.apply Hm (HG nm)).2) h1/\PB h1 bi c e/\Ey h F h1 e/\c.mode=8/\c.sw≠0/\c.GM=b.mode/\(∃x,c.Au=b.Au++[x])/\Zs c 9:=by
 have d:(HG nm).Sm:=Iu (by have key:∀w∈U8,w.length<=1000:=(by decide);exact key _ hn);obtain⟨h1,e,k,g,f⟩:=WV w p z (by omega) d (AU _) QM;obtain⟨x,s,q,es,l,ex⟩:=uN (qk:=Hm) (t:=HG nm) p hq rfl hn;exact⟨h1,e,_,k,g,f,q,es,l,⟨x,ex⟩,Zs.step p z (by omega) d⟩
end
def uQ:Az (.Cl 1) [S aW4,S aXV,S aXg,S aXv]=some (.sl 1 (U8.map B1)):=Ef (ws:=U8) rfl (by decide)
def uR:∀l,OU [.sl SB,.int .i64,.sl (.int .i32)] l->Ev cx 5 l [] λr _=>r= .bool true:=by
 rintro _ ⟨v,_,rfl,ha,u,_,rfl,hb,tv,_,rfl,hc,rfl⟩;obtain⟨l,hv,hl,hp⟩:=Ro ha;obtain⟨q,rfl⟩:=oP hb;obtain⟨text,ht,H⟩:=pt hc;have lt:=Br.Fk ht;unfold Ev;rw[aH4,t5];rcases Rq hl hv hp [] with⟨f,hs,hn⟩|f
 rotate_left;.simp only[abS,f.call,HW.AQ rfl rfl];exact⟨_,rfl,rfl⟩
 by_cases y:q<0;.simp only[abS,f.call,y,HW.AQ rfl rfl];exact⟨_,rfl,rfl⟩
 by_cases G:3<q;.simp only[abS,f.call,y,G,HW.AQ rfl rfl];exact⟨_,rfl,rfl⟩
 by_cases L:(100:Int)<(text.length:Int);.simp only[abS,f.call,y,G,lt,L,HW.AQ rfl rfl];exact⟨_,rfl,rfl⟩
 obtain⟨h1,bi,F,D,w,x,dE⟩:=Rp (e:=10) hv hp hs (by omega) [];by_cases h2:(Gl Hm (l.map (·.1)) (Ic false)).2=2;rotate_left
 .have e:((Gl Hm (l.map (·.1)) (Ic false)).2==2)=false:=by simpa using h2
  rw[e] at D;simp only[abS,f.call,y,G,lt,L,D.call,HW.AQ rfl rfl];exact⟨_,rfl,rfl⟩
 obtain⟨o,z⟩:=dE h2;rw[h2] at D;generalize(Gl Hm (l.map (·.1)) (Ic false)).1=b at*;have B3:=w.B3;have K:=aJ7 b.mode;cases hq:Pm b.mode with
 |false=>rw[hq] at K;simp only[abS,f.call,y,G,lt,L,D.call,B3,K.AQ rfl rfl,HW.AQ rfl rfl];exact⟨_,rfl,rfl⟩
 |true=>
  rw[hq] at K;obtain⟨k,qQ,rfl⟩:∃k:Nat,k<U8.length/\q=(k:Int):=⟨q.toNat,by show q.toNat<4;omega,by omega⟩;have ee:=Br.Dl (k:= .i64) (CO (ws:=U8)) qQ;have Wi:U8[k]∈U8:=Ay qQ;generalize U8[k]=nm at*;have hlen:nm.length<=1000:=by have key:∀w∈U8,w.length<=1000:=(by decide);exact key _ Wi
  obtain⟨t',o',c',us,rs,sv⟩:=Zd w z.rm;have w1:=w.J9 (u:=us);obtain⟨h3,F3,c,r3,Y,x3,e8,es,eo,⟨xx,ex⟩,z3⟩:=õ w1 o z hq Wi ht H (by omega);have g:=Y.B3;rw[e8] at g;have r2:=aGe nm (h1++us);have qe:=z.rm.Au;rw[RQ] at rs;simp only[abS,f.call,y,G,lt,L,D.call,B3,K.AQ rfl rfl,uQ,ee,B1,rs.call,r2.call,r3.call,g,es,ne_eq,CK];refine BO (λk:Nat=>[.int .i64 (k:Int)]) (λk I=>k<=text.length/\∃d V,PB I bi d V/\Ey (h1++us) F I V/\d.mode=8/\d.GM=b.mode/\d.Au=b.Au++[xx]/\Gz d (5000000*8+5*(100 -k)) (1500*61) (10*61)) (λk=>text.length-k) 0 rfl ⟨AU _,c,F3,Y,x3,e8,eo,ex,z3.le (by omega) (by omega) (by omega)⟩ ?_;rintro k I ⟨hk,d,V,X,W,J,T,d2,M⟩;by_cases hlt:k<text.length
  .have S:(k:Int)<(text.length:Int):=by omega
   have ea:=Br.Dl (k:= .i64) ht hlt;have hr:=H _ (Ay hlt);generalize text[k]=Q at*;have R:=aPQ Q I;obtain⟨h5,U,C,p,N⟩:=ó (n:=0) (t:=chT Q) X J (M.dn (by omega)) (aGf hr) (AU _) QM;have s:=pj (qk:=Hm) (t:=chT Q) J rfl;rw[s] at C p;simp only[abS,lt,S,ea,R.call,C.call,CI (show k<9223372036854775807 by omega)];refine Bk.next (k+1) rfl ⟨hlt,_,U,p,W.trans N,J,T,d2,?_⟩ (by omega);exact(M.le (n':=5000000*8+5*(100 -(k+1))+5) (by omega) (Ab _) (Ab _)).Mo
  .have S:¬(k:Int)<(text.length:Int):=by omega
   have R:=aJ9 nm I;obtain⟨h5,U,C,p,N⟩:=ó (n:=0) (t:=č nm) X J (M.dn (by omega)) (ò hlen) (AU _) QM;have s:=ï (qk:=Hm) (t:=č nm) J rfl;have aB0:=ð d2 (Zc o hq);rw[s] at C p;have lds5:=p.B3;obtain⟨t6,o6,c6,A,B,O⟩:=Zd p (m:=0) (by have g5:=(M.Gs).rm.le (m':=0) (by omega);exact g5.eq rfl rfl rfl rfl)
   have xs:Ey (h1++us) F (h5++A) U:=(W.trans N).trans Ey.J9;have P:=sv.ô xs (λi hi=>w.lt hi);have Z:=aGg O P (by show(BS.Gs d).Au.map Item.node=b.Au.map Item.node;rw[aB0]) (by show((BS.Gs d).Au.map Item.node).length<=_;rw[aB0,Ao];omega);have E:=(p.J9 (u:=A)).B3;simp only[RQ,BS.Ug,T] at B Z;simp only[abS,lt,S,R.call,C.call,B.call,Z.call,E,T,BS.Ug,HW.AQ rfl rfl];exact⟨_,rfl,rfl⟩
end Go.Am
