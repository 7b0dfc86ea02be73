/- Lemmas -/
import Derived.Test.YtdejbjapknkdnaaGreatDoorV30
set_option linter.all false
set_option maxRecDepth 100000
section
namespace Go.Am
open Go
section
variable{b c:BS}{t:Dv}{qk:Dv->Bool}{j:Nat}
def Pm(m:Int):Bool:=decide (m=4\/m=6\/m=7\/m=18)
def jM(hm:b.mode=4\/b.mode=7\/b.mode=18)(hk:t.ok)(hs:t.st EY):b.apply qk t=b.Dh t:=by
 have e:=hs.1;unfold BS.apply;rw[if_neg (by simpa using hk),if_neg (by omega),if_neg (by omega),if_neg (by omega)];by_cases d:b.mode=4;.rw[if_pos d]
 rw[if_neg d,if_neg (by omega),if_neg (by omega)];by_cases a:b.mode=7;.rw[if_pos a];unfold BS.M2;rw[if_neg (by simpa using hk),if_neg (by omega),if_neg (by omega),if_neg (by omega),if_pos e];unfold BS.opens;rw[if_pos hs.2]
 rw[if_neg a,if_neg (by omega),if_pos (by omega)];unfold BS.Ei;rw[if_neg (by simpa using hk),if_neg (by omega),if_neg (by omega),if_neg (by omega),if_pos hs]
def Zb(hm:b.mode=6)(hk:t.ok)(hs:t.st EY):b.apply qk t=b.Ii t:=by
 have a:=hs.1;unfold BS.apply;rw[if_neg (by simpa using hk),if_neg (by omega),if_neg (by omega),if_neg (by omega),if_neg (by omega),if_neg (by omega),if_pos hm];unfold BS.HH;have no:∀w,w∉EY->¬t.st [w]:=λw hw h=>by have h1:=h.2;simp at h1;exact hw (h1▸hs.2)
 rw[if_neg (by simpa using hk),if_neg (by omega),if_neg (no _ (by decide)),if_neg (λh=>by have:=h.1;omega),if_neg (λh=>by have:=h.1;omega),if_neg (by omega),if_neg (no _ (by decide)),if_neg (no _ (by decide)),if_neg (no _ (by decide)),if_pos hs]
def U8:List Ad:=[aW4,aXV,aXg,aXv]
def uN(o:DW b)(hq:Pm b.mode=true)(hk:t.k=2)(hn:t.name∈U8):∃x,DW (b.apply qk t).1/\(b.apply qk t).1.mode=8/\(b.apply qk t).1.sw≠0/\(b.apply qk t).1.GM=b.mode/\(b.apply qk t).1.Au=b.Au++[x]:=by
 have Im:t.ok:=by unfold Dv.ok;omega
 have hs:t.st EY:=⟨hk,by have key:∀w∈U8,w∈EY:=(by decide);exact key _ hn⟩;have d:t.name∉Me:=by have key:∀w∈U8,w∉Me:=(by decide);exact key _ hn
 have nt:t.name≠AF:=λe=>by rw[e] at hn;exact absurd hn (by decide)
 have hq:=BB hq;have nx:=QL (qk:=qk) (t:=t) o;by_cases a:b.mode=6;.rw[Zb a Im hs];refine ND (Q:=λr=>∃x,DW r.1/\r.1.mode=8/\r.1.sw≠0/\r.1.GM=b.mode/\r.1.Au=b.Au++[x]) o a Im hs (λh=>absurd h d) (λ_ c i ⟨x,e⟩ l g es _=>⟨x,i,l,es,by rw[g,a],e⟩) λh=>absurd h nt
 .have hm:b.mode=4\/b.mode=7\/b.mode=18:=by omega
  rw[jM hm Im hs] at nx⊢;have key:∃s,(s=2\/s=3\/s=4)/\b.Dh t=(b.Df t.name t.Aq s,false):=M4 (Q:=λr=>∃s:Int,(s=2\/s=3\/s=4)/\r=(b.Df t.name t.Aq s,false)) Im hs (λh=>absurd h d) (λ_ s h=>⟨s,h,rfl⟩) λh=>absurd h nt;obtain⟨s,f,e⟩:=key;rw[e] at nx⊢;refine⟨b.IJ t.name t.Aq 1,?_,rfl,?_,U5.2,jD⟩
  .rcases nx with h|h
   .cases h
   .exact h.1
  .show s≠0;omega
def pj(hm:b.mode=8)(hk:t.k=5):b.apply qk t=(b.Mo t.r,false):=by
 have Im:t.ok:=by unfold Dv.ok;omega
 unfold BS.apply;rw[if_neg (by simpa using Im),if_neg (by omega),if_neg (by omega),if_neg (by omega),if_neg (by omega),if_neg (by omega),if_neg (by omega),if_neg (by omega),if_pos hm];unfold BS.Ma;rw[if_neg (by simpa using Im),if_pos hk]
def ï(hm:b.mode=8)(hk:t.k=3):b.apply qk t=({b.Gs with mode:=b.GM},false):=by
 have Im:t.ok:=by unfold Dv.ok;omega
 unfold BS.apply;rw[if_neg (by simpa using Im),if_neg (by omega),if_neg (by omega),if_neg (by omega),if_neg (by omega),if_neg (by omega),if_neg (by omega),if_neg (by omega),if_pos hm];unfold BS.Ma;rw[if_neg (by simpa using Im),if_neg (by omega),if_neg (by omega),if_pos hk]
def ð{l:List Item}{x:Item}(e:b.Au=l++[x])(hl:l≠[]):b.Gs.Au=l:=by have:=Cq.2 hl;unfold BS.Gs;rw[if_neg (by rw[e];simp;omega)];rw[e];simp
def Zc(o:DW b)(hq:Pm b.mode=true):b.Au≠[]:=by
 have hq:=BB hq;rcases o.sh (by omega) with h|h|h|h|h|h
 .omega
 .omega
 .obtain⟨_,_,e,_⟩:=h.2.1;rw[e];simp
 .omega
 .obtain⟨_,e,_⟩:=h.2.1;rw[e];simp
 .obtain⟨P,d⟩:=h.2;have h1:=d.len;have h2:=d.pf.len;intro e;rw[e,AY] at h1;omega
def uO(o:DW b)(hq:Pm b.mode=true)(hk:t.k=2)(hn:t.name∈Me):DW (b.apply qk t).1/\(b.apply qk t).1.Au=b.Au/\(b.apply qk t).1.mode=b.mode/\(b.apply qk t).1.tm=b.tm/\(b.apply qk t).1.AW=b.AW:=by
 have Im:t.ok:=by unfold Dv.ok;omega
 have hs:t.st EY:=⟨hk,by have key:∀w∈Me,w∈EY:=(by decide);exact key _ hn⟩;have d:t.name∉jA:=by have key:∀w∈Me,w∉jA:=(by decide);exact key _ hn
 have nt:t.name≠AF:=λe=>by rw[e] at hn;exact absurd hn (by decide)
 have hne:=Zc o hq;have hq:=BB hq;have nx:=QL (qk:=qk) (t:=t) o;by_cases a:b.mode=6;.rw[Zb a Im hs];refine ND (Q:=λr=>DW r.1/\r.1.Au=b.Au/\r.1.mode=b.mode/\r.1.tm=b.tm/\r.1.AW=b.AW) o a Im hs (λ_ c i p n m g=>⟨i,p,by rw[n,a],m,g⟩) (λh=>absurd h d) λh=>absurd h nt
 .have hm:b.mode=4\/b.mode=7\/b.mode=18:=by omega
  rw[jM hm Im hs] at nx⊢;have key:b.Dh t=(b.GO t,false):=M4 (Q:=λr=>r=(b.GO t,false)) Im hs (λ_=>rfl) (λh=>absurd h d) λh=>absurd h nt;have k:Kp b (b.GO t):=TQ (nm:=t.name) (l:=t.Aq) o.cm;have r:=IQ.1 k.rest;have f:∀c:BS,c.Gs.AW=c.AW:=λc=>by unfold BS.Gs;split<;>rfl
  have a:(b.C6 t).AW=b.AW:=Gi;rw[key] at nx⊢;refine⟨?_,QH (Cq.2 hne),r.2.2.2.1,r.1,?_⟩
  .rcases nx with h|h
   .have h:GR (b.GO t).mode=false:=h;rw[r.2.2.2.1] at h;unfold GR at h;have:=of_decide_eq_false h;omega
   .exact h.1
  .show(b.C6 t).Gs.AW=_;rw[f,a]
def pk(o:DW b)(hq:Pm b.mode=true)(hk:t.k=2)(hn:t.name=AF):∃x,EN x=true/\DW (b.apply qk t).1/\(b.apply qk t).1.Au=b.Au++[x]/\(b.apply qk t).1.mode=18/\(b.apply qk t).1.tm=b.tm++[18]/\(b.apply qk t).1.AW=b.AW++[B2.zero]:=by
 have Im:t.ok:=by unfold Dv.ok;omega
 have hs:t.st EY:=⟨hk,by rw[hn];decide⟩;have f:t.name∉jA:=by rw[hn];decide
 have d:t.name∉Me:=by rw[hn];decide
 have hq:=BB hq;have nx:=QL (qk:=qk) (t:=t) o;by_cases a:b.mode=6;.rw[Zb a Im hs];refine ND (Q:=λr=>∃x,EN x=true/\DW r.1/\r.1.Au=b.Au++[x]/\r.1.mode=18/\r.1.tm=b.tm++[18]/\r.1.AW=b.AW++[B2.zero]) o a Im hs (λh=>absurd h d) (λh=>absurd h f) λ_ c i ⟨x,h1,e⟩ m l g=>⟨x,h1,i,e,m,l,g⟩
 .have hm:b.mode=4\/b.mode=7\/b.mode=18:=by omega
  rw[jM hm Im hs] at nx⊢;have key:b.Dh t=(b.Pk t,false):=M4 (Q:=λr=>r=(b.Pk t,false)) Im hs (λh=>absurd h d) (λh=>absurd h f) λ_=>rfl;rw[key] at nx⊢;refine⟨_,jG hn,?_,TY,rfl,jF,?_⟩
  .rcases nx with h|h
   .cases h
   .exact h.1
  .show(b.C6 t).AW++[B2.zero]=_;have a:(b.C6 t).AW=b.AW:=Gi;rw[a]
def ñ{l:List Item}{x:Item}{tm:List Int}{ac:List B2}(hm:b.mode=18)(hk:t.k=3)(hn:t.name=AF)(a:b.Au=l++[x])(hx:EN x=true)(hl:l≠[])(d:b.tm=tm++[18])(ea:b.AW=ac++[B2.zero]):(b.apply qk t).1.Au=l/\(b.apply qk t).1.tm=tm/\(b.apply qk t).1.AW=ac:=by
 have Im:t.ok:=by unfold Dv.ok;omega
 have he:t.en [AF]:=⟨hk,by rw[hn];simp⟩;have e:b.apply qk t=(b.CN,false):=by unfold BS.apply;rw[if_neg (by simpa using Im),if_neg (by omega),if_neg (by omega),if_neg (by omega),if_neg (by omega),if_neg (by omega),if_neg (by omega),if_neg (by omega),if_neg (by omega),if_pos hm];unfold BS.Ei;rw[if_neg (by simpa using Im),if_neg (by omega),if_neg (by omega),if_neg (by omega),if_neg (λh=>by have:=h.1;omega),if_pos he,TZ Im he]
 have hi:Ax (AA [AF]) b.Au=(l.length:Int):=by rw[a,FI,if_pos hx]
 have hpos:=Cq.2 hl;obtain⟨h1,h2,h3⟩:=oc (b:=b) (by rw[hi];omega);rw[e];refine⟨?_,?_,?_⟩;.rw[h1,hi,a];unfold Hd;rw[show max 1 ((l.length:Int)).toNat=l.length by omega,A0 (Ab _),Bf]
 .rw[h2,d];simp
 .rw[h3,ea];unfold EX fA;have:Ax aHY (ac++[B2.zero])=(ac.length:Int):=by rw[FI,if_pos (by decide)]
  rw[this,show((ac.length:Int)+1 -1).toNat=ac.length by omega,A0 (Ab _),Bf]
def Zs.gz(z:Zs b (j+1))(hj:j+1<=70):Gz b (5000000*j+8*(4*(1500*(70 -(j+1))+10*(70 -(j+1))+8)+10)+8*(10*(70 -(j+1)))+2000) (1500*(70 -(j+1))) (10*(70 -(j+1))):=z.dn (by omega)
def Zs.step(o:DW b)(z:Zs b (j+1))(hj:j+1<=70)(ht:t.Sm):Zs (b.apply qk t).1 j:=
 ((z.gz hj).apply (qk:=qk) o.U7 ht).le (Ab _) (by omega) (by omega)
end
structure uP(h:Ae)(v:Aa)(fs:List C9):Prop where
 len:Az (.len false) [v]=some (I (fs.length:Int))
 at_:∀k (hk:k<fs.length),∃id o,Az (.F0 3) [v,I (k:Int)]=some (Pt id o)/\Bg h none (Pt id o)=some (I fs[k].c.node)/\Bg h none (Pt id (o+1))=some (.str fs[k].c.name)/\Bg h none (Pt id (o+2))=some fs[k].v
section
variable{h h':Ae}{lo lo':Nat}{v v':Aa}
def cD.at_{l:List B2}(b:cD h lo v l):∃fs:List C9,fs.map (·.c)=l/\uP h v fs:=by
 rcases b with⟨rfl,rfl⟩|⟨id,fs,_,rfl,hc,e⟩
 .exact⟨[],rfl,rfl,λk hk=>by simp at hk⟩
 .refine⟨fs,e,rfl,λk hk=>⟨id,k*3,Gy hk,?_⟩⟩;have hg:(fs.map C9.row)[k]?=some fs[k].row:=by rw[CE,An hk];rfl
  have ld:∀j,j<3->Bg h none (Pt id (k*3+j))=fs[k].row[j]?:=λj hj=>by simp only[Bg,hc,FQ];exact Qt (UD fs) hj hg
  have l0:=ld 0 (by decide);rw[Bp] at l0;exact⟨l0,ld 1 (by decide),ld 2 (by decide)⟩
def f18{l:List Int}(b:UQ h v l)(JG:UQ h v' l)(hb:l.length<=1000000000):Cj cx 36 [v,v'] h tt h:=by
 rw[Ac,aDr,t36];simp only[abS,b.len,JG.len,ne_eq,CK];refine BO (λn:Nat=>[ff,I (n:Int)]) (λn h1=>n<=l.length/\h1=h) (λn=>l.length-n) 0 rfl ⟨AU _,rfl⟩ ?_;rintro n h1 ⟨hn,rfl⟩;rcases A6 n l.length with hlt|HK
 .obtain⟨p,a1,a2⟩:=b.at_ n hlt;obtain⟨p',b1,c⟩:=JG.at_ n hlt;simp only[abS,b.len,show(n:Int)<(l.length:Int) by omega,a1,a2,b1,c,ne_eq,CK,CI (show n<9223372036854775807 by omega)];exact Bk.next (n+1) rfl ⟨hlt,rfl⟩ (by omega)
 .simp only[abS,b.len,show¬(n:Int)<(l.length:Int) by omega]
def aPP(y:A9):Az (.geq true [.i,.s,.s]) [.agg y.row,.agg y.row]=some (.bool false):=by rw[X4];simp[A9.row,D9,Mz]
def f87{fs b:List C9}(q:uP h v fs)(JG:uP h v' b)(he:fs.map (·.c)=b.map (·.c))(hb:fs.length<=1000000000)(ha:∀e∈fs,e.c.Aq.length<=1000000000):Cj cx 23 [v,v'] h tt h:=by
 have hl:b.length=fs.length:=by have:=BQ List.length he;simpa using this.symm
 have l1:=q.len;have p:=JG.len;rw[hl] at p;rw[Ac,aDm,t23];simp only[abS,l1,p,ne_eq,CK];refine BO (λn:Nat=>[ff,I (n:Int)]) (λn h1=>n<=fs.length/\h1=h) (λn=>fs.length-n) 0 rfl ⟨AU _,rfl⟩ ?_;rintro n h1 ⟨hn,rfl⟩;rcases A6 n fs.length with hlt|HK
 .have gS:n<b.length:=by omega
  have r:b[n].c=fs[n].c:=by have:=BQ (λl=>l[n]?) he;simp only[CE,An hlt,An gS,BF,Bx] at this;exact this.symm
  obtain⟨id,o,a1,a2,a3,a4⟩:=q.at_ n hlt;obtain⟨FB,o',b1,u,t,s⟩:=JG.at_ n gS;rw[r] at u t;have pz:Bj fs[n].c.Aq fs[n].v:=fs[n].ok;have pq:Bj fs[n].c.Aq b[n].v:=by rw[<-r];exact b[n].ok
  have lY:=ha _ (Ay hlt);have f:=Br.Fk pz;have w:=Br.Fk pq;generalize fs[n].v=av at*;generalize b[n].v=oD at*;generalize fs[n].c.Aq=d at*;simp only[abS,l1,show(n:Int)<(fs.length:Int) by omega,a1,a2,a3,a4,b1,u,t,s,ne_eq,CK,f,w];refine BO (λj:Nat=>[ff,I (j:Int)]) (λj h2=>j<=d.length/\h2=h1) (λj=>d.length-j) 0 rfl ⟨AU _,rfl⟩ ?_;rintro j h2 ⟨hj,rfl⟩;rcases A6 j d.length with aP|y
  .have B:=Br.Dl (k:= .i64) pz aP;have z:=Br.Dl (k:= .i64) pq aP;have i:(A9.row d[j]).length=3:=rfl;have g:(A9.row d[j]).take 3=A9.row d[j]:=rfl;simp only[abS,a1,a4,b1,s,f,show(j:Int)<(d.length:Int) by omega,B,z,i,g,Ab,aPP,CI (show j<9223372036854775807 by omega)];exact Bk.next (j+1) rfl ⟨aP,rfl⟩ (by omega)
  .simp only[abS,a1,a4,f,show¬(j:Int)<(d.length:Int) by omega,CI (show n<9223372036854775807 by omega)];exact Bk.next (n+1) rfl ⟨hlt,rfl⟩ (by omega)
 .simp only[abS,l1,show¬(n:Int)<(fs.length:Int) by omega]
end
section
variable{h h':Ae}{a n:Nat}{m:Option Nat}{ps:List PN}{A:Ar}{x:Int}
end
end Go.Am
end
