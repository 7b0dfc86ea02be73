/- Lemmas -/
import Derived.Test.YtljddgipdchkiaaGreatDoorZ1
import Derived.Orders
import Derived.Laws.AppendOwn
import Derived.Laws.StructEq
set_option linter.all false
section
namespace Go.Am
inductive Kx where
 |L8 (id:Nat)
 |loc (s:Nat)
 |tail (s:Nat) (c:Option Nat) (start:Nat)
def Kx.de:Kx->Bool
 | .L8 _=>true
 |_=>false
structure Gh where
 Io:Nat->Nat->Option Value
 mu:Nat->Option Nat
 Bw:Nat->Option Kx
 sz:Nat->Option Nat
mutual
def BU(γ:Gh):Aa->Value->Prop
 | .bool b,v=>v= .bool b
 | .int k n,v=>v= .int k n
 | .str s,v=>v= .string ⟨⟨s⟩⟩
 | .ptr none,v=>v= .pointer none
 | .ptr (some (id,o)),v=>∃b,γ.mu id=some b/\v= .pointer (some ⟨b,o,none⟩)
 | .Cq cs,v=>∃b o,v= .pointer (some ⟨b,o,none⟩)/\C4 γ cs b o
 | .sl z Az,v=>∃d cap,v= .slice (some d) Az.length cap/\Az.length<=cap/\(d.spot=none\/cap=0)/\E7 γ Az z d.block d.off
 | .slnil,v=>v= .slice none 0 0
 | .Gb _,v=>∃b,v= .slice (some ⟨b,0,none⟩) 0 0
 | .CD id off len z,v=>∃b cap,γ.mu id=some b/\v= .slice (some ⟨b,off,none⟩) len cap/\len<=cap/\(0<z/\cap<=maxLen)/\γ.sz b=some (off+cap*z)
 | .map none,v=>v= .map none
 | .map (some id),v=>∃b,γ.mu id=some b/\v= .map (some b)
 | .func fn f c,v=>∃fs cs,v= .func fn fs cs/\Bi γ f fs.toList/\Bi γ c cs.toList
 | .nilFunc,v=>v= .nilFunc
 | .iface t a,v=>∃u,v= .iface t u/\BU γ a u
 | .nilIface,v=>v= .nilIface
 | .agg cs,v=>∃us,v= .agg us/\Bi γ cs us.toList/\∀u∈us.toList,u.oneCell'=true
 | .tuple vs,v=>∃us,v= .tuple us/\Bi γ vs us.toList
def Bi(γ:Gh):List Aa->List Value->Prop
 |[],us=>us=[]
 |a::l,us=>∃u DM,us=u::DM/\BU γ a u/\Bi γ l DM
def C4(γ:Gh):List Aa->Nat->Nat->Prop
 |[],_,_=>True
 |a::l,b,o=>(∃u,γ.Io b o=some u/\BU γ a u)/\C4 γ l b (o+1)
def E7(γ:Gh):List (List Aa)->Nat->Nat->Nat->Prop
 |[],_,_,_=>True
 |r::rs,z,b,o=>r.length=z/\C4 γ r b o/\E7 γ rs z b (o+z)
end
structure Gh.le(γ γ':Gh):Prop where
 Io:∀b o v,γ.Io b o=some v->γ'.Io b o=some v
 mu:∀id b,γ.mu id=some b->γ'.mu id=some b
 sz:∀b n,γ.sz b=some n->γ'.sz b=some n
def Gh.le.refl(γ:Gh):γ.le γ:=⟨λ_ _ _ h=>h,λ_ _ h=>h,λ_ _ h=>h⟩
def Gh.le.trans{a b c:Gh}(h:a.le b)(k:b.le c):a.le c:=⟨λ_ _ _ x=>k.Io _ _ _ (h.Io _ _ _ x),λ_ _ x=>k.mu _ _ (h.mu _ _ x),λ_ _ x=>k.sz _ _ (h.sz _ _ x)⟩
mutual
def BU.mono{γ γ':Gh}(En:γ.le γ'):∀(a:Aa) (v:Value),BU γ a v->BU γ' a v
 | .bool b,v,h=>h
 | .int k n,v,h=>h
 | .str s,v,h=>h
 | .ptr none,v,h=>h
 | .ptr (some (id,o)),v,h=>by obtain⟨b,hb,hv⟩:=h;exact⟨b,En.mu _ _ hb,hv⟩
 | .Cq cs,v,h=>by obtain⟨b,o,hv,hm⟩:=h;exact⟨b,o,hv,C4.mono En cs b o hm⟩
 | .sl z Az,v,h=>by obtain⟨d,cap,hv,hc,hs,hm⟩:=h;exact⟨d,cap,hv,hc,hs,E7.mono En Az z _ _ hm⟩
 | .slnil,v,h=>h
 | .Gb _,v,h=>h
 | .CD id off len z,v,h=>by obtain⟨b,cap,hb,hv,hc,hz,hs⟩:=h;exact⟨b,cap,En.mu _ _ hb,hv,hc,hz,En.sz _ _ hs⟩
 | .map none,v,h=>h
 | .map (some id),v,h=>by obtain⟨b,hb,hv⟩:=h;exact⟨b,En.mu _ _ hb,hv⟩
 | .func fn f c,v,h=>by obtain⟨fs,cs,hv,h1,h2⟩:=h;exact⟨fs,cs,hv,Bi.mono En f _ h1,Bi.mono En c _ h2⟩
 | .nilFunc,v,h=>h
 | .iface t a,v,h=>by obtain⟨u,hv,h1⟩:=h;exact⟨u,hv,BU.mono En a u h1⟩
 | .nilIface,v,h=>h
 | .agg cs,v,h=>by obtain⟨us,hv,h1,h2⟩:=h;exact⟨us,hv,Bi.mono En cs _ h1,h2⟩
 | .tuple vs,v,h=>by obtain⟨us,hv,h1⟩:=h;exact⟨us,hv,Bi.mono En vs _ h1⟩
def Bi.mono{γ γ':Gh}(En:γ.le γ'):∀(l:List Aa) (us:List Value),Bi γ l us->Bi γ' l us
 |[],us,h=>h
 |a::l,us,h=>by obtain⟨u,DM,hu,h1,h2⟩:=h;exact⟨u,DM,hu,BU.mono En a u h1,Bi.mono En l DM h2⟩
def C4.mono{γ γ':Gh}(En:γ.le γ'):∀(l:List Aa) (b o:Nat),C4 γ l b o->C4 γ' l b o
 |[],_,_,_=>trivial
 |a::l,b,o,h=>by obtain⟨⟨u,hu,h1⟩,h2⟩:=h;exact⟨⟨u,En.Io _ _ _ hu,BU.mono En a u h1⟩,C4.mono En l b (o+1) h2⟩
def E7.mono{γ γ':Gh}(En:γ.le γ'):∀(rs:List (List Aa)) (z b o:Nat),E7 γ rs z b o->E7 γ' rs z b o
 |[],_,_,_,_=>trivial
 |r::rs,z,b,o,h=>⟨h.1,C4.mono En r b o h.2.1,E7.mono En rs z b (o+z) h.2.2⟩
end
def Bi.length{γ:Gh}:∀{l:List Aa} {us:List Value},Bi γ l us->us.length=l.length
 |[],us,h=>by rw[Bi] at h;subst h;rfl
 |a::l,us,h=>by rw[Bi] at h;obtain⟨u,DM,rfl,_,h2⟩:=h;simp[h2.length]
def Bi.get{γ:Gh}:∀{l:List Aa} {us:List Value},Bi γ l us->∀{i:Nat} {a:Aa},l[i]?=some a->∃u,us[i]?=some u/\BU γ a u
 |[],us,h,i,a,hi=>by simp at hi
 |x::l,us,h,i,a,hi=>by
  rw[Bi] at h;obtain⟨u,DM,rfl,h1,h2⟩:=h;cases i with
  |zero=>simp at hi;subst hi;exact⟨u,rfl,h1⟩
  |succ i=>simp at hi;obtain⟨v,hv,hr⟩:=h2.get hi;exact⟨v,by simpa using hv,hr⟩
def Bi.Ha{γ:Gh}:∀{l:List Aa} {us:List Value},us.length=l.length->(∀(i:Nat) (a:Aa) (u:Value),l[i]?=some a->us[i]?=some u->BU γ a u)->Bi γ l us
 |[],us,hl,_=>by rw[Bi];exact Dn hl
 |x::l,[],hl,_=>by simp at hl
 |x::l,u::us,hl,h=>by rw[Bi];exact⟨u,us,rfl,h 0 x u rfl rfl,Bi.Ha (by simpa using hl) λi a v hi hv=>h (i+1) a v (by simpa using hi) (by simpa using hv)⟩
def Bi.append{γ:Gh}:∀{l l':List Aa} {us DM:List Value},Bi γ l us->Bi γ l' DM->Bi γ (l++l') (us++DM)
 |[],l',us,DM,h,h'=>by rw[Bi] at h;subst h;simpa using h'
 |a::l,l',us,DM,h,h'=>by rw[Bi] at h;obtain⟨u,r,rfl,h1,h2⟩:=h;rw[CK,Bi];exact⟨u,r++DM,rfl,h1,h2.append h'⟩
def Bi.take{γ:Gh}{l:List Aa}{us:List Value}(h:Bi γ l us)(n:Nat):Bi γ (l.take n) (us.take n):=by
 refine Bi.Ha (by simp[h.length]) λi a u hi hu=>?_;rw[Cj] at hi hu;split at hi;.rename_i hlt;rw[Ae hlt] at hu;obtain⟨v,hv,hr⟩:=h.get hi;rw[hu] at hv;cases hv;exact hr
 .cases hi
def Bi.drop{γ:Gh}{l:List Aa}{us:List Value}(h:Bi γ l us)(n:Nat):Bi γ (l.drop n) (us.drop n):=by refine Bi.Ha (by simp[h.length]) λi a u hi hu=>?_;rw[Ct] at hi hu;obtain⟨v,hv,hr⟩:=h.get hi;rw[hu] at hv;cases hv;exact hr
def C4.get{γ:Gh}:∀{l:List Aa} {b o:Nat},C4 γ l b o->∀{i:Nat} {a:Aa},l[i]?=some a->∃u,γ.Io b (o+i)=some u/\BU γ a u
 |[],b,o,h,i,a,hi=>by simp at hi
 |x::l,b,o,h,i,a,hi=>by
  rw[C4] at h;obtain⟨⟨u,hu,h1⟩,h2⟩:=h;cases i with
  |zero=>simp at hi;subst hi;exact⟨u,hu,h1⟩
  |succ i=>simp at hi;obtain⟨v,hv,hr⟩:=h2.get hi;exact⟨v,by rw[<-hv];congr 1;omega,hr⟩
def C4.Ha{γ:Gh}:∀{l:List Aa} {b o:Nat},(∀(i:Nat) (a:Aa),l[i]?=some a->∃u,γ.Io b (o+i)=some u/\BU γ a u)->C4 γ l b o
 |[],b,o,h=>by rw[C4];trivial
 |x::l,b,o,h=>by rw[C4];refine⟨h 0 x rfl,C4.Ha λi a hi=>?_⟩;obtain⟨u,hu,hr⟩:=h (i+1) a (by simpa using hi);exact⟨u,by rw[<-hu];congr 1;omega,hr⟩
def C4.drop{γ:Gh}{l:List Aa}{b o:Nat}(h:C4 γ l b o)(n:Nat):C4 γ (l.drop n) b (o+n):=by refine C4.Ha λi a hi=>?_;rw[Ct] at hi;obtain⟨u,hu,hr⟩:=h.get hi;exact⟨u,by rw[<-hu];congr 1;omega,hr⟩
def C4.values{γ:Gh}:∀{l:List Aa} {b o:Nat},C4 γ l b o->∃us:List Value,Bi γ l us/\∀(j:Nat) (u:Value),us[j]?=some u->γ.Io b (o+j)=some u
 |[],b,o,h=>⟨[],by rw[Bi],AK⟩
 |x::l,b,o,h=>by
  rw[C4] at h;obtain⟨⟨u,hu,h1⟩,h2⟩:=h;obtain⟨us,hr,hi⟩:=h2.values;refine⟨u::us,by rw[Bi];exact⟨u,us,rfl,h1,hr⟩,λj v hj=>?_⟩;cases j with
  |zero=>simp at hj;subst hj;exact hu
  |succ j=>simp at hj;rw[<-hi j v hj];congr 1;omega
def E7.get{γ:Gh}:∀{rs:List (List Aa)} {z b o:Nat},E7 γ rs z b o->∀{i:Nat} {r:List Aa},rs[i]?=some r->r.length=z/\C4 γ r b (o+i*z)
 |[],z,b,o,h,i,r,hi=>by simp at hi
 |x::rs,z,b,o,h,i,r,hi=>by
  rw[E7] at h;cases i with
  |zero=>simp at hi;subst hi;simpa using⟨h.1,h.2.1⟩
  |succ i=>simp at hi;obtain⟨h1,h2⟩:=h.2.2.get hi;exact⟨h1,by rw[show o+(i+1)*z=o+z+i*z by rw[BM,D5];omega];exact h2⟩
def E7.Ha{γ:Gh}:∀{rs:List (List Aa)} {z b o:Nat},(∀(i:Nat) (r:List Aa),rs[i]?=some r->r.length=z/\C4 γ r b (o+i*z))->E7 γ rs z b o
 |[],z,b,o,h=>by rw[E7];trivial
 |x::rs,z,b,o,h=>by rw[E7];have h0:=h 0 x rfl;refine⟨h0.1,by simpa using h0.2,E7.Ha λi r hi=>?_⟩;obtain⟨h1,h2⟩:=h (i+1) r (by simpa using hi);exact⟨h1,by rw[show o+z+i*z=o+(i+1)*z by rw[BM,D5];omega];exact h2⟩
def E7.length{γ:Gh}:∀{rs:List (List Aa)} {z b o:Nat},E7 γ rs z b o->rs.flatten.length=rs.length*z
 |[],z,b,o,h=>AK
 |x::rs,z,b,o,h=>by rw[E7] at h;simp[h.1,h.2.2.length,BM,OU]
def NW{b:Addr}{n cap:Nat}(hs:b.spot=none\/cap=0)(hc:n<=cap)(hn:0<n):b=⟨b.block,b.off,none⟩:=by
 rcases hs with hs|hs
 .cases b;simp_all
 .omega
def E7.values{γ:Gh}:∀{rs:List (List Aa)} {z b o:Nat},E7 γ rs z b o->∃us:List Value,Bi γ rs.flatten us/\us.length=rs.length*z/\∀(j:Nat) (u:Value),us[j]?=some u->γ.Io b (o+j)=some u
 |[],z,b,o,h=>⟨[],by simp[Bi],AK,AK⟩
 |x::rs,z,b,o,h=>by
  rw[E7] at h;obtain⟨us,h1,h2⟩:=h.2.1.values;obtain⟨vs,e,d,c⟩:=h.2.2.values;have hl:us.length=z:=by rw[h1.length,h.1]
  refine⟨us++vs,by simpa using h1.append e,by simp[hl,d,BM,OU],λj u hj=>?_⟩;rw[aK5] at hj;split at hj;.exact h2 j u hj
  .rename_i Ef;rw[<-c _ _ hj];congr 1
   omega
def IQ(γ:Gh)(B:Nat)(w:World)(s:Nat)(c:Option Nat)(v:Value)(a:Aa):Prop:=
 (a= .slnil\/∃z,a= .Gb z)\/∃g n cap us e z Az,a= .sl z Az/\v= .slice (some ⟨g,0,none⟩) n cap/\γ.Bw g=some (.tail s c (n*z))/\B<=g/\
  w.heap[g]?=some (.cells us e (0,0))/\us.size=cap*z/\n<=cap/\cap<=maxLen/\0<z
def Lu(γ:Gh)(β:Nat->Nat)(B:Nat)(w:World)(s:Nat):Er->Value->Prop
 | .undef,_=>True
 | .skip,v=>v=undef
 | .val a,v=>BU γ a v
 | .OM b,v=>v= .bool b
 | .Bw a,v=>BU γ a v/\IQ γ B w s none v a
 | .box _ cs ow,v=>v= .pointer (some ⟨β s,0,none⟩)/\γ.Bw (β s)=some (.loc s)/\B<=β s/\
  ∃us e,w.heap[β s]?=some (.cells us e (0,0))/\Bi γ cs us.toList/\(∀u∈us.toList,u.oneCell'=true)/\
   ∀o∈ow,∃u a,us[o]?=some u/\cs[o]?=some a/\IQ γ B w s (some o) u a
 | .Fl s' o,v=>v= .pointer (some ⟨β s',o,none⟩)
structure FR(γ:Gh)(β:Nat->Nat)(B:Nat)(U:BW)(tmps:Array Value)(w:World):Prop where
 size:U.length=tmps.size
 Ij:∀s,Lu γ β B w s (U.at s) (tmps.getD s undef)
def K5(γ:Gh):List (Aa×Aa)->List MapEntry->Prop
 |[],es=>es=[]
 |(k,v)::l,es=>∃e UA,es=e::UA/\BU γ k e.key/\BU γ v e.val/\K5 γ l UA
def df(γ:Gh)(l:List (Aa×Aa))(es:Array MapEntry)(clock:Nat):Prop:=
 K5 γ l es.toList/\clock=es.size/\∀(i:Nat) (e:MapEntry),es[i]?=some e->e.born=i
def S0(fr:Nat×Nat)(n:Nat):Prop:=fr=(0,0)\/n<=fr.1
structure Hj(γ:Gh)(h:Ah)(w:World):Prop where
 Io:∀b o v,γ.Io b o=some v->w.cell? ⟨b,o,none⟩=some v/\v.oneCell'=true/\(γ.Bw b=none\/∃s c st,γ.Bw b=some (.tail s c st)/\o<st)
 L8:∀id x,h[id]?=some x->x≠ .CT->∃b,γ.mu id=some b/\γ.Bw b=some (.L8 id)
 cells:∀id cs,h[id]?=some (.cells cs)->∀b,γ.mu id=some b->∃us e fr,w.heap[b]?=some (.cells us e fr)/\S0 fr us.size/\Bi γ cs (us.toList.take cs.length)/\∀u∈us.toList.take cs.length,u.oneCell'=true
 map:∀id es,h[id]?=some (.map es)->∀b,γ.mu id=some b->∃DD clock,w.heap[b]?=some (.map DD clock)/\df γ es DD clock
 mu:∀id b,γ.mu id=some b->id<h.length
 Bw:∀b x,γ.Bw b=some x->b<w.heap.size
 sz:∀b n,γ.sz b=some n->(∃us e fr,w.heap[b]?=some (.cells us e fr)/\us.size=n)/\(γ.Bw b=none\/∃id,γ.Bw b=some (.L8 id))
structure K6(γ0:Gh)(w0:World)(γ:Gh)(w:World):Prop where
 le:γ0.le γ
 size:w0.heap.size<=w.heap.size
 os:w.os=w0.os
 tape:w.tape=w0.tape
 output:w.output=w0.output
 NX:∀b,b<w0.heap.size->(∀id,γ0.Bw b≠some (.L8 id))->w.heap[b]?=w0.heap[b]?/\γ.Bw b=γ0.Bw b
def K6.refl(γ:Gh)(w:World):K6 γ w γ w:=⟨.refl _,Ag _,rfl,rfl,rfl,λ_ _ _=>⟨rfl,rfl⟩⟩
def K6.trans{γ0 d c:Gh}{w0 w1 e:World}(h:K6 γ0 w0 d w1)(k:K6 d w1 c e):K6 γ0 w0 c e:=by refine⟨h.le.trans k.le,Bu h.size k.size,k.os.trans h.os,k.tape.trans h.tape,k.output.trans h.output,λb hb hn=>?_⟩;.obtain⟨h1,h2⟩:=h.NX b hb hn;obtain⟨g,f⟩:=k.NX b (LD hb h.size) (λid=>by rw[h2];exact hn id);exact⟨g.trans h1,f.trans h2⟩
structure wU(γ:Gh)(w:World)(γ':Gh)(w':World):Prop where
 le:γ.le γ'
 NX:∀b x,γ.Bw b=some x->x.de=false->γ'.Bw b=some x/\w'.heap[b]?=w.heap[b]?
def wU.Ų{γ γ':Gh}{h:Ah}{w w':World}(hi:Hj γ h w)(ha:K6 γ w γ' w'):wU γ w γ' w':=by refine⟨ha.le,λb x hb hx=>?_⟩;obtain⟨h1,h2⟩:=ha.NX b (hi.Bw b x hb) (λid Ik=>by rw[hb] at Ik;cases Ik;simp[Kx.de] at hx);exact⟨h2.trans hb,h1⟩
def IQ.kept{γ γ':Gh}{B:Nat}{w w':World}{s:Nat}{c:Option Nat}{v:Value}{a:Aa}(h:IQ γ B w s c v a)(k:wU γ w γ' w'):IQ γ' B w' s c v a:=by
 rcases h with h|⟨g,n,cap,us,e,z,Az,h1,h2,l,j,i,f⟩
 .exact .inl h
 .obtain⟨d,b⟩:=k.NX g _ l rfl;exact .inr ⟨g,n,cap,us,e,z,Az,h1,h2,d,j,by rw[b];exact i,f⟩
def Lu.kept{γ γ':Gh}{β:Nat->Nat}{B:Nat}{w w':World}{s:Nat}{x:Er}{v:Value}(h:Lu γ β B w s x v)(k:wU γ w γ' w'):Lu γ' β B w' s x v:=by
 cases x with
 |undef=>trivial
 |skip=>exact h
 |val a=>exact BU.mono k.le a v h
 |OM b=>exact h
 |Bw a=>exact⟨BU.mono k.le a v h.1,h.2.kept k⟩
 |box ver cs ow=>obtain⟨h1,h2,l,us,e,j,i,g,f⟩:=h;obtain⟨d,c⟩:=k.NX _ _ h2 rfl;exact⟨h1,d,l,us,e,by rw[c];exact j,Bi.mono k.le cs _ i,g,λo ho=>let⟨u,a,p,q,r⟩:=f o ho;⟨u,a,p,q,r.kept k⟩⟩
 |Fl s' o=>exact h
def FR.kept{γ γ':Gh}{β:Nat->Nat}{B:Nat}{U:BW}{tmps:Array Value}{w w':World}(h:FR γ β B U tmps w)(k:wU γ w γ' w'):FR γ' β B U tmps w':=
 ⟨h.size,λs=>(h.Ij s).kept k⟩
end Go.Am
end
section
namespace Go.Am
def CS{w w':World}{b o:Nat}(h:w'.heap[b]?=w.heap[b]?):w'.cell? ⟨b,o,none⟩=w.cell? ⟨b,o,none⟩:=by simp[World.cell?,h]
def DP{w:World}{b o:Nat}{v:Value}(h:w.cell? ⟨b,o,none⟩=some v):b<w.heap.size:=by
 rcases AO b w.heap.size with h'|h'
 .exact h'
 .simp[World.cell?,Array.getElem?_eq_none h'] at h
def Hj.ų{γ:Gh}{h:Ah}{w:World}(hi:Hj γ h w){b o:Nat}{v:Value}(hb:γ.Io b o=some v):b<w.heap.size:=DP (hi.Io b o v hb).1
def Hj.same{γ:Gh}{h:Ah}{w w':World}(hi:Hj γ h w)(c:w'.heap=w.heap):Hj γ h w':=by
 refine⟨λb o v hb=>?_,hi.L8,λid cs hc b hb=>?_,λid es hc b hb=>?_,hi.mu,λb x hx=>?_,λb n hb=>by rw[c];exact hi.sz b n hb⟩;.obtain⟨h1,h2,d⟩:=hi.Io b o v hb;have e:=CS (w:=w) (w':=w') (b:=b) (o:=o) (by rw[c]);exact⟨e.trans h1,h2,d⟩
 .rw[c];exact hi.cells id cs hc b hb
 .rw[c];exact hi.map id es hc b hb
 .rw[c];exact hi.Bw b x hx
def K6.same{γ:Gh}{w w':World}(b:w'.heap=w.heap)(h1:w'.os=w.os)(h2:w'.tape=w.tape)(c:w'.output=w.output):K6 γ w γ w':=
 ⟨.refl _,by rw[b];exact Ag _,h1,h2,c,λ_ _ _=>⟨by rw[b],rfl⟩⟩
def K6.drew(γ:Gh)(w:World):K6 γ w γ w.drew:=K6.same rfl rfl rfl rfl
def Gh.Ds(γ:Gh)(b:Nat)(us:Array Value)(k:Nat)(x:Option Kx):Gh:=
 {Io:=λb' o=>if b'=b then(if o<k then us[o]? else none) else γ.Io b' o,mu:=γ.mu,Bw:=λb'=>if b'=b then x else γ.Bw b',sz:=γ.sz}
def Gh.B3(γ:Gh)(b id:Nat)(n:Option Nat):Gh:=
 {Io:=γ.Io,mu:=λi=>if i=id then some b else γ.mu i,Bw:=λb'=>if b'=b then some (.L8 id) else γ.Bw b',sz:=λb'=>if b'=b then n else γ.sz b'}
section
variable{γ:Gh}{h:Ah}{w:World}
def EL(w:World)(o:Obj){b:Nat}(hb:b<w.heap.size):(w.alloc o).heap[b]?=w.heap[b]?:=heap_alloc_old w o b hb
def O1(hi:Hj γ h w)(us:Array Value)(e:TypeId)(fr:Nat×Nat)(k:Nat)(x:Option Kx)(h1:∀o u,o<k->us[o]?=some u->u.oneCell'=true)
  (hx:x=none\/(∃s c,x=some (.tail s c k))\/(k=0/\∀id,x≠some (.L8 id))):
  Hj (γ.Ds w.heap.size us k x) h (w.alloc (.cells us e fr))/\K6 γ w (γ.Ds w.heap.size us k x) (w.alloc (.cells us e fr)):=by
 have FG:γ.Bw w.heap.size=none:=by
  cases hc:γ.Bw w.heap.size with
  |none=>rfl
  |some y=>exact absurd (hi.Bw _ y hc) (Dr _)
 have dg:∀o,γ.Io w.heap.size o=none:=λo=>by
  cases hc:γ.Io w.heap.size o with
  |none=>rfl
  |some y=>exact absurd (hi.ų hc) (Dr _)
 have En:γ.le (γ.Ds w.heap.size us k x):=⟨λb' o' v' DG=>by
  have:b'≠w.heap.size:=λhe=>by rw[he,dg] at DG;cases DG
  simp only[Gh.Ds,Ac this];exact DG,λ_ _ hm=>hm,λ_ _ hm=>hm⟩
 constructor
 .refine⟨λb o v hb=>?_,λid y Ik hy=>?_,λid cs hc b hb=>?_,λid es hc b hb=>?_,hi.mu,λb y hy=>?_,λb n hb=>?_⟩;rotate_left 5;.obtain⟨⟨DM,d,wV,p,q⟩,r⟩:=hi.sz b n hb;have NY:b≠w.heap.size:=OV (by rw[A7] at p;exact p.1);exact⟨⟨DM,d,wV,by rw[EL _ _ (by rw[A7] at p;exact p.1)];exact p,q⟩,by simp only[Gh.Ds,Ac NY];exact r⟩
  .by_cases NY:b=w.heap.size
   .subst NY;simp only[Gh.Ds,BT] at hb⊢;split at hb
    .rename_i hlt;refine⟨by rw[cell_of_row _ _ _ us e fr (heap_alloc_new w _)];exact hb,h1 o v hlt hb,?_⟩;rcases hx with hx|⟨s,c,hx⟩|⟨hx,_⟩
     .exact .inl hx
     .exact .inr ⟨s,c,k,hx,hlt⟩
     .omega
    .cases hb
   .simp only[Gh.Ds,Ac NY] at hb⊢;obtain⟨p,q,r⟩:=hi.Io b o v hb;exact⟨by rw[CS (EL w _ (DP p))];exact p,q,r⟩
  .obtain⟨b,p,q⟩:=hi.L8 id y Ik hy;refine⟨b,p,?_⟩;have:b≠w.heap.size:=λhe=>by rw[he,FG] at q;cases q
   simp only[Gh.Ds,Ac this];exact q
  .obtain⟨DM,d,wV,p,pf,q,r⟩:=hi.cells id cs hc b hb;exact⟨DM,d,wV,by rw[EL _ _ (by rw[A7] at p;exact p.1)];exact p,pf,Bi.mono En cs _ q,r⟩
  .obtain⟨DD,clock,p,q⟩:=hi.map id es hc b hb;refine⟨DD,clock,by rw[EL _ _ (by rw[A7] at p;exact p.1)];exact p,?_,q.2⟩;replace q:=q.1;clear hc p;revert q;generalize DD.toList=l;intro q;induction es generalizing l with
   |nil=>exact q
   |cons kv es ih=>obtain⟨kk,f⟩:=kv;obtain⟨en,UA,hl,a1,a2,a3⟩:=q;exact⟨en,UA,hl,BU.mono En _ _ a1,BU.mono En _ _ a2,ih UA a3⟩
  .by_cases NY:b=w.heap.size;.subst NY;simp
   .simp only[Gh.Ds,Ac NY] at hy;have:=hi.Bw b y hy;simp;omega
 .refine⟨En,AK,rfl,rfl,rfl,λb hb _=>⟨EL _ _ hb,?_⟩⟩;simp only[Gh.Ds,Ac (OV hb)]
def K5.mono{γ γ':Gh}(En:γ.le γ'):∀{es:List (Aa×Aa)} {l:List MapEntry},K5 γ es l->K5 γ' es l
 |[],l,q=>q
 |(kk,b)::es,l,q=>by obtain⟨en,UA,hl,a1,a2,a3⟩:=q;exact⟨en,UA,hl,BU.mono En _ _ a1,BU.mono En _ _ a2,a3.mono En⟩
def df.mono{γ γ':Gh}(En:γ.le γ'){es:List (Aa×Aa)}{l:Array MapEntry}{c:Nat}(h:df γ es l c):df γ' es l c:=⟨h.1.mono En,h.2⟩
def GM(hi:Hj γ h w)(o:Obj)(x:Dx)(m:Option Nat)
  (hx:(∃cs us e fr,x= .cells cs/\o= .cells us e fr/\S0 fr us.size/\Bi γ cs (us.toList.take cs.length)/\(∀u∈us.toList.take cs.length,u.oneCell'=true)/\m=some us.size)\/(x= .map []/\o= .map #[] 0/\m=none)):
  Hj (γ.B3 w.heap.size h.length m) (h++[x]) (w.alloc o)/\K6 γ w (γ.B3 w.heap.size h.length m) (w.alloc o):=by
 have FG:γ.Bw w.heap.size=none:=by
  cases hc:γ.Bw w.heap.size with
  |none=>rfl
  |some y=>exact absurd (hi.Bw _ y hc) (Dr _)
 have c:γ.mu h.length=none:=by
  cases hc:γ.mu h.length with
  |none=>rfl
  |some y=>exact absurd (hi.mu _ y hc) (Dr _)
 have KR:γ.sz w.heap.size=none:=by
  cases hc:γ.sz w.heap.size with
  |none=>rfl
  |some y=>obtain⟨⟨_,_,_,p,_⟩,_⟩:=hi.sz _ y hc;rw[A7] at p;exact absurd p.1 (Dr _)
 have En:γ.le (γ.B3 w.heap.size h.length m):=⟨λ_ _ _ hv=>hv,λid b hm=>by
  have:id≠h.length:=λhe=>by rw[he,c] at hm;cases hm
  simp only[Gh.B3,Ac this];exact hm,λb n hm=>by
  have:b≠w.heap.size:=λhe=>by rw[he,KR] at hm;cases hm
  simp only[Gh.B3,Ac this];exact hm⟩
 constructor
 .refine⟨λb o' v hb=>?_,λid y Ik hy=>?_,λid cs hc b hb=>?_,λid es hc b hb=>?_,λid b hb=>?_,λb y hy=>?_,λb n hb=>?_⟩;rotate_left 6
  .by_cases NY:b=w.heap.size
   .subst NY;simp only[Gh.B3,BT] at hb;rcases hx with⟨GW,us,e,fr,rfl,rfl,pf,p,q,rfl⟩|⟨rfl,rfl,rfl⟩
    .cases hb;exact⟨⟨us,e,fr,heap_alloc_new w _,rfl⟩,.inr ⟨h.length,by simp[Gh.B3]⟩⟩
    .cases hb
   .simp only[Gh.B3,Ac NY] at hb⊢;obtain⟨⟨DM,d,wV,p,q⟩,r⟩:=hi.sz b n hb;exact⟨⟨DM,d,wV,by rw[EL _ _ (by rw[A7] at p;exact p.1)];exact p,q⟩,r⟩
  .obtain⟨p,q,r⟩:=hi.Io b o' v hb;have NY:b≠w.heap.size:=OV (DP p);exact⟨by rw[World.cell?_alloc_old _ _ _ NY];exact p,q,by simp only[Gh.B3,Ac NY];exact r⟩
  .by_cases he:id=h.length;.exact⟨w.heap.size,by simp[Gh.B3,he],by simp[Gh.B3,he]⟩
   .have VY:id<h.length:=by rw[Ak] at Ik;obtain⟨hl,_⟩:=Ik;simp at hl;omega
    rw[Aj VY] at Ik;obtain⟨b,p,q⟩:=hi.L8 id y Ik hy;have NY:b≠w.heap.size:=λhe=>by rw[he,FG] at q;cases q
    exact⟨b,by simp only[Gh.B3,Ac he];exact p,by simp only[Gh.B3,Ac NY];exact q⟩
  .by_cases he:id=h.length
   .subst he;simp[Gh.B3] at hb;subst hb;simp at hc;rcases hx with⟨GW,us,e,fr,rfl,rfl,pf,p,q,rfl⟩|⟨rfl,rfl,rfl⟩
    .cases hc;exact⟨us,e,fr,heap_alloc_new w _,pf,Bi.mono En _ _ p,q⟩
    .cases hc
   .simp only[Gh.B3,Ac he] at hb;have VY:=hi.mu id b hb;rw[Aj VY] at hc;obtain⟨DM,d,wV,p,pf,q,r⟩:=hi.cells id cs hc b hb;exact⟨DM,d,wV,by rw[EL _ _ (by rw[A7] at p;exact p.1)];exact p,pf,Bi.mono En _ _ q,r⟩
  .by_cases he:id=h.length
   .subst he;simp[Gh.B3] at hb;subst hb;simp at hc;rcases hx with⟨GW,us,e,fr,rfl,rfl,pf,p,q,rfl⟩|⟨rfl,rfl,rfl⟩
    .cases hc
    .cases hc;exact⟨#[],0,heap_alloc_new w _,rfl,rfl,AK⟩
   .simp only[Gh.B3,Ac he] at hb;have VY:=hi.mu id b hb;rw[Aj VY] at hc;obtain⟨DD,clock,p,q⟩:=hi.map id es hc b hb;exact⟨DD,clock,by rw[EL _ _ (by rw[A7] at p;exact p.1)];exact p,q.mono En⟩
  .by_cases he:id=h.length;.simp[he]
   .simp only[Gh.B3,Ac he] at hb;have:=hi.mu id b hb;simp;omega
  .by_cases NY:b=w.heap.size;.subst NY;simp
   .simp only[Gh.B3,Ac NY] at hy;have:=hi.Bw b y hy;simp;omega
 .refine⟨En,AK,rfl,rfl,rfl,λb hb _=>⟨EL _ _ hb,?_⟩⟩;simp only[Gh.B3,Ac (OV hb)]
def wW(hi:Hj γ h w){g s:Nat}(hg:γ.Bw g=some (.loc s))(us:Array Value):Hj γ h (w.setRow g us):=by
 refine⟨λb o v hb=>?_,hi.L8,λid cs hc b hb=>?_,λid es hc b hb=>?_,hi.mu,λb x hx=>?_,λb n hb=>?_⟩;rotate_left 4
 .obtain⟨p,r⟩:=hi.sz b n hb;have:b≠g:=λhe=>by subst he;rw[hg] at r;rcases r with r|⟨_,r⟩<;>cases r
  exact⟨by rw[setRow_other w g b us this];exact p,r⟩
 .obtain⟨p,q,r⟩:=hi.Io b o v hb;have:b≠g:=λhe=>by subst he;rw[hg] at r;rcases r with r|⟨_,_,_,r,_⟩<;>cases r
  exact⟨by rw[CS (setRow_other w g b us this)];exact p,q,r⟩
 .have QQ:b≠g:=λhe=>by subst he;obtain⟨b',p,q⟩:=hi.L8 id _ hc AK;rw[hb] at p;cases p;rw[hg] at q;cases q
  rw[setRow_other w g b us QQ];exact hi.cells id cs hc b hb
 .have QQ:b≠g:=λhe=>by subst he;obtain⟨b',p,q⟩:=hi.L8 id _ hc AK;rw[hb] at p;cases p;rw[hg] at q;cases q
  rw[setRow_other w g b us QQ];exact hi.map id es hc b hb
 .have:=hi.Bw b x hx;simpa[World.setRow] using this
def Nh(hi:Hj γ h w){g id:Nat}{cs:List Aa}(hcs:h[id]?=some (.cells cs))(hg:γ.mu id=some g){us:Array Value}{e:TypeId}{fr:Nat×Nat}(hw:w.heap[g]?=some (.cells us e fr))(DM:Array Value)(GW:List Aa)(YM:DM.size=us.size)(pM:S0 fr DM.size)
  (hr:Bi γ GW (DM.toList.take GW.length)) (h1:∀u∈DM.toList.take GW.length,u.oneCell'=true):
  Hj γ (h.set id (.cells GW)) (w.setRow g DM)/\K6 γ w γ (w.setRow g DM):=by
 obtain⟨d,p,SN⟩:=hi.L8 id _ hcs AK;rw[hg] at p;cases p;have uniq:∀FO x,h[FO]?=some x->x≠ .CT->γ.mu FO=some g->FO=id:=λFO x hx Ŵ hm=>by obtain⟨b',p,q⟩:=hi.L8 FO x hx Ŵ;rw[hm] at p;cases p;rw[SN] at q;cases q;rfl
 constructor
 .refine⟨λb o v hb=>?_,λFO y Ik hy=>?_,λFO cs hc b hb=>?_,λFO es hc b hb=>?_,λFO b hb=>by simpa using hi.mu FO b hb,λb x hx=>?_,λb n hb=>?_⟩;rotate_left 5
  .obtain⟨⟨kE,c,dh,p,q⟩,r⟩:=hi.sz b n hb;by_cases he:b=g;.subst he;rw[hw] at p;cases p;exact⟨⟨DM,e,fr,setRow_heap w b us DM e fr hw,by rw[YM];exact q⟩,r⟩
   .exact⟨⟨kE,c,dh,by rw[setRow_other w g b DM he];exact p,q⟩,r⟩
  .obtain⟨p,q,r⟩:=hi.Io b o v hb;have:b≠g:=λhe=>by subst he;rw[SN] at r;rcases r with r|⟨_,_,_,r,_⟩<;>cases r
   exact⟨by rw[CS (setRow_other w g b DM this)];exact p,q,r⟩
  .by_cases he:FO=id;.subst he;exact⟨g,hg,SN⟩
   .rw[Ao (λx=>he x.symm)] at Ik;exact hi.L8 FO y Ik hy
  .by_cases he:FO=id;.subst he;rw[hg] at hb;cases hb;rw[AQ (hi.mu _ _ hg)] at hc;cases hc;exact⟨DM,e,fr,setRow_heap w g us DM e fr hw,pM,hr,h1⟩
   .rw[Ao (λx=>he x.symm)] at hc;have QQ:b≠g:=λhx=>by subst hx;exact he (uniq FO _ hc AK hb)
    rw[setRow_other w g b DM QQ];exact hi.cells FO cs hc b hb
  .by_cases he:FO=id;.subst he;rw[AQ (hi.mu _ _ hg)] at hc;cases hc
   .rw[Ao (λx=>he x.symm)] at hc;have QQ:b≠g:=λhx=>by subst hx;exact he (uniq FO _ hc AK hb)
    rw[setRow_other w g b DM QQ];exact hi.map FO es hc b hb
  .have:=hi.Bw b x hx;simpa[World.setRow] using this
 .refine⟨.refl _,by simp[World.setRow],rfl,rfl,rfl,λb hb hn=>⟨?_,rfl⟩⟩;exact setRow_other w g b DM (λhe=>by subst he;exact hn id SN)
def kF(hi:Hj γ h w){g s st:Nat}{c:Option Nat}(hg:γ.Bw g=some (.tail s c st)){us:Array Value}{e:TypeId}(hw:w.heap[g]?=some (.cells us e (0,0)))(DM:Array Value)(k:Nat)(s':Nat)(c':Option Nat)
  (Ni:∀o,o<st->DM[o]?=us[o]?) (hk:st<=k) (h1:∀o u,o<k->DM[o]?=some u->u.oneCell'=true) (ZT:∀o v,γ.Io g o=some v->us[o]?=some v):
  Hj (γ.Ds g DM k (some (.tail s' c' k))) h (w.setRow g DM)/\γ.le (γ.Ds g DM k (some (.tail s' c' k))):=by
 have hlt:∀o v,γ.Io g o=some v->o<st:=λo v ho=>by
  obtain⟨_,_,r⟩:=hi.Io g o v ho;rw[hg] at r;rcases r with r|⟨_,_,_,r,hl⟩
  .cases r
  .cases r;exact hl
 have En:γ.le (γ.Ds g DM k (some (.tail s' c' k))):=⟨λb o v hb=>by
  by_cases he:b=g;.subst he;have:=hlt o v hb;simp only[Gh.Ds,BT,Ae (LD this hk)];rw[Ni o this];exact ZT o v hb
  .simp only[Gh.Ds,Ac he];exact hb,λ_ _ hm=>hm,λ_ _ hm=>hm⟩
 refine⟨⟨λb o v hb=>?_,λid y Ik hy=>?_,λid cs hc b hb=>?_,λid es hc b hb=>?_,hi.mu,λb x hx=>?_,λb n hb=>?_⟩,En⟩;rotate_left 5
 .obtain⟨p,r⟩:=hi.sz b n hb;have:b≠g:=λhe=>by subst he;rw[hg] at r;rcases r with r|⟨_,r⟩<;>cases r
  exact⟨by rw[setRow_other w g b DM this];exact p,by simp only[Gh.Ds,Ac this];exact r⟩
 .by_cases he:b=g
  .subst he;simp only[Gh.Ds,BT] at hb⊢;split at hb
   .rename_i hl;exact⟨by rw[cell_of_row _ _ _ DM e (0,0) (setRow_heap w b us DM e (0,0) hw)];exact hb,
     h1 o v hl hb,.inr ⟨s',c',k,rfl,hl⟩⟩
   .cases hb
  .simp only[Gh.Ds,Ac he] at hb⊢;obtain⟨p,q,r⟩:=hi.Io b o v hb;exact⟨by rw[CS (setRow_other w g b DM he)];exact p,q,r⟩
 .obtain⟨b,p,q⟩:=hi.L8 id y Ik hy;have:b≠g:=λhe=>by subst he;rw[hg] at q;cases q
  exact⟨b,p,by simp only[Gh.Ds,Ac this];exact q⟩
 .replace hb:γ.mu id=some b:=hb;obtain⟨b',p,q⟩:=hi.L8 id _ hc AK;rw[hb] at p;cases p;have:b≠g:=λhe=>by subst he;rw[hg] at q;cases q
  rw[setRow_other w g b DM this];obtain⟨kE,j,dh,i,f,d,r2⟩:=hi.cells id cs hc b hb;exact⟨kE,j,dh,i,f,Bi.mono En _ _ d,r2⟩
 .replace hb:γ.mu id=some b:=hb;obtain⟨b',p,q⟩:=hi.L8 id _ hc AK;rw[hb] at p;cases p;have:b≠g:=λhe=>by subst he;rw[hg] at q;cases q
  rw[setRow_other w g b DM this];obtain⟨DD,clock,i,d⟩:=hi.map id es hc b hb;exact⟨DD,clock,i,d.mono En⟩
 .by_cases he:b=g;.subst he;have:=hi.Bw b _ hg;simpa[World.setRow] using this
  .simp only[Gh.Ds,Ac he] at hx;have:=hi.Bw b x hx;simpa[World.setRow] using this
def K6.write{γ0 c:Gh}{w0:World}(ha:K6 γ0 w0 γ w){w1:World}{g:Nat}(hg:w0.heap.size<=g)(En:γ.le c)(hs:w1.heap.size=w.heap.size)(h1:w1.os=w.os)(h2:w1.tape=w.tape)(e:w1.output=w.output)
  (hk:∀b,b≠g->w1.heap[b]?=w.heap[b]?/\c.Bw b=γ.Bw b):K6 γ0 w0 c w1:=by
 refine⟨ha.le.trans En,by rw[hs];exact ha.size,h1.trans ha.os,h2.trans ha.tape,e.trans ha.output,λb hb hn=>?_⟩;.obtain⟨p,q⟩:=ha.NX b hb hn;obtain⟨p',d⟩:=hk b Ab;exact⟨p'.trans p,d.trans q⟩
def di(hi:Hj γ h w){g id:Nat}{cs:List Aa}(hcs:h[id]?=some (.cells cs))(hg:γ.mu id=some g){us:Array Value}{e:TypeId}{fr:Nat×Nat}(hw:w.heap[g]?=some (.cells us e fr))(h1:∀u∈us.toList.take cs.length,u.oneCell'=true):
  Hj (γ.Ds g us cs.length none) (h.set id .CT) w/\K6 γ w (γ.Ds g us cs.length none) w:=by
 obtain⟨d,p,SN⟩:=hi.L8 id _ hcs AK;rw[hg] at p;cases p;have uniq:∀FO x,h[FO]?=some x->x≠ .CT->γ.mu FO=some g->FO=id:=λFO x hx Ŵ hm=>by obtain⟨b',p,q⟩:=hi.L8 FO x hx Ŵ;rw[hm] at p;cases p;rw[SN] at q;cases q;rfl
 have hne:∀o v,γ.Io g o=some v->False:=λo v hv=>by obtain⟨_,_,r⟩:=hi.Io g o v hv;rw[SN] at r;rcases r with r|⟨_,_,_,r,_⟩<;>cases r
 have En:γ.le (γ.Ds g us cs.length none):=⟨λb o v hb=>by
  have:b≠g:=λhe=>by subst he;exact hne o v hb
  simp only[Gh.Ds,Ac this];exact hb,λ_ _ hm=>hm,λ_ _ hm=>hm⟩
 constructor
 .refine⟨λb o v hb=>?_,λFO y Ik hy=>?_,λFO GW hc b hb=>?_,λFO es hc b hb=>?_,λFO b hb=>by simpa using hi.mu FO b hb,λb x hx=>?_,λb n hb=>?_⟩;rotate_left 5
  .obtain⟨p,r⟩:=hi.sz b n hb;by_cases he:b=g;.subst he;exact⟨p,.inl (by simp[Gh.Ds])⟩
   .exact⟨p,by simp only[Gh.Ds,Ac he];exact r⟩
  .by_cases he:b=g
   .subst he;simp only[Gh.Ds,BT] at hb⊢;split at hb;.rename_i hlt;exact⟨by rw[cell_of_row _ _ _ us e fr hw];exact hb,h1 v (CB (i:=o) (by rw[CZ hlt];simpa using hb)),.inl AK⟩
    .cases hb
   .simp only[Gh.Ds,Ac he] at hb⊢;exact hi.Io b o v hb
  .by_cases he:FO=id;.subst he;rw[AQ (hi.mu _ _ hg)] at Ik;cases Ik;exact absurd rfl hy
   .rw[Ao (λx=>he x.symm)] at Ik;obtain⟨b,p,q⟩:=hi.L8 FO y Ik hy;have:b≠g:=λhx=>by subst hx;exact he (uniq FO y Ik hy p)
    exact⟨b,p,by simp only[Gh.Ds,Ac this];exact q⟩
  .by_cases he:FO=id;.subst he;rw[AQ (hi.mu _ _ hg)] at hc;cases hc
   .rw[Ao (λx=>he x.symm)] at hc;obtain⟨DM,c,wV,p,pf,q,r⟩:=hi.cells FO GW hc b hb;exact⟨DM,c,wV,p,pf,Bi.mono En _ _ q,r⟩
  .by_cases he:FO=id;.subst he;rw[AQ (hi.mu _ _ hg)] at hc;cases hc
   .rw[Ao (λx=>he x.symm)] at hc;obtain⟨DM,c,p,q⟩:=hi.map FO es hc b hb;exact⟨DM,c,p,q.mono En⟩
  .by_cases he:b=g;.subst he;exact hi.Bw b _ SN
   .simp only[Gh.Ds,Ac he] at hx;exact hi.Bw b x hx
 .refine⟨En,Ag _,rfl,rfl,rfl,λb hb hn=>⟨rfl,?_⟩⟩;have:b≠g:=λhe=>by subst he;exact hn id SN
  simp only[Gh.Ds,Ac this]
end
end Go.Am
end
section
namespace Go.Am
def EO.Nj(C:FZ)(run:IT->Ah->Option J1)(U:BW)(h:Ah)(e:BW)(h':Ah):EO->Prop
 | .pure ws=>e=U.Ej ws/\h'=h
 | .op p args dst Bw i=>∃v,AB p args=some v/\e=(U.DO i).put dst (if Bw then .Bw v else .val v)/\h'=h
 | .box n v d=>v.cells.length=n/\e=U.set d (.box 0 v.cells [])/\h'=h
 | .closure fn a b fz d=>e=(U.Ej (fz.map λ(s,cs)=>(s,.val (.Cq cs)))).set d (.val (.func fn a b))/\h'=h
 | .MY s off n v Bw i ver cells owned=>v.cells.length=n/\e=(U.DO i).set s (.box (ver+1) (VS cells off n v.cells) (Rt owned off n Bw))/\h'=h
 | .load n p dst=>∃v,Bg h n p=some v/\e=U.put dst (.val v)/\h'=h
 | .store n p v=>Cw h n p v=some h'/\e=U
 | .alloc n v dst=>v.cells.length=n/\h'=h++[.cells v.cells]/\e=U.put dst (.val (.ptr (some (h.length,0))))
 | .call f args dst=>∃r,run (Cd C f args) h=some (.ret,[r],h')/\e=U.put dst (if C.Jb f then .Bw r else .val r)
 | .Es g args dst=>∃f args' r,DC g args=some (f,args')/\run (Cd C f args') h=some (.ret,[r],h')/\e=U.put dst (.val r)
 | .Bk f args dst=>args.all Aa.ME=true/\∃r h1,run (Cd C f args) []=some (.ret,[r],h1)/\r.ME=true/\e=U.put dst (.val r)/\h'=h
 | .Nf dst=>h'=h++[.map []]/\e=U.put dst (.val (.map (some h.length)))
 | .HQ m k v=>TH h m k v=some h'/\e=U
 | .make z b zero l c dst=>∃v,Rr h z b zero l c=some (h',v)/\e=U.put dst (.val v)
 | .HR z b s x dst i=>∃v,KB h z b s x=some (h',v)/\e=(U.DO i).put dst (.val v)
 | .FN z b s x dst=>∃v,F9 h z b s x=some (h',v)/\e=U.put dst (.val v)
 | .GA z b s x dst i=>∃v,Qn h z b s x=some v/\e=(U.DO i).put dst (.Bw v)/\h'=h
 | .Fe s dst=>∃v,IN h s=some (h',v)/\e=U.put dst (.val v)
 | .Ux s dst=>∃v u,Kq h s=some (h',v)/\AB .Ux [v]=some u/\e=U.put dst (.val u)
 | .mem o args dst=>∃v,E5 o h args=some (h',v)/\e=U.put dst (if o.aFa then .undef else .val v)
 | .L4 z ok m k dst=>∃v,TI h z ok m k=some v/\e=U.put dst (.val v)/\h'=h
def S1{n:Nat}{cs:List Aa}(h:cs.length=n):VR n cs=cs:=by
 subst h;apply QJ;intro i;simp only[VR,Cn,List.getD];by_cases hi:i<cs.length;.simp[List.getElem?_range hi,Ai hi]
 .simp[hi]
def YN{C:FZ}{run:IT->Ah->Option J1}{U:BW}{K:BW->IT}{h:Ah}{R:J1}{r:EO}
  (hr:IT.step (Cd C) run (r.L7 C U K) h=some R):∃i h',r.Nj C run U h i h'/\IT.step (Cd C) run (K i) h'=some R:=by
 cases r with
 |pure ws=>exact⟨_,_,⟨rfl,rfl⟩,hr⟩
 |op p args dst Bw e=>
  simp only[EO.L7,IT.step] at hr;split at hr;.rename_i v hv;exact⟨_,_,⟨v,hv,rfl,rfl⟩,hr⟩
  .cases hr
 |box n v d=>
  simp only[EO.L7,IT.step] at hr;split at hr;.rename_i hn;rw[S1 hn] at hr;exact⟨_,_,⟨hn,rfl,rfl⟩,hr⟩
  .cases hr
 |closure fn a b fz d=>exact⟨_,_,⟨rfl,rfl⟩,hr⟩
 |MY s off n v Bw e ver cells owned=>
  simp only[EO.L7,IT.step] at hr;split at hr;.rename_i hn;rw[S1 hn] at hr;exact⟨_,_,⟨hn,rfl,rfl⟩,hr⟩
  .cases hr
 |load n p dst=>
  simp only[EO.L7,IT.step] at hr;split at hr;.rename_i v hv;exact⟨_,_,⟨v,hv,rfl,rfl⟩,hr⟩
  .cases hr
 |store n p v=>
  simp only[EO.L7,IT.step] at hr;split at hr;.rename_i h1 hv;exact⟨_,_,⟨hv,rfl⟩,hr⟩
  .cases hr
 |alloc n v dst=>
  simp only[EO.L7,IT.step,VH] at hr;by_cases hn:v.cells.length=n;.rw[Ae hn] at hr;exact⟨_,_,⟨hn,rfl,rfl⟩,hr⟩
  .rw[Ac hn] at hr;cases hr
 |call f args dst=>
  simp only[EO.L7,IT.step] at hr;split at hr;.rename_i r h1 hv;exact⟨_,_,⟨r,hv,rfl⟩,hr⟩
  .cases hr
 |Es g args dst=>
  simp only[EO.L7,IT.step] at hr;split at hr
  .rename_i f a' ht;split at hr;.rename_i r h1 hv;exact⟨_,_,⟨f,a',r,ht,hv,rfl⟩,hr⟩
   .cases hr
  .cases hr
 |Bk f args dst=>
  simp only[EO.L7,IT.step] at hr;split at hr
  .rename_i Hn;split at hr
   .rename_i r h1 hv;split at hr;.rename_i az;exact⟨_,_,⟨Hn,r,h1,hv,az,rfl,rfl⟩,hr⟩
    .cases hr
   .cases hr
  .cases hr
 |Nf dst=>exact⟨_,_,⟨rfl,rfl⟩,hr⟩
 |HQ m k v=>
  simp only[EO.L7,IT.step] at hr;split at hr;.rename_i h1 hv;exact⟨_,_,⟨hv,rfl⟩,hr⟩
  .cases hr
 |L4 z ok m k dst=>
  simp only[EO.L7,IT.step] at hr;split at hr;.rename_i v hv;exact⟨_,_,⟨v,hv,rfl,rfl⟩,hr⟩
  .cases hr
 |make z b zero l c dst=>
  simp only[EO.L7,IT.step] at hr;split at hr;.rename_i h1 v hv;exact⟨_,_,⟨v,hv,rfl⟩,hr⟩
  .cases hr
 |HR z b s x dst e=>
  simp only[EO.L7,IT.step] at hr;split at hr;.rename_i h1 v hv;exact⟨_,_,⟨v,hv,rfl⟩,hr⟩
  .cases hr
 |FN z b s x dst=>
  simp only[EO.L7,IT.step] at hr;split at hr;.rename_i h1 v hv;exact⟨_,_,⟨v,hv,rfl⟩,hr⟩
  .cases hr
 |GA z b s x dst e=>
  simp only[EO.L7,IT.step] at hr;split at hr;.rename_i v hv;exact⟨_,_,⟨v,hv,rfl,rfl⟩,hr⟩
  .cases hr
 |Fe s dst=>
  simp only[EO.L7,IT.step] at hr;split at hr;.rename_i h1 v hv;exact⟨_,_,⟨v,hv,rfl⟩,hr⟩
  .cases hr
 |Ux s dst=>
  simp only[EO.L7,IT.step] at hr;split at hr
  .rename_i h1 v hv;split at hr;.rename_i u hu;exact⟨_,_,⟨v,u,hv,hu,rfl⟩,hr⟩
   .cases hr
  .cases hr
 |mem o args dst=>
  simp only[EO.L7,IT.step] at hr;split at hr;.rename_i h1 v hv;exact⟨_,_,⟨v,hv,rfl⟩,hr⟩
  .cases hr
structure Dc(C:FZ)(γ0:Gh)(w0:World)(γ:Gh)(β:Nat->Nat)(U:BW)(h:Ah)(a:Act)(w:World):Prop where
 D4:Hj γ h w
 fr:FR γ β w0.heap.size U a.tmps w
 DX:K6 γ0 w0 γ w
 defers:a.defers=[]
 GY:∀g cs,C.GY g=some cs->C4 γ cs g 0
def Ry{γ:Gh}{v:Value}{a:Aa}(h:OW v=some a):BU γ a v/\v.oneCell'=true:=by
 unfold OW at h;split at h;case h_7=>
  rename_i fn f c;split at h;.rename_i hs;cases h;have d:f=#[]:=F7 hs.1;have b:c=#[]:=F7 hs.2;subst d;subst b;exact⟨⟨#[],#[],rfl,rfl,rfl⟩,rfl⟩
  .cases h
 all_goals first
  |(cases h;exact⟨rfl,rfl⟩)
  |cases h
def M0{γ:Gh}:∀{vs:List Value} {as:List Aa},LW vs=some as->Bi γ as vs/\∀v∈vs,v.oneCell'=true
 |[],as,h=>by cases h;exact⟨rfl,AK⟩
 |v::vs,as,h=>by
  unfold LW at h;split at h;.rename_i a c h1 h2;cases h;obtain⟨p,q⟩:=Ry (γ:=γ) h1;obtain⟨p',b⟩:=M0 (γ:=γ) h2;exact⟨⟨v,vs,rfl,p,p'⟩,λx hx=>(AS.1 hx).elim (λe=>by rw[e];exact q) (b x)⟩
  .cases h
def Fu{γ:Gh}{v:Value}{a:Aa}(h:KQ v=some a):BU γ a v:=by
 unfold KQ at h;split at h
 .rename_i cs;cases hs:LW cs.toList with
  |none=>rw[hs] at h;cases h
  |some as=>rw[hs] at h;cases h;obtain⟨p,q⟩:=M0 (γ:=γ) hs;exact⟨cs,rfl,p,q⟩
 .exact(Ry h).1
section
variable{C:FZ}{γ0 γ:Gh}{w0 w:World}{β:Nat->Nat}{U:BW}{h:Ah}{a:Act}
def QR(hr:Dc C γ0 w0 γ β U h a w){x:Operand}{sl:Er}(hx:Ed C U x=some sl)(hn:∀s,x≠ .tmp s):∃s,Lu γ β w0.heap.size w s sl (a.eval x):=by
 unfold Ed at hx;split at hx;.exact absurd rfl (hn _)
 .cases hx;exact⟨0,rfl⟩
 .cases hx;exact⟨0,rfl,.inl (.inl rfl)⟩
 .rename_i v _ _;cases hc:KQ v with
  |none=>rw[hc] at hx;cases hx
  |some u=>rw[hc] at hx;cases hx;exact⟨0,Fu hc⟩
 .rename_i g;cases hc:C.GY g with
  |none=>rw[hc] at hx;cases hx
  |some cs=>rw[hc] at hx;cases hx;exact⟨0,g,0,rfl,hr.GY g cs hc⟩
 .cases hx;exact⟨0,#[],#[],rfl,rfl,rfl⟩
def Rz(hr:Dc C γ0 w0 γ β U h a w)(s:Nat):Lu γ β w0.heap.size w s (U.at s) (a.eval (.tmp s)):=hr.fr.Ij s
def Gp(hr:Dc C γ0 w0 γ β U h a w){x:Operand}{sl:Er}(hx:Ed C U x=some sl):∃s,Lu γ β w0.heap.size w s sl (a.eval x)/\∀t,x= .tmp t->s=t:=by
 cases x with
 |tmp t=>cases hx;exact⟨t,Rz hr t,λ_ h=>by cases h;rfl⟩
 |const v=>obtain⟨s,h1⟩:=QR hr hx (by intro s h;cases h);exact⟨s,h1,λ_ h=>by cases h⟩
 |global g=>obtain⟨s,h1⟩:=QR hr hx (by intro s h;cases h);exact⟨s,h1,λ_ h=>by cases h⟩
 |func f=>obtain⟨s,h1⟩:=QR hr hx (by intro s h;cases h);exact⟨s,h1,λ_ h=>by cases h⟩
def Nk{B s:Nat}{sl:Er}{v:Value}{u:Aa}(hs:Lu γ β B w s sl v)(hv:sl.Ho=some u):BU γ u v:=by
 cases sl<;>simp[Er.Ho] at hv;.subst hv;exact hs
 .subst hv;exact hs
 .subst hv;exact hs.1
def GJ(hr:Dc C γ0 w0 γ β U h a w){x:Operand}{u:Aa}(hx:E6 C U x=some u):BU γ u (a.eval x):=by
 unfold E6 at hx;cases hs:Ed C U x with
 |none=>rw[hs] at hx;cases hx
 |some sl=>rw[hs] at hx;obtain⟨s,h1,_⟩:=Gp hr hs;exact Nk h1 hx
def DY(hr:Dc C γ0 w0 γ β U h a w):∀{xs:List Operand} {us:List Aa},BC C U xs=some us->Bi γ us (xs.map a.eval)
 |[],us,hx=>by cases hx;rfl
 |x::xs,us,hx=>by
  unfold BC at hx;split at hx;.rename_i u DM h1 h2;cases hx;exact⟨_,_,rfl,GJ hr h1,DY hr h2⟩
  .cases hx
def FR.put{B:Nat}{tmps:Array Value}(hf:FR γ β B U tmps w){d:Nat}{x:Er}{v:Value}(hx:Lu γ β B w d x v):FR γ β B (U.set d x) (tmps.setIfInBounds d v) w:=by
 refine⟨by simp[hf.size],λs=>?_⟩;have hs:=hf.Ij s;by_cases he:s=d
 .subst he;by_cases hl:s<U.length
  .have b:s<tmps.size:=by rw[<-hf.size];exact hl
   simpa[BW.at,List.getD,hl,b,Array.getD] using hx
  .have b:¬s<tmps.size:=by rw[<-hf.size];exact hl
   simpa[BW.at,List.getD,hl,b,Array.getD] using hs
 .have h1:BW.at (U.set d x) s=U.at s:=by simp[BW.at,List.getD,Ao (λe=>he e.symm)]
  have h2:(tmps.setIfInBounds d v).getD s undef=tmps.getD s undef:=by simp[Hg,jV (λe=>he e.symm)]
  rw[h1,h2];exact hs
def FR.eB{B:Nat}{tmps:Array Value}(hf:FR γ β B U tmps w){d:Nat}{x:Er}(hx:Lu γ β B w d x (tmps.getD d undef)):FR γ β B (U.set d x) tmps w:=by
 refine⟨by simp[hf.size],λs=>?_⟩;have hs:=hf.Ij s;by_cases he:s=d
 .subst he;by_cases hl:s<U.length;.simpa[BW.at,List.getD,hl] using hx
  .simpa[BW.at,List.getD,hl] using hs
 .have h1:BW.at (U.set d x) s=U.at s:=by simp[BW.at,List.getD,Ao (λe=>he e.symm)]
  rw[h1];exact hs
def Dc.put(hr:Dc C γ0 w0 γ β U h a w){d:Option Nat}{x:Er}{v:Value}(hx:∀s,d=some s->Lu γ β w0.heap.size w s x v):Dc C γ0 w0 γ β (U.put d x) h (a.put d v) w:=by
 cases d with
 |none=>exact hr
 |some d=>exact⟨hr.D4,hr.fr.put (hx d rfl),hr.DX,hr.defers,hr.GY⟩
def Dc.eB(hr:Dc C γ0 w0 γ β U h a w){d:Nat}{x:Er}(hx:Lu γ β w0.heap.size w d x (a.tmps.getD d undef)):Dc C γ0 w0 γ β (U.set d x) h a w:=
 ⟨hr.D4,hr.fr.eB hx,hr.DX,hr.defers,hr.GY⟩
def Dc.drop(hr:Dc C γ0 w0 γ β U h a w)(ds:List Nat):Dc C γ0 w0 γ β (U.drop ds) h a w:=by
 cases ds with
 |nil=>exact hr
 |cons d ds=>
  refine⟨hr.D4,⟨by simp[BW.drop,hr.fr.size],λs=>?_⟩,hr.DX,hr.defers,hr.GY⟩;have hs:=hr.fr.Ij s;have e:(BW.drop U (d::ds)).at s=match U.at s with| .Fl t o=>if(d::ds).contains t then .undef else .Fl t o|x=>x:=by
   simp only[BW.drop,BW.at,List.getD,Cn];cases hg:U[s]? with
   |none=>rfl
   |some x=>cases x<;>rfl
  rw[e];cases hx:U.at s with
  |Fl t o=>
   rw[hx] at hs;simp only
   split;.trivial
   .exact hs
  |_=>rw[hx] at hs;exact hs
def Dc.I5(hr:Dc C γ0 w0 γ β U h a w){γ':Gh}{h':Ah}{w':World}(hi:Hj γ' h' w')(ha:K6 γ w γ' w'):Dc C γ0 w0 γ' β U h' a w':=
 ⟨hi,hr.fr.kept (wU.Ų hr.D4 ha),hr.DX.trans ha,hr.defers,λg cs hg=>C4.mono ha.le _ _ _ (hr.GY g cs hg)⟩
def Jk{P:Program}{o:Oper}{v:Value}{w':World}{next:Act->World->Prop}{Q:Exit->Act->World->Prop}(he:(execOp a.eval o).run P w= .ok (.value v) w')(hn:next (a.put o.dst v) w'):o.wp P a w next Q:=by unfold Oper.wp;rw[he];exact hn
def kG{P:Program}{o:Oper}{w':World}{next:Act->World->Prop}{Q:Exit->Act->World->Prop}(he:(execOp a.eval o).run P w= .ok .skip w')(hn:next (a.put o.dst undef) w'):o.wp P a w next Q:=by unfold Oper.wp;rw[he];exact hn
end
end Go.Am
end
section
namespace Go.Am
def Gh.FQ(γ:Gh)(g:Nat)(x:Kx):Gh:={γ with Bw:=λb=>if b=g then some x else γ.Bw b}
section
variable{C:FZ}{γ0 γ:Gh}{w0 w:World}{β:Nat->Nat}{U:BW}{h:Ah}{a:Act}
def Hp(γ:Gh)(g:Nat)(x:Kx):γ.le (γ.FQ g x):=⟨λ_ _ _ h=>h,λ_ _ h=>h,λ_ _ h=>h⟩
def Hj.FQ(hi:Hj γ h w){g s s' st:Nat}{c c':Option Nat}(hg:γ.Bw g=some (.tail s c st)):Hj (γ.FQ g (.tail s' c' st)) h w:=by
 refine⟨λb o v hb=>?_,λid y Ik hy=>?_,λid cs hc b hb=>?_,λid es hc b hb=>?_,hi.mu,λb x hx=>?_,λb n hb=>?_⟩;rotate_left 5
 .obtain⟨p,r⟩:=hi.sz b n hb;have:b≠g:=λhe=>by subst he;rw[hg] at r;rcases r with r|⟨_,r⟩<;>cases r
  exact⟨p,by simp only[Gh.FQ,Ac this];exact r⟩
 .obtain⟨p,q,r⟩:=hi.Io b o v hb;refine⟨p,q,?_⟩;by_cases he:b=g
  .subst he;rw[hg] at r;rcases r with r|⟨_,_,_,r,hl⟩
   .cases r
   .cases r;exact .inr ⟨s',c',st,by simp[Gh.FQ],hl⟩
  .simpa only[Gh.FQ,Ac he] using r
 .obtain⟨b,p,q⟩:=hi.L8 id y Ik hy;have:b≠g:=λhe=>by subst he;rw[hg] at q;cases q
  exact⟨b,p,by simp only[Gh.FQ,Ac this];exact q⟩
 .obtain⟨us,e,fr,p,pf,q,r⟩:=hi.cells id cs hc b hb;exact⟨us,e,fr,p,pf,Bi.mono (Hp γ g _) _ _ q,r⟩
 .obtain⟨us,e,p,q⟩:=hi.map id es hc b hb;exact⟨us,e,p,q.mono (Hp γ g _)⟩
 .by_cases he:b=g;.subst he;exact hi.Bw b _ hg
  .simp only[Gh.FQ,Ac he] at hx;exact hi.Bw b x hx
def IQ.FQ{B:Nat}{s b st:Nat}{c f:Option Nat}{v:Value}{u:Aa}{x:Kx}{g:Nat}(hg:γ.Bw g=some (.tail s c st))(ho:IQ γ B w b f v u)(hne:b≠s\/f≠c):IQ (γ.FQ g x) B w b f v u:=by
 rcases ho with ho|⟨g2,n,cap,us,e,z,Az,h1,h2,d,i⟩
 .exact .inl ho
 .have:g2≠g:=λhe=>by subst he;rw[hg] at d;cases d;rcases hne with hne|hne<;>exact hne rfl
  exact .inr ⟨g2,n,cap,us,e,z,Az,h1,h2,by simp only[Gh.FQ,Ac this];exact d,i⟩
def FR.FQ{B:Nat}{tmps:Array Value}(hf:FR γ β B U tmps w){g s st:Nat}{c:Option Nat}{x:Kx}(hg:γ.Bw g=some (.tail s c st))
  (h1:c=none->∀v,U.at s≠ .Bw v) (h2:∀o,c=some o->∀ver cs ow,U.at s= .box ver cs ow->o∉ow):FR (γ.FQ g x) β B U tmps w:=by
 refine⟨hf.size,λd=>?_⟩;have hs:=hf.Ij d;cases hx:U.at d with
 |undef=>trivial
 |skip=>rw[hx] at hs;exact hs
 |val u=>rw[hx] at hs;exact BU.mono (Hp γ g x) _ _ hs
 |OM b=>rw[hx] at hs;exact hs
 |Bw u=>
  rw[hx] at hs;refine⟨BU.mono (Hp γ g x) _ _ hs.1,hs.2.FQ hg ?_⟩;by_cases he:d=s
  .subst he;cases c with
   |none=>exact absurd hx (h1 rfl u)
   |some o=>exact .inr AK
  .exact .inl he
 |box ver cs ow=>
  rw[hx] at hs;obtain⟨r,f,q,us,e,p,n,m,l⟩:=hs;have hb:β d≠g:=λhe=>by rw[he,hg] at f;cases f
  refine⟨r,by simp only[Gh.FQ,Ac hb];exact f,q,us,e,p,Bi.mono (Hp γ g x) _ _ n,m,λo ho=>?_⟩;obtain⟨u,v,k,j,i⟩:=l o ho;refine⟨u,v,k,j,i.FQ hg ?_⟩;by_cases he:d=s
  .subst he;cases c with
   |none=>exact .inr AK
   |some o'=>refine .inr λhe=>?_;cases he;exact h2 o rfl ver cs ow hx ho
  .exact .inl he
 |Fl s' o=>rw[hx] at hs;exact hs
def Dc.FQ(hr:Dc C γ0 w0 γ β U h a w){g s st s':Nat}{c c':Option Nat}(hg:γ.Bw g=some (.tail s c st))(hB:w0.heap.size<=g)
  (h1:c=none->∀v,U.at s≠ .Bw v) (h2:∀o,c=some o->∀ver cs ow,U.at s= .box ver cs ow->o∉ow):Dc C γ0 w0 (γ.FQ g (.tail s' c' st)) β U h a w:=by
 refine⟨hr.D4.FQ hg,hr.fr.FQ hg h1 h2,?_,hr.defers,λx cs hx=>C4.mono (Hp γ g _) _ _ _ (hr.GY x cs hx)⟩;refine⟨hr.DX.le.trans (Hp γ g _),hr.DX.size,hr.DX.os,hr.DX.tape,hr.DX.output,λb hb hn=>?_⟩;.obtain⟨p,q⟩:=hr.DX.NX b hb hn;exact⟨p,by simp only[Gh.FQ,Ac (Ab:b≠g)];exact q⟩
def BW.Fv{s:Nat}{x:Er}(hs:s<U.length):BW.at (U.set s x) s=x:=by simp[BW.at,List.getD,hs]
def BW.Gc{s t:Nat}{x:Er}(hs:s≠t):BW.at (U.set s x) t=U.at t:=by simp[BW.at,List.getD,Ao hs]
def BW.O2{s:Nat}(hs:U.at s≠ .undef):s<U.length:=by
 rcases AO s U.length with h|h
 .exact h
 .exact absurd (by simp[BW.at,List.getD,D9 h]) hs
def Dc.take(hr:Dc C γ0 w0 γ β U h a w){s:Nat}{v:Aa}(hs:U.at s= .Bw v)(s':Nat)(c':Option Nat):
  ∃γ',γ.le γ'/\Dc C γ0 w0 γ' β (U.set s (.val v)) h a w/\BU γ' v (a.tmps.getD s undef)/\IQ γ' w0.heap.size w s' c' (a.tmps.getD s undef) v:=by
 have h0:=hr.fr.Ij s;rw[hs] at h0;obtain⟨hv,ho⟩:=h0;have Ko:Dc C γ0 w0 γ β (U.set s (.val v)) h a w:=hr.eB hv;have hl:s<U.length:=BW.O2 (by rw[hs];simp);rcases ho with ho|⟨g,n,cap,us,e,z,Az,h1,h2,d,b,c⟩
 .exact⟨γ,.refl _,Ko,hv,.inl ho⟩
 .refine⟨γ.FQ g (.tail s' c' (n*z)),Hp _ _ _,Ko.FQ d b (λ_ u=>?_) (λo ho=>by cases ho),BU.mono (Hp _ _ _) _ _ hv,.inr ⟨g,n,cap,us,e,z,Az,h1,h2,by simp[Gh.FQ],b,c⟩⟩;rw[BW.Fv hl];simp
def ZU{B s d:Nat}{sl b:Er}{v:Value}(hs:Lu γ β B w s sl v)(hc:Iv sl=some b):Lu γ β B w d b v:=by
 cases sl<;>simp[Iv] at hc;.subst hc;exact hs
 .subst hc;exact hs
 .subst hc;exact hs.1
 .subst hc;exact hs
def NZ{ws:List (Nat×Er)}(h:∀p∈ws,∀cs ow,p.2≠ .box 0 cs ow):(EO.pure ws).news=[]:=by
 simp only[EO.news,List.filterMap_eq_nil_iff];rintro⟨s,x⟩ hp;have:=h _ hp;cases x with
 |box ver cs ow=>
  cases ver with
  |zero=>exact absurd rfl (this cs ow)
  |succ n=>rfl
 |_=>rfl
def RC{v:Value}{sl:Er}(hs:Ed C U (.const v)=some sl):(∀B d,Lu γ β B w d sl v)/\∀ver cs ow,sl≠ .box ver cs ow:=by
 unfold Ed at hs;split at hs;.rename_i Kp;cases Kp
 .rename_i Kp;cases Kp;cases hs;exact⟨λ_ _=>rfl,λ_ _ _ h=>by cases h⟩
 .rename_i Kp;cases Kp;cases hs;exact⟨λ_ _=>⟨rfl,.inl (.inl rfl)⟩,λ_ _ _ h=>by cases h⟩
 .rename_i Kp;cases Kp;cases hc:KQ v with
  |none=>rw[hc] at hs;cases hs
  |some u=>rw[hc] at hs;cases hs;exact⟨λ_ _=>Fu hc,λ_ _ _ h=>by cases h⟩
 .rename_i Kp;cases Kp
 .rename_i Kp;cases Kp
def Hb{s:Nat}{sl:Er}(hs:Ed C U (.tmp s)=some sl):U.at s=sl:=D3 hs
def kH{x:Operand}{v:Aa}(hs:Ed C U x=some (.Bw v))(hn:∀c,x≠ .const c):∃s,x= .tmp s/\U.at s= .Bw v:=by
 cases x with
 |tmp s=>exact⟨s,rfl,Hb hs⟩
 |const c=>exact absurd rfl (hn c)
 |global g=>have Vh:(C.GY g).map (λcs=>Er.val (Aa.Cq cs))=some (.Bw v):=hs;cases hc:C.GY g<;>rw[hc] at Vh<;>cases Vh
 |func f=>cases hs
def RD{x:Operand}{d:Nat}{take:Bool}{r:EO}{run:IT->Ah->Option J1}{e:BW}{h':Ah}(hm:KC C U x d take=some r)(hd:r.Nj C run (U.drop r.news) h e h')
  (hr:Dc C γ0 w0 γ β U h a w):∃γ',Dc C γ0 w0 γ' β e h' (a.put (some d) (a.eval x)) w:=by
 unfold KC at hm;split at hm;.rename_i s _ _ _ hs;cases hm;rw[NZ AK] at hd;obtain⟨rfl,rfl⟩:=hd;refine⟨γ,hr.put (d:=some d) λt ht=>?_⟩;have h0:=Rz hr s;rw[Hb hs] at h0;exact h0.1
 .rename_i v sl hs;cases hm;obtain⟨p,q⟩:=RC (γ:=γ) (β:=β) (w:=w) hs;rw[NZ (by simpa using λcs ow=>q 0 cs ow)] at hd;obtain⟨rfl,rfl⟩:=hd;exact⟨γ,hr.put (d:=some d) λt _=>p _ t⟩
 .rename_i v hnc hs;split at hm;.cases hm;obtain⟨s,rfl,Ģ⟩:=kH hs (λc hc=>hnc c hc);rw[NZ (by simp[Rs])] at hd;obtain⟨rfl,rfl⟩:=hd;obtain⟨γ',En,F0,DG,qj⟩:=hr.take Ģ d none;exact⟨γ',F0.put (d:=some d) λt ht=>by cases ht;exact⟨DG,qj⟩⟩
  .simp only[Iv,Cc] at hm;cases hm;rw[NZ AK] at hd;obtain⟨rfl,rfl⟩:=hd;obtain⟨s,h1,_⟩:=Gp hr hs;exact⟨γ,hr.put (d:=some d) λt ht=>h1.1⟩
 .rename_i sl _ _ _ hs;cases hc:Iv sl with
  |none=>rw[hc] at hm;cases hm
  |some b=>
   rw[hc] at hm;cases hm;have pO:∀cs ow,b≠ .box 0 cs ow:=by intro cs ow he;subst he;cases sl<;>simp[Iv] at hc
   rw[NZ (by simpa using pO)] at hd;obtain⟨rfl,rfl⟩:=hd;obtain⟨s,h1,_⟩:=Gp hr hs;exact⟨γ,hr.put (d:=some d) λt ht=>ZU h1 hc⟩
 .cases hm
end
end Go.Am
end
section
namespace Go.Am
open Go
def VZ{s:Sem Value}{v:Value}(h:PK s=some v):s= .pure v:=by cases s<;>simp[PK] at h;subst h;rfl
section
variable{P:Program}{γ:Gh}{w:World}
def eC{op:BinOp}{k l:IntKind}{x y:Int}{u:Aa}(t:TypeId)(c b:Operand)(h:oY op k x l y=some u):
  ∃v,(do eqGuard op t c b (.int k x) (.int l y);binOp op t (.int k x) (.int l y):Sem Value).run P w= .ok v w/\BU γ u v:=by
 unfold oY at h;cases hs:PK (binOp op 0 (.int k x) (.int l y)) with
 |none=>rw[hs] at h;cases h
 |some v=>
  rw[hs] at h;have f:=VZ hs;have e:binOp op t (.int k x) (.int l y)= .pure v:=by rw[<-f];cases op<;>rfl
  have d:eqGuard op t c b (.int k x) (.int l y)=pure ():=by cases op<;>rfl
  refine⟨v,by rw[d,e];rfl,?_⟩;simp only[Cv] at h;split at h<;>cases h<;>rfl
def ZV(l:List UInt8):(ByteArray.mk ⟨l⟩).toList=l:=ByteArray.toList_mk l
def eD{op:BinOp}{x y:Aq}{u:Aa}(t:TypeId)(d c:Operand)(h:dW op x y=some u):
  ∃v,(do eqGuard op t d c (.string ⟨⟨x⟩⟩) (.string ⟨⟨y⟩⟩);binOp op t (.string ⟨⟨x⟩⟩) (.string ⟨⟨y⟩⟩):Sem Value).run P w= .ok v w/\BU γ u v:=by
 have e:eqGuard op t d c (.string ⟨⟨x⟩⟩) (.string ⟨⟨y⟩⟩)=pure ():=by cases op<;>rfl
 have b:binOp op t (.string ⟨⟨x⟩⟩) (.string ⟨⟨y⟩⟩)=Op.stringOp op ⟨⟨x⟩⟩ ⟨⟨y⟩⟩:=by cases op<;>rfl
 rw[e,b];unfold dW at h;cases op<;>simp only at h<;>first
  |cases h;done
  |(simp only[Op.stringOp,ZV];cases h;exact⟨_,rfl,rfl⟩)
  | (split at h
     . rename_i En
       cases h
       have hc : ¬ ((((ByteArray.mk ⟨x⟩).size + (ByteArray.mk ⟨y⟩).size : Nat) : Int) > IntKind.i64.max) := by
         have f : (ByteArray.mk ⟨x⟩).size = x.length := rfl
         have b : (ByteArray.mk ⟨y⟩).size = y.length := rfl
         rw [f, b]
         have : IntKind.i64.max = 9223372036854775807 := A5
         rw [this]
         omega
       simp only [Op.stringOp, Ac hc]
       refine ⟨_, rfl, ?_⟩
       show Value.string _ = Value.string _
       first
         | (congr 1; done)
         | (congr 1; apply ByteArray.ext; simp)
     . cases h)
def kI{t:TypeId}(h:Fs P t=some none):(isAgg t).run P w= .ok false w:=by
 unfold Fs at h;split at h;.cases hs:B6 P t<;>rw[hs] at h<;>cases h
 .cases hs:B6 P t<;>rw[hs] at h<;>cases h
 .rename_i d h1 h2 hu;simp only[isAgg,Sem.run_bind,run_underlying hu,Result.andThen_ok];rfl
 .cases h
def QS{t:TypeId}{n:Nat}(h:Fs P t=some (some n)):(isAgg t).run P w= .ok true w/\B6 P t=some n:=by
 unfold Fs at h;split at h
 .rename_i fs hu;cases hs:B6 P t with
  |none=>rw[hs] at h;cases h
  |some m=>rw[hs] at h;cases h;exact⟨by simp[isAgg,run_underlying hu],rfl⟩
 .rename_i fs _ hu;cases hs:B6 P t with
  |none=>rw[hs] at h;cases h
  |some m=>rw[hs] at h;cases h;exact⟨by simp[isAgg,run_underlying hu],rfl⟩
 .cases h
 .cases h
def DQ{t:TypeId}{n:Nat}(h:B6 P t=some n):(sizeOf t).run P w= .ok n w:=by
 unfold B6 at h;cases hi:P.info? t with
 |none=>rw[hi] at h;cases h
 |some i=>rw[hi] at h;cases h;simp[sizeOf,typeInfo,hi]
def eE{t:TypeId}{sh:Option Nat}{cs:List Aa}{us:Array Value}{off:Nat}{u:Aa}(jM:Fs P t=some sh)(hr:Bi γ cs us.toList)(h1:∀v∈us.toList,v.oneCell'=true)
  (hp:Ft cs off sh=some u):∃v,(part t us off).run P w= .ok v w/\BU γ u v:=by
 cases sh with
 |none=>
  replace hp:cs[off]?=some u:=hp;obtain⟨v,hv,hrel⟩:=hr.get hp;refine⟨v,?_,hrel⟩;have DG:us[off]?=some v:=by simpa using hv
  simp[part,kI jM,DG]
 |some n=>
  obtain⟨ha,hs⟩:=QS (w:=w) jM;replace hp:(if off+n<=cs.length then some (Aa.agg ((cs.drop off).take n)) else none)=some u:=hp;split at hp
  .cases hp;refine⟨.agg (us.extract off (off+n)),by simp[part,ha,DQ hs],us.extract off (off+n),rfl,?_,?_⟩;.have:=(hr.drop off).take n;simpa[NQ,HL] using this
   .intro v hv;refine h1 v ?_;rw[NQ,HL] at hv;exact BG (Bn hv)
  .cases hp
end
end Go.Am
end
section
namespace Go.Am
open Go
def dj{x y:Aa}{b:Bool}(h:Lr .b x y=some b):∃p q,x= .bool p/\y= .bool q/\(p==q)=b:=by unfold Lr at h;split at h<;>first|cases h;done|(rename_i he;cases he;done)|(cases h;exact⟨_,_,rfl,rfl,rfl⟩)
def dk{x y:Aa}{b:Bool}(h:Lr .i x y=some b):∃k p q,x= .int k p/\y= .int k q/\(p==q)=b:=by
 unfold Lr at h;split at h;.rename_i he;cases he
 .split at h;.rename_i hk;subst hk;cases h;exact⟨_,_,_,rfl,rfl,rfl⟩
  .cases h
 .rename_i he;cases he
 .cases h
def dr{x y:Aa}{b:Bool}(h:Lr .s x y=some b):∃p q,x= .str p/\y= .str q/\(p==q)=b:=by
 unfold Lr at h;split at h;.rename_i he;cases he
 .rename_i he;cases he
 .cases h;exact⟨_,_,rfl,rfl,rfl⟩
 .cases h
def O3:∀{ks ŵ:List FK} {xs ys:List Aa} {b:Bool},D6 (ks++ŵ) xs ys=some b->
  ∃b1 b2,D6 ks (xs.take ks.length) (ys.take ks.length)=some b1/\D6 ŵ (xs.drop ks.length) (ys.drop ks.length)=some b2/\b=(b1&&b2)
 |[],ŵ,xs,ys,b,h=>⟨true,b,by simp[D6],by simpa using h,AK⟩
 |k::ks,ŵ,[],ys,b,h=>by cases ys<;>simp[D6] at h
 |k::ks,ŵ,x::xs,[],b,h=>by simp[D6] at h
 |k::ks,ŵ,x::xs,y::ys,b,h=>by
  simp only[CK,D6] at h;split at h;.rename_i e es h1 h2;cases h;obtain⟨b1,b2,p,q,r⟩:=O3 h2;refine⟨e&&b1,b2,?_,by simpa using q,by rw[r,Bool.and_assoc]⟩;simp only[Be,YF,D6,h1,p]
  .cases h
def O4:∀{ks:List FK} {xs ys:List Aa} {b:Bool},D6 ks xs ys=some b->xs.length=ks.length/\ys.length=ks.length
 |[],xs,ys,b,h=>by cases xs<;>cases ys<;>simp[D6] at h⊢
 |k::ks,xs,ys,b,h=>by
  cases xs<;>cases ys<;>simp[D6] at h;split at h;.rename_i h1 h2;obtain⟨p,q⟩:=O4 h2;simp[p,q]
  .cases h
section
variable{P:Program}{γ:Gh}{w:World}
def YO:∀{d:Nat} {t:TypeId} {ks:List FK},OZ P d t=some ks->B6 P t=some ks.length
 |0,t,ks,h=>by cases h
 |d+1,t,ks,h=>by
  simp only[OZ] at h;split at h;.split at h<;>cases h;assumption
  .split at h<;>cases h;assumption
  .split at h<;>cases h;assumption
  .split at h
   .split at h;.rename_i hc;cases h;exact hc.1
    .cases h
   .cases h
  .cases h
def kJ{ks:List FK}{k:FK}{t:TypeId}(h:(if B6 P t=some 1 then some [k] else none)=some ks):ks=[k]:=by split at h<;>cases h;rfl
def GK{t:TypeId}{us:Array Value}{off:Nat}{v:Value}{d:TypeDesc}(hu:P.underlying t=some d)(h1:∀fs,d≠ .struct fs)(h2:∀n e,d≠ .array n e)(hv:us[off]?=some v):
  (part t us off).run P w= .ok v w:=by
 have ha:(isAgg t).run P w= .ok false w:=by simp only[isAgg,Sem.run_bind,run_underlying hu,Result.andThen_ok];cases d<;>first|rfl|exact absurd rfl (h1 _)|exact absurd rfl (h2 _ _)
 simp[part,ha,hv]
def JO{l:List Aa}{off:Nat}{x:Aa}(h:(l.drop off).take 1=[x]):l[off]?=some x:=by have:=Ce (·[0]?) h;simpa using this
def V0{k:FK}{xs ys:List Aa}{b:Bool}(h:D6 [k] xs ys=some b):∃x y,xs=[x]/\ys=[y]/\Lr k x y=some b:=by
 cases xs<;>cases ys<;>simp[D6] at h;rename_i x xs y ys;cases xs<;>cases ys<;>simp[D6] at h;all_goals first
  | (split at h
     . rename_i e es h1 h2; cases h2; cases h; exact ⟨x, y, rfl, rfl, by simpa using h1⟩
     . cases h)
  |(split at h<;>simp_all)
mutual
def eF:∀{d D:Nat},d<=D->∀{t:TypeId} {ks:List FK},OZ P d t=some ks->∀(us vs:Array Value) (cs ds:List Aa) (off:Nat) (b:Bool),Bi γ cs us.toList->Bi γ ds vs.toList->
  D6 ks ((cs.drop off).take ks.length) ((ds.drop off).take ks.length)=some b->
  ∃x y,(part t us off).run P w= .ok x w/\(part t vs off).run P w= .ok y w/\(Op.equalIn D t x y).run P w= .ok b w
 |0,_,_,_,_,h=>by cases h
 |d+1,0,hd,_,_,_=>Ab
 |d+1,D+1,hd,t,ks,h=>by
  intro us vs cs ds off b hu hv he;have KR:=YO h;simp only[OZ] at h;split at h;.rename_i YP;have:=kJ h;subst this;obtain⟨x,y,m,l,k⟩:=V0 he;obtain⟨x',i,g⟩:=hu.get (JO m);obtain⟨c,f,e⟩:=hv.get (JO l);refine⟨x',c,GK YP AK AK (by simpa using i),GK YP AK AK (by simpa using f),?_⟩;obtain⟨o,n,rfl,rfl,j⟩:=dj k;rw[g,e,run_equalIn_bool' w D t _ _ YP,<-j]
  .rename_i kk YP;have:=kJ h;subst this;obtain⟨x,y,m,l,k⟩:=V0 he;obtain⟨x',i,g⟩:=hu.get (JO m);obtain⟨c,f,e⟩:=hv.get (JO l);refine⟨x',c,GK YP AK AK (by simpa using i),GK YP AK AK (by simpa using f),?_⟩;obtain⟨p,o,n,rfl,rfl,j⟩:=dk k;rw[g,e,run_equalIn_int w D t _ _ _ _ YP,<-j]
  .rename_i YP;have:=kJ h;subst this;obtain⟨x,y,m,l,k⟩:=V0 he;obtain⟨x',i,g⟩:=hu.get (JO m);obtain⟨c,f,e⟩:=hv.get (JO l);refine⟨x',c,GK YP AK AK (by simpa using i),GK YP AK AK (by simpa using f),?_⟩;obtain⟨o,n,rfl,rfl,j⟩:=dr k;rw[g,e,run_equalIn_string w D t _ _ YP,ZV,ZV,<-j]
  .rename_i fs YP;split at h
   .rename_i ŵ Hh;split at h
    .rename_i hc;cases h;have jM:Fs P t=some (some ks.length):=by simp[Fs,YP,KR]
     obtain⟨ha,hs⟩:=QS (w:=w) jM;refine⟨.agg (us.extract off (off+ks.length)),.agg (vs.extract off (off+ks.length)),by simp[part,ha,DQ hs],by simp[part,ha,DQ hs],?_⟩;have aL7:P.underlying t=some (.struct (P.fieldsOf t)):=by simp[Program.fieldsOf,YP]
     rw[run_equalIn_struct w D t _ _ aL7 hc.2];have hf:(P.fieldsOf t).toList=fs.toList:=by simp[Program.fieldsOf,YP]
     rw[hf];have pP:Bi γ ((cs.drop off).take ks.length) (us.extract off (off+ks.length)).toList:=by have:=(hu.drop off).take ks.length;simpa[NQ,HL] using this
     have DG:Bi γ ((ds.drop off).take ks.length) (vs.extract off (off+ks.length)).toList:=by have:=(hv.drop off).take ks.length;simpa[NQ,HL] using this
     refine YQ (Nat.le_of_succ_le_succ hd) fs.toList Hh _ _ _ _ _ pP DG ?_;simpa using he
    .cases h
   .cases h
  .cases h
def YQ:∀{d D:Nat},d<=D->∀(fs:List Field) {off:Nat} {ks:List FK},VO (OZ P d) fs off=some ks->∀(us vs:Array Value) (cs ds:List Aa) (b:Bool),Bi γ cs us.toList->Bi γ ds vs.toList->
  D6 ks (cs.drop off) (ds.drop off)=some b->(Op.eqFields D us vs fs).run P w= .ok b w
 |d,D,hd,[],off,ks,h=>by
  intro us vs cs ds b hu hv he;cases h;have:b=true:=by cases h1:cs.drop off<;>cases h2:ds.drop off<;>rw[h1,h2] at he<;>simp[D6] at he;exact he
  subst this;rfl
 |d,D,hd,f::fs,off,ks,h=>by
  intro us vs cs ds b hu hv he;simp only[VO] at h;split at h
  .rename_i hc;obtain⟨hn,aFh⟩:=hc;split at h
   .rename_i c Yb;cases hr:VO (OZ P d) fs (off+c.length) with
    |none=>rw[hr] at h;cases h
    |some j=>
     rw[hr] at h;cases h;obtain⟨b1,b2,l,k,rfl⟩:=O3 he;obtain⟨x,y,i,g,e⟩:=eF hd Yb _ _ _ _ _ _ hu hv l;simp only[Op.eqFields,hn,Ca,Aw,BT,aFh,Sem.run_bind,i,g,e,Result.andThen_ok];cases b1;.rfl
     .simp only[Rh,Cy,Eb,Bool.true_and];exact YQ hd fs hr _ _ _ _ _ hu hv (by simpa[Ei] using k)
   .cases h
  .cases h
end
def eH{op:BinOp}{t:TypeId}{d c:Operand}{neg:Bool}{ks:List FK}{a b:List Aa}{x y:Value}{u:Aa}(NS:(op= .eql/\neg=false)\/(op= .neq/\neg=true))
  (hg:P.eqGuardType P.depth t=false) (hk:OZ P 20 t=some ks) (HT:∃fs,P.underlying t=some (.struct fs)) (hx:BU γ (.agg a) x) (hy:BU γ (.agg b) y) (h:(D6 ks a b).map (λe=>Aa.bool (e != neg))=some u):
  ∃v,(do eqGuard op t d c x y;binOp op t x y:Sem Value).run P w= .ok v w/\BU γ u v:=by
 obtain⟨us,rfl,hu,_⟩:=hx;obtain⟨vs,rfl,hv,_⟩:=hy;cases he:D6 ks a b with
 |none=>rw[he] at h;cases h
 |some e=>
  rw[he] at h;cases h;obtain⟨l1,m⟩:=O4 he;obtain⟨x',j,i,g,f⟩:=eF (w:=w) (P:=P) (γ:=γ) (D:=10000) (Ab:20<=10000) hk us vs a b 0 e hu hv (by rw[Mt,Mt,AD (Mu l1),AD (Mu m)];exact he);obtain⟨fs,Hh⟩:=HT;have jM:Fs P t=some (some ks.length):=by simp[Fs,Hh,YO hk]
  obtain⟨ha,hs⟩:=QS (w:=w) jM;have o:us.extract 0 ks.length=us:=by
   have:us.size=ks.length:=by have:=hu.length;simp at this;omega
   rw[<-this];simp
  have n:vs.extract 0 ks.length=vs:=by
   have:vs.size=ks.length:=by have:=hv.length;simp at this;omega
   rw[<-this];simp
  have l:x'= .agg us:=by simp[part,ha,DQ hs,o] at i;exact i.symm
  have k:j= .agg vs:=by simp[part,ha,DQ hs,n] at g;exact g.symm
  subst l;subst k;rcases NS with⟨rfl,rfl⟩|⟨rfl,rfl⟩
  .refine⟨.bool e,by simp[run_eqGuard_agg (P:=P) w .eql t d c us vs hg,run_eql_struct,f],?_⟩;show Value.bool e=Value.bool _;cases e<;>rfl
  .refine⟨.bool (!e),by simp[run_eqGuard_agg (P:=P) w .neq t d c us vs hg,run_neq_struct,f],?_⟩;show Value.bool _=Value.bool _;cases e<;>rfl
end
end Go.Am
end
