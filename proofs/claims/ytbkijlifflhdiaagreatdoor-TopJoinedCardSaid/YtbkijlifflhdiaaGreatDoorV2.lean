/- Lemmas -/
import Derived.Test.YtbkijlifflhdiaaGreatDoorV1
import Derived.Orders
import Derived.Laws.AppendOwn
import Derived.Laws.StructEq
set_option linter.all false
section
namespace Go.Am
inductive IH where
 |Kd (id:Nat)
 |ux (s:Nat)
 |tail (s:Nat) (c:Option Nat) (start:Nat)
def IH.pP:IH->Bool
 | .Kd _=>true
 |_=>false
structure Gh where
 GA:Nat->Nat->Option Value
 mu:Nat->Option Nat
 Bn:Nat->Option IH
 sz:Nat->Option Nat
mutual
def Bp(γ:Gh):Aa->Value->Prop
 | .bool b,v=>v= .bool b
 | .int k n,v=>v= .int k n
 | .str s,v=>v= .string ⟨⟨s⟩⟩
 | .ptr none,v=>v= .pointer none
 | .ptr (some (id,o)),v=>∃b,γ.mu id=some b/\v= .pointer (some ⟨b,o,none⟩)
 | .Cb cs,v=>∃b o,v= .pointer (some ⟨b,o,none⟩)/\Co γ cs b o
 | .sl z An,v=>∃ad cap,v= .slice (some ad) An.length cap/\An.length<=cap/\(ad.spot=none\/cap=0)/\DY γ An z ad.block ad.off
 | .slnil,v=>v= .slice none 0 0
 | .EV _,v=>∃b,v= .slice (some ⟨b,0,none⟩) 0 0
 | .CG id off len z,v=>∃b cap,γ.mu id=some b/\v= .slice (some ⟨b,off,none⟩) len cap/\len<=cap/\(0<z/\cap<=maxLen)/\γ.sz b=some (off+cap*z)
 | .map none,v=>v= .map none
 | .map (some id),v=>∃b,γ.mu id=some b/\v= .map (some b)
 | .func fn f c,v=>∃fs cs,v= .func fn fs cs/\AK γ f fs.toList/\AK γ c cs.toList
 | .nilFunc,v=>v= .nilFunc
 | .iface t a,v=>∃u,v= .iface t u/\Bp γ a u
 | .nilIface,v=>v= .nilIface
 | .agg cs,v=>∃us,v= .agg us/\AK γ cs us.toList/\∀u∈us.toList,u.oneCell'=true
 | .tuple vs,v=>∃us,v= .tuple us/\AK γ vs us.toList
def AK(γ:Gh):List Aa->List Value->Prop
 |[],us=>us=[]
 |a::l,us=>∃u CS,us=u::CS/\Bp γ a u/\AK γ l CS
def Co(γ:Gh):List Aa->Nat->Nat->Prop
 |[],_,_=>True
 |a::l,b,o=>(∃u,γ.GA b o=some u/\Bp γ a u)/\Co γ l b (o+1)
def DY(γ:Gh):List (List Aa)->Nat->Nat->Nat->Prop
 |[],_,_,_=>True
 |r::rs,z,b,o=>r.length=z/\Co γ r b o/\DY γ rs z b (o+z)
end
structure Gh.le(γ γ':Gh):Prop where
 GA:∀b o v,γ.GA b o=some v->γ'.GA b o=some v
 mu:∀id b,γ.mu id=some b->γ'.mu id=some b
 sz:∀b n,γ.sz b=some n->γ'.sz b=some n
def Gh.le.refl(γ:Gh):γ.le γ:=⟨λ_ _ _ h=>h,λ_ _ h=>h,λ_ _ h=>h⟩
def Gh.le.trans{a b c:Gh}(h:a.le b)(k:b.le c):a.le c:=⟨λ_ _ _ x=>k.GA _ _ _ (h.GA _ _ _ x),λ_ _ x=>k.mu _ _ (h.mu _ _ x),λ_ _ x=>k.sz _ _ (h.sz _ _ x)⟩
mutual
def Bp.mono{γ γ':Gh}(DG:γ.le γ'):∀(a:Aa) (v:Value),Bp γ a v->Bp γ' a v
 | .bool b,v,h=>h
 | .int k n,v,h=>h
 | .str s,v,h=>h
 | .ptr none,v,h=>h
 | .ptr (some (id,o)),v,h=>by obtain⟨b,hb,hv⟩:=h;exact⟨b,DG.mu _ _ hb,hv⟩
 | .Cb cs,v,h=>by obtain⟨b,o,hv,hm⟩:=h;exact⟨b,o,hv,Co.mono DG cs b o hm⟩
 | .sl z An,v,h=>by obtain⟨ad,cap,hv,hc,hs,hm⟩:=h;exact⟨ad,cap,hv,hc,hs,DY.mono DG An z _ _ hm⟩
 | .slnil,v,h=>h
 | .EV _,v,h=>h
 | .CG id off len z,v,h=>by obtain⟨b,cap,hb,hv,hc,hz,hs⟩:=h;exact⟨b,cap,DG.mu _ _ hb,hv,hc,hz,DG.sz _ _ hs⟩
 | .map none,v,h=>h
 | .map (some id),v,h=>by obtain⟨b,hb,hv⟩:=h;exact⟨b,DG.mu _ _ hb,hv⟩
 | .func fn f c,v,h=>by obtain⟨fs,cs,hv,h1,h2⟩:=h;exact⟨fs,cs,hv,AK.mono DG f _ h1,AK.mono DG c _ h2⟩
 | .nilFunc,v,h=>h
 | .iface t a,v,h=>by obtain⟨u,hv,h1⟩:=h;exact⟨u,hv,Bp.mono DG a u h1⟩
 | .nilIface,v,h=>h
 | .agg cs,v,h=>by obtain⟨us,hv,h1,h2⟩:=h;exact⟨us,hv,AK.mono DG cs _ h1,h2⟩
 | .tuple vs,v,h=>by obtain⟨us,hv,h1⟩:=h;exact⟨us,hv,AK.mono DG vs _ h1⟩
def AK.mono{γ γ':Gh}(DG:γ.le γ'):∀(l:List Aa) (us:List Value),AK γ l us->AK γ' l us
 |[],us,h=>h
 |a::l,us,h=>by obtain⟨u,CS,hu,h1,h2⟩:=h;exact⟨u,CS,hu,Bp.mono DG a u h1,AK.mono DG l CS h2⟩
def Co.mono{γ γ':Gh}(DG:γ.le γ'):∀(l:List Aa) (b o:Nat),Co γ l b o->Co γ' l b o
 |[],_,_,_=>trivial
 |a::l,b,o,h=>by obtain⟨⟨u,hu,h1⟩,h2⟩:=h;exact⟨⟨u,DG.GA _ _ _ hu,Bp.mono DG a u h1⟩,Co.mono DG l b (o+1) h2⟩
def DY.mono{γ γ':Gh}(DG:γ.le γ'):∀(rs:List (List Aa)) (z b o:Nat),DY γ rs z b o->DY γ' rs z b o
 |[],_,_,_,_=>trivial
 |r::rs,z,b,o,h=>⟨h.1,Co.mono DG r b o h.2.1,DY.mono DG rs z b (o+z) h.2.2⟩
end
def AK.length{γ:Gh}:∀{l:List Aa} {us:List Value},AK γ l us->us.length=l.length
 |[],us,h=>by rw[AK] at h;subst h;rfl
 |a::l,us,h=>by rw[AK] at h;obtain⟨u,CS,rfl,_,h2⟩:=h;simp[h2.length]
def AK.get{γ:Gh}:∀{l:List Aa} {us:List Value},AK γ l us->∀{i:Nat} {a:Aa},l[i]?=some a->∃u,us[i]?=some u/\Bp γ a u
 |[],us,h,i,a,hi=>by simp at hi
 |x::l,us,h,i,a,hi=>by
  rw[AK] at h;obtain⟨u,CS,rfl,h1,h2⟩:=h;cases i with
  |zero=>simp at hi;subst hi;exact⟨u,rfl,h1⟩
  |succ i=>simp at hi;obtain⟨v,hv,hr⟩:=h2.get hi;exact⟨v,by simpa using hv,hr⟩
def AK.Fz{γ:Gh}:∀{l:List Aa} {us:List Value},us.length=l.length->(∀(i:Nat) (a:Aa) (u:Value),l[i]?=some a->us[i]?=some u->Bp γ a u)->AK γ l us
 |[],us,hl,_=>by rw[AK];exact Cq hl
 |x::l,[],hl,_=>by simp at hl
 |x::l,u::us,hl,h=>by rw[AK];exact⟨u,us,rfl,h 0 x u rfl rfl,AK.Fz (by simpa using hl) λi a v hi hv=>h (i+1) a v (by simpa using hi) (by simpa using hv)⟩
def AK.append{γ:Gh}:∀{l l':List Aa} {us CS:List Value},AK γ l us->AK γ l' CS->AK γ (l++l') (us++CS)
 |[],l',us,CS,h,h'=>by rw[AK] at h;subst h;simpa using h'
 |a::l,l',us,CS,h,h'=>by rw[AK] at h;obtain⟨u,r,rfl,h1,h2⟩:=h;rw[BW,AK];exact⟨u,r++CS,rfl,h1,h2.append h'⟩
def AK.take{γ:Gh}{l:List Aa}{us:List Value}(h:AK γ l us)(n:Nat):AK γ (l.take n) (us.take n):=by
 refine AK.Fz (by simp[h.length]) λi a u hi hu=>?_;rw[BV] at hi hu;split at hi;.rename_i hlt;rw[Ad hlt] at hu;obtain⟨v,hv,hr⟩:=h.get hi;rw[hu] at hv;cases hv;exact hr
 .cases hi
def AK.drop{γ:Gh}{l:List Aa}{us:List Value}(h:AK γ l us)(n:Nat):AK γ (l.drop n) (us.drop n):=by refine AK.Fz (by simp[h.length]) λi a u hi hu=>?_;rw[Cc] at hi hu;obtain⟨v,hv,hr⟩:=h.get hi;rw[hu] at hv;cases hv;exact hr
def Co.get{γ:Gh}:∀{l:List Aa} {b o:Nat},Co γ l b o->∀{i:Nat} {a:Aa},l[i]?=some a->∃u,γ.GA b (o+i)=some u/\Bp γ a u
 |[],b,o,h,i,a,hi=>by simp at hi
 |x::l,b,o,h,i,a,hi=>by
  rw[Co] at h;obtain⟨⟨u,hu,h1⟩,h2⟩:=h;cases i with
  |zero=>simp at hi;subst hi;exact⟨u,hu,h1⟩
  |succ i=>simp at hi;obtain⟨v,hv,hr⟩:=h2.get hi;exact⟨v,by rw[<-hv];congr 1;omega,hr⟩
def Co.Fz{γ:Gh}:∀{l:List Aa} {b o:Nat},(∀(i:Nat) (a:Aa),l[i]?=some a->∃u,γ.GA b (o+i)=some u/\Bp γ a u)->Co γ l b o
 |[],b,o,h=>by rw[Co];trivial
 |x::l,b,o,h=>by rw[Co];refine⟨h 0 x rfl,Co.Fz λi a hi=>?_⟩;obtain⟨u,hu,hr⟩:=h (i+1) a (by simpa using hi);exact⟨u,by rw[<-hu];congr 1;omega,hr⟩
def Co.drop{γ:Gh}{l:List Aa}{b o:Nat}(h:Co γ l b o)(n:Nat):Co γ (l.drop n) b (o+n):=by refine Co.Fz λi a hi=>?_;rw[Cc] at hi;obtain⟨u,hu,hr⟩:=h.get hi;exact⟨u,by rw[<-hu];congr 1;omega,hr⟩
def Co.values{γ:Gh}:∀{l:List Aa} {b o:Nat},Co γ l b o->∃us:List Value,AK γ l us/\∀(j:Nat) (u:Value),us[j]?=some u->γ.GA b (o+j)=some u
 |[],b,o,h=>⟨[],by rw[AK],Au⟩
 |x::l,b,o,h=>by
  rw[Co] at h;obtain⟨⟨u,hu,h1⟩,h2⟩:=h;obtain⟨us,hr,hi⟩:=h2.values;refine⟨u::us,by rw[AK];exact⟨u,us,rfl,h1,hr⟩,λj v hj=>?_⟩;cases j with
  |zero=>simp at hj;subst hj;exact hu
  |succ j=>simp at hj;rw[<-hi j v hj];congr 1;omega
def DY.get{γ:Gh}:∀{rs:List (List Aa)} {z b o:Nat},DY γ rs z b o->∀{i:Nat} {r:List Aa},rs[i]?=some r->r.length=z/\Co γ r b (o+i*z)
 |[],z,b,o,h,i,r,hi=>by simp at hi
 |x::rs,z,b,o,h,i,r,hi=>by
  rw[DY] at h;cases i with
  |zero=>simp at hi;subst hi;simpa using⟨h.1,h.2.1⟩
  |succ i=>simp at hi;obtain⟨h1,h2⟩:=h.2.2.get hi;exact⟨h1,by rw[show o+(i+1)*z=o+z+i*z by rw[Bg,DI];omega];exact h2⟩
def DY.Fz{γ:Gh}:∀{rs:List (List Aa)} {z b o:Nat},(∀(i:Nat) (r:List Aa),rs[i]?=some r->r.length=z/\Co γ r b (o+i*z))->DY γ rs z b o
 |[],z,b,o,h=>by rw[DY];trivial
 |x::rs,z,b,o,h=>by rw[DY];have h0:=h 0 x rfl;refine⟨h0.1,by simpa using h0.2,DY.Fz λi r hi=>?_⟩;obtain⟨h1,h2⟩:=h (i+1) r (by simpa using hi);exact⟨h1,by rw[show o+z+i*z=o+(i+1)*z by rw[Bg,DI];omega];exact h2⟩
def DY.length{γ:Gh}:∀{rs:List (List Aa)} {z b o:Nat},DY γ rs z b o->rs.flatten.length=rs.length*z
 |[],z,b,o,h=>Au
 |x::rs,z,b,o,h=>by rw[DY] at h;simp[h.1,h.2.2.length,Bg,MG]
def LY{ad:Addr}{n cap:Nat}(hs:ad.spot=none\/cap=0)(hc:n<=cap)(hn:0<n):ad=⟨ad.block,ad.off,none⟩:=by
 rcases hs with hs|hs
 .cases ad;simp_all
 .omega
def DY.values{γ:Gh}:∀{rs:List (List Aa)} {z b o:Nat},DY γ rs z b o->∃us:List Value,AK γ rs.flatten us/\us.length=rs.length*z/\∀(j:Nat) (u:Value),us[j]?=some u->γ.GA b (o+j)=some u
 |[],z,b,o,h=>⟨[],by simp[AK],Au,Au⟩
 |x::rs,z,b,o,h=>by
  rw[DY] at h;obtain⟨us,h1,h2⟩:=h.2.1.values;obtain⟨vs,e,d,c⟩:=h.2.2.values;have hl:us.length=z:=by rw[h1.length,h.1]
  refine⟨us++vs,by simpa using h1.append e,by simp[hl,d,Bg,MG],λj u hj=>?_⟩;rw[Ń] at hj;split at hj;.exact h2 j u hj
  .rename_i HK;rw[<-c _ _ hj];congr 1
   omega
def Hq(γ:Gh)(B:Nat)(w:World)(s:Nat)(c:Option Nat)(v:Value)(a:Aa):Prop:=
 (a= .slnil\/∃z,a= .EV z)\/∃g n cap us e z An,a= .sl z An/\v= .slice (some ⟨g,0,none⟩) n cap/\γ.Bn g=some (.tail s c (n*z))/\B<=g/\
  w.heap[g]?=some (.cells us e (0,0))/\us.size=cap*z/\n<=cap/\cap<=maxLen/\0<z
def Jw(γ:Gh)(β:Nat->Nat)(B:Nat)(w:World)(s:Nat):Dw->Value->Prop
 | .undef,_=>True
 | .skip,v=>v=undef
 | .val a,v=>Bp γ a v
 | .MC b,v=>v= .bool b
 | .Bn a,v=>Bp γ a v/\Hq γ B w s none v a
 | .box _ cs ow,v=>v= .pointer (some ⟨β s,0,none⟩)/\γ.Bn (β s)=some (.ux s)/\B<=β s/\
  ∃us e,w.heap[β s]?=some (.cells us e (0,0))/\AK γ cs us.toList/\(∀u∈us.toList,u.oneCell'=true)/\
   ∀o∈ow,∃u a,us[o]?=some u/\cs[o]?=some a/\Hq γ B w s (some o) u a
 | .Ed s' o,v=>v= .pointer (some ⟨β s',o,none⟩)
structure FR(γ:Gh)(β:Nat->Nat)(B:Nat)(U:Bq)(tmps:Array Value)(w:World):Prop where
 size:U.length=tmps.size
 GB:∀s,Jw γ β B w s (U.at s) (tmps.getD s undef)
def Je(γ:Gh):List (Aa×Aa)->List MapEntry->Prop
 |[],es=>es=[]
 |(k,v)::l,es=>∃e Ry,es=e::Ry/\Bp γ k e.key/\Bp γ v e.val/\Je γ l Ry
def pQ(γ:Gh)(l:List (Aa×Aa))(es:Array MapEntry)(clock:Nat):Prop:=
 Je γ l es.toList/\clock=es.size/\∀(i:Nat) (e:MapEntry),es[i]?=some e->e.born=i
def Qb(fr:Nat×Nat)(n:Nat):Prop:=fr=(0,0)\/n<=fr.1
structure Fg(γ:Gh)(h:Ag)(w:World):Prop where
 GA:∀b o v,γ.GA b o=some v->w.cell? ⟨b,o,none⟩=some v/\v.oneCell'=true/\(γ.Bn b=none\/∃s c st,γ.Bn b=some (.tail s c st)/\o<st)
 Kd:∀id x,h[id]?=some x->x≠ .Ec->∃b,γ.mu id=some b/\γ.Bn b=some (.Kd id)
 cells:∀id cs,h[id]?=some (.cells cs)->∀b,γ.mu id=some b->∃us e fr,w.heap[b]?=some (.cells us e fr)/\Qb fr us.size/\AK γ cs (us.toList.take cs.length)/\∀u∈us.toList.take cs.length,u.oneCell'=true
 map:∀id es,h[id]?=some (.map es)->∀b,γ.mu id=some b->∃C3 clock,w.heap[b]?=some (.map C3 clock)/\pQ γ es C3 clock
 mu:∀id b,γ.mu id=some b->id<h.length
 Bn:∀b x,γ.Bn b=some x->b<w.heap.size
 sz:∀b n,γ.sz b=some n->(∃us e fr,w.heap[b]?=some (.cells us e fr)/\us.size=n)/\(γ.Bn b=none\/∃id,γ.Bn b=some (.Kd id))
structure IB(γ0:Gh)(w0:World)(γ:Gh)(w:World):Prop where
 le:γ0.le γ
 size:w0.heap.size<=w.heap.size
 os:w.os=w0.os
 tape:w.tape=w0.tape
 output:w.output=w0.output
 KF:∀b,b<w0.heap.size->(∀id,γ0.Bn b≠some (.Kd id))->w.heap[b]?=w0.heap[b]?/\γ.Bn b=γ0.Bn b
def IB.refl(γ:Gh)(w:World):IB γ w γ w:=⟨.refl _,Af _,rfl,rfl,rfl,λ_ _ _=>⟨rfl,rfl⟩⟩
def IB.trans{γ0 d c:Gh}{w0 w1 e:World}(h:IB γ0 w0 d w1)(k:IB d w1 c e):IB γ0 w0 c e:=by refine⟨h.le.trans k.le,A5 h.size k.size,k.os.trans h.os,k.tape.trans h.tape,k.output.trans h.output,λb hb hn=>?_⟩;.obtain⟨h1,h2⟩:=h.KF b hb hn;obtain⟨g,f⟩:=k.KF b (Dm hb h.size) (λid=>by rw[h2];exact hn id);exact⟨g.trans h1,f.trans h2⟩
structure kP(γ:Gh)(w:World)(γ':Gh)(w':World):Prop where
 le:γ.le γ'
 KF:∀b x,γ.Bn b=some x->x.pP=false->γ'.Bn b=some x/\w'.heap[b]?=w.heap[b]?
def kP.j_{γ γ':Gh}{h:Ag}{w w':World}(hi:Fg γ h w)(ha:IB γ w γ' w'):kP γ w γ' w':=by refine⟨ha.le,λb x hb hx=>?_⟩;obtain⟨h1,h2⟩:=ha.KF b (hi.Bn b x hb) (λid Hm=>by rw[hb] at Hm;cases Hm;simp[IH.pP] at hx);exact⟨h2.trans hb,h1⟩
def Hq.kept{γ γ':Gh}{B:Nat}{w w':World}{s:Nat}{c:Option Nat}{v:Value}{a:Aa}(h:Hq γ B w s c v a)(k:kP γ w γ' w'):Hq γ' B w' s c v a:=by
 rcases h with h|⟨g,n,cap,us,e,z,An,h1,h2,l,j,i,f⟩
 .exact .inl h
 .obtain⟨d,b⟩:=k.KF g _ l rfl;exact .inr ⟨g,n,cap,us,e,z,An,h1,h2,d,j,by rw[b];exact i,f⟩
def Jw.kept{γ γ':Gh}{β:Nat->Nat}{B:Nat}{w w':World}{s:Nat}{x:Dw}{v:Value}(h:Jw γ β B w s x v)(k:kP γ w γ' w'):Jw γ' β B w' s x v:=by
 cases x with
 |undef=>trivial
 |skip=>exact h
 |val a=>exact Bp.mono k.le a v h
 |MC b=>exact h
 |Bn a=>exact⟨Bp.mono k.le a v h.1,h.2.kept k⟩
 |box ver cs ow=>obtain⟨h1,h2,l,us,e,j,i,g,f⟩:=h;obtain⟨d,c⟩:=k.KF _ _ h2 rfl;exact⟨h1,d,l,us,e,by rw[c];exact j,AK.mono k.le cs _ i,g,λo ho=>let⟨u,a,p,q,r⟩:=f o ho;⟨u,a,p,q,r.kept k⟩⟩
 |Ed s' o=>exact h
def FR.kept{γ γ':Gh}{β:Nat->Nat}{B:Nat}{U:Bq}{tmps:Array Value}{w w':World}(h:FR γ β B U tmps w)(k:kP γ w γ' w'):FR γ' β B U tmps w':=
 ⟨h.size,λs=>(h.GB s).kept k⟩
end Go.Am
end
section
namespace Go.Am
def BI{w w':World}{b o:Nat}(h:w'.heap[b]?=w.heap[b]?):w'.cell? ⟨b,o,none⟩=w.cell? ⟨b,o,none⟩:=by simp[World.cell?,h]
def Cr{w:World}{b o:Nat}{v:Value}(h:w.cell? ⟨b,o,none⟩=some v):b<w.heap.size:=by
 rcases BH b w.heap.size with h'|h'
 .exact h'
 .simp[World.cell?,Array.getElem?_eq_none h'] at h
def Fg.ka{γ:Gh}{h:Ag}{w:World}(hi:Fg γ h w){b o:Nat}{v:Value}(hb:γ.GA b o=some v):b<w.heap.size:=Cr (hi.GA b o v hb).1
def Fg.same{γ:Gh}{h:Ag}{w w':World}(hi:Fg γ h w)(c:w'.heap=w.heap):Fg γ h w':=by
 refine⟨λb o v hb=>?_,hi.Kd,λid cs hc b hb=>?_,λid es hc b hb=>?_,hi.mu,λb x hx=>?_,λb n hb=>by rw[c];exact hi.sz b n hb⟩;.obtain⟨h1,h2,d⟩:=hi.GA b o v hb;have e:=BI (w:=w) (w':=w') (b:=b) (o:=o) (by rw[c]);exact⟨e.trans h1,h2,d⟩
 .rw[c];exact hi.cells id cs hc b hb
 .rw[c];exact hi.map id es hc b hb
 .rw[c];exact hi.Bn b x hx
def IB.same{γ:Gh}{w w':World}(b:w'.heap=w.heap)(h1:w'.os=w.os)(h2:w'.tape=w.tape)(c:w'.output=w.output):IB γ w γ w':=
 ⟨.refl _,by rw[b];exact Af _,h1,h2,c,λ_ _ _=>⟨by rw[b],rfl⟩⟩
def IB.drew(γ:Gh)(w:World):IB γ w γ w.drew:=IB.same rfl rfl rfl rfl
def Gh.CC(γ:Gh)(b:Nat)(us:Array Value)(k:Nat)(x:Option IH):Gh:=
 {GA:=λb' o=>if b'=b then(if o<k then us[o]? else none) else γ.GA b' o,mu:=γ.mu,Bn:=λb'=>if b'=b then x else γ.Bn b',sz:=γ.sz}
def Gh.BO(γ:Gh)(b id:Nat)(n:Option Nat):Gh:=
 {GA:=γ.GA,mu:=λi=>if i=id then some b else γ.mu i,Bn:=λb'=>if b'=b then some (.Kd id) else γ.Bn b',sz:=λb'=>if b'=b then n else γ.sz b'}
section
variable{γ:Gh}{h:Ag}{w:World}
def Ej(w:World)(o:Obj){b:Nat}(hb:b<w.heap.size):(w.alloc o).heap[b]?=w.heap[b]?:=heap_alloc_old w o b hb
def KO(hi:Fg γ h w)(us:Array Value)(e:TypeId)(fr:Nat×Nat)(k:Nat)(x:Option IH)(h1:∀o u,o<k->us[o]?=some u->u.oneCell'=true)
  (hx:x=none\/(∃s c,x=some (.tail s c k))\/(k=0/\∀id,x≠some (.Kd id))):
  Fg (γ.CC w.heap.size us k x) h (w.alloc (.cells us e fr))/\IB γ w (γ.CC w.heap.size us k x) (w.alloc (.cells us e fr)):=by
 have hown:γ.Bn w.heap.size=none:=by
  cases hc:γ.Bn w.heap.size with
  |none=>rfl
  |some y=>exact absurd (hi.Bn _ y hc) (CL _)
 have pR:∀o,γ.GA w.heap.size o=none:=λo=>by
  cases hc:γ.GA w.heap.size o with
  |none=>rfl
  |some y=>exact absurd (hi.ka hc) (CL _)
 have DG:γ.le (γ.CC w.heap.size us k x):=⟨λb' o' v' Gv=>by
  have:b'≠w.heap.size:=λhe=>by rw[he,pR] at Gv;cases Gv
  simp only[Gh.CC,Ac this];exact Gv,λ_ _ hm=>hm,λ_ _ hm=>hm⟩
 constructor
 .refine⟨λb o v hb=>?_,λid y Hm hy=>?_,λid cs hc b hb=>?_,λid es hc b hb=>?_,hi.mu,λb y hy=>?_,λb n hb=>?_⟩;rotate_left 5;.obtain⟨⟨CS,d,kQ,p,q⟩,r⟩:=hi.sz b n hb;have LZ:b≠w.heap.size:=MH (by rw[As] at p;exact p.1);exact⟨⟨CS,d,kQ,by rw[Ej _ _ (by rw[As] at p;exact p.1)];exact p,q⟩,by simp only[Gh.CC,Ac LZ];exact r⟩
  .by_cases LZ:b=w.heap.size
   .subst LZ;simp only[Gh.CC,BB] at hb⊢;split at hb
    .rename_i hlt;refine⟨by rw[cell_of_row _ _ _ us e fr (heap_alloc_new w _)];exact hb,h1 o v hlt hb,?_⟩;rcases hx with hx|⟨s,c,hx⟩|⟨hx,_⟩
     .exact .inl hx
     .exact .inr ⟨s,c,k,hx,hlt⟩
     .omega
    .cases hb
   .simp only[Gh.CC,Ac LZ] at hb⊢;obtain⟨p,q,r⟩:=hi.GA b o v hb;exact⟨by rw[BI (Ej w _ (Cr p))];exact p,q,r⟩
  .obtain⟨b,p,q⟩:=hi.Kd id y Hm hy;refine⟨b,p,?_⟩;have:b≠w.heap.size:=λhe=>by rw[he,hown] at q;cases q
   simp only[Gh.CC,Ac this];exact q
  .obtain⟨CS,d,kQ,p,pf,q,r⟩:=hi.cells id cs hc b hb;exact⟨CS,d,kQ,by rw[Ej _ _ (by rw[As] at p;exact p.1)];exact p,pf,AK.mono DG cs _ q,r⟩
  .obtain⟨C3,clock,p,q⟩:=hi.map id es hc b hb;refine⟨C3,clock,by rw[Ej _ _ (by rw[As] at p;exact p.1)];exact p,?_,q.2⟩;replace q:=q.1;clear hc p;revert q;generalize C3.toList=l;intro q;induction es generalizing l with
   |nil=>exact q
   |cons kv es ih=>obtain⟨kk,g⟩:=kv;obtain⟨f,Ry,hl,a1,a2,a3⟩:=q;exact⟨f,Ry,hl,Bp.mono DG _ _ a1,Bp.mono DG _ _ a2,ih Ry a3⟩
  .by_cases LZ:b=w.heap.size;.subst LZ;simp
   .simp only[Gh.CC,Ac LZ] at hy;have:=hi.Bn b y hy;simp;omega
 .refine⟨DG,Au,rfl,rfl,rfl,λb hb _=>⟨Ej _ _ hb,?_⟩⟩;simp only[Gh.CC,Ac (MH hb)]
def Je.mono{γ γ':Gh}(DG:γ.le γ'):∀{es:List (Aa×Aa)} {l:List MapEntry},Je γ es l->Je γ' es l
 |[],l,q=>q
 |(kk,c)::es,l,q=>by obtain⟨b,Ry,hl,a1,a2,a3⟩:=q;exact⟨b,Ry,hl,Bp.mono DG _ _ a1,Bp.mono DG _ _ a2,a3.mono DG⟩
def pQ.mono{γ γ':Gh}(DG:γ.le γ'){es:List (Aa×Aa)}{l:Array MapEntry}{c:Nat}(h:pQ γ es l c):pQ γ' es l c:=⟨h.1.mono DG,h.2⟩
def L0(hi:Fg γ h w)(o:Obj)(x:FF)(m:Option Nat)
  (hx:(∃cs us e fr,x= .cells cs/\o= .cells us e fr/\Qb fr us.size/\AK γ cs (us.toList.take cs.length)/\(∀u∈us.toList.take cs.length,u.oneCell'=true)/\m=some us.size)\/(x= .map []/\o= .map #[] 0/\m=none)):
  Fg (γ.BO w.heap.size h.length m) (h++[x]) (w.alloc o)/\IB γ w (γ.BO w.heap.size h.length m) (w.alloc o):=by
 have hown:γ.Bn w.heap.size=none:=by
  cases hc:γ.Bn w.heap.size with
  |none=>rfl
  |some y=>exact absurd (hi.Bn _ y hc) (CL _)
 have xg:γ.mu h.length=none:=by
  cases hc:γ.mu h.length with
  |none=>rfl
  |some y=>exact absurd (hi.mu _ y hc) (CL _)
 have hsz:γ.sz w.heap.size=none:=by
  cases hc:γ.sz w.heap.size with
  |none=>rfl
  |some y=>obtain⟨⟨_,_,_,p,_⟩,_⟩:=hi.sz _ y hc;rw[As] at p;exact absurd p.1 (CL _)
 have DG:γ.le (γ.BO w.heap.size h.length m):=⟨λ_ _ _ hv=>hv,λid b hm=>by
  have:id≠h.length:=λhe=>by rw[he,xg] at hm;cases hm
  simp only[Gh.BO,Ac this];exact hm,λb n hm=>by
  have:b≠w.heap.size:=λhe=>by rw[he,hsz] at hm;cases hm
  simp only[Gh.BO,Ac this];exact hm⟩
 constructor
 .refine⟨λb o' v hb=>?_,λid y Hm hy=>?_,λid cs hc b hb=>?_,λid es hc b hb=>?_,λid b hb=>?_,λb y hy=>?_,λb n hb=>?_⟩;rotate_left 6
  .by_cases LZ:b=w.heap.size
   .subst LZ;simp only[Gh.BO,BB] at hb;rcases hx with⟨Fx,us,e,fr,rfl,rfl,pf,p,q,rfl⟩|⟨rfl,rfl,rfl⟩
    .cases hb;exact⟨⟨us,e,fr,heap_alloc_new w _,rfl⟩,.inr ⟨h.length,by simp[Gh.BO]⟩⟩
    .cases hb
   .simp only[Gh.BO,Ac LZ] at hb⊢;obtain⟨⟨CS,c,kQ,p,q⟩,r⟩:=hi.sz b n hb;exact⟨⟨CS,c,kQ,by rw[Ej _ _ (by rw[As] at p;exact p.1)];exact p,q⟩,r⟩
  .obtain⟨p,q,r⟩:=hi.GA b o' v hb;have LZ:b≠w.heap.size:=MH (Cr p);exact⟨by rw[World.cell?_alloc_old _ _ _ LZ];exact p,q,by simp only[Gh.BO,Ac LZ];exact r⟩
  .by_cases he:id=h.length;.exact⟨w.heap.size,by simp[Gh.BO,he],by simp[Gh.BO,he]⟩
   .have SE:id<h.length:=by rw[Ae] at Hm;obtain⟨hl,_⟩:=Hm;simp at hl;omega
    rw[Ai SE] at Hm;obtain⟨b,p,q⟩:=hi.Kd id y Hm hy;have LZ:b≠w.heap.size:=λhe=>by rw[he,hown] at q;cases q
    exact⟨b,by simp only[Gh.BO,Ac he];exact p,by simp only[Gh.BO,Ac LZ];exact q⟩
  .by_cases he:id=h.length
   .subst he;simp[Gh.BO] at hb;subst hb;simp at hc;rcases hx with⟨Fx,us,e,fr,rfl,rfl,pf,p,q,rfl⟩|⟨rfl,rfl,rfl⟩
    .cases hc;exact⟨us,e,fr,heap_alloc_new w _,pf,AK.mono DG _ _ p,q⟩
    .cases hc
   .simp only[Gh.BO,Ac he] at hb;have SE:=hi.mu id b hb;rw[Ai SE] at hc;obtain⟨CS,c,kQ,p,pf,q,r⟩:=hi.cells id cs hc b hb;exact⟨CS,c,kQ,by rw[Ej _ _ (by rw[As] at p;exact p.1)];exact p,pf,AK.mono DG _ _ q,r⟩
  .by_cases he:id=h.length
   .subst he;simp[Gh.BO] at hb;subst hb;simp at hc;rcases hx with⟨Fx,us,e,fr,rfl,rfl,pf,p,q,rfl⟩|⟨rfl,rfl,rfl⟩
    .cases hc
    .cases hc;exact⟨#[],0,heap_alloc_new w _,rfl,rfl,Au⟩
   .simp only[Gh.BO,Ac he] at hb;have SE:=hi.mu id b hb;rw[Ai SE] at hc;obtain⟨C3,clock,p,q⟩:=hi.map id es hc b hb;exact⟨C3,clock,by rw[Ej _ _ (by rw[As] at p;exact p.1)];exact p,q.mono DG⟩
  .by_cases he:id=h.length;.simp[he]
   .simp only[Gh.BO,Ac he] at hb;have:=hi.mu id b hb;simp;omega
  .by_cases LZ:b=w.heap.size;.subst LZ;simp
   .simp only[Gh.BO,Ac LZ] at hy;have:=hi.Bn b y hy;simp;omega
 .refine⟨DG,Au,rfl,rfl,rfl,λb hb _=>⟨Ej _ _ hb,?_⟩⟩;simp only[Gh.BO,Ac (MH hb)]
def kR(hi:Fg γ h w){g s:Nat}(hg:γ.Bn g=some (.ux s))(us:Array Value):Fg γ h (w.setRow g us):=by
 refine⟨λb o v hb=>?_,hi.Kd,λid cs hc b hb=>?_,λid es hc b hb=>?_,hi.mu,λb x hx=>?_,λb n hb=>?_⟩;rotate_left 4
 .obtain⟨p,r⟩:=hi.sz b n hb;have:b≠g:=λhe=>by subst he;rw[hg] at r;rcases r with r|⟨_,r⟩<;>cases r
  exact⟨by rw[setRow_other w g b us this];exact p,r⟩
 .obtain⟨p,q,r⟩:=hi.GA b o v hb;have:b≠g:=λhe=>by subst he;rw[hg] at r;rcases r with r|⟨_,_,_,r,_⟩<;>cases r
  exact⟨by rw[BI (setRow_other w g b us this)];exact p,q,r⟩
 .have O0:b≠g:=λhe=>by subst he;obtain⟨b',p,q⟩:=hi.Kd id _ hc Au;rw[hb] at p;cases p;rw[hg] at q;cases q
  rw[setRow_other w g b us O0];exact hi.cells id cs hc b hb
 .have O0:b≠g:=λhe=>by subst he;obtain⟨b',p,q⟩:=hi.Kd id _ hc Au;rw[hb] at p;cases p;rw[hg] at q;cases q
  rw[setRow_other w g b us O0];exact hi.map id es hc b hb
 .have:=hi.Bn b x hx;simpa[World.setRow] using this
def Lu(hi:Fg γ h w){g id:Nat}{cs:List Aa}(hcs:h[id]?=some (.cells cs))(hg:γ.mu id=some g){us:Array Value}{e:TypeId}{fr:Nat×Nat}(hw:w.heap[g]?=some (.cells us e fr))(CS:Array Value)(Fx:List Aa)(Vi:CS.size=us.size)(fY:Qb fr CS.size)
  (hr:AK γ Fx (CS.toList.take Fx.length)) (h1:∀u∈CS.toList.take Fx.length,u.oneCell'=true):
  Fg γ (h.set id (.cells Fx)) (w.setRow g CS)/\IB γ w γ (w.setRow g CS):=by
 obtain⟨d,p,P0⟩:=hi.Kd id _ hcs Au;rw[hg] at p;cases p;have uniq:∀EI x,h[EI]?=some x->x≠ .Ec->γ.mu EI=some g->EI=id:=λEI x hx kb hm=>by obtain⟨b',p,q⟩:=hi.Kd EI x hx kb;rw[hm] at p;cases p;rw[P0] at q;cases q;rfl
 constructor
 .refine⟨λb o v hb=>?_,λEI y Hm hy=>?_,λEI cs hc b hb=>?_,λEI es hc b hb=>?_,λEI b hb=>by simpa using hi.mu EI b hb,λb x hx=>?_,λb n hb=>?_⟩;rotate_left 5
  .obtain⟨⟨aI,c,pS,p,q⟩,r⟩:=hi.sz b n hb;by_cases he:b=g;.subst he;rw[hw] at p;cases p;exact⟨⟨CS,e,fr,setRow_heap w b us CS e fr hw,by rw[Vi];exact q⟩,r⟩
   .exact⟨⟨aI,c,pS,by rw[setRow_other w g b CS he];exact p,q⟩,r⟩
  .obtain⟨p,q,r⟩:=hi.GA b o v hb;have:b≠g:=λhe=>by subst he;rw[P0] at r;rcases r with r|⟨_,_,_,r,_⟩<;>cases r
   exact⟨by rw[BI (setRow_other w g b CS this)];exact p,q,r⟩
  .by_cases he:EI=id;.subst he;exact⟨g,hg,P0⟩
   .rw[Aj (λx=>he x.symm)] at Hm;exact hi.Kd EI y Hm hy
  .by_cases he:EI=id;.subst he;rw[hg] at hb;cases hb;rw[AA (hi.mu _ _ hg)] at hc;cases hc;exact⟨CS,e,fr,setRow_heap w g us CS e fr hw,fY,hr,h1⟩
   .rw[Aj (λx=>he x.symm)] at hc;have O0:b≠g:=λhx=>by subst hx;exact he (uniq EI _ hc Au hb)
    rw[setRow_other w g b CS O0];exact hi.cells EI cs hc b hb
  .by_cases he:EI=id;.subst he;rw[AA (hi.mu _ _ hg)] at hc;cases hc
   .rw[Aj (λx=>he x.symm)] at hc;have O0:b≠g:=λhx=>by subst hx;exact he (uniq EI _ hc Au hb)
    rw[setRow_other w g b CS O0];exact hi.map EI es hc b hb
  .have:=hi.Bn b x hx;simpa[World.setRow] using this
 .refine⟨.refl _,by simp[World.setRow],rfl,rfl,rfl,λb hb hn=>⟨?_,rfl⟩⟩;exact setRow_other w g b CS (λhe=>by subst he;exact hn id P0)
def aJ(hi:Fg γ h w){g s st:Nat}{c:Option Nat}(hg:γ.Bn g=some (.tail s c st)){us:Array Value}{e:TypeId}(hw:w.heap[g]?=some (.cells us e (0,0)))(CS:Array Value)(k:Nat)(s':Nat)(c':Option Nat)
  (Lv:∀o,o<st->CS[o]?=us[o]?) (hk:st<=k) (h1:∀o u,o<k->CS[o]?=some u->u.oneCell'=true) (Qc:∀o v,γ.GA g o=some v->us[o]?=some v):
  Fg (γ.CC g CS k (some (.tail s' c' k))) h (w.setRow g CS)/\γ.le (γ.CC g CS k (some (.tail s' c' k))):=by
 have hlt:∀o v,γ.GA g o=some v->o<st:=λo v ho=>by
  obtain⟨_,_,r⟩:=hi.GA g o v ho;rw[hg] at r;rcases r with r|⟨_,_,_,r,hl⟩
  .cases r
  .cases r;exact hl
 have DG:γ.le (γ.CC g CS k (some (.tail s' c' k))):=⟨λb o v hb=>by
  by_cases he:b=g;.subst he;have:=hlt o v hb;simp only[Gh.CC,BB,Ad (Dm this hk)];rw[Lv o this];exact Qc o v hb
  .simp only[Gh.CC,Ac he];exact hb,λ_ _ hm=>hm,λ_ _ hm=>hm⟩
 refine⟨⟨λb o v hb=>?_,λid y Hm hy=>?_,λid cs hc b hb=>?_,λid es hc b hb=>?_,hi.mu,λb x hx=>?_,λb n hb=>?_⟩,DG⟩;rotate_left 5
 .obtain⟨p,r⟩:=hi.sz b n hb;have:b≠g:=λhe=>by subst he;rw[hg] at r;rcases r with r|⟨_,r⟩<;>cases r
  exact⟨by rw[setRow_other w g b CS this];exact p,by simp only[Gh.CC,Ac this];exact r⟩
 .by_cases he:b=g
  .subst he;simp only[Gh.CC,BB] at hb⊢;split at hb
   .rename_i hl;exact⟨by rw[cell_of_row _ _ _ CS e (0,0) (setRow_heap w b us CS e (0,0) hw)];exact hb,
     h1 o v hl hb,.inr ⟨s',c',k,rfl,hl⟩⟩
   .cases hb
  .simp only[Gh.CC,Ac he] at hb⊢;obtain⟨p,q,r⟩:=hi.GA b o v hb;exact⟨by rw[BI (setRow_other w g b CS he)];exact p,q,r⟩
 .obtain⟨b,p,q⟩:=hi.Kd id y Hm hy;have:b≠g:=λhe=>by subst he;rw[hg] at q;cases q
  exact⟨b,p,by simp only[Gh.CC,Ac this];exact q⟩
 .replace hb:γ.mu id=some b:=hb;obtain⟨b',p,q⟩:=hi.Kd id _ hc Au;rw[hb] at p;cases p;have:b≠g:=λhe=>by subst he;rw[hg] at q;cases q
  rw[setRow_other w g b CS this];obtain⟨aI,j,pS,i,f,d,r2⟩:=hi.cells id cs hc b hb;exact⟨aI,j,pS,i,f,AK.mono DG _ _ d,r2⟩
 .replace hb:γ.mu id=some b:=hb;obtain⟨b',p,q⟩:=hi.Kd id _ hc Au;rw[hb] at p;cases p;have:b≠g:=λhe=>by subst he;rw[hg] at q;cases q
  rw[setRow_other w g b CS this];obtain⟨C3,clock,i,d⟩:=hi.map id es hc b hb;exact⟨C3,clock,i,d.mono DG⟩
 .by_cases he:b=g;.subst he;have:=hi.Bn b _ hg;simpa[World.setRow] using this
  .simp only[Gh.CC,Ac he] at hx;have:=hi.Bn b x hx;simpa[World.setRow] using this
def IB.write{γ0 c:Gh}{w0:World}(ha:IB γ0 w0 γ w){w1:World}{g:Nat}(hg:w0.heap.size<=g)(DG:γ.le c)(hs:w1.heap.size=w.heap.size)(h1:w1.os=w.os)(h2:w1.tape=w.tape)(e:w1.output=w.output)
  (hk:∀b,b≠g->w1.heap[b]?=w.heap[b]?/\c.Bn b=γ.Bn b):IB γ0 w0 c w1:=by
 refine⟨ha.le.trans DG,by rw[hs];exact ha.size,h1.trans ha.os,h2.trans ha.tape,e.trans ha.output,λb hb hn=>?_⟩;.obtain⟨p,q⟩:=ha.KF b hb hn;obtain⟨p',d⟩:=hk b Ab;exact⟨p'.trans p,d.trans q⟩
def pT(hi:Fg γ h w){g id:Nat}{cs:List Aa}(hcs:h[id]?=some (.cells cs))(hg:γ.mu id=some g){us:Array Value}{e:TypeId}{fr:Nat×Nat}(hw:w.heap[g]?=some (.cells us e fr))(h1:∀u∈us.toList.take cs.length,u.oneCell'=true):
  Fg (γ.CC g us cs.length none) (h.set id .Ec) w/\IB γ w (γ.CC g us cs.length none) w:=by
 obtain⟨d,p,P0⟩:=hi.Kd id _ hcs Au;rw[hg] at p;cases p;have uniq:∀EI x,h[EI]?=some x->x≠ .Ec->γ.mu EI=some g->EI=id:=λEI x hx kb hm=>by obtain⟨b',p,q⟩:=hi.Kd EI x hx kb;rw[hm] at p;cases p;rw[P0] at q;cases q;rfl
 have hne:∀o v,γ.GA g o=some v->False:=λo v hv=>by obtain⟨_,_,r⟩:=hi.GA g o v hv;rw[P0] at r;rcases r with r|⟨_,_,_,r,_⟩<;>cases r
 have DG:γ.le (γ.CC g us cs.length none):=⟨λb o v hb=>by
  have:b≠g:=λhe=>by subst he;exact hne o v hb
  simp only[Gh.CC,Ac this];exact hb,λ_ _ hm=>hm,λ_ _ hm=>hm⟩
 constructor
 .refine⟨λb o v hb=>?_,λEI y Hm hy=>?_,λEI Fx hc b hb=>?_,λEI es hc b hb=>?_,λEI b hb=>by simpa using hi.mu EI b hb,λb x hx=>?_,λb n hb=>?_⟩;rotate_left 5
  .obtain⟨p,r⟩:=hi.sz b n hb;by_cases he:b=g;.subst he;exact⟨p,.inl (by simp[Gh.CC])⟩
   .exact⟨p,by simp only[Gh.CC,Ac he];exact r⟩
  .by_cases he:b=g
   .subst he;simp only[Gh.CC,BB] at hb⊢;split at hb;.rename_i hlt;exact⟨by rw[cell_of_row _ _ _ us e fr hw];exact hb,h1 v (B6 (i:=o) (by rw[Ca hlt];simpa using hb)),.inl Au⟩
    .cases hb
   .simp only[Gh.CC,Ac he] at hb⊢;exact hi.GA b o v hb
  .by_cases he:EI=id;.subst he;rw[AA (hi.mu _ _ hg)] at Hm;cases Hm;exact absurd rfl hy
   .rw[Aj (λx=>he x.symm)] at Hm;obtain⟨b,p,q⟩:=hi.Kd EI y Hm hy;have:b≠g:=λhx=>by subst hx;exact he (uniq EI y Hm hy p)
    exact⟨b,p,by simp only[Gh.CC,Ac this];exact q⟩
  .by_cases he:EI=id;.subst he;rw[AA (hi.mu _ _ hg)] at hc;cases hc
   .rw[Aj (λx=>he x.symm)] at hc;obtain⟨CS,c,kQ,p,pf,q,r⟩:=hi.cells EI Fx hc b hb;exact⟨CS,c,kQ,p,pf,AK.mono DG _ _ q,r⟩
  .by_cases he:EI=id;.subst he;rw[AA (hi.mu _ _ hg)] at hc;cases hc
   .rw[Aj (λx=>he x.symm)] at hc;obtain⟨CS,c,p,q⟩:=hi.map EI es hc b hb;exact⟨CS,c,p,q.mono DG⟩
  .by_cases he:b=g;.subst he;exact hi.Bn b _ P0
   .simp only[Gh.CC,Ac he] at hx;exact hi.Bn b x hx
 .refine⟨DG,Af _,rfl,rfl,rfl,λb hb hn=>⟨rfl,?_⟩⟩;have:b≠g:=λhe=>by subst he;exact hn id P0
  simp only[Gh.CC,Ac this]
end
end Go.Am
end
section
namespace Go.Am
def DK.Lw(C:E7)(run:IT->Ag->Option IF)(U:Bq)(h:Ag)(e:Bq)(h':Ag):DK->Prop
 | .pure ws=>e=U.Dr ws/\h'=h
 | .op p args dst Bn i=>∃v,Ax p args=some v/\e=(U.CU i).put dst (if Bn then .Bn v else .val v)/\h'=h
 | .box n v d=>v.cells.length=n/\e=U.set d (.box 0 v.cells [])/\h'=h
 | .JS fn a b fz d=>e=(U.Dr (fz.map λ(s,cs)=>(s,.val (.Cb cs)))).set d (.val (.func fn a b))/\h'=h
 | .Lb s off n v Bn i ver cells owned=>v.cells.length=n/\e=(U.CU i).set s (.box (ver+1) (Sy cells off n v.cells) (OV owned off n Bn))/\h'=h
 | .load n p dst=>∃v,BE h n p=some v/\e=U.put dst (.val v)/\h'=h
 | .store n p v=>Cx h n p v=some h'/\e=U
 | .alloc n v dst=>v.cells.length=n/\h'=h++[.cells v.cells]/\e=U.put dst (.val (.ptr (some (h.length,0))))
 | .call f args dst=>∃r,run (BK C f args) h=some (.ret,[r],h')/\e=U.put dst (if C.HP f then .Bn r else .val r)
 | .EK g args dst=>∃f args' r,CM g args=some (f,args')/\run (BK C f args') h=some (.ret,[r],h')/\e=U.put dst (.val r)
 | .Ck f args dst=>args.all Aa.KE=true/\∃r h1,run (BK C f args) []=some (.ret,[r],h1)/\r.KE=true/\e=U.put dst (.val r)/\h'=h
 | .NO dst=>h'=h++[.map []]/\e=U.put dst (.val (.map (some h.length)))
 | .Ja m k v=>QP h m k v=some h'/\e=U
 | .make z b zero l c dst=>∃v,fQ h z b zero l c=some (h',v)/\e=U.put dst (.val v)
 | .IE z b s x dst i=>∃v,K9 h z b s x=some (h',v)/\e=(U.CU i).put dst (.val v)
 | .FG z b s x dst=>∃v,hgrow h z b s x=some (h',v)/\e=U.put dst (.val v)
 | .Fk z b s x dst i=>∃v,NX h z b s x=some v/\e=(U.CU i).put dst (.Bn v)/\h'=h
 | .EE s dst=>∃v,HW h s=some (h',v)/\e=U.put dst (.val v)
 | .Uu s dst=>∃v u,La h s=some (h',v)/\Ax .Uu [v]=some u/\e=U.put dst (.val u)
 | .mem o args dst=>∃v,D4 o h args=some (h',v)/\e=U.put dst (if o.wv then .undef else .val v)
 | .Ls z ok m k dst=>∃v,QQ h z ok m k=some v/\e=U.put dst (.val v)/\h'=h
def Qd{n:Nat}{cs:List Aa}(h:cs.length=n):Sx n cs=cs:=by
 subst h;apply Oc;intro i;simp only[Sx,CT,List.getD];by_cases hi:i<cs.length;.simp[List.getElem?_range hi,Ap hi]
 .simp[hi]
def Vj{C:E7}{run:IT->Ag->Option IF}{U:Bq}{K:Bq->IT}{h:Ag}{R:IF}{r:DK}
  (hr:IT.step (BK C) run (r.Ld C U K) h=some R):∃i h',r.Lw C run U h i h'/\IT.step (BK C) run (K i) h'=some R:=by
 cases r with
 |pure ws=>exact⟨_,_,⟨rfl,rfl⟩,hr⟩
 |op p args dst Bn e=>
  simp only[DK.Ld,IT.step] at hr;split at hr;.rename_i v hv;exact⟨_,_,⟨v,hv,rfl,rfl⟩,hr⟩
  .cases hr
 |box n v d=>
  simp only[DK.Ld,IT.step] at hr;split at hr;.rename_i hn;rw[Qd hn] at hr;exact⟨_,_,⟨hn,rfl,rfl⟩,hr⟩
  .cases hr
 |JS fn a b fz d=>exact⟨_,_,⟨rfl,rfl⟩,hr⟩
 |Lb s off n v Bn e ver cells owned=>
  simp only[DK.Ld,IT.step] at hr;split at hr;.rename_i hn;rw[Qd hn] at hr;exact⟨_,_,⟨hn,rfl,rfl⟩,hr⟩
  .cases hr
 |load n p dst=>
  simp only[DK.Ld,IT.step] at hr;split at hr;.rename_i v hv;exact⟨_,_,⟨v,hv,rfl,rfl⟩,hr⟩
  .cases hr
 |store n p v=>
  simp only[DK.Ld,IT.step] at hr;split at hr;.rename_i h1 hv;exact⟨_,_,⟨hv,rfl⟩,hr⟩
  .cases hr
 |alloc n v dst=>
  simp only[DK.Ld,IT.step,Wl] at hr;by_cases hn:v.cells.length=n;.rw[Ad hn] at hr;exact⟨_,_,⟨hn,rfl,rfl⟩,hr⟩
  .rw[Ac hn] at hr;cases hr
 |call f args dst=>
  simp only[DK.Ld,IT.step] at hr;split at hr;.rename_i r h1 hv;exact⟨_,_,⟨r,hv,rfl⟩,hr⟩
  .cases hr
 |EK g args dst=>
  simp only[DK.Ld,IT.step] at hr;split at hr
  .rename_i f a' ht;split at hr;.rename_i r h1 hv;exact⟨_,_,⟨f,a',r,ht,hv,rfl⟩,hr⟩
   .cases hr
  .cases hr
 |Ck f args dst=>
  simp only[DK.Ld,IT.step] at hr;split at hr
  .rename_i HB;split at hr
   .rename_i r h1 hv;split at hr;.rename_i dy;exact⟨_,_,⟨HB,r,h1,hv,dy,rfl,rfl⟩,hr⟩
    .cases hr
   .cases hr
  .cases hr
 |NO dst=>exact⟨_,_,⟨rfl,rfl⟩,hr⟩
 |Ja m k v=>
  simp only[DK.Ld,IT.step] at hr;split at hr;.rename_i h1 hv;exact⟨_,_,⟨hv,rfl⟩,hr⟩
  .cases hr
 |Ls z ok m k dst=>
  simp only[DK.Ld,IT.step] at hr;split at hr;.rename_i v hv;exact⟨_,_,⟨v,hv,rfl,rfl⟩,hr⟩
  .cases hr
 |make z b zero l c dst=>
  simp only[DK.Ld,IT.step] at hr;split at hr;.rename_i h1 v hv;exact⟨_,_,⟨v,hv,rfl⟩,hr⟩
  .cases hr
 |IE z b s x dst e=>
  simp only[DK.Ld,IT.step] at hr;split at hr;.rename_i h1 v hv;exact⟨_,_,⟨v,hv,rfl⟩,hr⟩
  .cases hr
 |FG z b s x dst=>
  simp only[DK.Ld,IT.step] at hr;split at hr;.rename_i h1 v hv;exact⟨_,_,⟨v,hv,rfl⟩,hr⟩
  .cases hr
 |Fk z b s x dst e=>
  simp only[DK.Ld,IT.step] at hr;split at hr;.rename_i v hv;exact⟨_,_,⟨v,hv,rfl,rfl⟩,hr⟩
  .cases hr
 |EE s dst=>
  simp only[DK.Ld,IT.step] at hr;split at hr;.rename_i h1 v hv;exact⟨_,_,⟨v,hv,rfl⟩,hr⟩
  .cases hr
 |Uu s dst=>
  simp only[DK.Ld,IT.step] at hr;split at hr
  .rename_i h1 v hv;split at hr;.rename_i u hu;exact⟨_,_,⟨v,u,hv,hu,rfl⟩,hr⟩
   .cases hr
  .cases hr
 |mem o args dst=>
  simp only[DK.Ld,IT.step] at hr;split at hr;.rename_i h1 v hv;exact⟨_,_,⟨v,hv,rfl⟩,hr⟩
  .cases hr
structure Ct(C:E7)(γ0:Gh)(w0:World)(γ:Gh)(β:Nat->Nat)(U:Bq)(h:Ag)(a:Act)(w:World):Prop where
 Db:Fg γ h w
 fr:FR γ β w0.heap.size U a.tmps w
 C2:IB γ0 w0 γ w
 defers:a.defers=[]
 Fl:∀g cs,C.Fl g=some cs->Co γ cs g 0
def O1{γ:Gh}{v:Value}{a:Aa}(h:MJ v=some a):Bp γ a v/\v.oneCell'=true:=by
 unfold MJ at h;split at h;case h_7=>
  rename_i fn f c;split at h;.rename_i hs;cases h;have e1:f=#[]:=GX hs.1;have b:c=#[]:=GX hs.2;subst e1;subst b;exact⟨⟨#[],#[],rfl,rfl,rfl⟩,rfl⟩
  .cases h
 all_goals first
  |(cases h;exact⟨rfl,rfl⟩)
  |cases h
def Lf{γ:Gh}:∀{vs:List Value} {as:List Aa},J3 vs=some as->AK γ as vs/\∀v∈vs,v.oneCell'=true
 |[],as,h=>by cases h;exact⟨rfl,Au⟩
 |v::vs,as,h=>by
  unfold J3 at h;split at h;.rename_i a c h1 h2;cases h;obtain⟨p,q⟩:=O1 (γ:=γ) h1;obtain⟨p',b⟩:=Lf (γ:=γ) h2;exact⟨⟨v,vs,rfl,p,p'⟩,λx hx=>(Az.1 hx).elim (λe=>by rw[e];exact q) (b x)⟩
  .cases h
def El{γ:Gh}{v:Value}{a:Aa}(h:I4 v=some a):Bp γ a v:=by
 unfold I4 at h;split at h
 .rename_i cs;cases hs:J3 cs.toList with
  |none=>rw[hs] at h;cases h
  |some as=>rw[hs] at h;cases h;obtain⟨p,q⟩:=Lf (γ:=γ) hs;exact⟨cs,rfl,p,q⟩
 .exact(O1 h).1
section
variable{C:E7}{γ0 γ:Gh}{w0 w:World}{β:Nat->Nat}{U:Bq}{h:Ag}{a:Act}
def Oh(hr:Ct C γ0 w0 γ β U h a w){x:Operand}{sl:Dw}(hx:Dg C U x=some sl)(hn:∀s,x≠ .tmp s):∃s,Jw γ β w0.heap.size w s sl (a.eval x):=by
 unfold Dg at hx;split at hx;.exact absurd rfl (hn _)
 .cases hx;exact⟨0,rfl⟩
 .cases hx;exact⟨0,rfl,.inl (.inl rfl)⟩
 .rename_i v _ _;cases hc:I4 v with
  |none=>rw[hc] at hx;cases hx
  |some u=>rw[hc] at hx;cases hx;exact⟨0,El hc⟩
 .rename_i g;cases hc:C.Fl g with
  |none=>rw[hc] at hx;cases hx
  |some cs=>rw[hc] at hx;cases hx;exact⟨0,g,0,rfl,hr.Fl g cs hc⟩
 .cases hx;exact⟨0,#[],#[],rfl,rfl,rfl⟩
def O2(hr:Ct C γ0 w0 γ β U h a w)(s:Nat):Jw γ β w0.heap.size w s (U.at s) (a.eval (.tmp s)):=hr.fr.GB s
def E2(hr:Ct C γ0 w0 γ β U h a w){x:Operand}{sl:Dw}(hx:Dg C U x=some sl):∃s,Jw γ β w0.heap.size w s sl (a.eval x)/\∀t,x= .tmp t->s=t:=by
 cases x with
 |tmp t=>cases hx;exact⟨t,O2 hr t,λ_ h=>by cases h;rfl⟩
 |const v=>obtain⟨s,h1⟩:=Oh hr hx (by intro s h;cases h);exact⟨s,h1,λ_ h=>by cases h⟩
 |global g=>obtain⟨s,h1⟩:=Oh hr hx (by intro s h;cases h);exact⟨s,h1,λ_ h=>by cases h⟩
 |func f=>obtain⟨s,h1⟩:=Oh hr hx (by intro s h;cases h);exact⟨s,h1,λ_ h=>by cases h⟩
def Lx{B s:Nat}{sl:Dw}{v:Value}{u:Aa}(hs:Jw γ β B w s sl v)(hv:sl.FM=some u):Bp γ u v:=by
 cases sl<;>simp[Dw.FM] at hv;.subst hv;exact hs
 .subst hv;exact hs
 .subst hv;exact hs.1
def Fh(hr:Ct C γ0 w0 γ β U h a w){x:Operand}{u:Aa}(hx:DX C U x=some u):Bp γ u (a.eval x):=by
 unfold DX at hx;cases hs:Dg C U x with
 |none=>rw[hs] at hx;cases hx
 |some sl=>rw[hs] at hx;obtain⟨s,h1,_⟩:=E2 hr hs;exact Lx h1 hx
def C4(hr:Ct C γ0 w0 γ β U h a w):∀{xs:List Operand} {us:List Aa},A0 C U xs=some us->AK γ us (xs.map a.eval)
 |[],us,hx=>by cases hx;rfl
 |x::xs,us,hx=>by
  unfold A0 at hx;split at hx;.rename_i u CS h1 h2;cases hx;exact⟨_,_,rfl,Fh hr h1,C4 hr h2⟩
  .cases hx
def FR.put{B:Nat}{tmps:Array Value}(hf:FR γ β B U tmps w){d:Nat}{x:Dw}{v:Value}(hx:Jw γ β B w d x v):FR γ β B (U.set d x) (tmps.setIfInBounds d v) w:=by
 refine⟨by simp[hf.size],λs=>?_⟩;have hs:=hf.GB s;by_cases he:s=d
 .subst he;by_cases hl:s<U.length
  .have wR:s<tmps.size:=by rw[<-hf.size];exact hl
   simpa[Bq.at,List.getD,hl,wR,Array.getD] using hx
  .have wR:¬s<tmps.size:=by rw[<-hf.size];exact hl
   simpa[Bq.at,List.getD,hl,wR,Array.getD] using hs
 .have h1:Bq.at (U.set d x) s=U.at s:=by simp[Bq.at,List.getD,Aj (λe=>he e.symm)]
  have h2:(tmps.setIfInBounds d v).getD s undef=tmps.getD s undef:=by simp[FB,aC (λe=>he e.symm)]
  rw[h1,h2];exact hs
def FR.Yc{B:Nat}{tmps:Array Value}(hf:FR γ β B U tmps w){d:Nat}{x:Dw}(hx:Jw γ β B w d x (tmps.getD d undef)):FR γ β B (U.set d x) tmps w:=by
 refine⟨by simp[hf.size],λs=>?_⟩;have hs:=hf.GB s;by_cases he:s=d
 .subst he;by_cases hl:s<U.length;.simpa[Bq.at,List.getD,hl] using hx
  .simpa[Bq.at,List.getD,hl] using hs
 .have h1:Bq.at (U.set d x) s=U.at s:=by simp[Bq.at,List.getD,Aj (λe=>he e.symm)]
  rw[h1];exact hs
def Ct.put(hr:Ct C γ0 w0 γ β U h a w){d:Option Nat}{x:Dw}{v:Value}(hx:∀s,d=some s->Jw γ β w0.heap.size w s x v):Ct C γ0 w0 γ β (U.put d x) h (a.put d v) w:=by
 cases d with
 |none=>exact hr
 |some d=>exact⟨hr.Db,hr.fr.put (hx d rfl),hr.C2,hr.defers,hr.Fl⟩
def Ct.Yc(hr:Ct C γ0 w0 γ β U h a w){d:Nat}{x:Dw}(hx:Jw γ β w0.heap.size w d x (a.tmps.getD d undef)):Ct C γ0 w0 γ β (U.set d x) h a w:=
 ⟨hr.Db,hr.fr.Yc hx,hr.C2,hr.defers,hr.Fl⟩
def Ct.drop(hr:Ct C γ0 w0 γ β U h a w)(ds:List Nat):Ct C γ0 w0 γ β (U.drop ds) h a w:=by
 cases ds with
 |nil=>exact hr
 |cons d ds=>
  refine⟨hr.Db,⟨by simp[Bq.drop,hr.fr.size],λs=>?_⟩,hr.C2,hr.defers,hr.Fl⟩;have hs:=hr.fr.GB s;have e:(Bq.drop U (d::ds)).at s=match U.at s with| .Ed t o=>if(d::ds).contains t then .undef else .Ed t o|x=>x:=by
   simp only[Bq.drop,Bq.at,List.getD,CT];cases hg:U[s]? with
   |none=>rfl
   |some x=>cases x<;>rfl
  rw[e];cases hx:U.at s with
  |Ed t o=>
   rw[hx] at hs;simp only
   split;.trivial
   .exact hs
  |_=>rw[hx] at hs;exact hs
def Ct.world(hr:Ct C γ0 w0 γ β U h a w){γ':Gh}{h':Ag}{w':World}(hi:Fg γ' h' w')(ha:IB γ w γ' w'):Ct C γ0 w0 γ' β U h' a w':=
 ⟨hi,hr.fr.kept (kP.j_ hr.Db ha),hr.C2.trans ha,hr.defers,λg cs hg=>Co.mono ha.le _ _ _ (hr.Fl g cs hg)⟩
def HC{P:Program}{o:Oper}{v:Value}{w':World}{next:Act->World->Prop}{Q:Exit->Act->World->Prop}(he:(execOp a.eval o).run P w= .ok (.value v) w')(hn:next (a.put o.dst v) w'):o.wp P a w next Q:=by unfold Oper.wp;rw[he];exact hn
def aK{P:Program}{o:Oper}{w':World}{next:Act->World->Prop}{Q:Exit->Act->World->Prop}(he:(execOp a.eval o).run P w= .ok .skip w')(hn:next (a.put o.dst undef) w'):o.wp P a w next Q:=by unfold Oper.wp;rw[he];exact hn
end
end Go.Am
end
section
namespace Go.Am
def Gh.EF(γ:Gh)(g:Nat)(x:IH):Gh:={γ with Bn:=λb=>if b=g then some x else γ.Bn b}
section
variable{C:E7}{γ0 γ:Gh}{w0 w:World}{β:Nat->Nat}{U:Bq}{h:Ag}{a:Act}
def FO(γ:Gh)(g:Nat)(x:IH):γ.le (γ.EF g x):=⟨λ_ _ _ h=>h,λ_ _ h=>h,λ_ _ h=>h⟩
def Fg.EF(hi:Fg γ h w){g s s' st:Nat}{c c':Option Nat}(hg:γ.Bn g=some (.tail s c st)):Fg (γ.EF g (.tail s' c' st)) h w:=by
 refine⟨λb o v hb=>?_,λid y Hm hy=>?_,λid cs hc b hb=>?_,λid es hc b hb=>?_,hi.mu,λb x hx=>?_,λb n hb=>?_⟩;rotate_left 5
 .obtain⟨p,r⟩:=hi.sz b n hb;have:b≠g:=λhe=>by subst he;rw[hg] at r;rcases r with r|⟨_,r⟩<;>cases r
  exact⟨p,by simp only[Gh.EF,Ac this];exact r⟩
 .obtain⟨p,q,r⟩:=hi.GA b o v hb;refine⟨p,q,?_⟩;by_cases he:b=g
  .subst he;rw[hg] at r;rcases r with r|⟨_,_,_,r,hl⟩
   .cases r
   .cases r;exact .inr ⟨s',c',st,by simp[Gh.EF],hl⟩
  .simpa only[Gh.EF,Ac he] using r
 .obtain⟨b,p,q⟩:=hi.Kd id y Hm hy;have:b≠g:=λhe=>by subst he;rw[hg] at q;cases q
  exact⟨b,p,by simp only[Gh.EF,Ac this];exact q⟩
 .obtain⟨us,e,fr,p,pf,q,r⟩:=hi.cells id cs hc b hb;exact⟨us,e,fr,p,pf,AK.mono (FO γ g _) _ _ q,r⟩
 .obtain⟨us,e,p,q⟩:=hi.map id es hc b hb;exact⟨us,e,p,q.mono (FO γ g _)⟩
 .by_cases he:b=g;.subst he;exact hi.Bn b _ hg
  .simp only[Gh.EF,Ac he] at hx;exact hi.Bn b x hx
def Hq.EF{B:Nat}{s b st:Nat}{c c2:Option Nat}{v:Value}{u:Aa}{x:IH}{g:Nat}(hg:γ.Bn g=some (.tail s c st))(ho:Hq γ B w b c2 v u)(hne:b≠s\/c2≠c):Hq (γ.EF g x) B w b c2 v u:=by
 rcases ho with ho|⟨g2,n,cap,us,e,z,An,h1,h2,d,f⟩
 .exact .inl ho
 .have:g2≠g:=λhe=>by subst he;rw[hg] at d;cases d;rcases hne with hne|hne<;>exact hne rfl
  exact .inr ⟨g2,n,cap,us,e,z,An,h1,h2,by simp only[Gh.EF,Ac this];exact d,f⟩
def FR.EF{B:Nat}{tmps:Array Value}(hf:FR γ β B U tmps w){g s st:Nat}{c:Option Nat}{x:IH}(hg:γ.Bn g=some (.tail s c st))
  (h1:c=none->∀v,U.at s≠ .Bn v) (h2:∀o,c=some o->∀ver cs ow,U.at s= .box ver cs ow->o∉ow):FR (γ.EF g x) β B U tmps w:=by
 refine⟨hf.size,λd=>?_⟩;have hs:=hf.GB d;cases hx:U.at d with
 |undef=>trivial
 |skip=>rw[hx] at hs;exact hs
 |val u=>rw[hx] at hs;exact Bp.mono (FO γ g x) _ _ hs
 |MC b=>rw[hx] at hs;exact hs
 |Bn u=>
  rw[hx] at hs;refine⟨Bp.mono (FO γ g x) _ _ hs.1,hs.2.EF hg ?_⟩;by_cases he:d=s
  .subst he;cases c with
   |none=>exact absurd hx (h1 rfl u)
   |some o=>exact .inr Au
  .exact .inl he
 |box ver cs ow=>
  rw[hx] at hs;obtain⟨r,f,q,us,e,p,n,m,l⟩:=hs;have hb:β d≠g:=λhe=>by rw[he,hg] at f;cases f
  refine⟨r,by simp only[Gh.EF,Ac hb];exact f,q,us,e,p,AK.mono (FO γ g x) _ _ n,m,λo ho=>?_⟩;obtain⟨u,v,k,j,i⟩:=l o ho;refine⟨u,v,k,j,i.EF hg ?_⟩;by_cases he:d=s
  .subst he;cases c with
   |none=>exact .inr Au
   |some o'=>refine .inr λhe=>?_;cases he;exact h2 o rfl ver cs ow hx ho
  .exact .inl he
 |Ed s' o=>rw[hx] at hs;exact hs
def Ct.EF(hr:Ct C γ0 w0 γ β U h a w){g s st s':Nat}{c c':Option Nat}(hg:γ.Bn g=some (.tail s c st))(hB:w0.heap.size<=g)
  (h1:c=none->∀v,U.at s≠ .Bn v) (h2:∀o,c=some o->∀ver cs ow,U.at s= .box ver cs ow->o∉ow):Ct C γ0 w0 (γ.EF g (.tail s' c' st)) β U h a w:=by
 refine⟨hr.Db.EF hg,hr.fr.EF hg h1 h2,?_,hr.defers,λx cs hx=>Co.mono (FO γ g _) _ _ _ (hr.Fl x cs hx)⟩;refine⟨hr.C2.le.trans (FO γ g _),hr.C2.size,hr.C2.os,hr.C2.tape,hr.C2.output,λb hb hn=>?_⟩;.obtain⟨p,q⟩:=hr.C2.KF b hb hn;exact⟨p,by simp only[Gh.EF,Ac (Ab:b≠g)];exact q⟩
def Bq.Em{s:Nat}{x:Dw}(hs:s<U.length):Bq.at (U.set s x) s=x:=by simp[Bq.at,List.getD,hs]
def Bq.EN{s t:Nat}{x:Dw}(hs:s≠t):Bq.at (U.set s x) t=U.at t:=by simp[Bq.at,List.getD,Aj hs]
def Bq.MO{s:Nat}(hs:U.at s≠ .undef):s<U.length:=by
 rcases BH s U.length with h|h
 .exact h
 .exact absurd (by simp[Bq.at,List.getD,Dd h]) hs
def Ct.take(hr:Ct C γ0 w0 γ β U h a w){s:Nat}{v:Aa}(hs:U.at s= .Bn v)(s':Nat)(c':Option Nat):
  ∃γ',γ.le γ'/\Ct C γ0 w0 γ' β (U.set s (.val v)) h a w/\Bp γ' v (a.tmps.getD s undef)/\Hq γ' w0.heap.size w s' c' (a.tmps.getD s undef) v:=by
 have h0:=hr.fr.GB s;rw[hs] at h0;obtain⟨hv,ho⟩:=h0;have Ij:Ct C γ0 w0 γ β (U.set s (.val v)) h a w:=hr.Yc hv;have hl:s<U.length:=Bq.MO (by rw[hs];simp);rcases ho with ho|⟨g,n,cap,us,e,z,An,h1,h2,d,b,c⟩
 .exact⟨γ,.refl _,Ij,hv,.inl ho⟩
 .refine⟨γ.EF g (.tail s' c' (n*z)),FO _ _ _,Ij.EF d b (λ_ u=>?_) (λo ho=>by cases ho),Bp.mono (FO _ _ _) _ _ hv,.inr ⟨g,n,cap,us,e,z,An,h1,h2,by simp[Gh.EF],b,c⟩⟩;rw[Bq.Em hl];simp
def Wp{B s d:Nat}{sl ņ:Dw}{v:Value}(hs:Jw γ β B w s sl v)(hc:GJ sl=some ņ):Jw γ β B w d ņ v:=by
 cases sl<;>simp[GJ] at hc;.subst hc;exact hs
 .subst hc;exact hs
 .subst hc;exact hs.1
 .subst hc;exact hs
def L1{ws:List (Nat×Dw)}(h:∀p∈ws,∀cs ow,p.2≠ .box 0 cs ow):(DK.pure ws).news=[]:=by
 simp only[DK.news,List.filterMap_eq_nil_iff];rintro⟨s,x⟩ hp;have:=h _ hp;cases x with
 |box ver cs ow=>
  cases ver with
  |zero=>exact absurd rfl (this cs ow)
  |succ n=>rfl
 |_=>rfl
def O3{v:Value}{sl:Dw}(hs:Dg C U (.const v)=some sl):(∀B d,Jw γ β B w d sl v)/\∀ver cs ow,sl≠ .box ver cs ow:=by
 unfold Dg at hs;split at hs;.rename_i Hy;cases Hy
 .rename_i Hy;cases Hy;cases hs;exact⟨λ_ _=>rfl,λ_ _ _ h=>by cases h⟩
 .rename_i Hy;cases Hy;cases hs;exact⟨λ_ _=>⟨rfl,.inl (.inl rfl)⟩,λ_ _ _ h=>by cases h⟩
 .rename_i Hy;cases Hy;cases hc:I4 v with
  |none=>rw[hc] at hs;cases hs
  |some u=>rw[hc] at hs;cases hs;exact⟨λ_ _=>El hc,λ_ _ _ h=>by cases h⟩
 .rename_i Hy;cases Hy
 .rename_i Hy;cases Hy
def FA{s:Nat}{sl:Dw}(hs:Dg C U (.tmp s)=some sl):U.at s=sl:=Da hs
def aL{x:Operand}{v:Aa}(hs:Dg C U x=some (.Bn v))(hn:∀c,x≠ .const c):∃s,x= .tmp s/\U.at s= .Bn v:=by
 cases x with
 |tmp s=>exact⟨s,rfl,FA hs⟩
 |const c=>exact absurd rfl (hn c)
 |global g=>have XV:(C.Fl g).map (λcs=>Dw.val (Aa.Cb cs))=some (.Bn v):=hs;cases hc:C.Fl g<;>rw[hc] at XV<;>cases XV
 |func f=>cases hs
def O4{x:Operand}{d:Nat}{take:Bool}{r:DK}{run:IT->Ag->Option IF}{b:Bq}{h':Ag}(hm:IK C U x d take=some r)(hd:r.Lw C run (U.drop r.news) h b h')
  (hr:Ct C γ0 w0 γ β U h a w):∃γ',Ct C γ0 w0 γ' β b h' (a.put (some d) (a.eval x)) w:=by
 unfold IK at hm;split at hm;.rename_i s _ _ _ hs;cases hm;rw[L1 Au] at hd;obtain⟨rfl,rfl⟩:=hd;refine⟨γ,hr.put (d:=some d) λt ht=>?_⟩;have h0:=O2 hr s;rw[FA hs] at h0;exact h0.1
 .rename_i v sl hs;cases hm;obtain⟨p,q⟩:=O3 (γ:=γ) (β:=β) (w:=w) hs;rw[L1 (by simpa using λcs ow=>q 0 cs ow)] at hd;obtain⟨rfl,rfl⟩:=hd;exact⟨γ,hr.put (d:=some d) λt _=>p _ t⟩
 .rename_i v hnc hs;split at hm;.cases hm;obtain⟨s,rfl,ee⟩:=aL hs (λc hc=>hnc c hc);rw[L1 (by simp[OU])] at hd;obtain⟨rfl,rfl⟩:=hd;obtain⟨γ',DG,FH,Gv,v8⟩:=hr.take ee d none;exact⟨γ',FH.put (d:=some d) λt ht=>by cases ht;exact⟨Gv,v8⟩⟩
  .simp only[GJ,BM] at hm;cases hm;rw[L1 Au] at hd;obtain⟨rfl,rfl⟩:=hd;obtain⟨s,h1,_⟩:=E2 hr hs;exact⟨γ,hr.put (d:=some d) λt ht=>h1.1⟩
 .rename_i sl _ _ _ hs;cases hc:GJ sl with
  |none=>rw[hc] at hm;cases hm
  |some ņ=>
   rw[hc] at hm;cases hm;have pU:∀cs ow,ņ≠ .box 0 cs ow:=by intro cs ow he;subst he;cases sl<;>simp[GJ] at hc
   rw[L1 (by simpa using pU)] at hd;obtain⟨rfl,rfl⟩:=hd;obtain⟨s,h1,_⟩:=E2 hr hs;exact⟨γ,hr.put (d:=some d) λt ht=>Wp h1 hc⟩
 .cases hm
end
end Go.Am
end
section
namespace Go.Am
open Go
def SF{s:Sem Value}{v:Value}(h:Nu s=some v):s= .pure v:=by cases s<;>simp[Nu] at h;subst h;rfl
section
variable{P:Program}{γ:Gh}{w:World}
def Yd{op:BinOp}{k l:IntKind}{x y:Int}{u:Aa}(t:TypeId)(c b:Operand)(h:fN op k x l y=some u):
  ∃v,(do eqGuard op t c b (.int k x) (.int l y);binOp op t (.int k x) (.int l y):Sem Value).run P w= .ok v w/\Bp γ u v:=by
 unfold fN at h;cases hs:Nu (binOp op 0 (.int k x) (.int l y)) with
 |none=>rw[hs] at h;cases h
 |some v=>
  rw[hs] at h;have e1:=SF hs;have e:binOp op t (.int k x) (.int l y)= .pure v:=by rw[<-e1];cases op<;>rfl
  have d:eqGuard op t c b (.int k x) (.int l y)=pure ():=by cases op<;>rfl
  refine⟨v,by rw[d,e];rfl,?_⟩;simp only[BU] at h;split at h<;>cases h<;>rfl
def Wq(l:List UInt8):(ByteArray.mk ⟨l⟩).toList=l:=ByteArray.toList_mk l
def Ye{op:BinOp}{x y:Aq}{u:Aa}(t:TypeId)(d c:Operand)(h:X8 op x y=some u):
  ∃v,(do eqGuard op t d c (.string ⟨⟨x⟩⟩) (.string ⟨⟨y⟩⟩);binOp op t (.string ⟨⟨x⟩⟩) (.string ⟨⟨y⟩⟩):Sem Value).run P w= .ok v w/\Bp γ u v:=by
 have e:eqGuard op t d c (.string ⟨⟨x⟩⟩) (.string ⟨⟨y⟩⟩)=pure ():=by cases op<;>rfl
 have b:binOp op t (.string ⟨⟨x⟩⟩) (.string ⟨⟨y⟩⟩)=Op.stringOp op ⟨⟨x⟩⟩ ⟨⟨y⟩⟩:=by cases op<;>rfl
 rw[e,b];unfold X8 at h;cases op<;>simp only at h<;>first
  |cases h;done
  |(simp only[Op.stringOp,Wq];cases h;exact⟨_,rfl,rfl⟩)
  | (split at h
     . rename_i DG
       cases h
       have hc : ¬ ((((ByteArray.mk ⟨x⟩).size + (ByteArray.mk ⟨y⟩).size : Nat) : Int) > IntKind.i64.max) := by
         have e1 : (ByteArray.mk ⟨x⟩).size = x.length := rfl
         have b : (ByteArray.mk ⟨y⟩).size = y.length := rfl
         rw [e1, b]
         have : IntKind.i64.max = 9223372036854775807 := Be
         rw [this]
         omega
       simp only [Op.stringOp, Ac hc]
       refine ⟨_, rfl, ?_⟩
       show Value.string _ = Value.string _
       first
         | (congr 1; done)
         | (congr 1; apply ByteArray.ext; simp)
     . cases h)
def aM{t:TypeId}(h:Ei P t=some none):(isAgg t).run P w= .ok false w:=by
 unfold Ei at h;split at h;.cases hs:BD P t<;>rw[hs] at h<;>cases h
 .cases hs:BD P t<;>rw[hs] at h<;>cases h
 .rename_i d h1 h2 hu;simp only[isAgg,Sem.run_bind,run_underlying hu,Result.andThen_ok];rfl
 .cases h
def Oi{t:TypeId}{n:Nat}(h:Ei P t=some (some n)):(isAgg t).run P w= .ok true w/\BD P t=some n:=by
 unfold Ei at h;split at h
 .rename_i fs hu;cases hs:BD P t with
  |none=>rw[hs] at h;cases h
  |some m=>rw[hs] at h;cases h;exact⟨by simp[isAgg,run_underlying hu],rfl⟩
 .rename_i fs _ hu;cases hs:BD P t with
  |none=>rw[hs] at h;cases h
  |some m=>rw[hs] at h;cases h;exact⟨by simp[isAgg,run_underlying hu],rfl⟩
 .cases h
 .cases h
def CV{t:TypeId}{n:Nat}(h:BD P t=some n):(sizeOf t).run P w= .ok n w:=by
 unfold BD at h;cases hi:P.info? t with
 |none=>rw[hi] at h;cases h
 |some i=>rw[hi] at h;cases h;simp[sizeOf,typeInfo,hi]
def Yf{t:TypeId}{b:Option Nat}{cs:List Aa}{us:Array Value}{off:Nat}{u:Aa}(Z3:Ei P t=some b)(hr:AK γ cs us.toList)(h1:∀v∈us.toList,v.oneCell'=true)
  (hp:Ek cs off b=some u):∃v,(part t us off).run P w= .ok v w/\Bp γ u v:=by
 cases b with
 |none=>
  replace hp:cs[off]?=some u:=hp;obtain⟨v,hv,hrel⟩:=hr.get hp;refine⟨v,?_,hrel⟩;have Gv:us[off]?=some v:=by simpa using hv
  simp[part,aM Z3,Gv]
 |some n=>
  obtain⟨ha,hs⟩:=Oi (w:=w) Z3;replace hp:(if off+n<=cs.length then some (Aa.agg ((cs.drop off).take n)) else none)=some u:=hp;split at hp
  .cases hp;refine⟨.agg (us.extract off (off+n)),by simp[part,ha,CV hs],us.extract off (off+n),rfl,?_,?_⟩;.have:=(hr.drop off).take n;simpa[LR,Ge] using this
   .intro v hv;refine h1 v ?_;rw[LR,Ge] at hv;exact A7 (AN hv)
  .cases hp
end
end Go.Am
end
section
namespace Go.Am
open Go
def pV{x y:Aa}{b:Bool}(h:Ka .b x y=some b):∃p q,x= .bool p/\y= .bool q/\(p==q)=b:=by unfold Ka at h;split at h<;>first|cases h;done|(rename_i he;cases he;done)|(cases h;exact⟨_,_,rfl,rfl,rfl⟩)
def pW{x y:Aa}{b:Bool}(h:Ka .i x y=some b):∃k p q,x= .int k p/\y= .int k q/\(p==q)=b:=by
 unfold Ka at h;split at h;.rename_i he;cases he
 .split at h;.rename_i hk;subst hk;cases h;exact⟨_,_,_,rfl,rfl,rfl⟩
  .cases h
 .rename_i he;cases he
 .cases h
def pX{x y:Aa}{b:Bool}(h:Ka .s x y=some b):∃p q,x= .str p/\y= .str q/\(p==q)=b:=by
 unfold Ka at h;split at h;.rename_i he;cases he
 .rename_i he;cases he
 .cases h;exact⟨_,_,rfl,rfl,rfl⟩
 .cases h
def MP:∀{ks ke:List FK} {xs ys:List Aa} {b:Bool},Dh (ks++ke) xs ys=some b->
  ∃b1 b2,Dh ks (xs.take ks.length) (ys.take ks.length)=some b1/\Dh ke (xs.drop ks.length) (ys.drop ks.length)=some b2/\b=(b1&&b2)
 |[],ke,xs,ys,b,h=>⟨true,b,by simp[Dh],by simpa using h,Au⟩
 |k::ks,ke,[],ys,b,h=>by cases ys<;>simp[Dh] at h
 |k::ks,ke,x::xs,[],b,h=>by simp[Dh] at h
 |k::ks,ke,x::xs,y::ys,b,h=>by
  simp only[BW,Dh] at h;split at h;.rename_i e es h1 h2;cases h;obtain⟨b1,b2,p,q,r⟩:=MP h2;refine⟨e&&b1,b2,?_,by simpa using q,by rw[r,Bool.and_assoc]⟩;simp only[AH,U7,Dh,h1,p]
  .cases h
def MQ:∀{ks:List FK} {xs ys:List Aa} {b:Bool},Dh ks xs ys=some b->xs.length=ks.length/\ys.length=ks.length
 |[],xs,ys,b,h=>by cases xs<;>cases ys<;>simp[Dh] at h⊢
 |k::ks,xs,ys,b,h=>by
  cases xs<;>cases ys<;>simp[Dh] at h;split at h;.rename_i h1 h2;obtain⟨p,q⟩:=MQ h2;simp[p,q]
  .cases h
section
variable{P:Program}{γ:Gh}{w:World}
def Vk:∀{d:Nat} {t:TypeId} {ks:List FK},MM P d t=some ks->BD P t=some ks.length
 |0,t,ks,h=>by cases h
 |d+1,t,ks,h=>by
  simp only[MM] at h;split at h;.split at h<;>cases h;assumption
  .split at h<;>cases h;assumption
  .split at h<;>cases h;assumption
  .split at h
   .split at h;.rename_i hc;cases h;exact hc.1
    .cases h
   .cases h
  .cases h
def aN{ks:List FK}{k:FK}{t:TypeId}(h:(if BD P t=some 1 then some [k] else none)=some ks):ks=[k]:=by split at h<;>cases h;rfl
def Fi{t:TypeId}{us:Array Value}{off:Nat}{v:Value}{d:TypeDesc}(hu:P.underlying t=some d)(h1:∀fs,d≠ .struct fs)(h2:∀n e,d≠ .array n e)(hv:us[off]?=some v):
  (part t us off).run P w= .ok v w:=by
 have ha:(isAgg t).run P w= .ok false w:=by simp only[isAgg,Sem.run_bind,run_underlying hu,Result.andThen_ok];cases d<;>first|rfl|exact absurd rfl (h1 _)|exact absurd rfl (h2 _ _)
 simp[part,ha,hv]
def HX{l:List Aa}{off:Nat}{x:Aa}(h:(l.drop off).take 1=[x]):l[off]?=some x:=by have:=B1 (·[0]?) h;simpa using this
def SG{k:FK}{xs ys:List Aa}{b:Bool}(h:Dh [k] xs ys=some b):∃x y,xs=[x]/\ys=[y]/\Ka k x y=some b:=by
 cases xs<;>cases ys<;>simp[Dh] at h;rename_i x xs y ys;cases xs<;>cases ys<;>simp[Dh] at h;all_goals first
  | (split at h
     . rename_i e es h1 h2; cases h2; cases h; exact ⟨x, y, rfl, rfl, by simpa using h1⟩
     . cases h)
  |(split at h<;>simp_all)
mutual
def Yg:∀{d D:Nat},d<=D->∀{t:TypeId} {ks:List FK},MM P d t=some ks->∀(us vs:Array Value) (cs ds:List Aa) (off:Nat) (b:Bool),AK γ cs us.toList->AK γ ds vs.toList->
  Dh ks ((cs.drop off).take ks.length) ((ds.drop off).take ks.length)=some b->
  ∃x y,(part t us off).run P w= .ok x w/\(part t vs off).run P w= .ok y w/\(Op.equalIn D t x y).run P w= .ok b w
 |0,_,_,_,_,h=>by cases h
 |d+1,0,hd,_,_,_=>Ab
 |d+1,D+1,hd,t,ks,h=>by
  intro us vs cs ds off b hu hv he;have hsz:=Vk h;simp only[MM] at h;split at h;.rename_i Vl;have:=aN h;subst this;obtain⟨x,y,e1,l,k⟩:=SG he;obtain⟨x',i,g⟩:=hu.get (HX e1);obtain⟨c,f,e⟩:=hv.get (HX l);refine⟨x',c,Fi Vl Au Au (by simpa using i),Fi Vl Au Au (by simpa using f),?_⟩;obtain⟨n,m,rfl,rfl,j⟩:=pV k;rw[g,e,run_equalIn_bool' w D t _ _ Vl,<-j]
  .rename_i kk Vl;have:=aN h;subst this;obtain⟨x,y,e1,l,k⟩:=SG he;obtain⟨x',i,g⟩:=hu.get (HX e1);obtain⟨c,f,e⟩:=hv.get (HX l);refine⟨x',c,Fi Vl Au Au (by simpa using i),Fi Vl Au Au (by simpa using f),?_⟩;obtain⟨o,n,m,rfl,rfl,j⟩:=pW k;rw[g,e,run_equalIn_int w D t _ _ _ _ Vl,<-j]
  .rename_i Vl;have:=aN h;subst this;obtain⟨x,y,e1,l,k⟩:=SG he;obtain⟨x',i,g⟩:=hu.get (HX e1);obtain⟨c,f,e⟩:=hv.get (HX l);refine⟨x',c,Fi Vl Au Au (by simpa using i),Fi Vl Au Au (by simpa using f),?_⟩;obtain⟨n,m,rfl,rfl,j⟩:=pX k;rw[g,e,run_equalIn_string w D t _ _ Vl,Wq,Wq,<-j]
  .rename_i fs Vl;split at h
   .rename_i ke Ly;split at h
    .rename_i hc;cases h;have Z3:Ei P t=some (some ks.length):=by simp[Ei,Vl,hsz]
     obtain⟨ha,hs⟩:=Oi (w:=w) Z3;refine⟨.agg (us.extract off (off+ks.length)),.agg (vs.extract off (off+ks.length)),by simp[part,ha,CV hs],by simp[part,ha,CV hs],?_⟩;have ż:P.underlying t=some (.struct (P.fieldsOf t)):=by simp[Program.fieldsOf,Vl]
     rw[run_equalIn_struct w D t _ _ ż hc.2];have hf:(P.fieldsOf t).toList=fs.toList:=by simp[Program.fieldsOf,Vl]
     rw[hf];have aO:AK γ ((cs.drop off).take ks.length) (us.extract off (off+ks.length)).toList:=by have:=(hu.drop off).take ks.length;simpa[LR,Ge] using this
     have Gv:AK γ ((ds.drop off).take ks.length) (vs.extract off (off+ks.length)).toList:=by have:=(hv.drop off).take ks.length;simpa[LR,Ge] using this
     refine Vm (Nat.le_of_succ_le_succ hd) fs.toList Ly _ _ _ _ _ aO Gv ?_;simpa using he
    .cases h
   .cases h
  .cases h
def Vm:∀{d D:Nat},d<=D->∀(fs:List Field) {off:Nat} {ks:List FK},Su (MM P d) fs off=some ks->∀(us vs:Array Value) (cs ds:List Aa) (b:Bool),AK γ cs us.toList->AK γ ds vs.toList->
  Dh ks (cs.drop off) (ds.drop off)=some b->(Op.eqFields D us vs fs).run P w= .ok b w
 |d,D,hd,[],off,ks,h=>by
  intro us vs cs ds b hu hv he;cases h;have:b=true:=by cases h1:cs.drop off<;>cases h2:ds.drop off<;>rw[h1,h2] at he<;>simp[Dh] at he;exact he
  subst this;rfl
 |d,D,hd,f::fs,off,ks,h=>by
  intro us vs cs ds b hu hv he;simp only[Su] at h;split at h
  .rename_i hc;obtain⟨hn,xh⟩:=hc;split at h
   .rename_i c XW;cases hr:Su (MM P d) fs (off+c.length) with
    |none=>rw[hr] at h;cases h
    |some j=>
     rw[hr] at h;cases h;obtain⟨b1,b2,e1,k,rfl⟩:=MP he;obtain⟨x,y,i,g,e⟩:=Yg hd XW _ _ _ _ _ _ hu hv e1;simp only[Op.eqFields,hn,CF,AV,BB,xh,Sem.run_bind,i,g,e,Result.andThen_ok];cases b1;.rfl
     .simp only[Bool.not_true,C0,EH,Bool.true_and];exact Vm hd fs hr _ _ _ _ _ hu hv (by simpa[DU] using k)
   .cases h
  .cases h
end
def Yh{op:BinOp}{t:TypeId}{d c:Operand}{neg:Bool}{ks:List FK}{a b:List Aa}{x y:Value}{u:Aa}(NY:(op= .eql/\neg=false)\/(op= .neq/\neg=true))
  (hg:P.eqGuardType P.depth t=false) (hk:MM P 20 t=some ks) (Hz:∃fs,P.underlying t=some (.struct fs)) (hx:Bp γ (.agg a) x) (hy:Bp γ (.agg b) y) (h:(Dh ks a b).map (λe=>Aa.bool (e != neg))=some u):
  ∃v,(do eqGuard op t d c x y;binOp op t x y:Sem Value).run P w= .ok v w/\Bp γ u v:=by
 obtain⟨us,rfl,hu,_⟩:=hx;obtain⟨vs,rfl,hv,_⟩:=hy;cases he:Dh ks a b with
 |none=>rw[he] at h;cases h
 |some e=>
  rw[he] at h;cases h;obtain⟨l1,l2⟩:=MQ he;obtain⟨x',j,i,g,f⟩:=Yg (w:=w) (P:=P) (γ:=γ) (D:=10000) (Ab:20<=10000) hk us vs a b 0 e hu hv (by rw[Ky,Ky,AT (Kz l1),AT (Kz l2)];exact he);obtain⟨fs,Ly⟩:=Hz;have Z3:Ei P t=some (some ks.length):=by simp[Ei,Ly,Vk hk]
  obtain⟨ha,hs⟩:=Oi (w:=w) Z3;have e1:us.extract 0 ks.length=us:=by
   have:us.size=ks.length:=by have:=hu.length;simp at this;omega
   rw[<-this];simp
  have m:vs.extract 0 ks.length=vs:=by
   have:vs.size=ks.length:=by have:=hv.length;simp at this;omega
   rw[<-this];simp
  have l:x'= .agg us:=by simp[part,ha,CV hs,e1] at i;exact i.symm
  have k:j= .agg vs:=by simp[part,ha,CV hs,m] at g;exact g.symm
  subst l;subst k;rcases NY with⟨rfl,rfl⟩|⟨rfl,rfl⟩
  .refine⟨.bool e,by simp[run_eqGuard_agg (P:=P) w .eql t d c us vs hg,run_eql_struct,f],?_⟩;show Value.bool e=Value.bool _;cases e<;>rfl
  .refine⟨.bool (!e),by simp[run_eqGuard_agg (P:=P) w .neq t d c us vs hg,run_neq_struct,f],?_⟩;show Value.bool _=Value.bool _;cases e<;>rfl
end
end Go.Am
end
