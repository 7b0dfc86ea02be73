/- Lemmas -/
import Derived.Test.YtffmdapalbecoaaGreatDoorO17
set_option linter.all false
open List renaming length→zz,Sublist→zu
open Option renaming some→zy,none→zf
open Go.Am.Aa renaming str→zx,int→zt,beq→zj,agg→zh,slnil→ze,bool→zd,ptr→zb
open Go.Am.Oc renaming append→z2
open Bool renaming false→zq,true→zm
open Go.IntKind renaming i64→zp
open Or renaming inl→zo,inr→zi
open UInt8 renaming ofNat→zn
open Go.Am.DG renaming cells→zl
noncomputable section
set_option maxRecDepth 100000
section
namespace Go.Am
open Go
section
section
variable{U:Type}{z:Nat}
section
variable{AD:List (List U)}(h:∀r∈AD,r.length=z)
def Gq:zz AD.flatten=zz AD*z:=by
 induction AD with
 |nil=>simp
 |cons q AD ih=>rw[Dt,Aw,h q AH,ih λr hr=>h r (by simp[hr]),Bn,B9];omega
def eS:∀{k:Nat},AD.flatten.take (k*z)=(AD.take k).flatten:=by
 induction AD with
 |nil=>intro k;simp
 |cons q AD ih=>
  intro k;have hq:=h q AH;cases k with
  |zero=>simp
  |succ k=>rw[Dt,B9,Gd,P2,cw,AF Ab,hq,UL,ih λr hr=>h r (by simp[hr])];simp
def Js:∀{k:Nat},AD.flatten.drop (k*z)=(AD.drop k).flatten:=by
 induction AD with
 |nil=>intro k;simp
 |cons q AD ih=>
  intro k;have hq:=h q AH;cases k with
  |zero=>simp
  |succ k=>rw[Dt,B9,Gd,P2,UI,AT Ab,hq,UL,ih λr hr=>h r (by simp[hr])];simp
def rY{k:Nat}(hk:k<zz AD)(q:List U):AD.flatten.take (k*z)++q++AD.flatten.drop (k*z+z)=(AD.set k q).flatten:=by
 have e:k*z+z=(k+1)*z:=by grind
 rw[e,eS h,Js h,B1,Af hk];simp
end
section
variable{AD:List (List Aa)}(h:∀r∈AD,r.length=z)
def eT:∀{n off:Nat},off+n<=zz AD->CD AD.flatten z (off*z) n=(AD.drop off).take n:=by
 intro n;induction n with
 |zero=>intro off _;simp[CD]
 |succ n ih=>
  intro off hl;rw[CD];have e:off*z+z=(off+1)*z:=by rw[B9,Gd]
  rw[e,ih Ab,Js h];have hlt:off<zz AD:=Ab;rw[AG hlt,Dt,C6 (by rw[h _ (AN hlt)];exact Ae _),AF (by rw[h _ (AN hlt)];exact Ae _),cW]
def I_:CD AD.flatten z 0 (zz AD)=AD:=by have:=eT h (n:=zz AD) (off:=0) Ab;grind
end
end
section
variable{h:Ah}{id z n:Nat}{AD:List (List Aa)}
def Kr(hr:∀r∈AD,zz r=z)(hc:h[id]?=zy (zl AD.flatten)):KY h (.CC id 0 (zz AD) z)=zy (h.set id .CU,.sl z AD):=by simp only[KY,hc,B2];rw[Af (by rw[Gq hr];exact Ae _),I_ hr]
def Fk{k:IntKind}{i:Nat}(hi:i<n):AA (.EE z) [.CC id 0 n z,zt k (i:Int)]=zy (zb (zy (id,i*z))):=by
 have:MM (i:Int) n=zy i:=by rw[MM];rw[Af Ab];rfl
 simp[AA,elemOf,this]
section
variable(hr:∀r∈AD,r.length=z)
def Wo(hc:h[id]?=zy (zl AD.flatten)){i:Nat}(hi:i<zz AD){q:List Aa}(hq:zz q=z):Cy h z (zb (zy (id,i*z))) (zh q)=zy (h.set id (zl (AD.set i q).flatten)):=by
 simp[Cy,hc,Vf];have:i*z+z<=zz AD.flatten:=by rw[Gq hr];have:=Ea z (Ab:i+1<=zz AD);grind
 rw[<-rY hr hi];grind
end
def rZ(hr:∀r∈AD,zz r=z){i:Nat}{q:List Aa}(hq:zz q=z):∀r∈AD.set i q,zz r=z:=by grind
def M0{U:Type}{f:U->List Aa}(hf:∀a,(f a).length=z)(l:List U):∀r∈l.map f,zz r=z:=by simp_all
section
variable{s v:Aa}{b:Nat}(hs:s= .slnil\/s= .sl z [])
def LX(hv:AX z AD v)(hne:AD≠[])(hb:zz AD*b<=A0):Lj h z b s v=zy (h++[zl AD.flatten],.CC (zz h) 0 (zz AD) z):=by
 obtain rfl|⟨rfl,hv⟩:=hv
 .cases AD with
  |nil=>cases hne rfl
  |cons r AD=>rw[Bn] at hb;obtain rfl|rfl:=hs<;>simp[Lj,Qc,hb]
 .cases hne hv
def QC(hv:AX z [] v):Lj h z b s v=zy (h,s):=by obtain rfl|⟨rfl,hv⟩:=hv<;>obtain rfl|rfl:=hs<;>simp[Lj,Qc]
end
def yE{v:Aa}{b:Nat}(hv:AX z [] v):GF h z b (.CC id 0 n z) v=zy (h,.CC id 0 n z):=by obtain rfl|⟨rfl,hv⟩:=hv<;>simp[GF,Hz]
def Kb{v:Aa}{b:Nat}{r2:List (List Aa)}(hr:∀r∈AD,zz r=z)(hz:0<z)(hc:h[id]?=zy (zl AD.flatten))(hv:AX z r2 v)(hne:r2≠[])(hb:(zz AD+zz r2)*b<=A0):
  GF h z b (.CC id 0 (zz AD) z) v=zy (h.set id .CU++[.cells (AD++r2).flatten],.CC (zz h) 0 (zz AD+zz r2) z):=by
 obtain rfl|⟨rfl,hv⟩:=hv
 .cases r2 with
  |nil=>cases hne rfl
  |cons r r2=>
   have hl:=Gq hr;have h1:¬(0+(zz AD+(r::r2).length)*z<=zz AD.flatten):=by simp_all
   rw[GF];simp[Hz,BR,hc];grind
 .cases hne hv
end
end
section
section
end
def Gr:List Ai:=[[100,100],[100,116],[108,105],aYe,aXR,[112],[114,98],[114,112],[114,116],aYx]
def Ks:List Ai:=[aX4,aYk,aYq,[116,100],aYo,[116,104],aYr,[116,114]]
def Lo:List Ai:=[[109,105],[109,110],[109,111],[109,115],[109,116,101,120,116]]
def Ro:List Ai:=[aYZ,aYb,aXT]
section
end
def CZ:List Ai:=[[104,49],[104,50],[104,51],[104,52],[104,53],[104,54]]
def Dh(k:Int)(s:Ai):Bool:=
 if k=3 then decide (s=aXQ\/s∈Lo) else if k=2 then decide (s∈Ro) else if k=1 then decide (s∈Ox) else zq
def sw(s:Ai)(t e:IT):List Ai->IT
 |[]=>e
 |c::cs=> .op (.str .eql) [zx s,zx c] λv=> .GJ v t (sw s t e cs)
def J_{C:GN}{Q:HC}{h:Ah}{s:Ai}{t e:IT}:∀{cs:List Ai},W C (sw s t e cs) Q h↔(s∈cs->W C t Q h)/\(s∉cs->W C e Q h)
 |[]=>by simp[sw]
 |c::cs=>by simp[sw,Y8,gh,Qy,Ow,Y9,AR,Ly];rw[J_];grind
def LY{C:GN}{f:FuncId}{args:List Aa}{r:Aa}:JN C f args r↔W C (B8 C f args) (λx vs _=>x= .ret/\vs=[r]) []:=by unfold JN Ev;grind
end
section
def Se{cur:Ai}:DD cur []=[cur]:=by rfl
def QD{cur r:Ai}{c:UInt8}:DD cur (c::r)=if c=32 then cur::DD [] r else DD (cur++[c]) r:=by rw[DD]
def GA(l s:Ai):Bool:=decide (s≠[]/\(32:UInt8)∉s/\s∈DD [] l)
def Zl{s:Ai}{a n:Nat}(ha:a<=n)(hn:n<zz s):(s.take (n+1)).drop a=(s.take n).drop a++[s[n]]:=by rw[AB hn,OP EP]
end
section
def El{l:Ai}{ws:List Ai}{s:Ai}(h1:DD [] l=ws)(h2:ws.all (λw=> !w.isEmpty&& !w.contains 32)=zm):GA l s=decide (s∈ws):=by rw[GA];grind
section
variable{Q:HC}{h:Ah}{k:Aa->IT}{s:Ai}
def yF:GA aXo s=decide (s∈Ox):=El Bx Bx
def i5:GA aYh s=decide (s∈Lo):=El Bx Bx
def sB:GA aXV s=decide (s∈Ro):=El Bx Bx
def yG:GA aXC s=decide (s∈Gr):=El Bx Bx
def sC:GA aXI s=decide (s∈Ks):=El Bx Bx
def Jt:List Ai:=DD [] aXp
def IE:List Ai:=DD [] aXn
def O9:List Ai:=[aXv,aXA,aXs]
def rj:GA aX9 s=decide (s∈O9):=El Bx Bx
def M1:List Ai:=[aYe,aXR]
def yH:GA aXJ s=decide (s∈M1):=El Bx Bx
def SU:List Ai:=[[111,108],[117,108]]
def K_:GA aY3 s=decide (s∈SU):=El Bx Bx
def Pb:List Ai:=[aYJ,aX4,aXv,aYE,aYM,aXA,[116,100],aXs,[116,104]]
def rl:GA aXB s=decide (s∈Pb):=El Bx Bx
end
end
section
def Ju(c:UInt8):UInt8:=if 65<=c.toNat/\c.toNat<=90 then c+32 else c
def FI(s:Ai):Ai:=s.map Ju
def TP{c:UInt8}(h:65<=c.toNat/\c.toNat<=90):((Ju c).toNat:Int)=(c.toNat:Int)+32:=by rw[Ju];rw[Af h,UInt8.toNat_add];grind
def Pc{c:UInt8}(h:¬(65<=c.toNat/\c.toNat<=90)):Ju c=c:=by rw[Ju];rw[Ac h]
def SV{s:Ai}{n:Nat}(hn:n<zz s):FI (s.take (n+1))=FI (s.take n)++[Ju s[n]]:=by rw[AB hn];rw[FI];rw[BL];rfl
def PM(b:UInt8):Aa:= zt .u8 (b.toNat:Int)
def Ib(s:Ai)(n:Nat):Ai:=FI (s.take n)++s.drop n
def Zm(s:Ai)(n:Nat):(Ib s n).length=zz s:=by simp[Ib,FI];omega
section
variable{s:Ai}{n:Nat}(hn:n<s.length)
def Zn:(Ib s n)[n]?=zy s[n]:=by unfold Ib FI;grind
end
def TQ{s:Ai}{n:Nat}(hn:n<zz s):Ib s (n+1)=(Ib s n).set n (Ju s[n]):=by
 unfold Ib;rw[SV hn,BV _ _ (by simp[FI];omega)];have e:n-(FI (s.take n)).length=0:=by simp[FI];omega
 rw[e,AG hn,Ml,AK];rfl
def sD(s:Ai):Ib s (zz s)=FI s:=by simp[Ib,FI]
def L_{U:Type}{l:List U}{i:Nat}{v:U}(h:l[i]?=zy v):l.set i v=l:=by apply Su;grind
def yI{cs:List Aa}{i:Nat}{v:Aa}(h:cs[i]?=zy v):A5 [zl cs] zf (zb (zy (0,i)))=zy v:=by simpa[A5] using h
def cM{U:Type}{l:List U}{i:Nat}{v:U}(h:i<zz l):l.take i++v::l.drop (i+1)=l.set i v:=by rw[B1,Af h]
def sE{cs:List Aa}{i:Nat}{v:Aa}(h:i<zz cs)(hv:v.cells=[v]):Cy [zl cs] 1 (zb (zy (0,i))) v=zy [zl (cs.set i v)]:=by simp only[Cy,hv,Hc,Bl];rw[Af ⟨trivial,Ab⟩,<-cM h];simp
def QE(s:Ai):∀(n o:Nat),o+n=zz s->CD (s.map PM) 1 o n=Cg (s.drop o)
 |0,o,h=>by rw[AT Ab];rfl
 |n+1,o,h=>by
  have ho:o<zz s:=Ab;have e:(s.map PM).drop o=PM s[o]::(s.map PM).drop (o+1):=by rw[AG (zv ho)];simp
  rw[CD,QE s n (o+1) Ab,AG ho,e];rfl
end
section
def Cq(name:Ai):List Ai->Ai
 |[]=>name
 |w::ws=>if FI w=name then w else Cq name ws
def Cr(w:Ai):List Aa:=[zx w]
def Oy:Ai:=aXp
def Rp:Ai:=aXn
def Zo:DD [] Oy=Jt:=Bx
def Zp:DD [] Rp=IE:=Bx
end
section
structure A9 where
 A7:Int
 name:Ai
 value:Ai
 deriving DecidableEq
def A9.row(a:A9):List Aa:=[zt zp a.A7,zx a.name,zx a.value]
structure Item where
 node:Int
 A7:Int
 name:Ai
 NM:Bool
 deriving DecidableEq
def Item.row(a:Item):List Aa:=[zt zp a.node,zt zp a.A7,zx a.name,zd a.NM]
def IL(ns:List Ai)(v:Aa):Prop:=AX 1 (ns.map Cr) v
def AL(l:List A9)(v:Aa):Prop:=AX 3 (l.map A9.row) v
def BZ(l:List Item)(v:Aa):Prop:=AX 4 (l.map Item.row) v
def gm(l:List A9):Prop:=zz l<=12/\∀x∈l,zz x.name<=60/\zz x.value<=200
instance(l:List A9):Decidable (gm l):=by rw[gm];infer_instance
def M_(l:List Ai):Prop:=zz l<=12/\∀x∈l,zz x<=60
instance(l:List Ai):Decidable (M_ l):=by rw[M_];infer_instance
def gp(l:List Item):Prop:=zz l<=60/\∀x∈l,zz x.name<=60
instance(l:List Item):Decidable (gp l):=by rw[gp];infer_instance
end
section
def Cn{U:Type}(p:U->Bool)(n:Nat):List U->Int
 |[]=> -1
 |a::l=>if p a then(n:Int) else Cn p (n+1) l
def Ic{U:Type}{p:U->Bool}:∀{l:List U} {k:Nat},(Cn p k l= -1/\l.find? p=zf)\/∃(n:Nat) (a:U),Cn p k l=((k+n:Nat):Int)/\l[n]?=zy a/\l.find? p=zy a
 |[],k=> zo ⟨rfl,rfl⟩
 |a::l,k=>by
  rw[Cn];by_cases h:p a=zm;.grind
  .rw[Ac h];rcases Ic (p:=p) (l:=l) (k:=k+1) with⟨h1,h2⟩|⟨n,b,h1,h2,c⟩
   .grind
   .exact zi ⟨n+1,b,by rw[h1];congr 1;omega,zv h2,by simp[h,c]⟩
def QF(a:A9):Bool:=decide (a.A7=0/\a.name=aYK)
def QG{s:Ai}(h:s.all (λc=> !(65<=c.toNat&&c.toNat<=90))=zm):FI s=s:=by
 conv=>rhs;rw[<-List.map_id s]
 apply cY;intro c hc;refine Pc λh2=>?_;grind
abbrev aIY:Ai:=aXQ
abbrev gq:Ai:=aYG
abbrev i6:Ai:=aX5
def Fl(n:Int)(s:Ai)(l:List A9):Bool:=
 if n=2 then Dh 2 s else if n≠3 then zq else if s≠aIY then zq else match l.find? QF with
  |zf=>zq
  |zy a=>decide (FI a.value=gq\/FI a.value=i6)
end
section
section
variable{U:Type}{f:U->List Aa}{l l2:List U}{v v2:Aa}{z b:Nat}{k k2:IntKind}
section
variable(hv:AX z (l.map f) v)
def AX.CK:AA (.len zq) [v]=zy (zt zp (zz l:Int)):=by have:=AX.len hv;rwa [Ao] at this
def AX.BG{n:Nat}(hn:n<zz l):AA (.EE z) [v,zt k (n:Int)]=zy (.CH (f l[n])):=by have:=AX.EE hv (k:=k) (zv hn);exact zv this
end
def AX.Mo(hv:AX z (l.map f) v){n:Nat}(hn:n<=zz l):∃u,AA (.K9 z zq zq zm) [v,zt k (n:Int)]=zy u/\AX z ((l.take n).map f) u:=by
 obtain rfl|⟨rfl,h⟩:=hv
 .have a:FH (n:Int) (l.map f).length=zy n:=by rw[FH];rw[Ao,Af Ab];rfl
  refine⟨.sl z ((l.map f).take n),?_,zo (by rw[FM])⟩;simp only[AA,KE,Ep,a,B6,vJ,BR,Nn]
 .have:l=[]:=zv h
  subst this;have:n=0:=zv hn
  subst this;exact⟨ze,rfl,zi ⟨rfl,rfl⟩⟩
def AX.TR(hv:AX z (l.map f) v){n:Nat}(hn:n<=zz l):∃u,AA (.K9 z zq zm zq) [v,zt k (n:Int)]=zy u/\AX z ((l.drop n).map f) u:=by
 obtain rfl|⟨rfl,h⟩:=hv
 .have a:FH (n:Int) (l.map f).length=zy n:=by rw[FH];rw[Ao,Af Ab];rfl
  refine⟨.sl z ((l.map f).drop n),?_,zo (by rw[IP])⟩;simp only[AA,KE,Ep,a,B6,vJ,BR,Bt]
 .have:l=[]:=zv h
  subst this;have:n=0:=zv hn
  subst this;exact⟨ze,rfl,zi ⟨rfl,rfl⟩⟩
def AX.i7(hv:AX z (l.map f) v)(SI:AX z (l2.map f) v2)(hb:(zz l+zz l2)*b<=A0):∃u,AA (z2 z b) [v,v2]=zy u/\AX z ((l++l2).map f) u:=by obtain⟨u,e,hu⟩:=AX.HY hv SI (zv hb);grind
def AX.Gg(SI:AX z (l2.map f) v2)(hb:zz l2*b<=A0):∃u,AA (z2 z b) [ze,v2]=zy u/\AX z (l2.map f) u:=by obtain⟨u,e,hu⟩:=AX.HY .nil SI (zv hb);grind
def AX.JU{a:U}(hv:AX z (l.map f) v)(hb:(zz l+1)*b<=A0):AA (z2 z b) [v,.sl z [f a]]=zy (.sl z ((l++[a]).map f)):=by rw[AX.yD hv (zv hb)];simp
end
def TS{a b:Int}(h1: -9223372036854775808<=a-b)(h2:a-b<9223372036854775808):AA (.int .sub) [zt zp a,zt zp b]=zy (zt zp (a-b)):=by rw[yC,wrap_i64 h1 h2]
def C0(a b:Int)(h1: -9223372036854775808<=a-b:=by omega)(h2:a-b<9223372036854775808:=by omega):AA (.int .sub) [zt zp a,zt zp b]=zy (zt zp (a-b)):=TS h1 h2
def Pd{a b:Int}(h1: -9223372036854775808<=a+b)(h2:a+b<9223372036854775808):AA (.int .add) [zt zp a,zt zp b]=zy (zt zp (a+b)):=by rw[iU,wrap_i64 h1 h2]
def Item.zero:Item:=⟨0,0,[],zq⟩
section
variable{a:Item}
def Item.CS:zz a.row=4:=rfl
def Item.g0{d:Aa}:a.row.getD 0 d= zt zp a.node:=rfl
def Item.g1{d:Aa}:a.row.getD 1 d= zt zp a.A7:=rfl
def Item.g2{d:Aa}:a.row.getD 2 d= zx a.name:=rfl
def Item.g3{d:Aa}:a.row.getD 3 d= zd a.NM:=rfl
def Item.at0:a.row[0]?=zy (zt zp a.node):=rfl
def Item.Iu:a.row.take 4=a.row:=rfl
def Item.gu:a.row.drop 1=[zt zp a.A7,zx a.name,zd a.NM]:=rfl
def Item.aIZ:a.row.drop 2=[zx a.name,zd a.NM]:=rfl
def Item.aI0:a.row.drop 3=[zd a.NM]:=rfl
def Item.QH:[Aa.int zp a.node,zt zp a.A7,zx a.name,zd a.NM]=a.row:=rfl
def Item.fill:AQ [zt zp 0,zt zp 0,zx [],zd zq] ([(0,1),(1,1),(2,1),(3,1)].zip a.row)=zy a.row:=rfl
end
def ER:=ai @Item.fill (ai @Item.CS (ai @Item.g0 (ai @Item.g1 (ai @Item.g2 (ai @Item.g3 (ai @Item.at0 (ai @Item.Iu (ai @Item.gu (ai @Item.aIZ (ai @Item.aI0 (ai @Item.QH (ai @Cf (@BB.{0})))))))))))))
def Dc(l:List Item)(i:Int):Item:=if 0<=i then l.getD i.toNat Item.zero else Item.zero
def DB(l:List Item):Item:=Dc l ((zz l:Int)-1)
section
variable{U:Type}
def AZ(q:U->Bool)(l:List U):Int:=match l.reverse.findIdx? q with
 |zy k=>(zz l:Int)-1 -k
 |zf=> -1
def Kt{q:U->Bool}:AZ q []= -1:=rfl
def Jv{q:U->Bool}{l:List U}{a:U}:AZ q (l++[a])=if q a then(zz l:Int) else AZ q l:=by unfold AZ;grind
def Ht{q:U->Bool}{l:List U}{n:Nat}(hn:n<zz l):AZ q (l.take (n+1))=if q l[n] then(n:Int) else AZ q (l.take n):=by rw[AB hn,Jv,Ax,Ct (P4 hn)]
def Dy{q:U->Bool}{l:List U}:(AZ q l= -1/\∀a∈l,q a=zq)\/∃(n:Nat) (hn:n<zz l),AZ q l=(n:Int)/\q l[n]=zm/\∀m (hm:m<zz l),n<m->q l[m]=zq:=by
 have key:∀r:List U,(AZ q r.reverse= -1/\∀a∈r.reverse,q a=zq)\/∃(n:Nat) (hn:n<zz r.reverse),AZ q r.reverse=(n:Int)/\q r.reverse[n]=zm/\∀m (hm:m<zz r.reverse),n<m->q r.reverse[m]=zq:=by
  intro r;induction r with
  |nil=>exact zo ⟨rfl,AH⟩
  |cons a r ih=>
   rw[E5,Jv];by_cases h:q a=zm;.refine zi ⟨zz r.reverse,AH,by rw[Af h],by simp[h],λm hm hlt=>?_⟩;simp at hm hlt;omega
   .rw[Ac h];rcases ih with⟨h1,h2⟩|⟨n,hn,h1,h2,c⟩
    .exact zo ⟨h1,λb hb=>by
      obtain hb|hb:=Ay.1 hb
      .exact h2 b hb
      .simp at hb;subst hb;exact zv h⟩
    .refine zi ⟨n,by simp at hn⊢;omega,h1,by rwa[IQ hn],λm hm hlt=>?_⟩;by_cases TF:m<zz r.reverse;.rw[IQ TF];exact c m TF hlt
     .have:m=zz r.reverse:=by simp at hm TF⊢;omega
      subst this;exact zv h
 have:=key l.reverse;rwa [Iz] at this
end
def At(h:Ah)(id o:Nat)(v:Aa):Prop:=∃cs,h[id]?=zy (zl cs)/\cs[o]?=zy v
def put(h:Ah)(id o:Nat)(u:Aa):Ah:=match h[id]? with
 |zy (zl cs)=>h.set id (zl (cs.set o u))
 |_=>h
section
variable{h t:Ah}{id o:Nat}{u v w:Aa}
def IM{cs:List Aa}(hc:h[id]?=zy (zl cs)):put h id o u=h.set id (zl (cs.set o u)):=by rw[put];rw[hc]
def Jw:(put h id o u).length=zz h:=by rw[put];split<;>simp
section
variable(ha:At h id o v)
def At.lt:id<zz h:=by let⟨cs,hc,_⟩:=ha;exact(Aq.1 hc).1
def At.load:A5 h zf (zb (zy (id,o)))=zy v:=by let⟨cs,hc,e⟩:=ha;simp[A5,hc,Fu,e]
def At.store(hu:u.cells=[u]):Cy h 1 (zb (zy (id,o))) u=zy (put h id o u):=by
 let⟨cs,hc,e⟩:=ha;have hl:=(Aq.1 e).1;simp[IM hc,Cy,hc,hu,Bl,Nr];have a:cs.set o u=cs.take o++[u]++cs.drop (o+1):=by rw[B1,Af hl];simp
 grind
def At.put:At (put h id o u) id o u:=by let⟨cs,hc,e⟩:=ha;have hl:=(Aq.1 e).1;have hi:=(Aq.1 hc).1;rw[IM hc];exact⟨cs.set o u,by simp[hi],by simp[hl]⟩
def At.same:Am.put h id o v=h:=by let⟨cs,hc,e⟩:=ha;let⟨hl,e⟩:=Aq.1 e;let⟨hi,a⟩:=Aq.1 hc;rw[IM hc,<-e,Kj,<-a,Kj]
end
def jA:Am.put (Am.put h id o u) id o w=Am.put h id o w:=by
 cases hc:h[id]? with
 |none=>
  have e:∀u,Am.put h id o u=h:=λu=>by rw[Am.put];rw[hc]
  rw[e,e]
 |some x=>cases x with
  |cells cs=>have hi:=(Aq.1 hc).1;rw[IM hc,IM hc,IM (cs:=cs.set o u) (by simp[hi])];simp
  |_=>
   have e:∀u,Am.put h id o u=h:=λu=>by rw[Am.put];rw[hc]
   rw[e,e]
def At.HY(ha:At h id o v):At (h++t) id o v:=by let⟨cs,hc,e⟩:=ha;exact⟨cs,by rwa[Ak (Aq.1 hc).1],e⟩
def jB(ha:At h id o v):Am.put (h++t) id o u=Am.put h id o u++t:=by have hi:=ha.lt;let⟨cs,hc,e⟩:=ha;rw[IM hc,IM (by rwa[Ak hi]),List.set_append_left _ _ hi]
def Ce{i:Nat}(hn:i≠id):(Am.put h id o u)[i]?=h[i]?:=by
 rw[Am.put];split;.grind
 .rfl
end
def rp(h:Ah)(p:Aa)(l:List Item):Prop:=(p= zb zf/\l=[])\/∃id o v,p= zb (zy (id,o))/\At h id o v/\BZ l v
def FG{l:List Item}{n:Nat}(hn:n<zz l):Dc l (n:Int)=l[n]:=by have:(0:Int)<=(n:Int):=Ab;simp[Dc,this,hn]
def Lp{l:List Item}{i:Int}(h:i<0\/(zz l:Int)<=i):Dc l i=Item.zero:=by rw[Dc];grind
section
variable{h:Ah}{p:Aa}{l:List Item}
def ŷ{s:Ai}{ws:List Ai}:decide (0<=Cn (λw=>decide (s=w)) 0 ws)=decide (s∈ws):=by
 rcases Ic (p:=λw=>decide (s=w)) (l:=ws) (k:=0) with⟨h1,h2⟩|⟨n,a,h1,h2,c⟩
 .grind
 .grind
def AU(ws:List Ai)(a:Item):Bool:=decide (a.A7=1/\a.name∈ws)
def Cw{ws:List Ai}:IL ws (.sl 1 (ws.map Cr)):= .mk
def HG(n:Int)(a:Item):Bool:=
 if n=4 then AU O9 a else if n=5 then !AU M1 a else if a.A7=3\/a.A7=2 then Dh a.A7 a.name
 else AU Pb a||(decide (n=2)&&AU SU a)||(decide (n=3)&&AU [aXw] a)
def D2{ws:List Ai}{args:List Aa}(e:args=ws.map Aa.str)(h:zz ws<=16777216):AA (.Dk 1) args=zy (.sl 1 (ws.map Cr)):=by
 subst e;have g:(ws.map Aa.str).all (λa=>zz a.cells==1)=zm:=AH;have c:(ws.map Aa.str).map (·.cells)=ws.map Cr:=by simp[Cr]
 rw[gj,g,c];simp[h]
def yJ:AA (.Dk 1) [S aXv,S aXA,S aXs]=zy (.sl 1 (O9.map Cr)):=D2 (ws:=O9) rfl Bf
def sF:AA (.Dk 1) [S aYe,S aXR]=zy (.sl 1 (M1.map Cr)):=D2 (ws:=M1) rfl Bf
def rq:AA (.Dk 1) [S [111,108],S [117,108]]=zy (.sl 1 (SU.map Cr)):=D2 (ws:=SU) rfl Bf
def yK:AA (.Dk 1) [S aYJ,S aX4,S aXv,S aYE,S aYM,S aXA,S [116,100],S aXs,S [116,104]]=zy (.sl 1 (Pb.map Cr)):=D2 (ws:=Pb) rfl Bf
def r_:AA (.Dk 1) [S aXw]=zy (.sl 1 ([aXw].map Cr)):=D2 (ws:=[aXw]) rfl Bf
def HZ{U:Type}(q e:U->Bool):List U->Bool
 |[]=>zq
 |a::r=>if q a then zm else if e a then zq else HZ q e r
def yL{U:Type}{q e:U->Bool}(l:List U)(b:Bool):(if h:0<=AZ (λa=>q a||e a) l/\(AZ (λa=>q a||e a) l).toNat<zz l then q (l[(AZ (λa=>q a||e a) l).toNat]'h.2) else zq)=HZ q e l.reverse:=by
 have key:∀r:List U,(if h:0<=AZ (λa=>q a||e a) r.reverse/\(AZ (λa=>q a||e a) r.reverse).toNat<zz r.reverse then q (r.reverse[(AZ (λa=>q a||e a) r.reverse).toNat]'h.2) else zq)=HZ q e r:=by
  intro r;induction r with
  |nil=>simp[HZ,Kt]
  |cons a r ih=>simp[E5,HZ];have e0:=Jv (q:=λa=>q a||e a) (l:=r.reverse) (a:=a);grind
 have:=key l.reverse;rwa [Iz] at this
def IL.cells{v:Aa}{ws:List Ai}(hv:IL ws v):v.cells=[v]:=AX.cells hv
def BE(node:Int)(a:Item):Bool:=decide (a.node=node)
end
end
section
section
variable{h:Ah}{p v:Aa}{l:List Item}
def eU{n s:Int}{t:Ai}{b:Bool}:AA (.EM [I 0,I 0,S [],ff] [(0,1),(1,1),(2,1),(3,1)]) [zt zp n,zt zp s,zx t,zd b]=zy (zh (Item.row ⟨n,s,t,b⟩)):=by rfl
def M2{a:Item}:AA (.Dk 4) [zh a.row]=zy (.sl 4 [a.row]):=MZ rfl Bf
def Mx(h:Ah)(id o:Nat)(l:List Item):Prop:=∃v,At h id o v/\BZ l v
def Mx.at{id o:Nat}(hs:Mx h id o l):rp h (zb (zy (id,o))) l:=let⟨v,h1,h2⟩:=hs; zi ⟨id,o,v,rfl,h1,h2⟩
def BZ.cells(hv:BZ l v):v.cells=[v]:=AX.cells hv
def C1(a:Item):Bool:=Dh a.A7 a.name
def Eg(node:Int)(l:List Item):Int:=if AZ (BE node) l<0 then -1 else match(l.drop ((AZ (BE node) l).toNat+1)).findIdx? C1 with
 |zy k=>AZ (BE node) l+1+k
 |zf=> -1
def Fm{U:Type}(q:U->Bool)(l:List U)(n:Nat):Int:=match(l.drop n).findIdx? q with
 |zy k=>(n:Int)+k
 |zf=> -1
section
variable{U:Type}{q:U->Bool}{l:List U}{n:Nat}
def Sf(h:zz l<=n):Fm q l n= -1:=by rw[Fm];rw[AT h];rfl
def TT(h:n<zz l):Fm q l n=if q l[n] then(n:Int) else Fm q l (n+1):=by unfold Fm;rw[AG h,List.findIdx?_cons];grind
end
def Jb{node:Int}:Eg node l=if AZ (BE node) l<0 then -1 else Fm C1 l ((AZ (BE node) l).toNat+1):=by unfold Eg Fm;grind
def Zq{U:Type}(q e:U->Bool):List U->Bool
 |[]=>zq
 |a::r=>(q a&& !(r.any e))||Zq q e r
section
variable{U:Type}{q e:U->Bool}
def Wp{a:U}:∀{r:List U},HZ q e (r++[a])=((q a&& !(r.any e))||HZ q e r)
 |[]=>by by_cases h:q a=zm<;>simp[HZ,h]
 |b::r=>by simp[CQ,HZ,Wp];grind
def sG:∀{l:List U},Zq q e l=HZ q e l.reverse
 |[]=>rfl
 |a::l=>by rw[E5,Wp,Zq,sG];simp
def aFq(l:List U):(if AZ q l<0 then zq else !((l.drop ((AZ q l).toNat+1)).any e))=HZ q e l.reverse:=by
 have key:∀r:List U,(if AZ q r.reverse<0 then zq else !((r.reverse.drop ((AZ q r.reverse).toNat+1)).any e))=HZ q e r:=by
  intro r;induction r with
  |nil=>rfl
  |cons a r ih=>
   simp only[E5,HZ,Jv];by_cases hq:q a=zm;.simp only[hq,BR];rw[Ac Ab,A3,AT AH];rfl
   .simp only[hq,EV,CA,<-ih];rcases Dy (q:=q) (l:=r.reverse) with⟨h1,h2⟩|⟨n,hn,h1,h2,c⟩
    .simp[h1]
    .grind
 grind
end
end
end
section
def Ev.ret{C:GN}{f:FuncId}{args:List Aa}{h:Ah}{R:Aa->Ah->Prop}(hw:Ev C f args h R):∃r h',BK C f args h r h'/\R r h':=by let⟨n,x,vs,h',e,hx,r,hv,hR⟩:=hw;exact⟨r,h',Ad.2 ⟨n,x,vs,h',e,hx,hv,rfl⟩,hR⟩
def Mp(b a:Item->Bool):List Item->List Item
 |x::y::r=>if b x then x::y::r else if a x then y::r else Mp b a (y::r)
 |r=>r
def DI(b a:Item->Bool)(l:List Item):List Item:=(Mp b a l.reverse).reverse
section
variable{b a:Item->Bool}{l:List Item}
def sd(h:zz l<=1):Mp b a l=l:=by
 match l with
 |[]=>rfl
 |[x]=>rfl
 |x::y::r=>simp at h
def Zr(h:zz l<=1):DI b a l=l:=by rw[DI];rw[sd (zv h),Iz]
def eV{x:Item}(h:1<=zz l):DI b a (l++[x])=if b x then l++[x] else if a x then l else DI b a l:=by
 unfold DI;rw[LB,Nu,NW];cases hr:l.reverse with
 |nil=>
  have:l=[]:=zv hr
  grind
 |cons y r=>rw[Mp];grind
def eW{n:Nat}(hn:n+1<zz l):DI b a (l.take (n+2))=if b l[n+1] then l.take (n+2) else if a l[n+1] then l.take (n+1) else DI b a (l.take (n+1)):=by have e:=AB hn;rw[e,eV (by rw[Ax];omega)]
end
def Rq{b a:Item->Bool}:∀{l:List Item},(DI b a l).length<=zz l:=by
 have key:∀r:List Item,(Mp b a r).length<=zz r:=by
  intro r;induction r with
  |nil=>simp[Mp]
  |cons x r ih=>
   cases r with
   |nil=>simp[Mp]
   |cons y r=>rw[Mp];grind
 intro l;have:=key l.reverse;simpa[DI] using this
section
variable{h:Ah}{p v:Aa}{l:List Item}
def Zs{n:Nat}(hn:n<zz l):DB (l.take (n+1))=l[n]:=by
 have e:((l.take (n+1)).length:Int)-1=(n:Int):=by grind
 rw[DB];rw[e,FG (by rw[Ax];omega)];simp
section
variable{id o:Nat}(hs:Mx h id o l)
def Mx.jC:∃u,h=put h id o u/\BZ l u:=by let⟨u,hc,hu⟩:=hs;exact⟨u,hc.same.symm,hu⟩
def Mx.lt:∃v,At h id o v:=let⟨u,hc,_⟩:=hs;⟨u,hc⟩
end
def Mx.aFr{id o:Nat}{u:Aa}(hlt:∃v,At h id o v)(hu:BZ l u):Mx (put h id o u) id o l:=let⟨_,ha⟩:=hlt;⟨u,ha.put,hu⟩
def Cx(_:Item):Bool:=zq
def Di(s:Ai)(a:Item):Bool:=decide (a.A7≠1\/a.name∉Gr\/a.name=s)
def CM(a:Item):Bool:=decide (a.A7≠1\/¬(a.name∈Ks\/a.name∈Gr))
def Hu(node:Int)(l:List Item):List Item:=if AZ (BE node) l<0 then l else DI Cx (BE node) l
def Kd(l:List Item)(i:Int):List Item:=l.take (max 1 i.toNat)
def M3{q:Item->Bool}(l:List Item):DI Cx q l=Kd l (AZ q l):=by
 have key:∀r:List Item,DI Cx q r.reverse=Kd r.reverse (AZ q r.reverse):=by
  intro r;induction r with
  |nil=>rfl
  |cons x r ih=>
   rw[E5,Jv];obtain h0|h0:=Q6 (zz r)
   .have:r=[]:=Ms.1 h0;subst this;by_cases hq:q x=zm<;>simp[hq,Kd,DI,Mp,Kt]
   .have h1:1<=zz r.reverse:=by rw[I2];omega
    rw[eV h1];by_cases hq:q x=zm;.rw[Ac (by simp[Cx]),Af hq,Af hq];rw[Kd];grind
    .rw[Ac (by simp[Cx]),Ac hq,Ac hq,ih];unfold Kd;rw[C6];rcases Dy (q:=q) with⟨a,_⟩|⟨n,hn,a,_⟩<;>rw[a]<;>omega
 have:=key l.reverse;grind
def Wq{node:Int}(l:List Item):Hu node l=if AZ (BE node) l<0 then l else Kd l (AZ (BE node) l):=by rw[Hu];rw[M3]
end
end
section
section
variable{h:Ah}{p v:Aa}{l:List Item}
def N_(l:List Item):∀r∈l.map Item.row,zz r=4:=M0 (f:=Item.row) (λa=>Item.CS) l
def Sg{n:Nat}(h:n<=2000000000):n*40<=A0:=by have:A0=140737488355328:=rfl;omega
def Bg{U:Type}(l:List U)(k:Nat):List U:=l.take k++l.drop (k+1)
def CN(node:Int)(l:List Item):List Item:=if AZ (BE node) l<1 then l else Bg l (AZ (BE node) l).toNat
def Fo(i:Int)(n:Nat):Nat:=min (max i 1).toNat n
def QI(node:Int)(a:Item)(l:List Item):List Item:=if AZ (BE node) l<1 then l else l.set (AZ (BE node) l).toNat a
def jD(h:Ah)(l:List Item)(r:Aa)(h':Ah):Prop:=(l=[]/\r= ze/\h'=h)\/(l≠[]/\r= .CC (zz h) 0 (zz l) 4/\h'=h++[zl (l.map Item.row).flatten])
def Ÿ(hv:BZ l v)(hb:zz l<=1000000000):∃r h',Lj h 4 40 ze v=zy (h',r)/\jD h l r h':=by
 by_cases hne:l=[];.subst hne;exact⟨_,_,QC (zo rfl) hv,zo ⟨rfl,rfl,rfl⟩⟩
 .have a:=LX (h:=h) (zo rfl) hv (zv hne) (by rw[Ao];exact Sg Ab);rw[Ao] at a;exact⟨_,_,a,zi ⟨hne,rfl,rfl⟩⟩
def jD.P5{r:Aa}{h':Ah}(hc:jD h l r h'):∃u t,KY h' r=zy (h++t,u)/\BZ l u:=by
 rcases hc with⟨rfl,rfl,rfl⟩|⟨hne,rfl,rfl⟩
 .exact⟨ze,[],by rw[BB];rfl,.nil⟩
 .have a:(h++[DG.cells (l.map Item.row).flatten])[zz h]?=zy (zl (l.map Item.row).flatten):=by simp
  have f1:=Kr (N_ l) a;refine⟨.sl 4 (l.map Item.row),[.CU],?_,.mk⟩;grind
end
end
section
end
section
section
variable{h:Ah}{p v w:Aa}{l:List Item}{ws:List Ai}
def O_:Kd l (-1)=Kd l 1:=rfl
def EX(s:Ai)(all:Bool)(a:Item):Bool:=if all then CM a else Di s a
end
end
section
def fT:List (Ai×Int×Ai):=[(aYg,4,aYP),(aYc,4,aYO),(aYs,4,aZb),(aYt,4,aZc),(aYu,4,aZd),(aYl,4,aXT),(aYv,4,aYm),(aYy,5,[108,97,110,103]),(aYn,5,aY5),(aYp,6,aYp),(aX6,6,aYH)]
def Zt(x:Ai×Int×Ai):Aa×Aa:=(zx x.1,zh [zt zp x.2.1,zx x.2.2,zx []])
def ft(n:Nat):List (Aa×Aa):=(fT.take n).map Zt
def aI1:Od aYg (zh [zt zp 4,zx aYP,zx []]) (ft 0)=zy (ft 1):=by kernel_rfl
def aI2:Od aYc (zh [zt zp 4,zx aYO,zx []]) (ft 1)=zy (ft 2):=by kernel_rfl
def aI3:Od aYs (zh [zt zp 4,zx aZb,zx []]) (ft 2)=zy (ft 3):=by kernel_rfl
def aI4:Od aYt (zh [zt zp 4,zx aZc,zx []]) (ft 3)=zy (ft 4):=by kernel_rfl
def aI5:Od aYu (zh [zt zp 4,zx aZd,zx []]) (ft 4)=zy (ft 5):=by kernel_rfl
def aI6:Od aYl (zh [zt zp 4,zx aXT,zx []]) (ft 5)=zy (ft 6):=by kernel_rfl
def aI7:Od aYv (zh [zt zp 4,zx aYm,zx []]) (ft 6)=zy (ft 7):=by kernel_rfl
def aI8:Od aYy (zh [zt zp 5,zx [108,97,110,103],zx []]) (ft 7)=zy (ft 8):=by kernel_rfl
def aI9:Od aYn (zh [zt zp 5,zx aY5,zx []]) (ft 8)=zy (ft 9):=by kernel_rfl
def aJa:Od aYp (zh [zt zp 6,zx aYp,zx []]) (ft 9)=zy (ft 10):=by kernel_rfl
def aFs:Od aX6 (zh [zt zp 6,zx aYH,zx []]) (ft 10)=zy (ft 11):=by kernel_rfl
def yM{h:Ah}{es:List (Aa×Aa)}{s:Ai}{v:Aa}:RV (h++[.map es]) (.map (zy (zz h))) (zx s) v=(Od s v es).map λes=>h++[.map es]:=by simp[RV]
def Em(n:Ai):Option (Int×Ai):=(fT.find? λx=>decide (n=x.1)).map (·.2)
def Zu(n:Ai):∀l:List (Ai×Int×Ai),Tl n (l.map Zt)=zy ((l.find? λx=>decide (n=x.1)).map λx=>(Zt x).2)
 |[]=>rfl
 |x::l=>by
  rw[Bm,DZ,Zt,Tl];by_cases e:n=x.1;.rw[Af e,As e];rfl
  .rw[Ac e,Al e];exact Zu n l
def M4{h:Ah}{n:Ai}:Qb (h++[.map (ft 11)]) (zh [zt zp 0,zx [],zx []]) zm (.map (zy (zz h))) (zx n)=
  zy (match Em n with|zy (s,m)=> .tuple [zh [zt zp s,zx m,zx []],zd zm]|zf=> .tuple [zh [zt zp 0,zx [],zx []],zd zq]):=by
 have e:UR (h++[.map (ft 11)]) (.map (zy (zz h))) (zx n)=Tl n (fT.map Zt):=by simp[UR,ft,fT]
 rw[Qb,e,Zu,Em];cases fT.find? λx=>decide (n=x.1)<;>rfl
abbrev aFt:Ai:=aYw
abbrev Xc:Ai:=aYA
def KO(sp:Int)(n:Ai):Ai:=if sp=2 then Cq n IE else if sp=3/\n=aFt then Xc else n
def C2(sp:Int)(a:A9):A9:=
 if sp=2\/sp=3 then match Em (KO sp a.name) with
  |zy (s,m)=>⟨s,m,a.value⟩
  |zf=>⟨0,KO sp a.name,a.value⟩
 else⟨0,a.name,a.value⟩
def TU(s:Ai):(FI s).length=zz s:=by simp[FI]
def Mg(n:Ai):∀ws,Cq n ws=n\/(Cq n ws∈ws/\FI (Cq n ws)=n)
 |[]=> zo rfl
 |w::ws=>by
  rw[Cq];split;.grind
  .rcases Mg n ws with h|⟨h1,h2⟩
   .exact zo h
   .grind
def TV(n:Ai)(ws:List Ai):(Cq n ws).length=zz n:=by
 obtain h|⟨_,h⟩:=Mg n ws
 .rw[h]
 .rw[<-TU,h]
def Ew{a b c:Aa}:AA (.Dk 3) [zh [a,b,c]]=zy (.sl 3 [[a,b,c]]):=rfl
def A9.CS{a:A9}:zz a.row=3:=rfl
def A9.Iu{a:A9}:a.row.take 3=a.row:=rfl
section
variable{v:Aa}{l:List A9}{h:Ah}
def sH{a b:A9}{neg:Bool}:AA (.geq neg [.i,.s,.s]) [zh a.row,zh b.row]=zy (zd (decide (a=b) != neg)):=by
 rw[SQ];have:Ek [.i,.s,.s] a.row b.row=zy (decide (a=b)):=by simp[Ek,Mb,A9.row,BR,BF];cases a;cases b;grind
 grind
def My:List Ai:=[aYg,aYc,aYs,aYt,aYu,aYl,aYv]
def Ź{s:Ai}:GA aXx s=decide (s∈My):=El Bx Bx
def Vh{k:IntKind}{s:Ai}{a z:Nat}(ha:a<=zz s):AA (.K9 z zm zm zq) [zx s,zt k (a:Int)]=zy (zx (s.drop a)):=by
 have c:FH (a:Int) (zz s)=zy a:=by rw[FH];rw[Af Ab];rfl
 simp[AA,KE,Ep,c]
abbrev sI:Ai:=aYy
abbrev Zv:Ai:=aYn
abbrev sJ:Ai:=aYp
abbrev Zw:Ai:=aX6
def cN:∀s∈My,6<=zz s/\Em s=zy (4,s.drop 6):=Bf
def jE{s:Ai}(h1:s∉My)(h2:s≠sI)(g:s≠Zv)(c:s≠sJ)(a:s≠Zw):Em s=zf:=by simp[My,AR,D1,L8,Ly] at h1;let⟨a1,a2,a3,a4,a5,a6,a7⟩:=h1;simp[Em,fT,DZ,List.find?_nil,Al a1,Al a2,Al a3,Al a4,Al a5,Al a6,Al a7,Al h2,Al g,Al c,Al a,Option.map_none]
abbrev yN:Ai:=aYH
def Si(s:Ai):(s∈My/\6<=zz s/\Em s=zy (4,s.drop 6))\/(s∉My/\((s=sI/\4<=zz s/\Em s=zy (5,s.drop 4))\/(¬s=sI/\((s=Zv/\4<=zz s/\Em s=zy (5,s.drop 4))\/(¬s=Zv/\((s=sJ/\Em s=zy (6,s))\/(¬s=sJ/\((s=Zw/\Em s=zy (6,yN))\/(¬s=Zw/\Em s=zf))))))))):=by
 by_cases a:s∈My;.exact zo ⟨a,cN s a⟩
 refine zi ⟨a,?_⟩;by_cases j:s=sI;.subst j;decide
 refine zi ⟨j,?_⟩;by_cases i:s=Zv;.subst i;decide
 refine zi ⟨i,?_⟩;by_cases g:s=sJ;.subst g;decide
 refine zi ⟨g,?_⟩;by_cases c:s=Zw;.subst c;decide
 exact zi ⟨c,jE a j i g c⟩
def sl6{s:Ai}(h:6<=zz s):AA (.K9 0 zm zm zq) [zx s,zt zp 6]=zy (zx (s.drop 6)):=Vh h
def sl4{s:Ai}(h:4<=zz s):AA (.K9 0 zm zm zq) [zx s,zt zp 4]=zy (zx (s.drop 4)):=Vh h
end
end
section
structure B5 where
 node:Int
 name:Ai
 Aj:List A9
deriving DecidableEq
structure Cp where
 c:B5
 v:Aa
 ok:AL c.Aj v
def Cp.row(e:Cp):List Aa:=[zt zp e.c.node,zx e.c.name,e.v]
def Dp(l:List Cp)(v:Aa):Prop:=AX 3 (l.map Cp.row) v
section
variable{e:Cp}{d:Aa}
def Cp.CS:zz e.row=3:=rfl
def Cp.g0:e.row.getD 0 d= zt zp e.c.node:=rfl
def Cp.g1:e.row.getD 1 d= zx e.c.name:=rfl
def Cp.g2:e.row.getD 2 d=e.v:=rfl
def Cp.at0:e.row[0]?=zy (zt zp e.c.node):=rfl
def Cp.Iu:e.row.take 3=e.row:=rfl
def Cp.gu:e.row.drop 1=[zx e.c.name,e.v]:=rfl
def Cp.QH:[Aa.int zp e.c.node,zx e.c.name,e.v]=e.row:=rfl
def Cp.ź:AA (.len zq) [e.v]=zy (zt zp (zz e.c.Aj:Int)):=AX.CK e.ok
end
def A9.g0{a:A9}{d:Aa}:a.row.getD 0 d= zt zp a.A7:=rfl
def A9.g1{a:A9}{d:Aa}:a.row.getD 1 d= zx a.name:=rfl
def A9.g2{a:A9}{d:Aa}:a.row.getD 2 d= zx a.value:=rfl
def A9.QH{a:A9}:[Aa.int zp a.A7,zx a.name,zx a.value]=a.row:=rfl
def QJ{n:Nat}(h:n<=2000000000):n*48<=A0:=by have:A0=140737488355328:=rfl;omega
def Vi(e:Cp):Bool:=decide (e.c.node=0)
def SX(n:Int)(e:Cp):Bool:=decide (e.c.node=n)
def since(l:List Cp):Int:=AZ Vi l+1
def sg:since []=0:=rfl
def yO{l:List Cp}{e:Cp}:since (l++[e])=if e.c.node=0 then(zz l:Int)+1 else since l:=by unfold since;rw[Jv];by_cases h:e.c.node=0<;>simp[Vi,h]
def Zx{l:List Cp}{n:Nat}(hn:n<zz l):since (l.take (n+1))=if l[n].c.node=0 then(n:Int)+1 else since (l.take n):=by rw[AB hn,yO,Ax,Ct (P4 hn)]
def Ke(l:List Cp):∃s:Nat,since l=(s:Int)/\s<=zz l/\(∀m (hm:m<zz l),s<=m->l[m].c.node≠0)/\(∀t,s=t+1->∃ht:t<zz l,l[t].c.node=0):=by
 rcases Dy (q:=Vi) (l:=l) with⟨h1,h2⟩|⟨n,hn,h1,h2,a⟩
 .refine⟨0,by rw[since];rw[h1];rfl,AV _,λm hm _=>?_,λt ht=>by omega⟩;have:=h2 _ (AN hm);simpa[Vi] using this
 .refine⟨n+1,by rw[since];rw[h1];rfl,hn,λm hm EH=>?_,λt ht=>?_⟩;.have:=a m hm Ab;simpa[Vi] using this
  .obtain rfl:t=n:=by omega
   exact⟨hn,by simpa[Vi] using h2⟩
section
variable{h:Ah}{v:Aa}{l:List Cp}{id:Nat}
def gw(name:Ai):List Cp->Int
 |[]=> -1
 |e::t=>if e.c.node=0 then -1 else if e.c.name=name then(zz t:Int) else gw name t
def Oz(name:Ai)(l:List Cp):Int:=gw name l.reverse
def SY{name:Ai}{n:Nat}(hn:n<zz l):Oz name (l.take (n+1))=if l[n].c.node=0 then -1 else if l[n].c.name=name then(n:Int) else Oz name (l.take n):=by rw[AB hn,Oz,LB,Nu,NW,gw,I2,Ax,Ct (P4 hn),Oz]
def sj{name:Ai}:Oz name []= -1:=rfl
def sK{name:Ai}{s:Nat}(hs:since l=(s:Int)):Oz name (l.take s)= -1:=by
 let⟨s',e,h1,h2,a⟩:=Ke l;obtain rfl:s=s':=Ab;cases s with
 |zero=>rfl
 |succ t=>let⟨ht,h0⟩:=a t rfl;rw[SY ht,Af h0]
def HT(node:Int)(l:List Cp):Int:=if node=0 then -1 else AZ (SX node) l
end
section
variable{h:Ah}{v:Aa}{l:List A9}
def Hg(a b:B5):Bool:=decide (a.name=b.name/\zz a.Aj=zz b.Aj/\(∀x∈a.Aj,x∈b.Aj)/\∀x∈b.Aj,x∈a.Aj)
def bN(e:Cp):Prop:=zz e.c.Aj<=1000000000
end
end
section
mutual
def Aa.TW:∀a:Aa,zj a a=zm
 | zd a=>by simp[zj]
 | zt k a=>by simp[zj]
 | zx a=>by simp[zj]
 | zb a=>by simp[zj]
 | .CH a=>by simp[zj,Aa.Lq a]
 | .sl n a=>by simp[zj,Aa.Zy a]
 | .GI _=>by simp[zj]
 | ze=>by simp[zj]
 | .CC a c d e=>by simp[zj]
 | .map a=>by simp[zj]
 | .func f a c=>by simp[zj,Aa.Lq a,Aa.Lq c]
 | .nilFunc=>by simp[zj]
 | .iface t a=>by simp[zj,Aa.TW a]
 | .nilIface=>by simp[zj]
 | zh a=>by simp[zj,Aa.Lq a]
 | .tuple a=>by simp[zj,Aa.Lq a]
def Aa.Lq:∀a:List Aa,Aa.Tj a a=zm
 |[]=>by simp[Aa.Tj]
 |a::x=>by simp[Aa.Tj,Aa.TW a,Aa.Lq x]
def Aa.Zy:∀a:List (List Aa),Aa.Tk a a=zm
 |[]=>by simp[Aa.Tk]
 |a::x=>by simp[Aa.Tk,Aa.Lq a,Aa.Zy x]
end
def Vj(h:Ah)(id o:Nat)(l:List Cp):Prop:=∃u,At h id o u/\Dp l u
def Dp.cells{l:List Cp}{v:Aa}(hv:Dp l v):v.cells=[v]:=AX.cells hv
def Vj.lt{h:Ah}{id o:Nat}{l:List Cp}(hs:Vj h id o l):∃v,At h id o v:=let⟨u,hc,_⟩:=hs;⟨u,hc⟩
def Pe(l:List Cp):∀r∈l.map Cp.row,zz r=3:=M0 (f:=Cp.row) (λa=>Cp.CS) l
section
variable{h:Ah}{v:Aa}{l:List Cp}{id:Nat}
def MK{r:List Aa}(h:zz r=3):AA (.Dk 3) [zh r]=zy (.sl 3 [r]):=MZ (a:= zh r) h Bf
def sL(n:Int)(l:List Cp):HT n l= -1\/∃k:Nat,k<zz l/\HT n l=(k:Int):=by
 rw[HT];split;.exact zo rfl
 .rcases Dy with⟨h1,_⟩|⟨k,hk,h1,_⟩
  .exact zo h1
  .exact zi ⟨k,hk,h1⟩
def jF:Cp:=⟨⟨0,[],[]⟩,ze,.nil⟩
def P_:[I 0,S [],Aa.slnil]=jF.row:=rfl
def CL(i:Int)(n:Nat):Nat:=min (max i 0).toNat n
def FC(l:List Cp):Nat:=(since l-1).toNat
end
end
section
def Ż(e:B5):List Cp->Nat
 |[]=>0
 |x::t=>if x.c.node=0 then 0 else Ż e t+(if Hg x.c e=zm then 1 else 0)
def yP(e:B5):List Cp->Int
 |[]=> -1
 |x::t=>if x.c.node=0 then -1 else if 0<=yP e t then yP e t else if Hg x.c e=zm then(zz t:Int) else -1
def TX(e:B5)(l:List Cp):Nat:=Ż e l.reverse
def OA(e:B5)(l:List Cp):Int:=yP e l.reverse
section
variable{e:B5}{l:List Cp}{n s:Nat}
def Vk(hn:n<zz l):TX e (l.take (n+1))=if l[n].c.node=0 then 0 else TX e (l.take n)+(if Hg l[n].c e=zm then 1 else 0):=by rw[AB hn,TX,LB,Nu,NW,Ż,TX]
def Vl(hn:n<zz l):OA e (l.take (n+1))=if l[n].c.node=0 then -1 else if 0<=OA e (l.take n) then OA e (l.take n) else if Hg l[n].c e=zm then(n:Int) else -1:=by rw[AB hn,OA,LB,Nu,NW,yP,OA,I2,Ax,Ct (P4 hn)]
def Zz(hs:since l=(s:Int)):TX e (l.take s)=0/\OA e (l.take s)= -1:=by
 let⟨s',e,h1,h2,a⟩:=Ke l;obtain rfl:s=s':=Ab;cases s with
 |zero=>exact⟨rfl,rfl⟩
 |succ t=>let⟨ht,h0⟩:=a t rfl;exact⟨by rw[Vk ht,Af h0],by rw[Vl ht,Af h0]⟩
end
def Lr(e:B5)(l:List Cp):List Cp:=if e.node≠0/\3<=TX e l then Bg l (OA e l).toNat else l
end
section
end
end Go.Am
end
section
namespace Go.Am
structure Fc where
 kind:Int:=0
 Gm:Int:=0
 Be:List Int:=[]
 CF:Int:=0
 A7:Int:=0
 name:Ai:=[]
 Aj:List A9:=[]
 data:Ai:=[]
 vz:Ai:=[]
 sys:Ai:=[]
 Cs:Bool:=zq
 cont:Int:=0
 EC:Int:=0
deriving DecidableEq
structure Ar where
 n:List Fc
 i:List Int
abbrev AO:Ai:=aXs
def jG(x:Fc):Prop:=x.kind=4/\x.A7=1/\x.name=AO
instance(x:Fc):Decidable (jG x):=by rw[jG];infer_instance
namespace Ar
def len(A:Ar):Int:=zz A.n
def has(A:Ar)(h:Int):Prop:=1<=h/\h<=zz A.n
instance(A:Ar)(h:Int):Decidable (A.has h):=by rw[has];infer_instance
section
variable(A:Ar)(h:Int)
def nd:Fc:=if A.has h then A.n.getD (h.toNat-1) {} else{}
def inr:Int:=if A.has h then A.i.getD (h.toNat-1) 0 else 0
def set(x:Fc):Ar:={n:=if A.has h then A.n.set (h.toNat-1) x else A.n,i:=A.i}
def Jy(x:Int):Ar:={n:=A.n,i:=if A.has h then A.i.set (h.toNat-1) x else A.i}
end
def add(A:Ar)(x:Fc):Ar:={n:=A.n++[x],i:=A.i++[0]}
def up(A:Ar)(h:Int):Int:=if(A.nd h).Gm≠0 then(A.nd h).Gm else(A.nd h).EC
end Ar
section
variable{A:Ar}{h k:Int}{x y:Fc}
def H6(a:¬A.has h):A.nd h={}:=by rw[Ar.nd];rw[Ac a]
def JV:(A.set h x).n.length=zz A.n:=by simp[Ar.set];split<;>simp
def ż:(A.set h x).len=A.len:=by unfold Ar.len;rw[JV]
def IV:(A.set h x).has k↔A.has k:=by unfold Ar.has;rw[JV]
def Kf:(A.set h x).nd k=if k=h/\A.has h then x else A.nd k:=by
 unfold Ar.nd;simp[IV];by_cases hk:A.has k
 .rw[Af hk,Af hk];simp[Ar.set];by_cases a:A.has h;.rw[Af a];have h1:=a;have h2:=hk;rw[Ar.has] at h1 h2;grind
  .grind
 .grind
def TY:(A.set h x).inr k=A.inr k:=by rw[Ar.inr];simp[IV];rfl
def Pf:(A.add x).len=A.len+1:=by simp[Ar.len,Ar.add]
def D3:(A.add x).has k↔A.has k\/k=A.len+1:=by simp[Ar.has,Ar.add,Ar.len];omega
def Jc:(A.add x).nd k=if k=A.len+1 then x else A.nd k:=by
 unfold Ar.nd;simp[D3];by_cases e:k=A.len+1;.subst e;simp[Ar.add,Ar.len]
 .by_cases hk:A.has k;.rw[Af (zo hk),Ac e,Af hk];rw[Ar.has] at hk;simp[Ar.add,AS];grind
  .grind
def XG(hl:zz A.i=zz A.n):(A.add x).inr k=A.inr k:=by
 unfold Ar.inr;simp[D3];by_cases e:k=A.len+1;.subst e;simp[Ar.add,Ar.len,<-hl]
 .by_cases hk:A.has k;.rw[Af (zo hk),Af hk];simp[Ar.add,AS];grind
  .grind
def TZ:(A.Jy h k).len=A.len:=rfl
def QK{m:Int}:(A.Jy h m).has k↔A.has k:=Iff.rfl
def T0{m:Int}:(A.Jy h m).nd k=A.nd k:=by rfl
def QL{m:Int}(hl:zz A.i=zz A.n):(A.Jy h m).inr k=if k=h/\A.has h then m else A.inr k:=by
 unfold Ar.inr;simp[QK];by_cases hk:A.has k
 .rw[Af hk,Af hk];simp[Ar.Jy];by_cases a:A.has h;.rw[Af a];have h1:=a;have h2:=hk;rw[Ar.has] at h1 h2;grind
  .grind
 .grind
end
def DM(a:A9):Int×Ai:=(a.A7,a.name)
def HU(out:List A9):List A9->List A9
 |[]=>out
 |x::l=>if out.any (λy=>decide (DM x=DM y)) then HU out l else HU (out++[x]) l
def Cz(l:List A9):List A9:=HU [] l
def SZ:∀{l out:List A9},(out.map DM).Nodup->((HU out l).map DM).Nodup
 |[],_,h=>h
 |x::l,out,h=>by
  rw[HU];split;.exact SZ h
  next hn=>refine SZ ?_;grind
def sM:∀{l out:List A9},((out++l).map DM).Nodup->HU out l=out++l
 |[],out,_=>by simp[HU]
 |x::l,out,h=>by
  rw[HU,Ac,sM (zv h)];.simp
  .grind
def sk(l:List A9):((Cz l).map DM).Nodup:=SZ AH
def Ž{l:List A9}(h:(l.map DM).Nodup):Cz l=l:=by have:=sM (out:=[]) (l:=l) (zv h);simpa[Cz] using this
def eX(l:List A9):Cz (Cz l)=Cz l:=Ž (sk l)
def Vm:∀{l out:List A9} {a:A9},a∈HU out l->a∈out\/a∈l
 |[],_,_,h=> zo h
 |x::l,out,a,h=>by
  rw[HU] at h;split at h
  .rcases Vm h with h|h
   .exact zo h
   .grind
  .rcases Vm h with h|h
   .grind
   .grind
def sN{l:List A9}{a:A9}(h:a∈Cz l):a∈l:=zv (Vm h)
def ZA:∀{l out:List A9},(HU out l).length<=zz out+zz l
 |[],out=>by simp[HU]
 |x::l,out=>by
  rw[HU];split;.have:=ZA (l:=l) (out:=out);simp;omega
  .have:=ZA (l:=l) (out:=out++[x]);simp at this⊢;omega
def Rr{l:List A9}:(Cz l).length<=zz l:=by have:=ZA (l:=l) (out:=[]);simpa[Cz] using this
structure v_(x:Fc):Prop where
 k:1<=x.kind/\x.kind<=6
 Be:x.Be≠[]->x.kind=1\/x.kind=2\/x.kind=4
 elem:x.kind≠4->x.A7=0/\x.Aj=[]
 nm:x.kind≠4->x.kind≠3->x.name=[]
 dt:x.kind≠3->x.vz=[]/\x.sys=[]
 data:x.kind≠5->x.kind≠6->x.data=[]
 Cs:x.kind≠1->x.Cs=zq
 sp:0<=x.A7/\x.A7<=7
 ļ:∀a∈x.Aj,0<=a.A7/\a.A7<=7
 Cz:Cz x.Aj=x.Aj
 Ws:x.cont≠0->jG x
 QM:x.EC≠0->x.kind=2
 root:x.Gm≠0->x.kind≠1/\x.kind≠2
 sm:x.Be.Nodup
structure E1(A:Ar)(e:Int):Prop where
 il:zz A.i=zz A.n
 T1:∀h,A.has h->v_ (A.nd h)
 CF:∀h,A.has h->A.has (A.nd h).CF/\(A.nd (A.nd h).CF).kind=1
 jH:∀h,A.has h->(A.nd h).kind=1->(A.nd h).CF=h
 Gm:∀h,A.has h->(A.nd h).Gm≠0->A.has (A.nd h).Gm/\h∈(A.nd (A.nd h).Gm).Be
 NJ:∀h,A.has h->∀k∈(A.nd h).Be,A.has k/\(A.nd k).Gm=h
 Rs:∀h,A.has h->h≠e->jG (A.nd h)->(A.nd h).cont≠0
 cont:∀h,A.has h->(A.nd h).cont≠0->A.has (A.nd h).cont/\(A.nd (A.nd h).cont).kind=2/\(A.nd (A.nd h).cont).EC=h
 EC:∀h,A.has h->(A.nd h).EC≠0->A.has (A.nd h).EC/\(A.nd (A.nd h).EC).cont=h
 ine:∀h,A.has h->A.inr h≠0->A.has (A.inr h)/\(A.nd (A.inr h)).kind=1
 jI:∃r:Int->Nat,∀h,A.has h->A.up h≠0->r (A.up h)<r h
section
variable{A:Ar}{e h k:Int}{x y:Fc}
def S0:¬A.has (A.len+1):=by unfold Ar.has Ar.len;omega
def ZB(a:¬A.has h):A.up h=0:=by rw[Ar.up];rw[H6 a];simp
def yQ(ok:E1 A e)(a:A.has h)(hu:A.up h≠0):A.has (A.up h):=by
 rw[Ar.up] at hu⊢;split;next h1=>exact(ok.Gm h a h1).1
 next h1=>rw[Ac h1] at hu;exact(ok.EC h a hu).1
def ZC(ok:E1 A e)(hx:v_ x)(hd:(x.kind=1/\x.CF=A.len+1)\/(x.kind≠1/\A.has x.CF/\(A.nd x.CF).kind=1))(hp:x.Gm=0)(hk:x.Be=[])(hc:x.cont=0)(a:x.EC=0)(b:jG x->e=A.len+1):E1 (A.add x) e:=by
 have no:=S0 (A:=A);let⟨r,hr⟩:=ok.jI;have ne:∀{k},A.has k->k≠A.len+1:=λhk e=>no (e▸hk);refine⟨by simp[Ar.add,ok.il],?_,?_,?_,?_,?_,?_,?_,?_,?_,r,?_⟩<;>intro m hm<;>rw[D3] at hm<;>(try rw[XG ok.il])<;>simp only[Ar.up,Jc,D3]<;>obtain hm|rfl:=hm
 all_goals first|(rw[Ac (ne hm)])|(rw[Af rfl])|skip
 .exact ok.T1 m hm
 .exact hx
 .have:=ok.CF m hm;rw[Ac (ne this.1)];exact⟨zo this.1,this.2⟩
 .grind
 .exact ok.jH m hm
 .omega
 .intro h1;have:=ok.Gm m hm h1;rw[Ac (ne this.1)];exact⟨zo this.1,this.2⟩
 .intro h1;cases h1 hp
 .intro q hq;have:=ok.NJ m hm q hq;rw[Ac (ne this.1)];exact⟨zo this.1,this.2⟩
 .intro q hq;rw[hk] at hq;cases hq
 .exact ok.Rs m hm
 .intro h1 h2;exact absurd (b h2).symm h1
 .intro h1;have:=ok.cont m hm h1;rw[Ac (ne this.1)];exact⟨zo this.1,this.2⟩
 .intro h1;cases h1 hc
 .intro h1;have:=ok.EC m hm h1;rw[Ac (ne this.1)];exact⟨zo this.1,this.2⟩
 .intro h1;cases h1 a
 .intro h1;have:=ok.ine m hm h1;rw[Ac (ne this.1)];exact⟨zo this.1,this.2⟩
 .intro h1;exfalso;apply h1;rw[Ar.inr];rw[Ac no]
 .have:=hr m hm;rwa[Ar.up] at this
 .rw[hp,a];simp
inductive Reach(A:Ar)(t:Int):Int->Prop
 |refl:Reach A t t
 |step {h:Int}:A.up h≠0->Reach A t (A.up h)->Reach A t h
def JJ(l:List Int)(b n:Int):List Int:=if b=0 then l++[n] else l.takeWhile (λk=>decide (k≠b))++n::l.dropWhile (λk=>decide (k≠b))
def Ar.cut(A:Ar)(n:Int):Ar:=
 let q:=(A.nd n).Gm
 if q=0 then A else
  let a:=A.set q {A.nd q with Be:=(A.nd q).Be.filter λk=>decide (k≠n)}
  a.set n {a.nd n with Gm:=0}
def Ar.L9(A:Ar)(p n b:Int):Ar:=
 let a:=A.set p {A.nd p with Be:=JJ (A.nd p).Be b n}
 a.set n {a.nd n with Gm:=p}
def LZ(k:Int):Prop:=k=1\/k=2\/k=4
instance(k:Int):Decidable (LZ k):=by rw[LZ];infer_instance
structure Q_(A:Ar)(p n b:Int):Prop where
 hp:A.has p
 hn:A.has n
 hb:b≠0->A.has b/\b≠n/\(A.nd b).Gm=p
 kp:LZ (A.nd p).kind
 kn:(A.nd n).kind≠1/\(A.nd n).kind≠2
 re:¬Reach A n p
open Classical in
def Ar.Gs(A:Ar)(p n b:Int):Ar:=if Q_ A p n b then(A.cut n).L9 p n b else A
def Vn{l:List Int}{b n k:Int}:k∈JJ l b n↔k=n\/k∈l:=by
 rw[JJ];split;.simp;exact Or.comm
 .have e:=vZ (p:=λk=>decide (k≠b)) (l:=l);grind
def sP{l:List Int}{b n:Int}(h:l.Nodup)(hn:n∉l):(JJ l b n).Nodup:=by
 rw[JJ];split;.grind
 .have e:=vZ (p:=λk=>decide (k≠b)) (l:=l);grind
def sQ:(A.cut h).n.length=zz A.n:=by rw[Ar.cut];simp only;split<;>simp[JV]
def LJ:(A.cut h).has k↔A.has k:=by unfold Ar.has;rw[sQ]
def sR{p n b:Int}:(A.L9 p n b).n.length=zz A.n:=by rw[Ar.L9];simp[JV]
def gx{p n b:Int}:(A.L9 p n b).has k↔A.has k:=by unfold Ar.has;rw[sR]
def ž:(A.cut h).inr k=A.inr k:=by rw[Ar.cut];simp only;split<;>simp[TY]
def ſ{p n b:Int}:(A.L9 p n b).inr k=A.inr k:=by rw[Ar.L9];simp[TY]
def aDn(ok:E1 A e)(a:A.has h)(hu:A.up h≠0):A.up h≠h:=by let⟨r,hr⟩:=ok.jI;grind
def yR(ok:E1 A e)(a:A.has h)(hu:(A.nd h).Gm≠0):(A.nd h).Gm≠h:=by
 have:A.up h=(A.nd h).Gm:=by rw[Ar.up];rw[Af hu]
 have h2:=aDn ok a (by rwa[this]);omega
def S1(ok:E1 A e)(a:A.has h):(A.cut h).nd k=if k=h then{A.nd h with Gm:=0} else if(A.nd h).Gm≠0/\k=(A.nd h).Gm then{A.nd k with Be:=(A.nd k).Be.filter λm=>decide (m≠h)} else A.nd k:=by
 rw[Ar.cut];simp only
 by_cases hp:(A.nd h).Gm=0
 .rw[Af hp];by_cases e:k=h;.subst e;rw[Af rfl];have:A.nd k={A.nd k with Gm:=(A.nd k).Gm}:=rfl;rwa[hp] at this
  .grind
 .have hn:=yR ok a hp;have hq:=(ok.Gm h a hp).1;simp[Ac hp,Kf,IV,a,hq,Np];grind
def sS{x:Fc}(hx:v_ x){l:List Int}(h1:l.Nodup)(h2:l≠[]->LZ x.kind):v_ {x with Be:=l}:=
 {k:=hx.k,Be:=h2,elem:=hx.elem,nm:=hx.nm,dt:=hx.dt,data:=hx.data,Cs:=hx.Cs,sp:=hx.sp,ļ:=hx.ļ,Cz:=hx.Cz,Ws:=hx.Ws,QM:=hx.QM,root:=hx.root,sm:=h1}
def gy{x:Fc}(hx:v_ x){p:Int}(h2:p≠0->x.kind≠1/\x.kind≠2):v_ {x with Gm:=p}:=
 {k:=hx.k,Be:=hx.Be,elem:=hx.elem,nm:=hx.nm,dt:=hx.dt,data:=hx.data,Cs:=hx.Cs,sp:=hx.sp,ļ:=hx.ļ,Cz:=hx.Cz,Ws:=hx.Ws,QM:=hx.QM,root:=h2,sm:=hx.sm}
def aFv(ok:zz A.i=zz A.n):(A.cut h).i.length=(A.cut h).n.length:=by rw[sQ];rw[Ar.cut];simp only;split<;>exact ok
def aFw{p n b:Int}(ok:zz A.i=zz A.n):(A.L9 p n b).i.length=(A.L9 p n b).n.length:=by rwa[sR]
def aAa(ok:E1 A e)(a:A.has h)(hk:k∈(A.nd h).Be):k≠h/\(A.nd k).Gm=h/\A.has k:=by have:=ok.NJ h a k hk;refine⟨?_,this.2,this.1⟩;rintro rfl;have h0:=this.1.1;exact yR ok a (by rw[this.2];omega) this.2
def R_(ok:E1 A e)(a:A.has h):(A.cut h).up k=if k=h then(A.nd h).EC else A.up k:=by unfold Ar.up;rw[S1 ok a];grind
def Vo(ok:E1 A e)(c:A.has h)(bL:(A.nd h).kind≠2):E1 (A.cut h) e:=by
 let⟨r,hr⟩:=ok.jI;have a:=λm=>S1 (k:=m) ok c;have kd:∀m,((A.cut h).nd m).kind=(A.nd m).kind:=λm=>by rw[a];grind
 have l:∀m,((A.cut h).nd m).CF=(A.nd m).CF:=λm=>by rw[a];grind
 have n:∀m,((A.cut h).nd m).cont=(A.nd m).cont:=λm=>by rw[a];grind
 have ho:∀m,((A.cut h).nd m).EC=(A.nd m).EC:=λm=>by rw[a];grind
 have d:(A.nd h).EC=0:=by
  by_cases h0:(A.nd h).EC=0;.exact h0
  .cases bL ((ok.T1 h c).QM h0)
 refine⟨aFv ok.il,?_,?_,?_,?_,?_,?_,?_,?_,?_,r,?_⟩<;>intro m hm<;>rw[LJ] at hm<;>(try simp[kd,l,n,ho,LJ,ž])
 .rw[a];split;.exact gy (ok.T1 h c) AH
  .split;.exact sS (ok.T1 m hm) ((ok.T1 m hm).sm.filter _) λh1=>(ok.T1 m hm).Be (by intro h2;rw[h2] at h1;simp at h1)
   .exact ok.T1 m hm
 .exact ok.CF m hm
 .exact ok.jH m hm
 .intro h1;have b:m≠h:=by rintro rfl;rw[a] at h1;simp at h1
  have j:((A.cut h).nd m).Gm=(A.nd m).Gm:=by rw[a,Ac b];split<;>rfl
  rw[j] at h1⊢;have h2:=ok.Gm m hm h1;refine⟨h2.1,?_⟩;rw[a];split;next i=>rw[<-i];exact h2.2
  .split;.simp only[Gc,Cd];exact⟨h2.2,b⟩
   .exact h2.2
 .intro q hq;have h1:q∈(A.nd m).Be/\(m=(A.nd h).Gm->q≠h):=by
   rw[a] at hq;split at hq;next b=>subst b;have:=aAa ok hm hq;exact⟨hq,λ_=>this.1⟩
   .split at hq;.simp only[Gc,Cd] at hq;exact⟨hq.1,λ_=>hq.2⟩
    next g=>refine⟨hq,λf o=>g ⟨?_,f⟩⟩;rw[<-f];have:=hm.1;omega
  have h2:=ok.NJ m hm q h1.1;refine⟨h2.1,?_⟩;have b:q≠h:=by rintro rfl;exact h1.2 h2.2.symm rfl
  rw[a,Ac b,<-h2.2];split<;>rfl
 .intro h1 h2;refine ok.Rs m hm h1 ?_;rw[a] at h2;rw[jG] at h2⊢;grind
 .exact ok.cont m hm
 .exact ok.EC m hm
 .exact ok.ine m hm
 .rw[R_ ok c];split;.rw[d];simp
  .exact hr m hm
section
variable{p n b:Int}(hp:A.has p)(hn:A.has n)(hne:n≠p)
def S_:(A.L9 p n b).nd k=if k=n then{A.nd n with Gm:=p} else if k=p then{A.nd p with Be:=JJ (A.nd p).Be b n} else A.nd k:=by rw[Ar.L9];simp[Kf,IV,hp,hn,Np];grind
def sn(h0:(A.nd n).Gm=0)(a:(A.nd n).EC=0)(hr:¬Reach A n p):∀{m},¬Reach A n m->(A.L9 p n b).up m=A.up m:=by
 intro m hm;have e:m≠n:=by rintro rfl;exact hm .refl
 unfold Ar.up;rw[S_ hp hn hne,Ac e];grind
end
open Classical in
def aFx(ok:E1 A e){p n b:Int}(hp:A.has p)(hn:A.has n)(kp:LZ (A.nd p).kind)(kn:(A.nd n).kind≠1/\(A.nd n).kind≠2)(re:¬Reach A n p)(h0:(A.nd n).Gm=0):E1 (A.L9 p n b) e:=by
 obtain⟨r,hr⟩:=ok.jI;have hne:n≠p:=by rintro rfl;exact re .refl
 have a:=λm=>S_ (k:=m) (b:=b) hp hn hne;have kd:∀m,((A.L9 p n b).nd m).kind=(A.nd m).kind:=λm=>by rw[a];grind
 have l:∀m,((A.L9 p n b).nd m).CF=(A.nd m).CF:=λm=>by rw[a];grind
 have o:∀m,((A.L9 p n b).nd m).cont=(A.nd m).cont:=λm=>by rw[a];grind
 have ho:∀m,((A.L9 p n b).nd m).EC=(A.nd m).EC:=λm=>by rw[a];grind
 have i:(A.nd n).EC=0:=by
  by_cases h0:(A.nd n).EC=0;.exact h0
  .exact absurd ((ok.T1 n hn).QM h0) kn.2
 have g:∀m,A.has m->n∉(A.nd m).Be:=by intro m hm h1;have:=ok.NJ m hm n h1;rw[h0] at this;have:=hm.1;omega
 refine⟨aFw ok.il,?_,?_,?_,?_,?_,?_,?_,?_,?_,λm=>if Reach A n m then r m+r p+1 else r m,?_⟩<;>intro m hm<;>rw[gx] at hm<;>(try simp only[kd,l,o,ho,gx,ſ])
 .rw[a];split;.exact gy (ok.T1 n hn) λ_=>kn
  .split;.exact sS (ok.T1 p hp) (sP (ok.T1 p hp).sm (g p hp)) λ_=>kp
   .exact ok.T1 m hm
 .exact ok.CF m hm
 .exact ok.jH m hm
 .intro h1;by_cases c:m=n
  .subst c;rw[a,Af rfl];refine⟨hp,?_⟩;simp only
   rw[a,Ac (DY hne),Af rfl];exact Vn.2 (.inl rfl)
  .have f:((A.L9 p n b).nd m).Gm=(A.nd m).Gm:=by rw[a,Ac c];split;rename_i e;rw[e];rfl
   rw[f] at h1⊢;have h2:=ok.Gm m hm h1;refine⟨h2.1,?_⟩;rw[a];split;.rename_i j;rw[<-j];exact h2.2
   .split;.rename_i j;rw[<-j];exact Vn.2 (.inr h2.2)
    .exact h2.2
 .intro q hq;by_cases c:q=n
  .subst c;refine⟨hn,?_⟩;rw[a,Af rfl];rw[a] at hq;split at hq;.exact absurd hq (g q hn)
   .split at hq;.rename_i e;exact e.symm
    .exact absurd hq (g m hm)
  .have h1:q∈(A.nd m).Be:=by
    rw[a] at hq;split at hq;.rename_i e;rw[e];exact hq
    .split at hq;.rename_i e;rw[e];exact(Vn.1 hq).resolve_left c
     .exact hq
   have h2:=ok.NJ m hm q h1;refine⟨h2.1,?_⟩;rw[a,Ac c,<-h2.2];split;.rename_i e;rw[e]
   .rfl
 .intro h1 h2;refine ok.Rs m hm h1 ?_;rw[a] at h2;unfold jG at h2⊢;grind
 .exact ok.cont m hm
 .exact ok.EC m hm
 .exact ok.ine m hm
 .intro hu;by_cases hR:Reach A n m
  .by_cases c:m=n
   .subst c;have f:(A.L9 p m b).up m=p:=by unfold Ar.up;rw[a,Af rfl];simp only;rw[Af];have:=hp.1;omega
    rw[f,Ac re,Af hR];omega
   .have f:(A.L9 p n b).up m=A.up m:=by
     unfold Ar.up;rw[a,Ac c];split;.rename_i e;rw[e]
     .rfl
    rw[f] at hu⊢;have d:Reach A n (A.up m):=by
     cases hR with
     |refl=>exact absurd rfl c
     |step _ hx=>exact hx
    rw[Af d,Af hR];have:=hr m hm hu;omega
  .have f:=sn (b:=b) hp hn hne h0 i re hR;rw[f] at hu⊢;have d:¬Reach A n (A.up m):=λh=>hR (.step hu h);rw[Ac d,Ac hR];exact hr m hm hu
def so(ok:E1 A e)(b:A.has h){m:Int}(hr:¬Reach A h m):¬Reach (A.cut h) h m:=by
 intro LU;have key:∀m,Reach (A.cut h) h m->Reach A h m:=by
  intro m hm;induction hm with
  |refl=>exact .refl
  |@step q h1 _ ih=>
   by_cases a:q=h;.rw[a];exact .refl
   .rw[R_ ok b,Ac a] at h1 ih;exact .step h1 ih
 grind
def Rt(ok:E1 A e){p n b:Int}:E1 (A.Gs p n b) e:=by
 unfold Ar.Gs;split
 .rename_i f;have a:=Vo ok f.hn f.kn.2;have kd:∀m,((A.cut n).nd m).kind=(A.nd m).kind:=λm=>by rw[S1 ok f.hn];grind
  refine aFx a (LJ.2 f.hp) (LJ.2 f.hn) ?_ ?_ (so ok f.hn f.re) ?_;.rw[kd];exact f.kp
  .rw[kd];exact f.kn
  .rw[S1 ok f.hn,Af rfl]
 .exact ok
def T_(ok:E1 A e)(f:A.has h)(hx:v_ x)(h1:x.kind=(A.nd h).kind)(h2:x.Gm=(A.nd h).Gm)(o:x.Be=(A.nd h).Be)(c:A.has x.CF/\(A.nd x.CF).kind=1/\(x.kind=1->x.CF=h))(n:x.cont=(A.nd h).cont)(l:x.EC=(A.nd h).EC)(j:jG x->jG (A.nd h)):E1 (A.set h x) e:=by
 let⟨r,hr⟩:=ok.jI;have a:∀m,(A.set h x).nd m=if m=h then x else A.nd m:=λm=>by rw[Kf];simp[f]
 have kd:∀m,((A.set h x).nd m).kind=(A.nd m).kind:=λm=>by rw[a];grind
 have d:∀m,((A.set h x).nd m).Gm=(A.nd m).Gm:=λm=>by rw[a];grind
 have ks:∀m,((A.set h x).nd m).Be=(A.nd m).Be:=λm=>by rw[a];grind
 have g:∀m,((A.set h x).nd m).cont=(A.nd m).cont:=λm=>by rw[a];grind
 have ho:∀m,((A.set h x).nd m).EC=(A.nd m).EC:=λm=>by rw[a];grind
 have u:∀m,(A.set h x).up m=A.up m:=λm=>by unfold Ar.up;rw[d,ho]
 refine⟨by rw[JV];exact ok.il,?_,?_,?_,?_,?_,?_,?_,?_,?_,r,?_⟩<;>intro m hm<;>rw[IV] at hm<;>(try simp[kd,d,ks,g,ho,u,IV,TY])
 .rw[a];split;.exact hx
  .exact ok.T1 m hm
 .rw[a];split;.exact⟨c.1,c.2.1⟩
  .exact ok.CF m hm
 .rw[a];split;.rename_i e;intro b;rw[e,c.2.2 (by rwa[h1,<-e])]
  .exact ok.jH m hm
 .exact ok.Gm m hm
 .exact ok.NJ m hm
 .intro b i;refine ok.Rs m hm b ?_;grind
 .exact ok.cont m hm
 .exact ok.EC m hm
 .exact ok.ine m hm
 .exact hr m hm
def Ar.FU(A:Ar)(d:Int):Int:=if A.inr d≠0 then A.inr d else A.len+1
def Ar.Dq(A:Ar)(d:Int):Ar:=if A.inr d≠0 then A else((A.add {kind:=1,CF:=A.len+1}).Jy d (A.len+1)).Jy (A.len+1) (A.len+1)
def aAb:v_ {kind:=1,CF:=k}:=by constructor<;>simp[Cz,HU]
def gz(ok:E1 A e)(hk:A.has k/\(A.nd k).kind=1):E1 (A.Jy h k) e:=by
 refine⟨?_,ok.T1,ok.CF,ok.jH,ok.Gm,ok.NJ,ok.Rs,ok.cont,ok.EC,?_,ok.jI⟩;.simp only[Ar.Jy];split<;>simp[ok.il]
 .intro m hm h1;rw[QL ok.il] at h1⊢;split at h1;.rename_i h2;rwa[Af h2]
  next h2=>rw[Ac h2];exact ok.ine m hm h1
def U_(ok:E1 A e)(b:A.has h)(he:e≠A.len+1):E1 (A.Dq h) e/\(A.Dq h).has (A.FU h)/\((A.Dq h).nd (A.FU h)).kind=1:=by
 unfold Ar.Dq Ar.FU;split;next h1=>exact⟨ok,ok.ine h b h1⟩
 .have a:=ZC ok aAb (zo ⟨rfl,rfl⟩) rfl rfl rfl rfl (by simp[jG]);have h2:(A.add {kind:=1,CF:=A.len+1}).has (A.len+1)/\((A.add {kind:=1,CF:=A.len+1}).nd (A.len+1)).kind=1:=by rw[D3,Jc,Af rfl];exact⟨zi rfl,rfl⟩
  exact⟨gz (gz a h2) h2,h2⟩
def ZD(hk:k≠A.len+1\/A.inr h≠0):(A.Dq h).nd k=A.nd k:=by
 rw[Ar.Dq];split;.rfl
 next h1=>rw[T0,T0,Jc,Ac (hk.resolve_right h1)]
def sq:(A.Dq h).len=if A.inr h≠0 then A.len else A.len+1:=by
 rw[Ar.Dq];split;.rfl
 .rw[TZ,TZ,Pf]
def OB:A.has k->(A.Dq h).has k:=by
 rw[Ar.Dq];split;.exact id
 .intro hk;rw[QK,QK,D3];exact zo hk
def aAc{d:Int}(ok:E1 A e)(he:A.has e)(n:jG (A.nd e))(hc:(A.nd e).cont=0)(hd:A.has d/\(A.nd d).kind=1):E1 ((A.add {kind:=2,EC:=e,CF:=d}).set e {A.nd e with cont:=A.len+1}) 0:=by
 have no:=S0 (A:=A);let⟨r,hr⟩:=ok.jI;have ne:∀{k},A.has k->k≠A.len+1:=λhk e=>no (e▸hk);have l0:A.len+1≠0:=by have:=he.1;have:=he.2;rw[Ar.len];omega
 have b:∀m,(((A.add {kind:=2,EC:=e,CF:=d}).set e {A.nd e with cont:=A.len+1}).nd m)=if m=e then{A.nd e with cont:=A.len+1} else if m=A.len+1 then{kind:=2,EC:=e,CF:=d} else A.nd m:=λm=>by rw[Kf,Jc];simp[he,D3]
 have hk:(A.nd e).kind=4:=n.1;have h0:(A.nd e).EC=0:=by
  by_cases h0:(A.nd e).EC=0;.exact h0
  .have:=(ok.T1 e he).QM h0;omega
 have e0:e≠0:=by have:=he.1;omega
 have i:v_ {kind:=2,EC:=e,CF:=d}:=by constructor<;>simp[Cz,HU]
 have T1:=ok.T1;have c:=T1 e he;have hne:v_ {A.nd e with cont:=A.len+1}:={k:=c.k,Be:=c.Be,elem:=c.elem,nm:=c.nm,dt:=c.dt,data:=c.data,Cs:=c.Cs,sp:=c.sp,ļ:=c.ļ,Cz:=c.Cz,Ws:=λ_=>n,QM:=c.QM,root:=c.root,sm:=c.sm};have hs:∀m,((A.add {kind:=2,EC:=e,CF:=d}).set e {A.nd e with cont:=A.len+1}).has m↔A.has m\/m=A.len+1:=λm=>by rw[IV,D3]
 have hi:∀m,((A.add {kind:=2,EC:=e,CF:=d}).set e {A.nd e with cont:=A.len+1}).inr m=A.inr m:=λm=>by rw[TY,XG ok.il]
 have g:e≠A.len+1:=ne he;refine⟨by rw[JV];simp[Ar.add,Ar.set,ok.il],?_,?_,?_,?_,?_,?_,?_,?_,?_,λm=>if m=A.len+1 then r e+1 else r m,?_⟩<;>intro m hm<;>rw[hs] at hm<;>(try simp[hs,hi])
 .rw[b];split;.exact hne
  .split;.exact i
   next h1 h2=>exact T1 m (hm.resolve_right h2)
 .have key:∀q,A.has q/\(A.nd q).kind=1->(A.has q\/q=A.len+1)/\(((A.add {kind:=2,EC:=e,CF:=d}).set e {A.nd e with cont:=A.len+1}).nd q).kind=1:=by
   intro q hq;refine⟨zo hq.1,?_⟩;rw[b,Ac (ne hq.1)];split;next a=>rw[a] at hq;exact hq.2
   .exact hq.2
  rw[b m];split;.exact key _ (ok.CF e he)
  .split;.exact key _ hd
   next h1 h2=>exact key _ (ok.CF m (hm.resolve_right h2))
 .rw[b m];split;.rename_i a;intro h1;rw[a];exact ok.jH e he h1
  .split;.intro h1;simp at h1
   next h1 h2=>exact ok.jH m (hm.resolve_right h2)
 .have key:∀q,A.has q->(A.nd q).Gm≠0->(A.has (A.nd q).Gm\/(A.nd q).Gm=A.len+1)/\q∈(((A.add {kind:=2,EC:=e,CF:=d}).set e {A.nd e with cont:=A.len+1}).nd (A.nd q).Gm).Be:=by
   intro q hq hp;have h1:=ok.Gm q hq hp;refine⟨zo h1.1,?_⟩;rw[b,Ac (ne h1.1)];split;next a=>rw[a] at h1;exact h1.2
   .exact h1.2
  rw[b m];split;next a=>rw[a];exact key e he
  .split;.intro h1;simp at h1
   next h1 h2=>exact key m (hm.resolve_right h2)
 .have key:∀q,A.has q->∀k∈(A.nd q).Be,(A.has k\/k=A.len+1)/\(((A.add {kind:=2,EC:=e,CF:=d}).set e {A.nd e with cont:=A.len+1}).nd k).Gm=q:=by
   intro q hq k hk;have h1:=ok.NJ q hq k hk;refine⟨zo h1.1,?_⟩;rw[b,Ac (ne h1.1)];split;next a=>rw[a] at h1;exact h1.2
   .exact h1.2
  rw[b m];split;next a=>rw[a];exact key e he
  .split;.intro k hk;simp at hk
   next h1 h2=>exact key m (hm.resolve_right h2)
 .intro _;rw[b m];split;.intro _;exact l0
  .split;.intro h1;simp[jG] at h1
   next h1 h2=>exact ok.Rs m (hm.resolve_right h2) h1
 .rw[b m];split
  .rename_i a;intro _;simp only
   rw[b,Ac (DY g),Af rfl,a];exact⟨zi trivial,rfl,rfl⟩
  .split;.intro h1;simp at h1
   .rename_i h1 h2;intro j;have f:=ok.cont m (hm.resolve_right h2) j;refine⟨zo f.1,?_⟩;rw[b,Ac (ne f.1)];split;.rename_i a;rw[a,hk] at f;cases Bf f.2.1
    .exact f.2
 .rw[b m];split;.intro h1;cases h1 h0
  .split;.rename_i a;intro _;simp only;refine⟨zo he,?_⟩;rw[b,Af rfl,a]
   .rename_i h1 h2;intro j;have f:=ok.EC m (hm.resolve_right h2) j;refine⟨zo f.1,?_⟩;rw[b,Ac (ne f.1)];split;.rename_i a;rw[a,hc] at f;have:=(hm.resolve_right h2).1;omega
    .exact f.2
 .intro h1;obtain hm|rfl:=hm
  .have h2:=ok.ine m hm h1;refine⟨zo h2.1,?_⟩;rw[b,Ac (ne h2.1)];split;.rename_i a;rw[a] at h2;exact h2.2
   .exact h2.2
  .exfalso;apply h1;rw[Ar.inr];rw[Ac no]
 .by_cases a:m=A.len+1
  .have l:((A.add {kind:=2,EC:=e,CF:=d}).set e {A.nd e with cont:=A.len+1}).up m=e:=by
    have o:m≠e:=by rw[a];exact DY g
    rw[Ar.up];rw[b m];simp[a,DY g]
   rw[l,Ac g,Af a];intro _;omega
  .have hm:=hm.resolve_right a;have l:((A.add {kind:=2,EC:=e,CF:=d}).set e {A.nd e with cont:=A.len+1}).up m=A.up m:=by
    unfold Ar.up;rw[b];split;next o=>rw[o]
    .rfl
   rw[l,Ac a];intro h1;rw[Ac (ne (yQ ok hm h1))];exact hr m hm h1
def Ar.elem(A:Ar)(d sp:Int)(nm:Ai)(at_:List A9):Ar:=
 let x:Fc:={kind:=4,CF:=d,A7:=sp,name:=nm,Aj:=Cz at_}
 if jG x then
  let b:=A.add x
  let a:=b.Dq d
  (a.add {kind:=2,EC:=A.len+1,CF:=b.FU d}).set (A.len+1) {x with cont:=a.len+1}
 else A.add x
def g_{d sp:Int}{nm:Ai}{l:List A9}(ok:E1 A 0)(hd:A.has d/\(A.nd d).kind=1)(hs:0<=sp/\sp<=7)(hl:∀a∈l,0<=a.A7/\a.A7<=7):E1 (A.elem d sp nm l) 0:=by
 have hx:v_ {kind:=4,CF:=d,A7:=sp,name:=nm,Aj:=Cz l}:=by constructor<;>simp[eX,hs];exact λa ha=>hl a (sN ha)
 rw[Ar.elem];simp only
 split
 .rename_i c;have b:E1 A (A.len+1):={ok with Rs:=λh f _=>ok.Rs h f (by have:=f.1;omega)};have j:=ZC b hx (zi ⟨AH,hd⟩) rfl rfl rfl rfl λ_=>rfl;have jJ:(A.add {kind:=4,CF:=d,A7:=sp,name:=nm,Aj:=Cz l}).has d:=D3.2 (zo hd.1);let⟨i,h2,m⟩:=U_ j jJ (by rw[Pf];omega);have g:((A.add {kind:=4,CF:=d,A7:=sp,name:=nm,Aj:=Cz l}).Dq d).nd (A.len+1)={kind:=4,CF:=d,A7:=sp,name:=nm,Aj:=Cz l}:=by rw[ZD (zo (by rw[Pf];omega)),Jc,Af rfl]
  have:=aAc i (OB (D3.2 (zi rfl))) (by rwa[g]) (by rw[g]) ⟨h2,m⟩;grind
 next c=>exact ZC ok hx (zi ⟨AH,hd⟩) rfl rfl rfl rfl λh=>absurd h c
end
def aOy(e:B5):Bool:=decide (e.node=0)
def ZE(n:Int)(e:B5):Bool:=decide (e.node=n)
def yS(l:List B5):Int:=AZ aOy l+1
def D8(n:Int)(l:List B5):Int:=if n=0 then -1 else AZ (ZE n) l
def QN(name:Ai):List B5->Int
 |[]=> -1
 |x::t=>if x.node=0 then -1 else if x.name=name then(zz t:Int) else QN name t
def DT(name:Ai)(l:List B5):Int:=QN name l.reverse
def h_(e:B5):List B5->Nat
 |[]=>0
 |x::t=>if x.node=0 then 0 else h_ e t+(if Hg x e=zm then 1 else 0)
def sT(e:B5):List B5->Int
 |[]=> -1
 |x::t=>if x.node=0 then -1 else if 0<=sT e t then sT e t else if Hg x e=zm then(zz t:Int) else -1
def sU(e:B5)(l:List B5):List B5:=(if e.node≠0/\3<=h_ e l.reverse then Bg l (sT e l.reverse).toNat else l)++[e]
def GB(l:List B5):List B5:=l.take (yS l-1).toNat
structure BS where
 a:Ar
 CF:Int
 AI:List Item
 AW:List B5
 mode:Int
 RL:Int
 tm:List Int
 head:Int
 KP:Int
 Mz:Bool
 ctx:Item
 fs:Bool
 Fe:Bool
 sV:Ai
 skip:Bool
 sw:Int
 stop:Bool
def T2(s:List Ai)(A:Ar)(h:Int):Prop:=(A.nd h).kind=4/\(A.nd h).A7=1/\(A.nd h).name∈s
instance(s:List Ai)(A:Ar)(h:Int):Decidable (T2 s A h):=by rw[T2];infer_instance
abbrev Fw:Ai:=aXA
abbrev Vp:Ai:=aYq
abbrev Vq:Ai:=aYo
abbrev Vr:Ai:=aYr
abbrev wTr:Ai:=[116,114]
abbrev wP:Ai:=[112]
def Ie:List Ai:=[Fw,Vp,Vq,Vr,wTr]
namespace BS
def KB(b:BS):Int×Int:=
 let d:=AZ (AU [AO]) b.AI
 let c:=AZ (AU [Fw]) b.AI
 if c<d then((Dc b.AI d).node,0) else if c<0 then((Dc b.AI 0).node,0) else
 let t:=(Dc b.AI c).node
 if(b.a.nd t).Gm≠0 then((b.a.nd t).Gm,t) else((Dc b.AI (max (c-1) 0)).node,0)
def place(b:BS)(t:Int):Int×Int:=
 if t=0/\b.AI=[] then(b.CF,0) else
 let t':=if t=0 then(DB b.AI).node else t
 let pb:=if b.Fe=zm/\T2 Ie b.a t' then b.KB else(t',0)
 if(b.a.nd pb.1).cont≠0 then((b.a.nd pb.1).cont,0) else pb
end BS
open Classical in
def Ar.ES(A:Ar)(h p bf:Int):Ar:=if(A.nd p).kind=1/\(A.nd h).kind=4/\(∃k∈(A.nd p).Be,(A.nd k).kind=4) then A else A.Gs p h bf
namespace BS
def Jd(b:BS)(p:Int):Int:=if(b.a.nd p).cont≠0 then(if(b.a.nd (b.a.nd p).cont).CF≠0 then(b.a.nd (b.a.nd p).cont).CF else b.CF) else if(b.a.nd p).CF≠0 then(b.a.nd p).CF else b.CF
def If(sp:Int):Prop:=0<=sp/\sp<=7
instance(sp:Int):Decidable (If sp):=by rw[If];infer_instance
def I0(sp:Int)(nm:Ai):Ai:=if sp=2 then Cq nm Jt else nm
section
variable(b:BS)(nm:Ai)(at_:List A9)
def Hb(sp:Int):Item:=if If sp then⟨b.a.len+1,sp,I0 sp nm,Fl sp (I0 sp nm) (at_.map (C2 sp))⟩ else Item.zero
def Ex(sp p:Int):BS:=if If sp then{b with a:=b.a.elem (b.Jd p) sp (I0 sp nm) (at_.map (C2 sp))} else b
end
def M5(b:BS)(sp:Int):Int:=if If sp then b.a.len+1 else 0
section
variable(b:BS)(nm:Ai)(at_:List A9)
def D9(sp:Int):BS:=
 if If sp then
  let pb:=b.place 0
  let b1:=b.Ex nm at_ sp pb.1
  {b1 with a:=b1.a.ES (b.a.len+1) pb.1 pb.2,AI:=b1.AI++[b.Hb nm at_ sp]}
 else b
def GX:BS:=
 let b1:=b.D9 nm at_ 1
 {b1 with AW:=sU ⟨b.a.len+1,nm,at_⟩ b1.AW}
end
end BS
def Ig(r:Int):Ai:=
 if 0<=r/\r<128 then[zn r.toNat]
 else if 128<=r/\r<2048 then[zn (192+r.toNat/64),zn (128+r.toNat%64)]
 else if 2048<=r/\r<65536/\¬(55296<=r/\r<57344) then[zn (224+r.toNat/4096),zn (128+r.toNat/64%64),zn (128+r.toNat%64)]
 else if 65536<=r/\r<=1114111 then[zn (240+r.toNat/262144),zn (128+r.toNat/4096%64),zn (128+r.toNat/64%64),zn (128+r.toNat%64)]
 else[239,191,189]
def Vs(l:List Int)(bf:Int):Option Int:=if bf=0 then l.getLast? else(l.takeWhile λk=>decide (k≠bf)).getLast?
def Ar.T3(A:Ar)(h:Int)(s:Ai):Ar:=A.set h {A.nd h with data:=s}
def Ar.JW(A:Ar)(h:Int)(l:List A9):Ar:=A.set h {A.nd h with Aj:=Cz l}
namespace BS
def Mh(A:Ar)(s:Ai)(p bf:Int):Ar:=
 if(A.nd p).kind=4\/(A.nd p).kind=2 then
  match Vs (A.nd p).Be bf with
  |zy t=>if(A.nd t).kind=5 then A.T3 t ((A.nd t).data++s) else(A.add {kind:=5,CF:=(A.nd p).CF,data:=s}).ES (A.len+1) p bf
  |zf=>(A.add {kind:=5,CF:=(A.nd p).CF,data:=s}).ES (A.len+1) p bf
 else A
def Xd(b:BS)(r:Int):BS:={b with a:=Mh b.a (Ig r) (b.place 0).1 (b.place 0).2}
def Fp(A:Ar)(s:Ai)(p bf:Int):Ar:=
 if LZ (A.nd p).kind then(A.add {kind:=6,CF:=(A.nd p).CF,data:=s}).ES (A.len+1) p bf else A
def HN(b:BS)(s:Ai)(p:Int):BS:={b with a:=if p=0 then Fp b.a s (b.place 0).1 (b.place 0).2 else Fp b.a s p 0}
def DE(b:BS)(nm:Ai)(at_:List A9)(st:Int):BS:=let b1:=b.D9 nm at_ 1;{b1 with sw:=st,RL:=b1.mode,mode:=8}
def BH(b:BS):BS:=if HZ (AU [wP]) (HG 3) b.AI.reverse then{b with AI:=DI Cx (AU [wP]) (DI (Di wP) Cx b.AI)} else b
def settled(b:BS)(e:B5):Bool:=decide (e.node=0\/0<=AZ (BE e.node) b.AI)
def Ih:List B5->BS->List B5×BS
 |[],b=>([],b)
 |e::l,b=>let r:=Ih l (b.D9 e.name e.Aj 1);({e with node:=b.a.len+1}::r.1,r.2)
def L0(b:BS):Nat:=(AZ b.settled b.AW+1).toNat
def A6(b:BS):BS:=let r:=Ih (b.AW.drop b.L0) b;{r.2 with AW:=b.AW.take b.L0++r.1}
def Dz(b:BS)(nm:Ai):BS:=match b.AI.reverse.find? λi=>AU [nm] i||C1 i with
 |zy i=>if AU [nm] i then{b with AI:=Hu i.node (DI (Di nm) Cx b.AI)} else b
 |zf=>b
def J3(l:List Item):Int:=match l.reverse.find? λi=>AU [AO] i||AU [Fw] i with
 |zy i=>if AU [AO] i then 16 else 17
 |zf=>16
end BS
abbrev T4:Ai:=aX4
abbrev Ru:Ai:=aYk
abbrev ic:Ai:=aXD
abbrev Rv:Ai:=aXy
abbrev LK:Ai:=aXN
abbrev V_:Ai:=[116,100]
abbrev W_:Ai:=[116,104]
abbrev Sj:Ai:=aXY
abbrev DQ:Ai:=aXv
def JX:List (Ai×Int):=[(wTr,14),(Vp,13),(Vr,13),(Vq,13),(T4,11),(Ru,12),(Fw,9),(ic,7),(Rv,20)]
namespace BS
def HH(b:BS)(x:Item)(k:Nat):Option Int:=
 if x.A7=1 then
  match JX.find? λr=>decide (r.1=x.name) with
  |zy r=>zy r.2
  |zf=>
   if x.name=LK then zy (J3 (b.AI.take k))
   else if(x.name=V_\/x.name=W_)/\0<k then zy 15
   else if x.name=AO then zy (b.tm.getLast?.getD 7)
   else if x.name=Sj/\0<k then zy 4
   else if x.name=DQ then zy (if b.head=0 then 3 else 6)
   else if k=0 then zy 7 else zf
 else if k=0 then zy 7 else zf
def EY(b:BS)(k:Nat):Item:=if k=0/\b.Mz=zm then b.ctx else b.AI.getD k Item.zero
def Mi(b:BS):Nat->Int
 |0=>7
 |k+1=>match b.HH (b.EY k) k with
  |zy m=>m
  |zf=>b.Mi k
def H7(b:BS):BS:={b with mode:=b.Mi (zz b.AI)}
def plain(l:List A9):List A9:=l.map λa=>⟨0,a.name,a.value⟩
def EG(b:BS)(l:List A9)(h:Int):BS:=if(b.a.nd h).kind=4 then{b with a:=b.a.JW h ((b.a.nd h).Aj++plain l)} else b
def CT(b:BS):BS:=
 if AZ (AU [AO]) b.AI<0 then b
 else H7 {b with AI:=DI Cx (AU [AO]) (DI CM Cx b.AI),AW:=GB b.AW,tm:=b.tm.dropLast}
def IW(b:BS):BS:=if zz b.AI<2 then b else{b with AI:=b.AI.take (zz b.AI-1)}
def sW(b:BS):Item:=if zz b.AI<2 then Item.zero else DB b.AI
end BS
def B5.zero:B5:=⟨0,[],[]⟩
namespace BS
def FJ(blk anc:Int)(far i:Nat)(b:BS)(l:Int)(m:Nat):BS×Int×Nat:=
 let x:=b.AI.getD i Item.zero
 let e:=D8 x.node b.AW
 if e<0 then({b with AI:=Bg b.AI i},l,m)
 else if i+3<far then({b with AW:=Bg b.AW e.toNat,AI:=Bg b.AI i},l,if e.toNat<m then m-1 else m)
 else
  let en:=b.AW.getD e.toNat B5.zero
  let n:=b.Hb en.name en.Aj 1
  let b1:=b.Ex en.name en.Aj 1 anc
  ({b1 with a:=b1.a.Gs n.node l 0,AI:=b1.AI.set i n,AW:=b1.AW.set e.toNat {en with node:=n.node}},n.node,if l=blk then e.toNat+1 else m)
def K4(blk anc:Int)(far k:Nat):Nat->BS×Int×Nat->BS×Int×Nat
 |0,s=>s
 |c+1,s=>K4 blk anc far k c (FJ blk anc far (k+(c+1)) s.1 s.2.1 s.2.2)
def CE(A:Ar)(n:Int)(l:List Int):Ar:=l.foldl (λA x=>A.Gs n x 0) A
def Hh(fe:B5)(blk anc:Int)(s:BS×Int×Nat):BS:=
 let b1:=s.1
 let pb:=b1.place anc
 let b2:={b1 with a:=b1.a.ES s.2.1 pb.1 pb.2}
 let n:=b2.Hb fe.name fe.Aj 1
 let b3:=b2.Ex fe.name fe.Aj 1 blk
 let b:=D8 fe.node b3.AW
 let mk:=if b.toNat<s.2.2 then s.2.2 -1 else s.2.2
 let ac:=Bg b3.AW b.toNat
 let op:=CN fe.node b3.AI
 let ip:=Fo (AZ (BE blk) op+1) (zz op)
 {b3 with a:=(CE b3.a n.node (b3.a.nd blk).Be).Gs blk n.node 0,AW:=ac.take (CL mk (zz ac))++{fe with node:=n.node}::ac.drop (CL mk (zz ac)),AI:=op.take ip++n::op.drop ip}
def round(b:BS)(nm:Ai):Bool×BS:=
 let f:=DT nm b.AW
 if f<0 then(zq,b.Dz nm) else
 let fe:=b.AW.getD f.toNat B5.zero
 let k:=AZ (BE fe.node) b.AI
 if k<0 then(zq,{b with AW:=Bg b.AW f.toNat}) else
 if k=0\/HZ (BE fe.node) (HG 1) b.AI.reverse=zq then(zq,b) else
 let far:=Eg fe.node b.AI
 if far<0 then(zq,{b with AI:=Hu fe.node b.AI,AW:=Bg b.AW f.toNat}) else
 let blk:=(b.AI.getD far.toNat Item.zero).node
 let anc:=(b.AI.getD (k.toNat-1) Item.zero).node
 (zm,Hh fe blk anc (K4 blk anc far.toNat k.toNat (far.toNat-1 -k.toNat) (b,blk,f.toNat)))
def En:Nat->BS->Ai->BS
 |0,b,_=>b
 |n+1,b,nm=>let r:=b.round nm;if r.1 then En n r.2 nm else r.2
def CI(b:BS)(nm:Ai):BS:=
 if AU [nm] (DB b.AI)/\D8 (DB b.AI).node b.AW<0 then b.IW else En 8 b nm
end BS
structure Le(A A':Ar):Prop where
 has:∀h,A.has h->A'.has h
 kind:∀h,A.has h->(A'.nd h).kind=(A.nd h).kind
 A7:∀h,A.has h->(A'.nd h).A7=(A.nd h).A7
 name:∀h,A.has h->(A'.nd h).name=(A.nd h).name
section
variable{A A' A'':Ar}{h k e p n b:Int}{x:Fc}
def Le.refl:Le A A:=⟨λ_ h=>h,λ_ _=>rfl,λ_ _=>rfl,λ_ _=>rfl⟩
def Le.trans(h1:Le A A')(h2:Le A' A''):Le A A'':=⟨λh a=>h2.has h (h1.has h a),λh a=>by rw[h2.kind h (h1.has h a),h1.kind h a],λh a=>by rw[h2.A7 h (h1.has h a),h1.A7 h a],λh a=>by rw[h2.name h (h1.has h a),h1.name h a]⟩
def Le.aDo(h1:∀h,A.has h->A'.has h)(h2:∀h,A.has h->A'.nd h=A.nd h):Le A A':=⟨h1,λh a=>by rw[h2 h a],λh a=>by rw[h2 h a],λh a=>by rw[h2 h a]⟩
def ZF(a:A.has h):h≠A.len+1:=λe=>S0 (A:=A) (e▸a)
def M6(a:A.has h):(A.add x).nd h=A.nd h:=by rw[Jc,Ac (ZF a)]
def yT:Le A (A.add x):= .aDo (λh a=>D3.2 (zo a)) λh a=>M6 a
def jK(h1:x.kind=(A.nd h).kind)(h2:x.A7=(A.nd h).A7)(a:x.name=(A.nd h).name):Le A (A.set h x):=by
 refine⟨λk hk=>IV.2 hk,?_,?_,?_⟩<;>intro k hk<;>rw[Kf]<;>split;.grind
 .rfl
 .grind
 .rfl
 .grind
 .rfl
def ij{l:List Int}:Le A (A.set h {A.nd h with Be:=l}):=jK rfl rfl rfl
def ir:Le A (A.set h {A.nd h with Gm:=p}):=jK rfl rfl rfl
def ZG:Le A (A.cut n):=by
 rw[Ar.cut];simp only;split;.exact .refl
 .exact Le.trans ij ir
def aFy:Le A (A.L9 p n b):=Le.trans ij ir
def Pg:Le A (A.Gs p n b):=by unfold Ar.Gs;split;exact ZG.trans aFy;exact .refl
def Jz:Le A (A.ES n p b):=by rw[Ar.ES];split;exact .refl;exact Pg
def Ph(ok:E1 A e):E1 (A.ES n p b) e:=by rw[Ar.ES];split;exact ok;exact Rt ok
section
variable{d sp:Int}{nm:Ai}{l:List A9}
def sX(a:A.has h):(A.elem d sp nm l).has h/\(A.elem d sp nm l).nd h=A.nd h:=by
 have hne:=ZF a;rw[Ar.elem];simp only
 split;.have h1:(A.add {kind:=4,CF:=d,A7:=sp,name:=nm,Aj:=Cz l}).has h:=D3.2 (zo a);refine⟨IV.2 (D3.2 (zo (OB h1))),?_⟩;rw[Kf,Ac (λe=>hne e.1),M6 (OB h1),ZD (zo (ZF h1)),M6 a]
 .exact⟨D3.2 (zo a),M6 a⟩
def sY:(A.elem d sp nm l).has (A.len+1)/\((A.elem d sp nm l).nd (A.len+1)).kind=4/\((A.elem d sp nm l).nd (A.len+1)).A7=sp/\((A.elem d sp nm l).nd (A.len+1)).name=nm/\((A.elem d sp nm l).nd (A.len+1)).Be=[]/\((A.elem d sp nm l).nd (A.len+1)).Gm=0/\((A.elem d sp nm l).nd (A.len+1)).CF=d/\((A.elem d sp nm l).nd (A.len+1)).Aj=Cz l:=by
 rw[Ar.elem];simp only
 split;.have h1:(A.add {kind:=4,CF:=d,A7:=sp,name:=nm,Aj:=Cz l}).has (A.len+1):=D3.2 (zi rfl);have h2:=D3 (x:={kind:=2,EC:=A.len+1,CF:=(A.add {kind:=4,CF:=d,A7:=sp,name:=nm,Aj:=Cz l}).FU d}).2 (zo (OB (h:=d) h1));rw[IV,Kf,Af ⟨rfl,h2⟩];exact⟨h2,rfl,rfl,rfl,rfl,rfl,rfl,rfl⟩
 .rw[Jc,Af rfl];exact⟨D3.2 (zi rfl),rfl,rfl,rfl,rfl,rfl,rfl,rfl⟩
def XH:Le A (A.elem d sp nm l):= .aDo (λ_ h=>(sX h).1) λ_ h=>(sX h).2
end
def sZ{l:List A9}(ok:E1 A e)(c:A.has h)(hk:(A.nd h).kind=4)(hl:∀a∈l,0<=a.A7/\a.A7<=7):E1 (A.JW h l) e:=by have hx:=ok.T1 h c;refine T_ ok c ⟨hx.k,hx.Be,λh=>absurd hk h,hx.nm,hx.dt,hx.data,hx.Cs,hx.sp,λa ha=>hl a (sN ha),eX l,hx.Ws,hx.QM,hx.root,hx.sm⟩ rfl rfl rfl ⟨(ok.CF h c).1,(ok.CF h c).2,ok.jH h c⟩ rfl rfl λd=>d
def yU{s:Ai}(ok:E1 A e)(a:A.has h)(hk:(A.nd h).kind=5\/(A.nd h).kind=6):E1 (A.T3 h s) e:=by have hx:=ok.T1 h a;refine T_ ok a ⟨hx.k,hx.Be,hx.elem,hx.nm,hx.dt,λf d=>by have:(A.nd h).kind≠5:=f;have:(A.nd h).kind≠6:=d;omega,hx.Cs,hx.sp,hx.ļ,hx.Cz,hx.Ws,hx.QM,hx.root,hx.sm⟩ rfl rfl rfl ⟨(ok.CF h a).1,(ok.CF h a).2,ok.jH h a⟩ rfl rfl λc=>c
def jL{kd d:Int}{s:Ai}(ok:E1 A e)(he:e≠A.len+1)(hd:A.has d/\(A.nd d).kind=1)(hk:kd=5\/kd=6):E1 (A.add {kind:=kd,CF:=d,data:=s}) e:=by
 refine ZC ok ?_ (zi ⟨EP,hd⟩) rfl rfl rfl rfl (λh=>?_);.constructor<;>simp[Cz,HU]<;>omega
 .have:=h.1;simp at this;omega
def yV{s:Ai}:Le A (A.T3 h s):=jK rfl rfl rfl
def tC{l:List A9}:Le A (A.JW h l):=jK rfl rfl rfl
def jM{sp:Int}{a:A9}:0<=(C2 sp a).A7/\(C2 sp a).A7<=7:=by
 rw[C2];split
 .split
  .rename_i s m he;have:∀x∈fT,0<=x.2.1/\x.2.1<=7:=Bf;rw[Em] at he;cases hf:fT.find? λx=>decide (KO sp a.name=x.1) with
   |none=>rw[hf] at he;cases he
   |some y=>rw[hf] at he;have:=this y (RU hf);simp at he;rwa[he] at this
  .grind
 .grind
end
structure ET(b:BS):Prop where
 ok:E1 b.a 0
 CF:b.a.has b.CF/\(b.a.nd b.CF).kind=1
 op:∀i∈b.AI,b.a.has i.node/\(b.a.nd i.node).kind=4/\(b.a.nd i.node).A7=i.A7/\(b.a.nd i.node).name=i.name
 Ľ:(b.AI.map Item.node).Nodup
 ac:∀e∈b.AW,e.node=0\/(b.a.has e.node/\(b.a.nd e.node).kind=4)
 sr:((b.AW.map B5.node).filter λn=>decide (n≠0)).Nodup
structure BA(b:BS):Prop where
 ok:E1 b.a 0
 CF:b.a.has b.CF/\(b.a.nd b.CF).kind=1
def ET.ba{b:BS}(o:ET b):BA b:=⟨o.ok,o.CF⟩
instance{b:BS}:Coe (ET b) (BA b):=⟨ET.ba⟩
section
variable{b:BS}{t:Int}
def aAd{A A':Ar}{l:List Item}(hl:Le A A')(h:∀i∈l,A.has i.node/\(A.nd i.node).kind=4/\(A.nd i.node).A7=i.A7/\(A.nd i.node).name=i.name):∀i∈l,A'.has i.node/\(A'.nd i.node).kind=4/\(A'.nd i.node).A7=i.A7/\(A'.nd i.node).name=i.name:=by intro i hi;have:=h i hi;rw[hl.kind _ this.1,hl.A7 _ this.1,hl.name _ this.1];exact⟨hl.has _ this.1,this.2⟩
def iu{A A':Ar}{l:List B5}(hl:Le A A')(h:∀e∈l,e.node=0\/(A.has e.node/\(A.nd e.node).kind=4)):∀e∈l,e.node=0\/(A'.has e.node/\(A'.nd e.node).kind=4):=by
 intro e he;obtain h|h:=h e he
 .exact zo h
 .rw[hl.kind _ h.1];exact zi ⟨hl.has _ h.1,h.2⟩
def ET.JA(o:ET b){A:Ar}(ok:E1 A 0)(hl:Le b.a A):ET {b with a:=A}:=
 ⟨ok,by rw[hl.kind _ o.CF.1];exact⟨hl.has _ o.CF.1,o.CF.2⟩,aAd hl o.op,o.Ľ,iu hl o.ac,o.sr⟩
def ET.aOz(o:ET b){l:List Item}(h1:∀i∈l,i∈b.AI)(h2:(l.map Item.node).Nodup):ET {b with AI:=l}:=
 ⟨o.ok,o.CF,λi hi=>o.op i (h1 i hi),h2,o.ac,o.sr⟩
def ET.K5(o:ET b){l:List Item}(h1:zu l b.AI):ET {b with AI:=l}:=o.aOz (λ_ hi=>h1.subset hi) (o.Ľ.sublist (h1.map _))
def ET.tD(o:ET b){l:List B5}(h1:zu l b.AW):ET {b with AW:=l}:=
 ⟨o.ok,o.CF,o.op,o.Ľ,λe he=>o.ac e (h1.subset he),o.sr.sublist ((h1.map _).filter _)⟩
def C9{p q:Item->Bool}{l:List Item}:zu (DI p q l) l:=by
 have key:∀r:List Item,zu (Mp p q r) r:=by
  intro r;induction r with
  |nil=>exact A4 _
  |cons x r ih=>
   cases r with
   |nil=>exact A4 _
   |cons y r=>
    rw[Mp];split;.grind
    .grind
 have:=(key l.reverse).reverse;rwa [Iz] at this
def Je{n:Int}{l:List Item}:zu (Hu n l) l:=by rw[Hu];split;exact A4 _;exact C9
def Dg{U:Type}{l:List U}{k:Nat}:zu (Bg l k) l:=by
 conv=>rhs;rw[<-CJ k l]
 refine zu.append (A4 _) ?_;rw[<-Fi];exact List.drop_sublist _ _
def Jf{n:Int}{l:List Item}:zu (CN n l) l:=by rw[CN];split;exact A4 _;exact Dg
def Kg{l:List Item}{i:Int}(h0:0<=i)(h1:i<zz l):Dc l i∈l:=by rw[Dc];rw[Af h0,AS,An Ab];exact AN _
def Ls{U:Type}{q:U->Bool}{l:List U}:AZ q l<zz l∧-1<=AZ q l:=by rcases Dy (q:=q) (l:=l) with⟨h1,_⟩|⟨n,hn,h1,_⟩<;>rw[h1]<;>omega
def su{l:List Item}(h:l≠[]):DB l∈l:=by have:=Ej.2 h;exact Kg Ab Ab
def aAe(o:ET b)(hn:b.AI≠[]):b.a.has b.KB.1/\(b.KB.2≠0->b.a.has b.KB.2/\(b.a.nd b.KB.2).Gm=b.KB.1):=by
 have hl:=Ej.2 hn;have h1:=Ls (q:=AU [AO]) (l:=b.AI);have h2:=Ls (q:=AU [Fw]) (l:=b.AI);rw[BS.KB];simp only
 split;.exact⟨(o.op _ (Kg Ab Ab)).1,λh=>absurd rfl h⟩
 .split;.exact⟨(o.op _ (Kg Ab Ab)).1,λh=>absurd rfl h⟩
  .have c:=o.op _ (Kg (l:=b.AI) (i:=AZ (AU [Fw]) b.AI) Ab Ab);split;.rename_i hp;exact⟨(o.ok.Gm _ c.1 hp).1,λ_=>⟨c.1,rfl⟩⟩
   .exact⟨(o.op _ (Kg Ab Ab)).1,λh=>absurd rfl h⟩
def ZH(o:ET b)(ht:t=0\/(b.a.has t/\b.AI≠[])):b.a.has (b.place t).1/\((b.place t).2≠0->b.a.has (b.place t).2/\(b.a.nd (b.place t).2).Gm=(b.place t).1):=by
 rw[BS.place];simp only
 split;.exact⟨o.CF.1,λh=>absurd rfl h⟩
 .rename_i h0;have hn:b.AI≠[]:=by grind
  have h1:b.a.has (if t=0 then(DB b.AI).node else t):=by
   split;.exact(o.op _ (su hn)).1
   .grind
  generalize(if t=0 then(DB b.AI).node else t)=t' at h1;have h2:b.a.has (if b.Fe=zm/\T2 Ie b.a t' then b.KB else(t',0)).1/\((if b.Fe=zm/\T2 Ie b.a t' then b.KB else(t',0)).2≠0->b.a.has (if b.Fe=zm/\T2 Ie b.a t' then b.KB else(t',0)).2/\(b.a.nd (if b.Fe=zm/\T2 Ie b.a t' then b.KB else(t',0)).2).Gm=(if b.Fe=zm/\T2 Ie b.a t' then b.KB else(t',0)).1):=by
   split;.exact aAe o hn
   .grind
  generalize(if b.Fe=zm/\T2 Ie b.a t' then b.KB else(t',0))=pb at h2;split;next hc=>exact⟨(o.ok.cont _ h2.1 hc).1,λh=>absurd rfl h⟩
  .exact h2
def Rw(o:BA b){p:Int}:b.a.has (b.Jd p)/\(b.a.nd (b.Jd p)).kind=1:=by
 rw[BS.Jd];by_cases hp:b.a.has p
 .have key:∀q,b.a.has q->b.a.has (if(b.a.nd q).CF≠0 then(b.a.nd q).CF else b.CF)/\(b.a.nd (if(b.a.nd q).CF≠0 then(b.a.nd q).CF else b.CF)).kind=1:=by
   intro q hq;split;.exact o.ok.CF q hq
   .exact o.CF
  split;next hc=>exact key _ (o.ok.cont p hp hc).1
  .exact key p hp
 .rw[H6 hp];exact o.CF
variable{nm:Ai}{at_:List A9}{sp p:Int}
structure X_(b b1:BS)(i:Item):Prop where
 has:b1.a.has i.node
 kind:(b1.a.nd i.node).kind=4
 A7:(b1.a.nd i.node).A7=i.A7
 name:(b1.a.nd i.node).name=i.name
 new:¬b.a.has i.node
def QP(o:ET b)(hs:BS.If sp):ET (b.Ex nm at_ sp p)/\X_ b (b.Ex nm at_ sp p) (b.Hb nm at_ sp)/\Le b.a (b.Ex nm at_ sp p).a:=by
 have hd:=Rw o.ba (p:=p);unfold BS.Ex BS.Hb;rw[Af hs,Af hs];have ok:=g_ (sp:=sp) (nm:=BS.I0 sp nm) (l:=at_.map (C2 sp)) o.ok hd hs (by intro a ha;obtain⟨c,_,rfl⟩:=Bs.1 ha;exact jM)
 have hn:=sY (A:=b.a) (d:=b.Jd p) (sp:=sp) (nm:=BS.I0 sp nm) (l:=at_.map (C2 sp));exact⟨o.JA ok XH,⟨hn.1,hn.2.1,hn.2.2.1,hn.2.2.2.1,S0⟩,XH⟩
def Y_(o:BA b)(hs:BS.If sp):BA (b.Ex nm at_ sp p):=by
 have hd:=Rw o (p:=p);rw[BS.Ex];rw[Af hs];have ok:=g_ (sp:=sp) (nm:=BS.I0 sp nm) (l:=at_.map (C2 sp)) o.ok hd hs (by intro a ha;obtain⟨c,_,rfl⟩:=Bs.1 ha;exact jM)
 have l:=XH (A:=b.a) (d:=b.Jd p) (sp:=sp) (nm:=BS.I0 sp nm) (l:=at_.map (C2 sp));exact⟨ok,by rw[l.kind _ o.CF.1];exact⟨l.has _ o.CF.1,o.CF.2⟩⟩
section
variable(o:ET b){b1:BS}{i:Item}(f:X_ b b1 i)
def OC:i.node∉b.AI.map Item.node:=by intro h;let⟨j,hj,e⟩:=Bs.1 h;exact f.new (e▸(o.op j hj).1)
def Rx:i.node∉b.AW.map B5.node:=by
 intro h;let⟨j,hj,e⟩:=Bs.1 h;obtain h1|h1:=o.ac j hj
 .have:=f.has.1;omega
 .exact f.new (e▸h1.1)
end
def sx{U:Type}[DecidableEq U]{l:List U}{k:Nat}{x:U}(h:l.Nodup)(hx:x∉l):(l.take k++x::l.drop k).Nodup:=by
 have e:=CJ k l;rw[CO];rw[<-e,CO] at h;refine⟨h.1,Cl.2 ⟨λh1=>hx (BO h1),h.2.1⟩,?_⟩;rintro a ha c hc rfl;obtain rfl|hc:=AR.1 hc
 .grind
 .grind
def yW{U:Type}[DecidableEq U]{l:List U}{k:Nat}{x:U}(h:l.Nodup)(hx:x∉l):(l.set k x).Nodup:=by
 rw[B1];split
 .have e:=CJ k l;rw[CO];rw[<-e,CO] at h;have hd:zu (l.drop (k+1)) (l.drop k):=by grind
  refine⟨h.1,Cl.2 ⟨λh1=>hx (BO h1),h.2.1.sublist hd⟩,?_⟩;rintro a ha c hc rfl;obtain rfl|hc:=AR.1 hc
  .exact hx (BJ ha)
  .grind
 .exact h
def eY{U Z:Type}(f:U->Z)(l:List U)(k:Nat)(x:U):(l.take k++x::l.drop k).map f=(l.map f).take k++f x::(l.map f).drop k:=AH
section
variable(o:ET b){i:Item}{k:Nat}(h1:b.a.has i.node/\(b.a.nd i.node).kind=4/\(b.a.nd i.node).A7=i.A7/\(b.a.nd i.node).name=i.name)(h2:i.node∉b.AI.map Item.node)
def ET.aFz:ET {b with AI:=b.AI.take k++i::b.AI.drop k}:=by
 refine⟨o.ok,o.CF,?_,by show((b.AI.take k++i::b.AI.drop k).map Item.node).Nodup;rw[eY];exact sx o.Ľ h2,o.ac,o.sr⟩;intro j hj;obtain hj|hj:=Ay.1 hj
 .exact o.op j (BJ hj)
 .rcases AR.1 hj with rfl|hj
  .exact h1
  .exact o.op j (BO hj)
def ET.yX:ET {b with AI:=b.AI.set k i}:=by
 refine⟨o.ok,o.CF,?_,by show((b.AI.set k i).map Item.node).Nodup;rw[EI];exact yW o.Ľ h2,o.ac,o.sr⟩;intro j hj;obtain hj|rfl:=DK hj
 .exact o.op j hj
 .exact h1
end
section
variable{l:List Int}{k:Nat}{x:Int}(h:(l.filter λn=>decide (n≠0)).Nodup)(hx:x∉l)
def Z_:((l.take k++x::l.drop k).filter λn=>decide (n≠0)).Nodup:=by
 have e:=CJ k l;rw[Fx,CO];by_cases h0:x=0;.grind
 .grind
def À:((l.set k x).filter λn=>decide (n≠0)).Nodup:=by
 rw[B1];split
 .have h2:(((l.take k++l.drop (k+1))).filter λn=>decide (n≠0)).Nodup:=h.sublist ((show zu (Bg l k) l from Dg).filter _);by_cases h0:x=0;.grind
  .grind
 .exact h
end
def ET.aFA(o:ET b){e:B5}{k:Nat}(h1:e.node=0\/(b.a.has e.node/\(b.a.nd e.node).kind=4))(h2:e.node=0\/e.node∉b.AW.map B5.node):ET {b with AW:=b.AW.take k++e::b.AW.drop k}:=by
 refine⟨o.ok,o.CF,o.op,o.Ľ,?_,?_⟩
 .intro j hj;obtain hj|hj:=Ay.1 hj
  .exact o.ac j (BJ hj)
  .rcases AR.1 hj with rfl|hj
   .exact h1
   .exact o.ac j (BO hj)
 .show(((b.AW.take k++e::b.AW.drop k).map B5.node).filter _).Nodup;rw[eY];obtain h2|h2:=h2
  .have:=o.sr;conv at this=>rw[<-CJ k (b.AW.map B5.node),Fx]
   rwa[Fx,List.filter_cons_of_neg (by simp[h2])]
  .exact Z_ o.sr h2
def ET.yY(o:ET b){e:B5}{k:Nat}(h1:b.a.has e.node/\(b.a.nd e.node).kind=4)(h2:e.node∉b.AW.map B5.node):ET {b with AW:=b.AW.set k e}:=by
 refine⟨o.ok,o.CF,o.op,o.Ľ,?_,?_⟩
 .intro j hj;obtain hj|rfl:=DK hj
  .exact o.ac j hj
  .exact zi h1
 .show(((b.AW.set k e).map B5.node).filter _).Nodup;rw[EI];exact À o.sr h2
def QQ(o:ET b):ET (b.D9 nm at_ sp):=by
 rw[BS.D9];split
 .rename_i hs;let⟨d,f,hl⟩:=QP (nm:=nm) (at_:=at_) (p:=(b.place 0).1) o hs;have g:=d.JA (Ph (n:=b.a.len+1) (p:=(b.place 0).1) (b:=(b.place 0).2) d.ok) Jz;have c:Le (b.Ex nm at_ sp (b.place 0).1).a ((b.Ex nm at_ sp (b.place 0).1).a.ES (b.a.len+1) (b.place 0).1 (b.place 0).2):=Jz;have ho:(b.Ex nm at_ sp (b.place 0).1).AI=b.AI:=by rw[BS.Ex];rw[Af hs]
  have:=g.aFz (i:=b.Hb nm at_ sp) (k:=zz b.AI) ⟨c.has _ f.has,by rw[c.kind _ f.has];exact f.kind,by rw[c.A7 _ f.has];exact f.A7,by rw[c.name _ f.has];exact f.name⟩ (by simp only[ho];exact OC o f);simp[ho,Bt,EJ] at this;simp[ho];exact this
 .exact o
def T5{l:List B5}{e:B5}:∃l',zu l' l/\sU e l=l'++[e]:=by
 rw[sU];split;.exact⟨_,Dg,rfl⟩
 .grind
def aAf:Le b.a (b.D9 nm at_ sp).a:=by
 unfold BS.D9 BS.Ex;split;.exact Le.trans XH Jz
 .exact .refl
def tE(hs:BS.If sp):(b.D9 nm at_ sp).a.has (b.a.len+1)/\((b.D9 nm at_ sp).a.nd (b.a.len+1)).kind=4:=by
 unfold BS.D9 BS.Ex;rw[Af hs];simp only
 rw[Af hs];have hn:=sY (A:=b.a) (d:=b.Jd (b.place 0).1) (sp:=sp) (nm:=BS.I0 sp nm) (l:=at_.map (C2 sp));exact⟨Jz.has _ hn.1,by rw[Jz.kind _ hn.1];exact hn.2.1⟩
def Er:(b.D9 nm at_ sp).AW=b.AW:=by unfold BS.D9 BS.Ex;split<;>rfl
def Kn:BS.If 1:=⟨Bf,Bf⟩
def aAg(o:ET b):b.a.len+1∉b.AW.map B5.node:=by
 intro h;let⟨j,hj,e⟩:=Bs.1 h;obtain h1|h1:=o.ac j hj
 .unfold Ar.len at e;omega
 .exact S0 (e▸h1.1)
def eZ(o:ET b):ET (b.GX nm at_):=by
 have d:=QQ (nm:=nm) (at_:=at_) (sp:=1) o;unfold BS.GX;simp only
 let⟨l',h1,h2⟩:=T5 (l:=(b.D9 nm at_ 1).AW) (e:=⟨b.a.len+1,nm,at_⟩);rw[h2];have c:=d.tD h1;have:=c.aFA (e:=⟨b.a.len+1,nm,at_⟩) (k:=zz l') (zi (tE Kn)) (zi (by intro h;exact aAg o ((h1.map B5.node).subset h)))
 exact zv this
def ET.of_eq{c:BS}(o:ET b)(h1:c.a=b.a)(h2:c.CF=b.CF)(f:c.AI=b.AI)(d:c.AW=b.AW):ET c:=
 ⟨h1▸o.ok,by rw[h1,h2];exact o.CF,by rw[h1,f];exact o.op,by rw[f];exact o.Ľ,by rw[h1,d];exact o.ac,by rw[d];exact o.sr⟩
def yZ{l:List Int}{bf t:Int}(h:Vs l bf=zy t):t∈l:=by
 rw[Vs] at h;split at h;.grind
 .exact(List.takeWhile_sublist _).subset (List.mem_of_getLast? h)
def sy{A:Ar}{s:Ai}{p bf:Int}(ok:E1 A 0)(hp:A.has p):E1 (BS.Mh A s p bf) 0/\Le A (BS.Mh A s p bf):=by
 have h0:(0:Int)≠A.len+1:=by rw[Ar.len];omega
 have ha:=Ph (n:=A.len+1) (p:=p) (b:=bf) (jL (s:=s) (kd:=5) ok h0 (ok.CF p hp) (zo rfl));have hl:Le A ((A.add {kind:=5,CF:=(A.nd p).CF,data:=s}).ES (A.len+1) p bf):=Le.trans yT Jz;rw[BS.Mh];split
 .split
  .rename_i t ht;split;.rename_i hk;exact⟨yU ok (ok.NJ p hp _ (yZ ht)).1 (zo hk),yV⟩
   .exact⟨ha,hl⟩
  .exact⟨ha,hl⟩
 .exact⟨ok,.refl⟩
def iv(o:ET b){r:Int}:ET (b.Xd r):=by have h:=sy (s:=Ig r) (bf:=(b.place 0).2) o.ok (ZH o (zo rfl)).1;exact o.JA h.1 h.2
def T6{A:Ar}{s:Ai}{p bf:Int}(ok:E1 A 0):E1 (BS.Fp A s p bf) 0/\Le A (BS.Fp A s p bf):=by
 rw[BS.Fp];split
 .rename_i hk;have hp:A.has p:=by
   by_cases hp:A.has p;.exact hp
   .rw[H6 hp] at hk;rw[LZ] at hk;simp at hk
  have h0:(0:Int)≠A.len+1:=by rw[Ar.len];omega
  exact⟨Ph (jL (s:=s) (kd:=6) ok h0 (ok.CF p hp) (zi rfl)),Le.trans yT Jz⟩
 .exact⟨ok,.refl⟩
section
variable(o:ET b)
def ZI{s:Ai}{p:Int}:ET (b.HN s p):=by
 rw[BS.HN];split;.have h:=T6 (s:=s) (p:=(b.place 0).1) (bf:=(b.place 0).2) o.ok;exact o.JA h.1 h.2
 .have h:=T6 (s:=s) (p:=p) (bf:=0) o.ok;exact o.JA h.1 h.2
def zB{st:Int}:ET (b.DE nm at_ st):=(QQ o).of_eq rfl rfl rfl rfl
def s_:ET b.BH:=by
 rw[BS.BH];split;.exact o.K5 (C9.trans C9)
 .exact o
def fA:ET (b.Dz nm):=by
 rw[BS.Dz];split
 .split;.exact o.K5 (Je.trans C9)
  .exact o
 .exact o
def T7:ET b.H7:=o.of_eq rfl rfl rfl rfl
def tF{l:List A9}{h:Int}:ET (b.EG l h):=by
 rw[BS.EG];split
 .rename_i hk;have d:b.a.has h:=by
   by_cases hp:b.a.has h;.exact hp
   .rw[H6 hp] at hk;simp at hk
  refine o.JA (sZ o.ok d hk ?_) tC;intro a ha;obtain ha|ha:=Ay.1 ha
  .exact(o.ok.T1 h d).ļ a ha
  .obtain⟨c,_,rfl⟩:=Bs.1 ha;simp
 .exact o
def ZJ:ET b.CT:=by
 rw[BS.CT];split;.exact o
 .have a:=(o.K5 (C9 (p:=Cx) (q:=AU [AO]) (l:=DI CM Cx b.AI) |>.trans C9)).tD (l:=GB b.AW) (CB _ _);exact(T7 (b:={b with AI:=DI Cx (AU [AO]) (DI CM Cx b.AI),AW:=GB b.AW,tm:=b.tm.dropLast}) (a.of_eq rfl rfl rfl rfl))
def Á:ET b.IW:=by
 rw[BS.IW];split;.exact o
 .exact o.K5 (CB _ _)
end
structure aJb(b:BS)(l:List B5)(r:List B5×BS):Prop where
 ok:ET r.2
 le:Le b.a r.2.a
 AW:r.2.AW=b.AW
 len:r.1.length=zz l
 nodes:∀e∈r.1,r.2.a.has e.node/\(r.2.a.nd e.node).kind=4/\¬b.a.has e.node
 aDp:(r.1.map B5.node).Nodup
 aJc:r.1.map B5.name=l.map B5.name
def iw:∀{l:List B5} {b:BS},ET b->aJb b l (BS.Ih l b)
 |[],b,o=>by
  refine⟨o,.refl,rfl,rfl,?_,?_,rfl⟩;.intro e he;cases he
  .exact Q7
 |e::l,b,o=>by
  have d:=QQ (nm:=e.name) (at_:=e.Aj) (sp:=1) o;have r:=iw (l:=l) d;have hl:Le b.a (b.D9 e.name e.Aj 1).a:=aAf;have hn:=tE (b:=b) (nm:=e.name) (at_:=e.Aj) Kn;refine⟨r.ok,hl.trans r.le,r.AW.trans Er,by simp[BS.Ih,r.len],?_,?_,by simp[BS.Ih,r.aJc]⟩
  .intro c hc;obtain rfl|hc:=AR.1 hc
   .exact⟨r.le.has _ hn.1,(r.le.kind _ hn.1).trans hn.2,S0⟩
   .have:=r.nodes c hc;exact⟨this.1,this.2.1,λh=>this.2.2 (hl.has _ h)⟩
  .simp only[BS.Ih,Bm,Cl];refine⟨λh=>?_,r.aDp⟩;let⟨c,hc,f⟩:=Bs.1 h;exact(r.nodes c hc).2.2 (f▸hn.1)
def ZK(o:ET b):ET b.A6:=by
 have r:=iw (l:=b.AW.drop b.L0) o;rw[BS.A6];have hc:=iu r.le o.ac;refine⟨r.ok.ok,r.ok.CF,r.ok.op,r.ok.Ľ,?_,?_⟩
 .intro e he;obtain he|he:=Ay.1 he
  .grind
  .exact zi ⟨(r.nodes e he).1,(r.nodes e he).2.1⟩
 .show(((b.AW.take b.L0++(BS.Ih (b.AW.drop b.L0) b).1).map B5.node).filter _).Nodup;rw[BL,Fx,CO];refine⟨o.sr.sublist (((CB _ _).map _).filter _),r.aDp.filter _,?_⟩;rintro a ha c JH rfl;obtain⟨i,h1,rfl⟩:=Bs.1 (Gc.1 ha).1;let⟨g,h2,j⟩:=Bs.1 (Gc.1 JH).1;have f:=(r.nodes g h2);obtain d|d:=o.ac i (BJ h1)
  .have:=f.1.1;omega
  .grind
def ZL(o:ET b){blk anc:Int}{far i:Nat}{l:Int}{m:Nat}(hl:b.a.has l):ET (BS.FJ blk anc far i b l m).1/\(BS.FJ blk anc far i b l m).1.a.has (BS.FJ blk anc far i b l m).2.1/\Le b.a (BS.FJ blk anc far i b l m).1.a:=by
 rw[BS.FJ];simp only
 split;.exact⟨o.K5 Dg,hl,.refl⟩
 .split;.exact⟨(o.tD Dg).K5 Dg,hl,.refl⟩
  .generalize K6:b.AW.getD (D8 (b.AI.getD i Item.zero).node b.AW).toNat B5.zero=en;let⟨d,f,EH⟩:=QP (nm:=en.name) (at_:=en.Aj) (p:=anc) o Kn;have c:Le (b.Ex en.name en.Aj 1 anc).a ((b.Ex en.name en.Aj 1 anc).a.Gs (b.Hb en.name en.Aj 1).node l 0):=Pg;have OQ:(b.Ex en.name en.Aj 1 anc).AI=b.AI:=by rw[BS.Ex];rw[Af Kn]
   have Sk:(b.Ex en.name en.Aj 1 anc).AW=b.AW:=by rw[BS.Ex];rw[Af Kn]
   have q:=d.JA (Rt (p:=(b.Hb en.name en.Aj 1).node) (n:=l) (b:=0) d.ok) c;have j:=q.yX (i:=b.Hb en.name en.Aj 1) (k:=i) ⟨c.has _ f.has,by rw[c.kind _ f.has];exact f.kind,by rw[c.A7 _ f.has];exact f.A7,by rw[c.name _ f.has];exact f.name⟩ (by simp only[OQ];exact OC o f);have g:=j.yY (e:={en with node:=(b.Hb en.name en.Aj 1).node}) (k:=(D8 (b.AI.getD i Item.zero).node b.AW).toNat) ⟨c.has _ f.has,by rw[c.kind _ f.has];exact f.kind⟩ (by simp only[Sk];exact Rx o f);exact⟨g,c.has _ f.has,EH.trans c⟩
def XI{blk anc:Int}{far k:Nat}:∀{c:Nat} {s:BS×Int×Nat},ET s.1->s.1.a.has s.2.1->ET (BS.K4 blk anc far k c s).1/\(BS.K4 blk anc far k c s).1.a.has (BS.K4 blk anc far k c s).2.1/\Le s.1.a (BS.K4 blk anc far k c s).1.a
 |0,s,o,h=>⟨o,h,.refl⟩
 |c+1,s,o,h=>by let⟨f,h1,l1⟩:=ZL (blk:=blk) (anc:=anc) (far:=far) (i:=k+(c+1)) (m:=s.2.2) o h;let⟨d,h2,g⟩:=XI (blk:=blk) (anc:=anc) (far:=far) (k:=k) (c:=c) f h1;exact⟨d,h2,l1.trans g⟩
def NN{n:Int}:∀{l:List Int} {A:Ar},E1 A 0->E1 (BS.CE A n l) 0/\Le A (BS.CE A n l)
 |[],A,ok=>⟨ok,.refl⟩
 |x::l,A,ok=>by have h:=NN (n:=n) (l:=l) (Rt (p:=n) (n:=x) (b:=0) ok);exact⟨h.1,Le.trans Pg h.2⟩
def td{fe:B5}{blk anc:Int}{s:BS×Int×Nat}(o:ET s.1):ET (BS.Hh fe blk anc s)/\Le s.1.a (BS.Hh fe blk anc s).a:=by
 rw[BS.Hh];simp only
 generalize fB:s.1.place anc=pb;have l1:Le s.1.a (s.1.a.ES s.2.1 pb.1 pb.2):=Jz;have d:=o.JA (Ph (n:=s.2.1) (p:=pb.1) (b:=pb.2) o.ok) l1;generalize PL:({s.1 with a:=s.1.a.ES s.2.1 pb.1 pb.2}:BS)=b2 at d;have PV:b2.a=s.1.a.ES s.2.1 pb.1 pb.2:=by rw[<-PL]
 let⟨j,f,l3⟩:=QP (nm:=fe.name) (at_:=fe.Aj) (p:=blk) d Kn;have OQ:(b2.Ex fe.name fe.Aj 1 blk).AI=b2.AI:=by rw[BS.Ex];rw[Af Kn]
 have Sk:(b2.Ex fe.name fe.Aj 1 blk).AW=b2.AW:=by rw[BS.Ex];rw[Af Kn]
 generalize vy:b2.Ex fe.name fe.Aj 1 blk=b3 at*;generalize hn:b2.Hb fe.name fe.Aj 1=n at*;let⟨wc,l4⟩:=NN (n:=n.node) (l:=(b3.a.nd blk).Be) j.ok;have g:=Rt (p:=blk) (n:=n.node) (b:=0) wc;have c:Le b3.a ((BS.CE b3.a n.node (b3.a.nd blk).Be).Gs blk n.node 0):=l4.trans Pg;have q:=j.JA g c;have fr:((BS.CE b3.a n.node (b3.a.nd blk).Be).Gs blk n.node 0).has n.node/\(((BS.CE b3.a n.node (b3.a.nd blk).Be).Gs blk n.node 0).nd n.node).kind=4/\(((BS.CE b3.a n.node (b3.a.nd blk).Be).Gs blk n.node 0).nd n.node).A7=n.A7/\(((BS.CE b3.a n.node (b3.a.nd blk).Be).Gs blk n.node 0).nd n.node).name=n.name:=
  ⟨c.has _ f.has,by rw[c.kind _ f.has];exact f.kind,by rw[c.A7 _ f.has];exact f.A7,by rw[c.name _ f.has];exact f.name⟩
 have m:=(q.tD (l:=Bg b3.AW (D8 fe.node b3.AW).toNat) Dg).K5 (l:=CN fe.node b3.AI) Jf;have u:n.node∉(CN fe.node b3.AI).map Item.node:=λh=>OC d f ((Jf.map Item.node).subset (by rwa[OQ] at h));have r:n.node∉(Bg b3.AW (D8 fe.node b3.AW).toNat).map B5.node:=λh=>Rx d f ((Dg.map B5.node).subset (by rwa[Sk] at h));refine⟨(m.aFz (i:=n) fr u).aFA (e:={fe with node:=n.node}) (zi ⟨fr.1,fr.2.1⟩) (zi r),?_⟩;rw[PV] at l3;exact l1.trans (l3.trans c)
def ZM(o:ET b):ET (b.round nm).2/\Le b.a (b.round nm).2.a:=by
 have d:Le b.a (b.Dz nm).a:=by
  rw[BS.Dz];split;.split<;>exact .refl
  .exact .refl
 rw[BS.round];simp only
 split;.exact⟨fA o,d⟩
 .split;.exact⟨o.tD Dg,.refl⟩
  .split;.exact⟨o,.refl⟩
   .split;.exact⟨(o.K5 Je).tD Dg,.refl⟩
    .rename_i hf;have aUT:Eg (b.AW.getD (DT nm b.AW).toNat B5.zero).node b.AI<zz b.AI:=by
      rw[Jb];split;.omega
      .unfold Fm;split;.rename_i k hk;have:=(E4.1 hk).1;rw[Bi] at this;omega
       .omega
     have hb:b.a.has (b.AI.getD (Eg (b.AW.getD (DT nm b.AW).toNat B5.zero).node b.AI).toNat Item.zero).node:=by rw[AS,An Ab];exact(o.op _ (AN _)).1
     let⟨f,h1,l1⟩:=XI (blk:=(b.AI.getD (Eg (b.AW.getD (DT nm b.AW).toNat B5.zero).node b.AI).toNat Item.zero).node) (anc:=(b.AI.getD ((AZ (BE (b.AW.getD (DT nm b.AW).toNat B5.zero).node) b.AI).toNat-1) Item.zero).node) (far:=(Eg (b.AW.getD (DT nm b.AW).toNat B5.zero).node b.AI).toNat) (k:=(AZ (BE (b.AW.getD (DT nm b.AW).toNat B5.zero).node) b.AI).toNat) (c:=(Eg (b.AW.getD (DT nm b.AW).toNat B5.zero).node b.AI).toNat-1 -(AZ (BE (b.AW.getD (DT nm b.AW).toNat B5.zero).node) b.AI).toNat) (s:=(b,(b.AI.getD (Eg (b.AW.getD (DT nm b.AW).toNat B5.zero).node b.AI).toNat Item.zero).node,(DT nm b.AW).toNat)) o hb;have r:=td (fe:=b.AW.getD (DT nm b.AW).toNat B5.zero) (blk:=(b.AI.getD (Eg (b.AW.getD (DT nm b.AW).toNat B5.zero).node b.AI).toNat Item.zero).node) (anc:=(b.AI.getD ((AZ (BE (b.AW.getD (DT nm b.AW).toNat B5.zero).node) b.AI).toNat-1) Item.zero).node) f;exact⟨r.1,l1.trans r.2⟩
def fC:∀{n:Nat} {b:BS},ET b->ET (BS.En n b nm)/\Le b.a (BS.En n b nm).a
 |0,b,o=>⟨o,.refl⟩
 |n+1,b,o=>by
  let⟨c,l1⟩:=ZM (nm:=nm) o;unfold BS.En;simp only
  split;.have r:=fC (n:=n) c;exact⟨r.1,l1.trans r.2⟩
  .exact⟨c,l1⟩
def fD(o:ET b):ET (b.CI nm):=by
 rw[BS.CI];split;.exact Á o
 .exact(fC o).1
end
structure N4(A:Ar):Prop where
 n:zz A.n<=1000000000
 at_:∀x,(A.nd x).Aj.length<=1000000000
 data:∀x,(A.nd x).data.length<=1000000000
def DV(l:List A9):Prop:=zz l<=1000/\∀a∈l,zz a.name<=1000/\zz a.value<=1000
structure B0(b:BS)(m:Nat):Prop where
 n:zz b.a.n+m<=900000000
 at_:∀x,(b.a.nd x).Aj.length+m<=1000000000
 data:∀x,(b.a.nd x).data.length+m<=1000000000
 AI:zz b.AI+m<=900000000
 AW:zz b.AW+m<=900000000
 tm:zz b.tm+m<=900000000
 DL:∀e∈b.AW,zz e.name<=1000/\DV e.Aj
 Xe:∀i∈b.AI,zz i.name<=1000
def B0.Wt{b:BS}{m:Nat}(r:B0 b m):N4 b.a:=⟨by have:=r.n;omega,λx=>by have:=r.at_ x;omega,λx=>by have:=r.data x;omega⟩
def B0.le{b:BS}{m m':Nat}(r:B0 b m)(hm:m'<=m):B0 b m':=⟨by have:=r.n;omega,λx=>by have:=r.at_ x;omega,λx=>by have:=r.data x;omega,by have:=r.AI;omega,by have:=r.AW;omega,by have:=r.tm;omega,r.DL,r.Xe⟩
def fE{sp:Int}{y:A9}:(C2 sp y).value=y.value:=by
 rw[C2];split;.split<;>rfl
 .rfl
structure N5(A A':Ar):Prop where
 n:zz A'.n=zz A.n
 at_:∀x,(A'.nd x).Aj=(A.nd x).Aj
 data:∀x,(A'.nd x).data=(A.nd x).data
section
variable{A A' A'':Ar}{x p bf:Int}{b:BS}{m:Nat}
def N5.refl:N5 A A:=⟨rfl,λ_=>rfl,λ_=>rfl⟩
def N5.trans(h:N5 A A')(k:N5 A' A''):N5 A A'':=⟨k.n.trans h.n,λx=>(k.at_ x).trans (h.at_ x),λx=>(k.data x).trans (h.data x)⟩
def tG{y:Fc}(h1:y.Aj=(A.nd x).Aj)(h2:y.data=(A.nd x).data):N5 A (A.set x y):=by
 refine⟨JV,λk=>?_,λk=>?_⟩<;>rw[Kf]<;>split;next e=>rw[h1,e.1]
 .rfl
 next e=>rw[h2,e.1]
 .rfl
def Vt{l:List Int}:N5 A (A.set x {A.nd x with Be:=l}):=tG rfl rfl
def Vu:N5 A (A.set x {A.nd x with Gm:=p}):=tG rfl rfl
def Ku:N5 A (A.Gs p x bf):=by
 unfold Ar.Gs;split
 .refine N5.trans ?_ (N5.trans Vt Vu);unfold Ar.cut;simp only;split;.exact .refl
  .exact N5.trans Vt Vu
 .exact .refl
def Kv:N5 A (A.ES x p bf):=by rw[Ar.ES];split;exact .refl;exact Ku
def Sl{n:Int}:∀{l:List Int} {A:Ar},N5 A (BS.CE A n l)
 |[],A=> .refl
 |y::l,A=>N5.trans Ku (Sl (l:=l))
def B0.same{c:BS}(r:B0 b m)(h:N5 b.a c.a)(h1:zz c.AI<=zz b.AI)(h2:zz c.AW<=zz b.AW)(g:zz c.tm<=zz b.tm)(f:∀e∈c.AW,zz e.name<=1000/\DV e.Aj)(d:∀i∈c.AI,zz i.name<=1000):B0 c m:=
 ⟨by rw[h.n];exact r.n,λx=>by rw[h.at_];exact r.at_ x,λx=>by rw[h.data];exact r.data x,by have:=r.AI;omega,by have:=r.AW;omega,by have:=r.tm;omega,f,d⟩
def B0.JA{A':Ar}(r:B0 b m)(h:N5 b.a A'):B0 {b with a:=A'} m:=r.same h (Ae _) (Ae _) (Ae _) r.DL r.Xe
def B0.K5{l:List Item}(r:B0 b m)(h:zu l b.AI):B0 {b with AI:=l} m:=r.same .refl h.length_le (Ae _) (Ae _) r.DL λi hi=>r.Xe i (h.subset hi)
def B0.eq{c:BS}(r:B0 b m)(h1:c.a=b.a)(h2:c.AI=b.AI)(d:c.AW=b.AW)(e:c.tm=b.tm):B0 c m:=⟨by rw[h1];exact r.n,by rw[h1];exact r.at_,by rw[h1];exact r.data,by rw[h2];exact r.AI,by rw[d];exact r.AW,by rw[e];exact r.tm,by rw[d];exact r.DL,by rw[h2];exact r.Xe⟩
structure Vv(A A':Ar)(k:Nat):Prop where
 n:zz A'.n<=zz A.n+k
 at_:∀x,(A'.nd x).Aj.length<=max (A.nd x).Aj.length 1000
 data:∀x,(A'.nd x).data.length<=max (A.nd x).data.length 100000
def OD{y:Fc}(h1:zz y.Aj<=1000)(h2:zz y.data<=100000):Vv A (A.add y) 1:=by refine⟨by simp[Ar.add],λx=>?_,λx=>?_⟩<;>rw[Jc]<;>split<;>omega
def Vv.trans{k k':Nat}(h:Vv A A' k)(g:Vv A' A'' k'):Vv A A'' (k+k'):=
 ⟨by have:=h.n;have:=g.n;omega,λx=>by have:=h.at_ x;have:=g.at_ x;omega,λx=>by have:=h.data x;have:=g.data x;omega⟩
def Vv.le{k k':Nat}(h:Vv A A' k)(hk:k<=k'):Vv A A' k':=⟨by have:=h.n;omega,h.at_,h.data⟩
def tg(h:N5 A A'):Vv A A' 0:=⟨by rw[h.n];exact Ae _,λx=>by rw[h.at_];omega,λx=>by rw[h.data];omega⟩
def zC:Vv A (A.Dq x) 1:=by
 rw[Ar.Dq];split;.exact(tg .refl).le Ab
 .have:=OD (A:=A) (y:={kind:=1,CF:=A.len+1}) (AV _) (AV _);exact⟨this.n,this.at_,this.data⟩
def Â{y:Fc}(h1:zz y.Aj<=1000)(h2:zz y.data<=100000):Vv A (A.set x y) 0:=by refine⟨by rw[JV];exact Ae _,λx=>?_,λx=>?_⟩<;>rw[Kf]<;>split<;>omega
def th{d sp:Int}{nm:Ai}{l:List A9}(hl:zz l<=1000):Vv A (A.elem d sp nm l) 3:=by
 have ho:=Bv (Rr (l:=l)) hl;have g1:=OD (A:=A) (y:={kind:=4,CF:=d,A7:=sp,name:=nm,Aj:=Cz l}) ho (AV _);rw[Ar.elem];simp only
 split;.have g2:=zC (A:=A.add {kind:=4,CF:=d,A7:=sp,name:=nm,Aj:=Cz l}) (x:=d);have g3:=OD (A:=(A.add {kind:=4,CF:=d,A7:=sp,name:=nm,Aj:=Cz l}).Dq d) (y:={kind:=2,EC:=A.len+1,CF:=(A.add {kind:=4,CF:=d,A7:=sp,name:=nm,Aj:=Cz l}).FU d}) (AV _) (AV _);exact g1.trans (k':=2) (g2.trans (k':=1) (g3.trans (k':=0) (Â ho (AV _))))
 .exact g1.le Ab
def B0.J7{A':Ar}{k:Nat}(r:B0 b (m+k))(h:Vv b.a A' k):B0 {b with a:=A'} m:=
 ⟨by have:=r.n;have:=h.n;simp only;omega,λx=>by have:=r.at_ x;have:=h.at_ x;have:=r.n;simp only;omega,λx=>by have:=r.data x;have:=h.data x;have:=r.n;simp only;omega,by have:=r.AI;simp only;omega,by have:=r.AW;simp only;omega,by have:=r.tm;simp only;omega,r.DL,r.Xe⟩
def ZN{sp:Int}{nm:Ai}:(BS.I0 sp nm).length=zz nm:=by
 rw[BS.I0];split
 .rcases Mg nm Jt with h|h
  .rw[h]
  .conv=>rhs;rw[<-h.2,TU]
 .rfl
variable{nm:Ai}{l:List A9}{sp:Int}
def JB(r:B0 b (m+3))(hl:DV l):B0 (b.Ex nm l sp p) m:=by
 rw[BS.Ex];split;.exact r.J7 (th (by rw[Ao];exact hl.1))
 .exact r.le Ab
def OE(hn:zz nm<=1000):(b.Hb nm l sp).name.length<=1000:=by
 rw[BS.Hb];split;.show(BS.I0 sp nm).length<=1000;rwa[ZN]
 .exact AV _
def B0.aDq{i:Item}{l':List Item}(r:B0 b (m+1))(h1:zz l'<=zz b.AI+1)(h2:∀j∈l',j∈b.AI\/j=i)(hi:zz i.name<=1000):B0 {b with AI:=l'} m:=
 ⟨by have:=r.n;simp only;omega,λx=>by have:=r.at_ x;simp only;omega,λx=>by have:=r.data x;simp only;omega,by have:=r.AI;simp only;omega,by have:=r.AW;simp only;omega,by have:=r.tm;simp only;omega,r.DL,λj hj=>by
  obtain h|rfl:=h2 j hj
  .exact r.Xe j h
  .exact hi⟩
def B0.iy{e:B5}{l':List B5}(r:B0 b (m+1))(h1:zz l'<=zz b.AW+1)(h2:∀j∈l',j∈b.AW\/j=e)(hi:zz e.name<=1000/\DV e.Aj):B0 {b with AW:=l'} m:=
 ⟨by have:=r.n;simp only;omega,λx=>by have:=r.at_ x;simp only;omega,λx=>by have:=r.data x;simp only;omega,by have:=r.AI;simp only;omega,by have:=r.AW;simp only;omega,by have:=r.tm;simp only;omega,λj hj=>by
  obtain h|rfl:=h2 j hj
  .exact r.DL j h
  .exact hi,r.Xe⟩
def JY(r:B0 b (m+4))(hl:DV l)(hn:zz nm<=1000):B0 (b.D9 nm l sp) m:=by
 rw[BS.D9];split
 .rename_i hs;have c:=JB (m:=m+1) (nm:=nm) (sp:=sp) (p:=(b.place 0).1) (r.le Ab) hl;have r2:=c.JA (Kv (x:=b.a.len+1) (p:=(b.place 0).1) (bf:=(b.place 0).2));have ho:(b.Ex nm l sp (b.place 0).1).AI=b.AI:=by rw[BS.Ex];rw[Af hs]
  refine r2.aDq (i:=b.Hb nm l sp) (by simp only[Aw,Bl];exact Ae _) (λj hj=>?_) (OE hn);obtain h|h:=Ay.1 hj
  .exact zo h
  .exact zi (zv h)
 .exact r.le Ab
def Wu(r:B0 b (m+5))(hl:DV l)(hn:zz nm<=1000):B0 (b.GX nm l) m:=by
 have c:=JY (m:=m+1) (sp:=1) (nm:=nm) (r.le Ab) hl hn;unfold BS.GX;simp only
 let⟨l',h1,h2⟩:=T5 (l:=(b.D9 nm l 1).AW) (e:=⟨b.a.len+1,nm,l⟩);rw[h2];refine c.iy (e:=⟨b.a.len+1,nm,l⟩) (by have:=h1.length_le;simp;omega) (λj hj=>?_) ⟨hn,hl⟩;obtain h|h:=Ay.1 hj
 .exact zo (h1.subset h)
 .exact zi (zv h)
end
end Go.Am
end
