/- Lemmas -/
import Derived.Test.YtbkijlifflhdiaaGreatDoorV2
import Derived.Laws.Slices
set_option linter.all false
section
namespace Go.Am
open Go
section
variable{P:Program}{γ:Gh}{w:World}
def O5{a:Bool}{v:Value}(h:Bp γ (.bool a) v):v= .bool a:=h
def DC{k:IntKind}{a:Int}{v:Value}(h:Bp γ (.int k a) v):v= .int k a:=h
def L2{a:Aq}{v:Value}(h:Bp γ (.str a) v):v= .string ⟨⟨a⟩⟩:=h
def AK.wS{us:List Value}(h:AK γ [] us):us=[]:=h
def AK.Ke{a:Aa}{l:List Aa}{us:List Value}(h:AK γ (a::l) us):∃u CS,us=u::CS/\Bp γ a u/\AK γ l CS:=h
def AK.one{a:Aa}{us:List Value}(h:AK γ [a] us):∃u,us=[u]/\Bp γ a u:=by obtain⟨u,CS,rfl,h1,h2⟩:=h;rw[h2.wS];exact⟨u,rfl,h1⟩
def AK.aP{a b:Aa}{us:List Value}(h:AK γ [a,b] us):∃u v,us=[u,v]/\Bp γ a u/\Bp γ b v:=by obtain⟨u,CS,rfl,h1,h2⟩:=h;obtain⟨v,rfl,c⟩:=h2.one;exact⟨u,v,rfl,h1,c⟩
def AK.Vn{a b c:Aa}{us:List Value}(h:AK γ [a,b,c] us):∃u v x,us=[u,v,x]/\Bp γ a u/\Bp γ b v/\Bp γ c x:=by obtain⟨u,CS,rfl,h1,h2⟩:=h;obtain⟨v,x,rfl,e,d⟩:=h2.aP;exact⟨u,v,x,rfl,h1,e,d⟩
def Value.Ik:Value->Bool
 | .bool _| .pointer _| .slice _ _ _| .func _ _ _| .nilFunc| .map _=>true
 |_=>false
def Qe{op:BinOp}{neg:Bool}(NY:(op= .eql/\neg=false)\/(op= .neq/\neg=true))(t:TypeId)(c b:Operand){x y:Value}(hx:Value.Ik x=true)(hy:Value.Ik y=true){e:Bool}
  (he:(Op.equal t x y).run P w= .ok e w):(do eqGuard op t c b x y;binOp op t x y:Sem Value).run P w= .ok (.bool (e != neg)) w:=by
 have hg:eqGuard op t c b x y=pure ():=by rcases NY with⟨rfl,_⟩|⟨rfl,_⟩<;>cases x<;>simp[Value.Ik] at hx<;>rfl
 rw[hg];rcases NY with⟨rfl,rfl⟩|⟨rfl,rfl⟩
 .have hb:binOp .eql t x y=(do pure (.bool (<-Op.equal t x y))):=by cases x<;>simp[Value.Ik] at hx<;>cases y<;>simp[Value.Ik] at hy<;>rfl
  simp[hb,he]
 .have hb:binOp .neq t x y=(do pure (.bool (!(<-Op.equal t x y)))):=by cases x<;>simp[Value.Ik] at hx<;>cases y<;>simp[Value.Ik] at hy<;>rfl
  simp[hb,he]
def Yi{op:BinOp}{neg:Bool}(NY:(op= .eql/\neg=false)\/(op= .neq/\neg=true))(t:TypeId)(d c:Operand)(ht:P.underlying t=some .bool)(a b:Bool):
  (do eqGuard op t d c (.bool a) (.bool b);binOp op t (.bool a) (.bool b):Sem Value).run P w= .ok (.bool ((a==b) != neg)) w:=
 Qe NY t d c rfl rfl (run_equalIn_bool' w 9999 t a b ht)
def Rz{d:Nat}{t e:TypeId}(ht:P.underlying t=some (.pointer e))(hz:∃n,BD P e=some (n+1)){a b:Aa}{x y:Value}(hx:Bp γ a x)(hy:Bp γ b y){r:Bool}(h:fO a b=some r):
  (Op.equalIn (d+1) t x y).run P w= .ok r w/\Value.Ik x=true/\Value.Ik y=true:=by
 obtain⟨n,hn⟩:=hz;unfold fO at h;split at h
 .rename_i q;cases h;rw[show x= .pointer none from hx];have:∃p,y= .pointer p/\p.isNone=q.isNone:=by
   cases q with
   |none=>exact⟨none,hy,rfl⟩
   |some p=>obtain⟨i,o⟩:=p;obtain⟨b,_,rfl⟩:=hy;exact⟨_,rfl,rfl⟩
  obtain⟨p,rfl,hp⟩:=this;exact⟨by simp[Op.equalIn,run_underlying ht,hp],rfl,rfl⟩
 .rename_i p;cases h;obtain⟨i,o⟩:=p;obtain⟨b,_,rfl⟩:=hx;rw[show y= .pointer none from hy];exact⟨by simp[Op.equalIn,run_underlying ht],rfl,rfl⟩
 .rename_i p q;split at h;.rename_i he;cases h;subst he;obtain⟨i,o⟩:=p;obtain⟨b,hb,rfl⟩:=hx;obtain⟨b',O0,rfl⟩:=hy;rw[hb] at O0;cases O0;exact⟨by simp[Op.equalIn,run_underlying ht,CV hn,sameAddr],rfl,rfl⟩
  .cases h
 .cases h;rw[show x= .pointer none from hx];obtain⟨b,o,rfl,_⟩:=hy;exact⟨by simp[Op.equalIn,run_underlying ht],rfl,rfl⟩
 .cases h;rw[show y= .pointer none from hy];obtain⟨b,o,rfl,_⟩:=hx;exact⟨by simp[Op.equalIn,run_underlying ht],rfl,rfl⟩
 .cases h
def DL{d:Nat}{t e:TypeId}(ht:P.underlying t=some (.slice e)){p q:Option Addr}{n c m k:Nat}(h:p=none\/q=none):
  (Op.equalIn (d+1) t (.slice p n c) (.slice q m k)).run P w= .ok (p.isNone&&q.isNone) w:=by
 cases p<;>cases q<;>simp at h<;>simp[Op.equalIn,run_underlying ht]
def Kf{d:Nat}{t:TypeId}{a b:Array TypeId}{c:Bool}(ht:P.underlying t=some (.func a b c)){f:Fn}{x y:Array Value}:
  (Op.equalIn (d+1) t .nilFunc .nilFunc).run P w= .ok true w/\(Op.equalIn (d+1) t .nilFunc (.func f x y)).run P w= .ok false w/\(Op.equalIn (d+1) t (.func f x y) .nilFunc).run P w= .ok false w:=by
 refine⟨?_,?_,?_⟩<;>simp[Op.equalIn,run_underlying ht]
def Jy{d:Nat}{t k e:TypeId}(ht:P.underlying t=some (.map k e)){p q:Option Nat}(h:p=none\/q=none):
  (Op.equalIn (d+1) t (.map p) (.map q)).run P w= .ok (p.isNone&&q.isNone) w:=by
 cases p<;>cases q<;>simp at h<;>simp[Op.equalIn,run_underlying ht]
def RA{d:Nat}{t:TypeId}{k:NK}(ht:match k with| .sl=>∃e,P.underlying t=some (.slice e)| .fn=>∃a b c,P.underlying t=some (.func a b c)| .mp=>∃a b,P.underlying t=some (.map a b))
  {a b:Aa} {x y:Value} (hx:Bp γ a x) (hy:Bp γ b y) {r:Bool} (h:fP k a b=some r):
  (Op.equalIn (d+1) t x y).run P w= .ok r w/\Value.Ik x=true/\Value.Ik y=true:=by
 unfold fP at h;split at h;case h_1=>obtain⟨e,ht⟩:=ht;cases h;rw[show x= .slice none 0 0 from hx,show y= .slice none 0 0 from hy];exact⟨DL ht (.inl rfl),rfl,rfl⟩
 case h_2=>obtain⟨e,ht⟩:=ht;cases h;rw[show x= .slice none 0 0 from hx];obtain⟨_,_,rfl,_⟩:=hy;exact⟨DL ht (.inl rfl),rfl,rfl⟩
 case h_3=>obtain⟨e,ht⟩:=ht;cases h;rw[show y= .slice none 0 0 from hy];obtain⟨_,_,rfl,_⟩:=hx;exact⟨DL ht (.inr rfl),rfl,rfl⟩
 case h_4=>obtain⟨e,ht⟩:=ht;cases h;rw[show x= .slice none 0 0 from hx];obtain⟨_,rfl⟩:=hy;exact⟨DL ht (.inl rfl),rfl,rfl⟩
 case h_5=>obtain⟨e,ht⟩:=ht;cases h;rw[show y= .slice none 0 0 from hy];obtain⟨_,rfl⟩:=hx;exact⟨DL ht (.inr rfl),rfl,rfl⟩
 case h_6=>obtain⟨e,ht⟩:=ht;cases h;rw[show x= .slice none 0 0 from hx];obtain⟨_,_,_,rfl,_⟩:=hy;exact⟨DL ht (.inl rfl),rfl,rfl⟩
 case h_7=>obtain⟨e,ht⟩:=ht;cases h;rw[show y= .slice none 0 0 from hy];obtain⟨_,_,_,rfl,_⟩:=hx;exact⟨DL ht (.inr rfl),rfl,rfl⟩
 case h_8=>obtain⟨_,_,_,ht⟩:=ht;cases h;rw[show x= .nilFunc from hx,show y= .nilFunc from hy];exact⟨(Kf ht (f:= .func 0) (x:=#[]) (y:=#[])).1,rfl,rfl⟩
 case h_9=>obtain⟨_,_,_,ht⟩:=ht;cases h;rw[show x= .nilFunc from hx];obtain⟨_,_,rfl,_⟩:=hy;exact⟨(Kf ht).2.1,rfl,rfl⟩
 case h_10=>obtain⟨_,_,_,ht⟩:=ht;cases h;rw[show y= .nilFunc from hy];obtain⟨_,_,rfl,_⟩:=hx;exact⟨(Kf ht).2.2,rfl,rfl⟩
 case h_11=>
  rename_i q;obtain⟨_,_,ht⟩:=ht;cases h;rw[show x= .map none from hx];cases q with
  |none=>rw[show y= .map none from hy];exact⟨Jy ht (.inl rfl),rfl,rfl⟩
  |some id=>obtain⟨b,_,rfl⟩:=hy;exact⟨Jy ht (.inl rfl),rfl,rfl⟩
 case h_12=>obtain⟨_,_,ht⟩:=ht;cases h;rw[show y= .map none from hy];obtain⟨b,_,rfl⟩:=hx;exact⟨Jy ht (.inr rfl),rfl,rfl⟩
 .cases h
def kS{op:BinOp}{args:List Aa}{u:Aa}(h:Ax (.int op) args=some u):∃k a l b,args=[.int k a,.int l b]/\fN op k a l b=some u:=by
 simp only[Ax] at h;split at h;.exact⟨_,_,_,_,rfl,h⟩
 .cases h
def kT{op:BinOp}{args:List Aa}{u:Aa}(h:Ax (.str op) args=some u):∃a b,args=[.str a,.str b]/\X8 op a b=some u:=by
 simp only[Ax] at h;split at h;.exact⟨_,_,rfl,h⟩
 .cases h
def Yj{op:BinOp}{t:TypeId}{p:Ur}(hp:Nw P op t=some p)(f c:Operand){args:List Aa}{x y:Value}(ha:AK γ args [x,y]){u:Aa}(h:Ax p args=some u):
  ∃v,(do eqGuard op t f c x y;binOp op t x y:Sem Value).run P w= .ok v w/\Bp γ u v:=by
 unfold Nw at hp;split at hp;.cases hp;obtain⟨k,a,l,b,rfl,h⟩:=kS h;obtain⟨_,_,e,hx,hy⟩:=ha.aP;cases e;rw[DC hx,DC hy];exact Yd t f c h
 .cases hp;obtain⟨a,b,rfl,h⟩:=kT h;obtain⟨_,_,e,hx,hy⟩:=ha.aP;cases e;rw[L2 hx,L2 hy];exact Ye t f c h
 .rename_i d h1 h2 hu;obtain⟨neg,NY,uy⟩:∃neg,((op= .eql/\neg=false)\/(op= .neq/\neg=true))/\P5 P t neg d=some p:=by cases op<;>first|cases hp;done|exact⟨false,.inl ⟨rfl,rfl⟩,hp⟩|exact⟨true,.inr ⟨rfl,rfl⟩,hp⟩
  clear h1 h2 hp;have hp:=uy;clear uy;unfold P5 at hp;split at hp
  .cases hp;simp only[Ax] at h;split at h;.obtain⟨_,_,e,hx,hy⟩:=ha.aP;cases e;cases h;rw[O5 hx,O5 hy];exact⟨_,Yi NY t f c hu _ _,rfl⟩
   .cases h
  .split at hp
   .rename_i hg;cases hk:MM P 20 t with
    |none=>rw[hk] at hp;cases hp
    |some ks=>
     rw[hk] at hp;cases hp;simp only[Ax] at h;split at h;.obtain⟨_,_,e,hx,hy⟩:=ha.aP;cases e;exact Yh NY hg hk ⟨_,hu⟩ hx hy h
     .cases h
   .cases hp
  .split at hp;.cases hp
   .rename_i e hz;cases hp;simp only[Ax] at h;split at h
    .rename_i a b;obtain⟨_,_,e,hx,hy⟩:=ha.aP;cases e;cases hq:fO a b with
     |none=>rw[hq] at h;cases h
     |some r=>rw[hq] at h;cases h;obtain⟨j,i,g⟩:=Rz (w:=w) (d:=9999) hu (by cases Uv:BD P e with|none=>rw[Uv] at hz;exact absurd rfl hz|some n=>cases n with|zero=>rw[Uv] at hz;exact absurd rfl hz|succ n=>exact⟨n,rfl⟩) hx hy hq;exact⟨_,Qe NY t f c i g j,rfl⟩
    .cases h
  all_goals first
   |cases hp;done
   | (cases hp
      simp only [Ax] at h
      split at h
      . rename_i a b
        obtain ⟨_, _, e, hx, hy⟩ := ha.aP
        cases e
        cases hq : fP _ a b with
        | none => rw [hq] at h; cases h
        | some r =>
          rw [hq] at h; cases h
          obtain ⟨j, i, g⟩ := RA (w := w) (P := P) (t := t) (d := 9999) (by first | exact ⟨_, hu⟩ | exact ⟨_, _, hu⟩ | exact ⟨_, _, _, hu⟩) hx hy hq
          exact ⟨_, Qe NY t f c i g j, rfl⟩
      . cases h)
 .cases hp
end
end Go.Am
end
section
namespace Go.Am
open Go
section
variable{P:Program}{γ:Gh}{w:World}
def kf{op:UnOp}{a u:Aa}{x:Value}(hx:Bp γ a x)(h:jm op a=some u):∃v,(Op.unary op x).run P w= .ok v w/\Bp γ u v:=by
 unfold jm at h;split at h;.cases h;rw[O5 hx];exact⟨_,rfl,rfl⟩
 .cases h;rw[DC hx];exact⟨_,rfl,rfl⟩
 .rename_i k n;rw[DC hx];unfold dr at h;cases hs:Nu (Op.unary .xor (.int k n)) with
  |none=>rw[hs] at h;cases h
  |some v=>
   rw[hs] at h;have e1:=SF hs;simp only[BU] at h;split at h;.cases h;exact⟨_,by rw[e1];rfl,rfl⟩
   .cases h
 .cases h
def Wr{src dst:TypeId}{k l k':IntKind}{n:Int}(hs:P.underlying src=some (.int l))(hd:P.underlying dst=some (.int k)):(convert src dst (.int k' n)).run P w= .ok (.int k (k.wrap n)) w:=by simp[convert,run_underlying hs,run_underlying hd,Conv.intToInt]
def Ws{src dst:TypeId}{l k':IntKind}{n:Int}(hs:P.underlying src=some (.int l))(hd:P.underlying dst=some .string):(convert src dst (.int k' n)).run P w= .ok (.string (Utf8.encode n)) w:=by simp[convert,run_underlying hs,run_underlying hd,Conv.intToString]
def kU{t:TypeId}{f off:Nat}{b:Option Nat}(hf:GI P t f=some (off,b)){cs:List Aa}{x:Value}(hx:Bp γ (.agg cs) x){u:Aa}(h:Ek cs off b=some u):∃v,(Instr.field t x f).run P w= .ok v w/\Bp γ u v:=by
 unfold GI at hf;split at hf
 .rename_i fs hu;split at hf
  .rename_i fd fZ;split at hf;.rename_i n c h1 h2;cases hf;obtain⟨us,rfl,hr,h1c⟩:=hx;obtain⟨v,p,q⟩:=Yf (w:=w) h2 hr h1c h;exact⟨v,by simp[Instr.field,run_underlying hu,fZ,asAgg,p],q⟩
   .cases hf
  .cases hf
 .cases hf
def Oj{i:Int}{len j:Nat}(h:Lr i len=some j):0<=i/\i<len/\i.toNat=j:=by
 unfold Lr at h;split at h;.rename_i hc;cases h;exact⟨hc.1,hc.2,rfl⟩
 .cases h
def Uw{t e:TypeId}{len n:Nat}{b:Option Nat}(ht:P.underlying t=some (.array len e))(hn:BD P e=some n)(Z3:Ei P e=some b){cs:List Aa}{x:Value}(hx:Bp γ (.agg cs) x){k:IntKind}{i:Int}{j:Nat}
  (hi:Lr i len=some j) {u:Aa} (h:Ek cs (j*n) b=some u):∃v,(Instr.index t x (.int k i)).run P w= .ok v w/\Bp γ u v:=by
 obtain⟨us,rfl,hr,h1c⟩:=hx;obtain⟨f,d,c⟩:=Oj hi;obtain⟨v,p,q⟩:=Yf (w:=w) Z3 hr h1c h;exact⟨v,by simp[Instr.index,asIntOf,run_underlying ht,f,d,CV hn,c,p],q⟩
def Ux{t:TypeId}(ht:P.underlying t=some .string){s:Aq}{k:IntKind}{i:Int}{b:UInt8}(h0:0<=i)(h:s[i.toNat]?=some b):
  (Instr.index t (.string ⟨⟨s⟩⟩) (.int k i)).run P w= .ok (.int .u8 b.toNat) w:=by
 obtain⟨hlt,hb⟩:=Ae.1 h;have e:(⟨⟨s⟩⟩:ByteArray)[i.toNat]?=some b:=by rw[ByteArray.getElem?_lt' _ _ (show i.toNat<(⟨⟨s⟩⟩:ByteArray).size from hlt),<-hb];rfl
 simp[Instr.index,asIntOf,run_underlying ht,h0,e]
def gA{p u:Aa}{x:Value}{n:Nat}(hx:Bp γ p x)(h:Vg p n=some u):∃a,x= .pointer (some a)/\Bp γ u (.pointer (some (a.add n))):=by
 unfold Vg at h;split at h;.rename_i cs;cases h;obtain⟨b,o,rfl,hm⟩:=hx;refine⟨_,rfl,b,o+n,?_,hm.drop n⟩;unfold Addr.add;split<;>simp_all
 .rename_i id o;cases h;obtain⟨b,hb,rfl⟩:=hx;refine⟨_,rfl,b,hb,?_⟩;unfold Addr.add;split<;>simp_all
 .cases h
def Yk{t:TypeId}{f off:Nat}{c:Option Nat}(hf:GI P t f=some (off,c)){p u:Aa}{x:Value}(hx:Bp γ p x)(h:Vg p off=some u):∃v,(Instr.fieldAt t x f).run P w= .ok v w/\Bp γ u v:=by
 obtain⟨a,rfl,hu⟩:=gA hx h;refine⟨_,?_,hu⟩;unfold GI at hf;split at hf
 .rename_i fs aO;split at hf
  .rename_i fd fZ;split at hf;.rename_i n b h1 h2;cases hf;simp[Instr.fieldAt,run_underlying aO,fZ,Instr.sureAddr,fieldPlace,CV h1]
   .cases hf
  .cases hf
 .cases hf
def aQ{t e:TypeId}{n:Nat}(ht:P.underlying t=some (.slice e))(hn:BD P e=some n){s u:Aa}{x:Value}(hx:Bp γ s x){k:IntKind}{i:Int}(h:elemOf n s i=some u):
  ∃v,(Instr.indexAt t x (.int k i)).run P w= .ok v w/\Bp γ u v:=by
 have HL:P.underlying t=some (.slice (P.elem t)):=by simp[Program.elem,ht]
 have he:P.elem t=e:=by simp[Program.elem,ht]
 unfold elemOf at h;split at h
 .rename_i z An;split at h
  .rename_i hz;subst hz;split at h
   .rename_i h0;cases hr:An[i.toNat]? with
    |none=>rw[hr] at h;cases h
    |some row=>
     rw[hr] at h;cases h;obtain⟨ad,cap,rfl,hc,hsp,hm⟩:=hx;obtain⟨hl,uz⟩:=hm.get hr;have hlt:i<An.length:=by have:=(Ae.1 hr).1;omega
     have aR:=LY hsp hc Ab;generalize ad.block=b at*;generalize ad.off=o at*;subst aR;refine⟨.pointer (some ((⟨b,o,none⟩:Addr).add (i.toNat*z))),by rw[run_indexAt_slice w t _ _ _ _ _ HL,Ad ⟨h0,hlt⟩,he,CV hn];rfl,b,o+i.toNat*z,?_,uz⟩;unfold Addr.add;split<;>simp_all
   .cases h
  .cases h
 .rename_i id off len z;split at h
  .rename_i hz;subst hz;cases hj:Lr i len with
   |none=>rw[hj] at h;cases h
   |some j=>rw[hj] at h;cases h;obtain⟨f,d,c⟩:=Oj hj;subst c;obtain⟨b,cap,hb,rfl,hc,hz⟩:=hx;refine⟨.pointer (some ((⟨b,off,none⟩:Addr).add (i.toNat*z))),by rw[run_indexAt_slice w t _ _ _ _ _ HL,Ad ⟨f,d⟩,he,CV hn];rfl,b,hb,?_⟩;unfold Addr.add;split<;>simp_all
  .cases h
 .cases h
def kW{t e:TypeId}{len n:Nat}(ht:P.underlying t=some (.array len e))(hn:BD P e=some n){p u:Aa}{x:Value}(hx:Bp γ p x){k:IntKind}{i:Int}{j:Nat}(hj:Lr i len=some j)(h:Vg p (j*n)=some u):
  ∃v,(Instr.indexAt t x (.int k i)).run P w= .ok v w/\Bp γ u v:=by
 have HL:P.underlying t=some (.array (P.arrayLen t) (P.elem t)):=by simp[Program.elem,Program.arrayLen,ht]
 have he:P.elem t=e:=by simp[Program.elem,ht]
 have hl:P.arrayLen t=len:=by simp[Program.arrayLen,ht]
 obtain⟨a,rfl,hu⟩:=gA hx h;obtain⟨d,c,b⟩:=Oj hj;subst b;exact⟨_,by rw[run_indexAt_array w t _ _ _ HL,hl,Ad ⟨d,c⟩,he,CV hn];rfl,hu⟩
def wT{t ty:TypeId}{isStr:Bool}(ht:if isStr=true then P.underlying t=some .string else∃e,P.underlying t=some (.slice e)){ts:Array TypeId}(Wt:ts[0]?=some t){s u:Aa}{x:Value}(hx:Bp γ s x)(h:lenOf isStr s=some u):
  ∃v,(Builtin.len_ ts ty #[x]).run P w= .ok v w/\Bp γ u v:=by
 cases isStr with
 |true=>
  replace ht:P.underlying t=some .string:=ht;unfold lenOf at h;split at h<;>first|cases h;done|skip
  simp only[BB] at h;cases h;rw[L2 hx];refine⟨_,by simp[Builtin.len_,Wt,run_underlying ht];rfl,rfl⟩
 |false=>
  obtain⟨e,ht⟩:∃e,P.underlying t=some (.slice e):=ht;unfold lenOf at h;split at h;.cases h;obtain⟨ad,cap,rfl,_⟩:=hx;exact⟨_,by simp[Builtin.len_,Wt,run_underlying ht];rfl,rfl⟩
  .cases h;obtain⟨b,cap,_,rfl,_⟩:=hx;exact⟨_,by simp[Builtin.len_,Wt,run_underlying ht];rfl,rfl⟩
  .cases h;rw[show x= .slice none 0 0 from hx];exact⟨_,by simp[Builtin.len_,Wt,run_underlying ht];rfl,rfl⟩
  .cases h;obtain⟨b,rfl⟩:=hx;exact⟨_,by simp[Builtin.len_,Wt,run_underlying ht];rfl,rfl⟩
  .cases h
  .cases h
def wU{vs:List Aa}{x:Value}(hx:Bp γ (.tuple vs) x){i:Nat}{u:Aa}(h:vs[i]?=some u):∃v,(Instr.extract x i).run P w= .ok v w/\Bp γ u v:=by
 obtain⟨us,rfl,hr⟩:=hx;obtain⟨v,hv,q⟩:=hr.get h;exact⟨v,by
  have:us[i]?=some v:=by simpa using hv
  simp[Instr.extract,this],q⟩
end
end Go.Am
end
section
namespace Go.Am
open Go
section
variable{P:Program}{γ:Gh}{w:World}
def L3{n:Int}{top j:Nat}(h:E8 n top=some j):0<=n/\n<=top/\n.toNat=j:=by
 unfold E8 at h;split at h;.rename_i hc;cases h;exact⟨hc.1,hc.2,rfl⟩
 .cases h
def IM{lo hi:Option Value}{as:List Aa}{len cap l h:Nat}{isSlice:Bool}(hb:Dx lo.isSome hi.isSome len as=some (l,h))(hr:AK γ as (lo.toList++hi.toList))(hc:len<=cap):
  (Instr.sliceBounds isSlice len cap lo hi none).run P w= .ok (l,h,cap) w/\l<=h/\h<=len:=by
 cases lo<;>cases hi<;>simp only[Option.isSome,Dx] at hb
 .split at hb;.cases hb;exact⟨by simp[Instr.sliceBounds],A8 _,Af _⟩
  .cases hb
 .rename_i hv;split at hb
  .rename_i k h';cases b:E8 h' len with
   |none=>rw[b] at hb;cases hb
   |some j=>rw[b] at hb;cases hb;obtain⟨d,f,c⟩:=L3 b;obtain⟨_,e,hx⟩:=hr.one;cases e;rw[DC hx];refine⟨?_,A8 _,Ab⟩;have:h'<=(cap:Int):=Ab;simp[Instr.sliceBounds,run_sliceBound,d,this,c]
  .cases hb
 .rename_i o;split at hb
  .rename_i k l';cases b:E8 l' len with
   |none=>rw[b] at hb;cases hb
   |some j=>rw[b] at hb;cases hb;obtain⟨d,f,c⟩:=L3 b;obtain⟨_,e,hx⟩:=hr.one;cases e;rw[DC hx];refine⟨?_,Ab,Af _⟩;simp[Instr.sliceBounds,run_sliceBound,d,f,c]
  .cases hb
 .rename_i o hv;split at hb
  .rename_i k l' k' h';cases b:E8 h' len with
   |none=>rw[b] at hb;cases hb
   |some j=>
    rw[b] at hb;simp only[BU] at hb;cases xi:E8 l' j with
    |none=>rw[xi] at hb;cases hb
    |some i=>rw[xi] at hb;cases hb;obtain⟨d,f,c⟩:=L3 b;obtain⟨n,m,g⟩:=L3 xi;obtain⟨_,_,e,hx,hy⟩:=hr.aP;cases e;rw[DC hx,DC hy];refine⟨?_,Ab,Ab⟩;have:h'<=(cap:Int):=Ab;simp[Instr.sliceBounds,run_sliceBound,d,this,n,c,g,m]
  .cases hb
def DY.slice{An:List (List Aa)}{z b o:Nat}(h:DY γ An z b o)(l k:Nat):DY γ ((An.take k).drop l) z b (o+l*z):=by
 refine DY.Fz λi r hi=>?_;rw[Cc,BV] at hi;split at hi;.obtain⟨p,q⟩:=h.get hi;exact⟨p,by rw[show o+l*z+i*z=o+(l+i)*z by rw[Bg];omega];exact q⟩
 .cases hi
def wV{t:TypeId}{isStr:Bool}{size:Nat}(ht:if isStr=true then P.underlying t=some .string else∃e,P.underlying t=some (.slice e)/\BD P e=some size){s u:Aa}{x:Value}(hx:Bp γ s x){as:List Aa}{lo hi:Option Value}
  (hr:AK γ as (lo.toList++hi.toList)) (h:JR size isStr lo.isSome hi.isSome s as=some u):
  ∃v,(Instr.sliceAt t x lo hi none).run P w= .ok v w/\Bp γ u v:=by
 unfold JR at h;split at h
 .split at h
  .rename_i s NP;subst NP;replace ht:P.underlying t=some .string:=ht;cases hb:Dx lo.isSome hi.isSome s.length as with
   |none=>rw[hb] at h;cases h
   |some d=>
    obtain⟨l,k⟩:=d;rw[hb] at h;cases h;obtain⟨c,g,f⟩:=IM (P:=P) (w:=w) (isSlice:=false) hb hr (Af _);rw[L2 hx,run_sliceAt_string w t _ _ _ _ ht];refine⟨.string ((⟨⟨s⟩⟩:ByteArray).extract l k),?_,?_⟩;.have e:(⟨⟨s⟩⟩:ByteArray).size=s.length:=rfl;simp only[Instr.slice,Sem.run_bind,run_underlying ht,Result.andThen_ok];simp only[e,c,Option.isSome,C0,EH,Sem.run_bind,Sem.run_pure,Result.andThen_ok]
    .show Value.string _=Value.string _;congr 1
     apply ByteArray.ext;apply Fe;simp[ByteArray.data_extract,Ge,List.drop_take]
  .cases h
 .rename_i z An;split at h
  .rename_i hc;obtain⟨rfl,rfl⟩:=hc;obtain⟨e,ht,hn⟩:∃e,P.underlying t=some (.slice e)/\BD P e=some z:=ht;have HL:P.underlying t=some (.slice (P.elem t)):=by simp[Program.elem,ht]
   have he:P.elem t=e:=by simp[Program.elem,ht]
   obtain⟨ad,cap,rfl,hc,hsp,hm⟩:=hx;cases hb:Dx lo.isSome hi.isSome An.length as with
   |none=>rw[hb] at h;cases h
   |some d=>
    obtain⟨l,k⟩:=d;rw[hb] at h;cases h;obtain⟨c,g,f⟩:=IM (P:=P) (w:=w) (isSlice:=true) hb hr hc;rw[run_sliceAt_slice w t _ _ _ _ HL,run_slice_any w t _ _ _ HL,c,he,Result.andThen_ok,CV hn];refine⟨_,rfl,?_⟩;show Bp γ (.sl z ((An.take k).drop l)) (.slice (if cap=l then some ad else Option.map (λq:Addr=>q.add (l*z)) (some ad)) (k-l) (cap-l));have hlen:((An.take k).drop l).length=k-l:=D5;by_cases hcl:cap=l;.have:(An.take k).drop l=[]:=Cq Ab;rw[this];simp only[hcl,BB];exact⟨ad,l-l,D5,Au,.inr Ab,trivial⟩
    .rw[Ac hcl];have aR:ad=⟨ad.block,ad.off,none⟩:=by
      rcases hsp with hsp|hsp
      .cases ad;simp_all
      .omega
     generalize ad.block=b at*;generalize ad.off=o at*;subst aR;refine⟨⟨b,o+l*z,none⟩,cap-l,?_,Ab,.inl rfl,hm.slice l k⟩;rw[hlen];simp only[BM];unfold Addr.add;split<;>simp_all
  .cases h
 .rename_i id off n z;split at h
  .rename_i hc;obtain⟨rfl,rfl⟩:=hc;obtain⟨e,ht,hn⟩:∃e,P.underlying t=some (.slice e)/\BD P e=some z:=ht;have HL:P.underlying t=some (.slice (P.elem t)):=by simp[Program.elem,ht]
   have he:P.elem t=e:=by simp[Program.elem,ht]
   obtain⟨b,cap,Ň,rfl,hc,hz,hsz⟩:=hx;cases hb:Dx lo.isSome hi.isSome n as with
   |none=>rw[hb] at h;cases h
   |some d=>
    obtain⟨l,k⟩:=d;rw[hb] at h;simp only[BU] at h;split at h
    .rename_i Z4;cases h;obtain⟨c,g,f⟩:=IM (P:=P) (w:=w) (isSlice:=true) hb hr hc;rw[run_sliceAt_slice w t _ _ _ _ HL,run_slice_any w t _ _ _ HL,c,he,Result.andThen_ok,CV hn];refine⟨_,rfl,b,cap-l,Ň,?_,Ab,⟨hz.1,A5 (Nat.sub_le _ _) hz.2⟩,?_⟩;.show Value.slice (if cap=l then some ⟨b,off,none⟩ else Option.map (λq:Addr=>q.add (l*z)) (some ⟨b,off,none⟩)) (k-l) (cap-l)=_;rw[Ac Ab];simp only[BM];unfold Addr.add;split<;>simp_all
     .rw[hsz,ON,<-Bg,Ŷ Ab]
    .rename_i Z4;cases h;obtain⟨c,g,f⟩:=IM (P:=P) (w:=w) (isSlice:=true) hb hr hc;rw[run_sliceAt_slice w t _ _ _ _ HL,run_slice_any w t _ _ _ HL,c,he,Result.andThen_ok,CV hn];have Vo:k-l=0:=Ab;by_cases hcl:cap=l;.refine⟨_,rfl,⟨b,off,none⟩,cap-l,?_,Au,.inl rfl,trivial⟩;show Value.slice (if cap=l then some ⟨b,off,none⟩ else Option.map (λq:Addr=>q.add (l*z)) (some ⟨b,off,none⟩)) (k-l) (cap-l)=_;rw[Ad hcl,Vo];rfl
     .refine⟨_,rfl,(Addr.mk b off none).add (l*z),cap-l,?_,Au,.inl ?_,trivial⟩;.show Value.slice (if cap=l then some ⟨b,off,none⟩ else Option.map (λq:Addr=>q.add (l*z)) (some ⟨b,off,none⟩)) (k-l) (cap-l)=_;rw[Ac hcl,Vo];rfl
      .unfold Addr.add;split<;>simp_all
  .cases h
 .split at h;.cases h
  .rename_i NP;have NP:isStr=false:=by simpa using NP
   subst NP;obtain⟨e,ht,hn⟩:∃e,P.underlying t=some (.slice e)/\BD P e=some size:=ht;have HL:P.underlying t=some (.slice (P.elem t)):=by simp[Program.elem,ht]
   have he:P.elem t=e:=by simp[Program.elem,ht]
   rw[show x= .slice none 0 0 from hx];cases hb:Dx lo.isSome hi.isSome 0 as with
   |none=>rw[hb] at h;cases h
   |some d=>obtain⟨l,k⟩:=d;rw[hb] at h;cases h;obtain⟨c,g,f⟩:=IM (P:=P) (w:=w) (isSlice:=true) hb hr (Af _);rw[run_sliceAt_slice w t _ _ _ _ HL,run_slice_any w t _ _ _ HL,c,he,Result.andThen_ok,CV hn];refine⟨_,rfl,?_⟩;have:l=0:=Ab;subst this;have:k=0:=Ab;subst this;rfl
 .cases h
end
end Go.Am
end
section
namespace Go.Am
open Go
section
variable{P:Program}{γ:Gh}{w:World}
def FQ{a:Aa}{v:Value}(h:Bp γ a v)(hn:0<a.cells.length):AK γ a.cells v.cells.toList/\∀u∈v.cells.toList,u.oneCell'=true:=by
 cases a with
 |agg cs=>obtain⟨us,rfl,p,q⟩:=h;exact⟨p,q⟩
 |tuple vs=>exact absurd hn (by simp[Aa.cells])
 |bool b=>rw[show v=_ from h];exact⟨⟨_,[],rfl,rfl,rfl⟩,Ok⟩
 |int k n=>rw[show v=_ from h];exact⟨⟨_,[],rfl,rfl,rfl⟩,Ok⟩
 |str s=>rw[show v=_ from h];exact⟨⟨_,[],rfl,rfl,rfl⟩,Ok⟩
 |slnil=>rw[show v=_ from h];exact⟨⟨_,[],rfl,rfl,rfl⟩,Ok⟩
 |EV z=>have h0:=h;obtain⟨b,rfl⟩:=h;exact⟨⟨_,[],rfl,h0,rfl⟩,Ok⟩
 |nilFunc=>rw[show v=_ from h];exact⟨⟨_,[],rfl,rfl,rfl⟩,Ok⟩
 |nilIface=>rw[show v=_ from h];exact⟨⟨_,[],rfl,rfl,rfl⟩,Ok⟩
 |ptr p=>
  have h0:=h;cases p with
  |none=>rw[show v=_ from h];exact⟨⟨_,[],rfl,rfl,rfl⟩,Ok⟩
  |some p=>obtain⟨i,o⟩:=p;obtain⟨b,_,rfl⟩:=h;exact⟨⟨_,[],rfl,h0,rfl⟩,Ok⟩
 |Cb cs=>have h0:=h;obtain⟨b,o,rfl,_⟩:=h;exact⟨⟨_,[],rfl,h0,rfl⟩,Ok⟩
 |sl z An=>have h0:=h;obtain⟨ad,cap,rfl,_⟩:=h;exact⟨⟨_,[],rfl,h0,rfl⟩,Ok⟩
 |CG id off len z=>have h0:=h;obtain⟨b,cap,_,rfl,_⟩:=h;exact⟨⟨_,[],rfl,h0,rfl⟩,Ok⟩
 |map m=>
  have h0:=h;cases m with
  |none=>rw[show v=_ from h];exact⟨⟨_,[],rfl,rfl,rfl⟩,Ok⟩
  |some id=>obtain⟨b,_,rfl⟩:=h;exact⟨⟨_,[],rfl,h0,rfl⟩,Ok⟩
 |func fn f c=>have h0:=h;obtain⟨fs,cs,rfl,_⟩:=h;exact⟨⟨_,[],rfl,h0,rfl⟩,Ok⟩
 |iface t a=>have h0:=h;obtain⟨u,rfl,_⟩:=h;exact⟨⟨_,[],rfl,h0,rfl⟩,Ok⟩
def L4:∀(vs:List Value) (off j:Nat) (cells:Array Value),off+j+vs.length<=cells.size->
  (vs.zipIdx j).foldl (λcs (c,i)=>cs.setIfInBounds (off+i) c) cells=(cells.toList.take (off+j)++vs++cells.toList.drop (off+j+vs.length)).toArray
 |[],off,j,cells,h=>Au
 |v::vs,off,j,cells,h=>by
  simp only[fJ,oI];rw[L4 vs off (j+1) _ (by simp at h⊢;omega)];simp only[AH] at h;have hk:off+j<cells.toList.length:=D5;have e0:(cells.setIfInBounds (off+j) v).toList=cells.toList.set (off+j) v:=Au;have e1:(cells.toList.set (off+j) v).take (off+j+1)=cells.toList.take (off+j)++[v]:=by rw[List.take_add_one,U8 (Af _),AA hk];rfl
  have b:(cells.toList.set (off+j) v).drop (off+j+1+vs.length)=cells.toList.drop (off+j+1+vs.length):=ŷ Ab;rw[e0,(Ab:off+(j+1)=off+j+1),e1,b];rw[(D5:off+j+(v::vs).length=off+j+1+vs.length)];simp
def SH{place:Nat->Option (Nat×Nat)}:∀{places:List (Nat×Nat)} {as:List Aa} {parts:List (Nat×Value)} {cs:List Aa} {us:Array Value} {Fx:List Aa},Bt cs (places.zip as)=some Fx->places.length=as.length->
  parts.map (λp=>place p.1)=places.map some->AK γ as (parts.map (·.2))->AK γ cs us.toList->(∀u∈us.toList,u.oneCell'=true)->
  ∃CS,Instr.fill place us parts=some CS/\AK γ Fx CS.toList/\∀u∈CS.toList,u.oneCell'=true
 |[],as,parts,cs,us,Fx,h,hl,hp,ha,hr,h1=>by
  have:parts=[]:=by simpa using hp
  subst this;simp only[List.zip_nil_left,Bt] at h;cases h;exact⟨us,rfl,hr,h1⟩
 |(off,size)::places,[],parts,cs,us,Fx,h,hl,hp,ha,hr,h1=>by simp at hl
 |(off,size)::places,a::as,[],cs,us,Fx,h,hl,hp,ha,hr,h1=>by simp at hp
 |(off,size)::places,a::as,(i,v)::parts,cs,us,Fx,h,hl,hp,ha,hr,h1=>by
  simp only[aDm,Bt] at h;split at h
  .rename_i hc;obtain⟨c1,c2,k⟩:=hc;simp only[AZ,Ey] at hp;obtain⟨_,_,e,u_,kg⟩:=ha.Ke;simp only[AZ,Ey] at e;obtain⟨e1,j⟩:=e;subst e1;subst j;obtain⟨b,f⟩:=FQ u_ Ab;have hsz:v.cells.size=size:=by have:=b.length;simp at this;omega
   have Vi:us.size=cs.length:=by have:=hr.length;simpa using this
   have hf:=L4 v.cells.toList off 0 us (by simp[hsz];omega);obtain⟨CS,d,r2,c⟩:=SH (place:=place) (us:=(us.toList.take off++v.cells.toList++us.toList.drop (off+size)).toArray) h (by simpa using hl) hp.2 kg
    (by simpa using((hr.take off).append b).append (hr.drop (off+size)))
    (λu hu=>by
     simp only[Al] at hu;rcases hu with(hu|hu)|hu
     .exact h1 u (AN hu)
     .exact f u hu
     .exact h1 u (A7 hu))
   refine⟨CS,?_,r2,c⟩;rw[Instr.fill];simp only[hp.1];rw[Ac (by simp[hsz];omega)];rw[<-d];congr 1
   have g:v.cells.toList.length=size:=by simpa using hsz
   rw[<-aDn,Ÿ,hf];simp[g]
  .cases h
def Uy{v:Value}{a:Aa}(h:I4 v=some a):AK γ a.cells v.cells.toList/\∀u∈v.cells.toList,u.oneCell'=true:=by
 have hr:=El (γ:=γ) h;unfold I4 at h;split at h
 .rename_i cs;cases hs:J3 cs.toList with
  |none=>rw[hs] at h;cases h
  |some as=>rw[hs] at h;cases h;exact Lf hs
 .refine FQ hr ?_;unfold MJ at h;split at h<;>first|(cases h;simp[Aa.cells];done)|skip
  .split at h;.cases h;simp[Aa.cells]
   .cases h
  .cases h
def Ms{t:TypeId}{fs:Array Field}(hu:P.underlying t=some (.struct fs)){place:Nat->Option (Nat×Nat)}(kX:∀(i:Nat) (f:Field) (n:Nat),fs[i]?=some f->BD P f.type=some n->place i=some (f.offset,n)):
  ∀{parts:List (Nat×Operand)} {ps:List (Nat×Nat)},Ih P t parts=some ps->parts.map (λp=>place p.1)=ps.map some
 |[],ps,h=>by cases h;rfl
 |(i,x)::rest,ps,h=>by
  simp only[Ih,hu] at h;split at h
  .rename_i f hf;split at h;.rename_i n r h1 h2;cases h;simp[kX i f n hf h1,Ms hu kX h2]
   .cases h
  .cases h
def MR{t e:TypeId}{len n:Nat}(hu:P.underlying t=some (.array len e))(hn:BD P e=some n):
  ∀{parts:List (Nat×Operand)} {ps:List (Nat×Nat)},Ih P t parts=some ps->parts.map (λp=>some (p.1*n,n))=ps.map some
 |[],ps,h=>by cases h;rfl
 |(i,x)::rest,ps,h=>by
  simp only[Ih,hu] at h;split at h
  .split at h;.rename_i n' r h1 h2;cases h;rw[hn] at h1;cases h1;simp[MR hu hn h2]
   .cases h
  .cases h
def QV:∀(fs:List Field),(fs.all λf=>(BD P f.type).isSome)=true->∃places,fs.mapM (λf=>(P.info? f.type).map λi=>(f.offset,i.size))=some places/\
  ∀(i:Nat) (f:Field) (n:Nat),fs[i]?=some f->BD P f.type=some n->places[i]?=some (f.offset,n)
 |[],_=>⟨[],rfl,Au⟩
 |f::fs,h=>by
  simp only[Wj,Bi] at h;obtain⟨rest,h1,h2⟩:=QV fs h.2;cases hi:P.info? f.type with
  |none=>simp[BD,hi] at h
  |some b=>
   refine⟨(f.offset,b.size)::rest,by simp[hi,h1],λi g n hg hn=>?_⟩;cases i with
   |zero=>simp at hg;subst hg;simp[BD,hi] at hn;simp[hn]
   |succ i=>simpa using h2 i g n (by simpa using hg) hn
def kY{t:TypeId}{z:Aa}{parts:Array (Nat×Operand)}{ps:List (Nat×Nat)}{O:Operand->Value}(hz:Fy P t=some z)(hp:Ih P t parts.toList=some ps)(hb:RZ P t=true){as:List Aa}
  (ha:AK γ as ((parts.toList.map (·.2)).map O)) {u:Aa} (h:Ax (.B4 z.cells ps) as=some u):∃v,(Instr.build t (parts.map λ(i,x)=>(i,O x))).run P w= .ok v w/\Bp γ u v:=by
 simp only[Ax] at h;split at h
 .rename_i hl;cases hf:Bt z.cells (ps.zip as) with
  |none=>rw[hf] at h;cases h
  |some cs=>
   rw[hf] at h;cases h;unfold Fy at hz;cases hi:P.info? t with
   |none=>rw[hi] at hz;cases hz
   |some d=>
    cases Uv:d.zero with
    |none=>rw[hi] at hz;simp[Uv] at hz
    |some k=>
     rw[hi] at hz;simp only[BU,Uv] at hz;obtain⟨c,z2⟩:=Uy (γ:=γ) hz;have hparts:((parts.map λ(i,x)=>(i,O x)).toList.map (·.2))=(parts.toList.map (·.2)).map O:=Au;unfold RZ at hb;split at hb
     .rename_i fs hu;obtain⟨places,j,g⟩:=QV fs.toList hb;obtain⟨CS,f1,f2,f3⟩:=SH (place:=λi=>places.toArray[i]?) (parts:=(parts.map λ(i,x)=>(i,O x)).toList) hf hl
       (by have:=Ms hu (place:=λi=>places.toArray[i]?) (λi f n h1 h2=>by simpa using g i f n (by simpa using h1) h2) hp;rw[<-this];simp) (by rw[hparts];exact ha) c z2
      exact⟨.agg CS,run_build w t _ _ (by unfold Program.built;simp only[hi,hu,Uv,j];exact f1),CS,rfl,f2,f3⟩
     .rename_i len e hu;cases he:P.info? e with
      |none=>simp[BD,he] at hb
      |some b=>
       obtain⟨CS,f1,f2,f3⟩:=SH (place:=λi=>some (i*b.size,b.size)) (parts:=(parts.map λ(i,x)=>(i,O x)).toList) hf hl
        (by have:=MR hu (n:=b.size) (by simp[BD,he]) hp;rw[<-this];simp) (by rw[hparts];exact ha) c z2
       exact⟨.agg CS,run_build w t _ _ (by unfold Program.built;simp only[hi,hu,Uv,he];exact f1),CS,rfl,f2,f3⟩
     .cases hb
 .cases h
end
end Go.Am
end
section
namespace Go.Am
open Go
def Ur.still:Ur->Bool
 | .append _ _| .Cd _| .EV _| .ur| .Uu=>false
 |_=>true
def FT{o:pB}{dst:Option Nat}{x:Option (List Aa)}{r:DK}(h:P7 o dst x=some r):∃args,x=some args/\r= .mem o args dst:=by
 unfold P7 at h;split at h;.cases h;exact⟨_,rfl,rfl⟩
 .cases h
def Jf{o:pB}{dst:Option Nat}{x:Option (List Aa)}{p:Ur}{args:List Aa}{d:Option Nat}{Bn:Bool}{b:Option (Nat×Aa)}:¬P7 o dst x=some (.op p args d Bn b):=λh=>by obtain⟨_,_,e⟩:=FT h;cases e
def C5{p:Ur}{dst:Option Nat}{x:Option (List Aa)}{r:DK}(h:P6 p dst x=some r):∃args,x=some args/\r= .op p args dst false none:=by
 cases x with
 |none=>cases h
 |some args=>cases h;exact⟨args,rfl,rfl⟩
section
variable{C:E7}{γ0 γ:Gh}{w0 w:World}{Z:Nat->Nat}{U:Bq}{h:Ag}{a:Act}{fid:FuncId}{ops:List Oper}
def Gw(P:Program)(γ:Gh)(a:Act)(o:Oper)(w:World)(p:Ur)(args:List Aa):Prop:=
 ∀u,Ax p args=some u->∃v,(execOp a.eval o).run P w= .ok (.value v) w/\Bp γ u v
def DV{P:Program}{s:Sem Value}{v:Value}(hs:s.run P w= .ok v w):(do pure (Next.value (<-s)):Sem Next).run P w= .ok (.value v) w:=by simp[hs]
def aS{o:Oper}{c x y:Operand}(ho:o.op= .pick c x y)(hr:Ct C γ0 w0 γ Z U h a w){args:List Aa}(ha:A0 C U [c,x,y]=some args):Gw C.P γ a o w .pick args:=by
 intro u hu;simp only[Ax] at hu;split at hu;.rename_i b p q;cases hu;obtain⟨_,_,_,e,h1,h2,d⟩:=(C4 hr ha).Vn;simp only[AZ,De,Ey] at e;obtain⟨e1,g,f,_⟩:=e;rw[<-e1] at h1;rw[<-g] at h2;rw[<-f] at d;refine⟨if b then a.eval x else a.eval y,?_,by cases b<;>simpa⟩;simp[execOp,ho,O5 h1,asBool]
 .cases hu
def kZ{o:Oper}{op:BinOp}{t:TypeId}{x y:Operand}{p:Ur}(hp:Nw C.P op t=some p)(he:execOp a.eval o=(do pure (Next.value (<-(do eqGuard op t x y (a.eval x) (a.eval y);binOp op t (a.eval x) (a.eval y):Sem Value)))))
  (hr:Ct C γ0 w0 γ Z U h a w) {args:List Aa} (ha:A0 C U [x,y]=some args):Gw C.P γ a o w p args:=by
 intro u hu;obtain⟨v,c,b⟩:=Yj (w:=w) hp x y (C4 hr ha) hu;exact⟨v,by rw[he];exact DV c,b⟩
def Fo(hr:Ct C γ0 w0 γ Z U h a w){x:Operand}{args:List Aa}(ha:A0 C U [x]=some args):∃u,args=[u]/\Bp γ u (a.eval x):=by
 have h1:=C4 hr ha;cases args with
 |nil=>cases h1
 |cons u us=>
  obtain⟨_,_,e,h2,b⟩:=h1.Ke;cases e;cases us with
  |nil=>exact⟨u,rfl,h2⟩
  |cons _ _=>obtain⟨_,_,e,_⟩:=b.Ke;cases e
def D6(hr:Ct C γ0 w0 γ Z U h a w){x y:Operand}{args:List Aa}(ha:A0 C U [x,y]=some args):∃u v,args=[u,v]/\Bp γ u (a.eval x)/\Bp γ v (a.eval y):=by
 have h1:=C4 hr ha;cases args with
 |nil=>cases h1
 |cons u us=>
  obtain⟨_,_,e,h2,b⟩:=h1.Ke;cases e;cases us with
  |nil=>cases b
  |cons v vs=>
   obtain⟨_,_,e,d,c⟩:=b.Ke;cases e;cases vs with
   |nil=>exact⟨u,v,rfl,h2,d⟩
   |cons _ _=>obtain⟨_,_,e,_⟩:=c.Ke;cases e
def pY{o:Oper}{op:UnOp}{x:Operand}(he:execOp a.eval o=(do pure (Next.value (<-Op.unary op (a.eval x)))))
  (hr:Ct C γ0 w0 γ Z U h a w) {args:List Aa} (ha:A0 C U [x]=some args):Gw C.P γ a o w (.un op) args:=by
 intro u hu;obtain⟨v,rfl,h1⟩:=Fo hr ha;simp only[Ax] at hu;obtain⟨r,c,b⟩:=kf (P:=C.P) (w:=w) h1 hu;exact⟨r,by rw[he];exact DV c,b⟩
def aT{o:Oper}{src dst:TypeId}{k l:IntKind}{x:Operand}(hs:C.P.underlying src=some (.int l))(hd:C.P.underlying dst=some (.int k))(he:execOp a.eval o=(do pure (Next.value (<-convert src dst (a.eval x)))))
  (hr:Ct C γ0 w0 γ Z U h a w) {args:List Aa} (ha:A0 C U [x]=some args):Gw C.P γ a o w (.conv k) args:=by
 intro u hu;obtain⟨v,rfl,h1⟩:=Fo hr ha;simp only[Ax] at hu;split at hu;.rename_i e;cases e;cases hu;rw[DC h1] at he;exact⟨_,by rw[he];exact DV (Wr hs hd),rfl⟩
 .cases hu
def lA{o:Oper}{src dst:TypeId}{l:IntKind}{x:Operand}(hs:C.P.underlying src=some (.int l))(hd:C.P.underlying dst=some .string)(he:execOp a.eval o=(do pure (Next.value (<-convert src dst (a.eval x)))))
  (hr:Ct C γ0 w0 γ Z U h a w) {args:List Aa} (ha:A0 C U [x]=some args):Gw C.P γ a o w .ź args:=by
 intro u hu;obtain⟨v,rfl,h1⟩:=Fo hr ha;simp only[Ax] at hu;split at hu;.rename_i e;cases e;cases hu;rw[DC h1] at he;exact⟨_,by rw[he];exact DV (Ws hs hd),rfl⟩
 .cases hu
def Yl{o:Oper}{t:TypeId}{x:Operand}{f off:Nat}{b:Option Nat}(hf:GI C.P t f=some (off,b))(he:execOp a.eval o=(do pure (Next.value (<-Instr.field t (a.eval x) f))))
  (hr:Ct C γ0 w0 γ Z U h a w) {args:List Aa} (ha:A0 C U [x]=some args):Gw C.P γ a o w (.part off b) args:=by
 intro u hu;obtain⟨v,rfl,h1⟩:=Fo hr ha;simp only[Ax] at hu;split at hu;.rename_i e;cases e;obtain⟨r,d,c⟩:=kU (w:=w) hf h1 hu;exact⟨r,by rw[he];exact DV d,c⟩
 .cases hu
def RB{o:Oper}{t:TypeId}{x:Operand}{f off:Nat}{b:Option Nat}(hf:GI C.P t f=some (off,b))(he:execOp a.eval o=(do pure (Next.value (<-Instr.fieldAt t (a.eval x) f))))
  (hr:Ct C γ0 w0 γ Z U h a w) {args:List Aa} (ha:A0 C U [x]=some args):Gw C.P γ a o w (.FE off) args:=by
 intro u hu;obtain⟨v,rfl,h1⟩:=Fo hr ha;simp only[Ax] at hu;obtain⟨r,d,c⟩:=Yk (w:=w) hf h1 hu;exact⟨r,by rw[he];exact DV d,c⟩
def lB{o:Oper}{x:Operand}{i:Nat}(he:execOp a.eval o=(do pure (Next.value (<-Instr.extract (a.eval x) i))))
  (hr:Ct C γ0 w0 γ Z U h a w) {args:List Aa} (ha:A0 C U [x]=some args):Gw C.P γ a o w (.ext i) args:=by
 intro u hu;obtain⟨v,rfl,h1⟩:=Fo hr ha;simp only[Ax] at hu;split at hu;.rename_i e;cases e;obtain⟨r,c,b⟩:=wU (P:=C.P) (w:=w) h1 hu;exact⟨r,by rw[he];exact DV c,b⟩
 .cases hu
def RC{o:Oper}{t:TypeId}{x y:Operand}(ht:C.P.underlying t=some .string)(he:execOp a.eval o=(do pure (Next.value (<-Instr.index t (a.eval x) (a.eval y)))))
  (hr:Ct C γ0 w0 γ Z U h a w) {args:List Aa} (ha:A0 C U [x,y]=some args):Gw C.P γ a o w .X7 args:=by
 intro u hu;obtain⟨p,q,rfl,h1,h2⟩:=D6 hr ha;simp only[Ax] at hu;split at hu
 .rename_i e;cases e;split at hu
  .rename_i s k i h0;cases hb:s[i.toNat]? with
   |none=>rw[hb] at hu;cases hu
   |some b=>rw[hb] at hu;cases hu;rw[L2 h1,DC h2] at he;exact⟨_,by rw[he];exact DV (Ux ht h0 hb),rfl⟩
  .cases hu
 .cases hu
def RD{o:Oper}{t e:TypeId}{len n:Nat}{b:Option Nat}{x y:Operand}(ht:C.P.underlying t=some (.array len e))(hn:BD C.P e=some n)(Z3:Ei C.P e=some b)(he:execOp a.eval o=(do pure (Next.value (<-Instr.index t (a.eval x) (a.eval y)))))
  (hr:Ct C γ0 w0 γ Z U h a w) {args:List Aa} (ha:A0 C U [x,y]=some args):Gw C.P γ a o w (.jl len n b) args:=by
 intro u hu;obtain⟨p,q,rfl,h1,h2⟩:=D6 hr ha;simp only[Ax] at hu;split at hu
 .rename_i e;cases e;rename_i cs k i;cases hb:Lr i len with
  |none=>rw[hb] at hu;cases hu
  |some j=>rw[hb] at hu;simp only[BU] at hu;rw[DC h2] at he;obtain⟨r,d,c⟩:=Uw (w:=w) (k:=k) ht hn Z3 h1 hb hu;exact⟨r,by rw[he];exact DV d,c⟩
 .cases hu
def SI{o:Oper}{t e:TypeId}{n:Nat}{x y:Operand}(ht:C.P.underlying t=some (.slice e))(hn:BD C.P e=some n)(he:execOp a.eval o=(do pure (Next.value (<-Instr.indexAt t (a.eval x) (a.eval y)))))
  (hr:Ct C γ0 w0 γ Z U h a w) {args:List Aa} (ha:A0 C U [x,y]=some args):Gw C.P γ a o w (.F8 n) args:=by
 intro u hu;obtain⟨p,q,rfl,h1,h2⟩:=D6 hr ha;simp only[Ax] at hu;split at hu;.rename_i e;cases e;rename_i k i;rw[DC h2] at he;obtain⟨r,c,b⟩:=aQ (w:=w) (k:=k) ht hn h1 hu;exact⟨r,by rw[he];exact DV c,b⟩
 .cases hu
def Uz{o:Oper}{t e:TypeId}{len n:Nat}{x y:Operand}(ht:C.P.underlying t=some (.array len e))(hn:BD C.P e=some n)(he:execOp a.eval o=(do pure (Next.value (<-Instr.indexAt t (a.eval x) (a.eval y)))))
  (hr:Ct C γ0 w0 γ Z U h a w) {args:List Aa} (ha:A0 C U [x,y]=some args):Gw C.P γ a o w (.Sm len n) args:=by
 intro u hu;obtain⟨p,q,rfl,h1,h2⟩:=D6 hr ha;simp only[Ax] at hu;split at hu
 .rename_i e;cases e;rename_i k i;cases hb:Lr i len with
  |none=>rw[hb] at hu;cases hu
  |some j=>rw[hb] at hu;simp only[BU] at hu;rw[DC h2] at he;obtain⟨r,c,b⟩:=kW (w:=w) (k:=k) ht hn h1 hb hu;exact⟨r,by rw[he];exact DV c,b⟩
 .cases hu
def QW{o:Oper}{t:TypeId}{x:Operand}{lo hi:Option Operand}{isStr:Bool}{size:Nat}(ht:if isStr=true then C.P.underlying t=some .string else∃e,C.P.underlying t=some (.slice e)/\BD C.P e=some size)
  (he:execOp a.eval o=(do pure (Next.value (<-Instr.sliceAt t (a.eval x) (lo.map a.eval) (hi.map a.eval) none))))
  (hr:Ct C γ0 w0 γ Z U h a w) {args:List Aa} (ha:A0 C U (x::(lo.toList++hi.toList))=some args):Gw C.P γ a o w (.P4 size isStr lo.isSome hi.isSome) args:=by
 intro u hu;have h1:=C4 hr ha;cases args with
 |nil=>cases h1
 |cons s as=>obtain⟨_,_,e,h2,d⟩:=h1.Ke;cases e;simp only[Ax] at hu;obtain⟨r,c,b⟩:=wV (P:=C.P) (w:=w) (lo:=lo.map a.eval) (hi:=hi.map a.eval) ht h2 (by cases lo<;>cases hi<;>simpa using d) (by simpa using hu);exact⟨r,by rw[he];exact DV c,b⟩
def Ym{o:Oper}{t:TypeId}{parts:Array (Nat×Operand)}{z:Aa}{ps:List (Nat×Nat)}(hz:Fy C.P t=some z)(hp:Ih C.P t parts.toList=some ps)(hb:RZ C.P t=true)
  (he:execOp a.eval o=(do pure (Next.value (<-Instr.build t (parts.map λ(i,x)=>(i,a.eval x))))))
  (hr:Ct C γ0 w0 γ Z U h a w) {args:List Aa} (ha:A0 C U (parts.toList.map (·.2))=some args):Gw C.P γ a o w (.B4 z.cells ps) args:=by
 intro u hu;obtain⟨r,c,b⟩:=kY (w:=w) hz hp hb (C4 hr ha) hu;exact⟨r,by rw[he];exact DV c,b⟩
def Wu{o:Oper}{x:Operand}(ho:o.op= .nilCheck x)(hr:Ct C γ0 w0 γ Z U h a w){args:List Aa}(ha:A0 C U [x]=some args):Gw C.P γ a o w .J9 args:=by
 intro u hu;obtain⟨v,rfl,h1⟩:=Fo hr ha;simp only[Ax,X9] at hu;split at hu;.rename_i p;cases hu;obtain⟨i,k⟩:=p;obtain⟨b,hb,hv⟩:=h1;exact⟨_,by simp only[execOp,ho,hv];rfl,b,hb,rfl⟩
 .cases hu;obtain⟨b,k,hv,hm⟩:=h1;exact⟨_,by simp only[execOp,ho,hv];rfl,b,k,rfl,hm⟩
 .cases hu;obtain⟨fs,cs,hv,p,q⟩:=h1;exact⟨_,by simp only[execOp,ho,hv];rfl,fs,cs,rfl,p,q⟩
 .cases hu
def Lg:∀{xs:List Operand} {us:List Aa},A0 C U xs=some us->us.length=xs.length
 |[],us,h=>by cases h;rfl
 |x::xs,us,h=>by
  unfold A0 at h;split at h;.rename_i u CS h1 h2;cases h;simp[Lg h2]
  .cases h
def L5{P:Program}{o:Oper}{c:Call}{b:Builtin}{s:Sem Value}(ho:o.op= .call c)(hc:c.callee= .builtin b)(hs:builtin b c.argTypes o.type (c.args.map λ| .const _=>true|_=>false) (c.args.map a.eval)=(do pure (Next.value (<-s)))){v:Value}
  (hv:s.run P w= .ok v w):(execOp a.eval o).run P w= .ok (.value v) w:=by
 have:execOp a.eval o=(do pure (Next.value (<-s))):=by rw[<-hs];simp only[execOp,ho,resolve,hc];rfl
 rw[this];exact DV hv
def Vp{o:Oper}{c:Call}{t:TypeId}{isStr:Bool}(ho:o.op= .call c)(hc:c.callee= .builtin .len)(h0:c.argTypes[0]?=some t)(ht:if isStr=true then C.P.underlying t=some .string else∃e,C.P.underlying t=some (.slice e))
  (hr:Ct C γ0 w0 γ Z U h a w) {args:List Aa} (ha:A0 C U c.args.toList=some args):Gw C.P γ a o w (.len isStr) args:=by
 intro u hu;simp only[Ax] at hu;split at hu
 .rename_i s;have hl:=Lg ha;obtain⟨x,hx⟩:∃x,c.args.toList=[x]:=uj.1 hl.symm;rw[hx] at ha;obtain⟨_,e,h1⟩:=Fo hr ha;cases e;obtain⟨r,d,b⟩:=wT (P:=C.P) (w:=w) (ty:=o.type) ht h0 h1 hu;have e:c.args.map a.eval=#[a.eval x]:=by apply Fe;simp[hx]
  exact⟨r,L5 ho hc (s:=Builtin.len_ c.argTypes o.type #[a.eval x]) (by rw[e];rfl) d,b⟩
 .cases hu
def O6{o:Oper}{c:Call}{isMax:Bool}(ho:o.op= .call c)(hc:c.callee= .builtin (if isMax then .max else .min))(hr:Ct C γ0 w0 γ Z U h a w){args:List Aa}(ha:A0 C U c.args.toList=some args):Gw C.P γ a o w (.Jt isMax) args:=by
 intro u hu;simp only[Ax] at hu;split at hu
 .rename_i k p l q;split at hu
  .rename_i hk;subst hk;cases hu;have hl:=Lg ha;obtain⟨x,y,hx⟩:∃x y,c.args.toList=[x,y]:=by
    cases hq:c.args.toList with
    |nil=>rw[hq] at hl;simp at hl
    |cons x xs=>cases xs with
     |nil=>rw[hq] at hl;simp at hl
     |cons y ys=>cases ys with
      |nil=>exact⟨x,y,rfl⟩
      |cons _ _=>rw[hq] at hl;simp at hl
   rw[hx] at ha;obtain⟨_,_,e,h1,h2⟩:=D6 hr ha;cases e;have e:c.args.map a.eval=#[.int k p,.int k q]:=by apply Fe;simp[hx,DC h1,DC h2]
   cases isMax with
   |true=>exact⟨_,L5 ho hc (s:=Builtin.max_ c.argTypes o.type #[.int k p,.int k q]) (by rw[e];rfl) (by simp[Builtin.max_,Builtin.max2]),rfl⟩
   |false=>exact⟨_,L5 ho hc (s:=Builtin.min_ c.argTypes o.type #[.int k p,.int k q]) (by rw[e];rfl) (by simp[Builtin.min_,Builtin.min2]),rfl⟩
  .cases hu
 .cases hu
end
end Go.Am
end
section
namespace Go.Am
open Go
section
variable{C:E7}{γ0 γ:Gh}{w0 w:World}{Z:Nat->Nat}{U:Bq}{h:Ag}{a:Act}{fid:FuncId}{ops:List Oper}
def KP{x:Operand}{d:Nat}{take:Bool}{r:DK}(h:IK C U x d take=some r):∃ws,r= .pure ws:=by
 unfold IK at h;split at h;.cases h;exact⟨_,rfl⟩
 .cases h;exact⟨_,rfl⟩
 .split at h;.cases h;exact⟨_,rfl⟩
  .cases hc:GJ _ with
   |none=>rw[hc] at h;cases h
   |some s=>rw[hc] at h;cases h;exact⟨_,rfl⟩
 .cases hc:GJ _ with
  |none=>rw[hc] at h;cases h
  |some s=>rw[hc] at h;cases h;exact⟨_,rfl⟩
 .cases h
def Vq{t:TypeId}{v:Aa}{d:Nat}{p:Ur}{args:List Aa}{dst:Option Nat}{Bn:Bool}{b:Option (Nat×Aa)}:QS C fid t v d≠some (.op p args dst Bn b):=by
 unfold QS;intro h;split at h;.cases h
 .split at h;.cases h
  .split at h<;>cases h
def aU{t:TypeId}{x:Operand}{d:Nat}{take:Bool}{p:Ur}{args:List Aa}{dst:Option Nat}{Bn:Bool}{b:Option (Nat×Aa)}:Jv C U t x d take≠some (.op p args dst Bn b):=by
 unfold Jv;intro h;split at h;.cases h
 .split at h;.simp only at h;split at h<;>cases h
  .cases h
 .split at h<;>cases h
 .cases h
def Yn{t:TypeId}{x y:Operand}{p:Ur}{args:List Aa}{dst:Option Nat}{Bn:Bool}{b:Option (Nat×Aa)}:HJ C U t x y≠some (.op p args dst Bn b):=by
 unfold HJ;intro h;split at h;.cases h
 .split at h<;>cases h
 .cases h
def lC{o:Oper}{p:Ur}{args:List Aa}{dst:Option Nat}{Bn:Bool}{g:Option (Nat×Aa)}(hc:EZ C fid ops U o=some (.op p args dst Bn g))(Hz:p.still=true)(hr:Ct C γ0 w0 γ Z U h a w):
  Gw C.P γ a o w p args/\dst=o.dst/\Bn=false/\g=none:=by
 unfold EZ at hc
 split at hc
 .split at hc
  .obtain⟨ws,e⟩:=KP hc;cases e
  .cases hc
 .split at hc
  .obtain⟨ws,e⟩:=KP hc;cases e
  .cases hc
 .rename_i c x y ho
  split at hc
  .obtain⟨ws,e⟩:=KP hc;cases e
  .obtain⟨ws,e⟩:=KP hc;cases e
  .obtain⟨as,e1,b⟩:=C5 hc
   cases b
   exact⟨aS ho hr e1,rfl,rfl,rfl⟩
 .split at hc
  .split at hc
   .split at hc<;>cases hc
   .exact absurd hc Vq
  .cases hc
 .split at hc
  .exact absurd hc Vq
  .cases hc
 .rename_i t parts ho
  split at hc
  .rename_i z ps hz hp
   split at hc
   .rename_i hb
    obtain⟨as,e1,b⟩:=C5 hc
    cases b
    exact⟨Ym hz hp hb (by simp[execOp,ho]) hr e1,rfl,rfl,rfl⟩
   .cases hc
  .cases hc
 .split at hc
  .split at hc
   .split at hc
    .split at hc
     .cases hc;cases Hz
     .cases hq:A0 C U _ with
      |none=>rw[hq] at hc;cases hc
      |some q=>rw[hq] at hc;cases hc;cases Hz
    .cases hc
   .cases hc
  .cases hc
 .split at hc
  .exact absurd hc aU
  .cases hc
 .split at hc
  .exact absurd hc Yn
  .cases hc
 .rename_i x ho
  split at hc
  .cases hc
  .cases hc
  .obtain⟨as,e1,b⟩:=C5 hc
   cases b
   exact⟨Wu ho hr e1,rfl,rfl,rfl⟩
 .rename_i op t x y k ho
  split at hc
  .rename_i q hq
   obtain⟨as,e1,b⟩:=C5 hc
   cases b
   exact⟨kZ hq (by simp[execOp,ho]) hr e1,rfl,rfl,rfl⟩
  .cases hc
 .rename_i op t x ho
  obtain⟨as,e1,b⟩:=C5 hc
  cases b
  exact⟨pY (by simp[execOp,ho]) hr e1,rfl,rfl,rfl⟩
 .rename_i src Ž x ho
  split at hc
  .cases hq:DX C U x with
   |none=>rw[hq] at hc;cases hc
   |some q=>rw[hq] at hc;cases hc
  .split at hc
   .cases hq:DX C U x with
    |none=>rw[hq] at hc;cases hc
    |some q=>rw[hq] at hc;cases hc
   .obtain⟨as,e1,b⟩:=C5 hc
    cases b;cases Hz
  .rename_i q P1 XX hq
   obtain⟨as,e1,b⟩:=C5 hc
   cases b
   refine⟨?_,rfl,rfl,rfl⟩
   unfold Sw at hq
   split at hq
   .rename_i hs hd
    cases hq
    exact aT hs hd (by simp[execOp,ho]) hr e1
   .rename_i hs hd
    cases hq
    exact lA hs hd (by simp[execOp,ho]) hr e1
   .cases hq
   .split at hq
    .cases hq;cases Hz
    .cases hq
   .split at hq
    .cases hq;cases Hz
    .cases hq
   .cases hq
  .cases hc
 .split at hc
  .cases hc
  .cases hc
 .cases hc
 .split at hc
  .split at hc<;>cases hc
  .cases hc
 .split at hc
  .split at hc<;>cases hc
  .cases hc
 .split at hc
  .split at hc<;>cases hc
  .cases hc
 .split at hc
  .split at hc<;>cases hc
  .cases hc
 .split at hc
  .split at hc
   .exact absurd hc Jf
   .cases hc
  .cases hc
 .split at hc
  .cases hc
  .exact absurd hc Jf
  .cases hc
 .split at hc
  .split at hc<;>first|exact absurd hc Jf|cases hc
  .cases hc
 .split at hc
  .exact absurd hc Jf
  .cases hc
 .rename_i t x lo hi ho
  split at hc
  .rename_i ht
   obtain⟨as,e1,b⟩:=C5 hc
   cases b
   exact⟨QW (isStr:=true) ht (by simp[execOp,ho]) hr e1,rfl,rfl,rfl⟩
  .rename_i e ht
   split at hc
   .rename_i n hn
    split at hc
    .exact absurd hc Jf
    .obtain⟨as,e1,b⟩:=C5 hc
     cases b
     exact⟨QW (isStr:=false) ⟨e,ht,hn⟩ (by simp[execOp,ho]) hr e1,rfl,rfl,rfl⟩
   .cases hc
  .cases hc
 .rename_i t x f ho
  split at hc
  .rename_i off j d hf hd
   split at hc
   .cases hc
   .cases hc
   .obtain⟨as,e1,b⟩:=C5 hc
    cases b
    exact⟨RB hf (by simp[execOp,ho]) hr e1,hd.symm,rfl,rfl⟩
  .cases hc
 .rename_i t x f ho
  split at hc
  .rename_i off j hf
   obtain⟨as,e1,b⟩:=C5 hc
   cases b
   exact⟨Yl hf (by simp[execOp,ho]) hr e1,rfl,rfl,rfl⟩
  .cases hc
 .rename_i t x i ho
  split at hc
  .rename_i e ht
   split at hc
   .rename_i n hn
    obtain⟨as,e1,b⟩:=C5 hc
    cases b
    exact⟨SI ht hn (by simp[execOp,ho]) hr e1,rfl,rfl,rfl⟩
   .cases hc
  .rename_i len e ht
   split at hc
   .rename_i n hn
    split at hc
    .cases hc
    .obtain⟨as,e1,b⟩:=C5 hc
     cases b
     exact⟨Uz ht hn (by simp[execOp,ho]) hr e1,rfl,rfl,rfl⟩
   .cases hc
  .cases hc
 .rename_i t x i ho
  split at hc
  .rename_i ht
   obtain⟨as,e1,b⟩:=C5 hc
   cases b
   exact⟨RC ht (by simp[execOp,ho]) hr e1,rfl,rfl,rfl⟩
  .rename_i len e ht
   split at hc
   .rename_i n j hn Z3
    obtain⟨as,e1,b⟩:=C5 hc
    cases b
    exact⟨RD ht hn Z3 (by simp[execOp,ho]) hr e1,rfl,rfl,rfl⟩
   .cases hc
  .cases hc
 .rename_i x i ho
  obtain⟨as,e1,b⟩:=C5 hc
  cases b
  exact⟨lB (by simp[execOp,ho]) hr e1,rfl,rfl,rfl⟩
 .rename_i c ho
  unfold Oe at hc
  split at hc
  .rename_i hcl
   split at hc
   .rename_i t h0
    split at hc
    .rename_i ht
     obtain⟨as,e1,b⟩:=C5 hc
     cases b
     exact⟨Vp (isStr:=true) ho hcl h0 ht hr e1,rfl,rfl,rfl⟩
    .rename_i e ht
     obtain⟨as,e1,b⟩:=C5 hc
     cases b
     exact⟨Vp (isStr:=false) ho hcl h0 ⟨e,ht⟩ hr e1,rfl,rfl,rfl⟩
    .cases hc
   .cases hc
  .split at hc
   .split at hc
    all_goals first
     |(cases hc;done)
     | (split at hc
        . split at hc
          . split at hc
            . split at hc
              . split at hc
                . cases hc
                . split at hc
                  . cases hc
                  . cases hc; cases Hz
              . split at hc <;> cases hc
            . cases hc
          . cases hc
        . cases hc)
   .cases hc
  .split at hc
   .split at hc
    all_goals first
     |(cases hc;done)
     | (split at hc
        . exact absurd hc Jf
        . cases hc)
   .cases hc
  .split at hc
   .split at hc
    .split at hc
     .exact absurd hc Jf
     .cases hc
    .cases hc
   .cases hc
  .rename_i hcl
   split at hc
   .obtain⟨as,e1,b⟩:=C5 hc
    cases b
    exact⟨O6 (isMax:=true) ho hcl hr e1,rfl,rfl,rfl⟩
   .cases hc
  .rename_i hcl
   split at hc
   .obtain⟨as,e1,b⟩:=C5 hc
    cases b
    exact⟨O6 (isMax:=false) ho hcl hr e1,rfl,rfl,rfl⟩
   .cases hc
  .split at hc
   .split at hc
    .split at hc
     .exact absurd hc Jf
     .cases hc
    .cases hc
   split at hc
   .cases hq:A0 C U c.args.toList with
    |none=>rw[hq] at hc;cases hc
    |some q=>
     rw[hq] at hc
     simp only[BM,Bv] at hc
     split at hc<;>cases hc
   .cases hc
  .split at hc<;>cases hc
  .cases hc
 .cases hc
end
end Go.Am
end
