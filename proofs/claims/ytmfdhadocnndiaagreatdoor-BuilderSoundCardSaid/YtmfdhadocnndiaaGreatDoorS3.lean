/- Lemmas -/
import Derived.Test.YtmfdhadocnndiaaGreatDoorS2
import Derived.Laws.Slices
set_option linter.all false
section
namespace Go.Am
open Go
section
variable{P:Program}{γ:Gh}{w:World}
def Pn{a:Bool}{v:Value}(h:Bv γ (.bool a) v):v= .bool a:=h
def DT{k:IntKind}{a:Int}{v:Value}(h:Bv γ (.int k a) v):v= .int k a:=h
def Mc{a:Au}{v:Value}(h:Bv γ (.str a) v):v= .string ⟨⟨a⟩⟩:=h
def AQ.zE{us:List Value}(h:AQ γ [] us):us=[]:=h
def AQ.Km{a:Aa}{l:List Aa}{us:List Value}(h:AQ γ (a::l) us):∃u C4,us=u::C4/\Bv γ a u/\AQ γ l C4:=h
def AQ.one{a:Aa}{us:List Value}(h:AQ γ [a] us):∃u,us=[u]/\Bv γ a u:=by obtain⟨u,C4,rfl,h1,h2⟩:=h;rw[h2.zE];exact⟨u,rfl,h1⟩
def AQ.bL{a b:Aa}{us:List Value}(h:AQ γ [a,b] us):∃u v,us=[u,v]/\Bv γ a u/\Bv γ b v:=by obtain⟨u,C4,rfl,h1,h2⟩:=h;obtain⟨v,rfl,h3⟩:=h2.one;exact⟨u,v,rfl,h1,h3⟩
def AQ.Vv{a b c:Aa}{us:List Value}(h:AQ γ [a,b,c] us):∃u v x,us=[u,v,x]/\Bv γ a u/\Bv γ b v/\Bv γ c x:=by obtain⟨u,C4,rfl,h1,h2⟩:=h;obtain⟨v,x,rfl,h3,d⟩:=h2.bL;exact⟨u,v,x,rfl,h1,h3,d⟩
def Value.IA:Value->Bool
 | .bool _| .pointer _| .slice _ _ _| .func _ _ _| .nilFunc| .map _=>true
 |_=>false
def Qy{op:BinOp}{neg:Bool}(Og:(op= .eql/\neg=false)\/(op= .neq/\neg=true))(t:TypeId)(c b:Operand){x y:Value}(hx:Value.IA x=true)(hy:Value.IA y=true){e:Bool}
  (he:(Op.equal t x y).run P w= .ok e w):(do eqGuard op t c b x y;binOp op t x y:Sem Value).run P w= .ok (.bool (e != neg)) w:=by
 have hg:eqGuard op t c b x y=pure ():=by rcases Og with⟨rfl,_⟩|⟨rfl,_⟩<;>cases x<;>simp[Value.IA] at hx<;>rfl
 rw[hg];rcases Og with⟨rfl,rfl⟩|⟨rfl,rfl⟩
 .have hb:binOp .eql t x y=(do pure (.bool (<-Op.equal t x y))):=by cases x<;>simp[Value.IA] at hx<;>cases y<;>simp[Value.IA] at hy<;>rfl
  simp[hb,he]
 .have hb:binOp .neq t x y=(do pure (.bool (!(<-Op.equal t x y)))):=by cases x<;>simp[Value.IA] at hx<;>cases y<;>simp[Value.IA] at hy<;>rfl
  simp[hb,he]
def Yz{op:BinOp}{neg:Bool}(Og:(op= .eql/\neg=false)\/(op= .neq/\neg=true))(t:TypeId)(d c:Operand)(ht:P.underlying t=some .bool)(a b:Bool):
  (do eqGuard op t d c (.bool a) (.bool b);binOp op t (.bool a) (.bool b):Sem Value).run P w= .ok (.bool ((a==b) != neg)) w:=
 Qy Og t d c rfl rfl (run_equalIn_bool' w 9999 t a b ht)
def RU{d:Nat}{t e:TypeId}(ht:P.underlying t=some (.pointer e))(hz:∃n,BI P e=some (n+1)){a b:Aa}{x y:Value}(hx:Bv γ a x)(hy:Bv γ b y){r:Bool}(h:gF a b=some r):
  (Op.equalIn (d+1) t x y).run P w= .ok r w/\Value.IA x=true/\Value.IA y=true:=by
 obtain⟨n,hn⟩:=hz;unfold gF at h;split at h
 .rename_i q;cases h;rw[show x= .pointer none from hx];have:∃p,y= .pointer p/\p.isNone=q.isNone:=by
   cases q with
   |none=>exact⟨none,hy,rfl⟩
   |some p=>obtain⟨i,o⟩:=p;obtain⟨b,_,rfl⟩:=hy;exact⟨_,rfl,rfl⟩
  obtain⟨p,rfl,hp⟩:=this;exact⟨by simp[Op.equalIn,run_underlying ht,hp],rfl,rfl⟩
 .rename_i p;cases h;obtain⟨i,o⟩:=p;obtain⟨b,_,rfl⟩:=hx;rw[show y= .pointer none from hy];exact⟨by simp[Op.equalIn,run_underlying ht],rfl,rfl⟩
 .rename_i p q;split at h;.rename_i he;cases h;subst he;obtain⟨i,o⟩:=p;obtain⟨b,hb,rfl⟩:=hx;obtain⟨b',MV,rfl⟩:=hy;rw[hb] at MV;cases MV;exact⟨by simp[Op.equalIn,run_underlying ht,C8 hn,sameAddr],rfl,rfl⟩
  .cases h
 .cases h;rw[show x= .pointer none from hx];obtain⟨b,o,rfl,_⟩:=hy;exact⟨by simp[Op.equalIn,run_underlying ht],rfl,rfl⟩
 .cases h;rw[show y= .pointer none from hy];obtain⟨b,o,rfl,_⟩:=hx;exact⟨by simp[Op.equalIn,run_underlying ht],rfl,rfl⟩
 .cases h
def D4{d:Nat}{t e:TypeId}(ht:P.underlying t=some (.slice e)){p q:Option Addr}{n c m k:Nat}(h:p=none\/q=none):
  (Op.equalIn (d+1) t (.slice p n c) (.slice q m k)).run P w= .ok (p.isNone&&q.isNone) w:=by
 cases p<;>cases q<;>simp at h<;>simp[Op.equalIn,run_underlying ht]
def Kn{d:Nat}{t:TypeId}{a b:Array TypeId}{c:Bool}(ht:P.underlying t=some (.func a b c)){f:Fn}{x y:Array Value}:
  (Op.equalIn (d+1) t .nilFunc .nilFunc).run P w= .ok true w/\(Op.equalIn (d+1) t .nilFunc (.func f x y)).run P w= .ok false w/\(Op.equalIn (d+1) t (.func f x y) .nilFunc).run P w= .ok false w:=by
 refine⟨?_,?_,?_⟩<;>simp[Op.equalIn,run_underlying ht]
def JQ{d:Nat}{t k e:TypeId}(ht:P.underlying t=some (.map k e)){p q:Option Nat}(h:p=none\/q=none):
  (Op.equalIn (d+1) t (.map p) (.map q)).run P w= .ok (p.isNone&&q.isNone) w:=by
 cases p<;>cases q<;>simp at h<;>simp[Op.equalIn,run_underlying ht]
def RV{d:Nat}{t:TypeId}{k:NK}(ht:match k with| .sl=>∃e,P.underlying t=some (.slice e)| .fn=>∃a b c,P.underlying t=some (.func a b c)| .mp=>∃a b,P.underlying t=some (.map a b))
  {a b:Aa} {x y:Value} (hx:Bv γ a x) (hy:Bv γ b y) {r:Bool} (h:gG k a b=some r):
  (Op.equalIn (d+1) t x y).run P w= .ok r w/\Value.IA x=true/\Value.IA y=true:=by
 unfold gG at h;split at h;case h_1=>obtain⟨e,ht⟩:=ht;cases h;rw[show x= .slice none 0 0 from hx,show y= .slice none 0 0 from hy];exact⟨D4 ht (.inl rfl),rfl,rfl⟩
 case h_2=>obtain⟨e,ht⟩:=ht;cases h;rw[show x= .slice none 0 0 from hx];obtain⟨_,_,rfl,_⟩:=hy;exact⟨D4 ht (.inl rfl),rfl,rfl⟩
 case h_3=>obtain⟨e,ht⟩:=ht;cases h;rw[show y= .slice none 0 0 from hy];obtain⟨_,_,rfl,_⟩:=hx;exact⟨D4 ht (.inr rfl),rfl,rfl⟩
 case h_4=>obtain⟨e,ht⟩:=ht;cases h;rw[show x= .slice none 0 0 from hx];obtain⟨_,rfl⟩:=hy;exact⟨D4 ht (.inl rfl),rfl,rfl⟩
 case h_5=>obtain⟨e,ht⟩:=ht;cases h;rw[show y= .slice none 0 0 from hy];obtain⟨_,rfl⟩:=hx;exact⟨D4 ht (.inr rfl),rfl,rfl⟩
 case h_6=>obtain⟨e,ht⟩:=ht;cases h;rw[show x= .slice none 0 0 from hx];obtain⟨_,_,_,rfl,_⟩:=hy;exact⟨D4 ht (.inl rfl),rfl,rfl⟩
 case h_7=>obtain⟨e,ht⟩:=ht;cases h;rw[show y= .slice none 0 0 from hy];obtain⟨_,_,_,rfl,_⟩:=hx;exact⟨D4 ht (.inr rfl),rfl,rfl⟩
 case h_8=>obtain⟨_,_,_,ht⟩:=ht;cases h;rw[show x= .nilFunc from hx,show y= .nilFunc from hy];exact⟨(Kn ht (f:= .func 0) (x:=#[]) (y:=#[])).1,rfl,rfl⟩
 case h_9=>obtain⟨_,_,_,ht⟩:=ht;cases h;rw[show x= .nilFunc from hx];obtain⟨_,_,rfl,_⟩:=hy;exact⟨(Kn ht).2.1,rfl,rfl⟩
 case h_10=>obtain⟨_,_,_,ht⟩:=ht;cases h;rw[show y= .nilFunc from hy];obtain⟨_,_,rfl,_⟩:=hx;exact⟨(Kn ht).2.2,rfl,rfl⟩
 case h_11=>
  rename_i q;obtain⟨_,_,ht⟩:=ht;cases h;rw[show x= .map none from hx];cases q with
  |none=>rw[show y= .map none from hy];exact⟨JQ ht (.inl rfl),rfl,rfl⟩
  |some id=>obtain⟨b,_,rfl⟩:=hy;exact⟨JQ ht (.inl rfl),rfl,rfl⟩
 case h_12=>obtain⟨_,_,ht⟩:=ht;cases h;rw[show y= .map none from hy];obtain⟨b,_,rfl⟩:=hx;exact⟨JQ ht (.inr rfl),rfl,rfl⟩
 .cases h
def mK{op:BinOp}{args:List Aa}{u:Aa}(h:Ax (.int op) args=some u):∃k a l b,args=[.int k a,.int l b]/\gE op k a l b=some u:=by
 simp only[Ax] at h;split at h;.exact⟨_,_,_,_,rfl,h⟩
 .cases h
def mL{op:BinOp}{args:List Aa}{u:Aa}(h:Ax (.str op) args=some u):∃a b,args=[.str a,.str b]/\Yp op a b=some u:=by
 simp only[Ax] at h;split at h;.exact⟨_,_,rfl,h⟩
 .cases h
def YA{op:BinOp}{t:TypeId}{p:UA}(hp:NL P op t=some p)(f c:Operand){args:List Aa}{x y:Value}(ha:AQ γ args [x,y]){u:Aa}(h:Ax p args=some u):
  ∃v,(do eqGuard op t f c x y;binOp op t x y:Sem Value).run P w= .ok v w/\Bv γ u v:=by
 unfold NL at hp;split at hp;.cases hp;obtain⟨k,a,l,b,rfl,h⟩:=mK h;obtain⟨_,_,e,hx,hy⟩:=ha.bL;cases e;rw[DT hx,DT hy];exact Yu t f c h
 .cases hp;obtain⟨a,b,rfl,h⟩:=mL h;obtain⟨_,_,e,hx,hy⟩:=ha.bL;cases e;rw[Mc hx,Mc hy];exact Yv t f c h
 .rename_i d h1 h2 hu;obtain⟨neg,Og,zh⟩:∃neg,((op= .eql/\neg=false)\/(op= .neq/\neg=true))/\Qp P t neg d=some p:=by cases op<;>first|cases hp;done|exact⟨false,.inl ⟨rfl,rfl⟩,hp⟩|exact⟨true,.inr ⟨rfl,rfl⟩,hp⟩
  clear h1 h2 hp;have hp:=zh;clear zh;unfold Qp at hp;split at hp
  .cases hp;simp only[Ax] at h;split at h;.obtain⟨_,_,e,hx,hy⟩:=ha.bL;cases e;cases h;rw[Pn hx,Pn hy];exact⟨_,Yz Og t f c hu _ _,rfl⟩
   .cases h
  .split at hp
   .rename_i hg;cases hk:M0 P 20 t with
    |none=>rw[hk] at hp;cases hp
    |some ks=>
     rw[hk] at hp;cases hp;simp only[Ax] at h;split at h;.obtain⟨_,_,e,hx,hy⟩:=ha.bL;cases e;exact Yy Og hg hk ⟨_,hu⟩ hx hy h
     .cases h
   .cases hp
  .split at hp;.cases hp
   .rename_i e hz;cases hp;simp only[Ax] at h;split at h
    .rename_i a b;obtain⟨_,_,e,hx,hy⟩:=ha.bL;cases e;cases hq:gF a b with
     |none=>rw[hq] at h;cases h
     |some r=>rw[hq] at h;cases h;obtain⟨j,i,g⟩:=RU (w:=w) (d:=9999) hu (by cases UG:BI P e with|none=>rw[UG] at hz;exact absurd rfl hz|some n=>cases n with|zero=>rw[UG] at hz;exact absurd rfl hz|succ n=>exact⟨n,rfl⟩) hx hy hq;exact⟨_,Qy Og t f c i g j,rfl⟩
    .cases h
  all_goals first
   |cases hp;done
   | (cases hp
      simp only [Ax] at h
      split at h
      . rename_i a b
        obtain ⟨_, _, e, hx, hy⟩ := ha.bL
        cases e
        cases hq : gG _ a b with
        | none => rw [hq] at h; cases h
        | some r =>
          rw [hq] at h; cases h
          obtain ⟨j, i, g⟩ := RV (w := w) (P := P) (t := t) (d := 9999) (by first | exact ⟨_, hu⟩ | exact ⟨_, _, hu⟩ | exact ⟨_, _, _, hu⟩) hx hy hq
          exact ⟨_, Qy Og t f c i g j, rfl⟩
      . cases h)
 .cases hp
end
end Go.Am
end
section
namespace Go.Am
open Go
section
variable{P:Program}{γ:Gh}{w:World}
def np{op:UnOp}{a u:Aa}{x:Value}(hx:Bv γ a x)(h:ml op a=some u):∃v,(Op.unary op x).run P w= .ok v w/\Bv γ u v:=by
 unfold ml at h;split at h;.cases h;rw[Pn hx];exact⟨_,rfl,rfl⟩
 .cases h;rw[DT hx];exact⟨_,rfl,rfl⟩
 .rename_i k n;rw[DT hx];unfold gj at h;cases hs:NI (Op.unary .xor (.int k n)) with
  |none=>rw[hs] at h;cases h
  |some v=>
   rw[hs] at h;have b:=SV hs;simp only[BZ] at h;split at h;.cases h;exact⟨_,by rw[b];rfl,rfl⟩
   .cases h
 .cases h
def WB{src dst:TypeId}{k l k':IntKind}{n:Int}(hs:P.underlying src=some (.int l))(hd:P.underlying dst=some (.int k)):(convert src dst (.int k' n)).run P w= .ok (.int k (k.wrap n)) w:=by simp[convert,run_underlying hs,run_underlying hd,Conv.intToInt]
def WC{src dst:TypeId}{l k':IntKind}{n:Int}(hs:P.underlying src=some (.int l))(hd:P.underlying dst=some .string):(convert src dst (.int k' n)).run P w= .ok (.string (Utf8.encode n)) w:=by simp[convert,run_underlying hs,run_underlying hd,Conv.intToString]
def mM{t:TypeId}{f off:Nat}{b:Option Nat}(hf:GW P t f=some (off,b)){cs:List Aa}{x:Value}(hx:Bv γ (.agg cs) x){u:Aa}(h:Ez cs off b=some u):∃v,(Instr.field t x f).run P w= .ok v w/\Bv γ u v:=by
 unfold GW at hf;split at hf
 .rename_i fs hu;split at hf
  .rename_i fd gQ;split at hf;.rename_i n c h1 h2;cases hf;obtain⟨us,rfl,hr,h1c⟩:=hx;obtain⟨v,p,q⟩:=Yw (w:=w) h2 hr h1c h;exact⟨v,by simp[Instr.field,run_underlying hu,gQ,asAgg,p],q⟩
   .cases hf
  .cases hf
 .cases hf
def OF{i:Int}{len j:Nat}(h:Lx i len=some j):0<=i/\i<len/\i.toNat=j:=by
 unfold Lx at h;split at h;.rename_i hc;cases h;exact⟨hc.1,hc.2,rfl⟩
 .cases h
def UH{t e:TypeId}{len n:Nat}{b:Option Nat}(ht:P.underlying t=some (.array len e))(hn:BI P e=some n)(aJ:Et P e=some b){cs:List Aa}{x:Value}(hx:Bv γ (.agg cs) x){k:IntKind}{i:Int}{j:Nat}
  (hi:Lx i len=some j) {u:Aa} (h:Ez cs (j*n) b=some u):∃v,(Instr.index t x (.int k i)).run P w= .ok v w/\Bv γ u v:=by
 obtain⟨us,rfl,hr,h1c⟩:=hx;obtain⟨f,d,c⟩:=OF hi;obtain⟨v,p,q⟩:=Yw (w:=w) aJ hr h1c h;exact⟨v,by simp[Instr.index,asIntOf,run_underlying ht,f,d,C8 hn,c,p],q⟩
def UI{t:TypeId}(ht:P.underlying t=some .string){s:Au}{k:IntKind}{i:Int}{b:UInt8}(h0:0<=i)(h:s[i.toNat]?=some b):
  (Instr.index t (.string ⟨⟨s⟩⟩) (.int k i)).run P w= .ok (.int .u8 b.toNat) w:=by
 obtain⟨hlt,hb⟩:=Ai.1 h;have e:(⟨⟨s⟩⟩:ByteArray)[i.toNat]?=some b:=by rw[ByteArray.getElem?_lt' _ _ (show i.toNat<(⟨⟨s⟩⟩:ByteArray).size from hlt),<-hb];rfl
 simp[Instr.index,asIntOf,run_underlying ht,h0,e]
def gR{p u:Aa}{x:Value}{n:Nat}(hx:Bv γ p x)(h:Vo p n=some u):∃a,x= .pointer (some a)/\Bv γ u (.pointer (some (a.add n))):=by
 unfold Vo at h;split at h;.rename_i cs;cases h;obtain⟨b,o,rfl,hm⟩:=hx;refine⟨_,rfl,b,o+n,?_,hm.drop n⟩;unfold Addr.add;split<;>simp_all
 .rename_i id o;cases h;obtain⟨b,hb,rfl⟩:=hx;refine⟨_,rfl,b,hb,?_⟩;unfold Addr.add;split<;>simp_all
 .cases h
def YB{t:TypeId}{f off:Nat}{c:Option Nat}(hf:GW P t f=some (off,c)){p u:Aa}{x:Value}(hx:Bv γ p x)(h:Vo p off=some u):∃v,(Instr.fieldAt t x f).run P w= .ok v w/\Bv γ u v:=by
 obtain⟨a,rfl,hu⟩:=gR hx h;refine⟨_,?_,hu⟩;unfold GW at hf;split at hf
 .rename_i fs rH;split at hf
  .rename_i fd gQ;split at hf;.rename_i n b h1 h2;cases hf;simp[Instr.fieldAt,run_underlying rH,gQ,Instr.sureAddr,fieldPlace,C8 h1]
   .cases hf
  .cases hf
 .cases hf
def bM{t e:TypeId}{n:Nat}(ht:P.underlying t=some (.slice e))(hn:BI P e=some n){s u:Aa}{x:Value}(hx:Bv γ s x){k:IntKind}{i:Int}(h:elemOf n s i=some u):
  ∃v,(Instr.indexAt t x (.int k i)).run P w= .ok v w/\Bv γ u v:=by
 have HC:P.underlying t=some (.slice (P.elem t)):=by simp[Program.elem,ht]
 have he:P.elem t=e:=by simp[Program.elem,ht]
 unfold elemOf at h;split at h
 .rename_i z Af;split at h
  .rename_i hz;subst hz;split at h
   .rename_i h0;cases hr:Af[i.toNat]? with
    |none=>rw[hr] at h;cases h
    |some row=>
     rw[hr] at h;cases h;obtain⟨ad,cap,rfl,hc,hsp,hm⟩:=hx;obtain⟨hl,zi⟩:=hm.get hr;have hlt:i<Af.length:=by have:=(Ai.1 hr).1;omega
     have bN:=L8 hsp hc Ab;generalize ad.block=b at*;generalize ad.off=o at*;subst bN;refine⟨.pointer (some ((⟨b,o,none⟩:Addr).add (i.toNat*z))),by rw[run_indexAt_slice w t _ _ _ _ _ HC,Ad ⟨h0,hlt⟩,he,C8 hn];rfl,b,o+i.toNat*z,?_,zi⟩;unfold Addr.add;split<;>simp_all
   .cases h
  .cases h
 .rename_i id off len z;split at h
  .rename_i hz;subst hz;cases hj:Lx i len with
   |none=>rw[hj] at h;cases h
   |some j=>rw[hj] at h;cases h;obtain⟨f,d,c⟩:=OF hj;subst c;obtain⟨b,cap,hb,rfl,hc,hz⟩:=hx;refine⟨.pointer (some ((⟨b,off,none⟩:Addr).add (i.toNat*z))),by rw[run_indexAt_slice w t _ _ _ _ _ HC,Ad ⟨f,d⟩,he,C8 hn];rfl,b,hb,?_⟩;unfold Addr.add;split<;>simp_all
  .cases h
 .cases h
def mN{t e:TypeId}{len n:Nat}(ht:P.underlying t=some (.array len e))(hn:BI P e=some n){p u:Aa}{x:Value}(hx:Bv γ p x){k:IntKind}{i:Int}{j:Nat}(hj:Lx i len=some j)(h:Vo p (j*n)=some u):
  ∃v,(Instr.indexAt t x (.int k i)).run P w= .ok v w/\Bv γ u v:=by
 have HC:P.underlying t=some (.array (P.arrayLen t) (P.elem t)):=by simp[Program.elem,Program.arrayLen,ht]
 have he:P.elem t=e:=by simp[Program.elem,ht]
 have hl:P.arrayLen t=len:=by simp[Program.arrayLen,ht]
 obtain⟨a,rfl,hu⟩:=gR hx h;obtain⟨d,c,b⟩:=OF hj;subst b;exact⟨_,by rw[run_indexAt_array w t _ _ _ HC,hl,Ad ⟨d,c⟩,he,C8 hn];rfl,hu⟩
def zF{t ty:TypeId}{isStr:Bool}(ht:if isStr=true then P.underlying t=some .string else∃e,P.underlying t=some (.slice e)){ts:Array TypeId}(WD:ts[0]?=some t){s u:Aa}{x:Value}(hx:Bv γ s x)(h:lenOf isStr s=some u):
  ∃v,(Builtin.len_ ts ty #[x]).run P w= .ok v w/\Bv γ u v:=by
 cases isStr with
 |true=>
  replace ht:P.underlying t=some .string:=ht;unfold lenOf at h;split at h<;>first|cases h;done|skip
  simp only[BE] at h;cases h;rw[Mc hx];refine⟨_,by simp[Builtin.len_,WD,run_underlying ht];rfl,rfl⟩
 |false=>
  obtain⟨e,ht⟩:∃e,P.underlying t=some (.slice e):=ht;unfold lenOf at h;split at h;.cases h;obtain⟨ad,cap,rfl,_⟩:=hx;exact⟨_,by simp[Builtin.len_,WD,run_underlying ht];rfl,rfl⟩
  .cases h;obtain⟨b,cap,_,rfl,_⟩:=hx;exact⟨_,by simp[Builtin.len_,WD,run_underlying ht];rfl,rfl⟩
  .cases h;rw[show x= .slice none 0 0 from hx];exact⟨_,by simp[Builtin.len_,WD,run_underlying ht];rfl,rfl⟩
  .cases h;obtain⟨b,rfl⟩:=hx;exact⟨_,by simp[Builtin.len_,WD,run_underlying ht];rfl,rfl⟩
  .cases h
  .cases h
def zG{vs:List Aa}{x:Value}(hx:Bv γ (.tuple vs) x){i:Nat}{u:Aa}(h:vs[i]?=some u):∃v,(Instr.extract x i).run P w= .ok v w/\Bv γ u v:=by
 obtain⟨us,rfl,hr⟩:=hx;obtain⟨v,hv,q⟩:=hr.get h;exact⟨v,by
  have:us[i]?=some v:=by simpa using hv
  simp[Instr.extract,this],q⟩
end
end Go.Am
end
section
namespace Go.Am
open Go
section
variable{P:Program}{γ:Gh}{w:World}
def Md{n:Int}{top j:Nat}(h:Fq n top=some j):0<=n/\n<=top/\n.toNat=j:=by
 unfold Fq at h;split at h;.rename_i hc;cases h;exact⟨hc.1,hc.2,rfl⟩
 .cases h
def I5{lo hi:Option Value}{as:List Aa}{len cap l h:Nat}{isSlice:Bool}(hb:DO lo.isSome hi.isSome len as=some (l,h))(hr:AQ γ as (lo.toList++hi.toList))(hc:len<=cap):
  (Instr.sliceBounds isSlice len cap lo hi none).run P w= .ok (l,h,cap) w/\l<=h/\h<=len:=by
 cases lo<;>cases hi<;>simp only[Option.isSome,DO] at hb
 .split at hb;.cases hb;exact⟨by simp[Instr.sliceBounds],AZ _,Ae _⟩
  .cases hb
 .rename_i hv;split at hb
  .rename_i k h';cases b:Fq h' len with
   |none=>rw[b] at hb;cases hb
   |some j=>rw[b] at hb;cases hb;obtain⟨d,f,c⟩:=Md b;obtain⟨_,e,hx⟩:=hr.one;cases e;rw[DT hx];refine⟨?_,AZ _,Ab⟩;have:h'<=(cap:Int):=Ab;simp[Instr.sliceBounds,run_sliceBound,d,this,c]
  .cases hb
 .rename_i o;split at hb
  .rename_i k l';cases b:Fq l' len with
   |none=>rw[b] at hb;cases hb
   |some j=>rw[b] at hb;cases hb;obtain⟨d,f,c⟩:=Md b;obtain⟨_,e,hx⟩:=hr.one;cases e;rw[DT hx];refine⟨?_,Ab,Ae _⟩;simp[Instr.sliceBounds,run_sliceBound,d,f,c]
  .cases hb
 .rename_i o hv;split at hb
  .rename_i k l' k' h';cases b:Fq h' len with
   |none=>rw[b] at hb;cases hb
   |some j=>
    rw[b] at hb;simp only[BZ] at hb;cases gy:Fq l' j with
    |none=>rw[gy] at hb;cases hb
    |some i=>rw[gy] at hb;cases hb;obtain⟨d,f,c⟩:=Md b;obtain⟨n,m,g⟩:=Md gy;obtain⟨_,_,e,hx,hy⟩:=hr.bL;cases e;rw[DT hx,DT hy];refine⟨?_,Ab,Ab⟩;have:h'<=(cap:Int):=Ab;simp[Instr.sliceBounds,run_sliceBound,d,this,n,c,g,m]
  .cases hb
def DY.slice{Af:List (List Aa)}{z b o:Nat}(h:DY γ Af z b o)(l k:Nat):DY γ ((Af.take k).drop l) z b (o+l*z):=by
 refine DY.FX λi r hi=>?_;rw[Ci,B2] at hi;split at hi;.obtain⟨p,q⟩:=h.get hi;exact⟨p,by rw[show o+l*z+i*z=o+(l+i)*z by rw[Bp];omega];exact q⟩
 .cases hi
def zH{t:TypeId}{isStr:Bool}{size:Nat}(ht:if isStr=true then P.underlying t=some .string else∃e,P.underlying t=some (.slice e)/\BI P e=some size){s u:Aa}{x:Value}(hx:Bv γ s x){as:List Aa}{lo hi:Option Value}
  (hr:AQ γ as (lo.toList++hi.toList)) (h:J3 size isStr lo.isSome hi.isSome s as=some u):
  ∃v,(Instr.sliceAt t x lo hi none).run P w= .ok v w/\Bv γ u v:=by
 unfold J3 at h;split at h
 .split at h
  .rename_i s N5;subst N5;replace ht:P.underlying t=some .string:=ht;cases hb:DO lo.isSome hi.isSome s.length as with
   |none=>rw[hb] at h;cases h
   |some d=>
    obtain⟨l,k⟩:=d;rw[hb] at h;cases h;obtain⟨c,g,f⟩:=I5 (P:=P) (w:=w) (isSlice:=false) hb hr (Ae _);rw[Mc hx,run_sliceAt_string w t _ _ _ _ ht];refine⟨.string ((⟨⟨s⟩⟩:ByteArray).extract l k),?_,?_⟩;.have e:(⟨⟨s⟩⟩:ByteArray).size=s.length:=rfl;simp only[Instr.slice,Sem.run_bind,run_underlying ht,Result.andThen_ok];simp only[e,c,Option.isSome,Dd,EX,Sem.run_bind,Sem.run_pure,Result.andThen_ok]
    .show Value.string _=Value.string _;congr 1
     apply ByteArray.ext;apply Fw;simp[ByteArray.data_extract,Gv,List.drop_take]
  .cases h
 .rename_i z Af;split at h
  .rename_i hc;obtain⟨rfl,rfl⟩:=hc;obtain⟨e,ht,hn⟩:∃e,P.underlying t=some (.slice e)/\BI P e=some z:=ht;have HC:P.underlying t=some (.slice (P.elem t)):=by simp[Program.elem,ht]
   have he:P.elem t=e:=by simp[Program.elem,ht]
   obtain⟨ad,cap,rfl,hc,hsp,hm⟩:=hx;cases hb:DO lo.isSome hi.isSome Af.length as with
   |none=>rw[hb] at h;cases h
   |some d=>
    obtain⟨l,k⟩:=d;rw[hb] at h;cases h;obtain⟨c,g,f⟩:=I5 (P:=P) (w:=w) (isSlice:=true) hb hr hc;rw[run_sliceAt_slice w t _ _ _ _ HC,run_slice_any w t _ _ _ HC,c,he,Result.andThen_ok,C8 hn];refine⟨_,rfl,?_⟩;show Bv γ (.sl z ((Af.take k).drop l)) (.slice (if cap=l then some ad else Option.map (λq:Addr=>q.add (l*z)) (some ad)) (k-l) (cap-l));have hlen:((Af.take k).drop l).length=k-l:=Ew;by_cases hcl:cap=l;.have:(Af.take k).drop l=[]:=B4 Ab;rw[this];simp only[hcl,BE];exact⟨ad,l-l,Ew,Av,.inr Ab,trivial⟩
    .rw[Ac hcl];have bN:ad=⟨ad.block,ad.off,none⟩:=by
      rcases hsp with hsp|hsp
      .cases ad;simp_all
      .omega
     generalize ad.block=b at*;generalize ad.off=o at*;subst bN;refine⟨⟨b,o+l*z,none⟩,cap-l,?_,Ab,.inl rfl,hm.slice l k⟩;rw[hlen];simp only[BO];unfold Addr.add;split<;>simp_all
  .cases h
 .rename_i id off n z;split at h
  .rename_i hc;obtain⟨rfl,rfl⟩:=hc;obtain⟨e,ht,hn⟩:∃e,P.underlying t=some (.slice e)/\BI P e=some z:=ht;have HC:P.underlying t=some (.slice (P.elem t)):=by simp[Program.elem,ht]
   have he:P.elem t=e:=by simp[Program.elem,ht]
   obtain⟨b,cap,zj,rfl,hc,hz,hsz⟩:=hx;cases hb:DO lo.isSome hi.isSome n as with
   |none=>rw[hb] at h;cases h
   |some d=>
    obtain⟨l,k⟩:=d;rw[hb] at h;simp only[BZ] at h;split at h
    .rename_i YC;cases h;obtain⟨c,g,f⟩:=I5 (P:=P) (w:=w) (isSlice:=true) hb hr hc;rw[run_sliceAt_slice w t _ _ _ _ HC,run_slice_any w t _ _ _ HC,c,he,Result.andThen_ok,C8 hn];refine⟨_,rfl,b,cap-l,zj,?_,Ab,⟨hz.1,Bj (Nat.sub_le _ _) hz.2⟩,?_⟩;.show Value.slice (if cap=l then some ⟨b,off,none⟩ else Option.map (λq:Addr=>q.add (l*z)) (some ⟨b,off,none⟩)) (k-l) (cap-l)=_;rw[Ac Ab];simp only[BO];unfold Addr.add;split<;>simp_all
     .rw[hsz,O1,<-Bp,aAX Ab]
    .rename_i YC;cases h;obtain⟨c,g,f⟩:=I5 (P:=P) (w:=w) (isSlice:=true) hb hr hc;rw[run_sliceAt_slice w t _ _ _ _ HC,run_slice_any w t _ _ _ HC,c,he,Result.andThen_ok,C8 hn];have Vw:k-l=0:=Ab;by_cases hcl:cap=l;.refine⟨_,rfl,⟨b,off,none⟩,cap-l,?_,Av,.inl rfl,trivial⟩;show Value.slice (if cap=l then some ⟨b,off,none⟩ else Option.map (λq:Addr=>q.add (l*z)) (some ⟨b,off,none⟩)) (k-l) (cap-l)=_;rw[Ad hcl,Vw];rfl
     .refine⟨_,rfl,(Addr.mk b off none).add (l*z),cap-l,?_,Av,.inl ?_,trivial⟩;.show Value.slice (if cap=l then some ⟨b,off,none⟩ else Option.map (λq:Addr=>q.add (l*z)) (some ⟨b,off,none⟩)) (k-l) (cap-l)=_;rw[Ac hcl,Vw];rfl
      .unfold Addr.add;split<;>simp_all
  .cases h
 .split at h;.cases h
  .rename_i N5;have N5:isStr=false:=by simpa using N5
   subst N5;obtain⟨e,ht,hn⟩:∃e,P.underlying t=some (.slice e)/\BI P e=some size:=ht;have HC:P.underlying t=some (.slice (P.elem t)):=by simp[Program.elem,ht]
   have he:P.elem t=e:=by simp[Program.elem,ht]
   rw[show x= .slice none 0 0 from hx];cases hb:DO lo.isSome hi.isSome 0 as with
   |none=>rw[hb] at h;cases h
   |some d=>obtain⟨l,k⟩:=d;rw[hb] at h;cases h;obtain⟨c,g,f⟩:=I5 (P:=P) (w:=w) (isSlice:=true) hb hr (Ae _);rw[run_sliceAt_slice w t _ _ _ _ HC,run_slice_any w t _ _ _ HC,c,he,Result.andThen_ok,C8 hn];refine⟨_,rfl,?_⟩;have:l=0:=Ab;subst this;have:k=0:=Ab;subst this;rfl
 .cases h
end
end Go.Am
end
section
namespace Go.Am
open Go
section
variable{P:Program}{γ:Gh}{w:World}
def Ge{a:Aa}{v:Value}(h:Bv γ a v)(hn:0<a.cells.length):AQ γ a.cells v.cells.toList/\∀u∈v.cells.toList,u.oneCell'=true:=by
 cases a with
 |agg cs=>obtain⟨us,rfl,p,q⟩:=h;exact⟨p,q⟩
 |tuple vs=>exact absurd hn (by simp[Aa.cells])
 |bool b=>rw[show v=_ from h];exact⟨⟨_,[],rfl,rfl,rfl⟩,OG⟩
 |int k n=>rw[show v=_ from h];exact⟨⟨_,[],rfl,rfl,rfl⟩,OG⟩
 |str s=>rw[show v=_ from h];exact⟨⟨_,[],rfl,rfl,rfl⟩,OG⟩
 |slnil=>rw[show v=_ from h];exact⟨⟨_,[],rfl,rfl,rfl⟩,OG⟩
 |Fb z=>have h0:=h;obtain⟨b,rfl⟩:=h;exact⟨⟨_,[],rfl,h0,rfl⟩,OG⟩
 |nilFunc=>rw[show v=_ from h];exact⟨⟨_,[],rfl,rfl,rfl⟩,OG⟩
 |nilIface=>rw[show v=_ from h];exact⟨⟨_,[],rfl,rfl,rfl⟩,OG⟩
 |ptr p=>
  have h0:=h;cases p with
  |none=>rw[show v=_ from h];exact⟨⟨_,[],rfl,rfl,rfl⟩,OG⟩
  |some p=>obtain⟨i,o⟩:=p;obtain⟨b,_,rfl⟩:=h;exact⟨⟨_,[],rfl,h0,rfl⟩,OG⟩
 |B3 cs=>have h0:=h;obtain⟨b,o,rfl,_⟩:=h;exact⟨⟨_,[],rfl,h0,rfl⟩,OG⟩
 |sl z Af=>have h0:=h;obtain⟨ad,cap,rfl,_⟩:=h;exact⟨⟨_,[],rfl,h0,rfl⟩,OG⟩
 |CI id off len z=>have h0:=h;obtain⟨b,cap,_,rfl,_⟩:=h;exact⟨⟨_,[],rfl,h0,rfl⟩,OG⟩
 |map m=>
  have h0:=h;cases m with
  |none=>rw[show v=_ from h];exact⟨⟨_,[],rfl,rfl,rfl⟩,OG⟩
  |some id=>obtain⟨b,_,rfl⟩:=h;exact⟨⟨_,[],rfl,h0,rfl⟩,OG⟩
 |func fn f c=>have h0:=h;obtain⟨fs,cs,rfl,_⟩:=h;exact⟨⟨_,[],rfl,h0,rfl⟩,OG⟩
 |iface t a=>have h0:=h;obtain⟨u,rfl,_⟩:=h;exact⟨⟨_,[],rfl,h0,rfl⟩,OG⟩
def Me:∀(vs:List Value) (off j:Nat) (cells:Array Value),off+j+vs.length<=cells.size->
  (vs.zipIdx j).foldl (λcs (c,i)=>cs.setIfInBounds (off+i) c) cells=(cells.toList.take (off+j)++vs++cells.toList.drop (off+j+vs.length)).toArray
 |[],off,j,cells,h=>Av
 |v::vs,off,j,cells,h=>by
  simp only[gA,p9];rw[Me vs off (j+1) _ (by simp at h⊢;omega)];simp only[AO] at h;have hk:off+j<cells.toList.length:=Ew;have e0:(cells.setIfInBounds (off+j) v).toList=cells.toList.set (off+j) v:=Av;have d:(cells.toList.set (off+j) v).take (off+j+1)=cells.toList.take (off+j)++[v]:=by rw[List.take_add_one,Vi (Ae _),AJ hk];rfl
  have b:(cells.toList.set (off+j) v).drop (off+j+1+vs.length)=cells.toList.drop (off+j+1+vs.length):=aAY Ab;rw[e0,(Ab:off+(j+1)=off+j+1),d,b];rw[(Ew:off+j+(v::vs).length=off+j+1+vs.length)];simp
def SY{place:Nat->Option (Nat×Nat)}:∀{places:List (Nat×Nat)} {as:List Aa} {parts:List (Nat×Value)} {cs:List Aa} {us:Array Value} {FU:List Aa},Bl cs (places.zip as)=some FU->places.length=as.length->
  parts.map (λp=>place p.1)=places.map some->AQ γ as (parts.map (·.2))->AQ γ cs us.toList->(∀u∈us.toList,u.oneCell'=true)->
  ∃C4,Instr.fill place us parts=some C4/\AQ γ FU C4.toList/\∀u∈C4.toList,u.oneCell'=true
 |[],as,parts,cs,us,FU,h,hl,hp,ha,hr,h1=>by
  have:parts=[]:=by simpa using hp
  subst this;simp only[List.zip_nil_left,Bl] at h;cases h;exact⟨us,rfl,hr,h1⟩
 |(off,size)::places,[],parts,cs,us,FU,h,hl,hp,ha,hr,h1=>by simp at hl
 |(off,size)::places,a::as,[],cs,us,FU,h,hl,hp,ha,hr,h1=>by simp at hp
 |(off,size)::places,a::as,(i,v)::parts,cs,us,FU,h,hl,hp,ha,hr,h1=>by
  simp only[aEu,Bl] at h;split at h
  .rename_i hc;obtain⟨n,m,l⟩:=hc;simp only[Be,EM] at hp;obtain⟨_,_,e,g_,nu⟩:=ha.Km;simp only[Be,EM] at e;obtain⟨k,j⟩:=e;subst k;subst j;obtain⟨b,f⟩:=Ge g_ Ab;have hsz:v.cells.size=size:=by have:=b.length;simp at this;omega
   have Vq:us.size=cs.length:=by have:=hr.length;simpa using this
   have hf:=Me v.cells.toList off 0 us (by simp[hsz];omega);obtain⟨C4,d,r2,c⟩:=SY (place:=place) (us:=(us.toList.take off++v.cells.toList++us.toList.drop (off+size)).toArray) h (by simpa using hl) hp.2 nu
    (by simpa using((hr.take off).append b).append (hr.drop (off+size)))
    (λu hu=>by
     simp only[An] at hu;rcases hu with(hu|hu)|hu
     .exact h1 u (AS hu)
     .exact f u hu
     .exact h1 u (Bc hu))
   refine⟨C4,?_,r2,c⟩;rw[Instr.fill];simp only[hp.1];rw[Ac (by simp[hsz];omega)];rw[<-d];congr 1
   have g:v.cells.toList.length=size:=by simpa using hsz
   rw[<-aEv,aAZ,hf];simp[g]
  .cases h
def UJ{v:Value}{a:Aa}(h:Jl v=some a):AQ γ a.cells v.cells.toList/\∀u∈v.cells.toList,u.oneCell'=true:=by
 have hr:=EA (γ:=γ) h;unfold Jl at h;split at h
 .rename_i cs;cases hs:Ke cs.toList with
  |none=>rw[hs] at h;cases h
  |some as=>rw[hs] at h;cases h;exact Lj hs
 .refine Ge hr ?_;unfold MW at h;split at h<;>first|(cases h;simp[Aa.cells];done)|skip
  .split at h;.cases h;simp[Aa.cells]
   .cases h
  .cases h
def MD{t:TypeId}{fs:Array Field}(hu:P.underlying t=some (.struct fs)){place:Nat->Option (Nat×Nat)}(mO:∀(i:Nat) (f:Field) (n:Nat),fs[i]?=some f->BI P f.type=some n->place i=some (f.offset,n)):
  ∀{parts:List (Nat×Operand)} {ps:List (Nat×Nat)},Iu P t parts=some ps->parts.map (λp=>place p.1)=ps.map some
 |[],ps,h=>by cases h;rfl
 |(i,x)::rest,ps,h=>by
  simp only[Iu,hu] at h;split at h
  .rename_i f hf;split at h;.rename_i n r h1 h2;cases h;simp[mO i f n hf h1,MD hu mO h2]
   .cases h
  .cases h
def M6{t e:TypeId}{len n:Nat}(hu:P.underlying t=some (.array len e))(hn:BI P e=some n):
  ∀{parts:List (Nat×Operand)} {ps:List (Nat×Nat)},Iu P t parts=some ps->parts.map (λp=>some (p.1*n,n))=ps.map some
 |[],ps,h=>by cases h;rfl
 |(i,x)::rest,ps,h=>by
  simp only[Iu,hu] at h;split at h
  .split at h;.rename_i n' r h1 h2;cases h;rw[hn] at h1;cases h1;simp[M6 hu hn h2]
   .cases h
  .cases h
def Rj:∀(fs:List Field),(fs.all λf=>(BI P f.type).isSome)=true->∃places,fs.mapM (λf=>(P.info? f.type).map λi=>(f.offset,i.size))=some places/\
  ∀(i:Nat) (f:Field) (n:Nat),fs[i]?=some f->BI P f.type=some n->places[i]?=some (f.offset,n)
 |[],_=>⟨[],rfl,Av⟩
 |f::fs,h=>by
  simp only[Ws,Bf] at h;obtain⟨rest,h1,h2⟩:=Rj fs h.2;cases hi:P.info? f.type with
  |none=>simp[BI,hi] at h
  |some b=>
   refine⟨(f.offset,b.size)::rest,by simp[hi,h1],λi g n hg hn=>?_⟩;cases i with
   |zero=>simp at hg;subst hg;simp[BI,hi] at hn;simp[hn]
   |succ i=>simpa using h2 i g n (by simpa using hg) hn
def mP{t:TypeId}{z:Aa}{parts:Array (Nat×Operand)}{ps:List (Nat×Nat)}{O:Operand->Value}(hz:FW P t=some z)(hp:Iu P t parts.toList=some ps)(hb:Sk P t=true){as:List Aa}
  (ha:AQ γ as ((parts.toList.map (·.2)).map O)) {u:Aa} (h:Ax (.B0 z.cells ps) as=some u):∃v,(Instr.build t (parts.map λ(i,x)=>(i,O x))).run P w= .ok v w/\Bv γ u v:=by
 simp only[Ax] at h;split at h
 .rename_i hl;cases hf:Bl z.cells (ps.zip as) with
  |none=>rw[hf] at h;cases h
  |some cs=>
   rw[hf] at h;cases h;unfold FW at hz;cases hi:P.info? t with
   |none=>rw[hi] at hz;cases hz
   |some d=>
    cases UG:d.zero with
    |none=>rw[hi] at hz;simp[UG] at hz
    |some k=>
     rw[hi] at hz;simp only[BZ,UG] at hz;obtain⟨c,z2⟩:=UJ (γ:=γ) hz;have hparts:((parts.map λ(i,x)=>(i,O x)).toList.map (·.2))=(parts.toList.map (·.2)).map O:=Av;unfold Sk at hb;split at hb
     .rename_i fs hu;obtain⟨places,j,g⟩:=Rj fs.toList hb;obtain⟨C4,f1,f2,f3⟩:=SY (place:=λi=>places.toArray[i]?) (parts:=(parts.map λ(i,x)=>(i,O x)).toList) hf hl
       (by have:=MD hu (place:=λi=>places.toArray[i]?) (λi f n h1 h2=>by simpa using g i f n (by simpa using h1) h2) hp;rw[<-this];simp) (by rw[hparts];exact ha) c z2
      exact⟨.agg C4,run_build w t _ _ (by unfold Program.built;simp only[hi,hu,UG,j];exact f1),C4,rfl,f2,f3⟩
     .rename_i len e hu;cases he:P.info? e with
      |none=>simp[BI,he] at hb
      |some b=>
       obtain⟨C4,f1,f2,f3⟩:=SY (place:=λi=>some (i*b.size,b.size)) (parts:=(parts.map λ(i,x)=>(i,O x)).toList) hf hl
        (by have:=M6 hu (n:=b.size) (by simp[BI,he]) hp;rw[<-this];simp) (by rw[hparts];exact ha) c z2
       exact⟨.agg C4,run_build w t _ _ (by unfold Program.built;simp only[hi,hu,UG,he];exact f1),C4,rfl,f2,f3⟩
     .cases hb
 .cases h
end
end Go.Am
end
section
namespace Go.Am
open Go
def UA.still:UA->Bool
 | .append _ _| .Cb _| .Fb _| .zc| .UF=>false
 |_=>true
def Gf{o:qQ}{dst:Option Nat}{x:Option (List Aa)}{r:D3}(h:Qr o dst x=some r):∃args,x=some args/\r= .mem o args dst:=by
 unfold Qr at h;split at h;.cases h;exact⟨_,rfl,rfl⟩
 .cases h
def Jw{o:qQ}{dst:Option Nat}{x:Option (List Aa)}{p:UA}{args:List Aa}{d:Option Nat}{BB:Bool}{b:Option (Nat×Aa)}:¬Qr o dst x=some (.op p args d BB b):=λh=>by obtain⟨_,_,e⟩:=Gf h;cases e
def Dj{p:UA}{dst:Option Nat}{x:Option (List Aa)}{r:D3}(h:Qq p dst x=some r):∃args,x=some args/\r= .op p args dst false none:=by
 cases x with
 |none=>cases h
 |some args=>cases h;exact⟨args,rfl,rfl⟩
section
variable{C:Fo}{γ0 γ:Gh}{w0 w:World}{Z:Nat->Nat}{U:Bu}{h:Ah}{a:Act}{fid:FuncId}{ops:List Oper}
def GK(P:Program)(γ:Gh)(a:Act)(o:Oper)(w:World)(p:UA)(args:List Aa):Prop:=
 ∀u,Ax p args=some u->∃v,(execOp a.eval o).run P w= .ok (.value v) w/\Bv γ u v
def Ec{P:Program}{s:Sem Value}{v:Value}(hs:s.run P w= .ok v w):(do pure (Next.value (<-s)):Sem Next).run P w= .ok (.value v) w:=by simp[hs]
def bO{o:Oper}{c x y:Operand}(ho:o.op= .pick c x y)(hr:CF C γ0 w0 γ Z U h a w){args:List Aa}(ha:A9 C U [c,x,y]=some args):GK C.P γ a o w .pick args:=by
 intro u hu;simp only[Ax] at hu;split at hu;.rename_i b p q;cases hu;obtain⟨_,_,_,e,h1,h2,h3⟩:=(Di hr ha).Vv;simp only[Be,DJ,EM] at e;obtain⟨g,f,d,_⟩:=e;rw[<-g] at h1;rw[<-f] at h2;rw[<-d] at h3;refine⟨if b then a.eval x else a.eval y,?_,by cases b<;>simpa⟩;simp[execOp,ho,Pn h1,asBool]
 .cases hu
def mQ{o:Oper}{op:BinOp}{t:TypeId}{x y:Operand}{p:UA}(hp:NL C.P op t=some p)(he:execOp a.eval o=(do pure (Next.value (<-(do eqGuard op t x y (a.eval x) (a.eval y);binOp op t (a.eval x) (a.eval y):Sem Value)))))
  (hr:CF C γ0 w0 γ Z U h a w) {args:List Aa} (ha:A9 C U [x,y]=some args):GK C.P γ a o w p args:=by
 intro u hu;obtain⟨v,c,b⟩:=YA (w:=w) hp x y (Di hr ha) hu;exact⟨v,by rw[he];exact Ec c,b⟩
def FF(hr:CF C γ0 w0 γ Z U h a w){x:Operand}{args:List Aa}(ha:A9 C U [x]=some args):∃u,args=[u]/\Bv γ u (a.eval x):=by
 have h1:=Di hr ha;cases args with
 |nil=>cases h1
 |cons u us=>
  obtain⟨_,_,e,h2,h3⟩:=h1.Km;cases e;cases us with
  |nil=>exact⟨u,rfl,h2⟩
  |cons _ _=>obtain⟨_,_,e,_⟩:=h3.Km;cases e
def Ei(hr:CF C γ0 w0 γ Z U h a w){x y:Operand}{args:List Aa}(ha:A9 C U [x,y]=some args):∃u v,args=[u,v]/\Bv γ u (a.eval x)/\Bv γ v (a.eval y):=by
 have h1:=Di hr ha;cases args with
 |nil=>cases h1
 |cons u us=>
  obtain⟨_,_,e,h2,h3⟩:=h1.Km;cases e;cases us with
  |nil=>cases h3
  |cons v vs=>
   obtain⟨_,_,e,c,b⟩:=h3.Km;cases e;cases vs with
   |nil=>exact⟨u,v,rfl,h2,c⟩
   |cons _ _=>obtain⟨_,_,e,_⟩:=b.Km;cases e
def rI{o:Oper}{op:UnOp}{x:Operand}(he:execOp a.eval o=(do pure (Next.value (<-Op.unary op (a.eval x)))))
  (hr:CF C γ0 w0 γ Z U h a w) {args:List Aa} (ha:A9 C U [x]=some args):GK C.P γ a o w (.un op) args:=by
 intro u hu;obtain⟨v,rfl,h1⟩:=FF hr ha;simp only[Ax] at hu;obtain⟨r,c,b⟩:=np (P:=C.P) (w:=w) h1 hu;exact⟨r,by rw[he];exact Ec c,b⟩
def bP{o:Oper}{src dst:TypeId}{k l:IntKind}{x:Operand}(hs:C.P.underlying src=some (.int l))(hd:C.P.underlying dst=some (.int k))(he:execOp a.eval o=(do pure (Next.value (<-convert src dst (a.eval x)))))
  (hr:CF C γ0 w0 γ Z U h a w) {args:List Aa} (ha:A9 C U [x]=some args):GK C.P γ a o w (.conv k) args:=by
 intro u hu;obtain⟨v,rfl,h1⟩:=FF hr ha;simp only[Ax] at hu;split at hu;.rename_i e;cases e;cases hu;rw[DT h1] at he;exact⟨_,by rw[he];exact Ec (WB hs hd),rfl⟩
 .cases hu
def mR{o:Oper}{src dst:TypeId}{l:IntKind}{x:Operand}(hs:C.P.underlying src=some (.int l))(hd:C.P.underlying dst=some .string)(he:execOp a.eval o=(do pure (Next.value (<-convert src dst (a.eval x)))))
  (hr:CF C γ0 w0 γ Z U h a w) {args:List Aa} (ha:A9 C U [x]=some args):GK C.P γ a o w .i2s args:=by
 intro u hu;obtain⟨v,rfl,h1⟩:=FF hr ha;simp only[Ax] at hu;split at hu;.rename_i e;cases e;cases hu;rw[DT h1] at he;exact⟨_,by rw[he];exact Ec (WC hs hd),rfl⟩
 .cases hu
def YD{o:Oper}{t:TypeId}{x:Operand}{f off:Nat}{b:Option Nat}(hf:GW C.P t f=some (off,b))(he:execOp a.eval o=(do pure (Next.value (<-Instr.field t (a.eval x) f))))
  (hr:CF C γ0 w0 γ Z U h a w) {args:List Aa} (ha:A9 C U [x]=some args):GK C.P γ a o w (.part off b) args:=by
 intro u hu;obtain⟨v,rfl,h1⟩:=FF hr ha;simp only[Ax] at hu;split at hu;.rename_i e;cases e;obtain⟨r,d,c⟩:=mM (w:=w) hf h1 hu;exact⟨r,by rw[he];exact Ec d,c⟩
 .cases hu
def RW{o:Oper}{t:TypeId}{x:Operand}{f off:Nat}{b:Option Nat}(hf:GW C.P t f=some (off,b))(he:execOp a.eval o=(do pure (Next.value (<-Instr.fieldAt t (a.eval x) f))))
  (hr:CF C γ0 w0 γ Z U h a w) {args:List Aa} (ha:A9 C U [x]=some args):GK C.P γ a o w (.FB off) args:=by
 intro u hu;obtain⟨v,rfl,h1⟩:=FF hr ha;simp only[Ax] at hu;obtain⟨r,d,c⟩:=YB (w:=w) hf h1 hu;exact⟨r,by rw[he];exact Ec d,c⟩
def mS{o:Oper}{x:Operand}{i:Nat}(he:execOp a.eval o=(do pure (Next.value (<-Instr.extract (a.eval x) i))))
  (hr:CF C γ0 w0 γ Z U h a w) {args:List Aa} (ha:A9 C U [x]=some args):GK C.P γ a o w (.ext i) args:=by
 intro u hu;obtain⟨v,rfl,h1⟩:=FF hr ha;simp only[Ax] at hu;split at hu;.rename_i e;cases e;obtain⟨r,c,b⟩:=zG (P:=C.P) (w:=w) h1 hu;exact⟨r,by rw[he];exact Ec c,b⟩
 .cases hu
def RX{o:Oper}{t:TypeId}{x y:Operand}(ht:C.P.underlying t=some .string)(he:execOp a.eval o=(do pure (Next.value (<-Instr.index t (a.eval x) (a.eval y)))))
  (hr:CF C γ0 w0 γ Z U h a w) {args:List Aa} (ha:A9 C U [x,y]=some args):GK C.P γ a o w .Yo args:=by
 intro u hu;obtain⟨p,q,rfl,h1,h2⟩:=Ei hr ha;simp only[Ax] at hu;split at hu
 .rename_i e;cases e;split at hu
  .rename_i s k i h0;cases hb:s[i.toNat]? with
   |none=>rw[hb] at hu;cases hu
   |some b=>rw[hb] at hu;cases hu;rw[Mc h1,DT h2] at he;exact⟨_,by rw[he];exact Ec (UI ht h0 hb),rfl⟩
  .cases hu
 .cases hu
def RY{o:Oper}{t e:TypeId}{len n:Nat}{b:Option Nat}{x y:Operand}(ht:C.P.underlying t=some (.array len e))(hn:BI C.P e=some n)(aJ:Et C.P e=some b)(he:execOp a.eval o=(do pure (Next.value (<-Instr.index t (a.eval x) (a.eval y)))))
  (hr:CF C γ0 w0 γ Z U h a w) {args:List Aa} (ha:A9 C U [x,y]=some args):GK C.P γ a o w (.mj len n b) args:=by
 intro u hu;obtain⟨p,q,rfl,h1,h2⟩:=Ei hr ha;simp only[Ax] at hu;split at hu
 .rename_i e;cases e;rename_i cs k i;cases hb:Lx i len with
  |none=>rw[hb] at hu;cases hu
  |some j=>rw[hb] at hu;simp only[BZ] at hu;rw[DT h2] at he;obtain⟨r,d,c⟩:=UH (w:=w) (k:=k) ht hn aJ h1 hb hu;exact⟨r,by rw[he];exact Ec d,c⟩
 .cases hu
def SZ{o:Oper}{t e:TypeId}{n:Nat}{x y:Operand}(ht:C.P.underlying t=some (.slice e))(hn:BI C.P e=some n)(he:execOp a.eval o=(do pure (Next.value (<-Instr.indexAt t (a.eval x) (a.eval y)))))
  (hr:CF C γ0 w0 γ Z U h a w) {args:List Aa} (ha:A9 C U [x,y]=some args):GK C.P γ a o w (.ER n) args:=by
 intro u hu;obtain⟨p,q,rfl,h1,h2⟩:=Ei hr ha;simp only[Ax] at hu;split at hu;.rename_i e;cases e;rename_i k i;rw[DT h2] at he;obtain⟨r,c,b⟩:=bM (w:=w) (k:=k) ht hn h1 hu;exact⟨r,by rw[he];exact Ec c,b⟩
 .cases hu
def UK{o:Oper}{t e:TypeId}{len n:Nat}{x y:Operand}(ht:C.P.underlying t=some (.array len e))(hn:BI C.P e=some n)(he:execOp a.eval o=(do pure (Next.value (<-Instr.indexAt t (a.eval x) (a.eval y)))))
  (hr:CF C γ0 w0 γ Z U h a w) {args:List Aa} (ha:A9 C U [x,y]=some args):GK C.P γ a o w (.SB len n) args:=by
 intro u hu;obtain⟨p,q,rfl,h1,h2⟩:=Ei hr ha;simp only[Ax] at hu;split at hu
 .rename_i e;cases e;rename_i k i;cases hb:Lx i len with
  |none=>rw[hb] at hu;cases hu
  |some j=>rw[hb] at hu;simp only[BZ] at hu;rw[DT h2] at he;obtain⟨r,c,b⟩:=mN (w:=w) (k:=k) ht hn h1 hb hu;exact⟨r,by rw[he];exact Ec c,b⟩
 .cases hu
def Rk{o:Oper}{t:TypeId}{x:Operand}{lo hi:Option Operand}{isStr:Bool}{size:Nat}(ht:if isStr=true then C.P.underlying t=some .string else∃e,C.P.underlying t=some (.slice e)/\BI C.P e=some size)
  (he:execOp a.eval o=(do pure (Next.value (<-Instr.sliceAt t (a.eval x) (lo.map a.eval) (hi.map a.eval) none))))
  (hr:CF C γ0 w0 γ Z U h a w) {args:List Aa} (ha:A9 C U (x::(lo.toList++hi.toList))=some args):GK C.P γ a o w (.Qo size isStr lo.isSome hi.isSome) args:=by
 intro u hu;have h1:=Di hr ha;cases args with
 |nil=>cases h1
 |cons s as=>obtain⟨_,_,e,h2,h3⟩:=h1.Km;cases e;simp only[Ax] at hu;obtain⟨r,c,b⟩:=zH (P:=C.P) (w:=w) (lo:=lo.map a.eval) (hi:=hi.map a.eval) ht h2 (by cases lo<;>cases hi<;>simpa using h3) (by simpa using hu);exact⟨r,by rw[he];exact Ec c,b⟩
def YE{o:Oper}{t:TypeId}{parts:Array (Nat×Operand)}{z:Aa}{ps:List (Nat×Nat)}(hz:FW C.P t=some z)(hp:Iu C.P t parts.toList=some ps)(hb:Sk C.P t=true)
  (he:execOp a.eval o=(do pure (Next.value (<-Instr.build t (parts.map λ(i,x)=>(i,a.eval x))))))
  (hr:CF C γ0 w0 γ Z U h a w) {args:List Aa} (ha:A9 C U (parts.toList.map (·.2))=some args):GK C.P γ a o w (.B0 z.cells ps) args:=by
 intro u hu;obtain⟨r,c,b⟩:=mP (w:=w) hz hp hb (Di hr ha) hu;exact⟨r,by rw[he];exact Ec c,b⟩
def WE{o:Oper}{x:Operand}(ho:o.op= .nilCheck x)(hr:CF C γ0 w0 γ Z U h a w){args:List Aa}(ha:A9 C U [x]=some args):GK C.P γ a o w .JL args:=by
 intro u hu;obtain⟨v,rfl,h1⟩:=FF hr ha;simp only[Ax,Yq] at hu;split at hu;.rename_i p;cases hu;obtain⟨i,k⟩:=p;obtain⟨b,hb,hv⟩:=h1;exact⟨_,by simp only[execOp,ho,hv];rfl,b,hb,rfl⟩
 .cases hu;obtain⟨b,k,hv,hm⟩:=h1;exact⟨_,by simp only[execOp,ho,hv];rfl,b,k,rfl,hm⟩
 .cases hu;obtain⟨fs,cs,hv,p,q⟩:=h1;exact⟨_,by simp only[execOp,ho,hv];rfl,fs,cs,rfl,p,q⟩
 .cases hu
def Lk:∀{xs:List Operand} {us:List Aa},A9 C U xs=some us->us.length=xs.length
 |[],us,h=>by cases h;rfl
 |x::xs,us,h=>by
  unfold A9 at h;split at h;.rename_i u C4 h1 h2;cases h;simp[Lk h2]
  .cases h
def Mf{P:Program}{o:Oper}{c:Call}{b:Builtin}{s:Sem Value}(ho:o.op= .call c)(hc:c.callee= .builtin b)(hs:builtin b c.argTypes o.type (c.args.map λ| .const _=>true|_=>false) (c.args.map a.eval)=(do pure (Next.value (<-s)))){v:Value}
  (hv:s.run P w= .ok v w):(execOp a.eval o).run P w= .ok (.value v) w:=by
 have:execOp a.eval o=(do pure (Next.value (<-s))):=by rw[<-hs];simp only[execOp,ho,resolve,hc];rfl
 rw[this];exact Ec hv
def Vx{o:Oper}{c:Call}{t:TypeId}{isStr:Bool}(ho:o.op= .call c)(hc:c.callee= .builtin .len)(h0:c.argTypes[0]?=some t)(ht:if isStr=true then C.P.underlying t=some .string else∃e,C.P.underlying t=some (.slice e))
  (hr:CF C γ0 w0 γ Z U h a w) {args:List Aa} (ha:A9 C U c.args.toList=some args):GK C.P γ a o w (.len isStr) args:=by
 intro u hu;simp only[Ax] at hu;split at hu
 .rename_i s;have hl:=Lk ha;obtain⟨x,hx⟩:∃x,c.args.toList=[x]:=yv.1 hl.symm;rw[hx] at ha;obtain⟨_,e,h1⟩:=FF hr ha;cases e;obtain⟨r,d,b⟩:=zF (P:=C.P) (w:=w) (ty:=o.type) ht h0 h1 hu;have e:c.args.map a.eval=#[a.eval x]:=by apply Fw;simp[hx]
  exact⟨r,Mf ho hc (s:=Builtin.len_ c.argTypes o.type #[a.eval x]) (by rw[e];rfl) d,b⟩
 .cases hu
def Po{o:Oper}{c:Call}{isMax:Bool}(ho:o.op= .call c)(hc:c.callee= .builtin (if isMax then .max else .min))(hr:CF C γ0 w0 γ Z U h a w){args:List Aa}(ha:A9 C U c.args.toList=some args):GK C.P γ a o w (.JM isMax) args:=by
 intro u hu;simp only[Ax] at hu;split at hu
 .rename_i k p l q;split at hu
  .rename_i hk;subst hk;cases hu;have hl:=Lk ha;obtain⟨x,y,hx⟩:∃x y,c.args.toList=[x,y]:=by
    cases hq:c.args.toList with
    |nil=>rw[hq] at hl;simp at hl
    |cons x xs=>cases xs with
     |nil=>rw[hq] at hl;simp at hl
     |cons y ys=>cases ys with
      |nil=>exact⟨x,y,rfl⟩
      |cons _ _=>rw[hq] at hl;simp at hl
   rw[hx] at ha;obtain⟨_,_,e,h1,h2⟩:=Ei hr ha;cases e;have e:c.args.map a.eval=#[.int k p,.int k q]:=by apply Fw;simp[hx,DT h1,DT h2]
   cases isMax with
   |true=>exact⟨_,Mf ho hc (s:=Builtin.max_ c.argTypes o.type #[.int k p,.int k q]) (by rw[e];rfl) (by simp[Builtin.max_,Builtin.max2]),rfl⟩
   |false=>exact⟨_,Mf ho hc (s:=Builtin.min_ c.argTypes o.type #[.int k p,.int k q]) (by rw[e];rfl) (by simp[Builtin.min_,Builtin.min2]),rfl⟩
  .cases hu
 .cases hu
end
end Go.Am
end
section
namespace Go.Am
open Go
section
variable{C:Fo}{γ0 γ:Gh}{w0 w:World}{Z:Nat->Nat}{U:Bu}{h:Ah}{a:Act}{fid:FuncId}{ops:List Oper}
def KR{x:Operand}{d:Nat}{take:Bool}{r:D3}(h:I3 C U x d take=some r):∃ws,r= .pure ws:=by
 unfold I3 at h;split at h;.cases h;exact⟨_,rfl⟩
 .cases h;exact⟨_,rfl⟩
 .split at h;.cases h;exact⟨_,rfl⟩
  .cases hc:GX _ with
   |none=>rw[hc] at h;cases h
   |some s=>rw[hc] at h;cases h;exact⟨_,rfl⟩
 .cases hc:GX _ with
  |none=>rw[hc] at h;cases h
  |some s=>rw[hc] at h;cases h;exact⟨_,rfl⟩
 .cases h
def Vz{t:TypeId}{v:Aa}{d:Nat}{p:UA}{args:List Aa}{dst:Option Nat}{BB:Bool}{b:Option (Nat×Aa)}:Rg C fid t v d≠some (.op p args dst BB b):=by
 unfold Rg;intro h;split at h;.cases h
 .split at h;.cases h
  .split at h<;>cases h
def bQ{t:TypeId}{x:Operand}{d:Nat}{take:Bool}{p:UA}{args:List Aa}{dst:Option Nat}{BB:Bool}{b:Option (Nat×Aa)}:JO C U t x d take≠some (.op p args dst BB b):=by
 unfold JO;intro h;split at h;.cases h
 .split at h;.simp only at h;split at h<;>cases h
  .cases h
 .split at h<;>cases h
 .cases h
def YF{t:TypeId}{x y:Operand}{p:UA}{args:List Aa}{dst:Option Nat}{BB:Bool}{b:Option (Nat×Aa)}:HS C U t x y≠some (.op p args dst BB b):=by
 unfold HS;intro h;split at h;.cases h
 .split at h<;>cases h
 .cases h
def mT{o:Oper}{p:UA}{args:List Aa}{dst:Option Nat}{BB:Bool}{j:Option (Nat×Aa)}(hc:Fg C fid ops U o=some (.op p args dst BB j))(Hw:p.still=true)(hr:CF C γ0 w0 γ Z U h a w):
  GK C.P γ a o w p args/\dst=o.dst/\BB=false/\j=none:=by
 unfold Fg at hc
 split at hc
 .split at hc
  .obtain⟨ws,e⟩:=KR hc;cases e
  .cases hc
 .split at hc
  .obtain⟨ws,e⟩:=KR hc;cases e
  .cases hc
 .rename_i c x y ho
  split at hc
  .obtain⟨ws,e⟩:=KR hc;cases e
  .obtain⟨ws,e⟩:=KR hc;cases e
  .obtain⟨as,g,b⟩:=Dj hc
   cases b
   exact⟨bO ho hr g,rfl,rfl,rfl⟩
 .split at hc
  .split at hc
   .split at hc<;>cases hc
   .exact absurd hc Vz
  .cases hc
 .split at hc
  .exact absurd hc Vz
  .cases hc
 .rename_i t parts ho
  split at hc
  .rename_i z ps hz hp
   split at hc
   .rename_i hb
    obtain⟨as,g,b⟩:=Dj hc
    cases b
    exact⟨YE hz hp hb (by simp[execOp,ho]) hr g,rfl,rfl,rfl⟩
   .cases hc
  .cases hc
 .split at hc
  .split at hc
   .split at hc
    .split at hc
     .cases hc;cases Hw
     .cases hq:A9 C U _ with
      |none=>rw[hq] at hc;cases hc
      |some q=>rw[hq] at hc;cases hc;cases Hw
    .cases hc
   .cases hc
  .cases hc
 .split at hc
  .exact absurd hc bQ
  .cases hc
 .split at hc
  .exact absurd hc YF
  .cases hc
 .rename_i x ho
  split at hc
  .cases hc
  .cases hc
  .obtain⟨as,g,b⟩:=Dj hc
   cases b
   exact⟨WE ho hr g,rfl,rfl,rfl⟩
 .rename_i op t x y k ho
  split at hc
  .rename_i q hq
   obtain⟨as,g,b⟩:=Dj hc
   cases b
   exact⟨mQ hq (by simp[execOp,ho]) hr g,rfl,rfl,rfl⟩
  .cases hc
 .rename_i op t x ho
  obtain⟨as,g,b⟩:=Dj hc
  cases b
  exact⟨rI (by simp[execOp,ho]) hr g,rfl,rfl,rfl⟩
 .rename_i src aA5 x ho
  split at hc
  .cases hq:Ed C U x with
   |none=>rw[hq] at hc;cases hc
   |some q=>rw[hq] at hc;cases hc
  .split at hc
   .cases hq:Ed C U x with
    |none=>rw[hq] at hc;cases hc
    |some q=>rw[hq] at hc;cases hc
   .obtain⟨as,g,b⟩:=Dj hc
    cases b;cases Hw
  .rename_i q Qz Ya hq
   obtain⟨as,g,b⟩:=Dj hc
   cases b
   refine⟨?_,rfl,rfl,rfl⟩
   unfold SK at hq
   split at hq
   .rename_i hs hd
    cases hq
    exact bP hs hd (by simp[execOp,ho]) hr g
   .rename_i hs hd
    cases hq
    exact mR hs hd (by simp[execOp,ho]) hr g
   .cases hq
   .split at hq
    .cases hq;cases Hw
    .cases hq
   .split at hq
    .cases hq;cases Hw
    .cases hq
   .cases hq
  .cases hc
 .split at hc
  .cases hc
  .cases hc
 .cases hc
 .split at hc
  .split at hc<;>cases hc
  .cases hc
 .split at hc
  .split at hc<;>cases hc
  .cases hc
 .split at hc
  .split at hc<;>cases hc
  .cases hc
 .split at hc
  .split at hc<;>cases hc
  .cases hc
 .split at hc
  .split at hc
   .exact absurd hc Jw
   .cases hc
  .cases hc
 .split at hc
  .cases hc
  .exact absurd hc Jw
  .cases hc
 .split at hc
  .split at hc<;>first|exact absurd hc Jw|cases hc
  .cases hc
 .split at hc
  .exact absurd hc Jw
  .cases hc
 .rename_i t x lo hi ho
  split at hc
  .rename_i ht
   obtain⟨as,g,b⟩:=Dj hc
   cases b
   exact⟨Rk (isStr:=true) ht (by simp[execOp,ho]) hr g,rfl,rfl,rfl⟩
  .rename_i e ht
   split at hc
   .rename_i n hn
    split at hc
    .exact absurd hc Jw
    .obtain⟨as,g,b⟩:=Dj hc
     cases b
     exact⟨Rk (isStr:=false) ⟨e,ht,hn⟩ (by simp[execOp,ho]) hr g,rfl,rfl,rfl⟩
   .cases hc
  .cases hc
 .rename_i t x f ho
  split at hc
  .rename_i off l d hf hd
   split at hc
   .cases hc
   .cases hc
   .obtain⟨as,g,b⟩:=Dj hc
    cases b
    exact⟨RW hf (by simp[execOp,ho]) hr g,hd.symm,rfl,rfl⟩
  .cases hc
 .rename_i t x f ho
  split at hc
  .rename_i off l hf
   obtain⟨as,g,b⟩:=Dj hc
   cases b
   exact⟨YD hf (by simp[execOp,ho]) hr g,rfl,rfl,rfl⟩
  .cases hc
 .rename_i t x i ho
  split at hc
  .rename_i e ht
   split at hc
   .rename_i n hn
    obtain⟨as,g,b⟩:=Dj hc
    cases b
    exact⟨SZ ht hn (by simp[execOp,ho]) hr g,rfl,rfl,rfl⟩
   .cases hc
  .rename_i len e ht
   split at hc
   .rename_i n hn
    split at hc
    .cases hc
    .obtain⟨as,g,b⟩:=Dj hc
     cases b
     exact⟨UK ht hn (by simp[execOp,ho]) hr g,rfl,rfl,rfl⟩
   .cases hc
  .cases hc
 .rename_i t x i ho
  split at hc
  .rename_i ht
   obtain⟨as,g,b⟩:=Dj hc
   cases b
   exact⟨RX ht (by simp[execOp,ho]) hr g,rfl,rfl,rfl⟩
  .rename_i len e ht
   split at hc
   .rename_i n l hn aJ
    obtain⟨as,g,b⟩:=Dj hc
    cases b
    exact⟨RY ht hn aJ (by simp[execOp,ho]) hr g,rfl,rfl,rfl⟩
   .cases hc
  .cases hc
 .rename_i x i ho
  obtain⟨as,g,b⟩:=Dj hc
  cases b
  exact⟨mS (by simp[execOp,ho]) hr g,rfl,rfl,rfl⟩
 .rename_i c ho
  unfold OA at hc
  split at hc
  .rename_i hcl
   split at hc
   .rename_i t h0
    split at hc
    .rename_i ht
     obtain⟨as,g,b⟩:=Dj hc
     cases b
     exact⟨Vx (isStr:=true) ho hcl h0 ht hr g,rfl,rfl,rfl⟩
    .rename_i e ht
     obtain⟨as,g,b⟩:=Dj hc
     cases b
     exact⟨Vx (isStr:=false) ho hcl h0 ⟨e,ht⟩ hr g,rfl,rfl,rfl⟩
    .cases hc
   .cases hc
  .split at hc
   .split at hc
    all_goals first
     |(cases hc;done)
     | (split at hc
        . split at hc
          . split at hc
            . split at hc
              . split at hc
                . cases hc
                . split at hc
                  . cases hc
                  . cases hc; cases Hw
              . split at hc <;> cases hc
            . cases hc
          . cases hc
        . cases hc)
   .cases hc
  .split at hc
   .split at hc
    all_goals first
     |(cases hc;done)
     | (split at hc
        . exact absurd hc Jw
        . cases hc)
   .cases hc
  .split at hc
   .split at hc
    .split at hc
     .exact absurd hc Jw
     .cases hc
    .cases hc
   .cases hc
  .rename_i hcl
   split at hc
   .obtain⟨as,g,b⟩:=Dj hc
    cases b
    exact⟨Po (isMax:=true) ho hcl hr g,rfl,rfl,rfl⟩
   .cases hc
  .rename_i hcl
   split at hc
   .obtain⟨as,g,b⟩:=Dj hc
    cases b
    exact⟨Po (isMax:=false) ho hcl hr g,rfl,rfl,rfl⟩
   .cases hc
  .split at hc
   .split at hc
    .split at hc
     .exact absurd hc Jw
     .cases hc
    .cases hc
   split at hc
   .cases hq:A9 C U c.args.toList with
    |none=>rw[hq] at hc;cases hc
    |some q=>
     rw[hq] at hc
     simp only[BO,Bs] at hc
     split at hc<;>cases hc
   .cases hc
  .split at hc<;>cases hc
  .cases hc
 .cases hc
end
end Go.Am
end
