/- Lemmas -/
import Derived.Test.YtljddgipdchkiaaGreatDoorZ2
import Derived.Laws.Slices
set_option linter.all false
section
namespace Go.Am
open Go
section
variable{P:Program}{γ:Gh}{w:World}
def RE{a:Bool}{v:Value}(h:BU γ (.bool a) v):v= .bool a:=h
def EA{k:IntKind}{a:Int}{v:Value}(h:BU γ (.int k a) v):v= .int k a:=h
def N0{a:Aq}{v:Value}(h:BU γ (.str a) v):v= .string ⟨⟨a⟩⟩:=h
def Bi.qy{us:List Value}(h:Bi γ [] us):us=[]:=h
def Bi.L9{a:Aa}{l:List Aa}{us:List Value}(h:Bi γ (a::l) us):∃u DM,us=u::DM/\BU γ a u/\Bi γ l DM:=h
def Bi.one{a:Aa}{us:List Value}(h:Bi γ [a] us):∃u,us=[u]/\BU γ a u:=by obtain⟨u,DM,rfl,h1,h2⟩:=h;rw[h2.qy];exact⟨u,rfl,h1⟩
def Bi.eI{a b:Aa}{us:List Value}(h:Bi γ [a,b] us):∃u v,us=[u,v]/\BU γ a u/\BU γ b v:=by obtain⟨u,DM,rfl,h1,h2⟩:=h;obtain⟨v,rfl,c⟩:=h2.one;exact⟨u,v,rfl,h1,c⟩
def Bi.TM{a b c:Aa}{us:List Value}(h:Bi γ [a,b,c] us):∃u v x,us=[u,v,x]/\BU γ a u/\BU γ b v/\BU γ c x:=by obtain⟨u,DM,rfl,h1,h2⟩:=h;obtain⟨v,x,rfl,e,d⟩:=h2.eI;exact⟨u,v,x,rfl,h1,e,d⟩
def Value.J8:Value->Bool
 | .bool _| .pointer _| .slice _ _ _| .func _ _ _| .nilFunc| .map _=>true
 |_=>false
def S2{op:BinOp}{neg:Bool}(NS:(op= .eql/\neg=false)\/(op= .neq/\neg=true))(t:TypeId)(c b:Operand){x y:Value}(hx:Value.J8 x=true)(hy:Value.J8 y=true){e:Bool}
  (he:(Op.equal t x y).run P w= .ok e w):(do eqGuard op t c b x y;binOp op t x y:Sem Value).run P w= .ok (.bool (e != neg)) w:=by
 have hg:eqGuard op t c b x y=pure ():=by rcases NS with⟨rfl,_⟩|⟨rfl,_⟩<;>cases x<;>simp[Value.J8] at hx<;>rfl
 rw[hg];rcases NS with⟨rfl,rfl⟩|⟨rfl,rfl⟩
 .have hb:binOp .eql t x y=(do pure (.bool (<-Op.equal t x y))):=by cases x<;>simp[Value.J8] at hx<;>cases y<;>simp[Value.J8] at hy<;>rfl
  simp[hb,he]
 .have hb:binOp .neq t x y=(do pure (.bool (!(<-Op.equal t x y)))):=by cases x<;>simp[Value.J8] at hx<;>cases y<;>simp[Value.J8] at hy<;>rfl
  simp[hb,he]
def eJ{op:BinOp}{neg:Bool}(NS:(op= .eql/\neg=false)\/(op= .neq/\neg=true))(t:TypeId)(d c:Operand)(ht:P.underlying t=some .bool)(a b:Bool):
  (do eqGuard op t d c (.bool a) (.bool b);binOp op t (.bool a) (.bool b):Sem Value).run P w= .ok (.bool ((a==b) != neg)) w:=
 S2 NS t d c rfl rfl (run_equalIn_bool' w 9999 t a b ht)
def UB{d:Nat}{t e:TypeId}(ht:P.underlying t=some (.pointer e))(hz:∃n,B6 P e=some (n+1)){a b:Aa}{x y:Value}(hx:BU γ a x)(hy:BU γ b y){r:Bool}(h:oZ a b=some r):
  (Op.equalIn (d+1) t x y).run P w= .ok r w/\Value.J8 x=true/\Value.J8 y=true:=by
 obtain⟨n,hn⟩:=hz;unfold oZ at h;split at h
 .rename_i q;cases h;rw[show x= .pointer none from hx];have:∃p,y= .pointer p/\p.isNone=q.isNone:=by
   cases q with
   |none=>exact⟨none,hy,rfl⟩
   |some p=>obtain⟨i,o⟩:=p;obtain⟨b,_,rfl⟩:=hy;exact⟨_,rfl,rfl⟩
  obtain⟨p,rfl,hp⟩:=this;exact⟨by simp[Op.equalIn,run_underlying ht,hp],rfl,rfl⟩
 .rename_i p;cases h;obtain⟨i,o⟩:=p;obtain⟨b,_,rfl⟩:=hx;rw[show y= .pointer none from hy];exact⟨by simp[Op.equalIn,run_underlying ht],rfl,rfl⟩
 .rename_i p q;split at h;.rename_i he;cases h;subst he;obtain⟨i,o⟩:=p;obtain⟨b,hb,rfl⟩:=hx;obtain⟨b',QQ,rfl⟩:=hy;rw[hb] at QQ;cases QQ;exact⟨by simp[Op.equalIn,run_underlying ht,DQ hn,sameAddr],rfl,rfl⟩
  .cases h
 .cases h;rw[show x= .pointer none from hx];obtain⟨b,o,rfl,_⟩:=hy;exact⟨by simp[Op.equalIn,run_underlying ht],rfl,rfl⟩
 .cases h;rw[show y= .pointer none from hy];obtain⟨b,o,rfl,_⟩:=hx;exact⟨by simp[Op.equalIn,run_underlying ht],rfl,rfl⟩
 .cases h
def EP{d:Nat}{t e:TypeId}(ht:P.underlying t=some (.slice e)){p q:Option Addr}{n c m k:Nat}(h:p=none\/q=none):
  (Op.equalIn (d+1) t (.slice p n c) (.slice q m k)).run P w= .ok (p.isNone&&q.isNone) w:=by
 cases p<;>cases q<;>simp at h<;>simp[Op.equalIn,run_underlying ht]
def Ma{d:Nat}{t:TypeId}{a b:Array TypeId}{c:Bool}(ht:P.underlying t=some (.func a b c)){f:Fn}{x y:Array Value}:
  (Op.equalIn (d+1) t .nilFunc .nilFunc).run P w= .ok true w/\(Op.equalIn (d+1) t .nilFunc (.func f x y)).run P w= .ok false w/\(Op.equalIn (d+1) t (.func f x y) .nilFunc).run P w= .ok false w:=by
 refine⟨?_,?_,?_⟩<;>simp[Op.equalIn,run_underlying ht]
def Lv{d:Nat}{t k e:TypeId}(ht:P.underlying t=some (.map k e)){p q:Option Nat}(h:p=none\/q=none):
  (Op.equalIn (d+1) t (.map p) (.map q)).run P w= .ok (p.isNone&&q.isNone) w:=by
 cases p<;>cases q<;>simp at h<;>simp[Op.equalIn,run_underlying ht]
def UC{d:Nat}{t:TypeId}{k:NK}(ht:match k with| .sl=>∃e,P.underlying t=some (.slice e)| .fn=>∃a b c,P.underlying t=some (.func a b c)| .mp=>∃a b,P.underlying t=some (.map a b))
  {a b:Aa} {x y:Value} (hx:BU γ a x) (hy:BU γ b y) {r:Bool} (h:o7 k a b=some r):
  (Op.equalIn (d+1) t x y).run P w= .ok r w/\Value.J8 x=true/\Value.J8 y=true:=by
 unfold o7 at h;split at h;case h_1=>obtain⟨e,ht⟩:=ht;cases h;rw[show x= .slice none 0 0 from hx,show y= .slice none 0 0 from hy];exact⟨EP ht (.inl rfl),rfl,rfl⟩
 case h_2=>obtain⟨e,ht⟩:=ht;cases h;rw[show x= .slice none 0 0 from hx];obtain⟨_,_,rfl,_⟩:=hy;exact⟨EP ht (.inl rfl),rfl,rfl⟩
 case h_3=>obtain⟨e,ht⟩:=ht;cases h;rw[show y= .slice none 0 0 from hy];obtain⟨_,_,rfl,_⟩:=hx;exact⟨EP ht (.inr rfl),rfl,rfl⟩
 case h_4=>obtain⟨e,ht⟩:=ht;cases h;rw[show x= .slice none 0 0 from hx];obtain⟨_,rfl⟩:=hy;exact⟨EP ht (.inl rfl),rfl,rfl⟩
 case h_5=>obtain⟨e,ht⟩:=ht;cases h;rw[show y= .slice none 0 0 from hy];obtain⟨_,rfl⟩:=hx;exact⟨EP ht (.inr rfl),rfl,rfl⟩
 case h_6=>obtain⟨e,ht⟩:=ht;cases h;rw[show x= .slice none 0 0 from hx];obtain⟨_,_,_,rfl,_⟩:=hy;exact⟨EP ht (.inl rfl),rfl,rfl⟩
 case h_7=>obtain⟨e,ht⟩:=ht;cases h;rw[show y= .slice none 0 0 from hy];obtain⟨_,_,_,rfl,_⟩:=hx;exact⟨EP ht (.inr rfl),rfl,rfl⟩
 case h_8=>obtain⟨_,_,_,ht⟩:=ht;cases h;rw[show x= .nilFunc from hx,show y= .nilFunc from hy];exact⟨(Ma ht (f:= .func 0) (x:=#[]) (y:=#[])).1,rfl,rfl⟩
 case h_9=>obtain⟨_,_,_,ht⟩:=ht;cases h;rw[show x= .nilFunc from hx];obtain⟨_,_,rfl,_⟩:=hy;exact⟨(Ma ht).2.1,rfl,rfl⟩
 case h_10=>obtain⟨_,_,_,ht⟩:=ht;cases h;rw[show y= .nilFunc from hy];obtain⟨_,_,rfl,_⟩:=hx;exact⟨(Ma ht).2.2,rfl,rfl⟩
 case h_11=>
  rename_i q;obtain⟨_,_,ht⟩:=ht;cases h;rw[show x= .map none from hx];cases q with
  |none=>rw[show y= .map none from hy];exact⟨Lv ht (.inl rfl),rfl,rfl⟩
  |some id=>obtain⟨b,_,rfl⟩:=hy;exact⟨Lv ht (.inl rfl),rfl,rfl⟩
 case h_12=>obtain⟨_,_,ht⟩:=ht;cases h;rw[show y= .map none from hy];obtain⟨b,_,rfl⟩:=hx;exact⟨Lv ht (.inr rfl),rfl,rfl⟩
 .cases h
def wX{op:BinOp}{args:List Aa}{u:Aa}(h:AB (.int op) args=some u):∃k a l b,args=[.int k a,.int l b]/\oY op k a l b=some u:=by
 simp only[AB] at h;split at h;.exact⟨_,_,_,_,rfl,h⟩
 .cases h
def wY{op:BinOp}{args:List Aa}{u:Aa}(h:AB (.str op) args=some u):∃a b,args=[.str a,.str b]/\dW op a b=some u:=by
 simp only[AB] at h;split at h;.exact⟨_,_,rfl,h⟩
 .cases h
def eK{op:BinOp}{t:TypeId}{p:X1}(hp:PM P op t=some p)(f c:Operand){args:List Aa}{x y:Value}(ha:Bi γ args [x,y]){u:Aa}(h:AB p args=some u):
  ∃v,(do eqGuard op t f c x y;binOp op t x y:Sem Value).run P w= .ok v w/\BU γ u v:=by
 unfold PM at hp;split at hp;.cases hp;obtain⟨k,a,l,b,rfl,h⟩:=wX h;obtain⟨_,_,e,hx,hy⟩:=ha.eI;cases e;rw[EA hx,EA hy];exact eC t f c h
 .cases hp;obtain⟨a,b,rfl,h⟩:=wY h;obtain⟨_,_,e,hx,hy⟩:=ha.eI;cases e;rw[N0 hx,N0 hy];exact eD t f c h
 .rename_i d h1 h2 hu;obtain⟨neg,NS,g⟩:∃neg,((op= .eql/\neg=false)\/(op= .neq/\neg=true))/\SR P t neg d=some p:=by cases op<;>first|cases hp;done|exact⟨false,.inl ⟨rfl,rfl⟩,hp⟩|exact⟨true,.inr ⟨rfl,rfl⟩,hp⟩
  clear h1 h2 hp;have hp:=g;clear g;unfold SR at hp;split at hp
  .cases hp;simp only[AB] at h;split at h;.obtain⟨_,_,e,hx,hy⟩:=ha.eI;cases e;cases h;rw[RE hx,RE hy];exact⟨_,eJ NS t f c hu _ _,rfl⟩
   .cases h
  .split at hp
   .rename_i hg;cases hk:OZ P 20 t with
    |none=>rw[hk] at hp;cases hp
    |some ks=>
     rw[hk] at hp;cases hp;simp only[AB] at h;split at h;.obtain⟨_,_,e,hx,hy⟩:=ha.eI;cases e;exact eH NS hg hk ⟨_,hu⟩ hx hy h
     .cases h
   .cases hp
  .split at hp;.cases hp
   .rename_i e hz;cases hp;simp only[AB] at h;split at h
    .rename_i a b;obtain⟨_,_,e,hx,hy⟩:=ha.eI;cases e;cases hq:oZ a b with
     |none=>rw[hq] at h;cases h
     |some r=>rw[hq] at h;cases h;obtain⟨m,j,i⟩:=UB (w:=w) (d:=9999) hu (by cases Yc:B6 P e with|none=>rw[Yc] at hz;exact absurd rfl hz|some n=>cases n with|zero=>rw[Yc] at hz;exact absurd rfl hz|succ n=>exact⟨n,rfl⟩) hx hy hq;exact⟨_,S2 NS t f c j i m,rfl⟩
    .cases h
  all_goals first
   |cases hp;done
   | (cases hp
      simp only [AB] at h
      split at h
      . rename_i a b
        obtain ⟨_, _, e, hx, hy⟩ := ha.eI
        cases e
        cases hq : o7 _ a b with
        | none => rw [hq] at h; cases h
        | some r =>
          rw [hq] at h; cases h
          obtain ⟨m, j, i⟩ := UC (w := w) (P := P) (t := t) (d := 9999) (by first | exact ⟨_, hu⟩ | exact ⟨_, _, hu⟩ | exact ⟨_, _, _, hu⟩) hx hy hq
          exact ⟨_, S2 NS t f c j i m, rfl⟩
      . cases h)
 .cases hp
end
end Go.Am
end
section
namespace Go.Am
open Go
section
variable{P:Program}{γ:Gh}{w:World}
def Ŷ{op:UnOp}{a u:Aa}{x:Value}(hx:BU γ a x)(h:Ŭ op a=some u):∃v,(Op.unary op x).run P w= .ok v w/\BU γ u v:=by
 unfold Ŭ at h;split at h;.cases h;rw[RE hx];exact⟨_,rfl,rfl⟩
 .cases h;rw[EA hx];exact⟨_,rfl,rfl⟩
 .rename_i k n;rw[EA hx];unfold Ę at h;cases hs:PK (Op.unary .xor (.int k n)) with
  |none=>rw[hs] at h;cases h
  |some v=>
   rw[hs] at h;have b:=VZ hs;simp only[Cv] at h;split at h;.cases h;exact⟨_,by rw[b];rfl,rfl⟩
   .cases h
 .cases h
def ZW{src dst:TypeId}{k l k':IntKind}{n:Int}(hs:P.underlying src=some (.int l))(hd:P.underlying dst=some (.int k)):(convert src dst (.int k' n)).run P w= .ok (.int k (k.wrap n)) w:=by simp[convert,run_underlying hs,run_underlying hd,Conv.intToInt]
def ZX{src dst:TypeId}{l k':IntKind}{n:Int}(hs:P.underlying src=some (.int l))(hd:P.underlying dst=some .string):(convert src dst (.int k' n)).run P w= .ok (.string (Utf8.encode n)) w:=by simp[convert,run_underlying hs,run_underlying hd,Conv.intToString]
def wZ{t:TypeId}{f off:Nat}{sh:Option Nat}(hf:Iu P t f=some (off,sh)){cs:List Aa}{x:Value}(hx:BU γ (.agg cs) x){u:Aa}(h:Ft cs off sh=some u):∃v,(Instr.field t x f).run P w= .ok v w/\BU γ u v:=by
 unfold Iu at hf;split at hf
 .rename_i fs hu;split at hf
  .rename_i fd pQ;split at hf;.rename_i n b h1 h2;cases hf;obtain⟨us,rfl,hr,h1c⟩:=hx;obtain⟨v,p,q⟩:=eE (w:=w) h2 hr h1c h;exact⟨v,by simp[Instr.field,run_underlying hu,pQ,asAgg,p],q⟩
   .cases hf
  .cases hf
 .cases hf
def QT{i:Int}{len j:Nat}(h:L3 i len=some j):0<=i/\i<len/\i.toNat=j:=by
 unfold L3 at h;split at h;.rename_i hc;cases h;exact⟨hc.1,hc.2,rfl⟩
 .cases h
def Yd{t e:TypeId}{len n:Nat}{sh:Option Nat}(ht:P.underlying t=some (.array len e))(hn:B6 P e=some n)(jM:Fs P e=some sh){cs:List Aa}{x:Value}(hx:BU γ (.agg cs) x){k:IntKind}{i:Int}{j:Nat}
  (hi:L3 i len=some j) {u:Aa} (h:Ft cs (j*n) sh=some u):∃v,(Instr.index t x (.int k i)).run P w= .ok v w/\BU γ u v:=by
 obtain⟨us,rfl,hr,h1c⟩:=hx;obtain⟨d,c,b⟩:=QT hi;obtain⟨v,p,q⟩:=eE (w:=w) jM hr h1c h;exact⟨v,by simp[Instr.index,asIntOf,run_underlying ht,d,c,DQ hn,b,p],q⟩
def Ye{t:TypeId}(ht:P.underlying t=some .string){s:Aq}{k:IntKind}{i:Int}{b:UInt8}(h0:0<=i)(h:s[i.toNat]?=some b):
  (Instr.index t (.string ⟨⟨s⟩⟩) (.int k i)).run P w= .ok (.int .u8 b.toNat) w:=by
 obtain⟨hlt,hb⟩:=Ak.1 h;have e:(⟨⟨s⟩⟩:ByteArray)[i.toNat]?=some b:=by rw[ByteArray.getElem?_lt' _ _ (show i.toNat<(⟨⟨s⟩⟩:ByteArray).size from hlt),<-hb];rfl
 simp[Instr.index,asIntOf,run_underlying ht,h0,e]
def pS{p u:Aa}{x:Value}{n:Nat}(hx:BU γ p x)(h:VF p n=some u):∃a,x= .pointer (some a)/\BU γ u (.pointer (some (a.add n))):=by
 unfold VF at h;split at h;.rename_i cs;cases h;obtain⟨b,o,rfl,hm⟩:=hx;refine⟨_,rfl,b,o+n,?_,hm.drop n⟩;unfold Addr.add;split<;>simp_all
 .rename_i id o;cases h;obtain⟨b,hb,rfl⟩:=hx;refine⟨_,rfl,b,hb,?_⟩;unfold Addr.add;split<;>simp_all
 .cases h
def eL{t:TypeId}{f off:Nat}{sh:Option Nat}(hf:Iu P t f=some (off,sh)){p u:Aa}{x:Value}(hx:BU γ p x)(h:VF p off=some u):∃v,(Instr.fieldAt t x f).run P w= .ok v w/\BU γ u v:=by
 obtain⟨a,rfl,hu⟩:=pS hx h;refine⟨_,?_,hu⟩;unfold Iu at hf;split at hf
 .rename_i fs pP;split at hf
  .rename_i fd pQ;split at hf;.rename_i n b h1 h2;cases hf;simp[Instr.fieldAt,run_underlying pP,pQ,Instr.sureAddr,fieldPlace,DQ h1]
   .cases hf
  .cases hf
 .cases hf
def kK{t e:TypeId}{n:Nat}(ht:P.underlying t=some (.slice e))(hn:B6 P e=some n){s u:Aa}{x:Value}(hx:BU γ s x){k:IntKind}{i:Int}(h:elemOf n s i=some u):
  ∃v,(Instr.indexAt t x (.int k i)).run P w= .ok v w/\BU γ u v:=by
 have Gg:P.underlying t=some (.slice (P.elem t)):=by simp[Program.elem,ht]
 have he:P.elem t=e:=by simp[Program.elem,ht]
 unfold elemOf at h;split at h
 .rename_i z Az;split at h
  .rename_i hz;subst hz;split at h
   .rename_i h0;cases hr:Az[i.toNat]? with
    |none=>rw[hr] at h;cases h
    |some row=>
     rw[hr] at h;cases h;obtain⟨d,cap,rfl,hc,hsp,hm⟩:=hx;obtain⟨hl,c⟩:=hm.get hr;have hlt:i<Az.length:=by have:=(Ak.1 hr).1;omega
     have kL:=NW hsp hc Ab;generalize d.block=b at*;generalize d.off=o at*;subst kL;refine⟨.pointer (some ((⟨b,o,none⟩:Addr).add (i.toNat*z))),by rw[run_indexAt_slice w t _ _ _ _ _ Gg,Ae ⟨h0,hlt⟩,he,DQ hn];rfl,b,o+i.toNat*z,?_,c⟩;unfold Addr.add;split<;>simp_all
   .cases h
  .cases h
 .rename_i id off len z;split at h
  .rename_i hz;subst hz;cases hj:L3 i len with
   |none=>rw[hj] at h;cases h
   |some j=>rw[hj] at h;cases h;obtain⟨l,g,f⟩:=QT hj;subst f;obtain⟨b,cap,hb,rfl,hc,hz⟩:=hx;refine⟨.pointer (some ((⟨b,off,none⟩:Addr).add (i.toNat*z))),by rw[run_indexAt_slice w t _ _ _ _ _ Gg,Ae ⟨l,g⟩,he,DQ hn];rfl,b,hb,?_⟩;unfold Addr.add;split<;>simp_all
  .cases h
 .cases h
def xA{t e:TypeId}{len n:Nat}(ht:P.underlying t=some (.array len e))(hn:B6 P e=some n){p u:Aa}{x:Value}(hx:BU γ p x){k:IntKind}{i:Int}{j:Nat}(hj:L3 i len=some j)(h:VF p (j*n)=some u):
  ∃v,(Instr.indexAt t x (.int k i)).run P w= .ok v w/\BU γ u v:=by
 have Gg:P.underlying t=some (.array (P.arrayLen t) (P.elem t)):=by simp[Program.elem,Program.arrayLen,ht]
 have he:P.elem t=e:=by simp[Program.elem,ht]
 have hl:P.arrayLen t=len:=by simp[Program.arrayLen,ht]
 obtain⟨a,rfl,hu⟩:=pS hx h;obtain⟨d,c,b⟩:=QT hj;subst b;exact⟨_,by rw[run_indexAt_array w t _ _ _ Gg,hl,Ae ⟨d,c⟩,he,DQ hn];rfl,hu⟩
def qz{t ty:TypeId}{isStr:Bool}(ht:if isStr=true then P.underlying t=some .string else∃e,P.underlying t=some (.slice e)){ts:Array TypeId}(ZY:ts[0]?=some t){s u:Aa}{x:Value}(hx:BU γ s x)(h:lenOf isStr s=some u):
  ∃v,(Builtin.len_ ts ty #[x]).run P w= .ok v w/\BU γ u v:=by
 cases isStr with
 |true=>
  replace ht:P.underlying t=some .string:=ht;unfold lenOf at h;split at h<;>first|cases h;done|skip
  simp only[BT] at h;cases h;rw[N0 hx];refine⟨_,by simp[Builtin.len_,ZY,run_underlying ht];rfl,rfl⟩
 |false=>
  obtain⟨e,ht⟩:∃e,P.underlying t=some (.slice e):=ht;unfold lenOf at h;split at h;.cases h;obtain⟨c,cap,rfl,_⟩:=hx;exact⟨_,by simp[Builtin.len_,ZY,run_underlying ht];rfl,rfl⟩
  .cases h;obtain⟨b,cap,_,rfl,_⟩:=hx;exact⟨_,by simp[Builtin.len_,ZY,run_underlying ht];rfl,rfl⟩
  .cases h;rw[show x= .slice none 0 0 from hx];exact⟨_,by simp[Builtin.len_,ZY,run_underlying ht];rfl,rfl⟩
  .cases h;obtain⟨b,rfl⟩:=hx;exact⟨_,by simp[Builtin.len_,ZY,run_underlying ht];rfl,rfl⟩
  .cases h
  .cases h
def q_{vs:List Aa}{x:Value}(hx:BU γ (.tuple vs) x){i:Nat}{u:Aa}(h:vs[i]?=some u):∃v,(Instr.extract x i).run P w= .ok v w/\BU γ u v:=by
 obtain⟨us,rfl,hr⟩:=hx;obtain⟨v,hv,q⟩:=hr.get h;exact⟨v,by
  have:us[i]?=some v:=by simpa using hv
  simp[Instr.extract,this],q⟩
end
end Go.Am
end
section
namespace Go.Am
open Go
section
variable{P:Program}{γ:Gh}{w:World}
def N1{n:Int}{top j:Nat}(h:Fo n top=some j):0<=n/\n<=top/\n.toNat=j:=by
 unfold Fo at h;split at h;.rename_i hc;cases h;exact⟨hc.1,hc.2,rfl⟩
 .cases h
def KD{lo hi:Option Value}{as:List Aa}{len cap l h:Nat}{isSlice:Bool}(hb:Ea lo.isSome hi.isSome len as=some (l,h))(hr:Bi γ as (lo.toList++hi.toList))(hc:len<=cap):
  (Instr.sliceBounds isSlice len cap lo hi none).run P w= .ok (l,h,cap) w/\l<=h/\h<=len:=by
 cases lo<;>cases hi<;>simp only[Option.isSome,Ea] at hb
 .split at hb;.cases hb;exact⟨by simp[Instr.sliceBounds],AU _,Ag _⟩
  .cases hb
 .rename_i hv;split at hb
  .rename_i k h';cases b:Fo h' len with
   |none=>rw[b] at hb;cases hb
   |some j=>rw[b] at hb;cases hb;obtain⟨f,g,d⟩:=N1 b;obtain⟨_,e,hx⟩:=hr.one;cases e;rw[EA hx];refine⟨?_,AU _,Ab⟩;have:h'<=(cap:Int):=Ab;simp[Instr.sliceBounds,run_sliceBound,f,this,d]
  .cases hb
 .rename_i p;split at hb
  .rename_i k l';cases b:Fo l' len with
   |none=>rw[b] at hb;cases hb
   |some j=>rw[b] at hb;cases hb;obtain⟨f,g,d⟩:=N1 b;obtain⟨_,e,hx⟩:=hr.one;cases e;rw[EA hx];refine⟨?_,Ab,Ag _⟩;simp[Instr.sliceBounds,run_sliceBound,f,g,d]
  .cases hb
 .rename_i p hv;split at hb
  .rename_i k l' k' h';cases b:Fo h' len with
   |none=>rw[b] at hb;cases hb
   |some j=>
    rw[b] at hb;simp only[Cv] at hb;cases c:Fo l' j with
    |none=>rw[c] at hb;cases hb
    |some i=>rw[c] at hb;cases hb;obtain⟨f,g,d⟩:=N1 b;obtain⟨o,n,m⟩:=N1 c;obtain⟨_,_,e,hx,hy⟩:=hr.eI;cases e;rw[EA hx,EA hy];refine⟨?_,Ab,Ab⟩;have:h'<=(cap:Int):=Ab;simp[Instr.sliceBounds,run_sliceBound,f,this,o,d,m,n]
  .cases hb
def E7.slice{Az:List (List Aa)}{z b o:Nat}(h:E7 γ Az z b o)(l k:Nat):E7 γ ((Az.take k).drop l) z b (o+l*z):=by
 refine E7.Ha λi r hi=>?_;rw[Ct,Cj] at hi;split at hi;.obtain⟨p,q⟩:=h.get hi;exact⟨p,by rw[show o+l*z+i*z=o+(l+i)*z by rw[BM];omega];exact q⟩
 .cases hi
def rh{t:TypeId}{isStr:Bool}{size:Nat}(ht:if isStr=true then P.underlying t=some .string else∃e,P.underlying t=some (.slice e)/\B6 P e=some size){s u:Aa}{x:Value}(hx:BU γ s x){as:List Aa}{lo hi:Option Value}
  (hr:Bi γ as (lo.toList++hi.toList)) (h:J4 size isStr lo.isSome hi.isSome s as=some u):
  ∃v,(Instr.sliceAt t x lo hi none).run P w= .ok v w/\BU γ u v:=by
 unfold J4 at h;split at h
 .split at h
  .rename_i s Qe;subst Qe;replace ht:P.underlying t=some .string:=ht;cases hb:Ea lo.isSome hi.isSome s.length as with
   |none=>rw[hb] at h;cases h
   |some f=>
    obtain⟨l,k⟩:=f;rw[hb] at h;cases h;obtain⟨c,i,g⟩:=KD (P:=P) (w:=w) (isSlice:=false) hb hr (Ag _);rw[N0 hx,run_sliceAt_string w t _ _ _ _ ht];refine⟨.string ((⟨⟨s⟩⟩:ByteArray).extract l k),?_,?_⟩;.have e:(⟨⟨s⟩⟩:ByteArray).size=s.length:=rfl;simp only[Instr.slice,Sem.run_bind,run_underlying ht,Result.andThen_ok];simp only[e,c,Option.isSome,Cy,Eb,Sem.run_bind,Sem.run_pure,Result.andThen_ok]
    .show Value.string _=Value.string _;congr 1
     apply ByteArray.ext;apply HA;simp[ByteArray.data_extract,HL,List.drop_take]
  .cases h
 .rename_i z Az;split at h
  .rename_i hc;obtain⟨rfl,rfl⟩:=hc;obtain⟨e,ht,hn⟩:∃e,P.underlying t=some (.slice e)/\B6 P e=some z:=ht;have Gg:P.underlying t=some (.slice (P.elem t)):=by simp[Program.elem,ht]
   have he:P.elem t=e:=by simp[Program.elem,ht]
   obtain⟨d,cap,rfl,hc,hsp,hm⟩:=hx;cases hb:Ea lo.isSome hi.isSome Az.length as with
   |none=>rw[hb] at h;cases h
   |some f=>
    obtain⟨l,k⟩:=f;rw[hb] at h;cases h;obtain⟨c,i,g⟩:=KD (P:=P) (w:=w) (isSlice:=true) hb hr hc;rw[run_sliceAt_slice w t _ _ _ _ Gg,run_slice_any w t _ _ _ Gg,c,he,Result.andThen_ok,DQ hn];refine⟨_,rfl,?_⟩;show BU γ (.sl z ((Az.take k).drop l)) (.slice (if cap=l then some d else Option.map (λq:Addr=>q.add (l*z)) (some d)) (k-l) (cap-l));have hlen:((Az.take k).drop l).length=k-l:=Eg;by_cases hcl:cap=l;.have:(Az.take k).drop l=[]:=Dn Ab;rw[this];simp only[hcl,BT];exact⟨d,l-l,Eg,AK,.inr Ab,trivial⟩
    .rw[Ac hcl];have kL:d=⟨d.block,d.off,none⟩:=by
      rcases hsp with hsp|hsp
      .cases d;simp_all
      .omega
     generalize d.block=b at*;generalize d.off=o at*;subst kL;refine⟨⟨b,o+l*z,none⟩,cap-l,?_,Ab,.inl rfl,hm.slice l k⟩;rw[hlen];simp only[Cc];unfold Addr.add;split<;>simp_all
  .cases h
 .rename_i id off n z;split at h
  .rename_i hc;obtain⟨rfl,rfl⟩:=hc;obtain⟨e,ht,hn⟩:∃e,P.underlying t=some (.slice e)/\B6 P e=some z:=ht;have Gg:P.underlying t=some (.slice (P.elem t)):=by simp[Program.elem,ht]
   have he:P.elem t=e:=by simp[Program.elem,ht]
   obtain⟨b,cap,rj,rfl,hc,hz,KR⟩:=hx;cases hb:Ea lo.isSome hi.isSome n as with
   |none=>rw[hb] at h;cases h
   |some f=>
    obtain⟨l,k⟩:=f;rw[hb] at h;simp only[Cv] at h;split at h
    .rename_i kM;cases h;obtain⟨c,i,g⟩:=KD (P:=P) (w:=w) (isSlice:=true) hb hr hc;rw[run_sliceAt_slice w t _ _ _ _ Gg,run_slice_any w t _ _ _ Gg,c,he,Result.andThen_ok,DQ hn];refine⟨_,rfl,b,cap-l,rj,?_,Ab,⟨hz.1,Bu (Nat.sub_le _ _) hz.2⟩,?_⟩;.show Value.slice (if cap=l then some ⟨b,off,none⟩ else Option.map (λq:Addr=>q.add (l*z)) (some ⟨b,off,none⟩)) (k-l) (cap-l)=_;rw[Ac Ab];simp only[Cc];unfold Addr.add;split<;>simp_all
     .rw[KR,Ri,<-BM,aL0 Ab]
    .rename_i kM;cases h;obtain⟨c,i,g⟩:=KD (P:=P) (w:=w) (isSlice:=true) hb hr hc;rw[run_sliceAt_slice w t _ _ _ _ Gg,run_slice_any w t _ _ _ Gg,c,he,Result.andThen_ok,DQ hn];have PQ:k-l=0:=Ab;by_cases hcl:cap=l;.refine⟨_,rfl,⟨b,off,none⟩,cap-l,?_,AK,.inl rfl,trivial⟩;show Value.slice (if cap=l then some ⟨b,off,none⟩ else Option.map (λq:Addr=>q.add (l*z)) (some ⟨b,off,none⟩)) (k-l) (cap-l)=_;rw[Ae hcl,PQ];rfl
     .refine⟨_,rfl,(Addr.mk b off none).add (l*z),cap-l,?_,AK,.inl ?_,trivial⟩;.show Value.slice (if cap=l then some ⟨b,off,none⟩ else Option.map (λq:Addr=>q.add (l*z)) (some ⟨b,off,none⟩)) (k-l) (cap-l)=_;rw[Ac hcl,PQ];rfl
      .unfold Addr.add;split<;>simp_all
  .cases h
 .split at h;.cases h
  .rename_i Qe;have Qe:isStr=false:=by simpa using Qe
   subst Qe;obtain⟨e,ht,hn⟩:∃e,P.underlying t=some (.slice e)/\B6 P e=some size:=ht;have Gg:P.underlying t=some (.slice (P.elem t)):=by simp[Program.elem,ht]
   have he:P.elem t=e:=by simp[Program.elem,ht]
   rw[show x= .slice none 0 0 from hx];cases hb:Ea lo.isSome hi.isSome 0 as with
   |none=>rw[hb] at h;cases h
   |some f=>obtain⟨l,k⟩:=f;rw[hb] at h;cases h;obtain⟨c,i,g⟩:=KD (P:=P) (w:=w) (isSlice:=true) hb hr (Ag _);rw[run_sliceAt_slice w t _ _ _ _ Gg,run_slice_any w t _ _ _ Gg,c,he,Result.andThen_ok,DQ hn];refine⟨_,rfl,?_⟩;have:l=0:=Ab;subst this;have:k=0:=Ab;subst this;rfl
 .cases h
end
end Go.Am
end
section
namespace Go.Am
open Go
section
variable{P:Program}{γ:Gh}{w:World}
def Hq{a:Aa}{v:Value}(h:BU γ a v)(hn:0<a.cells.length):Bi γ a.cells v.cells.toList/\∀u∈v.cells.toList,u.oneCell'=true:=by
 cases a with
 |agg cs=>obtain⟨us,rfl,p,q⟩:=h;exact⟨p,q⟩
 |tuple vs=>exact absurd hn (by simp[Aa.cells])
 |bool b=>rw[show v=_ from h];exact⟨⟨_,[],rfl,rfl,rfl⟩,QU⟩
 |int k n=>rw[show v=_ from h];exact⟨⟨_,[],rfl,rfl,rfl⟩,QU⟩
 |str s=>rw[show v=_ from h];exact⟨⟨_,[],rfl,rfl,rfl⟩,QU⟩
 |slnil=>rw[show v=_ from h];exact⟨⟨_,[],rfl,rfl,rfl⟩,QU⟩
 |Gb z=>have h0:=h;obtain⟨b,rfl⟩:=h;exact⟨⟨_,[],rfl,h0,rfl⟩,QU⟩
 |nilFunc=>rw[show v=_ from h];exact⟨⟨_,[],rfl,rfl,rfl⟩,QU⟩
 |nilIface=>rw[show v=_ from h];exact⟨⟨_,[],rfl,rfl,rfl⟩,QU⟩
 |ptr p=>
  have h0:=h;cases p with
  |none=>rw[show v=_ from h];exact⟨⟨_,[],rfl,rfl,rfl⟩,QU⟩
  |some p=>obtain⟨i,o⟩:=p;obtain⟨b,_,rfl⟩:=h;exact⟨⟨_,[],rfl,h0,rfl⟩,QU⟩
 |Cq cs=>have h0:=h;obtain⟨b,o,rfl,_⟩:=h;exact⟨⟨_,[],rfl,h0,rfl⟩,QU⟩
 |sl z Az=>have h0:=h;obtain⟨d,cap,rfl,_⟩:=h;exact⟨⟨_,[],rfl,h0,rfl⟩,QU⟩
 |CD id off len z=>have h0:=h;obtain⟨b,cap,_,rfl,_⟩:=h;exact⟨⟨_,[],rfl,h0,rfl⟩,QU⟩
 |map m=>
  have h0:=h;cases m with
  |none=>rw[show v=_ from h];exact⟨⟨_,[],rfl,rfl,rfl⟩,QU⟩
  |some id=>obtain⟨b,_,rfl⟩:=h;exact⟨⟨_,[],rfl,h0,rfl⟩,QU⟩
 |func fn f c=>have h0:=h;obtain⟨fs,cs,rfl,_⟩:=h;exact⟨⟨_,[],rfl,h0,rfl⟩,QU⟩
 |iface t a=>have h0:=h;obtain⟨u,rfl,_⟩:=h;exact⟨⟨_,[],rfl,h0,rfl⟩,QU⟩
def N2:∀(vs:List Value) (off j:Nat) (cells:Array Value),off+j+vs.length<=cells.size->
  (vs.zipIdx j).foldl (λcs (c,i)=>cs.setIfInBounds (off+i) c) cells=(cells.toList.take (off+j)++vs++cells.toList.drop (off+j+vs.length)).toArray
 |[],off,j,cells,h=>AK
 |v::vs,off,j,cells,h=>by
  simp only[oU,ay];rw[N2 vs off (j+1) _ (by simp at h⊢;omega)];simp only[Be] at h;have hk:off+j<cells.toList.length:=Eg;have e0:(cells.setIfInBounds (off+j) v).toList=cells.toList.set (off+j) v:=AK;have d:(cells.toList.set (off+j) v).take (off+j+1)=cells.toList.take (off+j)++[v]:=by rw[List.take_add_one,OJ (Ag _),AQ hk];rfl
  have b:(cells.toList.set (off+j) v).drop (off+j+1+vs.length)=cells.toList.drop (off+j+1+vs.length):=YG Ab;rw[e0,(Ab:off+(j+1)=off+j+1),d,b];rw[(Eg:off+j+(v::vs).length=off+j+1+vs.length)];simp
def V4{place:Nat->Option (Nat×Nat)}:∀{places:List (Nat×Nat)} {as:List Aa} {parts:List (Nat×Value)} {cs:List Aa} {us:Array Value} {GW:List Aa},AR cs (places.zip as)=some GW->places.length=as.length->
  parts.map (λp=>place p.1)=places.map some->Bi γ as (parts.map (·.2))->Bi γ cs us.toList->(∀u∈us.toList,u.oneCell'=true)->
  ∃DM,Instr.fill place us parts=some DM/\Bi γ GW DM.toList/\∀u∈DM.toList,u.oneCell'=true
 |[],as,parts,cs,us,GW,h,hl,hp,ha,hr,h1=>by
  have:parts=[]:=by simpa using hp
  subst this;simp only[List.zip_nil_left,AR] at h;cases h;exact⟨us,rfl,hr,h1⟩
 |(off,size)::places,[],parts,cs,us,GW,h,hl,hp,ha,hr,h1=>by simp at hl
 |(off,size)::places,a::as,[],cs,us,GW,h,hl,hp,ha,hr,h1=>by simp at hp
 |(off,size)::places,a::as,(i,v)::parts,cs,us,GW,h,hl,hp,ha,hr,h1=>by
  simp only[aP8,AR] at h;split at h
  .rename_i hc;obtain⟨n,m,l⟩:=hc;simp only[Bs,E4] at hp;obtain⟨_,_,e,X2,ŷ⟩:=ha.L9;simp only[Bs,E4] at e;obtain⟨k,j⟩:=e;subst k;subst j;obtain⟨b,f⟩:=Hq X2 Ab;have KR:v.cells.size=size:=by have:=b.length;simp at this;omega
   have YM:us.size=cs.length:=by have:=hr.length;simpa using this
   have hf:=N2 v.cells.toList off 0 us (by simp[KR];omega);obtain⟨DM,d,r2,c⟩:=V4 (place:=place) (us:=(us.toList.take off++v.cells.toList++us.toList.drop (off+size)).toArray) h (by simpa using hl) hp.2 ŷ
    (by simpa using((hr.take off).append b).append (hr.drop (off+size)))
    (λu hu=>by
     simp only[Av] at hu;rcases hu with(hu|hu)|hu
     .exact h1 u (Bn hu)
     .exact f u hu
     .exact h1 u (BG hu))
   refine⟨DM,?_,r2,c⟩;rw[Instr.fill];simp only[hp.1];rw[Ac (by simp[KR];omega)];rw[<-d];congr 1
   have g:v.cells.toList.length=size:=by simpa using KR
   rw[<-aP9,aL1,hf];simp[g]
  .cases h
def Yf{v:Value}{a:Aa}(h:KQ v=some a):Bi γ a.cells v.cells.toList/\∀u∈v.cells.toList,u.oneCell'=true:=by
 have hr:=Fu (γ:=γ) h;unfold KQ at h;split at h
 .rename_i cs;cases hs:LW cs.toList with
  |none=>rw[hs] at h;cases h
  |some as=>rw[hs] at h;cases h;exact M0 hs
 .refine Hq hr ?_;unfold OW at h;split at h<;>first|(cases h;simp[Aa.cells];done)|skip
  .split at h;.cases h;simp[Aa.cells]
   .cases h
  .cases h
def OA{t:TypeId}{fs:Array Field}(hu:P.underlying t=some (.struct fs)){place:Nat->Option (Nat×Nat)}(dP:∀(i:Nat) (f:Field) (n:Nat),fs[i]?=some f->B6 P f.type=some n->place i=some (f.offset,n)):
  ∀{parts:List (Nat×Operand)} {ps:List (Nat×Nat)},J6 P t parts=some ps->parts.map (λp=>place p.1)=ps.map some
 |[],ps,h=>by cases h;rfl
 |(i,x)::rest,ps,h=>by
  simp only[J6,hu] at h;split at h
  .rename_i f hf;split at h;.rename_i n r h1 h2;cases h;simp[dP i f n hf h1,OA hu dP h2]
   .cases h
  .cases h
def O5{t e:TypeId}{len n:Nat}(hu:P.underlying t=some (.array len e))(hn:B6 P e=some n):
  ∀{parts:List (Nat×Operand)} {ps:List (Nat×Nat)},J6 P t parts=some ps->parts.map (λp=>some (p.1*n,n))=ps.map some
 |[],ps,h=>by cases h;rfl
 |(i,x)::rest,ps,h=>by
  simp only[J6,hu] at h;split at h
  .split at h;.rename_i n' r h1 h2;cases h;rw[hn] at h1;cases h1;simp[O5 hu hn h2]
   .cases h
  .cases h
def TN:∀(fs:List Field),(fs.all λf=>(B6 P f.type).isSome)=true->∃places,fs.mapM (λf=>(P.info? f.type).map λi=>(f.offset,i.size))=some places/\
  ∀(i:Nat) (f:Field) (n:Nat),fs[i]?=some f->B6 P f.type=some n->places[i]?=some (f.offset,n)
 |[],_=>⟨[],rfl,AK⟩
 |f::fs,h=>by
  simp only[ZO,Bx] at h;obtain⟨rest,h1,h2⟩:=TN fs h.2;cases hi:P.info? f.type with
  |none=>simp[B6,hi] at h
  |some b=>
   refine⟨(f.offset,b.size)::rest,by simp[hi,h1],λi g n hg hn=>?_⟩;cases i with
   |zero=>simp at hg;subst hg;simp[B6,hi] at hn;simp[hn]
   |succ i=>simpa using h2 i g n (by simpa using hg) hn
def xB{t:TypeId}{z:Aa}{parts:Array (Nat×Operand)}{ps:List (Nat×Nat)}{O:Operand->Value}(hz:GZ P t=some z)(hp:J6 P t parts.toList=some ps)(hb:Vf P t=true){as:List Aa}
  (ha:Bi γ as ((parts.toList.map (·.2)).map O)) {u:Aa} (h:AB (.BF z.cells ps) as=some u):∃v,(Instr.build t (parts.map λ(i,x)=>(i,O x))).run P w= .ok v w/\BU γ u v:=by
 simp only[AB] at h;split at h
 .rename_i hl;cases hf:AR z.cells (ps.zip as) with
  |none=>rw[hf] at h;cases h
  |some cs=>
   rw[hf] at h;cases h;unfold GZ at hz;cases hi:P.info? t with
   |none=>rw[hi] at hz;cases hz
   |some d=>
    cases Yc:d.zero with
    |none=>rw[hi] at hz;simp[Yc] at hz
    |some k=>
     rw[hi] at hz;simp only[Cv,Yc] at hz;obtain⟨c,z2⟩:=Yf (γ:=γ) hz;have hparts:((parts.map λ(i,x)=>(i,O x)).toList.map (·.2))=(parts.toList.map (·.2)).map O:=AK;unfold Vf at hb;split at hb
     .rename_i fs hu;obtain⟨places,j,g⟩:=TN fs.toList hb;obtain⟨DM,f1,f2,f3⟩:=V4 (place:=λi=>places.toArray[i]?) (parts:=(parts.map λ(i,x)=>(i,O x)).toList) hf hl
       (by have:=OA hu (place:=λi=>places.toArray[i]?) (λi f n h1 h2=>by simpa using g i f n (by simpa using h1) h2) hp;rw[<-this];simp) (by rw[hparts];exact ha) c z2
      exact⟨.agg DM,run_build w t _ _ (by unfold Program.built;simp only[hi,hu,Yc,j];exact f1),DM,rfl,f2,f3⟩
     .rename_i len e hu;cases he:P.info? e with
      |none=>simp[B6,he] at hb
      |some b=>
       obtain⟨DM,f1,f2,f3⟩:=V4 (place:=λi=>some (i*b.size,b.size)) (parts:=(parts.map λ(i,x)=>(i,O x)).toList) hf hl
        (by have:=O5 hu (n:=b.size) (by simp[B6,he]) hp;rw[<-this];simp) (by rw[hparts];exact ha) c z2
       exact⟨.agg DM,run_build w t _ _ (by unfold Program.built;simp only[hi,hu,Yc,he];exact f1),DM,rfl,f2,f3⟩
     .cases hb
 .cases h
end
end Go.Am
end
section
namespace Go.Am
open Go
def X1.still:X1->Bool
 | .append _ _| .BI _| .Gb _| .s2b| .Ux=>false
 |_=>true
def Hr{o:bw}{dst:Option Nat}{x:Option (List Aa)}{r:EO}(h:SV o dst x=some r):∃args,x=some args/\r= .mem o args dst:=by
 unfold SV at h;split at h;.cases h;exact⟨_,rfl,rfl⟩
 .cases h
def K8{o:bw}{dst:Option Nat}{x:Option (List Aa)}{p:X1}{args:List Aa}{d:Option Nat}{Bw:Bool}{b:Option (Nat×Aa)}:¬SV o dst x=some (.op p args d Bw b):=λh=>by obtain⟨_,_,e⟩:=Hr h;cases e
def DZ{p:X1}{dst:Option Nat}{x:Option (List Aa)}{r:EO}(h:SU p dst x=some r):∃args,x=some args/\r= .op p args dst false none:=by
 cases x with
 |none=>cases h
 |some args=>cases h;exact⟨args,rfl,rfl⟩
section
variable{C:FZ}{γ0 γ:Gh}{w0 w:World}{Z:Nat->Nat}{U:BW}{h:Ah}{a:Act}{fid:FuncId}{ops:List Oper}
def Ic(P:Program)(γ:Gh)(a:Act)(o:Oper)(w:World)(p:X1)(args:List Aa):Prop:=
 ∀u,AB p args=some u->∃v,(execOp a.eval o).run P w= .ok (.value v) w/\BU γ u v
def EZ{P:Program}{s:Sem Value}{v:Value}(hs:s.run P w= .ok v w):(do pure (Next.value (<-s)):Sem Next).run P w= .ok (.value v) w:=by simp[hs]
def kN{o:Oper}{c x y:Operand}(ho:o.op= .pick c x y)(hr:Dc C γ0 w0 γ Z U h a w){args:List Aa}(ha:BC C U [c,x,y]=some args):Ic C.P γ a o w .pick args:=by
 intro u hu;simp only[AB] at hu;split at hu;.rename_i b p q;cases hu;obtain⟨_,_,_,e,h1,h2,d⟩:=(DY hr ha).TM;simp only[Bs,Df,E4] at e;obtain⟨i,g,f,_⟩:=e;rw[<-i] at h1;rw[<-g] at h2;rw[<-f] at d;refine⟨if b then a.eval x else a.eval y,?_,by cases b<;>simpa⟩;simp[execOp,ho,RE h1,asBool]
 .cases hu
def xC{o:Oper}{op:BinOp}{t:TypeId}{x y:Operand}{p:X1}(hp:PM C.P op t=some p)(he:execOp a.eval o=(do pure (Next.value (<-(do eqGuard op t x y (a.eval x) (a.eval y);binOp op t (a.eval x) (a.eval y):Sem Value)))))
  (hr:Dc C γ0 w0 γ Z U h a w) {args:List Aa} (ha:BC C U [x,y]=some args):Ic C.P γ a o w p args:=by
 intro u hu;obtain⟨v,c,b⟩:=eK (w:=w) hp x y (DY hr ha) hu;exact⟨v,by rw[he];exact EZ c,b⟩
def GN(hr:Dc C γ0 w0 γ Z U h a w){x:Operand}{args:List Aa}(ha:BC C U [x]=some args):∃u,args=[u]/\BU γ u (a.eval x):=by
 have h1:=DY hr ha;cases args with
 |nil=>cases h1
 |cons u us=>
  obtain⟨_,_,e,h2,b⟩:=h1.L9;cases e;cases us with
  |nil=>exact⟨u,rfl,h2⟩
  |cons _ _=>obtain⟨_,_,e,_⟩:=b.L9;cases e
def Ff(hr:Dc C γ0 w0 γ Z U h a w){x y:Operand}{args:List Aa}(ha:BC C U [x,y]=some args):∃u v,args=[u,v]/\BU γ u (a.eval x)/\BU γ v (a.eval y):=by
 have h1:=DY hr ha;cases args with
 |nil=>cases h1
 |cons u us=>
  obtain⟨_,_,e,h2,b⟩:=h1.L9;cases e;cases us with
  |nil=>cases b
  |cons v vs=>
   obtain⟨_,_,e,d,c⟩:=b.L9;cases e;cases vs with
   |nil=>exact⟨u,v,rfl,h2,d⟩
   |cons _ _=>obtain⟨_,_,e,_⟩:=c.L9;cases e
def du{o:Oper}{op:UnOp}{x:Operand}(he:execOp a.eval o=(do pure (Next.value (<-Op.unary op (a.eval x)))))
  (hr:Dc C γ0 w0 γ Z U h a w) {args:List Aa} (ha:BC C U [x]=some args):Ic C.P γ a o w (.un op) args:=by
 intro u hu;obtain⟨v,rfl,h1⟩:=GN hr ha;simp only[AB] at hu;obtain⟨r,c,b⟩:=Ŷ (P:=C.P) (w:=w) h1 hu;exact⟨r,by rw[he];exact EZ c,b⟩
def kO{o:Oper}{src dst:TypeId}{k l:IntKind}{x:Operand}(hs:C.P.underlying src=some (.int l))(hd:C.P.underlying dst=some (.int k))(he:execOp a.eval o=(do pure (Next.value (<-convert src dst (a.eval x)))))
  (hr:Dc C γ0 w0 γ Z U h a w) {args:List Aa} (ha:BC C U [x]=some args):Ic C.P γ a o w (.conv k) args:=by
 intro u hu;obtain⟨v,rfl,h1⟩:=GN hr ha;simp only[AB] at hu;split at hu;.rename_i e;cases e;cases hu;rw[EA h1] at he;exact⟨_,by rw[he];exact EZ (ZW hs hd),rfl⟩
 .cases hu
def xD{o:Oper}{src dst:TypeId}{l:IntKind}{x:Operand}(hs:C.P.underlying src=some (.int l))(hd:C.P.underlying dst=some .string)(he:execOp a.eval o=(do pure (Next.value (<-convert src dst (a.eval x)))))
  (hr:Dc C γ0 w0 γ Z U h a w) {args:List Aa} (ha:BC C U [x]=some args):Ic C.P γ a o w .i2s args:=by
 intro u hu;obtain⟨v,rfl,h1⟩:=GN hr ha;simp only[AB] at hu;split at hu;.rename_i e;cases e;cases hu;rw[EA h1] at he;exact⟨_,by rw[he];exact EZ (ZX hs hd),rfl⟩
 .cases hu
def eM{o:Oper}{t:TypeId}{x:Operand}{f off:Nat}{sh:Option Nat}(hf:Iu C.P t f=some (off,sh))(he:execOp a.eval o=(do pure (Next.value (<-Instr.field t (a.eval x) f))))
  (hr:Dc C γ0 w0 γ Z U h a w) {args:List Aa} (ha:BC C U [x]=some args):Ic C.P γ a o w (.part off sh) args:=by
 intro u hu;obtain⟨v,rfl,h1⟩:=GN hr ha;simp only[AB] at hu;split at hu;.rename_i e;cases e;obtain⟨r,c,b⟩:=wZ (w:=w) hf h1 hu;exact⟨r,by rw[he];exact EZ c,b⟩
 .cases hu
def UD{o:Oper}{t:TypeId}{x:Operand}{f off:Nat}{sh:Option Nat}(hf:Iu C.P t f=some (off,sh))(he:execOp a.eval o=(do pure (Next.value (<-Instr.fieldAt t (a.eval x) f))))
  (hr:Dc C γ0 w0 γ Z U h a w) {args:List Aa} (ha:BC C U [x]=some args):Ic C.P γ a o w (.EN off) args:=by
 intro u hu;obtain⟨v,rfl,h1⟩:=GN hr ha;simp only[AB] at hu;obtain⟨r,c,b⟩:=eL (w:=w) hf h1 hu;exact⟨r,by rw[he];exact EZ c,b⟩
def xE{o:Oper}{x:Operand}{i:Nat}(he:execOp a.eval o=(do pure (Next.value (<-Instr.extract (a.eval x) i))))
  (hr:Dc C γ0 w0 γ Z U h a w) {args:List Aa} (ha:BC C U [x]=some args):Ic C.P γ a o w (.ext i) args:=by
 intro u hu;obtain⟨v,rfl,h1⟩:=GN hr ha;simp only[AB] at hu;split at hu;.rename_i e;cases e;obtain⟨r,c,b⟩:=q_ (P:=C.P) (w:=w) h1 hu;exact⟨r,by rw[he];exact EZ c,b⟩
 .cases hu
def UE{o:Oper}{t:TypeId}{x y:Operand}(ht:C.P.underlying t=some .string)(he:execOp a.eval o=(do pure (Next.value (<-Instr.index t (a.eval x) (a.eval y)))))
  (hr:Dc C γ0 w0 γ Z U h a w) {args:List Aa} (ha:BC C U [x,y]=some args):Ic C.P γ a o w .Qd args:=by
 intro u hu;obtain⟨p,q,rfl,h1,h2⟩:=Ff hr ha;simp only[AB] at hu;split at hu
 .rename_i e;cases e;split at hu
  .rename_i s k i h0;cases hb:s[i.toNat]? with
   |none=>rw[hb] at hu;cases hu
   |some b=>rw[hb] at hu;cases hu;rw[N0 h1,EA h2] at he;exact⟨_,by rw[he];exact EZ (Ye ht h0 hb),rfl⟩
  .cases hu
 .cases hu
def UF{o:Oper}{t e:TypeId}{len n:Nat}{sh:Option Nat}{x y:Operand}(ht:C.P.underlying t=some (.array len e))(hn:B6 C.P e=some n)(jM:Fs C.P e=some sh)(he:execOp a.eval o=(do pure (Next.value (<-Instr.index t (a.eval x) (a.eval y)))))
  (hr:Dc C γ0 w0 γ Z U h a w) {args:List Aa} (ha:BC C U [x,y]=some args):Ic C.P γ a o w (.ū len n sh) args:=by
 intro u hu;obtain⟨p,q,rfl,h1,h2⟩:=Ff hr ha;simp only[AB] at hu;split at hu
 .rename_i e;cases e;rename_i cs k i;cases hb:L3 i len with
  |none=>rw[hb] at hu;cases hu
  |some j=>rw[hb] at hu;simp only[Cv] at hu;rw[EA h2] at he;obtain⟨r,c,b⟩:=Yd (w:=w) (k:=k) ht hn jM h1 hb hu;exact⟨r,by rw[he];exact EZ c,b⟩
 .cases hu
def V5{o:Oper}{t e:TypeId}{n:Nat}{x y:Operand}(ht:C.P.underlying t=some (.slice e))(hn:B6 C.P e=some n)(he:execOp a.eval o=(do pure (Next.value (<-Instr.indexAt t (a.eval x) (a.eval y)))))
  (hr:Dc C γ0 w0 γ Z U h a w) {args:List Aa} (ha:BC C U [x,y]=some args):Ic C.P γ a o w (.FC n) args:=by
 intro u hu;obtain⟨p,q,rfl,h1,h2⟩:=Ff hr ha;simp only[AB] at hu;split at hu;.rename_i e;cases e;rename_i k i;rw[EA h2] at he;obtain⟨r,c,b⟩:=kK (w:=w) (k:=k) ht hn h1 hu;exact⟨r,by rw[he];exact EZ c,b⟩
 .cases hu
def Yg{o:Oper}{t e:TypeId}{len n:Nat}{x y:Operand}(ht:C.P.underlying t=some (.array len e))(hn:B6 C.P e=some n)(he:execOp a.eval o=(do pure (Next.value (<-Instr.indexAt t (a.eval x) (a.eval y)))))
  (hr:Dc C γ0 w0 γ Z U h a w) {args:List Aa} (ha:BC C U [x,y]=some args):Ic C.P γ a o w (.TG len n) args:=by
 intro u hu;obtain⟨p,q,rfl,h1,h2⟩:=Ff hr ha;simp only[AB] at hu;split at hu
 .rename_i e;cases e;rename_i k i;cases hb:L3 i len with
  |none=>rw[hb] at hu;cases hu
  |some j=>rw[hb] at hu;simp only[Cv] at hu;rw[EA h2] at he;obtain⟨r,c,b⟩:=xA (w:=w) (k:=k) ht hn h1 hb hu;exact⟨r,by rw[he];exact EZ c,b⟩
 .cases hu
def TO{o:Oper}{t:TypeId}{x:Operand}{lo hi:Option Operand}{isStr:Bool}{size:Nat}(ht:if isStr=true then C.P.underlying t=some .string else∃e,C.P.underlying t=some (.slice e)/\B6 C.P e=some size)
  (he:execOp a.eval o=(do pure (Next.value (<-Instr.sliceAt t (a.eval x) (lo.map a.eval) (hi.map a.eval) none))))
  (hr:Dc C γ0 w0 γ Z U h a w) {args:List Aa} (ha:BC C U (x::(lo.toList++hi.toList))=some args):Ic C.P γ a o w (.HO size isStr lo.isSome hi.isSome) args:=by
 intro u hu;have h1:=DY hr ha;cases args with
 |nil=>cases h1
 |cons s as=>obtain⟨_,_,e,h2,d⟩:=h1.L9;cases e;simp only[AB] at hu;obtain⟨r,c,b⟩:=rh (P:=C.P) (w:=w) (lo:=lo.map a.eval) (hi:=hi.map a.eval) ht h2 (by cases lo<;>cases hi<;>simpa using d) (by simpa using hu);exact⟨r,by rw[he];exact EZ c,b⟩
def eO{o:Oper}{t:TypeId}{parts:Array (Nat×Operand)}{z:Aa}{ps:List (Nat×Nat)}(hz:GZ C.P t=some z)(hp:J6 C.P t parts.toList=some ps)(hb:Vf C.P t=true)
  (he:execOp a.eval o=(do pure (Next.value (<-Instr.build t (parts.map λ(i,x)=>(i,a.eval x))))))
  (hr:Dc C γ0 w0 γ Z U h a w) {args:List Aa} (ha:BC C U (parts.toList.map (·.2))=some args):Ic C.P γ a o w (.BF z.cells ps) args:=by
 intro u hu;obtain⟨r,c,b⟩:=xB (w:=w) hz hp hb (DY hr ha) hu;exact⟨r,by rw[he];exact EZ c,b⟩
def ZZ{o:Oper}{x:Operand}(ho:o.op= .nilCheck x)(hr:Dc C γ0 w0 γ Z U h a w){args:List Aa}(ha:BC C U [x]=some args):Ic C.P γ a o w .L2 args:=by
 intro u hu;obtain⟨v,rfl,h1⟩:=GN hr ha;simp only[AB,dX] at hu;split at hu;.rename_i p;cases hu;obtain⟨i,k⟩:=p;obtain⟨b,hb,hv⟩:=h1;exact⟨_,by simp only[execOp,ho,hv];rfl,b,hb,rfl⟩
 .cases hu;obtain⟨b,k,hv,hm⟩:=h1;exact⟨_,by simp only[execOp,ho,hv];rfl,b,k,rfl,hm⟩
 .cases hu;obtain⟨fs,cs,hv,p,q⟩:=h1;exact⟨_,by simp only[execOp,ho,hv];rfl,fs,cs,rfl,p,q⟩
 .cases hu
def M1:∀{xs:List Operand} {us:List Aa},BC C U xs=some us->us.length=xs.length
 |[],us,h=>by cases h;rfl
 |x::xs,us,h=>by
  unfold BC at h;split at h;.rename_i u DM h1 h2;cases h;simp[M1 h2]
  .cases h
def N3{P:Program}{o:Oper}{c:Call}{b:Builtin}{s:Sem Value}(ho:o.op= .call c)(hc:c.callee= .builtin b)(hs:builtin b c.argTypes o.type (c.args.map λ| .const _=>true|_=>false) (c.args.map a.eval)=(do pure (Next.value (<-s)))){v:Value}
  (hv:s.run P w= .ok v w):(execOp a.eval o).run P w= .ok (.value v) w:=by
 have:execOp a.eval o=(do pure (Next.value (<-s))):=by rw[<-hs];simp only[execOp,ho,resolve,hc];rfl
 rw[this];exact EZ hv
def YR{o:Oper}{c:Call}{t:TypeId}{isStr:Bool}(ho:o.op= .call c)(hc:c.callee= .builtin .len)(h0:c.argTypes[0]?=some t)(ht:if isStr=true then C.P.underlying t=some .string else∃e,C.P.underlying t=some (.slice e))
  (hr:Dc C γ0 w0 γ Z U h a w) {args:List Aa} (ha:BC C U c.args.toList=some args):Ic C.P γ a o w (.len isStr) args:=by
 intro u hu;simp only[AB] at hu;split at hu
 .rename_i s;have hl:=M1 ha;obtain⟨x,hx⟩:∃x,c.args.toList=[x]:=aEq.1 hl.symm;rw[hx] at ha;obtain⟨_,e,h1⟩:=GN hr ha;cases e;obtain⟨r,d,b⟩:=qz (P:=C.P) (w:=w) (ty:=o.type) ht h0 h1 hu;have e:c.args.map a.eval=#[a.eval x]:=by apply HA;simp[hx]
  exact⟨r,N3 ho hc (s:=Builtin.len_ c.argTypes o.type #[a.eval x]) (by rw[e];rfl) d,b⟩
 .cases hu
def RF{o:Oper}{c:Call}{isMax:Bool}(ho:o.op= .call c)(hc:c.callee= .builtin (if isMax then .max else .min))(hr:Dc C γ0 w0 γ Z U h a w){args:List Aa}(ha:BC C U c.args.toList=some args):Ic C.P γ a o w (.Lq isMax) args:=by
 intro u hu;simp only[AB] at hu;split at hu
 .rename_i k p l q;split at hu
  .rename_i hk;subst hk;cases hu;have hl:=M1 ha;obtain⟨x,y,hx⟩:∃x y,c.args.toList=[x,y]:=by
    cases hq:c.args.toList with
    |nil=>rw[hq] at hl;simp at hl
    |cons x xs=>cases xs with
     |nil=>rw[hq] at hl;simp at hl
     |cons y ys=>cases ys with
      |nil=>exact⟨x,y,rfl⟩
      |cons _ _=>rw[hq] at hl;simp at hl
   rw[hx] at ha;obtain⟨_,_,e,h1,h2⟩:=Ff hr ha;cases e;have e:c.args.map a.eval=#[.int k p,.int k q]:=by apply HA;simp[hx,EA h1,EA h2]
   cases isMax with
   |true=>exact⟨_,N3 ho hc (s:=Builtin.max_ c.argTypes o.type #[.int k p,.int k q]) (by rw[e];rfl) (by simp[Builtin.max_,Builtin.max2]),rfl⟩
   |false=>exact⟨_,N3 ho hc (s:=Builtin.min_ c.argTypes o.type #[.int k p,.int k q]) (by rw[e];rfl) (by simp[Builtin.min_,Builtin.min2]),rfl⟩
  .cases hu
 .cases hu
end
end Go.Am
end
section
namespace Go.Am
open Go
section
variable{C:FZ}{γ0 γ:Gh}{w0 w:World}{Z:Nat->Nat}{U:BW}{h:Ah}{a:Act}{fid:FuncId}{ops:List Oper}
def MJ{x:Operand}{d:Nat}{take:Bool}{r:EO}(h:KC C U x d take=some r):∃ws,r= .pure ws:=by
 unfold KC at h;split at h;.cases h;exact⟨_,rfl⟩
 .cases h;exact⟨_,rfl⟩
 .split at h;.cases h;exact⟨_,rfl⟩
  .cases hc:Iv _ with
   |none=>rw[hc] at h;cases h
   |some s=>rw[hc] at h;cases h;exact⟨_,rfl⟩
 .cases hc:Iv _ with
  |none=>rw[hc] at h;cases h
  |some s=>rw[hc] at h;cases h;exact⟨_,rfl⟩
 .cases h
def YS{t:TypeId}{v:Aa}{d:Nat}{p:X1}{args:List Aa}{dst:Option Nat}{Bw:Bool}{b:Option (Nat×Aa)}:TJ C fid t v d≠some (.op p args dst Bw b):=by
 unfold TJ;intro h;split at h;.cases h
 .split at h;.cases h
  .split at h<;>cases h
def kP{t:TypeId}{x:Operand}{d:Nat}{take:Bool}{p:X1}{args:List Aa}{dst:Option Nat}{Bw:Bool}{b:Option (Nat×Aa)}:Lt C U t x d take≠some (.op p args dst Bw b):=by
 unfold Lt;intro h;split at h;.cases h
 .split at h;.simp only at h;split at h<;>cases h
  .cases h
 .split at h<;>cases h
 .cases h
def eP{t:TypeId}{x y:Operand}{p:X1}{args:List Aa}{dst:Option Nat}{Bw:Bool}{b:Option (Nat×Aa)}:Jw C U t x y≠some (.op p args dst Bw b):=by
 unfold Jw;intro h;split at h;.cases h
 .split at h<;>cases h
 .cases h
def xF{o:Oper}{p:X1}{args:List Aa}{dst:Option Nat}{Bw:Bool}{j:Option (Nat×Aa)}(hc:Gl C fid ops U o=some (.op p args dst Bw j))(HT:p.still=true)(hr:Dc C γ0 w0 γ Z U h a w):
  Ic C.P γ a o w p args/\dst=o.dst/\Bw=false/\j=none:=by
 unfold Gl at hc
 split at hc
 .split at hc
  .obtain⟨ws,e⟩:=MJ hc;cases e
  .cases hc
 .split at hc
  .obtain⟨ws,e⟩:=MJ hc;cases e
  .cases hc
 .rename_i c x y ho
  split at hc
  .obtain⟨ws,e⟩:=MJ hc;cases e
  .obtain⟨ws,e⟩:=MJ hc;cases e
  .obtain⟨as,g,b⟩:=DZ hc
   cases b
   exact⟨kN ho hr g,rfl,rfl,rfl⟩
 .split at hc
  .split at hc
   .split at hc<;>cases hc
   .exact absurd hc YS
  .cases hc
 .split at hc
  .exact absurd hc YS
  .cases hc
 .rename_i t parts ho
  split at hc
  .rename_i z ps hz hp
   split at hc
   .rename_i hb
    obtain⟨as,g,b⟩:=DZ hc
    cases b
    exact⟨eO hz hp hb (by simp[execOp,ho]) hr g,rfl,rfl,rfl⟩
   .cases hc
  .cases hc
 .split at hc
  .split at hc
   .split at hc
    .split at hc
     .cases hc;cases HT
     .cases hq:BC C U _ with
      |none=>rw[hq] at hc;cases hc
      |some q=>rw[hq] at hc;cases hc;cases HT
    .cases hc
   .cases hc
  .cases hc
 .split at hc
  .exact absurd hc kP
  .cases hc
 .split at hc
  .exact absurd hc eP
  .cases hc
 .rename_i x ho
  split at hc
  .cases hc
  .cases hc
  .obtain⟨as,g,b⟩:=DZ hc
   cases b
   exact⟨ZZ ho hr g,rfl,rfl,rfl⟩
 .rename_i op t x y k ho
  split at hc
  .rename_i q hq
   obtain⟨as,g,b⟩:=DZ hc
   cases b
   exact⟨xC hq (by simp[execOp,ho]) hr g,rfl,rfl,rfl⟩
  .cases hc
 .rename_i op t x ho
  obtain⟨as,g,b⟩:=DZ hc
  cases b
  exact⟨du (by simp[execOp,ho]) hr g,rfl,rfl,rfl⟩
 .rename_i src aL9 x ho
  split at hc
  .cases hq:E6 C U x with
   |none=>rw[hq] at hc;cases hc
   |some q=>rw[hq] at hc;cases hc
  .split at hc
   .cases hq:E6 C U x with
    |none=>rw[hq] at hc;cases hc
    |some q=>rw[hq] at hc;cases hc
   .obtain⟨as,g,b⟩:=DZ hc
    cases b;cases HT
  .rename_i q M2 SO hq
   obtain⟨as,g,b⟩:=DZ hc
   cases b
   refine⟨?_,rfl,rfl,rfl⟩
   unfold VQ at hq
   split at hq
   .rename_i hs hd
    cases hq
    exact kO hs hd (by simp[execOp,ho]) hr g
   .rename_i hs hd
    cases hq
    exact xD hs hd (by simp[execOp,ho]) hr g
   .cases hq
   .split at hq
    .cases hq;cases HT
    .cases hq
   .split at hq
    .cases hq;cases HT
    .cases hq
   .cases hq
  .cases hc
 .split at hc
  .cases hc
  .cases hc
 .cases hc
 .split at hc
  .split at hc<;>cases hc
  .cases hc
 .split at hc
  .split at hc<;>cases hc
  .cases hc
 .split at hc
  .split at hc<;>cases hc
  .cases hc
 .split at hc
  .split at hc<;>cases hc
  .cases hc
 .split at hc
  .split at hc
   .exact absurd hc K8
   .cases hc
  .cases hc
 .split at hc
  .cases hc
  .exact absurd hc K8
  .cases hc
 .split at hc
  .split at hc<;>first|exact absurd hc K8|cases hc
  .cases hc
 .split at hc
  .exact absurd hc K8
  .cases hc
 .rename_i t x lo hi ho
  split at hc
  .rename_i ht
   obtain⟨as,g,b⟩:=DZ hc
   cases b
   exact⟨TO (isStr:=true) ht (by simp[execOp,ho]) hr g,rfl,rfl,rfl⟩
  .rename_i e ht
   split at hc
   .rename_i n hn
    split at hc
    .exact absurd hc K8
    .obtain⟨as,g,b⟩:=DZ hc
     cases b
     exact⟨TO (isStr:=false) ⟨e,ht,hn⟩ (by simp[execOp,ho]) hr g,rfl,rfl,rfl⟩
   .cases hc
  .cases hc
 .rename_i t x f ho
  split at hc
  .rename_i off sh d hf hd
   split at hc
   .cases hc
   .cases hc
   .obtain⟨as,g,b⟩:=DZ hc
    cases b
    exact⟨UD hf (by simp[execOp,ho]) hr g,hd.symm,rfl,rfl⟩
  .cases hc
 .rename_i t x f ho
  split at hc
  .rename_i off sh hf
   obtain⟨as,g,b⟩:=DZ hc
   cases b
   exact⟨eM hf (by simp[execOp,ho]) hr g,rfl,rfl,rfl⟩
  .cases hc
 .rename_i t x i ho
  split at hc
  .rename_i e ht
   split at hc
   .rename_i n hn
    obtain⟨as,g,b⟩:=DZ hc
    cases b
    exact⟨V5 ht hn (by simp[execOp,ho]) hr g,rfl,rfl,rfl⟩
   .cases hc
  .rename_i len e ht
   split at hc
   .rename_i n hn
    split at hc
    .cases hc
    .obtain⟨as,g,b⟩:=DZ hc
     cases b
     exact⟨Yg ht hn (by simp[execOp,ho]) hr g,rfl,rfl,rfl⟩
   .cases hc
  .cases hc
 .rename_i t x i ho
  split at hc
  .rename_i ht
   obtain⟨as,g,b⟩:=DZ hc
   cases b
   exact⟨UE ht (by simp[execOp,ho]) hr g,rfl,rfl,rfl⟩
  .rename_i len e ht
   split at hc
   .rename_i n sh hn jM
    obtain⟨as,g,b⟩:=DZ hc
    cases b
    exact⟨UF ht hn jM (by simp[execOp,ho]) hr g,rfl,rfl,rfl⟩
   .cases hc
  .cases hc
 .rename_i x i ho
  obtain⟨as,g,b⟩:=DZ hc
  cases b
  exact⟨xE (by simp[execOp,ho]) hr g,rfl,rfl,rfl⟩
 .rename_i c ho
  unfold QM at hc
  split at hc
  .rename_i hcl
   split at hc
   .rename_i t h0
    split at hc
    .rename_i ht
     obtain⟨as,g,b⟩:=DZ hc
     cases b
     exact⟨YR (isStr:=true) ho hcl h0 ht hr g,rfl,rfl,rfl⟩
    .rename_i e ht
     obtain⟨as,g,b⟩:=DZ hc
     cases b
     exact⟨YR (isStr:=false) ho hcl h0 ⟨e,ht⟩ hr g,rfl,rfl,rfl⟩
    .cases hc
   .cases hc
  .split at hc
   .split at hc
    all_goals first
     |(cases hc;done)
     | (split at hc
        . split at hc
          . split at hc
            . split at hc
              . split at hc
                . cases hc
                . split at hc
                  . cases hc
                  . cases hc; cases HT
              . split at hc <;> cases hc
            . cases hc
          . cases hc
        . cases hc)
   .cases hc
  .split at hc
   .split at hc
    all_goals first
     |(cases hc;done)
     | (split at hc
        . exact absurd hc K8
        . cases hc)
   .cases hc
  .split at hc
   .split at hc
    .split at hc
     .exact absurd hc K8
     .cases hc
    .cases hc
   .cases hc
  .rename_i hcl
   split at hc
   .obtain⟨as,g,b⟩:=DZ hc
    cases b
    exact⟨RF (isMax:=true) ho hcl hr g,rfl,rfl,rfl⟩
   .cases hc
  .rename_i hcl
   split at hc
   .obtain⟨as,g,b⟩:=DZ hc
    cases b
    exact⟨RF (isMax:=false) ho hcl hr g,rfl,rfl,rfl⟩
   .cases hc
  .split at hc
   .split at hc
    .split at hc
     .exact absurd hc K8
     .cases hc
    .cases hc
   split at hc
   .cases hq:BC C U c.args.toList with
    |none=>rw[hq] at hc;cases hc
    |some q=>
     rw[hq] at hc
     simp only[Cc,BE] at hc
     split at hc<;>cases hc
   .cases hc
  .split at hc<;>cases hc
  .cases hc
 .cases hc
end
end Go.Am
end
